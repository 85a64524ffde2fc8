import PyProof.Rows.All
import Wide.All
import OpenK.AllK
import Wide.FinOn
import KE.KItemsList
import PyProof.DictIter
import PyProof.CollectWalk
import KE.KSortKey
import KE.KLam
import KE.KNestM
import PyProof.GenQ
import KE.KRevIter
import KE.KPar
import PySem.Challenge.RW_ta0137_01
set_option maxRecDepth 100000
set_option Elab.async false
set_option linter.all false
set_option genSizeOf false
set_option genInjectivity false
set_option tactic.hygienic false
set_option maxHeartbeats 8000000
open PySem.Builtin.Range renaming rangeFitsLong→S0,rangeSize→S9
open List renaming getElem?_append_right→S1,nodup_iff_pairwise_ne→S2,getElem?_eq_some_iff→S3,getElem?_append_left→S4,pairwise_iff_getElem→S6,getElem?_eq_getElem→S7,getElem?_cons_succ→Td,getElem?_set_self→Ti,mem_append_right→Tl,mem_of_getElem?→Tq,getElem?_of_mem→Ts,mem_append_left→Tu,getElem?_set_ne→Tw,mem_map_of_mem→TC,mem_singleton→TF,length_append→TJ,getElem?_map→TN,size_toArray→TO,append_assoc→TQ,all_eq_true→TY,isEmpty_iff→T4,lookup_cons→T6,mem_reverse→T7,mem_append→Ue,nodup_cons→Uf,mem_filter→Ug,append_nil→Uh,forIn_cons→Uj,length_map→Uk,nodup_nil→Uw,mem_cons→Uz,map_cons→UB,any_cons→UI,casesOn→UO,mem_map→UW,rec→Vq
open PySem.F renaming plain_extend_loop→S5,slot_dict_get→To
open PyProof.Rows renaming assign_Name→S8,lookup_of_mem_nodup→TB
open PySem renaming wpAny_callSpecial?_slot→Ta,builtinLookup_eq_fast→Tn,wpAny_storeName_local→Tp,wpAny_loadName_local→Tv,wpAny_Constant_int→TK,wpAny_newObj_type→TP,wpAny_setState_of→TR,getMethod_builtin→TT,wpAny_truthy_bool→TX,wpAny_items_cons→T0,wpAny_askSetting→T5,wpAny_isInstance→T8,wpAny_call_entry→T9,wpAny_execs_cons→Uc,wpAny_items_nil→Ui,typeLookup_type→Ul,codeAny_builtin→Um,wpAny_updateSeq→Un,wpAny_execs_nil→Uo,isSubtype_type→Us,firstArgMember→Ut,wpAny_holding→Uy,wpAny_standAt→UA,swappedStores→UC,swapsWithSole→UE,wpAny_attempt→UG,strKind→UH,wpAny_typeOf→UU,wpAny_of_eq→UZ,mainGlobals→U1,wpAny_field→U3,wpAny_BinOp→U5,wpAny_bind→U7,wpAny_pure→U8,assignEach→Va,wpAny_mono→Vc,wpAny_rule→Vf,strKind_is→Vh,wpAny_call→Vi,Arguments→Vj,DictEntry→Vk,treeTable→Vl,cellsFrom→Vm,assignAll→Vn,slicePick→Vo,compareOp→Vp,NameKind→Vr,Operator→Vs,starEach→Vu,GenState→Vw
open Nat renaming add_sub_cancel_left→Tc,ne_of_beq_eq_false→Th,eq_of_beq_eq_true→Tj,le_of_ble_eq_true→Tk,add_le_add_left→TD,lt_of_lt_of_le→TH,lt_of_le_of_lt→TI,sub_add_cancel→TM,lt_succ_of_lt→TS,le_succ_of_le→TW,lt_succ_self→TZ,le_add_right→T2,succ_le_succ→Ua,le_antisymm→Up,le_trans→UJ,ne_of_lt→UL,le_of_lt→UP,lt_trans→UQ,ne_of_gt→UR,le_refl→UY,zero_le→U0,le_succ→U6,not_lt→Vd,blt_eq→Vg
open PySem.Builtin.Str renaming occurrences→Te,strKind→TE
open PySem.Heap renaming get?_push_of_some→Tf,get?_update_self→Tm,get?_none_of_le→Ty,get?_push_size→Tz,size_push→Ux,SameBut→UM,lt_size→UN
open Bool renaming and_eq_true_iff→Tr,false_ne_true→TL,and_eq_true→Ub,rec→Vt
open PySem.Around renaming under_plainId→Tx
open PySem.Heap.SameBut renaming update→TA
open Int renaming natCast_nonneg→TG,ofNat_lt→US,le_trans→UT,ofNat_le→UX,casesOn→U2
open PySem.Sem renaming bind_eq_wrap'→TU
open PySem.PyData renaming canLayAll0→TV,keyHash→Ur,eqv→Ve
open PySem.W renaming behindTheImports→T3,callWith_of→U4,listOf→Vv,piecesOf→Vx,dictOf→Vy
open Option.some renaming inj→Ud
open PySem.Builtin renaming bitNot→Uq
open PySem.Calls renaming evalArgs_plain→Uu
open PySem.SetTable renaming below→Uv
open PySem.Value renaming isStrOf→UD
open PySem.W.Looks renaming of_pure→UF
open PySem.Str renaming ofString→UK
open PySem.SeqAt renaming shaped→UV
open Option renaming rec→U9
open PySem.Obj renaming mapSeq→Vb
namespace Mine
open PySem PySem.W PyProof.Rows PySem.Calls
noncomputable section
section
abbrev T:=List Nat
theorem nn{α:Type}{a:α}{P:Prop}(h:none=some a):P:=nomatch h
theorem ff{P:Prop}(h:false=true):P:=nomatch h
abbrev Fa{a0:Sort _}:a0→Bool:=λ_=>false
abbrev Fb{a0 a1:Sort _}:a0→a1→Bool:=λ_ _=>false
abbrev Fc{a0 a1 a2:Sort _}:a0→a1→a2→Bool:=λ_ _ _=>false
abbrev Fd{a0 a1 a2 a3:Sort _}:a0→a1→a2→a3→Bool:=λ_ _ _ _=>false
abbrev Fe{a0 a1 a2 a3 a4:Sort _}:a0→a1→a2→a3→a4→Bool:=λ_ _ _ _ _=>false
abbrev Fh{a0 a1 a2 a3 a4 a5 a6 a7:Sort _}:a0→a1→a2→a3→a4→a5→a6→a7→Bool:=λ_ _ _ _ _ _ _ _=>false
abbrev Za{a0:Sort _}{b:Type _}:a0→Option b:=λ_=>none
abbrev Zb{a0 a1:Sort _}{b:Type _}:a0→a1→Option b:=λ_ _=>none
abbrev Zc{a0 a1 a2:Sort _}{b:Type _}:a0→a1→a2→Option b:=λ_ _ _=>none
abbrev Zd{a0 a1 a2 a3:Sort _}{b:Type _}:a0→a1→a2→a3→Option b:=λ_ _ _ _=>none
abbrev Ze{a0 a1 a2 a3 a4:Sort _}{b:Type _}:a0→a1→a2→a3→a4→Option b:=λ_ _ _ _ _=>none
abbrev Zf{a0 a1 a2 a3 a4 a5:Sort _}{b:Type _}:a0→a1→a2→a3→a4→a5→Option b:=λ_ _ _ _ _ _=>none
abbrev Zg{a0 a1 a2 a3 a4 a5 a6:Sort _}{b:Type _}:a0→a1→a2→a3→a4→a5→a6→Option b:=λ_ _ _ _ _ _ _=>none
abbrev Zh{a0 a1 a2 a3 a4 a5 a6 a7:Sort _}{b:Type _}:a0→a1→a2→a3→a4→a5→a6→a7→Option b:=λ_ _ _ _ _ _ _ _=>none
abbrev Zi{a0 a1 a2 a3 a4 a5 a6 a7 a8:Sort _}{b:Type _}:a0→a1→a2→a3→a4→a5→a6→a7→a8→Option b:=λ_ _ _ _ _ _ _ _ _=>none
abbrev Zj{a0 a1 a2 a3 a4 a5 a6 a7 a8 a9:Sort _}{b:Type _}:a0→a1→a2→a3→a4→a5→a6→a7→a8→a9→Option b:=λ_ _ _ _ _ _ _ _ _ _=>none
abbrev Zk{a0 a1 a2 a3 a4 a5 a6 a7 a8 a9 a10:Sort _}{b:Type _}:a0→a1→a2→a3→a4→a5→a6→a7→a8→a9→a10→Option b:=λ_ _ _ _ _ _ _ _ _ _ _=>none
abbrev Zm{a0 a1 a2 a3 a4 a5 a6 a7 a8 a9 a10 a11 a12:Sort _}{b:Type _}:a0→a1→a2→a3→a4→a5→a6→a7→a8→a9→a10→a11→a12→Option b:=λ_ _ _ _ _ _ _ _ _ _ _ _ _=>none
abbrev Ya{a0:Sort _}:a0→Bool:=λ_=>true
abbrev Yb{a0 a1:Sort _}:a0→a1→Bool:=λ_ _=>true
abbrev Yc{a0 a1 a2:Sort _}:a0→a1→a2→Bool:=λ_ _ _=>true
abbrev Yd{a0 a1 a2 a3:Sort _}:a0→a1→a2→a3→Bool:=λ_ _ _ _=>true
inductive V where
 |none|bool (b:Bool)|int (i:Int)|str (s:T)|top (a:Nat)|prim (n:Nat)|loc (k:Nat)|m32 (r:Nat)|sh (r p:Nat)
inductive O where
 |list (xs:List V)|tup (xs:List V)|inst (c d:Nat)|sd (es:List (T×V))|cell (v:Option V)|set (xs:List T)|bm (k:Nat)|meth (k f:Nat)|rng (a b:Int)|kd (es:List (T×V))|dead|ltab|one (s:T)
inductive Slot where
 |lv (i:Nat)|cv (j:Nat)|gv (v:V)|kv
inductive Fl where
 |next|brk|cont|ret (v:V)
abbrev Nm:=List (T×Slot)
abbrev H:=List O
abbrev Lo:=List (Option V)
structure Frm where
 nm:Nm
 ce:List Nat
 q:Nat
 cd:Nat
set_option genCtorIdx false in
inductive E where
 |nil|cons (e r:E)|no
 |cst (c:Const) (k:Nat) (p:Pos)
 |nm (x:Str) (p:Pos)
 |bin (l:E) (op:Vs) (r:E) (p:Pos)
 |neg (x:E) (p:Pos)|not (x:E) (p:Pos)
 |ite (c a b:E) (p:Pos)
 |list (es:E) (p:Pos)|tup (es:E) (k:Nat) (p:Pos)
 |dict0 (p:Pos)
 |set1 (e:E) (y:Str) (py ps:Pos) (k:Nat) (p:Pos)
 |cmp (l:E) (ops:List CmpOp) (cs:E) (p:Pos)
 |bop (and_:Bool) (es:E) (p:Pos)
 |call (x:Str) (px:Pos) (args:E) (p:Pos)
 |meth (o:E) (x:Str) (pa:Pos) (args:E) (p:Pos)
 |sort (x:Str) (px:Pos) (y:Str) (py:Pos) (key z cs m:Str) (k1 k2:Nat) (pz pn po pc1 pc2 pb lp kp p:Pos)
 |items (x:Str) (px:Pos) (d:Str) (pd:Pos) (m:Str) (pm pc p:Pos)
 |attr (o:E) (x:Str) (p:Pos)
 |sub (o i:E) (p:Pos)
 |slc (o lo hi:E) (ps p:Pos)
 |lcomp (elt:E) (x:Str) (px:Pos) (it ifs:E) (sc:Scope) (p:Pos)
 |dcomp (k v:E) (x:Str) (px:Pos) (it ifs:E) (sc:Scope) (p:Pos)
 |fstr (ps:E) (p:Pos)
 |fmt (e:E) (c:Int) (p:Pos)
 |raw (e:Expr)
set_option genCtorIdx false in
inductive S where
 |nil|cons (s r:S)
 |expr (e:E) (p:Pos)|brk (p:Pos)|ret0 (p:Pos)|ret (e:E) (p:Pos)
 |asg (ts e:E) (p:Pos)|swp (x:Str) (px:Pos) (y:Str) (py:Pos) (tk:Nat) (tp:Pos) (a b:E) (vk:Nat) (vp p:Pos)|aug (x:Str) (px:Pos) (op:Vs) (e:E) (p:Pos)
 |if_ (c:E) (a b:S) (p:Pos)|while_ (c:E) (b:S) (p:Pos)|for_ (t it:E) (b o:S) (p:Pos)
 |gfor (t:E) (s:Str) (ps:Pos) (m:Str) (pm:Pos) (s':Str) (ps':Pos) (a:Str) (pa pc:Pos) (b:S) (p:Pos)
 |del (o:E) (ps p1 p:Pos)|try_ (b:S) (hs:List ExceptHandler) (p:Pos)|esc (x c m r:Str) (k1 k2 k3:Nat) (px pc pp pt po pa pr ps pw pq p:Pos)|raw (s:Stmt)
noncomputable def den:E→Expr×List Expr
 | .nil=>(default,[])
 | .cons e r=>(default,(den e).1::(den r).2)
 | .no=>(default,[])
 | .cst c k p=>(.Constant c k p,[])
 | .nm x p=>(.Name x p,[])
 | .bin l op r p=>(.BinOp (den l).1 op (den r).1 p,[])
 | .neg x p=>(.UnaryOp .USub (den x).1 p,[])
 | .not x p=>(.UnaryOp .Not (den x).1 p,[])
 | .ite c a b p=>(.IfExp (den c).1 (den a).1 (den b).1 p,[])
 | .list es p=>(.List (den es).2 p,[])
 | .tup es k p=>(.Tuple (den es).2 k p,[])
 | .dict0 p=>(.Dict [] [] p,[])
 | .set1 e y py ps k p=>(.Set [(den e).1,.Starred (.Name y py) ps] k p,[])
 | .cmp l ops cs p=>(.Compare (den l).1 ops (den cs).2 p,[])
 | .bop a es p=>(.BoolOp (match a with|true=> .And|false=> .Or) (den es).2 p,[])
 | .call x px args p=>(.Call (.Name x px) (den args).2 [] p,[])
 | .meth o x pa args p=>(.Call (.Attribute (den o).1 x pa) (den args).2 [] p,[])
 | .sort x px y py key z cs m k1 k2 pz pn po pc1 pc2 pb lp kp p=>(.Call (.Name x px) [.Name y py] [⟨some key,.Lambda ⟨[],[⟨z,none,pz⟩],none,[],[],none,[]⟩ (.Call (.Attribute (.Name z pn) m po) [.Constant (.str cs) k1 pc1,.Constant (.int 1) k2 pc2] [] pb) ⟨.function,[(z,.local)],false,false,[]⟩ lp,kp⟩] p,[])
 | .items x px d pd m pm pc p=>(.Call (.Name x px) [.Call (.Attribute (.Name d pd) m pm) [] [] pc] [] p,[])
 | .attr o x p=>(.Attribute (den o).1 x p,[])
 | .sub o i p=>(.Subscript (den o).1 (den i).1 p,[])
 | .slc o lo hi ps p=>(.Subscript (den o).1 (.Slice (match lo with| .no=>none|_=>some (den lo).1) (match hi with| .no=>none|_=>some (den hi).1) none ps) p,[])
 | .lcomp elt x px it ifs sc p=>(.ListComp (den elt).1 [⟨.Name x px,(den it).1,(den ifs).2,0⟩] sc p,[])
 | .dcomp k v x px it ifs sc p=>(.DictComp (den k).1 (den v).1 [⟨.Name x px,(den it).1,(den ifs).2,0⟩] sc p,[])
 | .fstr ps p=>(.JoinedStr (den ps).2 p,[])
 | .fmt e c p=>(.FormattedValue (den e).1 c none p,[])
 | .raw e=>(e,[])
abbrev dE(e:E):Expr:=(den e).1
abbrev dL(e:E):List Expr:=(den e).2
def dS:S→Stmt×List Stmt
 | .nil=>(default,[])
 | .cons s r=>(default,(dS s).1::(dS r).2)
 | .expr e p=>(.Expr (dE e) p,[])
 | .brk p=>(.Break p,[])
 | .ret0 p=>(.Return none p,[])
 | .ret e p=>(.Return (some (dE e)) p,[])
 | .asg ts e p=>(.Assign (dL ts) (dE e) p,[])
 | .swp x px y py tk tp a b vk vp p=>(.Assign [.Tuple [.Name x px,.Name y py] tk tp] (.Tuple [dE a,dE b] vk vp) p,[])
 | .aug x px op e p=>(.AugAssign (.Name x px) op (dE e) p,[])
 | .if_ c a b p=>(.If (dE c) (dS a).2 (dS b).2 p,[])
 | .while_ c b p=>(.While (dE c) (dS b).2 [] p,[])
 | .for_ t it b o p=>(.For (dE t) (dE it) (dS b).2 (dS o).2 p,[])
 | .gfor t s ps m pm s' ps' a pa pc b p=>(.For (dE t) (.Call (.Attribute (.Name s ps) m pm) [.Attribute (.Name s' ps') a pa] [] pc) (dS b).2 [] p,[])
 | .del o ps p1 p=>(.Delete [.Subscript (dE o) (.Slice none none none ps) p1] p,[])
 | .try_ b hs p=>(.Try (dS b).2 hs [] [] p,[])
 | .esc x c m r k1 k2 k3 px pc pp pt po pa pr ps pw pq p=>(.If (.Compare (.Constant (.str c) k1 pc) [.In] [.Name x px] pp) [.Assign [.Name x pt] (.Call (.Attribute (.Name x po) m pa) [.Constant (.str c) k2 pr,.Constant (.str r) k3 ps] [] pw) pq] [] p,[])
 | .raw s=>(s,[])
abbrev dB(s:S):List Stmt:=(dS s).2
structure FD where
 addr:Nat
 params:List T
 npos:Nat
 dfl:List (T×V)
 body:S
 nm:Nm
 nl:Nat
 nc:Nat
 gen:Bool
 cd:Nat
structure G where
 lamCd:Nat
 itemsA:Nat
 genA:Nat
 funs:List (Nat×FD)
 dicts:List (Nat×List (V×V))
 cls:List (Nat×List (T×V))
 ia:List (Nat×List T)
 joinA:Nat
 gl:List (T×V)
 lamQ:T
 lamL:Nat
 lamC:Nat
section
variable{α β:Type}
@[reducible] noncomputable def ob (x:Option α) (f:α→Option β):Option β:= @U9 α (λZ=>Option β) none (λa=>f a) x
theorem eR{x:Option α}{f:α→Option β}{b:β}:ob x f=some b↔ ∃a,x=some a∧f a=some b:=by
 cases x with
 |none=>exact⟨λh=>(nomatch h),λ⟨_,h,_⟩=>(nomatch h)⟩
 |some a=>exact⟨λh=>⟨a,rfl,h⟩,λ⟨_,h,q⟩=>by cases h;exact q⟩
noncomputable def bc(c:Bool)(x y:α):α:= @Vt (λZ=>α) y x c
theorem bF(x y:α):bc true x y=x:=rfl
theorem bL(x y:α):bc false x y=y:=rfl
noncomputable def gd(c:Bool)(x:Option α):Option α:= @Vt (λZ=>Option α) none x c
theorem en{c:Bool}{x:Option α}{b:α}:gd c x=some b↔c=true∧x=some b:=by
 cases c with
 |true=>exact⟨λh=>⟨rfl,h⟩,λh=>h.2⟩
 |false=>exact⟨λh=>(nomatch h),λh=>(nomatch h.1)⟩
noncomputable def nth(l:List α):Nat→Option α:= @Vq α (λZ=>Nat→Option α) Za (λa Z ih n=> @Nat.rec (λZ=>Option α) (some a) (λm Z=>ih m) n) l
theorem ap: ∀(l:List α) (n:Nat),nth l n=l[n]?
 |[],_=>rfl
 |a::l,0=>rfl
 |a::l,n+1=>by show nth l n=_;rw[ap l n];rfl
noncomputable def cG(v:α)(l:List α):Nat→List α:= @Vq α (λZ=>Nat→List α) (λZ=>[]) (λa r ih n=> @Nat.rec (λZ=>List α) (v::r) (λm Z=>a::ih m) n) l
theorem aU(v:α): ∀(l:List α) (n:Nat),cG v l n=l.set n v
 |[],_=>rfl
 |a::l,0=>rfl
 |a::l,n+1=>by show a::cG v l n=_;rw[aU v l n];rfl
noncomputable def app(x y:List α):List α:= @Vq α (λZ=>List α) y (λa Z ih=>a::ih) x
theorem ay: ∀(x y:List α),app x y=x++y
 |[],_=>rfl
 |a::x,y=>by show a::app x y=_;rw[ay x y];rfl
noncomputable def len(x:List α):Nat:= @Vq α (λZ=>Nat) 0 (λZ Z n=>Nat.succ n) x
theorem aO: ∀(x:List α),len x=x.length
 |[]=>rfl
 |a::x=>by show Nat.succ (len x)=_;rw[aO x];rfl
noncomputable def mp(f:α→β)(x:List α):List β:= @Vq α (λZ=>List β) [] (λa Z ih=>f a::ih) x
theorem qm(f:α→β): ∀(x:List α),mp f x=x.map f
 |[]=>rfl
 |a::x=>by show f a::mp f x=_;rw[qm f x];rfl
def cD(n:Nat)(t:List α):List α:= @Nat.rec (λZ=>List α) [] (λZ r=>app t r) n
noncomputable def atN(a:Nat)(l:List (Nat×α)):Option α:= @Vq (Nat×α) (λZ=>Option α) none (λp Z ih=> @Vt (λZ=>Option α) ih (some p.2) (Nat.beq a p.1)) l
theorem dm{a:Nat}: ∀{l:List (Nat×α)} {d:α},atN a l=some d→(a,d)∈l
 |[],_,h=>nomatch h
 |(b,e)::l,d,h=>by
  have h': @Vt (λZ=>Option α) (atN a l) (some e) (Nat.beq a b)=some d:=h
  cases q:Nat.beq a b with
  |true=>rw[q]at h';cases h';rw[Tj q];exact .head _
  |false=>rw[q]at h';exact .tail _ (dm h')
end
noncomputable def tEq(x:T):T→Bool:= @Vq Nat (λZ=>T→Bool) (λy=> @Vq Nat (λZ=>Bool) true Fc y)
 (λa Z ih y=> @Vq Nat (λZ=>Bool) false (λb t Z=> @Vt (λZ=>Bool) false (ih t) (Nat.beq a b)) y) x
theorem au: ∀{x y:T},tEq x y=true↔x=y
 |[],[]=>⟨λZ=>rfl,λZ=>rfl⟩
 |[],_::_=>⟨λh=>(nomatch h),λh=>(nomatch h)⟩
 |_::_,[]=>⟨λh=>(nomatch h),λh=>(nomatch h)⟩
 |a::x,b::y=>by
  show @Vt (λZ=>Bool) false (tEq x y) (Nat.beq a b)=true↔_
  cases q:Nat.beq a b with
  |true=>
   have:=Tj q;subst this
   show tEq x y=true↔_
   rw[au,List.cons.injEq];exact⟨λh=>⟨rfl,h⟩,λh=>h.2⟩
  |false=>exact⟨λh=>(nomatch h),λh=>absurd (List.cons.inj h).1 (Th q)⟩
theorem cK{x y:T}(h:tEq x y=false):x≠y:=λe=>by rw[au.mpr e]at h;cases h
def look{α:Type}(x:T)(l:List (T×α)):Option α:= @Vq (T×α) (λZ=>Option α) none (λp Z ih=> @Vt (λZ=>Option α) ih (some p.2) (tEq x p.1)) l
theorem aK{α:Type}(x y:T)(s:α)(l:List (T×α)):look x ((y,s)::l)=if x=y then some s else look x l:=by
 show @Vt (λZ=>Option α) (look x l) (some s) (tEq x y)=_
 cases q:tEq x y with
 |true=>rw[if_pos (au.mp q)]
 |false=>rw[if_neg (cK q)]
set_option tactic.hygienic true in
theorem c8{α:Type}{x:T}: ∀{l:List (T×α)} {s:α},look x l=some s→(x,s)∈l
 |[],_,h=>nomatch h
 |(y,e)::l,s,h=>by
  rw[aK]at h
  split at h
  · rename_i q;cases h;subst q;exact .head _
  · exact .tail _ (c8 h)
def put(x:T)(v:V)(l:List (T×V)):List (T×V):= @Vq (T×V) (λZ=>List (T×V)) [(x,v)] (λp r ih=> @Vt (λZ=>List (T×V)) (p::ih) ((p.1,v)::r) (tEq x p.1)) l
theorem ki(x y:T)(v s:V)(l:List (T×V)):put x v ((y,s)::l)=if x=y then(y,v)::l else(y,s)::put x v l:=by
 show @Vt (λZ=>List (T×V)) ((y,s)::put x v l) ((y,v)::l) (tEq x y)=_
 cases q:tEq x y with
 |true=>rw[if_pos (au.mp q)]
 |false=>rw[if_neg (cK q)]
@[reducible] noncomputable def sT (s:Str):T:=s.cps.toList
noncomputable def aH(v:V):Option Nat:= @V.casesOn (λZ=>Option Nat) v none Za Za Za Za Za (λk=>some k) Za Zb
theorem aj{v:V}{k:Nat}(h:aH v=some k):v= .loc k:=by cases v<;>first|exact nn h|(cases h;rfl)
noncomputable def ax(v:V):Option Int:= @V.casesOn (λZ=>Option Int) v none Za (λi=>some i) Za Za Za Za Za Zb
theorem aq{v:V}{k:Int}(h:ax v=some k):v= .int k:=by cases v<;>first|exact nn h|(cases h;rfl)
noncomputable def aT(v:V):Option T:= @V.casesOn (λZ=>Option T) v none Za Za (λs=>some s) Za Za Za Za Zb
theorem ar{v:V}{k:T}(h:aT v=some k):v= .str k:=by cases v<;>first|exact nn h|(cases h;rfl)
noncomputable def kj(i:Int):Option Nat:= @U2 (λZ=>Option Nat) i (λn=>some n) Za
theorem c9{i:Int}{n:Nat}(h:kj i=some n):i= .ofNat n:=by cases i<;>first|exact nn h|(cases h;rfl)
def eF(v:V):Option Nat:=ob (ax v) kj
theorem bS{v:V}{n:Nat}(h:eF v=some n):v= .int (.ofNat n):=by
 obtain⟨i,a,b⟩:=eR.mp h
 rw[aq a,c9 b]
noncomputable def eG(o:O):Option (List V):= @O.casesOn (λZ=>Option (List V)) o (λxs=>some xs) Za Zb Za Za Za Za Zb Zb Za none none Za
theorem eJ{o:O}{xs}(h:eG o=some xs):o= .list xs:=by cases o<;>first|exact nn h|(cases h;rfl)
noncomputable def oq(o:O):Option (List V):= @O.casesOn (λZ=>Option (List V)) o Za (λxs=>some xs) Zb Za Za Za Za Zb Zb Za none none Za
theorem iX{o:O}{xs}(h:oq o=some xs):o= .tup xs:=by cases o<;>first|exact nn h|(cases h;rfl)
noncomputable def fR(o:O):Option (Nat×Nat):= @O.casesOn (λZ=>Option (Nat×Nat)) o Za Za (λc d=>some (c,d)) Za Za Za Za Zb Zb Za none none Za
theorem cO{o:O}{p}(h:fR o=some p):o= .inst p.1 p.2:=by cases o<;>first|exact nn h|(cases h;rfl)
noncomputable def oSd(o:O):Option (List (T×V)):= @O.casesOn (λZ=>Option (List (T×V))) o Za Za Zb (λes=>some es) Za Za Za Zb Zb Za none none Za
theorem kl{o:O}{es}(h:oSd o=some es):o= .sd es:=by cases o<;>first|exact nn h|(cases h;rfl)
noncomputable def qo(o:O):Option (Option V):= @O.casesOn (λZ=>Option (Option V)) o Za Za Zb Za (λv=>some v) Za Za Zb Zb Za none none Za
theorem eK{o:O}{v}(h:qo o=some v):o= .cell v:=by cases o<;>first|exact nn h|(cases h;rfl)
noncomputable def yM(o:O):Option (List T):= @O.casesOn (λZ=>Option (List T)) o Za Za Zb Za Za (λxs=>some xs) Za Zb Zb Za none none Za
theorem ot{o:O}{v}(h:yM o=some v):o= .set v:=by cases o<;>first|exact nn h|(cases h;rfl)
noncomputable def oKd(o:O):Option (List (T×V)):= @O.casesOn (λZ=>Option (List (T×V))) o Za Za Zb Za Za Za Za Zb Zb (λxs=>some xs) none none Za
noncomputable def l9(o:O):Bool:= @O.casesOn (λZ=>Bool) o Fa Fa Fb Fa Fa Fa Fa Fb Fb Fa false true Fa
noncomputable def My(o:O):Option T:= @O.casesOn (λZ=>Option T) o Za Za Zb Za Za Za Za Zb Zb Za none none (λs=>some s)
theorem km{o:O}(h:l9 o=true):o= .ltab:=by cases o<;>first|rfl|cases h
theorem eS{o:O}{v}(h:oKd o=some v):o= .kd v:=by cases o<;>first|exact nn h|(cases h;rfl)
section
noncomputable def iEq(a b:Int):Bool:= @U2 (λZ=>Bool) a (λm=> @U2 (λZ=>Bool) b (λn=>Nat.beq m n) Fa) (λm=> @U2 (λZ=>Bool) b Fa (λn=>Nat.beq m n))
theorem eo{a b:Int}:iEq a b=true↔a=b:=by
 cases a with
 |ofNat m=>cases b with
  |ofNat n=>show Nat.beq m n=true↔_;exact⟨λh=>by rw[Tj h],λh=>by cases h;exact Nat.beq_refl m⟩
  |negSucc n=>exact⟨λh=>(nomatch h),λh=>(nomatch h)⟩
 |negSucc m=>cases b with
  |ofNat n=>exact⟨λh=>(nomatch h),λh=>(nomatch h)⟩
  |negSucc n=>show Nat.beq m n=true↔_;exact⟨λh=>by rw[Tj h],λh=>by cases h;exact Nat.beq_refl m⟩
noncomputable def iLt(a b:Int):Bool:= @U2 (λZ=>Bool) a (λm=> @U2 (λZ=>Bool) b (λn=>Nat.blt m n) Fa) (λm=> @U2 (λZ=>Bool) b Ya (λn=>Nat.blt n m))
theorem cu(a b:Int):iLt a b=true↔a<b:=by
 have:iLt a b=PySem.W.Z.ltB a b:=by cases a<;>cases b<;>rfl
 rw[this];exact PySem.W.Z.ltB_iff a b
noncomputable def bn(b:Bool):Bool:= @Vt (λZ=>Bool) true false b
theorem bg(b:Bool):bn b= !b:=by cases b<;>rfl
def aV{α:Type}(l:List α):Bool:= @UO α (λZ=>Bool) l true Fb
theorem bM{α:Type}(l:List α):aV l=l.isEmpty:=by cases l<;>rfl
end
def fS(e:E):Prop:= ∀(X:Type) (A:X) (B:E→E→X→X→X) (k:X),@E.rec (λZ=>X) A B k (λZ Z Z=>k) (λZ Z=>k) (λZ Z Z Z Z Z=>k) (λZ Z Z=>k) (λZ Z Z=>k) (λZ Z Z Z Z Z Z=>k) (λZ Z Z=>k) (λZ Z Z Z=>k) (λZ=>k) (λZ Z Z Z Z Z Z=>k) (λZ Z Z Z Z Z=>k) (λZ Z Z Z=>k) (λZ Z Z Z Z=>k) (λZ Z Z Z Z Z Z=>k) (λZ Z Z Z Z Z Z Z Z Z Z Z Z Z Z Z Z Z Z=>k) (λZ Z Z Z Z Z Z Z=>k) (λZ Z Z Z=>k) (λZ Z Z Z Z=>k) (λZ Z Z Z Z Z Z Z=>k) (λZ Z Z Z Z Z Z Z Z Z=>k) (λZ Z Z Z Z Z Z Z Z Z Z Z=>k) (λZ Z Z=>k) (λZ Z Z Z=>k) (λZ=>k) e=k
theorem lsE{P:E→Prop}(a:P .nil)(b: ∀e r,P r→P (.cons e r))(c: ∀e,fS e→P e)(e:E):P e:= @E.rec P a (λe r Z h=>b e r h) (c _ λZ Z Z Z=>rfl) (λZ Z Z=>c _ λZ Z Z Z=>rfl) (λZ Z=>c _ λZ Z Z Z=>rfl) (λZ Z Z Z Z Z=>c _ λZ Z Z Z=>rfl) (λZ Z Z=>c _ λZ Z Z Z=>rfl) (λZ Z Z=>c _ λZ Z Z Z=>rfl) (λZ Z Z Z Z Z Z=>c _ λZ Z Z Z=>rfl) (λZ Z Z=>c _ λZ Z Z Z=>rfl) (λZ Z Z Z=>c _ λZ Z Z Z=>rfl) (λZ=>c _ λZ Z Z Z=>rfl) (λZ Z Z Z Z Z Z=>c _ λZ Z Z Z=>rfl) (λZ Z Z Z Z Z=>c _ λZ Z Z Z=>rfl) (λZ Z Z Z=>c _ λZ Z Z Z=>rfl) (λZ Z Z Z Z=>c _ λZ Z Z Z=>rfl) (λZ Z Z Z Z Z Z=>c _ λZ Z Z Z=>rfl) (λZ Z Z Z Z Z Z Z Z Z Z Z Z Z Z Z Z Z Z=>c _ λZ Z Z Z=>rfl) (λZ Z Z Z Z Z Z Z=>c _ λZ Z Z Z=>rfl) (λZ Z Z Z=>c _ λZ Z Z Z=>rfl) (λZ Z Z Z Z=>c _ λZ Z Z Z=>rfl) (λZ Z Z Z Z Z Z Z=>c _ λZ Z Z Z=>rfl) (λZ Z Z Z Z Z Z Z Z Z=>c _ λZ Z Z Z=>rfl) (λZ Z Z Z Z Z Z Z Z Z Z Z=>c _ λZ Z Z Z=>rfl) (λZ Z Z=>c _ λZ Z Z Z=>rfl) (λZ Z Z Z=>c _ λZ Z Z Z=>rfl) (λZ=>c _ λZ Z Z Z=>rfl) e
def xQ(e:S):Prop:= ∀(X:Type) (A:X) (B:S→S→X→X→X) (k:X),@S.rec (λZ=>X) A B (λZ Z=>k) (λZ=>k) (λZ=>k) (λZ Z=>k) (λZ Z Z=>k) (λZ Z Z Z Z Z Z Z Z Z Z=>k) (λZ Z Z Z Z=>k) (λZ Z Z Z Z Z=>k) (λZ Z Z Z=>k) (λZ Z Z Z Z Z Z=>k) (λZ Z Z Z Z Z Z Z Z Z Z Z Z=>k) (λZ Z Z Z=>k) (λZ Z Z Z=>k) (λZ Z Z Z Z Z Z Z Z Z Z Z Z Z Z Z Z Z=>k) (λZ=>k) e=k
theorem lsS{P:S→Prop}(a:P .nil)(b: ∀e r,P r→P (.cons e r))(c: ∀e,xQ e→P e)(e:S):P e:= @S.rec P a (λe r Z h=>b e r h) (λZ Z=>c _ λZ Z Z Z=>rfl) (λZ=>c _ λZ Z Z Z=>rfl) (λZ=>c _ λZ Z Z Z=>rfl) (λZ Z=>c _ λZ Z Z Z=>rfl) (λZ Z Z=>c _ λZ Z Z Z=>rfl) (λZ Z Z Z Z Z Z Z Z Z Z=>c _ λZ Z Z Z=>rfl) (λZ Z Z Z Z=>c _ λZ Z Z Z=>rfl) (λZ Z Z Z Z Z=>c _ λZ Z Z Z=>rfl) (λZ Z Z Z=>c _ λZ Z Z Z=>rfl) (λZ Z Z Z Z Z Z=>c _ λZ Z Z Z=>rfl) (λZ Z Z Z Z Z Z Z Z Z Z Z Z=>c _ λZ Z Z Z=>rfl) (λZ Z Z Z=>c _ λZ Z Z Z=>rfl) (λZ Z Z Z=>c _ λZ Z Z Z=>rfl) (λZ Z Z Z Z Z Z Z Z Z Z Z Z Z Z Z Z Z=>c _ λZ Z Z Z=>rfl) (λZ=>c _ λZ Z Z Z=>rfl) e
noncomputable def ma(e:E):Bool:= @E.casesOn (λZ=>Bool) e false Fb false Fc Fb Fd Fb Fb Fd Fb Fc Fa (λZ Z Z Z Z Z=>false) Fd Fc Fd Fe (λZ Z Z Z Z Z Z Z Z Z Z Z Z Z Z Z Z Z Z=>false) Fh Fc Fc Fe (λZ Z Z Z Z Z Z=>false) Fh Fb Fc Ya
theorem noK{α:Type}{x:Option α}{r:α}{P:Prop}(h:x=none)(e:x=some r):P:=nomatch h.symm.trans e
def D7(e:E):Prop:= ∀(X:Type) (A_nil:X) (k:X),@E.casesOn (λZ=>X) e A_nil (λZ Z=>k) k (λZ Z Z=>k) (λZ Z=>k) (λZ Z Z Z=>k) (λZ Z=>k) (λZ Z=>k) (λZ Z Z Z=>k) (λZ Z=>k) (λZ Z Z=>k) (λZ=>k) (λZ Z Z Z Z Z=>k) (λZ Z Z Z=>k) (λZ Z Z=>k) (λZ Z Z Z=>k) (λZ Z Z Z Z=>k) (λZ Z Z Z Z Z Z Z Z Z Z Z Z Z Z Z Z Z Z=>k) (λZ Z Z Z Z Z Z Z=>k) (λZ Z Z=>k) (λZ Z Z=>k) (λZ Z Z Z Z=>k) (λZ Z Z Z Z Z Z=>k) (λZ Z Z Z Z Z Z Z=>k) (λZ Z=>k) (λZ Z Z=>k) (λZ=>k)=k
theorem D8{P:E→Prop}(a_nil:P (.nil))(c: ∀e,D7 e→P e)(e:E):P e:= @E.casesOn P e a_nil (λZ Z=>c _ λX Z k=> @rfl X k) (c _ λX Z k=> @rfl X k) (λZ Z Z=>c _ λX Z k=> @rfl X k) (λZ Z=>c _ λX Z k=> @rfl X k) (λZ Z Z Z=>c _ λX Z k=> @rfl X k) (λZ Z=>c _ λX Z k=> @rfl X k) (λZ Z=>c _ λX Z k=> @rfl X k) (λZ Z Z Z=>c _ λX Z k=> @rfl X k) (λZ Z=>c _ λX Z k=> @rfl X k) (λZ Z Z=>c _ λX Z k=> @rfl X k) (λZ=>c _ λX Z k=> @rfl X k) (λZ Z Z Z Z Z=>c _ λX Z k=> @rfl X k) (λZ Z Z Z=>c _ λX Z k=> @rfl X k) (λZ Z Z=>c _ λX Z k=> @rfl X k) (λZ Z Z Z=>c _ λX Z k=> @rfl X k) (λZ Z Z Z Z=>c _ λX Z k=> @rfl X k) (λZ Z Z Z Z Z Z Z Z Z Z Z Z Z Z Z Z Z Z=>c _ λX Z k=> @rfl X k) (λZ Z Z Z Z Z Z Z=>c _ λX Z k=> @rfl X k) (λZ Z Z=>c _ λX Z k=> @rfl X k) (λZ Z Z=>c _ λX Z k=> @rfl X k) (λZ Z Z Z Z=>c _ λX Z k=> @rfl X k) (λZ Z Z Z Z Z Z=>c _ λX Z k=> @rfl X k) (λZ Z Z Z Z Z Z Z=>c _ λX Z k=> @rfl X k) (λZ Z=>c _ λX Z k=> @rfl X k) (λZ Z Z=>c _ λX Z k=> @rfl X k) (λZ=>c _ λX Z k=> @rfl X k)
def Mz(e:E):Prop:= ∀(X:Type) (A_cst:Const→Nat→Pos→X) (A_fmt:E→Int→Pos→X) (k:X),@E.casesOn (λZ=>X) e k (λZ Z=>k) k A_cst (λZ Z=>k) (λZ Z Z Z=>k) (λZ Z=>k) (λZ Z=>k) (λZ Z Z Z=>k) (λZ Z=>k) (λZ Z Z=>k) (λZ=>k) (λZ Z Z Z Z Z=>k) (λZ Z Z Z=>k) (λZ Z Z=>k) (λZ Z Z Z=>k) (λZ Z Z Z Z=>k) (λZ Z Z Z Z Z Z Z Z Z Z Z Z Z Z Z Z Z Z=>k) (λZ Z Z Z Z Z Z Z=>k) (λZ Z Z=>k) (λZ Z Z=>k) (λZ Z Z Z Z=>k) (λZ Z Z Z Z Z Z=>k) (λZ Z Z Z Z Z Z Z=>k) (λZ Z=>k) A_fmt (λZ=>k)=k
theorem MA{P:E→Prop}(a_cst: ∀(x0:Const) (x1:Nat) (x2:Pos),P (.cst x0 x1 x2))(a_fmt: ∀(x0:E) (x1:Int) (x2:Pos),P (.fmt x0 x1 x2))(c: ∀e,Mz e→P e)(e:E):P e:= @E.casesOn P e (c _ λX Z Z k=> @rfl X k) (λZ Z=>c _ λX Z Z k=> @rfl X k) (c _ λX Z Z k=> @rfl X k) a_cst (λZ Z=>c _ λX Z Z k=> @rfl X k) (λZ Z Z Z=>c _ λX Z Z k=> @rfl X k) (λZ Z=>c _ λX Z Z k=> @rfl X k) (λZ Z=>c _ λX Z Z k=> @rfl X k) (λZ Z Z Z=>c _ λX Z Z k=> @rfl X k) (λZ Z=>c _ λX Z Z k=> @rfl X k) (λZ Z Z=>c _ λX Z Z k=> @rfl X k) (λZ=>c _ λX Z Z k=> @rfl X k) (λZ Z Z Z Z Z=>c _ λX Z Z k=> @rfl X k) (λZ Z Z Z=>c _ λX Z Z k=> @rfl X k) (λZ Z Z=>c _ λX Z Z k=> @rfl X k) (λZ Z Z Z=>c _ λX Z Z k=> @rfl X k) (λZ Z Z Z Z=>c _ λX Z Z k=> @rfl X k) (λZ Z Z Z Z Z Z Z Z Z Z Z Z Z Z Z Z Z Z=>c _ λX Z Z k=> @rfl X k) (λZ Z Z Z Z Z Z Z=>c _ λX Z Z k=> @rfl X k) (λZ Z Z=>c _ λX Z Z k=> @rfl X k) (λZ Z Z=>c _ λX Z Z k=> @rfl X k) (λZ Z Z Z Z=>c _ λX Z Z k=> @rfl X k) (λZ Z Z Z Z Z Z=>c _ λX Z Z k=> @rfl X k) (λZ Z Z Z Z Z Z Z=>c _ λX Z Z k=> @rfl X k) (λZ Z=>c _ λX Z Z k=> @rfl X k) a_fmt (λZ=>c _ λX Z Z k=> @rfl X k)
def D9(e:E):Prop:= ∀(X:Type) (A_nm:Str→Pos→X) (A_attr:E→Str→Pos→X→X) (A_sub:E→E→Pos→X→X→X) (k:X),@E.rec (λZ=>X) k (λZ Z Z Z=>k) k (λZ Z Z=>k) A_nm (λZ Z Z Z Z Z=>k) (λZ Z Z=>k) (λZ Z Z=>k) (λZ Z Z Z Z Z Z=>k) (λZ Z Z=>k) (λZ Z Z Z=>k) (λZ=>k) (λZ Z Z Z Z Z Z=>k) (λZ Z Z Z Z Z=>k) (λZ Z Z Z=>k) (λZ Z Z Z Z=>k) (λZ Z Z Z Z Z Z=>k) (λZ Z Z Z Z Z Z Z Z Z Z Z Z Z Z Z Z Z Z=>k) (λZ Z Z Z Z Z Z Z=>k) A_attr A_sub (λZ Z Z Z Z Z Z Z=>k) (λZ Z Z Z Z Z Z Z Z Z=>k) (λZ Z Z Z Z Z Z Z Z Z Z Z=>k) (λZ Z Z=>k) (λZ Z Z Z=>k) (λZ=>k) e=k
theorem EB{P:E→Prop}(a_nm: ∀(x0:Str) (x1:Pos),P (.nm x0 x1))(a_attr: ∀(x0:E) (x1:Str) (x2:Pos),P (.attr x0 x1 x2))(a_sub: ∀(x0:E) (x1:E) (x2:Pos),P (.sub x0 x1 x2))(c: ∀e,D9 e→P e)(e:E):P e:= @E.casesOn P e (c _ λZ Z Z Z Z=>rfl) (λZ Z=>c _ λZ Z Z Z Z=>rfl) (c _ λZ Z Z Z Z=>rfl) (λZ Z Z=>c _ λZ Z Z Z Z=>rfl) a_nm (λZ Z Z Z=>c _ λZ Z Z Z Z=>rfl) (λZ Z=>c _ λZ Z Z Z Z=>rfl) (λZ Z=>c _ λZ Z Z Z Z=>rfl) (λZ Z Z Z=>c _ λZ Z Z Z Z=>rfl) (λZ Z=>c _ λZ Z Z Z Z=>rfl) (λZ Z Z=>c _ λZ Z Z Z Z=>rfl) (λZ=>c _ λZ Z Z Z Z=>rfl) (λZ Z Z Z Z Z=>c _ λZ Z Z Z Z=>rfl) (λZ Z Z Z=>c _ λZ Z Z Z Z=>rfl) (λZ Z Z=>c _ λZ Z Z Z Z=>rfl) (λZ Z Z Z=>c _ λZ Z Z Z Z=>rfl) (λZ Z Z Z Z=>c _ λZ Z Z Z Z=>rfl) (λZ Z Z Z Z Z Z Z Z Z Z Z Z Z Z Z Z Z Z=>c _ λZ Z Z Z Z=>rfl) (λZ Z Z Z Z Z Z Z=>c _ λZ Z Z Z Z=>rfl) a_attr a_sub (λZ Z Z Z Z=>c _ λZ Z Z Z Z=>rfl) (λZ Z Z Z Z Z Z=>c _ λZ Z Z Z Z=>rfl) (λZ Z Z Z Z Z Z Z=>c _ λZ Z Z Z Z=>rfl) (λZ Z=>c _ λZ Z Z Z Z=>rfl) (λZ Z Z=>c _ λZ Z Z Z Z=>rfl) (λZ=>c _ λZ Z Z Z Z=>rfl)
end
section
noncomputable def ko(Z:V):Option Bool:=none
noncomputable def tM(b:V):Option Bool:= @V.rec (λZ=>Option Bool) (some true) Za (λZ=>some false) Za Za Za Za Za Zb b
def tN(x:Bool)(b:V):Option Bool:= @V.rec (λZ=>Option Bool) none (λy=>some (bc x y (bn y))) Za Za Za Za Za Za Zb b
def yN(x:Int)(b:V):Option Bool:= @V.rec (λZ=>Option Bool) (some false) Za (λy=>some (iEq x y)) Za Za Za Za Za Zb b
def yO(x:T)(b:V):Option Bool:= @V.rec (λZ=>Option Bool) none Za Za (λy=>some (tEq x y)) Za Za Za Za Zb b
def tO(a:V):V→Option Bool:= @V.rec (λZ=>V→Option Bool) tM tN yN yO (λZ=>ko) (λZ=>ko) (λZ=>ko) (λZ=>ko) (λZ Z=>ko) a
def aL(h:H)(k:Nat):Option (List V):=ob (nth h k) eG
def f6(h:H)(k:Nat):List V:= @U9 (List V) (λZ=>List V) [] (λl=>l) (aL h k)
def bo{α:Type}(x:Option α):Bool:= @U9 α (λZ=>Bool) false Ya x
def iC{α:Type}(f:α→Bool)(l:List α):Bool:= @Vq α (λZ=>Bool) true (λa Z ih=>bc (f a) ih false) l
def tP{α:Type}(f:α→Bool)(l:List α):Bool:= @Vq α (λZ=>Bool) false (λa Z ih=>bc (f a) true ih) l
noncomputable def okT(t:T):Bool:=iC (λn=>Nat.blt n 1114112) t
def okS(v:V):Bool:= @V.casesOn (λZ=>Bool) v false Fa Ya (λs=>okT s) Fa Fa Fa Fa Fb
def dc(h:H)(n:Nat):V→Bool:= @Nat.rec (λZ=>V→Bool) okS (λZ ih v=> @U9 Nat (λZ=>Bool) (okS v) (λk=>bc (bo (aL h k)) (iC ih (f6 h k)) false) (aH v)) n
def yP(x:Int)(b:V):Bool:= @V.rec (λZ=>Bool) false Fa (λy=>iEq x y) Fa Fa Fa Fa Fa Fb b
def yQ(x:T)(b:V):Bool:= @V.rec (λZ=>Bool) false Fa Fa (λy=>tEq x y) Fa Fa Fa Fa Fb b
noncomputable def gy(Z:V):Bool:=false
def md(a:V):V→Bool:= @V.rec (λZ=>V→Bool) gy (λZ=>gy) yP yQ (λZ=>gy) (λZ=>gy) (λZ=>gy) (λZ=>gy) (λZ Z=>gy) a
def nv(eq:V→V→Bool)(xs:List V):List V→Bool:= @Vq V (λZ=>List V→Bool) (λys=>aV ys)
 (λx Z ih ys=> @UO V (λZ=>Bool) ys false (λy r=>bc (eq x y) (ih r) false)) xs
def gz(h:H)(n:Nat):V→V→Bool:= @Nat.rec (λZ=>V→V→Bool) md
 (λZ ih a b=> @U9 Nat (λZ=>Bool) (md a b) (λi=> @U9 Nat (λZ=>Bool) false (λj=>nv ih (f6 h i) (f6 h j)) (aH b)) (aH a)) n
def vEq(h:H)(a b:V):Option Bool:= @U9 Nat (λZ=>Option Bool) (tO a b) (λZ=>gd (dc h 3 a) (gd (dc h 3 b) (some (gz h 3 a b)))) (aH a)
def okL{α:Type}(l:List α):Bool:=Nat.ble (len l) 4000
def ny(h:H)(v:V):Option Bool:= @V.casesOn (λZ=>Option Bool) v (some false) (λb=>some b) (λi=>some (bn (iEq i (.ofNat 0)))) (λs=>gd (okL s) (some (bn (aV s)))) Za Za
 (λk=>ob (nth h k) λo=> @O.casesOn (λZ=>Option Bool) o (λxs=>gd (okL xs) (some (bn (aV xs)))) Za Zb (λes=>gd (aV es) (some false)) Za Za Za Zb Zb Za none none Za)
 Za Zb
def qp(n:Nat):Nat:=bc (Nat.blt n 10) (Nat.add 48 n) (Nat.add 87 n)
def iD(f:Nat):Nat→T:= @Nat.rec (λZ=>Nat→T) (λZ=>[]) (λZ ih n=>bc (Nat.blt n 16) [qp n] (app (ih (Nat.div n 16)) [qp (Nat.mod n 16)])) f
def dH(sep:T)(l:List T):T:= @Vq T (λZ=>T) [] (λa r ih=> @UO T (λZ=>T) r a (λZ Z=>app a (app sep ih))) l
def yR(l:List V):Option (List T):= @Vq V (λZ=>Option (List T)) (some []) (λv Z ih=>ob (aT v) λs=>ob ih λr=>some (s::r)) l
def jz(a:T):T→Option T:= @Vq Nat (λZ=>T→Option T) (λr=>some r) (λx Z ih t=> @UO Nat (λZ=>Option T) t none (λy r=>bc (Nat.beq x y) (ih r) none)) a
def spl(sep:T)(t:T):Nat→T→List T:= @Vq Nat (λZ=>Nat→T→List T) (λZ cur=>[cur]) (λc r ih k cur=> @Nat.rec (λZ=>List T) (bc (bo (jz sep (c::r))) (cur::ih (Nat.pred (len sep)) []) (ih 0 (app cur [c]))) (λk' Z=>ih k' cur) k) t
noncomputable def mf(t:T):Bool:=iC (λn=>Nat.blt n 256) t
def ou(a:Nat)(t:T):Bool:= @Vq Nat (λZ=>Bool) false (λc Z ih=>bc (Nat.beq a c) true ih) t
noncomputable def yS(a b:Int):Option Int:=some (Int.add a b)
noncomputable def yT(a b:Int):Option Int:=some (Int.sub a b)
def yU(a b:Int):Option Int:=gd (iLt (.negSucc 65535) a) (gd (iLt a (.ofNat 65536)) (some (Int.mul a b)))
noncomputable def qr(_ _:Int):Option Int:=none
def fT(f:Nat→Nat→Option Int)(a b:Int):Option Int:=ob (kj a) λx=>ob (kj b) λy=>f x y
def yV:Int→Int→Option Int:=fT λx y=>gd (Nat.blt 0 y) (some (.ofNat (Nat.mod x y)))
def yW:Int→Int→Option Int:=fT λx y=>gd (Nat.blt y 4294967296)<|gd (Nat.blt 0 y) (some (.ofNat (Nat.div x y)))
def yX:Int→Int→Option Int:=fT λx y=>gd (Nat.beq x 2) (gd (Nat.blt y 32) (some (.ofNat (Nat.pow x y))))
def yY:Int→Int→Option Int:=fT λx y=>gd (Nat.blt x 64) (gd (Nat.blt y 32) (some (.ofNat (Nat.shiftLeft x y))))
def yZ:Int→Int→Option Int:=fT λx y=>gd (Nat.blt y 64) (some (.ofNat (Nat.shiftRight x y)))
def y6:Int→Int→Option Int:=fT λx y=>some (.ofNat (Nat.sub (Nat.lor x y) (Nat.land x y)))
def za:Int→Int→Option Int:=fT λx y=>some (.ofNat (Nat.land x y))
def zb(op:Vs):Int→Int→Option Int:= @Operator.rec (λZ=>Int→Int→Option Int) yS yT yU qr qr yV yX yY yZ qr y6 za yW op
noncomputable def dR(k:Nat)(op:Vs):Bool:=Nat.beq k (@Operator.casesOn (λZ=>Nat) op 0 1 2 3 4 5 6 7 8 9 10 11 12)
def new(h:H)(o:O):V×H:=(.loc (len h),app h [o])
def qs(x:Int)(h:H)(op:Vs)(b:V):Option (V×H):=ob (ax b) λy=>ob (zb op x y) λz=>some (.int z,h)
def ow(y:Int)(x:T)(h:H)(op:Vs):Option (V×H):=ob (kj y) λn=>gd (dR 2 op) (gd (Nat.blt n 64) (gd (okL x) (some (.str (cD n x),h))))
def ox(y x:T)(h:H)(op:Vs):Option (V×H):=gd (dR 0 op) (gd (okL x) (gd (okL y) (some (.str (app x y),h))))
noncomputable def no4(Z:T)(Z:H)(Z:Vs):Option (V×H):=none
def qt(x:T)(h:H)(op:Vs)(b:V):Option (V×H):= @V.rec (λZ=>T→H→Vs→Option (V×H)) no4 (λZ=>no4) ow ox (λZ=>no4) (λZ=>no4) (λZ=>no4) (λZ=>no4) (λZ Z=>no4) b x h op
def oy(y:Int)(xs:List V)(h:H)(op:Vs):Option (V×H):=ob (kj y) λn=>gd (dR 2 op) (gd (Nat.blt n 64) (gd (okL xs) (some (new h (.list (cD n xs))))))
def oz(j:Nat)(xs:List V)(h:H)(op:Vs):Option (V×H):=ob (aL h j) λys=>gd (dR 0 op) (gd (okL xs) (gd (okL ys) (some (new h (.list (app xs ys))))))
noncomputable def no5(Z:List V)(Z:H)(Z:Vs):Option (V×H):=none
def qu(i:Nat)(h:H)(op:Vs)(b:V):Option (V×H):=ob (aL h i) λxs=> @V.rec (λZ=>List V→H→Vs→Option (V×H)) no5 (λZ=>no5) oy (λZ=>no5) (λZ=>no5) (λZ=>no5) oz (λZ=>no5) (λZ Z=>no5) b xs h op
def qv(r:Nat)(h:H)(op:Vs)(b:V):Option (V×H):=ob (eF b) λp=>bc (dR 5 op) (gd (Nat.beq p 32) (some (.int (.ofNat r),h))) (gd (dR 8 op) (gd (Nat.blt p 5) (some (.sh r p,h))))
def tQ(r p:Nat)(h:H)(op:Vs)(b:V):Option (V×H):=ob (eF b) λn=>gd (dR 11 op) (gd (Nat.beq n 1) (gd (Nat.blt p 5) (some (.int (.ofNat (Nat.mod (Nat.shiftRight r p) 2)),h))))
noncomputable def no3(Z:H)(Z:Vs)(Z:V):Option (V×H):=none
def EC(h:H)(op:Vs)(a b:V):Option (V×H):= @V.rec (λZ=>H→Vs→V→Option (V×H)) no3 (λZ=>no3) qs qt (λZ=>no3) (λZ=>no3) qu qv tQ a h op b
def inL(a:V)(l:List V):Option Bool:=gd (okS a) (gd (iC okS l) (some (tP (λx=>md x a) l)))
def memT(a:T)(l:List T):Bool:= @Vq T (λZ=>Bool) false (λx Z ih=>bc (tEq x a) true ih) l
def inV(h:H)(a b:V):Option Bool:= @V.casesOn (λZ=>Option Bool) b none Za Za
 (λy=>ob (aT a) λx=> @UO Nat (λZ=>Option Bool) x none (λc r=>gd (aV r) (some (ou c y)))) Za Za
 (λk=>ob (nth h k) λo=> @O.casesOn (λZ=>Option Bool) o (λxs=>inL a xs) Za Zb Za Za (λxs=>ob (aT a) λx=>gd (Nat.blt (len xs) 8) (some (memT x xs))) Za Zb Zb Za none none Za)
 Za Zb
def isV(a b:V):Option Bool:= @V.casesOn (λZ=>Option Bool) b
 (@V.casesOn (λZ=>Option Bool) a (some true) (λZ=>some false) (λZ=>some false) (λZ=>some false) Za Za (λZ=>some false) Za Zb)
 (λy=> @V.casesOn (λZ=>Option Bool) a none (λx=>some (bc x y (bn y))) Za Za Za Za Za Za Zb)
 Za Za Za Za Za Za Zb
def tR(x:Option Bool):Option Bool:=ob x λb=>some (bn b)
def qw(a b:V)(f:Int→Int→Bool):Option Bool:=ob (ax a) λx=>ob (ax b) λy=>some (f x y)
def ED(h:H)(a b:V):Option Bool:=vEq h a b
def EE(h:H)(a b:V):Option Bool:=tR (vEq h a b)
def EF(Z:H)(a b:V):Option Bool:=qw a b iLt
def EG(Z:H)(a b:V):Option Bool:=qw a b λx y=>bn (iLt y x)
def EH(Z:H)(a b:V):Option Bool:=qw a b λx y=>iLt y x
def EI(Z:H)(a b:V):Option Bool:=qw a b λx y=>bn (iLt x y)
def EJ(Z:H)(a b:V):Option Bool:=isV a b
def qx(Z:H)(a b:V):Option Bool:=tR (isV a b)
def qy(h:H)(a b:V):Option Bool:=tR (inV h a b)
def mh(h:H)(op:CmpOp)(a b:V):Option Bool:= @CmpOp.rec (λZ=>H→V→V→Option Bool) ED EE EF EG EH EI EJ qx inV qy op h a b
def EK(n:Nat)(i:Int):Option Nat:= @U2 (λZ=>Option Nat) i (λk=>gd (Nat.blt k n) (some k)) (λk=>gd (Nat.blt k n) (some (Nat.sub n (Nat.succ k))))
def gA(n:Nat)(i:Int):Nat:= @U2 (λZ=>Nat) i (λk=>bc (Nat.blt k n) k n) (λk=>Nat.sub n (Nat.succ k))
def nz{α:Type}(n:Nat)(l:List α):List α:= @Vq α (λZ=>Nat→List α) (λZ=>[]) (λa Z ih n=> @Nat.rec (λZ=>List α) [] (λm Z=>a::ih m) n) l n
def dropL{α:Type}(n:Nat)(l:List α):List α:= @Vq α (λZ=>Nat→List α) (λZ=>[]) (λa r ih n=> @Nat.rec (λZ=>List α) (a::r) (λm Z=>ih m) n) l n
def slc{α:Type}(xs:List α)(lo hi:Option Int):List α:=
 dropL (@U9 Int (λZ=>Nat) 0 (λi=>gA (len xs) i) lo) (nz (@U9 Int (λZ=>Nat) (len xs) (λi=>gA (len xs) i) hi) xs)
def dictGet(k:V)(l:List (V×V)):Option (Option V):= @Vq (V×V) (λZ=>Option (Option V)) (some none) (λp Z ih=>ob (tO p.1 k) λb=>bc b (some (some p.2)) ih) l
def fB{α:Type}(xs:List α)(i:Int):Option α:=gd (okL xs) (ob (EK (len xs) i) (nth xs))
def EL(g:G)(h:H)(o i:V):Option V:= @V.casesOn (λZ=>Option V) o none Za Za
 (λs=>ob (ax i) λj=>ob (fB s j) λc=>some (.str [c]))
 (λa=>ob (aT i) λx=>ob (atN a g.dicts) λd=>ob (dictGet (.str x) d) λr=>r) Za
 (λk=>ob (nth h k) λq=> @O.casesOn (λZ=>Option V) q (λxs=>ob (ax i) (fB xs)) (λxs=>ob (ax i) (fB xs)) Zb (λes=>ob (aT i) λx=>look x es) Za Za Za Zb Zb Za none none Za)
 Za Zb
def xR(h:H)(v:V)(lo hi:Option Int):Option (V×H):= @V.casesOn (λZ=>Option (V×H)) v none Za Za (λs=>gd (okL s) (some (.str (slc s lo hi),h))) Za Za (λk=>ob (aL h k) λxs=>gd (okL xs) (some (new h (.list (slc xs lo hi))))) Za Zb
def EM(i:Nat)(Z:T)(lo:Lo)(Z:H)(Z:List Nat)(Z:Nat):Option V:=ob (nth lo i) λv=>v
def EN(j:Nat)(Z:T)(Z:Lo)(h:H)(ce:List Nat)(Z:Nat):Option V:=ob (nth ce j) λk=>ob (nth h k) λo=>ob (qo o) λv=>v
noncomputable def EO(v:V)(Z:T)(Z:Lo)(Z:H)(Z:List Nat)(Z:Nat):Option V:=some v
def EP(x:T)(Z:Lo)(h:H)(Z:List Nat)(q:Nat):Option V:=ob (nth h q) λo=>ob (oKd o) λes=>look x es
def bq(f:Frm)(lo:Lo)(h:H)(x:T):Option V:= @Frm.rec (λZ=>Option V) (λnm ce q Z=>ob (look x nm) λs=> @Slot.rec (λZ=>T→Lo→H→List Nat→Nat→Option V) EM EN EO EP s x lo h ce q) f
def EQ(i:Nat)(Z:T)(v:V)(lo:Lo)(h:H)(Z:List Nat)(Z:Nat):Option (Lo×H):=some (cG (some v) lo i,h)
def ER(j:Nat)(Z:T)(v:V)(lo:Lo)(h:H)(ce:List Nat)(Z:Nat):Option (Lo×H):=ob (nth ce j) λk=>ob (nth h k) λo=>ob (qo o) λZ=>some (lo,cG (.cell (some v)) h k)
noncomputable def ES(Z:V)(Z:T)(Z:V)(Z:Lo)(Z:H)(Z:List Nat)(Z:Nat):Option (Lo×H):=none
def ET(x:T)(v:V)(lo:Lo)(h:H)(Z:List Nat)(q:Nat):Option (Lo×H):=ob (nth h q) λo=>ob (oKd o) λes=>some (lo,cG (.kd (put x v es)) h q)
def bz(f:Frm)(lo:Lo)(h:H)(x:T)(v:V):Option (Lo×H):= @Frm.rec (λZ=>Option (Lo×H)) (λnm ce q Z=>ob (look x nm) λs=> @Slot.rec (λZ=>T→V→Lo→H→List Nat→Nat→Option (Lo×H)) EQ ER ES ET s x v lo h ce q) f
def jA(i:Int):Bool:=bc (iLt (.negSucc 1099511627775) i) (iLt i (.ofNat 1099511627776)) false
def tS(l:List V):Int→Option Int:= @Vq V (λZ=>Int→Option Int) (λa=>some a) (λv Z ih a=>ob (ax v) λi=>gd (jA i) (gd (jA (Int.add a i)) (ih (Int.add a i)))) l
def EU(h:H)(v:V):Option Nat:= @V.casesOn (λZ=>Option Nat) v none Za Za (λs=>gd (okL s) (some (len s))) Za Za (λk=>ob (nth h k) λo=> @U9 (List V) (λZ=>Option Nat) (ob (oq o) λxs=>gd (okL xs) (some (len xs))) (λxs=>gd (okL xs) (some (len xs))) (eG o)) Za Zb
def one{α β:Type}(l:List α)(f:α→Option β):Option β:= @UO α (λZ=>Option β) l none (λa r=>gd (aV r) (f a))
def two{α β:Type}(l:List α)(f:α→α→Option β):Option β:= @UO α (λZ=>Option β) l none (λa r=>one r (f a))
def oA{α β:Type}(l:List α)(x:Option β):Option β:=gd (aV l) x
def qz(h:H)(vs:List V):Option (V×H):=one vs λv=>ob (EU h v) λk=>some (.int (.ofNat k),h)
def qF(h:H)(vs:List V):Option (V×H):=one vs λv=>ob (eF v) λk=>gd (Nat.blt k 4294967296) (some (.str (48::120::iD 16 k),h))
def qG(h:H)(vs:List V):Option (V×H):=one vs λv=>ob (aH v) λk=>ob (aL h k) λxs=>ob (tS xs (.ofNat 0)) λz=>some (.int z,h)
def qH(h:H)(vs:List V):Option (V×H):=two vs λa b=>ob (ax a) λx=>ob (ax b) λy=>some (.int (bc (iLt x y) y x),h)
def kq(h:H)(vs:List V):Option (V×H):=one vs λv=>ob (aH v) λk=>ob (aL h k) λxs=>gd (okL xs) (some (new h (.tup xs)))
def qI(h:H)(vs:List V):Option (V×H):=oA vs (some (new h (.set [])))
def kr(h:H)(vs:List V):Option (V×H):= @Vq V (λZ=>Option (V×H)) none (λa r Z=> @Vq V (λZ=>Option (V×H)) (ob (ax a) λx=>some (new h (.rng (.ofNat 0) x))) (λb r2 Z=>gd (aV r2) (ob (ax a) λx=>ob (ax b) λy=>some (new h (.rng x y)))) r) vs
def qJ(h:H)(n:Nat)(vs:List V):Option (V×H):=
 bc (Nat.beq n 0) (qz h vs) (bc (Nat.beq n 3) (qF h vs) (bc (Nat.beq n 4) (qG h vs) (bc (Nat.beq n 5) (qH h vs) (bc (Nat.beq n 6) (kq h vs) (bc (Nat.beq n 8) (qI h vs) (gd (Nat.beq n 2) (kr h vs)))))))
noncomputable def xS(xs:List V):Option V:= @Vq V (λZ=>Option V) none (λa r ih=> @UO V (λZ=>Option V) r (some a) (λZ Z=>ih)) xs
noncomputable def xU(xs:List V):List V:= @Vq V (λZ=>List V) [] (λa r ih=> @UO V (λZ=>List V) r [] (λZ Z=>a::ih)) xs
noncomputable def mi:T:=[106,111,105,110]
noncomputable def gi:T:=[115,112,108,105,116]
noncomputable def iY:T:=[114,101,112,108,97,99,101]
noncomputable def kt:T:=[103,101,116]
noncomputable def dT:T:=[97,112,112,101,110,100]
noncomputable def qK:T:=[112,111,112]
noncomputable def qL:T:=[97,100,100]
noncomputable def w_iter_namespaces:T:=[95,105,116,101,114,95,110,97,109,101,115,112,97,99,101,115]
noncomputable def w_init:T:=[95,95,105,110,105,116,95,95]
noncomputable def nA:T:=[105,116,101,109,115]
def qM(h:H)(s:T)(vs:List V):Option (V×H):=one vs λv=>ob (aH v) λk=>ob (aL h k) λl=>ob (yR l) λts=>gd (Nat.blt (len s) 100) (gd (okL (dH s ts)) (gd (okL ts) (some (.str (dH s ts),h))))
def qO(h:H)(s:T)(vs:List V):Option (V×H):=one vs λv=>ob (aT v) λsep=>gd (bn (aV sep))<|gd (okL s)<|gd (mf s)<|gd (mf sep)<|gd (okL (spl sep s 0 [])) (some (new h (.list (mp V.str (spl sep s 0 [])))))
noncomputable def nB(e:V)(w:Option V):V:= @U9 V (λZ=>V) e (λv=>v) w
def EV(h:H)(d:List (V×V))(vs:List V):Option (V×H):= @UO V (λZ=>Option (V×H)) vs none λk r=>gd (bc (bo (aT k)) true (bo (ax k)))<|ob (dictGet k d) λw=> @UO V (λZ=>Option (V×H)) r (some (nB .none w,h)) λe r2=>gd (aV r2) (some (nB e w,h))
def tT(h:H)(k:Nat)(xs vs:List V):Option (V×H):=one vs λy=>gd (okL xs) (some (.none,cG (.list (app xs [y])) h k))
def EW(h:H)(k:Nat)(xs vs:List V):Option (V×H):=oA vs (gd (okL xs) (ob (xS xs) λy=>some (y,cG (.list (xU xs)) h k)))
def EX(h:H)(k:Nat)(xs:List T)(vs:List V):Option (V×H):=one vs λv=>ob (aT v) λy=>gd (aV xs) (some (.none,cG (.set [y]) h k))
def EY(h:H)(es:List (T×V))(vs:List V):Option (V×H):=one vs λv=>ob (aT v) λy=>gd (okL es) (some (nB .none (look y es),h))
noncomputable def zc(v:V):Bool:= @V.casesOn (λZ=>Bool) v true Fa Fa Fa Fa Fa Fa Fa Fb
noncomputable def asTop(v:V):Option Nat:= @V.casesOn (λZ=>Option Nat) v none Za Za Za (λa=>some a) Za Za Za Zb
theorem bT{v:V}{k:Nat}(h:asTop v=some k):v= .top k:=by cases v<;>first|exact nn h|(cases h;rfl)
def qP(g:G)(h:H)(v:V)(x:T):Option Nat:= @V.casesOn (λZ=>Option Nat) v none Za Za (λZ=>bc (tEq x mi) (some 0) (gd (tEq x gi) (some 1))) (λa=>gd (tEq x kt) (gd (bo (atN a g.dicts)) (some 2))) Za
 (λk=>ob (nth h k) λo=> @O.casesOn (λZ=>Option Nat) o (λZ=>bc (tEq x dT) (some 3) (gd (tEq x qK) (some 4))) Za Zb (λZ=>gd (tEq x kt) (some 5)) Za (λZ=>gd (tEq x qL) (some 6)) Za Zb Zb Za none none Za)
 Za Zb
def jB(g:G)(h:H)(m:Nat)(v:V)(vs:List V):Option (V×H):=bc (Nat.beq m 0) (ob (aT v) λs=>qM h s vs)<|bc (Nat.beq m 1) (ob (aT v) λs=>qO h s vs)<|bc (Nat.beq m 2) (ob (asTop v) λa=>gd (Nat.blt 1 a)<|ob (atN a g.dicts) λd=>EV h d vs)<|
 ob (aH v) λk=>ob (nth h k) λo=>bc (Nat.beq m 3) (ob (eG o) λxs=>tT h k xs vs)<|bc (Nat.beq m 4) (ob (eG o) λxs=>EW h k xs vs)<|bc (Nat.beq m 5) (ob (oSd o) λes=>EY h es vs)<|gd (Nat.beq m 6)<|ob (yM o) λxs=>EX h k xs vs
structure Ih where
 e:Frm→Lo→H→E→Option (V×H)
 t:Frm→Lo→H→E→Option (Bool×H)
 s:Frm→Lo→H→S→Option (Fl×Lo×H)
 c:H→Nat→List V→Option (V×H)
 ia:Nat→Option (List T)
 mt:Nat→Option Nat
noncomputable def evs(ih:Ih)(f:Frm)(lo:Lo)(es:E):H→Option (List V×H):= @E.rec (λZ=>H→Option (List V×H)) (λh=>some ([],h)) (λe Z Z r h=>ob (ih.e f lo h e) λp=>ob (r p.2) λq=>some (p.1::q.1,q.2)) Za Zd Zc Zg Zd Zd Zh Zd Ze Zb Zh Zg Ze Zf Zh (λZ Z Z Z Z Z Z Z Z Z Z Z Z Z Z Z Z Z Z=>(λZ=>none)) Zi Ze Zf Zi Zk Zm Zd Ze Zb es
def eL(nm:Nm)(ps:List T):List V→Lo→Lo→Option (Lo×Lo):= @Vq T (λZ=>List V→Lo→Lo→Option (Lo×Lo)) (λvs lo ce=>oA vs (some (lo,ce)))
 (λx Z r vs lo ce=> @UO V (λZ=>Option (Lo×Lo)) vs none λv ws=>ob (look x nm) λs=> @Slot.casesOn (λZ=>Option (Lo×Lo)) s (λi=>r ws (cG (some v) lo i) ce) (λj=>r ws lo (cG (some v) ce j)) Za none) ps
noncomputable def fillR(dfl:List (T×V))(ps:List T):Option (List V):= @Vq T (λZ=>Option (List V)) (some []) (λx Z r=>ob (look x dfl) λv=>ob r λws=>some (v::ws)) ps
def az(n m:Nat):List Nat:= @Nat.rec (λZ=>List Nat) [] (λk r=>app r [Nat.add n k]) m
noncomputable def MB(x:Fl×Lo×H):Option (V×H):= @Fl.casesOn (λZ=>Option (V×H)) x.1 (some (.none,x.2.2)) none none (λv=>some (v,x.2.2))
def gB(g:G)(ih:Ih)(h:H)(a:Nat)(vs:List V):Option (V×H):=ob (atN a g.funs) λd=>gd (bn d.gen) (gd (Nat.ble (len vs) d.npos) (
 ob (fillR d.dfl (dropL (len vs) d.params)) λws=>ob (eL d.nm d.params (app vs ws) (cD d.nl [none]) (cD d.nc [none])) λlc=>
 ob (ih.s ⟨d.nm,az (len h) d.nc,0,d.cd⟩ lc.1 (app h (mp O.cell lc.2)) d.body) MB))
def qQ(ih:Ih)(h:H)(C:Nat)(cd:List (T×V))(vs:List V):Option (V×H):=ob (look w_init cd) λw=>ob (asTop w) λi=>
 ob (ih.c (app h [.sd [],.inst C (len h)]) i (.loc (Nat.succ (len h))::vs)) λr=>gd (zc r.1) (some (.loc (Nat.succ (len h)),r.2))
def jC(g:G)(ih:Ih)(h:H)(a:Nat)(vs:List V):Option (V×H):= @U9 (List (T×V)) (λZ=>Option (V×H)) (bc (Nat.beq a g.joinA) (qM h [] vs) (ih.c h a vs)) (λcd=>qQ ih h a cd vs) (atN a g.cls)
def nC(g:G)(ih:Ih)(h:H)(v:V)(vs:List V):Option (V×H):= @V.casesOn (λZ=>Option (V×H)) v none Za Za Za (λa=>jC g ih h a vs) (λn=>qJ h n vs)
 (λk=>ob (nth h k) λo=> @O.casesOn (λZ=>Option (V×H)) o Za Za Zb Za Za Za
  (λl=>ob (aL h l) λxs=>tT h l xs vs) (λl a=>ih.c h a (.loc l::vs)) Zb Za none none Za)
 Za Zb
def dI(ih:Ih)(f:Frm)(lo:Lo)(es:E):V→H→List CmpOp→Option (Bool×H):= @E.rec (λZ=>V→H→List CmpOp→Option (Bool×H)) Zc (λe es Z r a h ops=> @UO CmpOp (λZ=>Option (Bool×H)) ops none λop ops=>ob (ih.e f lo h e) λp=>ob (mh p.2 op a p.1) λb=> @UO CmpOp (λZ=>Option (Bool×H)) ops (@E.casesOn (λZ=>Option (Bool×H)) es (some (b,p.2)) Zb none Zc Zb Zd Zb Zb Zd Zb Zc Za Zf Zd Zc Zd Ze (λZ Z Z Z Z Z Z Z Z Z Z Z Z Z Z Z Z Z Z=>none) Zh Zc Zc Ze Zg Zh Zb Zc Za) λZ Z=>bc b (r p.1 p.2 ops) (some (false,p.2))) Zc Zf Ze Zi Zf Zf Zj Zf Zg Zd Zj Zi Zg Zh Zj (λZ Z Z Z Z Z Z Z Z Z Z Z Z Z Z Z Z Z Z=>(λZ Z Z=>none)) Zk Zg Zh Zk Zm (λZ Z Z Z Z Z Z Z Z Z Z Z=>(λZ Z Z=>none)) Zf Zg Zd es
inductive Src where
 |ls (k:Nat)|rg (a b:Int)|st (x:T)
def qR(h:H)(v:V):Option Src:= @V.casesOn (λZ=>Option Src) v none Za Za (λs=>some (.st s)) Za Za
 (λk=>ob (nth h k) λo=> @O.casesOn (λZ=>Option Src) o (λZ=>some (.ls k)) Za Zb Za Za Za Za Zb
  (λa b=>gd (iLt (.negSucc 1099511627775) a) (gd (iLt a (.ofNat 1099511627776)) (gd (iLt (.negSucc 1099511627775) b) (gd (iLt b (.ofNat 1099511627776)) (some (.rg a b)))))) Za none none Za)
 Za Zb
def fC(h:H)(s:Src)(i:Nat):Option (Option V):= @Src.casesOn (λZ=>Option (Option V)) s (λk=>ob (aL h k) λxs=>some (nth xs i))
 (λa b=>some (gd (iLt (Int.add a (.ofNat i)) b) (some (.int (Int.add a (.ofNat i)))))) (λx=>some (ob (nth x i) λc=>some (.str [c])))
def iZ(ih:Ih)(f:Frm)(lo:Lo)(cs:E):H→Option (Bool×H):= @E.rec (λZ=>H→Option (Bool×H)) (λh=>some (true,h)) (λc Z Z r h=>ob (ih.t f lo h c) λp=>bc p.1 (r p.2) (some (false,p.2))) Za Zd Zc Zg Zd Zd Zh Zd Ze Zb Zh Zg Ze Zf Zh (λZ Z Z Z Z Z Z Z Z Z Z Z Z Z Z Z Z Z Z=>(λZ=>none)) Zi Ze Zf Zi Zk Zm Zd Ze Zb cs
def compLoop(ih:Ih)(f:Frm)(lo:Lo)(x:T)(ifs:E)(emit:H→Option H)(src:Src)(n:Nat):H→Nat→Option H:= @Nat.rec (λZ=>H→Nat→Option H) Zb
 (λZ r h i=>ob (fC h src i) λv=> @U9 V (λZ=>Option H) (some h) (λv=>ob (bz f lo h x v) λq=>ob (iZ ih f lo ifs q.2) λp=>bc p.1 (ob (emit p.2) λh3=>r h3 (Nat.succ i)) (r p.2 (Nat.succ i))) v) n
noncomputable def aZ(nm:Nm)(gl:List (T×V))(ns:List (Str×Vr)):Nat→Nm:= @Vq (Str×Vr) (λZ=>Nat→Nm) (λZ=>[])
 (λp Z r j=> @NameKind.casesOn (λZ=>Nm) p.2 ((sT p.1,.kv)::r j) ((sT p.1,.cv j)::r (Nat.succ j)) ((sT p.1,.cv j)::r (Nat.succ j)) (r j)
  (@U9 V (λZ=>Nm) (r j) (λv=>(sT p.1,.gv v)::r j) (look (sT p.1) gl))) ns
noncomputable def tU(nm:Nm)(x:T):Option Nat:=ob (look x nm) λs=> @Slot.casesOn (λZ=>Option Nat) s Za (λj=>some j) Za none
def cf(nm:Nm)(ce:List Nat)(ns:List (Str×Vr)):Nat→Option (List Nat):= @Vq (Str×Vr) (λZ=>Nat→Option (List Nat)) (λZ=>some [])
 (λp Z r b=> @NameKind.casesOn (λZ=>Option (List Nat)) p.2 (r b) (ob (r (Nat.succ b)) λl=>some (b::l)) (ob (tU nm (sT p.1)) λj=>ob (nth ce j) λk=>ob (r b) λl=>some (k::l)) none (r b)) ns
noncomputable def bU(ns:List (Str×Vr)):List O:= @Vq (Str×Vr) (λZ=>List O) [] (λp Z r=> @NameKind.casesOn (λZ=>List O) p.2 r (.cell none::r) r r r) ns
noncomputable def gj:T:=[95,95,100,101,98,117,103,95,95]
noncomputable def dU:T:=[95,95,99,108,97,115,115,100,105,99,116,95,95]
def jD(x:T):Bool:=bc (tEq x gj) false (bn (tEq x dU))
noncomputable def mj(k:ScopeKind):Bool:= @ScopeKind.casesOn (λZ=>Bool) k false true false false false false false
def ndT(l:List T):Bool:= @Vq T (λZ=>Bool) true (λa r ih=>bc (memT a r) false (bc (jD a) ih false)) l
def EZ(sc:Scope):Bool:=bc (mj sc.kind) (ndT (mp (λp=>sT p.1) sc.names)) false
noncomputable def MC(s:Src):Bool:= @Src.casesOn (λZ=>Bool) s Ya Yb Fa
noncomputable def gm(e:E):Bool:= @E.casesOn (λZ=>Bool) e false Fb false Fc Fb Fd Fb Fb Fd Fb Fc Fa (λZ Z Z Z Z Z=>true) Fd Fc Fd Fe (λZ Z Z Z Z Z Z Z Z Z Z Z Z Z Z Z Z Z Z=>false) Fh Fc Fc Fe (λZ Z Z Z Z Z Z=>false) Fh Fb Fc Fa
def gC(g:G)(ih:Ih)(f:Frm)(lo:Lo)(h:H)(x:Str)(iter ifs:E)(scope:Scope)(acc:O)(emit:Frm→Nat→H→Option H):Option (V×H):=
 gd (bn (gm iter))<|gd (EZ scope)<|ob (ih.e f lo h iter) λp=> @Frm.casesOn (λZ=>Option (V×H)) f λnm ce Z cd=>ob (cf nm ce scope.names (Nat.add (len p.2) 2)) λce2=>
 ob (qR p.2 p.1) λsrc=>gd (MC src)<|ob (compLoop ih ⟨aZ nm g.gl scope.names 0,ce2,Nat.succ (len p.2),cd⟩ lo (sT x) ifs (emit ⟨aZ nm g.gl scope.names 0,ce2,Nat.succ (len p.2),cd⟩ (len p.2)) src 200 (app p.2 (acc:: .kd []::bU scope.names)) 0) λh3=>ob (nth h3 (Nat.succ (len p.2))) λo=>ob (oKd o) λZ=>some (.loc (len p.2),cG .dead h3 (Nat.succ (len p.2)))
noncomputable def ml(c:Const):Option V:= @Const.casesOn (λZ=>Option V) c (some .none) (λb=>some (.bool b)) (λi=>some (.int i)) Za Zb (λs=>some (.str (sT s))) Za none
def zd(ih:Ih)(f:Frm)(lo:Lo)(h:H)(e:E):Option (Option Int×H):= @E.casesOn (λZ=>Option (Option Int×H)) e (ob (ih.e f lo h e) λp=>ob (ax p.1) λi=>some (some i,p.2)) (λZ Z=>(ob (ih.e f lo h e) λp=>ob (ax p.1) λi=>some (some i,p.2))) (some (none,h)) (λZ Z Z=>(ob (ih.e f lo h e) λp=>ob (ax p.1) λi=>some (some i,p.2))) (λZ Z=>(ob (ih.e f lo h e) λp=>ob (ax p.1) λi=>some (some i,p.2))) (λZ Z Z Z=>(ob (ih.e f lo h e) λp=>ob (ax p.1) λi=>some (some i,p.2))) (λZ Z=>(ob (ih.e f lo h e) λp=>ob (ax p.1) λi=>some (some i,p.2))) (λZ Z=>(ob (ih.e f lo h e) λp=>ob (ax p.1) λi=>some (some i,p.2))) (λZ Z Z Z=>(ob (ih.e f lo h e) λp=>ob (ax p.1) λi=>some (some i,p.2))) (λZ Z=>(ob (ih.e f lo h e) λp=>ob (ax p.1) λi=>some (some i,p.2))) (λZ Z Z=>(ob (ih.e f lo h e) λp=>ob (ax p.1) λi=>some (some i,p.2))) (λZ=>(ob (ih.e f lo h e) λp=>ob (ax p.1) λi=>some (some i,p.2))) (λZ Z Z Z Z Z=>(ob (ih.e f lo h e) λp=>ob (ax p.1) λi=>some (some i,p.2))) (λZ Z Z Z=>(ob (ih.e f lo h e) λp=>ob (ax p.1) λi=>some (some i,p.2))) (λZ Z Z=>(ob (ih.e f lo h e) λp=>ob (ax p.1) λi=>some (some i,p.2))) (λZ Z Z Z=>(ob (ih.e f lo h e) λp=>ob (ax p.1) λi=>some (some i,p.2))) (λZ Z Z Z Z=>(ob (ih.e f lo h e) λp=>ob (ax p.1) λi=>some (some i,p.2))) (λZ Z Z Z Z Z Z Z Z Z Z Z Z Z Z Z Z Z Z=>(ob (ih.e f lo h e) λp=>ob (ax p.1) λi=>some (some i,p.2))) (λZ Z Z Z Z Z Z Z=>(ob (ih.e f lo h e) λp=>ob (ax p.1) λi=>some (some i,p.2))) (λZ Z Z=>(ob (ih.e f lo h e) λp=>ob (ax p.1) λi=>some (some i,p.2))) (λZ Z Z=>(ob (ih.e f lo h e) λp=>ob (ax p.1) λi=>some (some i,p.2))) (λZ Z Z Z Z=>(ob (ih.e f lo h e) λp=>ob (ax p.1) λi=>some (some i,p.2))) (λZ Z Z Z Z Z Z=>(ob (ih.e f lo h e) λp=>ob (ax p.1) λi=>some (some i,p.2))) (λZ Z Z Z Z Z Z Z=>(ob (ih.e f lo h e) λp=>ob (ax p.1) λi=>some (some i,p.2))) (λZ Z=>(ob (ih.e f lo h e) λp=>ob (ax p.1) λi=>some (some i,p.2))) (λZ Z Z=>(ob (ih.e f lo h e) λp=>ob (ax p.1) λi=>some (some i,p.2))) (λZ=>(ob (ih.e f lo h e) λp=>ob (ax p.1) λi=>some (some i,p.2)))
noncomputable def qS(c:Const):Option T:= @Const.casesOn (λZ=>Option T) c none Za Za Za Zb (λs=>some (sT s)) Za none
noncomputable def gE(e:E):Bool:= @E.casesOn (λZ=>Bool) e false Yb false Fc Fb Fd Fb Fb Fd Fb Fc Fa (λZ Z Z Z Z Z=>false) Fd Fc Fd Fe (λZ Z Z Z Z Z Z Z Z Z Z Z Z Z Z Z Z Z Z=>false) Fh Fc Fc Fe (λZ Z Z Z Z Z Z=>false) Fh Fb Fc Fa
def qT(e:E):Bool:= @E.casesOn (λZ=>Bool) e false (λZ r=>gE r) false Fc Fb Fd Fb Fb Fd Fb Fc Fa (λZ Z Z Z Z Z=>false) Fd Fc Fd Fe (λZ Z Z Z Z Z Z Z Z Z Z Z Z Z Z Z Z Z Z=>false) Fh Fc Fc Fe (λZ Z Z Z Z Z Z=>false) Fh Fb Fc Fa
def c5(ih:Ih)(f:Frm)(lo:Lo)(ps:E):H→Option (T×H):= @E.rec (λZ=>H→Option (T×H)) (λh=>some ([],h)) (λe Z Z r h=> @E.casesOn (λZ=>Option (T×H)) e none Zb none (λc Z Z=>ob (qS c) λs=>ob (r h) λq=>some (app s q.1,q.2)) Zb Zd Zb Zb Zd Zb Zc Za Zf Zd Zc Zd Ze (λZ Z Z Z Z Z Z Z Z Z Z Z Z Z Z Z Z Z Z=>none) Zh Zc Zc Ze Zg Zh Zb (λx c Z=>gd (iEq c (.negSucc 0)) (ob (ih.e f lo h x) λp=>ob (aT p.1) λs=>ob (r p.2) λq=>some (app s q.1,q.2))) Za) Za Zd Zc Zg Zd Zd Zh Zd Ze Zb Zh Zg Ze Zf Zh (λZ Z Z Z Z Z Z Z Z Z Z Z Z Z Z Z Z Z Z=>(λZ=>none)) Zi Ze Zf Zi Zk Zm Zd Ze Zb ps
def ku(h:H)(k:Nat):Option (List (T×V)):=ob (nth h k) oSd
def eT{α:Type}(g:G)(h:H)(p:Nat×Nat)(x:T)(own:V→Option α)(cl:Nat→Option α):Option α:=ob (ku h p.2) λes=> @U9 V (λZ=>Option α) (ob (atN p.1 g.cls) λcd=>ob (look x cd) λw=>ob (asTop w) cl) (λv=>ob (atN p.1 g.ia) λns=>gd (memT x ns) (own v)) (look x es)
noncomputable def c6(p:Pos):Nat:= @Pos.rec (λZ=>Nat) (λl Z Z Z=>l) p
noncomputable def kw(p:Pos):Nat:=p.endLine
noncomputable def E0(p:Pos):Nat:= @Pos.rec (λZ=>Nat) (λZ c Z Z=>c) p
noncomputable def few(n:Nat)(e:E):Bool:= @Nat.rec (λZ=>E→Bool) Fa (λZ ih e=> @E.casesOn (λZ=>Bool) e true (λZ r=>ih r) true Yc Yb Yd Yb Yb Yd Yb Yc Ya (λZ Z Z Z Z Z=>true) Yd Yc Yd (λZ Z Z Z Z=>true) (λZ Z Z Z Z Z Z Z Z Z Z Z Z Z Z Z Z Z Z=>true) (λZ Z Z Z Z Z Z Z=>true) Yc Yc (λZ Z Z Z Z=>true) (λZ Z Z Z Z Z Z=>true) (λZ Z Z Z Z Z Z Z=>true) Yb Yc Ya) n e
def ky(o:E):Bool:= @E.casesOn (λZ=>Bool) o true Yb true Yc Yb Yd Yb Yb Yd Yb Yc Ya (λZ Z Z Z Z Z=>true) Yd Yc (λZ Z args Z=>gE args) (λZ Z Z Z Z=>true) (λZ Z Z Z Z Z Z Z Z Z Z Z Z Z Z Z Z Z Z=>true) (λZ Z Z Z Z Z Z Z=>true) Yc Yc (λZ Z Z Z Z=>true) (λZ Z Z Z Z Z Z=>true) (λZ Z Z Z Z Z Z Z=>true) Yb Yc Ya
def xV(g:G)(ih:Ih)(f:Frm)(lo:Lo)(h:H)(o:E)(x:T)(args:E)(pa p:Pos):Option (V×H):=gd (Nat.beq (kw pa) (c6 p))<|gd (few 20 args)<|gd (ky o)<|ob (ih.e f lo h o) λp=>
 @U9 (Nat×Nat) (λZ=>Option (V×H)) (ob (qP g p.2 p.1 x) λm=>ob (evs ih f lo args p.2) λq=>jB g q.2 m p.1 q.1)
  (λcd=>eT g p.2 cd x (λw=>ob (evs ih f lo args p.2) λq=>nC g ih q.2 w q.1) (λa=>ob (evs ih f lo args p.2) λq=>ih.c q.2 a (p.1::q.1)))
  (ob (aH p.1) λk=>ob (nth p.2 k) fR)
noncomputable def E5(n:Nat)(v:V):Bool:= @V.casesOn (λZ=>Bool) v false Fa Fa Fa Fa (λm=>Nat.beq n m) Fa Fa Fb
noncomputable def xW:T:=[107,101,121]
def sortE(g:G)(f:Frm)(lo:Lo)(h:H)(x y key z cs m:Str)(po pb lp:Pos):Option (V×H):=gd (Nat.beq (c6 lp) g.lamL)<|gd (Nat.beq (E0 lp) g.lamC)<|gd (tEq (sT key) xW)<|gd (tEq (sT m) gi)<|gd (jD (sT z))<|gd (Nat.beq (kw po) (c6 pb))<|gd (Nat.beq f.cd g.lamCd)<|gd (bn (aV (sT cs)))<|gd (okL (sT cs))<|
 ob (nth h 0) λo0=>gd (l9 o0)<|ob (bq f lo h (sT x)) λu=>gd (E5 1 u)<|ob (bq f lo h (sT y)) λv=>ob (aH v) λk=>ob (nth h k) λo=>ob (My o) λs=>gd (okL s) (some (new h (.list [.str s])))
def xX(g:G)(ih:Ih)(f:Frm)(lo:Lo)(h:H)(x:Str)(args:E):Option (V×H):=ob (bq f lo h (sT x)) λw=>ob (evs ih f lo args h) λq=>nC g ih q.2 w q.1
def xY(g:G)(ih:Ih)(f:Frm)(lo:Lo)(h:H)(o:E)(x:T):Option (V×H):=gd (ky o)<|ob (ih.e f lo h o) λp=> @V.casesOn (λZ=>Option (V×H)) p.1 none Za Za Za
 (λc=>ob (atN c g.cls) λcd=>ob (look x cd) λv=>gd (bn (bo (asTop v))) (some (v,p.2))) Za
 (λk=>ob (nth p.2 k) λq=> @U9 (Nat×Nat) (λZ=>Option (V×H)) (ob (eG q) λZ=>gd (tEq x dT) (some (new p.2 (.bm k)))) (λcd=>eT g p.2 cd x (λv=>some (v,p.2)) (λa=>some (new p.2 (.meth k a)))) (fR q))
 Za Zb
def E6(g:G)(ih:Ih)(f:Frm)(lo:Lo)(h:H)(o i:E):Option (V×H):=ob (ih.e f lo h o) λp=>ob (ih.e f lo p.2 i) λq=>ob (EL g q.2 p.1 q.1) λv=>some (v,q.2)
def E7(ih:Ih)(f:Frm)(lo:Lo)(h:H)(o l u:E):Option (V×H):=ob (ih.e f lo h o) λp=>ob (zd ih f lo p.2 l) λa=>ob (zd ih f lo a.2 u) λb=>xR b.2 p.1 a.1 b.1
def E8(ih:Ih)(f:Frm)(lo:Lo)(h:H)(l:E)(op:Vs)(r:E):Option (V×H):=ob (ih.e f lo h l) λp=>ob (ih.e f lo p.2 r) λq=>EC q.2 op p.1 q.1
def ifE(ih:Ih)(f:Frm)(lo:Lo)(h:H)(c a b:E):Option (V×H):=ob (ih.t f lo h c) λp=>bc p.1 (ih.e f lo p.2 a) (ih.e f lo p.2 b)
noncomputable def nmE(e:E):Option Str:= @E.casesOn (λZ=>Option Str) e none Zb none Zc (λx Z=>some x) Zd Zb Zb Zd Zb Zc Za Zf Zd Zc Zd Ze (λZ Z Z Z Z Z Z Z Z Z Z Z Z Z Z Z Z Z Z=>none) Zh Zc Zc Ze Zg Zh Zb Zc Za
def setE(g:G)(f:Frm)(lo:Lo)(h:H)(e:E)(y:Str)(k:Nat):Option (V×H):=gd (Nat.beq f.cd g.lamCd)<|gd (Nat.beq k 0)<|ob (nmE e) λx=>ob (bq f lo h (sT x)) λu=>ob (aT u) λs=>
 ob (bq f lo h (sT y)) λv=>ob (aH v) λj=>ob (ku h j) λl=>gd (aV l) (some (new h (.one s)))
def itemsE(g:G)(f:Frm)(lo:Lo)(h:H)(x d m:Str)(pm pc:Pos):Option (V×H):=gd (tEq (sT m) nA)<|gd (Nat.beq (kw pm) (c6 pc))<|ob (bq f lo h (sT x)) λu=>gd (E5 7 u)<|ob (bq f lo h (sT d)) λw=>ob (asTop w) λa=>gd (Nat.blt 1 a)<|gd (Nat.beq a g.itemsA) (some (new h .dead))
def tV(ih:Ih)(f:Frm)(lo:Lo)(h:H)(l:E)(ops:List CmpOp)(cs:E):Option (Bool×H):=ob (ih.e f lo h l) λp=>dI ih f lo cs p.1 p.2 ops
def kz(ih:Ih)(lo:Lo)(elt:E)(f2:Frm)(n:Nat)(h:H):Option H:=ob (ih.e f2 lo h elt) λp=>ob (aL p.2 n) λxs=>gd (okL xs) (some (cG (.list (app xs [p.1])) p.2 n))
def kB(ih:Ih)(lo:Lo)(k v:E)(f2:Frm)(n:Nat)(h:H):Option H:=ob (ih.e f2 lo h k) λp=>ob (aT p.1) λs=>ob (ih.e f2 lo p.2 v) λq=>ob (ku q.2 n) λes=>gd (aV es) (some (cG (.sd (put s q.1 es)) q.2 n))
def tW(c:Const)(g:G)(ih:Ih)(f:Frm)(lo:Lo)(h:H):Option (V×H):=ob (ml c) λv=>some (v,h)
def ze(x:Str)(g:G)(ih:Ih)(f:Frm)(lo:Lo)(h:H):Option (V×H):=ob (bq f lo h (sT x)) λv=>some (v,h)
def tX(l:E)(op:Vs)(r:E)(g:G)(ih:Ih)(f:Frm)(lo:Lo)(h:H):Option (V×H):=E8 ih f lo h l op r
def tY(x:E)(g:G)(ih:Ih)(f:Frm)(lo:Lo)(h:H):Option (V×H):=ob (ih.e f lo h x) λp=>ob (ax p.1) λi=>some (.int (Int.neg i),p.2)
def tZ(x:E)(g:G)(ih:Ih)(f:Frm)(lo:Lo)(h:H):Option (V×H):=ob (ih.e f lo h x) λp=>ob (ny p.2 p.1) λb=>some (.bool (bn b),p.2)
def t5(c:E)(a:E)(b:E)(g:G)(ih:Ih)(f:Frm)(lo:Lo)(h:H):Option (V×H):=ifE ih f lo h c a b
def qU(es:E)(g:G)(ih:Ih)(f:Frm)(lo:Lo)(h:H):Option (V×H):=ob (evs ih f lo es h) λq=>gd (okL q.1) (some (new q.2 (.list q.1)))
def t7(es:E)(g:G)(ih:Ih)(f:Frm)(lo:Lo)(h:H):Option (V×H):=ob (evs ih f lo es h) λq=>gd (okL q.1) (some (new q.2 (.tup q.1)))
def oB(g:G)(ih:Ih)(f:Frm)(lo:Lo)(h:H):Option (V×H):=some (new h (.sd []))
def qV(e:E)(y:Str)(k:Nat)(g:G)(ih:Ih)(f:Frm)(lo:Lo)(h:H):Option (V×H):=setE g f lo h e y k
def t9(l:E)(ops:List CmpOp)(cs:E)(g:G)(ih:Ih)(f:Frm)(lo:Lo)(h:H):Option (V×H):=ob (tV ih f lo h l ops cs) λp=>some (.bool p.1,p.2)
def qW(x:Str)(args:E)(g:G)(ih:Ih)(f:Frm)(lo:Lo)(h:H):Option (V×H):=xX g ih f lo h x args
def qY(o:E)(x:Str)(pa:Pos)(args:E)(p:Pos)(g:G)(ih:Ih)(f:Frm)(lo:Lo)(h:H):Option (V×H):=xV g ih f lo h o (sT x) args pa p
def qZ(x:Str)(y:Str)(key:Str)(z:Str)(cs:Str)(m:Str)(po:Pos)(pb:Pos)(lp:Pos)(g:G)(ih:Ih)(f:Frm)(lo:Lo)(h:H):Option (V×H):=sortE g f lo h x y key z cs m po pb lp
def oC(x:Str)(d:Str)(m:Str)(pm:Pos)(pc:Pos)(g:G)(ih:Ih)(f:Frm)(lo:Lo)(h:H):Option (V×H):=itemsE g f lo h x d m pm pc
def q0(o:E)(x:Str)(g:G)(ih:Ih)(f:Frm)(lo:Lo)(h:H):Option (V×H):=xY g ih f lo h o (sT x)
def ua(o:E)(i:E)(g:G)(ih:Ih)(f:Frm)(lo:Lo)(h:H):Option (V×H):=E6 g ih f lo h o i
def ub(o:E)(l:E)(u:E)(g:G)(ih:Ih)(f:Frm)(lo:Lo)(h:H):Option (V×H):=E7 ih f lo h o l u
def oD(elt:E)(x:Str)(it:E)(ifs:E)(sc:Scope)(g:G)(ih:Ih)(f:Frm)(lo:Lo)(h:H):Option (V×H):=gC g ih f lo h x it ifs sc (.list []) (kz ih lo elt)
def oF(k:E)(v:E)(x:Str)(it:E)(ifs:E)(sc:Scope)(g:G)(ih:Ih)(f:Frm)(lo:Lo)(h:H):Option (V×H):=gC g ih f lo h x it ifs sc (.sd []) (kB ih lo k v)
def rc(ps:E)(g:G)(ih:Ih)(f:Frm)(lo:Lo)(h:H):Option (V×H):=gd (qT ps) (ob (c5 ih f lo ps h) λq=>gd (okL q.1) (some (.str q.1,q.2)))
def evF(e:E):G→Ih→Frm→Lo→H→Option (V×H):= @E.rec (λZ=>G→Ih→Frm→Lo→H→Option (V×H)) Ze Zi Ze (λx0 Z Z=>tW x0) (λx0 Z=>ze x0) (λx0 x1 x2 Z Z Z=>tX x0 x1 x2) (λx0 Z Z=>tY x0) (λx0 Z Z=>tZ x0) (λx0 x1 x2 Z Z Z Z=>t5 x0 x1 x2) (λx0 Z Z=>qU x0) (λx0 Z Z Z=>t7 x0) (λZ=>oB) (λx0 x1 Z Z x4 Z Z=>qV x0 x1 x4) (λx0 x1 x2 Z Z Z=>t9 x0 x1 x2) Zi (λx0 Z x2 Z Z=>qW x0 x2) (λx0 x1 x2 x3 x4 Z Z=>qY x0 x1 x2 x3 x4) (λx0 Z x2 Z x4 x5 x6 x7 Z Z Z Z x12 Z Z x15 x16 Z Z=>qZ x0 x2 x4 x5 x6 x7 x12 x15 x16) (λx0 Z x2 Z x4 x5 x6 Z=>oC x0 x2 x4 x5 x6) (λx0 x1 Z Z=>q0 x0 x1) (λx0 x1 Z Z Z=>ua x0 x1) (λx0 x1 x2 Z Z Z Z Z=>ub x0 x1 x2) (λx0 x1 Z x3 x4 x5 Z Z Z Z=>oD x0 x1 x3 x4 x5) (λx0 x1 x2 Z x4 x5 x6 Z Z Z Z Z=>oF x0 x1 x2 x4 x5 x6) (λx0 Z Z=>rc x0) Zi Zf e
def mn(ih:Ih)(f:Frm)(lo:Lo)(and_:Bool)(es:E):H→Option (Bool×H):= @E.rec (λZ=>H→Option (Bool×H)) (λh=>some (and_,h)) (λe Z Z r h=>ob (ih.t f lo h e) λp=>bc (bc and_ p.1 (bn p.1)) (r p.2) (some (p.1,p.2))) Za Zd Zc Zg Zd Zd Zh Zd Ze Zb Zh Zg Ze Zf Zh (λZ Z Z Z Z Z Z Z Z Z Z Z Z Z Z Z Z Z Z=>(λZ=>none)) Zi Ze Zf Zi Zk Zm Zd Ze Zb es
def rd(ih:Ih)(f:Frm)(lo:Lo)(h:H)(e:E):Option (Bool×H):=ob (ih.e f lo h e) λp=>ob (ny p.2 p.1) λb=>some (b,p.2)
def bt(e:E)(ih:Ih)(f:Frm)(lo:Lo)(h:H):Option (Bool×H):=rd ih f lo h e
def uc(x:E)(Z:E)(ih:Ih)(f:Frm)(lo:Lo)(h:H):Option (Bool×H):=ob (ih.t f lo h x) λp=>some (bn p.1,p.2)
def ud(l:E)(ops:List CmpOp)(cs:E)(Z:E)(ih:Ih)(f:Frm)(lo:Lo)(h:H):Option (Bool×H):=tV ih f lo h l ops cs
def ue(a:Bool)(es:E)(Z:E)(ih:Ih)(f:Frm)(lo:Lo)(h:H):Option (Bool×H):=mn ih f lo a es h
def tvF(e:E):E→Ih→Frm→Lo→H→Option (Bool×H):= @E.rec (λZ=>E→Ih→Frm→Lo→H→Option (Bool×H)) Ze Zi Ze (λZ Z Z=>bt) (λZ Z=>bt) (λZ Z Z Z Z Z=>bt) (λZ Z Z=>bt) (λx0 Z Z=>uc x0) (λZ Z Z Z Z Z Z=>(λZ Z Z Z Z=>none)) (λZ Z Z=>bt) (λZ Z Z Z=>bt) (λZ=>bt) (λZ Z Z Z Z Z Z=>bt) (λx0 x1 x2 Z Z Z=>ud x0 x1 x2) (λx0 x1 Z Z=>ue x0 x1) (λZ Z Z Z Z=>bt) (λZ Z Z Z Z Z Z=>bt) (λZ Z Z Z Z Z Z Z Z Z Z Z Z Z Z Z Z Z Z=>bt) (λZ Z Z Z Z Z Z Z=>bt) (λZ Z Z Z=>bt) (λZ Z Z Z Z=>bt) (λZ Z Z Z Z Z Z Z=>bt) (λZ Z Z Z Z Z Z Z Z Z=>bt) (λZ Z Z Z Z Z Z Z Z Z Z Z=>bt) (λZ Z Z=>bt) (λZ Z Z Z=>bt) Zf e
def zf(h:H)(o i v:V):Option H:=ob (aH o) λk=>ob (aL h k) λxs=>ob (eF i) λj=>gd (okL xs) (gd (Nat.blt j (len xs)) (some (cG (.list (cG v xs j)) h k)))
def rf(ih:Ih)(h:H)(o:V)(x:T)(v:V):Option H:=ob (aH o) λk=>ob (nth h k) λq=>ob (fR q) λcd=>ob (ih.ia cd.1) λns=>gd (memT x ns) (ob (ku h cd.2) λes=>gd (Nat.blt (len es) 500) (some (cG (.sd (put x v es)) h cd.2)))
def rh(x:Str)(ih:Ih)(f:Frm)(lo:Lo)(h:H)(v:V):Option (Lo×H):=bz f lo h (sT x) v
def mo(o:E)(x:Str)(ih:Ih)(f:Frm)(lo:Lo)(h:H)(v:V):Option (Lo×H):=ob (ih.e f lo h o) λp=>ob (rf ih p.2 p.1 (sT x) v) λh2=>some (lo,h2)
def oG(o:E)(i:E)(ih:Ih)(f:Frm)(lo:Lo)(h:H)(v:V):Option (Lo×H):=ob (ih.e f lo h o) λp=>ob (ih.e f lo p.2 i) λq=>ob (zf q.2 p.1 q.1 v) λh3=>some (lo,h3)
def xZ(e:E):Ih→Frm→Lo→H→V→Option (Lo×H):= @E.rec (λZ=>Ih→Frm→Lo→H→V→Option (Lo×H)) Ze Zi Ze Zh (λx0 Z=>rh x0) Zk Zh Zh (λZ Z Z Z Z Z Z=>(λZ Z Z Z Z=>none)) Zh Zi Zf (λZ Z Z Z Z Z Z=>(λZ Z Z Z Z=>none)) Zk Zi Zj (λZ Z Z Z Z Z Z=>(λZ Z Z Z Z=>none)) (λZ Z Z Z Z Z Z Z Z Z Z Z Z Z Z Z Z Z Z=>(λZ Z Z Z Z=>none)) Zm (λx0 x1 Z Z=>mo x0 x1) (λx0 x1 Z Z Z=>oG x0 x1) Zm (λZ Z Z Z Z Z Z Z Z Z=>(λZ Z Z Z Z=>none)) (λZ Z Z Z Z Z Z Z Z Z Z Z=>(λZ Z Z Z Z=>none)) Zh Zi Zf e
def bG(ih:Ih)(f:Frm)(lo:Lo)(h:H)(v:V)(t:E):Option (Lo×H):=xZ t ih f lo h v
def jE(ih:Ih)(f:Frm)(ts:E):Lo→H→List V→Option (Lo×H):= @E.rec (λZ=>Lo→H→List V→Option (Lo×H)) (λlo h vs=>oA vs (some (lo,h))) (λt Z Z r lo h vs=> @UO V (λZ=>Option (Lo×H)) vs none λv ws=>ob (bG ih f lo h v t) λq=>r q.1 q.2 ws) Zc Zf Ze Zi Zf Zf Zj Zf Zg Zd Zj Zi Zg Zh Zj (λZ Z Z Z Z Z Z Z Z Z Z Z Z Z Z Z Z Z Z=>(λZ Z Z=>none)) Zk Zg Zh Zk Zm (λZ Z Z Z Z Z Z Z Z Z Z Z=>(λZ Z Z=>none)) Zf Zg Zd ts
def asg(ih:Ih)(f:Frm)(lo:Lo)(h:H)(v:V)(t:E):Option (Lo×H):= @E.casesOn (λZ=>Option (Lo×H)) t (bG ih f lo h v t) (λZ Z=>(bG ih f lo h v t)) (bG ih f lo h v t) (λZ Z Z=>(bG ih f lo h v t)) (λZ Z=>(bG ih f lo h v t)) (λZ Z Z Z=>(bG ih f lo h v t)) (λZ Z=>(bG ih f lo h v t)) (λZ Z=>(bG ih f lo h v t)) (λZ Z Z Z=>(bG ih f lo h v t)) (λZ Z=>(bG ih f lo h v t)) (λts Z Z=>ob (aH v) λk=>ob (nth h k) λo=>ob (oq o) λvs=>jE ih f ts lo h vs) (λZ=>(bG ih f lo h v t)) (λZ Z Z Z Z Z=>(bG ih f lo h v t)) (λZ Z Z Z=>(bG ih f lo h v t)) (λZ Z Z=>(bG ih f lo h v t)) (λZ Z Z Z=>(bG ih f lo h v t)) (λZ Z Z Z Z=>(bG ih f lo h v t)) (λZ Z Z Z Z Z Z Z Z Z Z Z Z Z Z Z Z Z Z=>(bG ih f lo h v t)) (λZ Z Z Z Z Z Z Z=>(bG ih f lo h v t)) (λZ Z Z=>(bG ih f lo h v t)) (λZ Z Z=>(bG ih f lo h v t)) (λZ Z Z Z Z=>(bG ih f lo h v t)) (λZ Z Z Z Z Z Z=>(bG ih f lo h v t)) (λZ Z Z Z Z Z Z Z=>(bG ih f lo h v t)) (λZ Z=>(bG ih f lo h v t)) (λZ Z Z=>(bG ih f lo h v t)) (λZ=>(bG ih f lo h v t))
def gF(ih:Ih)(f:Frm)(v:V)(ts:E):Lo→H→Option (Lo×H):= @E.rec (λZ=>Lo→H→Option (Lo×H)) (λlo h=>some (lo,h)) (λt Z Z r lo h=>ob (asg ih f lo h v t) λq=>r q.1 q.2) Zb Ze Zd Zh Ze Ze Zi Ze Zf Zc Zi Zh Zf Zg Zi (λZ Z Z Z Z Z Z Z Z Z Z Z Z Z Z Z Z Z Z=>(λZ Z=>none)) Zj Zf Zg Zj (λZ Z Z Z Z Z Z Z Z Z=>(λZ Z=>none)) (λZ Z Z Z Z Z Z Z Z Z Z Z=>(λZ Z=>none)) Ze Zf Zc ts
abbrev R3:=Fl×Lo×H
noncomputable def kC(x:R3)(go:Lo→H→Option R3):Option R3:= @Fl.casesOn (λZ=>Option R3) x.1 (go x.2.1 x.2.2) (some (.next,x.2)) (go x.2.1 x.2.2) (λv=>some (.ret v,x.2))
def forLoop(ih:Ih)(f:Frm)(tgt:E)(body orelse:S)(src:Src)(n:Nat):Lo→H→Nat→Option R3:= @Nat.rec (λZ=>Lo→H→Nat→Option R3) Zc
 (λZ r lo h i=>ob (fC h src i) λv=> @U9 V (λZ=>Option R3) (ih.s f lo h orelse) (λv=>ob (asg ih f lo h v tgt) λq=>ob (ih.s f q.1 q.2 body) λx=>kC x λlo2 h2=>r lo2 h2 (Nat.succ i)) v) n
def et(ih:Ih)(f:Frm)(test:E)(body:S)(n:Nat):Lo→H→Option R3:= @Nat.rec (λZ=>Lo→H→Option R3) Zb
 (λZ r lo h=>ob (ih.t f lo h test) λp=>bc p.1 (ob (ih.s f lo p.2 body) λx=>kC x r) (some (.next,lo,p.2))) n
noncomputable def zg(x:Fl):Bool:= @Fl.casesOn (λZ=>Bool) x true false false Fa
def kD(h:H)(v:V):Option (V×Nat):=ob (aH v) λk=>ob (aL h k) λxs=>one xs λy=>some (y,k)
def gG(h:H)(l:List V):Option Unit:= @Vq V (λZ=>Option Unit) (some ()) (λv Z r=>ob (aH v) λk=>ob (aL h k) λxs=>gd (aV xs) r) l
def rj{α:Type}(l:List α):Option (α×List α):= @UO α (λZ=>Option (α×List α)) l none (λa r=>some (a,r))
def gforS(ih:Ih)(f:Frm)(lo:Lo)(h:H)(t:E)(s m:Str)(pm:Pos)(s':Str)(ps':Pos)(a:Str)(pa pc:Pos)(b:S):Option R3:=gd (tEq (sT m) w_iter_namespaces)<|gd (Nat.beq (kw pm) (c6 pc))<|
 ob (bq f lo h (sT s)) λu=>ob (aH u) λk=>ob (nth h k) λo=>ob (fR o) λcd=>ob (ih.mt cd.1) λZ=>ob (ku h cd.2) λes=>gd (bn (bo (look w_iter_namespaces es)))<|
 ob (ih.e f lo h (.attr (.nm s' ps') a pa)) λq=>ob (aH q.1) λl=>ob (aL q.2 l) λxs=>ob (rj xs) λy=>ob (kD q.2 y.1) λz=>ob (gG q.2 y.2) λZ=>
 ob (asg ih f lo q.2 z.1 t) λr=>ob (ih.s f r.1 r.2 b) λx=>gd (zg x.1)<|ob (aL x.2.2 z.2) λl2=>one l2 λZ=>some (.next,x.2)
def E9(ih:Ih)(f:Frm)(lo:Lo)(h:H)(tgt it:E)(body orelse:S):Option R3:=gd (bn (gm it))<|ob (ih.e f lo h it) λp=>ob (qR p.2 p.1) λsrc=>forLoop ih f tgt body orelse src 200 lo p.2 0
noncomputable def bV(e:E):Bool:= @E.casesOn (λZ=>Bool) e false Fb false Fc Fb Fd Fb Fb Fd Fb Fc Fa (λZ Z Z Z Z Z=>false) Fd Fc Fd Fe (λZ Z Z Z Z Z Z Z Z Z Z Z Z Z Z Z Z Z Z=>false) Fh Fc Fc Fe (λZ Z Z Z Z Z Z=>true) (λZ Z Z Z Z Z Z Z=>true) Fb Fc Fa
noncomputable def cP(e:E):Bool:= @E.casesOn (λZ=>Bool) e false Fb false Fc Fb Fd Fb Fb Fd Fb Yc Fa (λZ Z Z Z Z Z=>false) Fd Fc Fd Fe (λZ Z Z Z Z Z Z Z Z Z Z Z Z Z Z Z Z Z Z=>false) Fh Fc Fc Fe (λZ Z Z Z Z Z Z=>false) Fh Fb Fc Fa
def ya(e:E):Bool:= @E.casesOn (λZ=>Bool) e true (λt Z=>bn (cP t)) true Yc Yb Yd Yb Yb Yd Yb Yc Ya (λZ Z Z Z Z Z=>true) Yd Yc Yd (λZ Z Z Z Z=>true) (λZ Z Z Z Z Z Z Z Z Z Z Z Z Z Z Z Z Z Z=>true) (λZ Z Z Z Z Z Z Z=>true) Yc Yc (λZ Z Z Z Z=>true) (λZ Z Z Z Z Z Z=>true) (λZ Z Z Z Z Z Z Z=>true) Yb Yc Ya
noncomputable def jF(e:E):Bool:= @E.casesOn (λZ=>Bool) e false Fb false Fc Fb Fd Fb Fb Fd Fb Fc Fa (λZ Z Z Z Z Z=>false) Fd Fc Fd Fe (λZ Z Z Z Z Z Z Z Z Z Z Z Z Z Z Z Z Z Z=>false) Fh Yc Fc Fe (λZ Z Z Z Z Z Z=>false) Fh Fb Fc Fa
noncomputable def zh(f:Frm)(x:T):Bool:= @Frm.rec (λZ=>Bool) (λnm Z Z Z=> @U9 Slot (λZ=>Bool) false (λs=> @Slot.casesOn (λZ=>Bool) s Ya Fa Fa false) (look x nm)) f
def Ff(ih:Ih)(f:Frm)(lo:Lo)(h:H)(x:Str)(px:Pos)(y:Str)(py:Pos)(a b:E):Option R3:=gd (jF a) (gd (Nat.beq (c6 px) (c6 py)) (gd (bn (tEq (sT x) (sT y))) (gd (zh f (sT x)) (gd (zh f (sT y)) (
 ob (ih.e f lo h a) λp=>ob (ih.e f lo p.2 b) λq=>ob (bz f lo (app q.2 [.tup [p.1,q.1]]) (sT y) q.1) λr=>ob (bz f r.1 r.2 (sT x) p.1) λt=>some (.next,t))))))
def Fi(ih:Ih)(f:Frm)(lo:Lo)(h:H)(ts e:E):Option R3:=gd (bc (cP e) (ya ts) true)<|ob (ih.e f lo h e) λp=>ob (gF ih f p.1 ts lo p.2) λq=>some (.next,q)
def Fj(ih:Ih)(f:Frm)(lo:Lo)(h:H)(x:Str)(op:Vs)(e:E):Option R3:=gd (bc (dR 0 op) true (dR 10 op))<|ob (bq f lo h (sT x)) λa=>ob (ih.e f lo h e) λp=>ob (ax a) λi=>ob (ax p.1) λj=>ob (zb op i j) λz=>ob (bz f lo p.2 (sT x) (.int z)) λq=>some (.next,q)
def Fk(ih:Ih)(f:Frm)(lo:Lo)(h:H)(o:E):Option R3:=ob (ih.e f lo h o) λp=>ob (aH p.1) λk=>ob (aL p.2 k) λxs=>gd (okL xs) (some (.next,lo,cG (.list []) p.2 k))
def Fm(f:Frm)(lo:Lo)(h:H)(x c m r:Str)(pa pw:Pos):Option R3:=gd (tEq (sT m) iY) (gd (Nat.beq (kw pa) (c6 pw)) (ob (bq f lo h (sT x)) λv=>ob (aT v) λs=>one (sT c) λk=>gd (bn (tEq (sT c) (sT r))) (gd (okL s) (gd (okL (sT r))
 (bc (ou k s) (ob (bz f lo h (sT x) (.str (dH (sT r) (spl (sT c) s 0 [])))) λq=>some (.next,q)) (some (.next,lo,h)))))))
def ifS(ih:Ih)(f:Frm)(lo:Lo)(h:H)(c:E)(a b:S):Option R3:=ob (ih.t f lo h c) λp=>bc p.1 (ih.s f lo p.2 a) (ih.s f lo p.2 b)
def rk(e:E)(ih:Ih)(f:Frm)(lo:Lo)(h:H):Option R3:=gd (bn (bV e)) (ob (ih.e f lo h e) λp=>some (.next,lo,p.2))
noncomputable def uf(ih:Ih)(f:Frm)(lo:Lo)(h:H):Option R3:=some (.brk,lo,h)
noncomputable def rm(ih:Ih)(f:Frm)(lo:Lo)(h:H):Option R3:=some (.ret .none,lo,h)
noncomputable def ug(e:E)(ih:Ih)(f:Frm)(lo:Lo)(h:H):Option R3:=ob (ih.e f lo h e) λp=>some (.ret p.1,lo,p.2)
def uh(ts:E)(e:E)(ih:Ih)(f:Frm)(lo:Lo)(h:H):Option R3:=Fi ih f lo h ts e
def ui(x:Str)(px:Pos)(y:Str)(py:Pos)(a:E)(b:E)(ih:Ih)(f:Frm)(lo:Lo)(h:H):Option R3:=Ff ih f lo h x px y py a b
def uj(x:Str)(op:Vs)(e:E)(ih:Ih)(f:Frm)(lo:Lo)(h:H):Option R3:=Fj ih f lo h x op e
def uk(c:E)(a:S)(b:S)(ih:Ih)(f:Frm)(lo:Lo)(h:H):Option R3:=ifS ih f lo h c a b
def mq(c:E)(b:S)(ih:Ih)(f:Frm)(lo:Lo)(h:H):Option R3:=et ih f c b 200 lo h
def rn(t:E)(it:E)(b:S)(o:S)(ih:Ih)(f:Frm)(lo:Lo)(h:H):Option R3:=E9 ih f lo h t it b o
def ro(t:E)(s:Str)(m:Str)(pm:Pos)(s2:Str)(ps2:Pos)(a:Str)(pa:Pos)(pc:Pos)(b:S)(ih:Ih)(f:Frm)(lo:Lo)(h:H):Option R3:=gforS ih f lo h t s m pm s2 ps2 a pa pc b
def ul(o:E)(ih:Ih)(f:Frm)(lo:Lo)(h:H):Option R3:=Fk ih f lo h o
def rp(b:S)(hs:List ExceptHandler)(ih:Ih)(f:Frm)(lo:Lo)(h:H):Option R3:=gd (bn (aV hs)) (ih.s f lo h b)
def um(x:Str)(c:Str)(m:Str)(r:Str)(pa:Pos)(pw:Pos)(ih:Ih)(f:Frm)(lo:Lo)(h:H):Option R3:=Fm f lo h x c m r pa pw
def ex1(e:S):Ih→Frm→Lo→H→Option R3:= @S.rec (λZ=>Ih→Frm→Lo→H→Option R3) Zd Zh (λx0 Z=>rk x0) (λZ=>uf) (λZ=>rm) (λx0 Z=>ug x0) (λx0 x1 Z=>uh x0 x1) (λx0 x1 x2 x3 Z Z x6 x7 Z Z Z=>ui x0 x1 x2 x3 x6 x7) (λx0 Z x2 x3 Z=>uj x0 x2 x3) (λx0 x1 x2 Z Z Z=>uk x0 x1 x2) (λx0 x1 Z Z=>mq x0 x1) (λx0 x1 x2 x3 Z Z Z=>rn x0 x1 x2 x3) (λx0 x1 Z x3 x4 x5 x6 x7 x8 x9 x10 Z Z=>ro x0 x1 x3 x4 x5 x6 x7 x8 x9 x10) (λx0 Z Z Z=>ul x0) (λx0 x1 Z Z=>rp x0 x1) (λx0 x1 x2 x3 Z Z Z Z Z Z Z Z x12 Z Z x15 Z Z=>um x0 x1 x2 x3 x12 x15) Ze e
def exF(ih:Ih)(f:Frm)(b:S):Lo→H→Option R3:= @S.rec (λZ=>Lo→H→Option R3) (λlo h=>some (.next,lo,h)) (λs Z Z r lo h=>ob (ex1 s ih f lo h) λx=>bc (zg x.1) (r x.2.1 x.2.2) (some x)) Zd Zc Zc Zd Ze Zm Zg Zh Zf Zi (λZ Z Z Z Z Z Z Z Z Z Z Z Z=>(λZ Z=>none)) Zf Zf (λZ Z Z Z Z Z Z Z Z Z Z Z Z Z Z Z Z Z=>(λZ Z=>none)) Zc b
def step(g:G)(con:H→Nat→List V→Option (V×H))(ih:Ih):Ih where
 e f lo h e:=evF e g ih f lo h
 t f lo h e:=tvF e e ih f lo h
 s f lo h b:=exF ih f b lo h
 c h a vs:= @U9 (V×H) (λZ=>Option (V×H)) (gB g ih h a vs) (λr=>some r) (con h a vs)
 ia a:=atN a g.ia
 mt a:=ob (atN a g.cls) λcd=>ob (look w_iter_namespaces cd) λw=>ob (asTop w) λfn=>gd (Nat.beq fn g.genA) (some fn)
noncomputable def ih0:Ih:=⟨λZ Z Z Z=>none,λZ Z Z Z=>none,λZ Z Z Z=>none,λZ Z Z=>none,λZ=>none,λZ=>none⟩
def itp(g:G)(con:H→Nat→List V→Option (V×H))(n:Nat):Ih:= @Nat.rec (λZ=>Ih) ih0 (λZ ih=>step g con ih) n
end
section
theorem rq{ih f lo e h x}{P:Prop}(q:fS e)(hv:evs ih f lo e h=some x):P:=noK (congrFun (q _ _ _ _:evs ih f lo e=λZ=>none) h) hv
theorem rs{ih f lo e h x}{P:Prop}(q:fS e)(hv:iZ ih f lo e h=some x):P:=noK (congrFun (q _ _ _ _:iZ ih f lo e=λZ=>none) h) hv
theorem oH{ih f lo e h x}{P:Prop}(q:fS e)(hv:c5 ih f lo e h=some x):P:=noK (congrFun (q _ _ _ _:c5 ih f lo e=λZ=>none) h) hv
theorem uo{ih f lo a e h x}{P:Prop}(q:fS e)(hv:mn ih f lo a e h=some x):P:=noK (congrFun (q _ _ _ _:mn ih f lo a e=λZ=>none) h) hv
theorem kE{ih f lo e a h o x}{P:Prop}(q:fS e)(hv:dI ih f lo e a h o=some x):P:=noK (congrFun (congrFun (congrFun (q _ _ _ _:dI ih f lo e=λZ Z Z=>none) a) h) o) hv
theorem nD{ih f lo e h vs x}{P:Prop}(q:fS e)(hv:jE ih f e lo h vs=some x):P:=noK (congrFun (congrFun (congrFun (q _ _ _ _:jE ih f e=λZ Z Z=>none) lo) h) vs) hv
theorem gn{ih f lo v e h x}{P:Prop}(q:fS e)(hv:gF ih f v e lo h=some x):P:=noK (congrFun (congrFun (q _ _ _ _:gF ih f v e=λZ Z=>none) lo) h) hv
theorem zi{ih f lo b h x}{P:Prop}(q:xQ b)(hv:exF ih f b lo h=some x):P:=noK (congrFun (congrFun (q _ _ _ _:exF ih f b=λZ Z=>none) lo) h) hv
noncomputable def mkS(x:T):Str:=⟨x.toArray⟩
theorem zj(x:T):sT (mkS x)=x:=rfl
theorem MD(s:Str):mkS (sT s)=s:=rfl
def cF(n:Nat):Value:=if n=0 then .builtin "len" else if n=1 then .builtin "sorted" else if n=2 then .type "range" else if n=3 then .builtin "hex" else if n=4 then .builtin "sum" else if n=5 then .builtin "max" else if n=6 then .type "tuple" else if n=7 then .type "list" else if n=8 then .type "set" else if n=9 then .type "reversed" else .none
def VR(ρ:List Addr):V→Value→Prop
 | .none,v=>v= .none
 | .bool b,v=>v= .bool b
 | .int i,v=> ∃t,v= .int i t
 | .str s,v=> ∃t,v= .str (mkS s) t
 | .top a,v=>v= .ref a
 | .prim n,v=>v=cF n
 | .loc k,v=> ∃a,ρ[k]? =some a∧v= .ref a
 | .m32 r,v=> ∃(n:Int) (t:Tok),v= .int n t∧n%32=(r:Int)
 | .sh r p,v=> ∃(n:Int) (t:Tok),v= .int (n>>>p) t∧n%32=(r:Int)
inductive VsR (ρ:List Addr):List V→List Value→Prop
 |nil:VsR ρ [] []
 |cons {v:V} {w:Value} {vs:List V} {ws:List Value}:VR ρ v w→VsR ρ vs ws→VsR ρ (v::vs) (w::ws)
def Ext(ρ ρ':List Addr):Prop:= ∃r,ρ'=ρ++r
theorem Ext.refl(ρ:List Addr):Ext ρ ρ:=⟨[],by simp⟩
theorem Ext.trans{a b c:List Addr}:Ext a b→Ext b c→Ext a c:=λ⟨r,e⟩ ⟨q,f⟩=>⟨r++q,by rw[f,e,TQ]⟩
theorem Ext.push(ρ:List Addr)(a:Addr):Ext ρ (ρ++[a]):=⟨[a],rfl⟩
theorem Ext.get{ρ ρ':List Addr}(x:Ext ρ ρ'){k:Nat}{a:Addr}(h:ρ[k]? =some a):ρ'[k]? =some a:=by
 obtain⟨r,rfl⟩:=x
 rw[S4 (by rw[S3]at h;exact h.1)];exact h
theorem VR.ext{ρ ρ':List Addr}(x:Ext ρ ρ'){v:V}{w:Value}(h:VR ρ v w):VR ρ' v w:=by
 cases v with
 |loc k=>obtain⟨a,h1,h2⟩:=h;exact⟨a,x.get h1,h2⟩
 |_=>exact h
theorem VsR.ext{ρ ρ':List Addr}(x:Ext ρ ρ'){vs:List V}{ws:List Value}(h:VsR ρ vs ws):VsR ρ' vs ws:=by
 induction h with
 |nil=>exact .nil
 |cons h _ ih=>exact .cons (h.ext x) ih
theorem VsR.length{ρ:List Addr}{vs:List V}{ws:List Value}(h:VsR ρ vs ws):ws.length=vs.length:=by
 induction h with
 |nil=>rfl
 |cons _ _ ih=>simp[ih]
theorem VsR.append{ρ:List Addr}{vs vs':List V}{ws ws':List Value}(h:VsR ρ vs ws)(h':VsR ρ vs' ws'):VsR ρ (vs++vs') (ws++ws'):=by
 induction h with
 |nil=>exact h'
 |cons a _ ih=>exact .cons a ih
theorem VsR.get{ρ:List Addr}: ∀{vs:List V} {ws:List Value} {k:Nat} {v:V},VsR ρ vs ws→vs[k]? =some v→ ∃w,ws[k]? =some w∧VR ρ v w
 |_,_,0,_,.cons a _,h=>by cases h;exact⟨_,rfl,a⟩
 |_,_,k+1,_,.cons _ r,h=>by simpa using r.get (by simpa using h)
theorem VsR.none_of{ρ:List Addr}{vs:List V}{ws:List Value}{k:Nat}(r:VsR ρ vs ws)(h:vs[k]? =none):ws[k]? =none:=by
 rw[List.getElem?_eq_none_iff]at h⊢;rw[r.length];exact h
theorem VsR.set{ρ:List Addr}{v:V}{w:Value}(hv:VR ρ v w): ∀{vs:List V} {ws:List Value} {k:Nat},VsR ρ vs ws→VsR ρ (vs.set k v) (ws.set k w)
 |_,_,_,.nil=> .nil
 |_,_,0,.cons _ r=> .cons hv r
 |_,_,_+1,.cons a r=> .cons a (r.set hv)
theorem VsR.take{ρ:List Addr}: ∀{vs:List V} {ws:List Value} (k:Nat),VsR ρ vs ws→VsR ρ (vs.take k) (ws.take k)
 |_,_,0,_=>by simp;exact .nil
 |_,_,_+1,.nil=> .nil
 |_,_,_+1,.cons a r=> .cons a (r.take _)
theorem VsR.drop{ρ:List Addr}: ∀{vs:List V} {ws:List Value} (k:Nat),VsR ρ vs ws→VsR ρ (vs.drop k) (ws.drop k)
 |_,_,0,h=>h
 |_,_,_+1,.nil=> .nil
 |_,_,_+1,.cons _ r=>r.drop _
inductive SdR (P:Params) (ρ:List Addr):List (T×V)→List Vk→Prop
 |nil:SdR P ρ [] []
 |cons {x:T} {v:V} {t:Tok} {w:Value} {es:List (T×V)} {ds:List Vk}:VR ρ v w→SdR P ρ es ds→SdR P ρ ((x,v)::es) (⟨Ur P (mkS x),.str (mkS x) t,w⟩::ds)
theorem SdR.ext{P:Params}{ρ ρ':List Addr}(x:Ext ρ ρ'){es:List (T×V)}{ds:List Vk}(h:SdR P ρ es ds):SdR P ρ' es ds:=by
 induction h with
 |nil=>exact .nil
 |cons h _ ih=>exact .cons (h.ext x) ih
theorem SdR.length{P:Params}{ρ:List Addr}{es:List (T×V)}{ds:List Vk}(h:SdR P ρ es ds):ds.length=es.length:=by
 induction h with
 |nil=>rfl
 |cons _ _ ih=>simp[ih]
theorem bW{x y:T}(h:mkS x=mkS y):x=y:=by
 have:=congrArg sT h
 simpa[zj]using this
theorem i7(x y:T)(t:Tok):(Value.str (mkS x) t).isStr (mkS y)=tEq y x:=by
 show(mkS x==mkS y)=_
 cases h:tEq y x with
 |true=>rw[au.mp h];simp
 |false=>have:=cK h;simp;exact λe=>this (bW e).symm
structure Wd where
 prog:Program
 w:World
 lam:Addr→Obj→Obj→Prop
 tabA:Addr
abbrev cQ(h:Int)(x:Value)(n:Nat)(t:SetTable):Obj:={cls:= .type "set",dict:=none,data:= .set #[(h,x)] n t}
def ME(w:World)(s:T)(o:Obj):Prop:= ∃tk n t1,o=cQ (hashStr w (mkS s)) (.str (mkS s) tk) n t1∧(∃j,t1.place= #[j])∧t1.dummies= #[]∧(t1.mask=7∨t1.mask=8)∧t1.led= !w.params.followText "set-order"
def OR(D:Wd)(ρ:List Addr)(ξ:List (Addr×Obj)):O→Obj→Prop
 | .list xs,o=> ∃vs n,o=Vv vs.toArray n∧VsR ρ xs vs
 | .tup xs,o=> ∃vs,o={cls:= .type "tuple",data:= .seq vs.toArray}∧VsR ρ xs vs
 | .inst c d,o=> ∃dx,ρ[d]? =some dx∧o=instObj c dx
 | .sd es,o=> ∃ds n,o=Vy ds n∧SdR D.w.params ρ es ds
 | .cell v,o=> ∃w,o.data= .cell w∧(∀v',v=some v'→ ∃w',w=some w'∧VR ρ v' w')
 | .set xs,o=>o.SetObjOf (strKind D.prog D.w) (λk=>xs.any λx=>mkS x==k) xs.length
 | .bm k,o=> ∃a,ρ[k]? =some a∧o.cls= .type "builtin_function_or_method"∧o.data= .fields #[.builtin "list.append",.ref a]
 | .meth k f,o=> ∃a,ρ[k]? =some a∧o=methodObj (.ref f) (.ref a)
 | .rng a b,o=> ∃t u v,o={cls:= .type "range",dict:=none,data:= .fields #[.int a t,.int b u,.int 1 v],slots:= #[]}
 | .kd es,o=> ∃ds ep,o.data= .dict ds ep∧StrKeys ds∧ ∀x v,look x es=some v→ ∃w,nsFind ds (mkS x)=some w∧VR ρ v w
 | .dead,o=> ∀vs q tk,o.data= .fields vs→vs[1]? ≠some (.str q tk)
 | .ltab,o=>ρ[0]? =some D.tabA∧(o=X.tableObj #[]∨ ∃p∈ξ,D.lam p.1 p.2 o)
 | .one s,o=>ME D.w s o
theorem OR.ext{D:Wd}{ρ ρ':List Addr}{ξ:List (Addr×Obj)}(x:Ext ρ ρ'){o:O}{b:Obj}(h:OR D ρ ξ o b):OR D ρ' ξ o b:=by
 cases o with
 |list xs=>obtain⟨vs,n,a,c⟩:=h;exact⟨vs,n,a,c.ext x⟩
 |tup xs=>obtain⟨vs,a,c⟩:=h;exact⟨vs,a,c.ext x⟩
 |inst c d=>obtain⟨dx,a,b⟩:=h;exact⟨dx,x.get a,b⟩
 |sd es=>obtain⟨ds,n,a,c⟩:=h;exact⟨ds,n,a,c.ext x⟩
 |cell v=>obtain⟨w,a,c⟩:=h;exact⟨w,a,λv' e=>let ⟨w',p,q⟩:=c v' e;⟨w',p,q.ext x⟩⟩
 |bm k=>obtain⟨a,p,q⟩:=h;exact⟨a,x.get p,q⟩
 |meth k f=>obtain⟨a,p,q⟩:=h;exact⟨a,x.get p,q⟩
 |ltab=>exact⟨x.get h.1,h.2⟩
 |kd es=>obtain⟨ds,ep,a,b,c⟩:=h;exact⟨ds,ep,a,b,λy v e=>let ⟨w,p,q⟩:=c y v e;⟨w,p,q.ext x⟩⟩
 |_=>exact h
theorem OR.frz{D:Wd}{ρ:List Addr}{ξ ξ':List (Addr×Obj)}(x: ∀p∈ξ,p∈ξ'){o:O}{b:Obj}(h:OR D ρ ξ o b):OR D ρ ξ' o b:=by
 cases o with
 |ltab=>exact⟨h.1,h.2.imp id λ⟨p,hp,q⟩=>⟨p,x p hp,q⟩⟩
 |_=>exact h
theorem mr{l:List Addr}(h:l.Nodup){i j:Nat}{a:Addr}(hi: ∃p:i<l.length,l[i]=a)(hj: ∃p:j<l.length,l[j]=a):i=j:=by
 obtain⟨p,e⟩:=hi
 obtain⟨q,f⟩:=hj
 rw[S2,S6]at h
 rcases Nat.lt_trichotomy i j with c|c|c
 · exact absurd (e.trans f.symm) (h i j p q c)
 · exact c
 · exact absurd (f.trans e.symm) (h j i q p c)
structure Led(D:Wd)(h₀:Heap)(L:Addr)(hp:Heap)(ρ:List Addr)(ξ:List (Addr×Obj))(h:H):Prop where
 len:ρ.length=h.length
 nd:ρ.Nodup
 obj: ∀(k:Nat) (a:Addr) (o:O),ρ[k]? =some a→h[k]? =some o→ ∃b,hp.get? a=some b∧OR D ρ ξ o b
 new: ∀a∈ρ,h₀.get? a=none∧a≠L∧1<a
 frz: ∀p∈ξ,hp.get? p.1=some p.2∧h₀.get? p.1=none∧p.1≠L∧p.1∉ρ
section
variable{D:Wd}{h₀ hp hp':Heap}{L:Addr}{ρ:List Addr}{ξ:List (Addr×Obj)}{h:H}
theorem Led.lt(Y:Led D h₀ L hp ρ ξ h){a:Addr}(ha:a∈ρ):a<hp.objs.size:=by
 obtain⟨k,hk⟩:=Ts ha
 have hl:k<h.length:=by rw[←Y.len];rw[S3]at hk;exact hk.1
 obtain⟨b,hb,_⟩:=Y.obj k a h[k] hk (S7 hl)
 exact UN hb
theorem Led.at(Y:Led D h₀ L hp ρ ξ h){k:Nat}{o:O}(hk:h[k]? =some o): ∃a b,ρ[k]? =some a∧hp.get? a=some b∧OR D ρ ξ o b:=by
 have hl:k<ρ.length:=by rw[Y.len];rw[S3]at hk;exact hk.1
 obtain⟨b,hb,r⟩:=Y.obj k ρ[k] o (S7 hl) hk
 exact⟨_,b,S7 hl,hb,r⟩
theorem Led.keeps(Y:Led D h₀ L hp ρ ξ h)(k: ∀b o,b≠L→h₀.get? b=none→hp.get? b=some o→hp'.get? b=some o):Led D h₀ L hp' ρ ξ h:=
 ⟨Y.len,Y.nd,λi a o ha ho=>by
  obtain⟨b,hb,r⟩:=Y.obj i a o ha ho
  have hm:=Y.new a (Tq ha)
  exact⟨b,k a b hm.2.1 hm.1 hb,r⟩,Y.new,λp hp=>⟨k _ _ (Y.frz p hp).2.2.1 (Y.frz p hp).2.1 (Y.frz p hp).1,(Y.frz p hp).2⟩⟩
theorem Led.grown(Y:Led D h₀ L hp ρ ξ h)(k: ∀b o,hp.get? b=some o→hp'.get? b=some o):Led D h₀ L hp' ρ ξ h:=Y.keeps λb o Z Z e=>k b o e
theorem Led.push(Y:Led D h₀ L hp ρ ξ h){m:Str→Option Value}(F:Fr h₀ L hp m){o:O}{b:Obj}{a:Addr}(hz:1<hp.objs.size)(ha:hp.objs.size≤a)(hb:hp'.get? a=some b)(hf:OR D (ρ++[a]) ξ o b)
 (k: ∀b o,hp.get? b=some o→hp'.get? b=some o):Led D h₀ L hp' (ρ++[a]) ξ (h++[o]):=by
 have Y':=Y.grown k
 have hna:a∉ρ:=λq=>Nat.lt_irrefl _ (TH (Y.lt q) ha)
 refine⟨by simp[Y.len],?_,λi x o' hx ho=> ?_,λx hx=> ?_,λp hp=> ?_⟩
 · rw[List.nodup_append]
   exact⟨Y.nd,by simp,λx hx y hy e=>by rw[TF]at hy;subst hy;subst e;exact hna hx⟩
 · by_cases q:i<ρ.length
   · rw[S4 q]at hx
     rw[S4 (by rw[←Y.len];exact q)]at ho
     obtain⟨b',hb',r⟩:=Y'.obj i x o' hx ho
     exact⟨b',hb',r.ext (.push ρ a)⟩
   · have qi:i=ρ.length:=by
      rw[S3]at hx
      have:=hx.1
      rw[TJ]at this
      exact Up (Nat.le_of_lt_succ this) (Vd.mp q)
     subst qi
     rw[S1 (UY _)]at hx
     rw[Y.len,S1 (UY _)]at ho
     simp at hx ho
     subst hx;subst ho
     exact⟨b,hb,hf⟩
 · rcases Ue.mp hx with q|q
   · exact Y.new x q
   · rw[TF]at q
     subst q
     obtain⟨oL,_,_,hL,_⟩:=F.ns
     refine⟨?_,λe=> ?_,TH hz ha⟩
     · cases q:h₀.get? x with
       |none=>rfl
       |some o'=>exact absurd (UN (F.keep _ _ q)) (Vd.mpr ha)
     · subst e;exact absurd (UN hL) (Vd.mpr ha)
 · have:=Y'.frz p hp
   refine⟨this.1,this.2.1,this.2.2.1,λq=> ?_⟩
   rcases Ue.mp q with q|q
   · exact this.2.2.2 q
   · rw[TF]at q
     exact absurd (UN (Y.frz p hp).1) (Vd.mpr (q▸ha))
theorem Led.set(Y:Led D h₀ L hp ρ ξ h){k:Nat}{a:Addr}{o:O}{b:Obj}(ha:ρ[k]? =some a)(hb:hp'.get? a=some b)(hf:OR D ρ ξ o b)(hs:UM a hp hp'):Led D h₀ L hp' ρ ξ (h.set k o):=by
 refine⟨by simp[Y.len],Y.nd,λi x o' hx ho=> ?_,Y.new,λp hp=> ?_⟩
 · by_cases q:i=k
   · subst q
     rw[ha]at hx
     cases hx
     have hl:i<h.length:=by rw[←Y.len];rw[S3]at ha;exact ha.1
     rw[Ti hl]at ho
     cases ho
     exact⟨b,hb,hf⟩
   · rw[Tw (Ne.symm q)]at ho
     obtain⟨b',hb',r⟩:=Y.obj i x o' hx ho
     refine⟨b',(hs.2 x λe=>q ?_).trans hb',r⟩
     subst e
     rw[S3]at hx ha
     exact mr Y.nd hx ha
 · have:=Y.frz p hp
   exact⟨(hs.2 p.1 λ(e:p.1=a)=>this.2.2.2 (by rw[e];exact Tq ha)).trans this.1,this.2⟩
theorem Fr.upd{m:Str→Option Value}(F:Fr h₀ L hp m){a:Addr}(hn:h₀.get? a=none)(hL:a≠L)(hs:UM a hp hp'):Fr h₀ L hp' m:=
 ⟨F.ns.sameBut hs (Ne.symm hL),λb o e=>(hs.2 b λq=>by subst q;rw[hn]at e;cases e).trans (F.keep b o e),F.above⟩
theorem Fr.grown{m:Str→Option Value}(F:Fr h₀ L hp m)(k: ∀b o,hp.get? b=some o→hp'.get? b=some o):Fr h₀ L hp' m:=
 ⟨F.ns.keeps k,λb o e=>k _ _ (F.keep b o e),F.above⟩
end
end
section
structure Gl where
 prog:Program
 w:World
 K:Frag
 p:Program
 loose:List Str
 mean:ExcName→Option Value
 mg:Str→Option Value
 mb:Str→Option Value
 lam:Addr→Obj→Obj→Prop
 lamc: ∀a b t,lam a b t→ ∃vs q tk,b.data= .fields vs∧vs[1]? =some (.str q tk)
 lamt: ∀a b t,lam a b t→ ∀vs q tk,t.data= .fields vs→vs[1]? ≠some (.str q tk)
 tabA:Addr
 g:G
abbrev Gl.M(Γ:Gl):Model:=model Γ.prog Γ.w
abbrev Gl.D(Γ:Gl):Wd:=⟨Γ.prog,Γ.w,Γ.lam,Γ.tabA⟩
structure GB(Γ:Gl)(h:Heap):Prop where
 K:Γ.K.In h
 T:Top Γ.p Γ.loose Γ.mean Γ.mg Γ.mb h
theorem GB.keeps{Γ:Gl}{h h':Heap}(x:GB Γ h)(k:h.StaysIn h'):GB Γ h':=⟨x.K.keeps k,x.T.keeps k⟩
def GlobIs(K:Frag)(x:T)(v:V):Prop:= ∃w,VR [] v w∧(nsIn K U1 (mkS x)=some (some w)∨(nsIn K U1 (mkS x)=some none∧bootBuiltins (mkS x)=some w∧mkS x≠"__name__"))
structure St0 where
 A:Around
 env:Env
 fenv:Env
 outer:List Env
 A₀:Around
 base:Heap
 h₀:Heap
 L:Addr
 os:OsState
 kept:List (Addr×Obj)
 gk:List (Nat×Vw)
structure Dy where
 ρ:List Addr
 ξ:List (Addr×Obj)
 m:Str→Option Value
 s:Shared
structure NmOk(g:G)(c:St0)(d:Dy)(f:Frm)(lo:Lo):Prop where
 kind:c.env.scope.kind= .function
 glob:c.env.globals=U1
 blt:c.env.builtins=builtinsNs
 dbg: ∀x s,look x f.nm=some s→(mkS x==("__debug__":Str))=false∧(mkS x==("__classdict__":Str))=false
 lv: ∀x i,look x f.nm=some (.lv i)→c.env.kindOf (mkS x)=some .local∧c.env.locals=c.L
 inj: ∀x y i,look x f.nm=some (.lv i)→look y f.nm=some (.lv i)→x=y
 lov: ∀x i v,look x f.nm=some (.lv i)→lo[i]? =some (some v)→ ∃w,d.m (mkS x)=some w∧VR d.ρ v w
 cv: ∀x j k,look x f.nm=some (.cv j)→f.ce[j]? =some k→(c.env.kindOf (mkS x)=some .cell∨c.env.kindOf (mkS x)=some .free)∧ ∃a,c.env.cells.lookup (mkS x)=some a∧d.ρ[k]? =some a
 gv: ∀x v,look x f.nm=some (.gv v)→c.env.kindOf (mkS x)=some .globalImplicit∧look x g.gl=some v
 kv: ∀x,look x f.nm=some .kv→c.env.kindOf (mkS x)=some .local∧d.ρ[f.q]? =some c.env.locals
 cd:c.env.code= .ref f.cd
 ql:f.cd=g.lamCd→c.env.qual=mkS g.lamQ
structure Rel(Γ:Gl)(c:St0)(d:Dy)(f:Frm)(lo:Lo)(h:H):Prop where
 fr:Fr c.h₀ c.L d.s.heap d.m
 gb:GB Γ c.h₀
 bl:Below c.A₀ c.base c.outer c.h₀
 led:Led Γ.D c.h₀ c.L d.s.heap d.ρ d.ξ h
 nm:NmOk Γ.g c d f lo
 os:d.s.os=c.os
 gens:AllBare d.s.gens
 kp: ∀p∈c.kept,p∈d.ξ
 gk: ∀p∈c.gk,d.s.gens[p.1]? =some p.2
structure AOk(c:St0)(n:Nat):Prop where
 fr:c.A.frames=some (c.fenv::c.outer)
 ff:c.fenv.frame=some c.L
 fk:c.fenv.scope.kind= .function
 hd:c.A.handled=none
 dp:c.A.depth+3*n≤980
 un:c.A.units+12*n≤9000
theorem nE{k n b c:Nat}(q:b+k*(n+1)≤c):b+k*n≤c:=UJ (TD (Nat.mul_le_mul_left k (U6 n)) b) q
theorem AOk.less{c:St0}{n:Nat}(x:AOk c (n+1)):AOk c n:=⟨x.fr,x.ff,x.fk,x.hd,nE x.dp,nE x.un⟩
variable{Γ:Gl}
def PostE(Γ:Gl)(c:St0)(d:Dy)(f:Frm)(lo:Lo)(h':H)(v:V)(Q:Value→Shared→Prop):Prop:=
 ∀(ρ':List Addr) (ξ':List (Addr×Obj)) (s':Shared) (w:Value),Ext d.ρ ρ'→Rel Γ c ⟨ρ',ξ',d.m,s'⟩ f lo h'→VR ρ' v w→Q w s'
def SE(Γ:Gl)(n:Nat)(ih:Ih):Prop:= ∀(c:St0) (d:Dy) (f:Frm) (lo:Lo) (h:H) (e:E) (v:V) (h':H) (Q:Value→Shared→Prop) (E:Value→Shared→Prop),
 AOk c n→Rel Γ c d f lo h→ih.e f lo h e=some (v,h')→PostE Γ c d f lo h' v Q→wpAny Γ.M c.A (eval (dE e) c.env) Q E d.s
def de(Γ:Gl)(c:St0)(d:Dy)(f:Frm)(lo:Lo)(h':H)(b:Bool)(Q:Bool→Shared→Prop):Prop:=
 ∀(ρ':List Addr) (ξ':List (Addr×Obj)) (s':Shared),Ext d.ρ ρ'→Rel Γ c ⟨ρ',ξ',d.m,s'⟩ f lo h'→Q b s'
def ST(Γ:Gl)(n:Nat)(ih:Ih):Prop:= ∀(c:St0) (d:Dy) (f:Frm) (lo:Lo) (h:H) (e:E) (b:Bool) (h':H) (Q:Bool→Shared→Prop) (E:Value→Shared→Prop),
 AOk c n→Rel Γ c d f lo h→ih.t f lo h e=some (b,h')→de Γ c d f lo h' b Q→wpAny Γ.M c.A (PySem.isTrue (dE e) c.env (eval (dE e) c.env)) Q E d.s
def FR(ρ:List Addr):Fl→Flow→Prop
 | .next,x=>x= .next
 | .brk,x=>x= .brk
 | .cont,x=>x= .cont
 | .ret v,x=> ∃w,x= .ret w∧VR ρ v w
def PostS(Γ:Gl)(c:St0)(d:Dy)(f:Frm)(x:R3)(Q:Flow→Shared→Prop):Prop:=
 ∀(ρ':List Addr) (ξ':List (Addr×Obj)) (m':Str→Option Value) (s':Shared) (fl:Flow),Ext d.ρ ρ'→Rel Γ c ⟨ρ',ξ',m',s'⟩ f x.2.1 x.2.2→FR ρ' x.1 fl→Q fl s'
def SS(Γ:Gl)(n:Nat)(ih:Ih):Prop:= ∀(c:St0) (d:Dy) (f:Frm) (lo:Lo) (h:H) (b:S) (x:R3) (Q:Flow→Shared→Prop) (E:Value→Shared→Prop),
 AOk c n→Rel Γ c d f lo h→ih.s f lo h b=some x→PostS Γ c d f x Q→wpAny Γ.M c.A (execs (dB b) c.env) Q E d.s
def PostC(Γ:Gl)(c:St0)(d:Dy)(h':H)(v:V)(Q:Value→Shared→Prop):Prop:=
 ∀(ρ':List Addr) (ξ':List (Addr×Obj)) (s':Shared) (w:Value),Ext d.ρ ρ'→Fr c.h₀ c.L s'.heap d.m→Led Γ.D c.h₀ c.L s'.heap ρ' ξ' h'→s'.os=c.os→AllBare s'.gens→(∀p∈c.kept,p∈ξ')→(∀p∈c.gk,s'.gens[p.1]? =some p.2)→VR ρ' v w→Q w s'
def SC(Γ:Gl)(n:Nat)(ih:Ih):Prop:= ∀(c:St0) (d:Dy) (h:H) (a:Nat) (vs:List V) (ws:List Value) (v:V) (h':H) (Q:Value→Shared→Prop) (E:Value→Shared→Prop),
 AOk c n→Fr c.h₀ c.L d.s.heap d.m→GB Γ c.h₀→Below c.A₀ c.base c.outer c.h₀→Led Γ.D c.h₀ c.L d.s.heap d.ρ d.ξ h→d.s.os=c.os→AllBare d.s.gens→(∀p∈c.kept,p∈d.ξ)→(∀p∈c.gk,d.s.gens[p.1]? =some p.2)→VsR d.ρ vs ws→
 ih.c h a vs=some (v,h')→PostC Γ c d h' v Q→codeAny Γ.M c.A (.call (.ref a) ⟨ws,[]⟩) (wants Q E) d.s
def SU(Γ:Gl)(n:Nat)(ih:Ih):Prop:= ∀(c:St0) (d:Dy) (f:Frm) (lo:Lo) (h:H) (e:E) (v:V) (h':H) (x:Str) (p:Pos) (lo2:Lo) (h2:H) (Q:Unit→Shared→Prop) (E:Value→Shared→Prop),
 AOk c n→Rel Γ c d f lo h→ih.e f lo h e=some (v,h')→bz f lo h' (sT x) v=some (lo2,h2)→bV e=true→c.env.kindOf x=some .local→
 (∀ρ' ξ' m' s',Ext d.ρ ρ'→Rel Γ c ⟨ρ',ξ',m',s'⟩ f lo2 h2→Q () s')→wpAny Γ.M c.A (evalThenUse (dE e) c.env λv=>Vn v ((Va [.Name x p] c.env).map (·.2))) Q E d.s
structure OwnOk(K:Frag)(C:Addr)(ns:List T):Prop where
 hs:findIn K (.ref C) "__setattr__"=some (some (.builtin "object.__setattr__"))
 hp:plainOver K C=true
 hh:hasDictIn K C=true
 hg: ∀x,plainGet K C x=true
 own: ∀x,memT x ns=true→findIn K (.ref C) (mkS x)=some none
structure Snd(Γ:Gl)(n:Nat)(ih:Ih):Prop where
 u:SU Γ n ih
 ia: ∀C ns,ih.ia C=some ns→OwnOk Γ.K C ns
 mt: ∀C fn,ih.mt C=some fn→fn=Γ.g.genA∧ ∃cd,atN C Γ.g.cls=some cd∧look w_iter_namespaces cd=some (.top fn)
 raw: ∀f lo h x,ih.e f lo h (.raw x)=none
 fk: ∀h a vs r,ih.c h a vs=some r→fnIn Γ.K a=true
 e:SE Γ n ih
 t:ST Γ n ih
 s:SS Γ n ih
 c:SC Γ n ih
section
variable{c:St0}{d:Dy}{f:Frm}{lo:Lo}{h:H}
theorem GB.low{h₀ hp:Heap}{L:Addr}{m:Str→Option Value}(G:GB Γ h₀)(F:Fr h₀ L hp m):1<hp.objs.size:=by
 obtain⟨o,_,_,ho,_⟩:=G.T.g
 have:=UN (F.keep _ _ ho)
 exact UQ (by decide:(1:Nat)<3) this
theorem NmOk.ext{g:G}(x:NmOk g c d f lo){ρ':List Addr}(e:Ext d.ρ ρ'){ξ':List (Addr×Obj)}{s':Shared}:NmOk g c ⟨ρ',ξ',d.m,s'⟩ f lo:=
 ⟨x.kind,x.glob,x.blt,x.dbg,x.lv,x.inj,λy i v a b=>let ⟨w,p,q⟩:=x.lov y i v a b;⟨w,p,q.ext e⟩,λy j k a b=>let ⟨p,q,r,t⟩:=x.cv y j k a b;⟨p,q,r,e.get t⟩,x.gv,λy a=>⟨(x.kv y a).1,e.get (x.kv y a).2⟩,x.cd,x.ql⟩
theorem Rel.tok(R:Rel Γ c d f lo h)(t:Nat):Rel Γ c ⟨d.ρ,d.ξ,d.m,{d.s with toks:=t}⟩ f lo h:=⟨R.fr,R.gb,R.bl,R.led,R.nm.ext (.refl _),R.os,R.gens,R.kp,R.gk⟩
theorem Rel.junk(R:Rel Γ c d f lo h){h':Heap}{t:Nat}(k: ∀b o,d.s.heap.get? b=some o→h'.get? b=some o):Rel Γ c ⟨d.ρ,d.ξ,d.m,{d.s with heap:=h',toks:=t}⟩ f lo h:=
 ⟨Fr.grown R.fr k,R.gb,R.bl,R.led.grown k,R.nm.ext (.refl _),R.os,R.gens,R.kp,R.gk⟩
theorem Rel.push(R:Rel Γ c d f lo h){h':Heap}{t:Nat}{a:Addr}{o:O}{b:Obj}(ha:d.s.heap.objs.size≤a)(hb:h'.get? a=some b)(hf:OR Γ.D (d.ρ++[a]) d.ξ o b)
 (k: ∀b o,d.s.heap.get? b=some o→h'.get? b=some o):Rel Γ c ⟨d.ρ++[a],d.ξ,d.m,{d.s with heap:=h',toks:=t}⟩ f lo (h++[o]):=
 ⟨Fr.grown R.fr k,R.gb,R.bl,R.led.push R.fr (R.gb.low R.fr) ha hb hf k,R.nm.ext (.push _ _),R.os,R.gens,R.kp,R.gk⟩
theorem Rel.new(R:Rel Γ c d f lo h){t:Nat}{o:O}{b:Obj}(hf:b.isFreed=false)(ho:OR Γ.D (d.ρ++[d.s.heap.objs.size]) d.ξ o b):
 Rel Γ c ⟨d.ρ++[d.s.heap.objs.size],d.ξ,d.m,{d.s with heap:=d.s.heap.push b,toks:=t}⟩ f lo (h++[o]):=
 R.push (UY _) (Tz _ hf) ho λZ Z e=>Tf _ e
theorem Rel.set(R:Rel Γ c d f lo h){h':Heap}{t:Nat}{k:Nat}{a:Addr}{o:O}{b:Obj}(ha:d.ρ[k]? =some a)(hb:h'.get? a=some b)(hf:OR Γ.D d.ρ d.ξ o b)(hs:UM a d.s.heap h'):
 Rel Γ c ⟨d.ρ,d.ξ,d.m,{d.s with heap:=h',toks:=t}⟩ f lo (h.set k o):=
 have n:=R.led.new a (Tq ha)
 ⟨Fr.upd R.fr n.1 n.2.1 hs,R.gb,R.bl,R.led.set ha hb hf hs,R.nm.ext (.refl _),R.os,R.gens,R.kp,R.gk⟩
theorem bu(R:Rel Γ c d f lo h)(a:Addr):VR (d.ρ++[a]) (.loc h.length) (.ref a):=⟨a,by rw[←R.led.len];simp,rfl⟩
theorem eM(h:H)(o:O):new h o=(.loc h.length,h++[o]):=by unfold new;rw[aO,ay]
end
end
theorem kF{n:Nat}(h:n≤4000):n≤16777216:=UJ h (by decide)
theorem ne0{n:Nat}(h:1≤n):n≠0:=UR h
theorem dp1{a n:Nat}(h:a+3*n≤980):a<1000:=TI (UJ (T2 _ _) h) (by decide)
theorem un1{a n k:Nat}(h:a+12*n≤9000)(hk:k<900):a+k<9900:=Nat.add_lt_add_of_le_of_lt (UJ (T2 _ _) h) hk
theorem nF{k m n b c:Nat}(h:m≤n)(q:b+k*n≤c):b+k*m≤c:=UJ (TD (Nat.mul_le_mul_left k h) b) q
theorem nG{a n k c e:Nat}(h:a+k*(n+1)≤c)(he:e≤k):a+e+k*n≤c:=by
 rw[Nat.mul_succ,Nat.add_comm (k*n),←Nat.add_assoc]at h
 exact UJ (Nat.add_le_add_right (TD he a) _) h
theorem zk{i j:Nat}(h:j+1≤i):i-j=i-(j+1)+1:=(TM (Nat.sub_pos_of_lt h)).symm
theorem MF{k:Nat}:decide ((k:Int)< -(2^63:Int))=false:=decide_eq_false (Int.not_lt.mpr (UT (by decide) (TG k)))
theorem MG{k:Nat}(h:k<9223372036854775808):decide ((k:Int)≥2^63)=false:=decide_eq_false (Int.not_le.mpr (US.mpr h))
theorem iLo{k:Nat}:(-(2^63:Int))≤(k:Int):=UT (by decide) (TG k)
theorem iHi{k:Nat}(h:k<9223372036854775808):(k:Int)<2^63:=US.mpr h
theorem Fn{n:Nat}:((n+1:Nat):Int)-1=(n:Int):=by rw[Int.natCast_add];exact Int.add_sub_cancel _ _
theorem Fo{n:Nat}(h:1≤n):((n-1:Nat):Int)=(n:Int)-1:=Int.natCast_sub h
theorem exS{j:Nat}(h:1≤j): ∃i,j=i+1:=⟨j-1,(TM h).symm⟩
theorem yb{a:Nat}(h:1<a):(a==1)=false:=beq_eq_false_iff_ne.mpr (UR h)
theorem rt{i n:Nat}(h:i<n+1)(q: ¬i<n):i=n:=Up (Nat.le_of_lt_succ h) (Vd.mp q)
theorem MH{n k:Nat}(h:n≤k):n+(k-n)=k:=Nat.add_sub_of_le h
theorem zl{n:Nat}{i:Int}(h:n≤4000)(a: -(n:Int)≤i): -(2^63:Int)≤i:=UT (UT (by decide: -(2^63:Int)≤ -4000) (Int.neg_le_neg (UX.mpr h))) a
theorem zm{n:Nat}{i:Int}(h:n≤4000)(b:i<n):i<2^63:=Int.lt_trans (Int.lt_of_lt_of_le b (UX.mpr h)) (by decide)
theorem gH{m j:Nat}(h:j<m):Int.negSucc j+(m:Int)=((m-(j+1):Nat):Int):=by
 rw[Int.natCast_sub h,Int.add_comm];rfl
theorem Fp{k:Int}(h1:Int.negSucc 65535<k)(h2:k<Int.ofNat 65536):Builtin.Int.intBits k≤64:=intBits_le_64 (Int.lt_trans (by decide) h1) (Int.lt_trans h2 (by decide))
theorem nzI{x:Nat}(h:0<x):Int.ofNat x≠0:=λz=>UR h (Int.ofNat.inj z)
theorem oI{n:Nat}(h:n≤4000):(n:Int)<2^63:=iHi (TI h (by decide))
theorem Fq{α:Type}(l:List α):(((l.length:Nat):Int) !=0)= !l.isEmpty:=by
 cases l with
 |nil=>rfl
 |cons a l=>exact bne_iff_ne.mpr (λh=>Nat.succ_ne_zero _ (Int.ofNat.inj h))
theorem gdK{P:Prop}{R:Type}{c:Bool}{x:Option R}{r:R}(h:gd c x=some r)(k:c=true→x=some r→P):P:=(en.mp h).elim k
theorem obK{P:Prop}{A R:Type}{x:Option A}{f:A→Option R}{r:R}(h:ob x f=some r)(k: ∀a,x=some a→f a=some r→P):P:=(eR.mp h).elim λa e=>k a e.1 e.2
theorem obP{P:Prop}{A B R:Type}{x:Option (A×B)}{f:A×B→Option R}{r:R}(h:ob x f=some r)(k: ∀a b,x=some (a,b)→f (a,b)=some r→P):P:=obK h λa=>k a.1 a.2
theorem obT{P:Prop}{A B C R:Type}{x:Option (A×B×C)}{f:A×B×C→Option R}{r:R}(h:ob x f=some r)(k: ∀a b c,x=some (a,b,c)→f (a,b,c)=some r→P):P:=obK h λa=>k a.1 a.2.1 a.2.2
theorem cps{G:Prop}(h: ∀P:Prop,(G→P)→P):G:=h G id
theorem so2{α β:Type}{a c:α}{b d:β}(h:some (a,b)=some (c,d)):a=c∧b=d:=by cases h;exact⟨rfl,rfl⟩
theorem bcK{P:Prop}{R:Type}{c:Bool}{x y:Option R}{r:R}(h:bc c x y=some r)(k:c=true→x=some r→P)(l:c=false→y=some r→P):P:=by
 cases c with
 |true=>exact k rfl h
 |false=>exact l rfl h
theorem PostE.so{Γ:Gl}{c:St0}{d:Dy}{f:Frm}{lo:Lo}{h h':H}{v w:V}{Q}(k:PostE Γ c d f lo h' v Q)(e:some (w,h)=some (v,h')):PostE Γ c d f lo h w Q:=by cases e;exact k
theorem PostE.so1{Γ:Gl}{c:St0}{d:Dy}{f:Frm}{lo:Lo}{h:H}{r:V×H}{w:V}{Q}(k:PostE Γ c d f lo r.2 r.1 Q)(e:some (w,h)=some r):PostE Γ c d f lo h w Q:=by cases e;exact k
theorem de.so{Γ:Gl}{c:St0}{d:Dy}{f:Frm}{lo:Lo}{h h':H}{v w:Bool}{Q}(k:de Γ c d f lo h' v Q)(e:some (w,h)=some (v,h')):de Γ c d f lo h w Q:=by cases e;exact k
theorem PostC.so{Γ:Gl}{c:St0}{d:Dy}{h h':H}{v w:V}{Q}(k:PostC Γ c d h' v Q)(e:some (w,h)=some (v,h')):PostC Γ c d h w Q:=by cases e;exact k
theorem PostC.so1{Γ:Gl}{c:St0}{d:Dy}{h:H}{r:V×H}{w:V}{Q}(k:PostC Γ c d r.2 r.1 Q)(e:some (w,h)=some r):PostC Γ c d h w Q:=by cases e;exact k
theorem PostS.so1{Γ:Gl}{c:St0}{d:Dy}{f:Frm}{x y:R3}{Q}(k:PostS Γ c d f x Q)(e:some y=some x):PostS Γ c d f y Q:=by cases e;exact k
theorem bf{P:Prop}{R:Type}{c0:Bool}{f:Option R}{r:R}(h:(gd c0 (f))=some r)(k:c0=true→f=some r→P):P:=gdK h λe0 h=>k e0 h
theorem aw{P:Prop}{R:Type}{A0:Type}{x0:Option A0}{f:A0→Option R}{r:R}(h:(ob x0 λa0=>(f a0))=some r)(k: ∀a0,x0=some a0→f a0=some r→P):P:=obK h λa0 e0 h=>k a0 e0 h
theorem cW{P:Prop}{R:Type}{A0 B0:Type}{x0:Option (A0×B0)}{f:(A0×B0)→Option R}{r:R}(h:(ob x0 λa0=>(f a0))=some r)(k: ∀a0 b0,x0=some (a0,b0)→f (a0,b0)=some r→P):P:=obP h λa0 b0 e0 h=>k a0 b0 e0 h
theorem oJ{P:Prop}{R:Type}{A0 B0 C0:Type}{x0:Option (A0×B0×C0)}{f:(A0×B0×C0)→Option R}{r:R}(h:(ob x0 λa0=>(f a0))=some r)(k: ∀a0 b0 c0,x0=some (a0,b0,c0)→f (a0,b0,c0)=some r→P):P:=obT h λa0 b0 c0 e0 h=>k a0 b0 c0 e0 h
theorem aW{P:Prop}{R:Type}{c0:Bool}{c1:Bool}{f:Option R}{r:R}(h:(gd c0 (gd c1 (f)))=some r)(k:c0=true→c1=true→f=some r→P):P:=gdK h λe0 h=>gdK h λe1 h=>k e0 e1 h
theorem bB{P:Prop}{R:Type}{A1:Type}{c0:Bool}{x1:Option A1}{f:A1→Option R}{r:R}(h:(gd c0 (ob x1 λa1=>(f a1)))=some r)(k:c0=true→ ∀a1,x1=some a1→f a1=some r→P):P:=gdK h λe0 h=>obK h λa1 e1 h=>k e0 a1 e1 h
theorem bJ{P:Prop}{R:Type}{A0:Type}{x0:Option A0}{c1:A0→Bool}{f:A0→Option R}{r:R}(h:(ob x0 λa0=>(gd (c1 a0) (f a0)))=some r)(k: ∀a0,x0=some a0→c1 a0=true→f a0=some r→P):P:=obK h λa0 e0 h=>gdK h λe1 h=>k a0 e0 e1 h
theorem aR{P:Prop}{R:Type}{A0:Type}{A1:Type}{x0:Option A0}{x1:A0→Option A1}{f:A0→A1→Option R}{r:R}(h:(ob x0 λa0=>(ob (x1 a0) λa1=>(f a0 a1)))=some r)(k: ∀a0,x0=some a0→ ∀a1,x1 a0=some a1→f a0 a1=some r→P):P:=obK h λa0 e0 h=>obK h λa1 e1 h=>k a0 e0 a1 e1 h
theorem dn{P:Prop}{R:Type}{A0:Type}{A1:Type}{x0:Option A0}{x1:A0→Option A1}{c2:A0→A1→Bool}{f:A0→A1→Option R}{r:R}(h:(ob x0 λa0=>(ob (x1 a0) λa1=>(gd (c2 a0 a1) (f a0 a1))))=some r)(k: ∀a0,x0=some a0→ ∀a1,x1 a0=some a1→c2 a0 a1=true→f a0 a1=some r→P):P:=obK h λa0 e0 h=>obK h λa1 e1 h=>gdK h λe2 h=>k a0 e0 a1 e1 e2 h
theorem aB{P:Prop}{R:Type}{A0:Type}{A1:Type}{A2:Type}{x0:Option A0}{x1:A0→Option A1}{x2:A0→A1→Option A2}{f:A0→A1→A2→Option R}{r:R}(h:(ob x0 λa0=>(ob (x1 a0) λa1=>(ob (x2 a0 a1) λa2=>(f a0 a1 a2))))=some r)(k: ∀a0,x0=some a0→ ∀a1,x1 a0=some a1→ ∀a2,x2 a0 a1=some a2→f a0 a1 a2=some r→P):P:=obK h λa0 e0 h=>obK h λa1 e1 h=>obK h λa2 e2 h=>k a0 e0 a1 e1 a2 e2 h
theorem ae{P:Prop}{p0:Prop}{q:Prop}(h:(p0)∧q)(k:p0→q→P):P:=h.elim λe0 h=>k e0 h
theorem el_EL.{u0}{P:Prop}{α0:Sort u0}{q:α0→Prop}(h: ∃a0,q a0)(k: ∀a0,q a0→P):P:=h.elim λa0 h=>k a0 h
theorem bi{P:Prop}{p0:Prop}{p1:Prop}{q:Prop}(h:(p0)∧(p1)∧q)(k:p0→p1→q→P):P:=h.elim λe0 h=>h.elim λe1 h=>k e0 e1 h
theorem el_AEL.{u0}{P:Prop}{α0:Sort u0}{p0:Prop}{q:α0→Prop}(h:(p0)∧ ∃a0,q a0)(k:p0→ ∀a0,q a0→P):P:=h.elim λe0 h=>h.elim λa0 h=>k e0 a0 h
theorem el_EAL.{u0}{P:Prop}{α0:Sort u0}{p0:α0→Prop}{q:α0→Prop}(h: ∃a0,(p0 a0)∧q a0)(k: ∀a0,p0 a0→q a0→P):P:=h.elim λa0 h=>h.elim λe0 h=>k a0 e0 h
theorem el_EEL.{u0,u1}{P:Prop}{α0:Sort u0}{α1:Sort u1}{q:α0→α1→Prop}(h: ∃a0,∃a1,q a0 a1)(k: ∀a0,∀a1,q a0 a1→P):P:=h.elim λa0 h=>h.elim λa1 h=>k a0 a1 h
theorem aD{P:Prop}{p0:Prop}{p1:Prop}{p2:Prop}{q:Prop}(h:(p0)∧(p1)∧(p2)∧q)(k:p0→p1→p2→q→P):P:=h.elim λe0 h=>h.elim λe1 h=>h.elim λe2 h=>k e0 e1 e2 h
theorem el_AEAL.{u0}{P:Prop}{α0:Sort u0}{p0:Prop}{p1:α0→Prop}{q:α0→Prop}(h:(p0)∧ ∃a0,(p1 a0)∧q a0)(k:p0→ ∀a0,p1 a0→q a0→P):P:=h.elim λe0 h=>h.elim λa0 h=>h.elim λe1 h=>k e0 a0 e1 h
theorem el_EAAL.{u0}{P:Prop}{α0:Sort u0}{p0:α0→Prop}{p1:α0→Prop}{q:α0→Prop}(h: ∃a0,(p0 a0)∧(p1 a0)∧q a0)(k: ∀a0,p0 a0→p1 a0→q a0→P):P:=h.elim λa0 h=>h.elim λe0 h=>h.elim λe1 h=>k a0 e0 e1 h
theorem el_EEAL.{u0,u1}{P:Prop}{α0:Sort u0}{α1:Sort u1}{p0:α0→α1→Prop}{q:α0→α1→Prop}(h: ∃a0,∃a1,(p0 a0 a1)∧q a0 a1)(k: ∀a0,∀a1,p0 a0 a1→q a0 a1→P):P:=h.elim λa0 h=>h.elim λa1 h=>h.elim λe0 h=>k a0 a1 e0 h
theorem el_EEEL.{u0,u1,u2}{P:Prop}{α0:Sort u0}{α1:Sort u1}{α2:Sort u2}{q:α0→α1→α2→Prop}(h: ∃a0,∃a1,∃a2,q a0 a1 a2)(k: ∀a0,∀a1,∀a2,q a0 a1 a2→P):P:=h.elim λa0 h=>h.elim λa1 h=>h.elim λa2 h=>k a0 a1 a2 h
theorem el_EEAAL.{u0,u1}{P:Prop}{α0:Sort u0}{α1:Sort u1}{p0:α0→α1→Prop}{p1:α0→α1→Prop}{q:α0→α1→Prop}(h: ∃a0,∃a1,(p0 a0 a1)∧(p1 a0 a1)∧q a0 a1)(k: ∀a0,∀a1,p0 a0 a1→p1 a0 a1→q a0 a1→P):P:=h.elim λa0 h=>h.elim λa1 h=>h.elim λe0 h=>h.elim λe1 h=>k a0 a1 e0 e1 h
theorem el_EEEAL.{u0,u1,u2}{P:Prop}{α0:Sort u0}{α1:Sort u1}{α2:Sort u2}{p0:α0→α1→α2→Prop}{q:α0→α1→α2→Prop}(h: ∃a0,∃a1,∃a2,(p0 a0 a1 a2)∧q a0 a1 a2)(k: ∀a0,∀a1,∀a2,p0 a0 a1 a2→q a0 a1 a2→P):P:=h.elim λa0 h=>h.elim λa1 h=>h.elim λa2 h=>h.elim λe0 h=>k a0 a1 a2 e0 h
theorem el_EEEAAL.{u0,u1,u2}{P:Prop}{α0:Sort u0}{α1:Sort u1}{α2:Sort u2}{p0:α0→α1→α2→Prop}{p1:α0→α1→α2→Prop}{q:α0→α1→α2→Prop}(h: ∃a0,∃a1,∃a2,(p0 a0 a1 a2)∧(p1 a0 a1 a2)∧q a0 a1 a2)(k: ∀a0,∀a1,∀a2,p0 a0 a1 a2→p1 a0 a1 a2→q a0 a1 a2→P):P:=h.elim λa0 h=>h.elim λa1 h=>h.elim λa2 h=>h.elim λe0 h=>h.elim λe1 h=>k a0 a1 a2 e0 e1 h
theorem el_EEAAEAL.{u0,u1,u2}{P:Prop}{α0:Sort u0}{α1:Sort u1}{α2:Sort u2}{p0:α0→α1→Prop}{p1:α0→α1→Prop}{p2:α0→α1→α2→Prop}{q:α0→α1→α2→Prop}(h: ∃a0,∃a1,(p0 a0 a1)∧(p1 a0 a1)∧ ∃a2,(p2 a0 a1 a2)∧q a0 a1 a2)(k: ∀a0,∀a1,p0 a0 a1→p1 a0 a1→ ∀a2,p2 a0 a1 a2→q a0 a1 a2→P):P:=h.elim λa0 h=>h.elim λa1 h=>h.elim λe0 h=>h.elim λe1 h=>h.elim λa2 h=>h.elim λe2 h=>k a0 a1 e0 e1 a2 e2 h
theorem el_EEEAAAL.{u0,u1,u2}{P:Prop}{α0:Sort u0}{α1:Sort u1}{α2:Sort u2}{p0:α0→α1→α2→Prop}{p1:α0→α1→α2→Prop}{p2:α0→α1→α2→Prop}{q:α0→α1→α2→Prop}(h: ∃a0,∃a1,∃a2,(p0 a0 a1 a2)∧(p1 a0 a1 a2)∧(p2 a0 a1 a2)∧q a0 a1 a2)(k: ∀a0,∀a1,∀a2,p0 a0 a1 a2→p1 a0 a1 a2→p2 a0 a1 a2→q a0 a1 a2→P):P:=h.elim λa0 h=>h.elim λa1 h=>h.elim λa2 h=>h.elim λe0 h=>h.elim λe1 h=>h.elim λe2 h=>k a0 a1 a2 e0 e1 e2 h
theorem el_EEAAEEAL.{u0,u1,u2,u3}{P:Prop}{α0:Sort u0}{α1:Sort u1}{α2:Sort u2}{α3:Sort u3}{p0:α0→α1→Prop}{p1:α0→α1→Prop}{p2:α0→α1→α2→α3→Prop}{q:α0→α1→α2→α3→Prop}(h: ∃a0,∃a1,(p0 a0 a1)∧(p1 a0 a1)∧ ∃a2,∃a3,(p2 a0 a1 a2 a3)∧q a0 a1 a2 a3)(k: ∀a0,∀a1,p0 a0 a1→p1 a0 a1→ ∀a2,∀a3,p2 a0 a1 a2 a3→q a0 a1 a2 a3→P):P:=h.elim λa0 h=>h.elim λa1 h=>h.elim λe0 h=>h.elim λe1 h=>h.elim λa2 h=>h.elim λa3 h=>h.elim λe2 h=>k a0 a1 e0 e1 a2 a3 e2 h
section
variable{Γ:Gl}{c:St0}{d:Dy}{f:Frm}{lo:Lo}{h:H}{n:Nat}{ih:Ih}
section
variable{Q:Value→Shared→Prop}{E:Value→Shared→Prop}
theorem PostE.tok{v:V}(hQ:PostE Γ c d f lo h v Q)(R:Rel Γ c d f lo h){w:Value}(hv:VR d.ρ v w)(t:Nat):Q w {d.s with toks:=t}:=hQ d.ρ d.ξ _ w (.refl _) (R.tok t) hv
theorem PostE.here{v:V}(hQ:PostE Γ c d f lo h v Q)(R:Rel Γ c d f lo h){w:Value}(hv:VR d.ρ v w):Q w d.s:=hQ d.ρ d.ξ _ w (.refl _) R hv
theorem PostE.after{v:V}{h'':H}{ρ':List Addr}{ξ':List (Addr×Obj)}{s':Shared}(hQ:PostE Γ c d f lo h'' v Q)(x:Ext d.ρ ρ'):PostE Γ c ⟨ρ',ξ',d.m,s'⟩ f lo h'' v Q:=
 λρ2 ξ2 s2 w e R hv=>hQ ρ2 ξ2 s2 w (x.trans e) R hv
theorem de.after{b:Bool}{h'':H}{ρ':List Addr}{ξ':List (Addr×Obj)}{s':Shared}{Q:Bool→Shared→Prop}(hQ:de Γ c d f lo h'' b Q)(x:Ext d.ρ ρ'):de Γ c ⟨ρ',ξ',d.m,s'⟩ f lo h'' b Q:=
 λρ2 ξ2 s2 e R=>hQ ρ2 ξ2 s2 (x.trans e) R
theorem Fs{k:Const}{i:Nat}{p:Pos}{v:V}(R:Rel Γ c d f lo h)(hv:ml k=some v)(hQ:PostE Γ c d f lo h v Q):wpAny Γ.M c.A (eval (.Constant k i p) c.env) Q E d.s:=by
 show wpAny _ _ (constValue c.env k) _ _ _
 cases k with
 |none=>cases hv;exact U8 (hQ.here R rfl)
 |bool b=>cases hv;exact U8 (hQ.here R rfl)
 |int i=>cases hv;exact wpAny_mkInt (hQ.tok R ⟨_,rfl⟩ _)
 |str s=>cases hv;exact wpAny_mkText (hQ.tok R ⟨_,rfl⟩ _)
 |_=>exact nn hv
structure GOk(Γ:Gl):Prop where
 gl: ∀x v,look x Γ.g.gl=some v→GlobIs Γ.K x v
theorem VR.ext0{ρ:List Addr}{v:V}{w:Value}(h:VR [] v w):VR ρ v w:=h.ext ⟨ρ,rfl⟩
theorem ru{nm:Nm}{ce:List Nat}{q cd:Nat}{x:T}{v:V}(e:bq ⟨nm,ce,q,cd⟩ lo h x=some v):
 (∃i,look x nm=some (.lv i)∧lo[i]? =some (some v))∨(∃j k,look x nm=some (.cv j)∧ce[j]? =some k∧h[k]? =some (.cell (some v)))∨look x nm=some (.gv v)∨
  (look x nm=some .kv∧ ∃es,h[q]? =some (.kd es)∧look x es=some v):=by
 refine aw e ?_
 clear e
 intro s hs e
 cases s with
 |lv i=>
  refine aw (e:ob (nth lo i) (λv=>v)=some v) ?_
  clear e
  intro v' a b
  rw[ap]at a
  subst b
  exact .inl ⟨i,hs,a⟩
 |cv j=>
  refine aB (e:ob (nth ce j) _=some v) ?_
  clear e
  intro k a o p v' r t
  subst t
  rw[ap]at a p
  rw[eK r]at p
  exact .inr (.inl ⟨j,k,hs,a,p⟩)
 |gv v'=>cases(e:some v'=some v);exact .inr (.inr (.inl hs))
 |kv=>
  refine aR (e:ob (nth h q) _=some v) ?_
  clear e
  intro o a es p r
  rw[ap,eS p]at a
  exact .inr (.inr (.inr ⟨hs,es,a,r⟩))
theorem nH(X:GOk Γ){x:T}{v:V}(R:Rel Γ c d f lo h)(hv:bq f lo h x=some v)(hQ: ∀w,VR d.ρ v w→Q w d.s):wpAny Γ.M c.A (loadName c.env (mkS x)) Q E d.s:=by
 obtain⟨nm,ce,q,cd⟩:=f
 have N:=R.nm
 rcases ru hv with qA|qA|a|qA
 · refine el_EAL qA ?_
   clear qA
   intro i a b
   refine el_EAL (N.lov x i v a b) ?_
   intro w p r
   exact Tv N.kind (N.lv x i a).1 ((N.lv x i a).2▸R.fr.ns) p (hQ w r)
 · refine el_EEAAL qA ?_
   clear qA
   intro j k a b e
   refine el_AEAL (N.cv x j k a b) ?_
   intro kd ad p r
   refine el_EEAAL (R.led.at e) ?_
   intro ad' o h1 h2 h3
   rw[r]at h1
   obtain rfl:=Ud h1
   refine el_EAL h3 ?_
   clear h3
   intro w' e1 e2
   refine el_EAL (e2 v rfl) ?_
   rintro w rfl hw
   rcases kd with kd|kd
   · exact wpAny_loadName_cell N.kind kd p ⟨o,h2,e1⟩ (hQ w hw)
   · exact wpAny_loadName_free N.kind kd p ⟨o,h2,e1⟩ (hQ w hw) (N.dbg x _ a).2
 · refine ae (N.gv x v a) ?_
   intro p r
   refine el_EAL (X.gl x v r) ?_
   intro w hw g
   have hl:loadName c.env (mkS x)=loadGlobal c.env (mkS x):=by
    unfold loadName Env.blockKind
    simp[N.kind,p,ScopeKind.isAnnotationScope]
   rw[hl]
   have Tg:=R.gb.T.g.keeps R.fr.keep
   have Tb:=R.gb.T.b.keeps R.fr.keep
   rcases g with g|qA
   · exact loadGlobal_global (by rw[N.glob];exact Tg) (mg_of R.gb.K R.gb.T.g g) (hQ w (.ext0 hw))
   · refine bi qA ?_
     clear qA
     intro g1 g2 g3
     exact loadGlobal_builtin (by rw[N.glob];exact Tg) (mg_none_of R.gb.K R.gb.T.g g1) (by rw[N.blt];exact Tb) ((R.gb.T.builtins _ g3).trans g2) (hQ w (.ext0 hw))
 · refine el_AEAL qA ?_
   clear qA
   intro a es b e
   refine ae (N.kv x a) ?_
   intro p r
   refine el_EEAAL (R.led.at b) ?_
   intro ad' o h1 h2 h3
   rw[show d.ρ[q]? =_ from r]at h1
   obtain rfl:=Ud h1
   refine el_EEAAL h3 ?_
   clear h3
   intro ds ep e1 e2 e3
   refine el_EAL (e3 x v e) ?_
   intro w e4 e5
   exact Tv N.kind p ⟨o,ds,ep,h2,e1,e2,λZ=>rfl⟩ e4 (hQ w e5)
theorem iE{nm:Nm}{ce:List Nat}{q cd:Nat}{x:T}{v:V}(e:bq ⟨nm,ce,q,cd⟩ lo h x=some v): ∃s,look x nm=some s:=let ⟨s,a,_⟩:=eR.mp e;⟨s,a⟩
theorem eN(X:GOk Γ){x:Str}{p:Pos}{v:V}(R:Rel Γ c d f lo h)(hv:bq f lo h (sT x)=some v)(hQ: ∀w,VR d.ρ v w→Q w d.s):wpAny Γ.M c.A (eval (.Name x p) c.env) Q E d.s:=by
 obtain⟨nm,ce,q,cd⟩:=f
 refine el_EL (iE hv) ?_
 intro s hs
 exact wpAny_Name (nH X (x:=sT x) R hv hQ) (R.nm.dbg _ s hs).1
theorem kG(x y:Nat):Int.fdiv (x:Int) (y:Int)=((x/y:Nat):Int):=by
 rw[Int.fdiv_eq_ediv_of_nonneg _ (TG y)];rfl
theorem rv(x y:Nat):Int.fmod (x:Int) (y:Int)=((x%y:Nat):Int):=by
 rw[Int.fmod_eq_emod_of_nonneg _ (TG y)];rfl
theorem uq(x y:Nat):Builtin.bitAnd (x:Int) (y:Int)=((Nat.land x y:Nat):Int):=rfl
theorem MI(z:Nat):Uq (z:Int)=Int.negSucc z:=by unfold Uq;omega
theorem MJ(z:Nat):Uq (Int.negSucc z)=(z:Int):=by unfold Uq;omega
theorem zn(x y:Nat):Builtin.bitOr (x:Int) (y:Int)=((Nat.lor x y:Nat):Int):=by
 have n1: ∀z:Nat,Uq (z:Int)=Int.negSucc z:=λz=>MI z
 have n2: ∀z:Nat,Uq (Int.negSucc z)=(z:Int):=λz=>MJ z
 unfold Builtin.bitOr
 rw[n1,n1]
 have:Builtin.bitAnd (Int.negSucc x) (Int.negSucc y)=Uq (((Uq (Int.negSucc x)).toNat|||(Uq (Int.negSucc y)).toNat:Nat):Int):=rfl
 rw[this,n2,n2,n1,n2]
 rfl
theorem nI(x y:Nat):Builtin.bitXor (x:Int) (y:Int)=((Nat.sub (Nat.lor x y) (Nat.land x y):Nat):Int):=by
 unfold Builtin.bitXor
 rw[zn,uq]
 have:Nat.land x y≤Nat.lor x y:=UJ Nat.and_le_left Nat.left_le_or
 exact(Int.natCast_sub this).symm
theorem bC{g:Nat→Nat→Option Int}{a b z:Int}(h:fT g a b=some z): ∃x y:Nat,a= .ofNat x∧b= .ofNat y∧g x y=some z:=by
 refine aR h ?_
 clear h
 intro x hx y hy h
 exact⟨x,y,c9 hx,c9 hy,h⟩
theorem aX{a b:Nat}(h:Nat.blt a b=true):a<b:=Tk h
theorem zo{op:Vs}{a b z:Int}{t u:Tok}{s:Shared}{A:Around}(hz:zb op a b=some z)(hQ: ∀t',Q (.int z t') {s with toks:=t'+1}):wpAny Γ.M A (binaryOp op (.int a t) (.int b u)) Q E s:=by
 cases op with
 |Add=>cases hz;exact add_int (hQ _)
 |Sub=>cases hz;exact sub_int (hQ _)
 |Mult=>
  refine aW hz ?_
  clear hz
  intro h1 h2 hz
  obtain rfl:=Ud hz
  rw[cu]at h1 h2
  exact mul_int (hQ _) (.of_left (Fp h1 h2))
 |Mod=>
  refine el_EEAAL (bC hz) ?_
  rintro x y rfl rfl hz
  refine bf hz ?_
  clear hz
  intro h1 hz
  obtain rfl:=Ud hz
  have:=aX h1
  exact mod_int' (nzI this) (by rw[show(Int.ofNat x).fmod (Int.ofNat y)=Int.ofNat (Nat.mod x y)from rv x y];exact hQ _)
 |Pow=>
  refine el_EEAAL (bC hz) ?_
  rintro x y rfl rfl hz
  refine aW hz ?_
  clear hz
  intro h0 h1 hz
  obtain rfl:=Ud hz
  obtain rfl:=Tj h0
  have:=aX h1
  refine pow_int (TG y) ?_ ?_
  · have:Builtin.Int.intBits (Int.ofNat 2)=2:=by decide
    rw[this];exact UX.mpr (UJ (Nat.mul_le_mul_left 2 (UP (by assumption))) (by decide))
  · rw[show(Int.ofNat 2)^(Int.ofNat y).toNat=Int.ofNat (Nat.pow 2 y)from by simp];exact hQ _
 |LShift=>
  refine el_EEAAL (bC hz) ?_
  rintro x y rfl rfl hz
  refine aW hz ?_
  clear hz
  intro h0 h1 hz
  obtain rfl:=Ud hz
  have:=aX h1
  have:=aX h0
  refine lshift_int_small (TG y) (UX.mpr (UJ (UP (aX h1)) (by decide))) (UQ (aX h0) (by decide)) ?_
  rw[show(Int.ofNat x)*2^(Int.ofNat y).toNat=Int.ofNat (Nat.shiftLeft x y)from by simp[Nat.shiftLeft_eq]];exact hQ _
 |RShift=>
  refine el_EEAAL (bC hz) ?_
  rintro x y rfl rfl hz
  refine bf hz ?_
  clear hz
  intro h0 hz
  obtain rfl:=Ud hz
  refine rshift_int (TG y) ?_
  rw[show(Int.ofNat x).fdiv (2^(Int.ofNat y).toNat)=Int.ofNat (Nat.shiftRight x y)from by
   have:=kG x (2^y)
   simpa[Nat.shiftRight_eq_div_pow]using this]
  exact hQ _
 |BitXor=>obtain⟨x,y,rfl,rfl,hz⟩:=bC hz;cases hz;exact xor_int (by rw[show Builtin.bitXor (Int.ofNat x) (Int.ofNat y)=_ from nI x y];exact hQ _)
 |BitAnd=>obtain⟨x,y,rfl,rfl,hz⟩:=bC hz;cases hz;exact and_int (hQ _)
 |FloorDiv=>
  refine el_EEAAL (bC hz) ?_
  rintro x y rfl rfl hz
  refine aW hz ?_
  clear hz
  intro h0 h1 hz
  obtain rfl:=Ud hz
  have:=aX h1
  refine floordiv_int (nzI (aX h1)) (by rw[show(Int.ofNat x).fdiv (Int.ofNat y)=Int.ofNat (Nat.div x y)from kG x y];exact hQ _) (.inl ?_)
  have h64:((Int.ofNat y).natAbs.log2/30+1)≤300:=by
   have:=aX h0
   have:(Int.ofNat y).natAbs.log2<64:=by
    by_cases q:y=0
    · subst q;decide
    · exact(Nat.log2_lt (by simpa using q)).mpr (TH (aX h0) (by decide))
   exact TI (Nat.div_le_self _ _) (UQ this (by decide))
  unfold Builtin.divisionGoesByPylong
  dsimp only
  rw[Bool.and_eq_false_iff]
  left
  split
  · decide
  · simp only[decide_eq_false_iff_not,gt_iff_lt,Vd];exact h64
 |_=>exact nn hz
end
end
section
variable{Γ:Gl}{c:St0}{d:Dy}{f:Frm}{lo:Lo}{h:H}{n:Nat}{ih:Ih}
def bv(e:E):Prop:= ∀x,e≠ .raw x
theorem Snd.nraw(X:Snd Γ n ih){e:E}{x}(h1:ih.e f lo h e=some x):bv e:=λy q=>by subst q;rw[X.raw]at h1;cases h1
theorem eU{e:E}(he:bv e)(r:List Expr)(env:Env):Vu (dE e::r) env=(false,eval (dE e) env)::Vu r env:=by
 cases e<;>first|rfl|exact absurd rfl (he _)
theorem Ft(a b:Bool):(a&&(b&&(false&&true)))=false:=by cases a<;>cases b<;>rfl
theorem kH{e:E}(he:bv e)(op:CmpOp):behindInMarks op (dE e)=false:=by
 cases e with
 |raw x=>exact absurd rfl (he x)
 |set1 e y py ps k p=>
  show(k==0&&(op== .In||op== .NotIn)&&(dE e::[Expr.Starred (.Name y py) ps]).all (constantsAlone 8))=false
  exact Ft _ _
 |_=>rfl
section
variable{E:Value→Shared→Prop}
theorem yc(X:Snd Γ n ih)(A:AOk c n): ∀(es:Mine.E) (d:Dy) (h:H) (vs:List V) (h':H) (Q:List Value→Shared→Prop) (pos:Pos),Rel Γ c d f lo h→evs ih f lo es h=some (vs,h')→
 (∀ρ' ξ' s' ws,Ext d.ρ ρ'→Rel Γ c ⟨ρ',ξ',d.m,s'⟩ f lo h'→VsR ρ' vs ws→Q ws s')→wpAny Γ.M c.A (spliced (backTo pos (Vu (dL es) c.env))) Q E d.s:=by
 refine lsE ?_ ?_ ?_
 · intro d h vs h' Q pos R hv hQ
   obtain⟨rfl,rfl⟩:=so2 (hv:some (([]:List V),h)=some (vs,h'))
   exact Ui (hQ d.ρ d.ξ d.s [] (.refl _) R .nil)
 · intro e r IH d h vs h' Q pos R hv hQ
   refine aR (hv:ob (ih.e f lo h e) (λp=>ob (evs ih f lo r p.2) λq=>some (p.1::q.1,q.2))=some (vs,h')) ?_
   clear hv
   intro p h1 q h2 hv
   obtain⟨rfl,rfl⟩:=so2 hv
   refine T0 (X.e c d f lo h e p.1 p.2 _ E A R h1 λρ1 ξ1 s1 w x1 R1 v1=> ?_) (eU (X.nraw h1) _ _)
   refine IH ⟨ρ1,ξ1,d.m,s1⟩ p.2 q.1 q.2 _ pos R1 h2 λρ2 ξ2 s2 ws x2 R2 v2=> ?_
   exact hQ ρ2 ξ2 s2 (w::ws) (x1.trans x2) R2 (.cons (v1.ext x2) v2)
 · intro e q _ _ _ _ _ _ _ hv _;exact rq q hv
variable{Q:Value→Shared→Prop}{v:V}{h':H}{p:Pos}
theorem cH(x y:T):mkS x++mkS y=mkS (x++y):=by
 show Str.mk (x.toArray++y.toArray)=Str.mk (x++y).toArray
 simp
theorem am(x:T):(mkS x).length=x.length:=by show x.toArray.size=_;simp
theorem aM{α:Type}{l:List α}(h:okL l=true):l.length≤4000:=by
 have:=Tk h
 rwa [aO]at this
theorem ak:sizeLine=16777216:=rfl
noncomputable def Fu(k:Nat):Vs:=[.Add,.Sub,.Mult,.MatMult,.Div,.Mod,.Pow,.LShift,.RShift,.BitOr,.BitXor,.BitAnd,.FloorDiv].getD k .Add
theorem opK(op:Vs):op=Fu (@Operator.casesOn (λZ=>Nat) op 0 1 2 3 4 5 6 7 8 9 10 11 12):=by cases op<;>rfl
theorem eu{k:Nat}{op:Vs}(h:dR k op=true):op=Fu k:=Tj h▸opK op
theorem rx{op:Vs}(h:dR 0 op=true):op= .Add:=eu h
theorem yd{op:Vs}(h:dR 2 op=true):op= .Mult:=eu h
theorem Fv{op:Vs}(h:dR 5 op=true):op= .Mod:=eu h
theorem Fw{op:Vs}(h:dR 8 op=true):op= .RShift:=eu h
theorem zp{op:Vs}(h:dR 11 op=true):op= .BitAnd:=eu h
theorem av{k:Nat}{xs:List V}(e:aL h k=some xs):h[k]? =some (.list xs):=by
 refine aw e ?_
 clear e
 intro o a b
 rw[ap]at a
 rw[a,eJ b]
theorem bH{k:Nat}{xs:List (T×V)}(e:ku h k=some xs):h[k]? =some (.sd xs):=by
 refine aw e ?_
 clear e
 intro o a b
 rw[ap]at a
 rw[a,kl b]
theorem bO{α:Type}{b:Bool}{x y:Option α}{z:α}(e:bc b x y=some z):(b=true∧x=some z)∨(b=false∧y=some z):=by
 cases b
 · exact .inr ⟨rfl,e⟩
 · exact .inl ⟨rfl,e⟩
theorem kJ{α:Type}: ∀(k:Nat) (l:List α),(cD k l).length=k*l.length
 |0,l=>by show([]:List α).length=_;simp
 |k+1,l=>by
  show(app l (cD k l)).length=_
  rw[ay,TJ,kJ k l,Nat.succ_mul,Nat.add_comm]
theorem bh(R:Rel Γ c d f lo h){k:Nat}{xs:List V}(e:h[k]? =some (.list xs)): ∃a vs j,d.ρ[k]? =some a∧d.s.heap.get? a=some (Vv vs.toArray j)∧VsR d.ρ xs vs:=by
 refine el_EEAAEEAL (R.led.at e) ?_
 rintro a b h1 h2 vs j rfl h4
 exact⟨a,vs,j,h1,h2,h4⟩
theorem aG{hp:Heap}{a:Addr}{vs:List Value}{j:Nat}(e:hp.get? a=some (Vv vs.toArray j)):hp.IsList a vs.toArray:=⟨_,e,rfl,j,rfl⟩
end
end
section
variable{Γ:Gl}{c:St0}{d:Dy}{f:Frm}{lo:Lo}{h:H}{n:Nat}{ih:Ih}
noncomputable def nw(hp:Heap)(ρ:List Addr)(ξ:List (Addr×Obj)):List (Addr×Obj):=ρ.map (λa=>(a,(hp.get? a).getD default))++ξ
theorem Led.get{D:Wd}{h₀ hp:Heap}{L:Addr}{ρ:List Addr}{ξ:List (Addr×Obj)}(Y:Led D h₀ L hp ρ ξ h){a:Addr}(ha:a∈ρ): ∃b,hp.get? a=some b:=by
 refine el_EL (Ts ha) ?_
 intro k hk
 have hl:k<h.length:=by rw[←Y.len];rw[S3]at hk;exact hk.1
 refine el_EAL (Y.obj k a h[k] hk (S7 hl)) ?_
 intro b hb _
 exact⟨b,hb⟩
theorem Led.news{D:Wd}{h₀ hp:Heap}{L:Addr}{ρ:List Addr}{ξ:List (Addr×Obj)}(Y:Led D h₀ L hp ρ ξ h):News h₀ L hp (nw hp ρ ξ):=by
 intro p hp'
 rcases Ue.mp hp' with q|q
 · refine el_EAL (UW.mp q) ?_
   rintro a ha rfl
   refine el_EL (Y.get ha) ?_
   intro b hb
   exact⟨by simp[hb],(Y.new a ha).2.1,(Y.new a ha).1⟩
 · exact⟨(Y.frz p q).1,(Y.frz p q).2.2.1,(Y.frz p q).2.1⟩
theorem mu{D:Wd}{h₀ hp:Heap}{L:Addr}{ρ:List Addr}{ξ:List (Addr×Obj)}(_Y:Led D h₀ L hp ρ ξ h){a:Addr}(ha:a∈ρ){b:Obj}(hb:hp.get? a=some b):(a,b)∈nw hp ρ ξ:=
 Tu _ (UW.mpr ⟨a,ha,by simp[hb]⟩)
theorem Led.of_news{D:Wd}{h₀ hp hp':Heap}{L:Addr}{ρ:List Addr}{ξ:List (Addr×Obj)}(Y:Led D h₀ L hp ρ ξ h){h₁:Heap}{L':Addr}(N:News h₁ L' hp' (nw hp ρ ξ)):Led D h₁ L' hp' ρ ξ h:=
 ⟨Y.len,Y.nd,λk a o ha ho=>by
  refine el_EAL (Y.obj k a o ha ho) ?_
  intro b hb r
  exact⟨b,(N _ (mu Y (Tq ha) hb)).1,r⟩,λa ha=>by
  refine el_EL (Y.get ha) ?_
  intro b hb
  have:=N _ (mu Y ha hb)
  exact⟨this.2.2,this.2.1,(Y.new a ha).2.2⟩,λp hp=>by
  have:=N p (Tl _ hp)
  exact⟨this.1,this.2.2,this.2.1,(Y.frz p hp).2.2.2⟩⟩
theorem Led.of_news1{D:Wd}{h₀ hp hp':Heap}{L:Addr}{ρ:List Addr}{ξ:List (Addr×Obj)}(Y:Led D h₀ L hp ρ ξ h){m:Str→Option Value}(F:Fr h₀ L hp m){a:Addr}{o:O}{b:Obj}(hz:1<hp.objs.size)(ha:hp.objs.size≤a)
 (N:News h₀ L hp' ((a,b)::nw hp ρ ξ))(hf:OR D (ρ++[a]) ξ o b):Led D h₀ L hp' (ρ++[a]) ξ (h++[o]):=by
 have Y':Led D h₀ L hp' ρ ξ h:=Y.of_news λp hp=>N p (.tail _ hp)
 have N0:=N _ (.head _)
 have hna:a∉ρ:=λq=>Nat.lt_irrefl _ (TH (Y.lt q) ha)
 refine⟨by simp[Y.len],?_,λi x o' hx ho=> ?_,λx hx=> ?_,λp hp=> ?_⟩
 · rw[List.nodup_append]
   exact⟨Y.nd,by simp,λx hx y hy e=>by rw[TF]at hy;subst hy;subst e;exact hna hx⟩
 · by_cases q:i<ρ.length
   · rw[S4 q]at hx
     rw[S4 (by rw[←Y.len];exact q)]at ho
     refine el_EAL (Y'.obj i x o' hx ho) ?_
     intro b' hb' r
     exact⟨b',hb',r.ext (.push ρ a)⟩
   · have qi:i=ρ.length:=by
      rw[S3]at hx
      have:=hx.1
      rw[TJ]at this
      exact rt this q
     subst qi
     rw[S1 (UY _)]at hx
     rw[Y.len,S1 (UY _)]at ho
     simp at hx ho
     subst hx;subst ho
     exact⟨b,N0.1,hf⟩
 · rcases Ue.mp hx with q|q
   · exact Y'.new x q
   · rw[TF]at q
     subst q
     exact⟨N0.2.2,N0.2.1,TH hz ha⟩
 · have:=Y'.frz p hp
   refine⟨this.1,this.2.1,this.2.2.1,λq=> ?_⟩
   rcases Ue.mp q with q|q
   · exact this.2.2.2 q
   · rw[TF]at q
     exact absurd (UN (Y.frz p hp).1) (Vd.mpr (q▸ha))
theorem Rel.back1(R:Rel Γ c d f lo h){h':Heap}{t:Nat}{a:Addr}{o:O}{b:Obj}(ha:d.s.heap.objs.size≤a)(F:Fr c.h₀ c.L h' d.m)(N:News c.h₀ c.L h' ((a,b)::nw d.s.heap d.ρ d.ξ))(hf:OR Γ.D (d.ρ++[a]) d.ξ o b):
 Rel Γ c ⟨d.ρ++[a],d.ξ,d.m,{d.s with heap:=h',toks:=t}⟩ f lo (h++[o]):=
 ⟨F,R.gb,R.bl,R.led.of_news1 R.fr (R.gb.low R.fr) ha N hf,R.nm.ext (.push _ _),R.os,R.gens,R.kp,R.gk⟩
section
variable{Q:Value→Shared→Prop}{E:Value→Shared→Prop}{v:V}{h':H}{p:Pos}
theorem PostE.new{o:O}(hQ:PostE Γ c d f lo (h++[o]) (.loc h.length) Q)(R:Rel Γ c d f lo h){b:Obj}{h':Heap}{t:Nat}(F:Fr c.h₀ c.L h' d.m)(N:News c.h₀ c.L h' ((d.s.heap.objs.size,b)::nw d.s.heap d.ρ d.ξ))
 (hf:OR Γ.D (d.ρ++[d.s.heap.objs.size]) d.ξ o b):Q (.ref d.s.heap.objs.size) {d.s with heap:=h',toks:=t}:=
 hQ _ _ _ _ (.push _ _) (R.back1 (UY _) F N hf) (bu R _)
theorem oK(k:Nat)(a:Array Value): ∀acc:Array Value,(List.replicate k a).foldl (λx y=>x++y) acc=acc++(cD k a.toList).toArray:=by
 induction k with
 |zero=>intro acc;show acc=acc++([]:List Value).toArray;simp
 |succ k ih=>
  intro acc
  rw[List.replicate_succ,List.foldl_cons,ih]
  show acc++a++_=acc++(app a.toList (cD k a.toList)).toArray
  rw[ay]
  apply Array.ext'
  simp
theorem kK{ρ:List Addr}{xs:List V}{vs:List Value}(r:VsR ρ xs vs): ∀k,VsR ρ (cD k xs) (cD k vs)
 |0=> .nil
 |k+1=>by
  show VsR ρ (app xs (cD k xs)) (app vs (cD k vs))
  rw[ay,ay];exact r.append (kK r k)
theorem gI{α:Type}: ∀k,cD k ([]:List α)=[]
 |0=>rfl
 |k+1=>by show app [] (cD k [])=_;rw[ay,gI k];rfl
theorem zq{i r:Int}(a b:Int)(ha:a≠0)(hd:32=a*(2*b))(hr:i%32=r):i/a%2=r/a%2:=by
 have h:i%32=i+a*(2*(-(b*(i/32)))):=by
  rw[Int.emod_def,Int.sub_eq_add_neg,hd,Int.mul_neg,Int.mul_neg,←hd]
  simp only[Int.mul_assoc,hd]
 rw[←hr,h,Int.add_mul_ediv_left _ _ ha,Int.add_mul_emod_self_left]
theorem zr{i:Int}{r q:Nat}(hr:i%32=(r:Int))(hq:q<5):Builtin.bitAnd (i>>>q) 1=((Nat.mod (Nat.shiftRight r q) 2:Nat):Int):=by
 rw[bitAnd_m1,Int.shiftRight_eq_div_pow]
 show _=(((r>>>q)%2:Nat):Int)
 rw[Nat.shiftRight_eq_div_pow,Int.natCast_emod,Int.natCast_ediv]
 have k: ∀q<5,(32:Int)=((2^q:Nat):Int)*(2*((2^(4-q):Nat):Int)):=by decide+kernel
 exact zq _ _ (Int.natCast_ne_zero.mpr (Nat.pos_iff_ne_zero.mp (Nat.two_pow_pos q))) (k q hq) hr
theorem mv(k:Nat)(a:Array Nat): ∀acc:Array Nat,(List.replicate k a).foldl (λx y=>x++y) acc=acc++(cD k a.toList).toArray:=by
 induction k with
 |zero=>intro acc;show acc=acc++([]:List Nat).toArray;simp
 |succ k ih=>
  intro acc
  rw[List.replicate_succ,List.foldl_cons,ih]
  show acc++a++_=acc++(app a.toList (cD k a.toList)).toArray
  rw[ay]
  apply Array.ext'
  simp
set_option tactic.hygienic true in
theorem ur(x:T)(k:Nat):Txt.mul (mkS x) (k:Int)=mkS (cD k x):=by
 unfold Txt.mul
 split
 · have:k=0:=Nat.lt_one_iff.mp (US.mp (by assumption))
   subst this;rfl
 · split
   · rename_i h1 h2
     simp only[Bool.or_eq_true,beq_iff_eq]at h2
     rcases h2 with h2|h2
     · have:k=1:=by omega
       subst this
       show mkS x=mkS (app x []);rw[ay,Uh]
     · have:x=[]:=by rw[am]at h2;exact List.length_eq_zero_iff.mp h2
       subst this;rw[gI]
   · rw[mv]
     show Str.mk _=Str.mk _
     simp[mkS]
theorem zu{op:Vs}{a b:V}{va vb:Value}(R:Rel Γ c d f lo h)(ha:VR d.ρ a va)(hb:VR d.ρ b vb)(hv:EC h op a b=some (v,h'))(hQ:PostE Γ c d f lo h' v Q):wpAny Γ.M c.A (binaryOp op va vb) Q E d.s:=by
 cases a with
 |none|bool _|top _|prim _=>exact nn hv
 |int x=>
  refine aR (hv:ob (ax b) _=_) ?_
  clear hv
  intro y hy z hz hv
  replace hQ:=hQ.so hv
  clear hv
  refine el_EL ha ?_
  clear ha
  rintro t rfl
  rw[aq hy]at hb
  refine el_EL hb ?_
  clear hb
  rintro u rfl
  exact zo hz λt'=>hQ.tok R ⟨_,rfl⟩ _
 |str x=>
  refine el_EL ha ?_
  clear ha
  rintro t rfl
  cases b with
  |int y=>
   refine bJ (hv:ob (kj y) _=_) ?_
   clear hv
   intro k hk h1 hvX
   refine aW hvX ?_
   clear hvX
   intro h2 h3 hv
   replace hQ:=hQ.so hv
   clear hv
   refine el_EL hb ?_
   clear hb
   rintro u rfl
   obtain rfl:=yd h1
   rw[c9 hk]
   have hk2:=aX h2
   have hl:=aM h3
   refine SB.mul ⟨?_,λZ Z=> ?_,λZ Z=> ?_⟩ λt' tk=> ?_
   · show(decide ((k:Int)< -(2^63:Int))||decide ((k:Int)≥2^63))=false
     rw[MF,MG (UQ hk2 (by decide))];rfl
   · rw[am]
     have h1:(9223372036854775807:Int)/64≤(2^63-1)/(Int.ofNat k):=by
      by_cases q:k=0
      · subst q;exact absurd (by decide:Int.ofNat 0<1) (by assumption)
      · show _≤(2^63-1)/(k:Int)
        apply Int.le_ediv_of_mul_le (US.mpr (Nat.pos_of_ne_zero q))
        exact UT (Int.mul_le_mul_of_nonneg_left (UX.mpr (UP hk2)) (by decide)) (by decide)
     exact Int.not_lt.mpr (UT (UT (UX.mpr hl) (by decide)) h1)
   · rw[am]
     show Builtin.Str.tooLong (x.length*k)=false
     exact decide_eq_false (Vd.mpr (UJ (Nat.mul_le_mul hl (UP hk2)) (by decide)))
   · rw[show Txt.mul (mkS x) (Int.ofNat k)=_ from ur x k]
     exact hQ.tok R ⟨_,rfl⟩ _
  |str y=>
   refine aW (hv:gd _ _=_) ?_
   clear hv
   intro h1 h2 hvX
   refine bf hvX ?_
   clear hvX
   intro h3 hv
   replace hQ:=hQ.so hv
   clear hv
   refine el_EL hb ?_
   clear hb
   rintro u rfl
   obtain rfl:=rx h1
   refine add_str (λt' tk=> ?_) ?_
   · rw[cH];rw[ay]at hQ;exact hQ.tok R ⟨_,rfl⟩ _
   · rw[am,am];exact UJ (Nat.add_le_add (aM h2) (aM h3)) (by decide)
  |_=>exact nn hv
 |loc i=>
  refine aw (hv:ob (aL h i) _=_) ?_
  clear hv
  intro xs hx hv
  refine el_EEEAAL (bh R (av hx)) ?_
  intro a vs j e1 e2 e3
  refine el_EAL ha ?_
  clear ha
  rintro a' q1 rfl
  rw[e1]at q1
  obtain rfl:=Ud q1
  cases b with
  |int y=>
   refine bJ (hv:ob (kj y) _=_) ?_
   clear hv
   intro k hk h1 hvX
   refine aW hvX ?_
   clear hvX
   intro h2 h3 hv
   rw[eM]at hv
   replace hQ:=hQ.so hv
   clear hv
   refine el_EL hb ?_
   clear hb
   rintro u rfl
   obtain rfl:=yd h1
   rw[c9 hk]
   have hk2:=aX h2
   have hl:=aM h3
   have hl2:=e3.length
   refine mul_list R.fr R.led.news e2 iLo (iHi (UQ hk2 (by decide))) ?_ λhp F N=> ?_
   · simp only[TO]
     show vs.length*k≤2^24
     rw[hl2]
     exact UJ (Nat.mul_le_mul hl (UP hk2)) (by decide)
   · refine hQ.new R F N ⟨cD k vs,0,?_,(kK e3 k).ext (.push _ _)⟩
     rw[oK]
     cases vs with
     |nil=>simp[gI]
     |cons=>simp
  |loc j'=>
   refine bJ (hv:ob (aL h j') _=_) ?_
   clear hv
   intro ys hy h1 hvX
   refine aW hvX ?_
   clear hvX
   intro h2 h3 hv
   rw[eM,ay]at hv
   replace hQ:=hQ.so hv
   clear hv
   refine el_EEEAAL (bh R (av hy)) ?_
   intro b ws j2 g1 g2 g3
   refine el_EAL hb ?_
   clear hb
   rintro b' q1 rfl
   rw[g1]at q1
   obtain rfl:=Ud q1
   obtain rfl:=rx h1
   refine add_arrays R.fr R.led.news (aG e2) (aG g2) (λhp F N=> ?_) ?_
   · exact hQ.new R F N ⟨vs++ws,0,by simp,(e3.append g3).ext (.push _ _)⟩
   · simp only[TO]
     rw[e3.length,g3.length];exact UJ (Nat.add_le_add (aM h2) (aM h3)) (by decide)
  |_=>exact nn hv
 |m32 r=>
  refine aw (hv:ob (eF b) _=_) ?_
  clear hv
  intro k hk hv
  rw[bS hk]at hb
  refine el_EL hb ?_
  clear hb
  rintro u rfl
  refine el_EEAL ha ?_
  clear ha
  rintro i t rfl hr
  rcases bO hv with qA|qA
  · refine ae qA ?_
    clear qA
    intro h1 hv
    refine bf hv ?_
    clear hv
    intro h2 hv
    replace hQ:=hQ.so hv
    clear hv
    obtain rfl:=Fv h1
    obtain rfl:=Tj h2
    refine mod_int' (by decide) ?_
    rw[show i.fmod (Int.ofNat 32)=i%32 from Int.fmod_eq_emod_of_nonneg _ (by decide),hr]
    exact hQ.tok R ⟨_,rfl⟩ _
  · obtain⟨_,hv⟩:=qA
    obtain⟨h1,hv⟩:=en.mp hv
    obtain⟨h2,hv⟩:=en.mp hv
    replace hQ:=hQ.so hv
    clear hv
    obtain rfl:=Fw h1
    refine rshift_int (TG k) ?_
    rw[show i.fdiv (2^(Int.ofNat k).toNat)=i>>>k from by
     rw[Int.shiftRight_eq_div_pow,Int.fdiv_eq_ediv_of_nonneg _ (by apply Int.pow_nonneg;decide)];simp]
    exact hQ.tok R ⟨i,_,rfl,hr⟩ _
 |sh r q=>
  refine aw (hv:ob (eF b) _=_) ?_
  clear hv
  intro k hk hv
  rw[bS hk]at hb
  refine el_EL hb ?_
  clear hb
  rintro u rfl
  refine el_EEAL ha ?_
  clear ha
  rintro i t rfl hr
  obtain⟨h1,hv⟩:=en.mp hv
  obtain⟨h2,hv⟩:=en.mp hv
  obtain⟨h3,hv⟩:=en.mp hv
  replace hQ:=hQ.so hv
  clear hv
  obtain rfl:=zp h1
  obtain rfl:=Tj h2
  refine and_int ?_
  rw[show Builtin.bitAnd (i>>>q) (Int.ofNat 1)=Int.ofNat (Nat.mod (Nat.shiftRight r q) 2)from zr hr (aX h3)]
  exact hQ.tok R ⟨_,rfl⟩ _
end
end
section
variable{Γ:Gl}{c:St0}{d:Dy}{f:Frm}{lo:Lo}{h:H}{n:Nat}{ih:Ih}
def sD:V→PyData
 | .none=> .none
 | .bool b=> .bool b
 | .int i=> .int i
 | .str x=> .str (mkS x)
 |_=> .none
def toD(h:H):Nat→V→PyData
 |0,v=>sD v
 |n+1,v=>match aH v with
  |some k=> .list ((f6 h k).map (toD h n))
  |none=>sD v
theorem gp(k n:Nat):toD h (n+1) (.loc k)= .list ((f6 h k).map (toD h n)):=rfl
theorem eV{v:V}(n:Nat)(q:aH v=none):toD h (n+1) v=sD v:=by unfold toD;rw[q]
theorem dW{α:Type}{p:α→Bool}: ∀{l:List α},iC p l=true→ ∀x∈l,p x=true
 |[],_,x,hx=>by cases hx
 |a::l,e,x,hx=>by
  have e':bc (p a) (iC p l) false=true:=e
  cases q:p a with
  |false=>rw[q]at e';cases e'
  |true=>
   rw[q]at e'
   rcases Uz.mp hx with rfl|hx
   · exact q
   · exact dW (e':iC p l=true) x hx
theorem kL{α:Type}(p:α→Bool): ∀l:List α,tP p l=l.any p
 |[]=>rfl
 |a::l=>by
  show bc (p a) true (tP p l)=_
  rw[kL p l,UI]
  cases p a<;>rfl
theorem oM{t:T}(e:okT t=true):PyData.strOk (mkS t)=true:=by
 unfold PyData.strOk
 have:=dW e
 simp only[mkS,List.all_toArray]
 rw[TY]
 intro x hx
 have:=aX (this x hx)
 simpa using this
theorem df{v:V}(e:okS v=true):(∃i,v= .int i)∨(∃x,v= .str x∧okT x=true):=by
 cases v with
 |int i=>exact .inl ⟨i,rfl⟩
 |str x=>exact .inr ⟨x,rfl,e⟩
 |_=>exact ff e
theorem gq{ρ:List Addr}{hp:Heap}{v:V}{w:Value}(e:okS v=true)(r:VR ρ v w):Reads hp w (sD v) []∧(sD v).canLay0=true∧(sD v).depth≤1:=by
 rcases df e with qA|qA
 · refine el_EL qA ?_
   clear qA
   rintro i rfl
   refine el_EL r ?_
   clear r
   rintro t rfl
   exact⟨.int _ _,by simp[sD,PyData.canLay0],by simp[sD,PyData.depth]⟩
 · refine el_EAL qA ?_
   clear qA
   rintro x rfl q
   refine el_EL r ?_
   clear r
   rintro t rfl
   exact⟨.str _ _,by simp[sD,PyData.canLay0,oM q],by simp[sD,PyData.depth]⟩
theorem gJ{k:Nat}{n:Nat}(e:dc h (n+1) (.loc k)=true): ∃xs,aL h k=some xs∧f6 h k=xs∧ ∀x∈xs,dc h n x=true:=by
 have e':bc (bo (aL h k)) (iC (dc h n) (f6 h k)) false=true:=e
 cases q:aL h k with
 |none=>rw[q]at e';cases e'
 |some xs=>
  rw[q]at e'
  have l:f6 h k=xs:=by unfold f6;rw[q]
  rw[l]at e'
  exact⟨xs,rfl,l,dW (e':iC (dc h n) xs=true)⟩
theorem ew{n:Nat}{v:V}(q:aH v=none)(e:dc h (n+1) v=true):okS v=true:=by
 have e': @U9 Nat (λZ=>Bool) (okS v) (λk=>bc (bo (aL h k)) (iC (dc h n) (f6 h k)) false) (aH v)=true:=e
 rw[q]at e';exact e'
theorem jG{D:Wd}{h₀ hp:Heap}{L:Addr}{ρ:List Addr}{ξ:List (Addr×Obj)}(Y:Led D h₀ L hp ρ ξ h): ∀(n:Nat) {v:V} {w:Value},dc h n v=true→VR ρ v w→
 ∃as,Reads hp w (toD h n v) as∧(toD h n v).canLay0=true∧(toD h n v).depth≤n+1
 |0,v,w,e,r=>by
  refine bi (gq (hp:=hp) (e:okS v=true) r) ?_
  intro a b c
  exact⟨[],a,b,c⟩
 |n+1,v,w,e,r=>by
  cases q:aH v with
  |none=>
   have e':=ew q e
   refine bi (gq (hp:=hp) e' r) ?_
   intro a b c
   rw[eV n q]
   exact⟨[],a,b,UJ c (Ua (U0 _))⟩
  |some k=>
   obtain rfl:=aj q
   refine el_EAAL (gJ e) ?_
   intro xs l1 l2 l3
   refine el_EAL r ?_
   clear r
   rintro a h1 rfl
   refine el_EAL (Y.obj k a _ h1 (av l1)) ?_
   intro b hb qX
   refine el_EEAL qX ?_
   clear qX
   rintro vs j rfl hv
   have main: ∀(xs:List V) (vs:List Value),VsR ρ xs vs→(∀x∈xs,dc h n x=true)→ ∃as,ReadsAll hp vs (xs.map (toD h n)) as∧TV (xs.map (toD h n))=true∧PyData.depthAll (xs.map (toD h n))≤n+1:=by
    intro xs vs rr
    induction rr with
    |nil=>exact λZ=>⟨[],.nil,by simp[TV],by simp[PyData.depthAll]⟩
    |cons hx _ ih=>
     intro ha
     refine el_EAAL (jG Y n (ha _ (.head _)) hx) ?_
     intro as a1 a2 a3
     refine el_EAAL (ih λx hx=>ha x (.tail _ hx)) ?_
     intro bs b1 b2 b3
     exact⟨as++bs,.cons a1 b1,by simp[TV,a2,b2],Nat.max_le.mpr ⟨a3,b3⟩⟩
   refine el_EAAL (main xs vs hv l3) ?_
   intro as a1 a2 a3
   rw[gp,l2]
   refine⟨a::as,.list hb rfl rfl (by simpa using a1),by simpa[PyData.canLay0]using a2,?_⟩
   first|exact Ua a3|(show 1+_≤_;rw[Nat.add_comm];exact Ua a3)
theorem i8{n:Nat}(H1: ∀a b,dc h n a=true→dc h n b=true→Ve (toD h n a) (toD h n b)=gz h n a b): ∀(xs ys:List V),(∀x∈xs,dc h n x=true)→(∀x∈ys,dc h n x=true)→
 PyData.eqvAll (xs.map (toD h n)) (ys.map (toD h n))=nv (gz h n) xs ys
 |[],[],_,_=>by simp[PyData.eqvAll];rfl
 |[],_::_,_,_=>by simp[PyData.eqvAll];rfl
 |_::_,[],_,_=>by simp[PyData.eqvAll];rfl
 |x::xs,y::ys,hx,hy=>by
  simp only[UB,PyData.eqvAll]
  rw[H1 x y (hx _ (.head _)) (hy _ (.head _)),i8 H1 xs ys (λz hz=>hx z (.tail _ hz)) (λz hz=>hy z (.tail _ hz))]
  show _=bc (gz h n x y) (nv (gz h n) xs ys) false
  cases gz h n x y<;>rfl
theorem dq(x y:T):(mkS x==mkS y)=tEq x y:=by
 cases q:tEq x y with
 |true=>rw[au.mp q];simp
 |false=>
  have:=cK q
  simp only[beq_eq_false_iff_ne]
  exact λe=>this (bW e)
theorem gr(x y:Int):(x==y)=iEq x y:=by
 cases q:iEq x y with
 |true=>rw[eo.mp q];simp
 |false=>
  simp only[beq_eq_false_iff_ne]
  intro e;rw[eo.mpr e]at q;cases q
theorem ry{a b:V}(ha:okS a=true)(hb:okS b=true):Ve (sD a) (sD b)=md a b:=by
 rcases df ha with⟨i,rfl⟩|⟨x,rfl,_⟩<;>rcases df hb with⟨j,rfl⟩|⟨y,rfl,_⟩
 · simp only[sD,Ve];exact gr i j
 · simp only[sD,Ve];rfl
 · simp only[sD,Ve];rfl
 · simp only[sD,Ve];exact dq x y
theorem ye: ∀(n:Nat) (a b:V),dc h n a=true→dc h n b=true→Ve (toD h n a) (toD h n b)=gz h n a b
 |0,a,b,ha,hb=>ry ha hb
 |n+1,a,b,ha,hb=>by
  have e:gz h (n+1) a b= @U9 Nat (λZ=>Bool) (md a b) (λi=> @U9 Nat (λZ=>Bool) false (λj=>nv (gz h n) (f6 h i) (f6 h j)) (aH b)) (aH a):=rfl
  rw[e]
  cases qa:aH a with
  |none=>
   have ka:=ew qa ha
   rw[eV n qa]
   cases qb:aH b with
   |none=>rw[eV n qb];exact ry ka (ew qb hb)
   |some j=>
    obtain rfl:=aj qb
    rw[gp]
    rcases df ka with⟨i,rfl⟩|⟨x,rfl,_⟩<;> · simp only[sD,Ve];rfl
  |some i=>
   obtain rfl:=aj qa
   refine el_EAAL (gJ ha) ?_
   intro xs l1 l2 l3
   rw[gp]
   cases qb:aH b with
   |none=>
    rw[eV n qb]
    rcases df (ew qb hb)with⟨i,rfl⟩|⟨x,rfl,_⟩<;> · simp only[sD,Ve]
   |some j=>
    obtain rfl:=aj qb
    refine el_EAAL (gJ hb) ?_
    intro ys m1 m2 m3
    rw[gp]
    simp only[Ve]
    rw[l2,m2]
    exact i8 (ye n) xs ys l3 m3
end
section
variable{Γ:Gl}{c:St0}{d:Dy}{f:Frm}{lo:Lo}{h:H}{n:Nat}{ih:Ih}
section
variable{Q:Value→Shared→Prop}{E:Value→Shared→Prop}{v:V}{h':H}{p:Pos}
theorem rz{a:V}{r:Bool}{va:Value}{ρ:List Addr}(ha:VR ρ a va)(e:isV a .none=some r):(va==Value.none)=r:=by
 cases a with
 |none=>cases ha;cases e;rfl
 |bool x=>cases ha;cases e;rfl
 |int x=>obtain⟨t,rfl⟩:=ha;cases e;rfl
 |str x=>obtain⟨t,rfl⟩:=ha;cases e;rfl
 |loc k=>obtain⟨a,_,rfl⟩:=ha;cases e;rfl
 |_=>exact nn e
theorem yg{a b:V}{r:Bool}{va vb:Value}{ρ:List Addr}(ha:VR ρ a va)(hb:VR ρ b vb)(e:isV a b=some r):
 (vb= .none∧(va==Value.none)=r)∨ ∃x y,va= .bool x∧vb= .bool y∧(x==y)=r:=by
 cases b with
 |none=>cases hb;exact .inl ⟨rfl,rz ha e⟩
 |bool y=>
  cases hb
  cases a with
  |bool x=>
   cases ha
   refine .inr ⟨x,y,rfl,rfl,?_⟩
   obtain rfl:=Ud (e:some (bc x y (bn y))=some r)
   cases x<;>cases y<;>rfl
  |_=>exact nn e
 |_=>exact nn e
theorem fD{x:Option Bool}{r:Bool}(e:tR x=some r):x=some (!r):=by
 refine aw e ?_
 clear e
 intro b h1 h2
 obtain rfl:=Ud h2
 rw[h1,bg,Bool.not_not]
theorem Fx{a b:V}{r:Bool}{va vb:Value}(A:AOk c n)(R:Rel Γ c d f lo h)(ha:VR d.ρ a va)(hb:VR d.ρ b vb)(e:tO a b=some r):
 (∀{Q E},Q (.bool r) d.s→wpAny Γ.M c.A (Vp .Eq va vb) Q E d.s)∧(∀{Q E},Q (.bool (!r)) d.s→wpAny Γ.M c.A (Vp .NotEq va vb) Q E d.s):=by
 have hu:c.A.units+64<cLine:=un1 A.un (by decide)
 have dat: ∀{da db:PyData},Reads d.s.heap va da []→Reads d.s.heap vb db []→UV da=true→UV db=true→Ve da db=r→
  (∀{Q E},Q (.bool r) d.s→wpAny Γ.M c.A (Vp .Eq va vb) Q E d.s)∧(∀{Q E},Q (.bool (!r)) d.s→wpAny Γ.M c.A (Vp .NotEq va vb) Q E d.s):=by
  intro da db r1 r2 s1 s2 q
  subst q
  exact⟨λk=>eq_dataH r1 r2 s1 s2 hu k,λk=>ne_dataH r1 r2 s1 s2 hu k⟩
 cases a with
 |none=>
  cases ha
  cases b with
  |none=>cases hb;cases e;exact dat .none .none (by decide) (by decide) (by simp[Ve])
  |int y=>
   refine el_EL hb ?_
   clear hb
   rintro t rfl
   obtain rfl:=Ud e
   exact dat .none (.int y t) (by decide) (by simp[UV,PyData.canLay0,PyData.depth]) (by simp[Ve])
  |_=>exact nn e
 |bool x=>
  cases ha
  cases b with
  |bool y=>
   cases hb
   obtain rfl:=Ud (e:some (bc x y (bn y))=some r)
   have:(x==y)=bc x y (bn y):=by cases x<;>cases y<;>rfl
   exact⟨λk=>eq_bool (by rw[this];exact k),λk=>ne_bool (by rw[bne,this];exact k)⟩
  |_=>exact nn e
 |int x=>
  refine el_EL ha ?_
  clear ha
  rintro t rfl
  cases b with
  |none=>
   cases hb
   obtain rfl:=Ud e
   exact dat (.int x t) .none (by simp[UV,PyData.canLay0,PyData.depth]) (by decide) (by simp[Ve])
  |int y=>
   refine el_EL hb ?_
   clear hb
   rintro u rfl
   obtain rfl:=Ud (e:some (iEq x y)=some r)
   exact⟨λk=>PyProof.Rows.eq_int (by rw[gr];exact k),λk=>PyProof.Rows.ne_int (by rw[bne,gr];exact k)⟩
  |_=>exact nn e
 |str x=>
  refine el_EL ha ?_
  clear ha
  rintro t rfl
  cases b with
  |str y=>
   refine el_EL hb ?_
   clear hb
   rintro u rfl
   obtain rfl:=Ud (e:some (tEq x y)=some r)
   exact⟨λk=>PyProof.Rows.eq_str (by rw[dq];exact k),λk=>PyProof.Rows.ne_str (by rw[bne,dq];exact k)⟩
  |_=>exact nn e
 |_=>exact nn e
theorem yi{a b:V}{r:Bool}{va vb:Value}(A:AOk c n)(R:Rel Γ c d f lo h)(ha:VR d.ρ a va)(hb:VR d.ρ b vb)(e:vEq h a b=some r):
 (∀{Q E},Q (.bool r) d.s→wpAny Γ.M c.A (Vp .Eq va vb) Q E d.s)∧(∀{Q E},Q (.bool (!r)) d.s→wpAny Γ.M c.A (Vp .NotEq va vb) Q E d.s):=by
 have e': @U9 Nat (λZ=>Option Bool) (tO a b) (λZ=>gd (dc h 3 a) (gd (dc h 3 b) (some (gz h 3 a b)))) (aH a)=some r:=e
 cases q:aH a with
 |none=>rw[q]at e';exact Fx A R ha hb e'
 |some k=>
  rw[q]at e'
  refine aW (e':gd (dc h 3 a) (gd (dc h 3 b) (some (gz h 3 a b)))=some r) ?_
  clear e'
  intro p1 p2 e'
  obtain rfl:=Ud e'
  have hu:c.A.units+64<cLine:=un1 A.un (by decide)
  refine el_EAAL (jG R.led 3 p1 ha) ?_
  intro as a1 a2 a3
  refine el_EAAL (jG R.led 3 p2 hb) ?_
  intro bs b1 b2 b3
  have s1:UV (toD h 3 a)=true:=by unfold UV;rw[a2];exact decide_eq_true (UJ a3 (by decide))
  have s2:UV (toD h 3 b)=true:=by unfold UV;rw[b2];exact decide_eq_true (UJ b3 (by decide))
  have q:=ye 3 a b p1 p2
  exact⟨λk=>eq_dataH a1 b1 s1 s2 hu (by rw[q];exact k),λk=>ne_dataH a1 b1 s1 s2 hu (by rw[q];exact k)⟩
theorem kM(x:T): ∀l:List T,memT x l=l.any λy=>mkS y==mkS x
 |[]=>rfl
 |a::l=>by
  show bc (tEq a x) true (memT x l)=_
  rw[kM x l,UI,dq]
  cases tEq a x<;>rfl
theorem gK(a:Nat): ∀l:T,ou a l=decide (a∈l)
 |[]=>by simp;rfl
 |b::l=>by
  show bc (Nat.beq a b) true (ou a l)=_
  rw[gK a l]
  cases q:Nat.beq a b with
  |true=>have:=Tj q;subst this;simp[bc]
  |false=>have:=Th q;simp[bc,this]
theorem mw{D:Wd}{h₀ hp:Heap}{L:Addr}{ρ:List Addr}{ξ:List (Addr×Obj)}{xs:List V}{vs:List Value}{h:H}(_Y:Led D h₀ L hp ρ ξ h)(rr:VsR ρ xs vs)(ha: ∀x∈xs,okS x=true):
 ∃as,ReadsAll hp vs (xs.map sD) as∧TV (xs.map sD)=true:=by
 induction rr with
 |nil=>exact⟨[],.nil,by simp[TV]⟩
 |cons hx _ ih=>
  refine bi (gq (hp:=hp) (ha _ (.head _)) hx) ?_
  intro a1 a2 a3
  refine el_EAL (ih λx hx=>ha x (.tail _ hx)) ?_
  intro bs b1 b2
  exact⟨[]++bs,.cons a1 b1,by simp[TV,a2,b2]⟩
theorem i9{a:V}(h2:okS a=true): ∀xs:List V,(∀x∈xs,okS x=true)→(xs.any ((λy=>Ve y (sD a))∘sD))=xs.any (λx=>md x a)
 |[],_=>rfl
 |x::xs,H=>by
  rw[UI,UI,i9 h2 xs λx hx=>H x (.tail _ hx)]
  congr 1
  exact ry (H x (.head _)) h2
theorem yj{a b:V}{r:Bool}{va vb:Value}(A:AOk c n)(R:Rel Γ c d f lo h)(ha:VR d.ρ a va)(hb:VR d.ρ b vb)(e:inV h a b=some r):
 (∀{Q E},(∀t,Q (.bool r) {d.s with toks:=t})→wpAny Γ.M c.A (Vp .In va vb) Q E d.s)∧(∀{Q E},(∀t,Q (.bool (!r)) {d.s with toks:=t})→wpAny Γ.M c.A (Vp .NotIn va vb) Q E d.s):=by
 cases b with
 |str y=>
  refine aw (e:ob (aT a) _=some r) ?_
  clear e
  intro x h1 e
  obtain rfl:=ar h1
  cases x with
  |nil=>exact nn e
  |cons ch x=>
   refine bf (e:gd (aV x) _=some r) ?_
   clear e
   intro h2 e
   obtain rfl:=Ud e
   rw[bM]at h2
   have:=T4.mp h2
   subst this
   refine el_EL ha ?_
   clear ha
   rintro t rfl
   refine el_EL hb ?_
   clear hb
   rintro u rfl
   have q:(!(Te (mkS y) (mkS [ch]) 0 (mkS y).length 1).isEmpty)=ou ch y:=by
    rw[gK];exact StrLaws.found_one _ _
   exact⟨λk=>PyProof.Rows.in_str (by rw[q];exact k d.s.toks),λk=>PyProof.Rows.notIn_str (by rw[q];exact k d.s.toks)⟩
 |loc k=>
  refine aw (e:ob (nth h k) _=some r) ?_
  clear e
  intro o h1 e
  rw[ap]at h1
  refine el_EAL hb ?_
  clear hb
  rintro ad q1 rfl
  cases o with
  |list xs=>
   refine aW (e:gd (okS a) _=some r) ?_
   clear e
   intro h2 h3 e
   obtain rfl:=Ud e
   refine el_EEEAAL (bh R h1) ?_
   intro ad' vs j e1 e2 e3
   rw[q1]at e1
   obtain rfl:=Ud e1
   refine el_EAL (mw R.led e3 (dW h3)) ?_
   intro as a1 a2
   refine bi (gq (hp:=d.s.heap) h2 ha) ?_
   intro b1 b2 b3
   have hu:c.A.units+1+min (PyData.depthAll (xs.map sD)) (sD a).depth<cLine:=by
    have:=A.un
    have:min (PyData.depthAll (xs.map sD)) (sD a).depth≤(sD a).depth:=Nat.min_le_right _ _
    exact TI (Nat.add_le_add (Nat.add_le_add_right (UJ (T2 _ _) A.un) 1) (UJ this b3)) (by decide)
   have q:((xs.map sD).any λy=>Ve y (sD a))=tP (λx=>md x a) xs:=by
    rw[kL,List.any_map]
    exact i9 h2 xs (dW h3)
   have rl:Reads d.s.heap (.ref ad) (.list (xs.map sD)) (ad::as):= .list e2 rfl rfl (by simpa using a1)
   exact⟨λk=>SeqAt.in_list_reads rl b1 a2 b2 hu (by rw[q];exact k d.s.toks),λk=>SeqAt.notIn_list_reads rl b1 a2 b2 hu (by rw[q];exact k d.s.toks)⟩
  |set xs=>
   refine bJ (e:ob (aT a) _=some r) ?_
   clear e
   intro x h2 h3 e
   obtain rfl:=Ud e
   obtain rfl:=ar h2
   refine el_EL ha ?_
   clear ha
   rintro t rfl
   refine el_EEAAL (R.led.at h1) ?_
   intro ad' b g1 g2 g3
   rw[q1]at g1
   obtain rfl:=Ud g1
   have hl:xs.length<scanBound:=by
    have:=aX h3
    rw[aO]at this
    exact TH this (by decide)
   have S:=Obj.SetObjOf.setOf g3 g2 hl
   have hk:(strKind Γ.prog Γ.w).is (mkS x) (.str (mkS x) t)=true:=by simp[UH,UD]
   rw[kM]
   exact⟨λk=>wpAny_inSet_of hk rfl S (k _),λk=>wpAny_notInSet_of hk rfl S (k _)⟩
  |_=>exact nn e
 |_=>exact nn e
theorem ey{a b:V}{g:Int→Int→Bool}{r:Bool}(e:qw a b g=some r): ∃x y,a= .int x∧b= .int y∧g x y=r:=by
 refine aR e ?_
 clear e
 intro x h1 y h2 e
 obtain rfl:=Ud e
 exact⟨x,y,aq h1,aq h2,rfl⟩
theorem jH(x y:Int):decide (x<y)=iLt x y:=by
 cases q:iLt x y with
 |true=>simpa using(cu x y).mp q
 |false=>
  simp only[decide_eq_false_iff_not]
  intro e;rw[(cu x y).mpr e]at q;cases q
theorem nJ(x y:Int):decide (x≤y)=bn (iLt y x):=by
 rw[bg,←jH,←decide_not]
 simp
theorem jI{op:CmpOp}{a b:V}{r:Bool}{va vb:Value}(A:AOk c n)(R:Rel Γ c d f lo h)(ha:VR d.ρ a va)(hb:VR d.ρ b vb)(e:mh h op a b=some r)(hQ: ∀t,Q (.bool r) {d.s with toks:=t}):
 wpAny Γ.M c.A (Vp op va vb) Q E d.s:=by
 cases op with
 |Eq=>exact(yi A R ha hb e).1 (hQ d.s.toks)
 |NotEq=>have:=(yi A R ha hb (fD e)).2 (Q:=Q) (E:=E);rw[Bool.not_not]at this;exact this (hQ d.s.toks)
 |Lt=>
  refine el_EEAAL (ey e) ?_
  rintro x y rfl rfl q
  obtain⟨t,rfl⟩:=ha;obtain⟨u,rfl⟩:=hb
  exact PyProof.Rows.lt_int (by rw[jH,q];exact hQ d.s.toks)
 |LtE=>
  refine el_EEAAL (ey e) ?_
  rintro x y rfl rfl q
  obtain⟨t,rfl⟩:=ha;obtain⟨u,rfl⟩:=hb
  exact PyProof.Rows.le_int (by rw[nJ,q];exact hQ d.s.toks)
 |Gt=>
  refine el_EEAAL (ey e) ?_
  rintro x y rfl rfl q
  obtain⟨t,rfl⟩:=ha;obtain⟨u,rfl⟩:=hb
  exact PyProof.Rows.gt_int (by rw[jH,q];exact hQ d.s.toks)
 |GtE=>
  refine el_EEAAL (ey e) ?_
  rintro x y rfl rfl q
  obtain⟨t,rfl⟩:=ha;obtain⟨u,rfl⟩:=hb
  exact PyProof.Rows.ge_int (by rw[nJ,q];exact hQ d.s.toks)
 |Is=>
  rcases yg ha hb e with qA|qA
  · refine ae qA ?_
    clear qA
    rintro rfl q
    exact is_none_gen (by rw[q];exact hQ d.s.toks)
  · refine el_EEAAL qA ?_
    clear qA
    rintro x y rfl rfl q
    exact is_bool (by rw[q];exact hQ d.s.toks)
 |IsNot=>
  rcases yg ha hb (fD e)with qA|qA
  · refine ae qA ?_
    clear qA
    rintro rfl q
    exact isnot_none_gen (by rw[q,Bool.not_not];exact hQ d.s.toks)
  · refine el_EEAAL qA ?_
    clear qA
    rintro x y rfl rfl q
    exact isnot_bool (by rw[bne,q,Bool.not_not];exact hQ d.s.toks)
 |In=>exact(yj A R ha hb e).1 hQ
 |NotIn=>have:=(yj A R ha hb (fD e)).2 (Q:=Q) (E:=E);rw[Bool.not_not]at this;exact this hQ
end
end
section
variable{Γ:Gl}{c:St0}{d:Dy}{f:Frm}{lo:Lo}{h:H}{n:Nat}{ih:Ih}
section
variable{E:Value→Shared→Prop}{v:V}{h':H}{p:Pos}{b:Bool}
theorem zv{D:Wd}{h₀ hp:Heap}{L:Addr}{ρ:List Addr}{ξ:List (Addr×Obj)}{h:H}(Y:Led D h₀ L hp ρ ξ h){k:Nat}{a:Addr}(hk:ρ[k]? =some a):(a==sysModules)=false:=by
 have:=(Y.new a (Tq hk)).2.2
 have e:sysModules=1:=rfl
 rw[e]
 simp only[beq_eq_false_iff_ne]
 intro q;rw[q]at this;exact absurd this (by decide)
theorem mx{h:Heap}{a:Addr}{n:Nat}{prog:Program}{w:World}(e:h.get? a=some (Vy [] n)):h.DictOf (strKind prog w) a []:=by
 refine⟨_,#[],n,e,⟨rfl,rfl,rfl⟩,rfl,?_,?_,?_⟩
 · intro x hx;simp at hx
 · exact .nil
 · simp
theorem nK{Q:Bool→Shared→Prop}{w:Value}(R:Rel Γ c d f lo h)(hv:VR d.ρ v w)(e:ny h v=some b)(hQ: ∀t,Q b {d.s with toks:=t}):wpAny Γ.M c.A (truthy w) Q E d.s:=by
 cases v with
 |none=>cases hv;cases e;exact PyProof.Rows.truthy_none (hQ d.s.toks)
 |bool x=>cases hv;cases e;exact TX (hQ d.s.toks)
 |int i=>
  refine el_EL hv ?_
  clear hv
  rintro t rfl
  obtain rfl:=Ud (e:some (bn (iEq i (.ofNat 0)))=some b)
  refine PyProof.Rows.truthy_int ?_
  rw[show(i !=0)=bn (iEq i (.ofNat 0))from by rw[bg,bne];exact congrArg (! ·) (gr i 0)]
  exact hQ d.s.toks
 |str x=>
  refine el_EL hv ?_
  clear hv
  rintro t rfl
  refine bf (e:gd (okL x) (some (bn (aV x)))=some b) ?_
  clear e
  intro h1 e
  obtain rfl:=Ud e
  have:=aM h1
  refine P.truthy_str (by rw[am];exact Int.not_le.mpr (oI this)) ?_
  rw[show(((mkS x).length:Int) !=0)=bn (aV x)from by rw[bg,bM,am];exact Fq x]
  exact hQ _
 |loc k=>
  refine aw (e:ob (nth h k) _=some b) ?_
  clear e
  intro o h1 e
  rw[ap]at h1
  refine el_EAL hv ?_
  clear hv
  rintro a q1 rfl
  cases o with
  |list xs=>
   refine bf (e:gd (okL xs) (some (bn (aV xs)))=some b) ?_
   clear e
   intro h2 e
   obtain rfl:=Ud e
   refine el_EEEAAL (bh R h1) ?_
   intro a' vs j e1 e2 e3
   rw[q1]at e1
   obtain rfl:=Ud e1
   have:=aM h2
   refine wpAny_truthy_list (aG e2) (by rw[TO,e3.length];exact oI this) ?_
   rw[show(!vs.toArray.isEmpty)=bn (aV xs)from by
    rw[bg,bM]
    cases e3<;>simp]
   exact hQ _
  |sd es=>
   refine bf (e:gd (aV es) (some false)=some b) ?_
   clear e
   intro h2 e
   obtain rfl:=Ud e
   rw[bM]at h2
   obtain rfl:=T4.mp h2
   refine el_EEAAEEAL (R.led.at h1) ?_
   rintro a' b g1 g2 ds j rfl g4
   rw[q1]at g1
   obtain rfl:=Ud g1
   cases g4
   exact wpAny_truthy_dict (zv R.led q1) (mx (prog:=Γ.prog) (w:=Γ.w) g2) (by simp) (hQ _)
  |_=>exact nn e
 |_=>exact nn e
theorem ut{Q:Bool→Shared→Prop}{e:Mine.E}(X:Snd Γ n ih)(A:AOk c n)(R:Rel Γ c d f lo h)(hv:rd ih f lo h e=some (b,h'))(hQ:de Γ c d f lo h' b Q)
 (he:isTrue (dE e) c.env (eval (dE e) c.env)=(do let v←eval (dE e) c.env;standAt (dE e).pos;holding [v] (truthy v))):wpAny Γ.M c.A (isTrue (dE e) c.env (eval (dE e) c.env)) Q E d.s:=by
 refine aR hv ?_
 clear hv
 intro p h1 b' h2 hv
 replace hQ:=hQ.so hv
 clear hv
 refine PyProof.Rows.isTrue_plain (X.e c d f lo h e p.1 p.2 _ E A R h1 λρ1 ξ1 s1 w x1 R1 v1=> ?_) he
 exact nK (d:=⟨ρ1,ξ1,d.m,s1⟩) R1 v1 h2 λt=>hQ _ _ _ x1 (R1.tok t)
variable{Q:Value→Shared→Prop}
theorem Fy{l r:Mine.E}{op:Vs}(X:Snd Γ n ih)(A:AOk c n)(R:Rel Γ c d f lo h)(hv:E8 ih f lo h l op r=some (v,h'))(hQ:PostE Γ c d f lo h' v Q):
 wpAny Γ.M c.A (eval (dE (.bin l op r p)) c.env) Q E d.s:=by
 refine aR hv ?_
 clear hv
 intro p1 h1 p2 h2 hv
 refine U5 (X.e c d f lo h l p1.1 p1.2 _ E A R h1 λρ1 ξ1 s1 w1 x1 R1 v1=> ?_)
 refine X.e c ⟨ρ1,ξ1,d.m,s1⟩ f lo p1.2 r p2.1 p2.2 _ E A R1 h2 λρ2 ξ2 s2 w2 x2 R2 v2=> ?_
 exact zu (d:=⟨ρ2,ξ2,d.m,s2⟩) R2 (v1.ext x2) v2 hv (hQ.after (x1.trans x2))
theorem Fz{x:Mine.E}(X:Snd Γ n ih)(A:AOk c n)(R:Rel Γ c d f lo h)(hv:(ob (ih.e f lo h x) λp=>ob (ax p.1) λi=>some (V.int (Int.neg i),p.2))=some (v,h'))(hQ:PostE Γ c d f lo h' v Q):
 wpAny Γ.M c.A (eval (dE (.neg x p)) c.env) Q E d.s:=by
 refine aR hv ?_
 clear hv
 intro p1 h1 i h2 hv
 replace hQ:=hQ.so hv
 clear hv
 refine wpAny_UnaryOp (X.e c d f lo h x p1.1 p1.2 _ E A R h1 λρ1 ξ1 s1 w1 x1 R1 v1=> ?_)
 rw[aq h2]at v1
 refine el_EL v1 ?_
 clear v1
 rintro t rfl
 exact PyProof.Rows.neg_int ((hQ.after (ρ':=ρ1) (ξ':=ξ1) (s':=s1) x1).tok R1 ⟨_,rfl⟩ _)
theorem FA{x:Mine.E}(X:Snd Γ n ih)(A:AOk c n)(R:Rel Γ c d f lo h)(hv:(ob (ih.e f lo h x) λp=>ob (ny p.2 p.1) λb=>some (V.bool (bn b),p.2))=some (v,h'))(hQ:PostE Γ c d f lo h' v Q):
 wpAny Γ.M c.A (eval (dE (.not x p)) c.env) Q E d.s:=by
 refine aR hv ?_
 clear hv
 intro p1 h1 i h2 hv
 replace hQ:=hQ.so hv
 clear hv
 refine wpAny_UnaryOp (X.e c d f lo h x p1.1 p1.2 _ E A R h1 λρ1 ξ1 s1 w1 x1 R1 v1=> ?_)
 refine not_value (nK (d:=⟨ρ1,ξ1,d.m,s1⟩) R1 v1 h2 λt=> ?_)
 rw[bg]at hQ
 exact(hQ.after (ρ':=ρ1) (ξ':=ξ1) (s':=s1) x1).tok R1 rfl _
theorem FB{t a e:Mine.E}(X:Snd Γ n ih)(A:AOk c n)(R:Rel Γ c d f lo h)(hv:ifE ih f lo h t a e=some (v,h'))(hQ:PostE Γ c d f lo h' v Q):
 wpAny Γ.M c.A (eval (dE (.ite t a e p)) c.env) Q E d.s:=by
 refine aw hv ?_
 clear hv
 intro p1 h1 hv
 refine wpAny_IfExp (X.t c d f lo h t p1.1 p1.2 _ E A R h1 λρ1 ξ1 s1 x1 R1=> ?_)
 rcases bO hv with qA|qA
 · refine ae qA ?_
   clear qA
   intro q hv
   rw[q,if_pos rfl];exact X.e c ⟨ρ1,ξ1,d.m,s1⟩ f lo p1.2 a v h' _ E A R1 hv (hQ.after x1)
 · refine ae qA ?_
   clear qA
   intro q hv
   rw[q,if_neg (by decide)];exact X.e c ⟨ρ1,ξ1,d.m,s1⟩ f lo p1.2 e v h' _ E A R1 hv (hQ.after x1)
theorem rA{es:Mine.E}{pos:Pos}{o:List V→O}{cl:List Value→Obj}(X:Snd Γ n ih)(A:AOk c n)(R:Rel Γ c d f lo h)(hv:(ob (evs ih f lo es h) λq=>gd (okL q.1) (some (new q.2 (o q.1))))=some (v,h'))(hQ:PostE Γ c d f lo h' v Q)
 (hf: ∀vs,(cl vs).isFreed=false)(ho: ∀ρ ξ xs vs,VsR ρ xs vs→OR Γ.D ρ ξ (o xs) (cl vs)):
 wpAny Γ.M c.A (spliced (backTo pos (Vu (dL es) c.env))) (λvs s₁=>vs.length≤sizeLine∧Q (.ref s₁.heap.objs.size) {s₁ with heap:=s₁.heap.push (cl vs)}) E d.s:=by
 refine bJ hv ?_
 clear hv
 intro q h1 h2 hv
 rw[eM]at hv
 replace hQ:=hQ.so hv
 clear hv
 refine yc X A es d h q.1 q.2 _ pos R h1 λρ1 ξ1 s1 ws x1 R1 v1=>⟨?_,?_⟩
 · rw[v1.length];exact kF (aM h2)
 · exact hQ _ _ _ _ (x1.trans (.push _ _)) (R1.new (t:=s1.toks) (hf ws) (ho _ _ _ _ (v1.ext (.push _ _)))) (bu R1 _)
end
end
section
variable{Γ:Gl}{c:St0}{d:Dy}{f:Frm}{lo:Lo}{h:H}{n:Nat}{ih:Ih}
section
variable{E:Value→Shared→Prop}{v:V}{h':H}{p:Pos}{b:Bool}
theorem my{e:Mine.E}{a:V}{op:CmpOp}{x:Bool×H}(hv:dI ih f lo (.cons e .nil) a h [op]=some x): ∃p b,ih.e f lo h e=some p∧mh p.2 op a p.1=some b∧x=(b,p.2):=by
 refine aR (hv:ob (ih.e f lo h e) (λp=>ob (mh p.2 op a p.1) λb=>some (b,p.2))=some x) ?_
 clear hv
 intro p h1 b h2 hv
 obtain rfl:=Ud hv
 exact⟨p,b,h1,h2,rfl⟩
theorem mz{e r:Mine.E}{a:V}{op op2:CmpOp}{ops:List CmpOp}{x:Bool×H}(hv:dI ih f lo (.cons e r) a h (op::op2::ops)=some x): ∃p b,ih.e f lo h e=some p∧mh p.2 op a p.1=some b∧
 ((b=true∧dI ih f lo r p.1 p.2 (op2::ops)=some x)∨(b=false∧x=(false,p.2))):=by
 refine aR (hv:ob (ih.e f lo h e) (λp=>ob (mh p.2 op a p.1) λb=>bc b (dI ih f lo r p.1 p.2 (op2::ops)) (some (false,p.2)))=some x) ?_
 clear hv
 intro p h1 b h2 hv
 refine⟨p,b,h1,h2,?_⟩
 rcases bO hv with qA|qA
 · refine ae qA ?_
   clear qA
   intro q hv
   exact .inl ⟨q,hv⟩
 · refine ae qA ?_
   clear qA
   intro q hv
   cases hv;exact .inr ⟨q,rfl⟩
theorem oO{e r:Mine.E}{a:V}{op:CmpOp}{x:Bool×H}(hv:dI ih f lo (.cons e r) a h [op]=some x):r= .nil:=by
 refine aR (hv:ob (ih.e f lo h e) _=some x) ?_
 clear hv
 intro p h1 b h2 hv
 revert hv
 exact D8 (P:=λr=> @E.casesOn (λZ=>Option (Bool×H)) r _ _ _ _ _ _ _ _ _ _ _ _ _ _ _ _ _ _ _ _ _ _ _ _ _ _ _=some x→r= .nil) (λZ=>rfl) (λZ q hv=>noK (q _ _ _) hv) r
theorem gL{e r:Mine.E}{a:V}{ops:List CmpOp}{x:Bool×H}(hv:dI ih f lo (.cons e r) a h ops=some x): ∃op ops',ops=op::ops'∧ ∃p b,ih.e f lo h e=some p∧mh p.2 op a p.1=some b∧
 ((ops'=[]∧r= .nil∧x=(b,p.2))∨(∃op2 ops2,ops'=op2::ops2∧((b=true∧dI ih f lo r p.1 p.2 ops'=some x)∨(b=false∧x=(false,p.2))))):=by
 cases ops with
 |nil=>exact nn hv
 |cons op ops=>
  cases ops with
  |nil=>
   obtain rfl:=oO hv
   refine el_EEAAL (my hv) ?_
   intro p b h1 h2 e
   exact⟨op,[],rfl,p,b,h1,h2,.inl ⟨rfl,rfl,e⟩⟩
  |cons op2 ops2=>
   refine el_EEAAL (mz hv) ?_
   intro p b h1 h2 e
   exact⟨op,op2::ops2,rfl,p,b,h1,h2,.inr ⟨op2,ops2,rfl,e⟩⟩
theorem rB(X:Snd Γ n ih)(A:AOk c n): ∀(es:Mine.E) (d:Dy) (h:H) (a:V) (va:Value) (ops:List CmpOp) (b:Bool) (h':H) (Q:Bool→Shared→Prop) (pos:Pos),Rel Γ c d f lo h→VR d.ρ a va→
 dI ih f lo es a h ops=some (b,h')→de Γ c d f lo h' b Q→wpAny Γ.M c.A (testChain pos va ops (markedEach ops (dL es) (evalEach (dL es) c.env))) Q E d.s:=by
 refine lsE ?_ ?_ ?_
 · intro _ _ _ _ _ _ _ _ _ _ _ hv _;cases hv
 · intro e r IH d h a va ops b h' Q pos R ha hv hQ
   refine el_EEAL (gL hv) ?_
   intro op ops' qX1 qX
   refine el_EEAAL qX ?_
   clear qX
   intro p bb h1 h2 hw
   subst qX1
   clear hv
   have nr:=X.nraw h1
   rcases hw with qA|qA
   · refine bi qA ?_
     clear qA
     rintro rfl rfl hw
     cases hw
     show wpAny Γ.M c.A (testChain pos va [op] [markedBehindIn op (dE e) (eval (dE e) c.env)]) Q E d.s
     rw[markedBehindIn_of_false (kH nr op)]
     refine U7 (m:=holding [va] (eval (dE e) c.env)) (Uy (X.e c d f lo h e p.1 p.2 _ E A R h1 λρ1 ξ1 s1 w x1 R1 v1=> ?_))
     refine U7 (UA (U7 (wpAny_operate' ?_)))
     refine jI (d:=⟨ρ1,ξ1,d.m,s1⟩) A R1 (ha.ext x1) v1 h2 λt=> ?_
     exact Uy (TX (hQ _ _ _ x1 (R1.tok t)))
   · refine el_EEAL qA ?_
     clear qA
     rintro op2 ops2 rfl hw
     show wpAny Γ.M c.A (testChain pos va (op::op2::ops2) (eval (dE e) c.env::markedEach (op2::ops2) (dL r) (evalEach (dL r) c.env))) Q E d.s
     refine U7 (m:=holding [va] (eval (dE e) c.env)) (Uy (X.e c d f lo h e p.1 p.2 _ E A R h1 λρ1 ξ1 s1 w x1 R1 v1=> ?_))
     refine U7 (UA (U7 (Uy ?_)))
     refine jI (d:=⟨ρ1,ξ1,d.m,s1⟩) A R1 (ha.ext x1) v1 h2 λt=> ?_
     refine U7 (wpAny_release' (U7 (Uy (TX ?_))))
     rcases hw with qA|qA
     · refine ae qA ?_
       clear qA
       rintro rfl hv
       rw[if_pos rfl]
       exact IH ⟨ρ1,ξ1,d.m,{s1 with toks:=t}⟩ p.2 p.1 w (op2::ops2) b h' Q pos (R1.tok t) v1 hv (hQ.after x1)
     · refine ae qA ?_
       clear qA
       rintro rfl hv
       cases hv
       rw[if_neg (by decide)]
       exact U8 (hQ _ _ _ x1 (R1.tok t))
 · intro e q _ _ _ _ _ _ _ _ _ _ _ hv _;exact kE q hv
theorem rC(X:Snd Γ n ih)(A:AOk c n): ∀(es:Mine.E) (d:Dy) (h:H) (a:V) (va:Value) (ops:List CmpOp) (b:Bool) (h':H) (Q:Value→Shared→Prop) (pos:Pos),Rel Γ c d f lo h→VR d.ρ a va→
 dI ih f lo es a h ops=some (b,h')→PostE Γ c d f lo h' (.bool b) Q→wpAny Γ.M c.A (compareChain pos va ops (markedEach ops (dL es) (evalEach (dL es) c.env))) Q E d.s:=by
 refine lsE ?_ ?_ ?_
 · intro _ _ _ _ _ _ _ _ _ _ _ hv _;cases hv
 · intro e r IH d h a va ops b h' Q pos R ha hv hQ
   refine el_EEAL (gL hv) ?_
   intro op ops' qX7 qX
   refine el_EEAAL qX ?_
   clear qX
   intro p bb h1 h2 hw
   subst qX7
   clear hv
   have nr:=X.nraw h1
   rcases hw with qA|qA
   · refine bi qA ?_
     clear qA
     rintro rfl rfl hw
     cases hw
     show wpAny Γ.M c.A (compareChain pos va [op] [markedBehindIn op (dE e) (eval (dE e) c.env)]) Q E d.s
     rw[markedBehindIn_of_false (kH nr op)]
     refine U7 (m:=holding [va] (eval (dE e) c.env)) (Uy (X.e c d f lo h e p.1 p.2 _ E A R h1 λρ1 ξ1 s1 w x1 R1 v1=> ?_))
     refine U7 (UA (wpAny_operate' ?_))
     exact jI (d:=⟨ρ1,ξ1,d.m,s1⟩) A R1 (ha.ext x1) v1 h2 λt=>hQ _ _ _ _ x1 (R1.tok t) rfl
   · refine el_EEAL qA ?_
     clear qA
     rintro op2 ops2 rfl hw
     show wpAny Γ.M c.A (compareChain pos va (op::op2::ops2) (eval (dE e) c.env::markedEach (op2::ops2) (dL r) (evalEach (dL r) c.env))) Q E d.s
     refine U7 (m:=holding [va] (eval (dE e) c.env)) (Uy (X.e c d f lo h e p.1 p.2 _ E A R h1 λρ1 ξ1 s1 w x1 R1 v1=> ?_))
     refine U7 (UA (U7 (Uy ?_)))
     refine jI (d:=⟨ρ1,ξ1,d.m,s1⟩) A R1 (ha.ext x1) v1 h2 λt=> ?_
     refine U7 (wpAny_release' (U7 (Uy (TX ?_))))
     rcases hw with qA|qA
     · refine ae qA ?_
       clear qA
       rintro rfl hv
       rw[if_pos rfl]
       exact IH ⟨ρ1,ξ1,d.m,{s1 with toks:=t}⟩ p.2 p.1 w (op2::ops2) b h' Q pos (R1.tok t) v1 hv (hQ.after x1)
     · refine ae qA ?_
       clear qA
       rintro rfl hv
       cases hv
       rw[if_neg (by decide)]
       exact U8 (hQ _ _ _ _ x1 (R1.tok t) rfl)
 · intro e q _ _ _ _ _ _ _ _ _ _ _ hv _;exact kE q hv
theorem zw{l cs:Mine.E}{ops:List CmpOp}{Q:Bool→Shared→Prop}{whole:Sem Value}(X:Snd Γ n ih)(A:AOk c n)(R:Rel Γ c d f lo h)(hv:tV ih f lo h l ops cs=some (b,h'))(hQ:de Γ c d f lo h' b Q):
 wpAny Γ.M c.A (PySem.isTrue (dE (.cmp l ops cs p)) c.env whole) Q E d.s:=by
 refine aw hv ?_
 clear hv
 intro p1 h1 hv
 show wpAny Γ.M c.A (PySem.isTrue (.Compare (dE l) ops (dL cs) p) c.env whole) Q E d.s
 rw[arm_isTrue_Compare]
 refine U7 (X.e c d f lo h l p1.1 p1.2 _ E A R h1 λρ1 ξ1 s1 w x1 R1 v1=> ?_)
 exact rB X A cs ⟨ρ1,ξ1,d.m,s1⟩ p1.2 p1.1 w ops b h' Q p R1 v1 hv (hQ.after x1)
theorem uu{l cs:Mine.E}{ops:List CmpOp}{Q:Value→Shared→Prop}(X:Snd Γ n ih)(A:AOk c n)(R:Rel Γ c d f lo h)(hv:(ob (tV ih f lo h l ops cs) λp=>some (V.bool p.1,p.2))=some (v,h'))(hQ:PostE Γ c d f lo h' v Q):
 wpAny Γ.M c.A (eval (dE (.cmp l ops cs p)) c.env) Q E d.s:=by
 refine cW hv ?_
 clear hv
 intro b h2 h0 hv
 replace hQ:=hQ.so hv
 clear hv
 refine aw h0 ?_
 clear h0
 intro p1 h1 hv
 show wpAny Γ.M c.A (eval (.Compare (dE l) ops (dL cs) p) c.env) Q E d.s
 show wpAny Γ.M c.A (do compareChain p (←eval (dE l) c.env) ops (markedEach ops (dL cs) (evalEach (dL cs) c.env))) Q E d.s
 refine U7 (X.e c d f lo h l p1.1 p1.2 _ E A R h1 λρ1 ξ1 s1 w x1 R1 v1=> ?_)
 exact rC X A cs ⟨ρ1,ξ1,d.m,s1⟩ p1.2 p1.1 w ops b h2 Q p R1 v1 hv (hQ.after x1)
noncomputable def yk(a:Bool):BoolOp:=match a with|true=> .And|false=> .Or
theorem zx(X:Snd Γ n ih)(A:AOk c n)(a:Bool): ∀(es:Mine.E) (d:Dy) (h:H) (b:Bool) (h':H) (Q:Bool→Shared→Prop),Rel Γ c d f lo h→mn ih f lo a es h=some (b,h')→de Γ c d f lo h' b Q→
 wpAny Γ.M c.A (allTrue (yk a) (dL es) c.env) Q E d.s:=by
 refine lsE ?_ ?_ ?_
 · intro d h b h' Q R hv hQ
   replace hQ:=hQ.so (hv:some (a,h)=some (b,h'))
   clear hv
   cases a
   · exact wpAny_allTrue_Or_nil (hQ _ _ _ (.refl _) R)
   · exact wpAny_allTrue_And_nil (hQ _ _ _ (.refl _) R)
 · intro e r IH d h b h' Q R hv hQ
   refine cW (hv:ob (ih.t f lo h e) (λp=>bc (bc a p.1 (bn p.1)) (mn ih f lo a r p.2) (some (p.1,p.2)))=some (b,h')) ?_
   clear hv
   intro pb ph h1 hv
   cases a with
   |true=>
    refine wpAny_allTrue_And_cons (X.t c d f lo h e pb ph _ E A R h1 λρ1 ξ1 s1 x1 R1=> ?_)
    cases pb with
    |true=>rw[if_pos rfl];exact IH ⟨ρ1,ξ1,d.m,s1⟩ ph b h' Q R1 (hv:mn ih f lo true r ph=some (b,h')) (hQ.after x1)
    |false=>cases(hv:some (false,ph)=some (b,h'));rw[if_neg (by decide)];exact hQ _ _ _ x1 R1
   |false=>
    refine wpAny_allTrue_Or_cons (X.t c d f lo h e pb ph _ E A R h1 λρ1 ξ1 s1 x1 R1=> ?_)
    cases pb with
    |false=>rw[if_neg (by decide)];exact IH ⟨ρ1,ξ1,d.m,s1⟩ ph b h' Q R1 (hv:mn ih f lo false r ph=some (b,h')) (hQ.after x1)
    |true=>cases(hv:some (true,ph)=some (b,h'));rw[if_pos rfl];exact hQ _ _ _ x1 R1
 · intro e q _ _ _ _ _ _ hv _;exact uo q hv
theorem MK{Q:Bool→Shared→Prop}{e:Mine.E}(X:Snd Γ n ih)(A:AOk c n)(R:Rel Γ c d f lo h)(hv:tvF e e ih f lo h=some (b,h'))(hQ:de Γ c d f lo h' b Q):
 wpAny Γ.M c.A (PySem.isTrue (dE e) c.env (eval (dE e) c.env)) Q E d.s:=by
 cases e with
 |nil|cons _ _|no|ite _ _ _ _|raw _=>exact nn hv
 |cmp l ops cs p=>exact zw X A R hv hQ
 |bop a es p=>
  show wpAny Γ.M c.A (PySem.isTrue (.BoolOp (yk a) (dL es) p) c.env _) Q E d.s
  exact wpAny_isTrue_BoolOp (zx X A a es d h b h' Q R hv hQ)
 |not x p=>
  refine aw (hv:ob (ih.t f lo h x) (λp=>some (bn p.1,p.2))=some (b,h')) ?_
  clear hv
  intro p1 h1 hv
  replace hQ:=hQ.so hv
  clear hv
  rw[bg]at hQ
  exact wpAny_isTrue_Not (X.t c d f lo h x p1.1 p1.2 _ E A R h1 λρ1 ξ1 s1 x1 R1=>hQ _ _ _ x1 R1)
 |_=>exact ut X A R hv hQ rfl
end
end
section
variable{Γ:Gl}{c:St0}{d:Dy}{f:Frm}{lo:Lo}{h:H}{n:Nat}{ih:Ih}
section
variable{E:Value→Shared→Prop}{v:V}{h':H}{p:Pos}{b:Bool}{Q:Value→Shared→Prop}
theorem fU{e:Mine.E}(q:gE e=true): ∃a r,e= .cons a r:=by cases e<;>first|exact⟨_,_,rfl⟩|cases q
theorem mA{e:Mine.E}(q:qT e=true): ∃a b r,e= .cons a (.cons b r):=by
 cases e with
 |cons a r=>obtain⟨b,r,rfl⟩:=fU (q:gE r=true);exact⟨a,b,r,rfl⟩
 |_=>exact ff q
theorem kN{e r:Mine.E}{x:T×H}(hv:c5 ih f lo (.cons e r) h=some x):(∃s k p q,e= .cst (.str s) k p∧c5 ih f lo r h=some q∧x=(app (sT s) q.1,q.2))∨
 (∃y p pv s q,e= .fmt y (-1) p∧ih.e f lo h y=some pv∧pv.1= .str s∧c5 ih f lo r pv.2=some q∧x=(app s q.1,q.2)):=by
 revert e
 refine @MA _ (λc k p hv=> ?_) (λy c p hv=> ?_) (λe q hv=>noK (q _ _ _ none) hv)
 · refine aR (hv:ob (qS c) (λs=>ob (c5 ih f lo r h) λq=>some (app s q.1,q.2))=some x) ?_
   clear hv
   intro s h1 q h2 hv
   cases c with
   |str s'=>cases h1;exact .inl ⟨s',k,p,q,rfl,h2,(Ud hv).symm⟩
   |_=>exact nn h1
 · refine bB (hv:gd (iEq c (.negSucc 0)) (ob (ih.e f lo h y) λp=>ob (aT p.1) λs=>ob (c5 ih f lo r p.2) λq=>some (app s q.1,q.2))=some x) ?_
   clear hv
   intro h0 pv h1 hvX
   refine aR hvX ?_
   clear hvX
   intro s h2 q h3 hv
   exact .inr ⟨y,p,pv,s,q,by rw[eo.mp h0];rfl,h1,ar h2,h3,(Ud hv).symm⟩
theorem ap3{a b c:Nat}(h:a+(b+c)≤9000):a+b≤16777216:=UJ (UJ (TD (T2 b c) a) h) (by decide)
theorem ap4{a b c:Nat}(h:a+(b+c)≤9000):b≤16777216:=UJ (UJ (UJ (T2 b c) (Nat.le_add_left _ a)) h) (by decide)
theorem rD(X:Snd Γ n ih)(A:AOk c n): ∀(es:Mine.E) (d:Dy) (h:H) (t:T) (h':H) (acc:T) (Q:Value→Shared→Prop),Rel Γ c d f lo h→c5 ih f lo es h=some (t,h')→acc.length+t.length≤9000→
 PostE Γ c d f lo h' (.str (acc++t)) Q→wpAny Γ.M c.A (joinParts (mkS acc) (evalEach (dL es) c.env)) Q E d.s:=by
 refine lsE ?_ ?_ ?_
 · intro d h t h' acc Q R hv hl hQ
   obtain⟨rfl,rfl⟩:=so2 (hv:some (([]:T),h)=some (t,h'))
   rw[Uh]at hQ
   exact PyProof.Rows.joinParts_nil (hQ.tok R ⟨_,rfl⟩ _) (by rw[am,ak];exact UJ hl (by decide))
 · intro e r IH d h t h' acc Q R hv hl hQ
   rcases kN hv with qA|qA
   · refine el_EEEL qA ?_
     clear qA
     intro s k p qX
     refine el_EAAL qX ?_
     clear qX
     rintro q rfl h1 e
     cases e
     rw[ay]at hl hQ
     rw[TJ]at hl
     show wpAny Γ.M c.A (joinParts (mkS acc) (eval (.Constant (.str s) k p) c.env::evalEach (dL r) c.env)) Q E d.s
     refine PyProof.Rows.joinParts_cons (wpAny_Constant_str ⟨?_,?_⟩)
     · rw[show mkS acc++s=mkS (acc++sT s)from cH acc (sT s),am,ak];rw[TJ];exact ap3 hl
     · rw[show mkS acc++s=mkS (acc++sT s)from cH acc (sT s)]
       exact IH ⟨d.ρ,d.ξ,d.m,{d.s with toks:=d.s.toks+1}⟩ h q.1 q.2 (acc++sT s) Q (R.tok _) h1 (by rw[TJ,Nat.add_assoc];exact hl) (by rw[TQ];exact hQ.after (.refl _))
   · refine el_EEEL qA ?_
     clear qA
     intro y p pv qX
     refine el_EEAAL qX ?_
     clear qX
     intro s q qX2 h1 qX
     refine bi qX ?_
     clear qX
     intro h2 h3 e
     subst qX2
     cases e
     rw[ay]at hl hQ
     rw[TJ]at hl
     show wpAny Γ.M c.A (joinParts (mkS acc) (eval (.FormattedValue (dE y) (-1) none p) c.env::evalEach (dL r) c.env)) Q E d.s
     refine PyProof.Rows.joinParts_cons (PyProof.Rows.FormattedValue_plain (X.e c d f lo h y pv.1 pv.2 _ E A R h1 λρ1 ξ1 s1 w x1 R1 v1=> ?_))
     rw[h2]at v1
     refine el_EL v1 ?_
     clear v1
     rintro tk rfl
     refine PyProof.Rows.formatField_str (λt' tk=>⟨?_,?_⟩) (by rw[am,ak];exact ap4 hl)
     · rw[cH,am,ak];rw[TJ];exact ap3 hl
     · rw[cH]
       exact IH ⟨ρ1,ξ1,d.m,{s1 with toks:=tk}⟩ pv.2 q.1 q.2 (acc++s) Q (R1.tok _) h3 (by rw[TJ,Nat.add_assoc];exact hl) (by rw[TQ];exact hQ.after x1)
 · intro e q _ _ _ _ _ _ _ hv _ _;exact oH q hv
theorem zy{es:Mine.E}(X:Snd Γ n ih)(A:AOk c n)(R:Rel Γ c d f lo h)(hv:(gd (qT es) (ob (c5 ih f lo es h) λq=>gd (okL q.1) (some (V.str q.1,q.2))))=some (v,h'))(hQ:PostE Γ c d f lo h' v Q):
 wpAny Γ.M c.A (eval (dE (.fstr es p)) c.env) Q E d.s:=by
 refine bB hv ?_
 clear hv
 intro h0 q h1 hvX
 refine bf hvX ?_
 clear hvX
 intro h2 hv
 replace hQ:=hQ.so hv
 clear hv
 refine el_EEEL (mA h0) ?_
 rintro e1 e2 r rfl
 show wpAny Γ.M c.A (eval (.JoinedStr (dE e1::dE e2::dL r) p) c.env) Q E d.s
 refine PyProof.Rows.JoinedStr_many ?_
 exact rD X A _ d h q.1 q.2 [] Q R h1 (by rw[List.length_nil,Nat.zero_add];exact UJ (aM h2) (by decide)) hQ
end
end
section
variable{Γ:Gl}{c:St0}{d:Dy}{f:Frm}{lo:Lo}{h:H}{n:Nat}{ih:Ih}
def OptR(r:Option V)(w:Option Value):Prop:=match r with|none=>w=none|some v=> ∃w',w=some w'∧VR [] v w'
structure DOk(Γ:Gl):Prop where
 o: ∀a e,atN a Γ.g.dicts=some e→ ∃ob,Γ.K.lookup a=some ob∧ob.cls= .type "dict"∧ob.dict=none
 s: ∀a e,atN a Γ.g.dicts=some e→ ∀x r,dictGet (.str x) e=some r→ ∀h,Γ.K.In h→ ∃g,h.MapOf (strKind Γ.prog Γ.w) a g∧OptR r (g (mkS x))
 i: ∀a e,atN a Γ.g.dicts=some e→ ∀x r,dictGet (.int x) e=some r→ ∀h,Γ.K.In h→ ∃g,h.MapOf (intKind Γ.prog Γ.w) a g∧OptR r (g x)
section
variable{E:Value→Shared→Prop}{v:V}{h':H}{p:Pos}{b:Bool}{Q:Value→Shared→Prop}
theorem zA{i:Mine.E}(he:bv i)(o w:Value):subscripted (dE i) false o w=operate [o,w] (getItem o w):=by
 cases i<;>first|rfl|exact absurd rfl (he _)
theorem oQ{m k:Nat}{i:Int}(e:EK m i=some k):seqIndex? i m=some k∧k<m∧ -(m:Int)≤i∧i<m:=by
 cases i with
 |ofNat j=>
  refine bf (e:gd (Nat.blt j m) (some j)=some k) ?_
  clear e
  intro h1 e
  cases e
  have:=aX h1
  refine⟨?_,this,UT (Int.neg_nonpos_of_nonneg (TG m)) (TG k),US.mpr this⟩
  unfold seqIndex?
  have h2: ¬(Int.ofNat k<0):=Int.not_lt.mpr (TG k)
  simp only[h2,if_false]
  have h3:(decide (0≤Int.ofNat k)&&decide (Int.ofNat k<(m:Int)))=true:=by
   rw[Ub,decide_eq_true_eq,decide_eq_true_eq];exact⟨TG k,US.mpr this⟩
  rw[if_pos h3];rfl
 |negSucc j=>
  refine bf (e:gd (Nat.blt j m) (some (Nat.sub m (Nat.succ j)))=some k) ?_
  clear e
  intro h1 e
  obtain rfl:=Ud e
  have:=aX h1
  have q:Nat.sub m (Nat.succ j)=m-(j+1):=rfl
  rw[q]
  have hm:m-(j+1)<m:=Nat.sub_lt (TI (U0 _) this) (Nat.succ_pos j)
  refine⟨?_,hm,Int.neg_le_neg (UX.mpr this),Int.lt_of_lt_of_le (Int.negSucc_lt_zero j) (TG m)⟩
  unfold seqIndex?
  have h2:Int.negSucc j<0:=Int.negSucc_lt_zero j
  simp only[h2,if_true]
  have h3:(decide (0≤Int.negSucc j+(m:Int))&&decide (Int.negSucc j+(m:Int)<(m:Int)))=true:=by
   rw[gH this,Ub,decide_eq_true_eq,decide_eq_true_eq];exact⟨TG _,US.mpr hm⟩
  rw[if_pos h3,gH this];rfl
theorem dX{α:Type}{xs:List α}{i:Int}{x:α}(e:fB xs i=some x): ∃k,seqIndex? i xs.length=some k∧xs[k]? =some x∧xs.length≤4000∧ -(xs.length:Int)≤i∧i<xs.length:=by
 refine bB e ?_
 clear e
 intro h0 k h1 e
 rw[ap]at e
 rw[aO]at h1
 refine aD (oQ h1) ?_
 intro a b c d
 exact⟨k,a,e,aM h0,c,d⟩
theorem gM{i:Int}{m k:Nat}(e:seqIndex? i m=some k):(0≤i∧i.toNat=k)∨(i<0∧(i+m).toNat=k):=by
 unfold seqIndex? at e
 by_cases q:i<0
 · simp only[q,if_true]at e
   split at e
   · cases e;exact .inr ⟨q,rfl⟩
   · cases e
 · simp only[q,if_false]at e
   split at e
   · cases e;exact .inl ⟨Int.not_lt.mp q,rfl⟩
   · cases e
theorem SdR.keys{w:World}{prog:Program}{ρ:List Addr}{es:List (T×V)}{ds:List Vk}(r:SdR w.params ρ es ds): ∀e∈ds,∃k,(strKind prog w).is k e.key=true∧e.hash=(strKind prog w).hash k:=by
 induction r with
 |nil=>intro e he;cases he
 |cons hx _ ih=>
  intro e he
  rcases Uz.mp he with rfl|he
  · exact⟨_,Vh _ _ _ _,rfl⟩
  · exact ih e he
theorem SdR.find{P:Params}{ρ:List Addr}{es:List (T×V)}{ds:List Vk}(r:SdR P ρ es ds){x:T}{v:V}(hv:look x es=some v): ∃w',findBy UD ds.toArray (mkS x)=some w'∧VR ρ v w':=by
 unfold findBy
 rw[List.find?_toArray]
 induction r with
 |nil=>exact nn hv
 | @cons y v' tk w' es ds' hx _ ih=>
  rw[aK]at hv
  by_cases q:x=y
  · subst q
    rw[if_pos rfl]at hv
    obtain rfl:=Ud hv
    refine⟨w',?_,hx⟩
    rw[List.find?_cons_of_pos (by show UD (mkS x) (.str (mkS x) tk)=true;simp[UD])]
    rfl
  · rw[if_neg q]at hv
    refine el_EAL (ih hv) ?_
    intro w2 i1 i2
    refine⟨w2,?_,i2⟩
    rw[List.find?_cons_of_neg (by
     show¬(UD (mkS x) (.str (mkS y) tk)=true)
     intro e
     refine el_EL (Value.isStrOf_shape e) ?_
     intro t e
     injection e with e _
     exact q (bW e).symm)]
    exact i1
theorem SdR.find_none{P:Params}{ρ:List Addr}{es:List (T×V)}{ds:List Vk}(r:SdR P ρ es ds){x:T}(hv:look x es=none):findBy UD ds.toArray (mkS x)=none:=by
 unfold findBy
 rw[List.find?_toArray]
 induction r with
 |nil=>rfl
 | @cons y v' tk w' es ds' hx _ ih=>
  rw[aK]at hv
  by_cases q:x=y
  · rw[if_pos q]at hv;cases hv
  · rw[if_neg q]at hv
    rw[List.find?_cons_of_neg (by
     show¬(UD (mkS x) (.str (mkS y) tk)=true)
     intro e
     refine el_EL (Value.isStrOf_shape e) ?_
     intro t e
     injection e with e _
     exact q (bW e).symm)]
    exact ih hv
theorem SdR.mapOf{w:World}{prog:Program}{ρ:List Addr}{es:List (T×V)}{ds:List Vk}(r:SdR w.params ρ es ds){h:Heap}{a:Addr}{j:Nat}(e:h.get? a=some (Vy ds j)):
 h.MapOf (strKind prog w) a (λk=>findBy UD ds.toArray k):=
 ⟨_,ds.toArray,j,e,⟨rfl,rfl,rfl⟩,rfl,λx hx=>r.keys x (by simpa using hx),λZ=>rfl⟩
theorem zB(D:DOk Γ){o i v:V}{wo wi:Value}(R:Rel Γ c d f lo h)(ho:VR d.ρ o wo)(hi:VR d.ρ i wi)(hv:EL Γ.g h o i=some v)(hQ:PostE Γ c d f lo h v Q){value slice:Expr}
 (hs:subscripted slice false wo wi=operate [wo,wi] (getItem wo wi)):wpAny Γ.M c.A (subscriptTail value slice wo wi) Q E d.s:=by
 cases o with
 |str x=>
  refine aR (hv:ob (ax i) _=some v) ?_
  clear hv
  intro j h1 ch h2 hv
  cases hv
  rw[aq h1]at hi
  refine el_EL ho ?_
  clear ho
  rintro t rfl
  refine el_EL hi ?_
  clear hi
  rintro u rfl
  refine el_EAAL (dX h2) ?_
  intro k a1 a2 qX
  refine bi qX ?_
  clear qX
  intro a3 a4 a5
  refine tail_any (typeIs_str d.s _ _) F.slot_str_getitem.lookup (P.getItem_str (c:=ch) ?_ ?_ ?_) hs
  · rw[decide_eq_false (Int.not_lt.mpr (zl a3 a4)),decide_eq_false (Int.not_le.mpr (zm a3 a5))];rfl
  · rw[am,a1]
    show(x.toArray)[k]? =some ch
    simpa using a2
  · exact hQ.tok R ⟨_,rfl⟩ _
 |top a=>
  refine aB (hv:ob (aT i) _=some v) ?_
  clear hv
  intro x h1 e h2 r h3 hv
  subst hv
  rw[ar h1]at hi
  refine el_EL hi ?_
  clear hi
  rintro t rfl
  cases ho
  refine el_EAL (D.s a e h2 x _ h3 d.s.heap (R.gb.K.keeps R.fr.keep)) ?_
  intro g m1 m2
  refine el_EAL m2 ?_
  clear m2
  intro w' m3 m4
  exact tail_any m1.typeIs slot_dict_getitem.lookup (wpAny_getItem_of (Vh Γ.prog Γ.w _ t) m1 m3 (hQ.tok R (.ext0 m4) _)) hs
 |loc k=>
  refine aw (hv:ob (nth h k) _=some v) ?_
  clear hv
  intro q h1 hv
  rw[ap]at h1
  refine el_EAL ho ?_
  clear ho
  rintro a q1 rfl
  cases q with
  |list xs=>
   refine aw (hv:ob (ax i) (fB xs)=some v) ?_
   clear hv
   intro j h2 hv
   rw[aq h2]at hi
   refine el_EL hi ?_
   clear hi
   rintro u rfl
   refine el_EAAL (dX hv) ?_
   intro k' a1 a2 qX
   refine bi qX ?_
   clear qX
   intro a3 a4 a5
   refine el_EEEAAL (bh R h1) ?_
   intro a' vs jj e1 e2 e3
   rw[q1]at e1
   obtain rfl:=Ud e1
   refine el_EAL (e3.get a2) ?_
   intro w' b1 b2
   have hl:=e3.length
   refine tail_any (aG e2).typeIs slot_list_getitem.lookup ?_ hs
   rcases gM a1 with qA|qA
   · refine ae qA ?_
     clear qA
     intro c1 c2
     exact wpAny_getItem_list (aG e2) c1 (zm a3 a5) (by rw[c2];simpa using b1) (hQ.here R b2)
   · refine ae qA ?_
     clear qA
     intro c1 c2
     exact wpAny_getItem_list_neg (aG e2) c1 (by rw[TO,hl];exact a4) (zl a3 a4) (by rw[show((j+((vs.toArray.size:Nat):Int)).toNat)=k' from by simp only[TO];rw[hl];exact c2];simpa using b1) (hQ.here R b2)
  |tup xs=>
   refine aw (hv:ob (ax i) (fB xs)=some v) ?_
   clear hv
   intro j h2 hv
   rw[aq h2]at hi
   refine el_EL hi ?_
   clear hi
   rintro u rfl
   refine el_EAAL (dX hv) ?_
   intro k' a1 a2 qX
   refine bi qX ?_
   clear qX
   intro a3 a4 a5
   refine el_EEAAEAL (R.led.at h1) ?_
   rintro a' b' e1 e2 vs rfl e3
   rw[q1]at e1
   obtain rfl:=Ud e1
   refine el_EAL (e3.get a2) ?_
   intro w' b1 b2
   have hl:=e3.length
   exact tail_any (T:="tuple") ⟨_,e2,rfl⟩ slot_tuple_getitem.lookup (getItem_tuple (t:=a) (items:=vs.toArray) ⟨_,e2,rfl,_,rfl⟩ (zl a3 a4) (zm a3 a5) (by simp only[TO];rw[hl];exact a1) (by simpa using b1) (hQ.here R b2)) hs
  |sd es=>
   refine aw (hv:ob (aT i) _=some v) ?_
   clear hv
   intro x h2 hv
   rw[ar h2]at hi
   refine el_EL hi ?_
   clear hi
   rintro t rfl
   refine el_EEAAEEAL (R.led.at h1) ?_
   rintro a' b' e1 e2 ds jj rfl e3
   rw[q1]at e1
   obtain rfl:=Ud e1
   have hm:=e3.mapOf (prog:=Γ.prog) e2
   have hf:=e3.find hv
   refine el_EAL hf ?_
   clear hf
   intro w' f1 f2
   exact tail_any hm.typeIs slot_dict_getitem.lookup (wpAny_getItem_of (Vh Γ.prog Γ.w _ t) hm f1 (hQ.tok R f2 _)) hs
  |_=>exact nn hv
 |_=>exact nn hv
theorem FC(D:DOk Γ){o i:Mine.E}(X:Snd Γ n ih)(A:AOk c n)(R:Rel Γ c d f lo h)(hv:E6 Γ.g ih f lo h o i=some (v,h'))(hQ:PostE Γ c d f lo h' v Q):
 wpAny Γ.M c.A (eval (dE (.sub o i p)) c.env) Q E d.s:=by
 refine aB hv ?_
 clear hv
 intro p1 h1 p2 h2 v' h3 hv
 replace hQ:=hQ.so hv
 clear hv
 refine Subscript_ (X.e c d f lo h o p1.1 p1.2 _ E A R h1 λρ1 ξ1 s1 w1 x1 R1 v1=> ?_)
 refine X.e c ⟨ρ1,ξ1,d.m,s1⟩ f lo p1.2 i p2.1 p2.2 _ E A R1 h2 λρ2 ξ2 s2 w2 x2 R2 v2=> ?_
 exact zB (d:=⟨ρ2,ξ2,d.m,s2⟩) D R2 (v1.ext x2) v2 h3 (hQ.after (x1.trans x2)) (zA (X.nraw h2) w1 w2)
end
end
section
variable{Γ:Gl}{c:St0}{d:Dy}{f:Frm}{lo:Lo}{h:H}{n:Nat}{ih:Ih}
section
variable{E:Value→Shared→Prop}{v:V}{h':H}{p:Pos}{b:Bool}{Q:Value→Shared→Prop}
theorem kO{α:Type}: ∀(l:List α) (k:Nat),nz k l=l.take k
 |[],k=>by cases k<;>rfl
 |a::l,0=>rfl
 |a::l,k+1=>by show a::nz k l=_;rw[kO l k];rfl
theorem kP{α:Type}: ∀(l:List α) (k:Nat),dropL k l=l.drop k
 |[],k=>by cases k<;>rfl
 |a::l,0=>rfl
 |a::l,k+1=>by show dropL k l=_;rw[kP l k];rfl
theorem ja(m:Nat)(i:Int):gA m i=clipAt m i:=by
 cases i with
 |ofNat k=>
  show bc (Nat.blt k m) k m=clipAt m (k:Int)
  rw[clipAt_nat]
  cases q:Nat.blt k m with
  |true=>exact(Nat.min_eq_left (UP (aX q))).symm
  |false=>
   have: ¬k<m:=λe=>by rw[show Nat.blt k m=true from Nat.ble_eq_true_of_le e]at q;cases q
   exact(Nat.min_eq_right (Vd.mp this)).symm
 |negSucc k=>
  show Nat.sub m (Nat.succ k)=clipAt m (Int.negSucc k)
  rw[show Int.negSucc k= -((k+1:Nat):Int)from rfl,clipAt_neg _ _ (Nat.succ_pos k)]
  rfl
noncomputable def slA(m:Nat)(lo:Option Int):Nat:=lo.elim 0 (clipAt m)
noncomputable def slB(m:Nat)(hi:Option Int):Nat:=hi.elim m (clipAt m)
theorem jJ{α:Type}(xs:List α)(lo hi:Option Int):slc xs lo hi=(xs.drop (slA xs.length lo)).take (slB xs.length hi-slA xs.length lo):=by
 unfold slc
 rw[kP,kO,List.drop_take,aO]
 have e1:(@U9 Int (λZ=>Nat) 0 (λi=>gA xs.length i) lo)=slA xs.length lo:=by cases lo with|none=>rfl|some i=>exact ja _ _
 have e2:(@U9 Int (λZ=>Nat) xs.length (λi=>gA xs.length i) hi)=slB xs.length hi:=by cases hi with|none=>rfl|some i=>exact ja _ _
 rw[e1,e2]
theorem rE(m:Nat)(hi:Option Int):slB m hi≤m:=by
 cases hi with
 |none=>exact UY _
 |some i=>
  exact Int.toNat_le.mpr (Int.max_le.mpr ⟨TG _,Int.min_le_right _ _⟩)
theorem uv{ρ:List Addr}{xs:List V}{vs:List Value}(r:VsR ρ xs vs)(lo hi:Option Int):VsR ρ (slc xs lo hi) (Vo vs.toArray lo hi none).toList:=by
 rw[jJ,slicePick_plain]
 simp only[TO]
 rw[r.length]
 exact(r.drop _).take _
theorem FE(x:T)(lo hi:Option Int):Builtin.Str.strSliceIndices lo hi 1 x.length=((List.range (slB x.length hi-slA x.length lo)).map (slA x.length lo+ ·)):=by
 have e:Builtin.Str.strSliceIndices lo hi 1 x.length=sliceRange (sliceBounds lo hi none x.length).1 (sliceBounds lo hi none x.length).2.1 1:=by cases lo<;>cases hi<;>rfl
 rw[e,sliceBounds_plain]
 exact sliceRange_one _ _
noncomputable def jb:Option Int→Option (Int×Tok)→Prop
 |none,q=>q=none
 |some i,q=> ∃t,q=some (i,t)
theorem zC{n a b:Nat}(z: ¬n=0)(h:b≤n)(q:b-a=n):a=0:=by
 cases a with
 |zero=>rfl
 |succ a=>exact absurd (UJ (Nat.le_of_eq q.symm) (UJ (Nat.sub_le_sub_right h _) (Nat.sub_le_sub_left (Ua (U0 a)) n))) (Nat.not_le.mpr (Nat.sub_lt (Nat.pos_of_ne_zero z) Nat.zero_lt_one))
theorem uw{n a b:Nat}(h:b≤n)(q:b-a=n):b=n:=Up h (q▸Nat.sub_le b a)
set_option tactic.hygienic true in
theorem gN{x:T}{t:Tok}{l u:Option (Int×Tok)}{lo hi:Option Int}(hl:jb lo l)(hu:jb hi u)(hx:x.length≤4000){s:Shared}(hQ: ∀t' k,Q (.str (mkS (slc x lo hi)) t') {s with toks:=k}):(sliceMade (mkS x) t l u none).post Q s:=by
 have e1:l.map (·.1)=lo:=by cases lo with|none=>cases hl;rfl|some i=>obtain⟨t,rfl⟩:=hl;rfl
 have e2:u.map (·.1)=hi:=by cases hi with|none=>cases hu;rfl|some i=>obtain⟨t,rfl⟩:=hu;rfl
 have e3:slicePicked (mkS x) l u none=(List.range (slB x.length hi-slA x.length lo)).map (slA x.length lo+ ·):=by
  unfold slicePicked
  rw[e1,e2,am];exact FE x lo hi
 have e4:(⟨((slicePicked (mkS x) l u none).filterMap ((mkS x).cps[·]?)).toArray⟩:Str)=mkS (slc x lo hi):=by
  rw[e3,pick_run,jJ];rfl
 unfold sliceMade
 split
 · rename_i q
   have q2:(slicePicked (mkS x) l u none).length=x.length:=by
    rw[Ub,beq_iff_eq,beq_iff_eq]at q
    rw[q.2,am]
   have:slc x lo hi=x:=by
    rw[jJ]
    rw[e3]at q2
    simp only[Uk,List.length_range]at q2
    have:=rE x.length hi
    by_cases z:x.length=0
    · have:x=[]:=List.length_eq_zero_iff.mp z
      subst this;simp
    · rw[zC z this q2,List.drop_zero,Nat.sub_zero,uw this q2,List.take_length]
   rw[this]at hQ
   exact hQ t s.toks
 · refine⟨?_,?_⟩
   · rw[e4,am,jJ,ak];exact kF (UJ (List.length_take_le _ _) (UJ (Nat.sub_le_of_le_add (UJ (rE x.length hi) (T2 _ _))) hx))
   · rw[e4];exact hQ _ _
def dO(e:Mine.E):Option Expr:=match e with| .no=>none|_=>some (den e).1
theorem rF{e:Mine.E}{r:Option Int}(X:Snd Γ n ih)(A:AOk c n)(R:Rel Γ c d f lo h)(hv:zd ih f lo h e=some (r,h'))
 (hQ: ∀ρ' ξ' s' q,Ext d.ρ ρ'→Rel Γ c ⟨ρ',ξ',d.m,s'⟩ f lo h'→jb r q→Q (partValue q) s'):
 wpAny Γ.M c.A (evalPart (dO e) c.env) Q E d.s:=by
 have gen:(ob (ih.e f lo h e) λp=>ob (ax p.1) λi=>some (some i,p.2))=some (r,h')→wpAny Γ.M c.A (evalPart (some (dE e)) c.env) Q E d.s:=by
  intro hv
  refine aR hv ?_
  clear hv
  intro p1 h1 i h2 hv
  obtain⟨rfl,rfl⟩:=so2 hv
  rw[evalPart_some]
  refine X.e c d f lo h e p1.1 p1.2 _ E A R h1 λρ1 ξ1 s1 w1 x1 R1 v1=> ?_
  rw[aq h2]at v1
  refine el_EL v1 ?_
  clear v1
  rintro t rfl
  exact hQ ρ1 ξ1 s1 (some (i,t)) x1 R1 ⟨t,rfl⟩
 cases e with
 |no=>
  obtain⟨rfl,rfl⟩:=so2 (hv:some ((none:Option Int),h)=some (r,h'))
  show wpAny Γ.M c.A (pure .none) Q E d.s
  exact U8 (hQ d.ρ d.ξ d.s none (.refl _) R rfl)
 |_=>exact gen hv
theorem ux{o v:V}{wo:Value}{r1 r2:Option Int}{q1 q2:Option (Int×Tok)}{a:Addr}(R:Rel Γ c d f lo h)(ho:VR d.ρ o wo)(hr1:jb r1 q1)(hr2:jb r2 q2)(hv:xR h o r1 r2=some (v,h'))(hQ:PostE Γ c d f lo h' v Q)
 (ha:d.s.heap.get? a=some {cls:= .type "slice",data:= .fields #[partValue q1,partValue q2,.none]}){value slice:Expr}
 (hs:subscripted slice false wo (.ref a)=operate [.ref a,wo] (getItem wo (.ref a))):wpAny Γ.M c.A (subscriptTail value slice wo (.ref a)) Q E d.s:=by
 cases o with
 |str x=>
  refine bf (hv:gd (okL x) _=some (v,h')) ?_
  clear hv
  intro h1 hv
  replace hQ:=hQ.so hv
  clear hv
  refine el_EL ho ?_
  clear ho
  rintro t rfl
  refine tail_any (typeIs_str d.s _ _) F.slot_str_getitem.lookup ?_ hs
  refine wpAny_getItem_str_slice (l:=q1) (u:=q2) (st:=none) ⟨_,ha,rfl,rfl⟩ rfl ?_
  exact gN hr1 hr2 (aM h1) λt' k=>hQ.tok R ⟨_,rfl⟩ k
 |loc k=>
  refine bJ (hv:ob (aL h k) _=some (v,h')) ?_
  clear hv
  intro xs h1 h2 hv
  rw[eM]at hv
  replace hQ:=hQ.so hv
  clear hv
  refine el_EAL ho ?_
  clear ho
  rintro b g1 rfl
  refine el_EEEAAL (bh R (av h1)) ?_
  intro b' vs j e1 e2 e3
  rw[g1]at e1
  obtain rfl:=Ud e1
  have isP: ∀{r:Option Int} {q:Option (Int×Tok)},jb r q→IsPart (partValue q) r:=by
   intro r q hr
   cases r with
   |none=>cases hr;exact .none
   |some i=>obtain⟨t,rfl⟩:=hr;exact .int i t
  refine tail_any (aG e2).typeIs slot_list_getitem.lookup ?_ hs
  have hl:=e3.length
  have:=aM h2
  refine wpAny_getItem_list_slice (aG e2) (vl:=partValue q1) (vu:=partValue q2) (vs:= .none) ⟨_,ha,rfl,rfl⟩ (isP hr1) (isP hr2) .none (by simp) ?_ (by rw[TO,hl];exact kF this)
  refine hQ _ _ _ _ (.push _ _) (R.new (t:=d.s.toks) rfl ⟨_,0,?_,(uv e3 r1 r2).ext (.push _ _)⟩) (bu R _)
  show _=Vv _ _
  simp[Vv]
 |_=>exact nn hv
theorem FF{o l u:Mine.E}{ps:Pos}(X:Snd Γ n ih)(A:AOk c n)(R:Rel Γ c d f lo h)(hv:E7 ih f lo h o l u=some (v,h'))(hQ:PostE Γ c d f lo h' v Q):
 wpAny Γ.M c.A (eval (dE (.slc o l u ps p)) c.env) Q E d.s:=by
 refine aB hv ?_
 clear hv
 intro p1 h1 p2 h2 p3 h3 hv
 refine Subscript_ (X.e c d f lo h o p1.1 p1.2 _ E A R h1 λρ1 ξ1 s1 w1 x1 R1 v1=>wpAny_Slice ?_)
 show wpAny Γ.M c.A (evalPart (dO l) c.env) _ E s1
 refine rF (d:=⟨ρ1,ξ1,d.m,s1⟩) X A R1 h2 λρ2 ξ2 s2 q1 x2 R2 v2=> ?_
 show wpAny Γ.M c.A (evalPart (dO u) c.env) _ E s2
 refine rF (d:=⟨ρ2,ξ2,d.m,s2⟩) X A R2 h3 λρ3 ξ3 s3 q2 x3 R3 v3=> ?_
 rw[evalPart_none]
 refine U8 ?_
 refine ux (d:=⟨ρ3,ξ3,d.m,{s3 with heap:=s3.heap.push _,toks:=s3.toks}⟩) (R3.junk λZ Z e=>Tf _ e) ((v1.ext x2).ext x3) v2 v3 hv (hQ.after ((x1.trans x2).trans x3)) (Tz _ rfl) rfl
theorem zD{es:Mine.E}(X:Snd Γ n ih)(A:AOk c n)(R:Rel Γ c d f lo h)(hv:(ob (evs ih f lo es h) λq=>gd (okL q.1) (some (new q.2 (.list q.1))))=some (v,h'))(hQ:PostE Γ c d f lo h' v Q):
 wpAny Γ.M c.A (eval (dE (.list es p)) c.env) Q E d.s:=
 wpAny_List (rA (cl:=λvs=>{cls:= .type "list",data:= .seq vs.toArray}) X A R hv hQ (λZ=>rfl) λZ Z Z vs r=>⟨vs,0,rfl,r⟩)
theorem FH{es:Mine.E}{k:Nat}(X:Snd Γ n ih)(A:AOk c n)(R:Rel Γ c d f lo h)(hv:(ob (evs ih f lo es h) λq=>gd (okL q.1) (some (new q.2 (.tup q.1))))=some (v,h'))(hQ:PostE Γ c d f lo h' v Q):
 wpAny Γ.M c.A (eval (dE (.tup es k p)) c.env) Q E d.s:=
 wpAny_Tuple (rA (cl:=λvs=>{cls:= .type "tuple",data:= .seq vs.toArray}) X A R hv hQ (λZ=>rfl) λZ Z Z vs r=>⟨vs,rfl,r⟩)
theorem uy(R:Rel Γ c d f lo h)(hv:some (new h (.sd []))=some (v,h'))(hQ:PostE Γ c d f lo h' v Q):wpAny Γ.M c.A (eval (dE (.dict0 p)) c.env) Q E d.s:=by
 rw[eM]at hv
 replace hQ:=hQ.so hv
 clear hv
 show wpAny Γ.M c.A (do standAt p;newDict) Q E d.s
 refine U7 (UA (TP ?_))
 exact hQ _ _ _ _ (.push _ _) (R.new (t:=d.s.toks) rfl ⟨[],0,rfl,.nil⟩) (bu R _)
end
end
section
variable{Γ:Gl}{c:St0}{d:Dy}{f:Frm}{lo:Lo}{h:H}{n:Nat}{ih:Ih}
theorem kQ(x y:T)(v:V): ∀l:List (T×V),look y (put x v l)=if y=x then some v else look y l
 |[]=>by show look y [(x,v)]=_;rw[aK]
 |(z,s)::l=>by
  rw[ki]
  by_cases q:x=z
  · subst q
    rw[if_pos rfl,aK,aK]
    by_cases e:y=x
    · rw[if_pos e,if_pos e]
    · rw[if_neg e,if_neg e,if_neg e]
  · rw[if_neg q,aK,aK,kQ x y v l]
    by_cases e:y=z
    · subst e;rw[if_pos rfl,if_neg (Ne.symm q),if_pos rfl]
    · rw[if_neg e,if_neg e]
section
variable{E:Value→Shared→Prop}{v:V}{h':H}{p:Pos}{b:Bool}
theorem NmOk.stored{g:G}{nm:Nm}{ce:List Nat}{q i cd:Nat}{x:T}{w:Value}{m':Str→Option Value}{s':Shared}(N:NmOk g c d ⟨nm,ce,q,cd⟩ lo)(hs:look x nm=some (.lv i))(hv:VR d.ρ v w)(hm: ∀y,m' y=if y=mkS x then some w else d.m y):
 NmOk g c ⟨d.ρ,d.ξ,m',s'⟩ ⟨nm,ce,q,cd⟩ (lo.set i (some v)):=by
 refine⟨N.kind,N.glob,N.blt,N.dbg,N.lv,N.inj,λy j u hy hj=> ?_,N.cv,N.gv,N.kv,N.cd,N.ql⟩
 by_cases e:j=i
 · subst e
   have:=N.inj x y j hs hy
   subst this
   rw[List.getElem?_set_self']at hj
   cases hl:lo[j]? with
   |none=>rw[hl]at hj;cases hj
   |some o=>
    rw[hl]at hj
    cases hj
    exact⟨w,by show m' _=_;rw[hm,if_pos rfl],hv⟩
 · rw[Tw (Ne.symm e)]at hj
   refine el_EAL (N.lov y j u hy hj) ?_
   intro w' a b
   refine⟨w',?_,b⟩
   show m' _=_
   rw[hm,if_neg]
   · exact a
   · intro q
     have:=bW q
     subst this
     rw[show look y nm=some (.lv j)from hy]at hs
     cases hs
     exact e rfl
theorem dt{Q:Unit→Shared→Prop}{x:T}{lo':Lo}{w:Value}(R:Rel Γ c d f lo h)(hv:VR d.ρ v w)(e:bz f lo h x v=some (lo',h'))(hQ: ∀m' s',Rel Γ c ⟨d.ρ,d.ξ,m',s'⟩ f lo' h'→((∃i,look x f.nm=some (.lv i))∨(m'=d.m∧lo'=lo))→(c.env.kindOf (mkS x)=some .local→UM c.env.locals d.s.heap s'.heap)→Q () s'):
 wpAny Γ.M c.A (storeName c.env (mkS x) w) Q E d.s:=by
 obtain⟨nm,ce,q,cd⟩:=f
 have N:=R.nm
 refine aw e ?_
 clear e
 intro s hs e
 cases s with
 |lv i=>
  obtain⟨rfl,rfl⟩:=so2 (e:some (cG (some v) lo i,h)=some (lo',h'))
  refine ae (N.lv x i hs) ?_
  intro k1 k2
  refine Tp k1 (k2▸R.fr.ns) (λh2 hn hk=> ?_) (by rw[N.kind];rfl)
  rw[k2]at hn hk
  rw[aU]at hQ
  exact hQ _ _ ⟨⟨hn,λb o e=>(hk.2 b λz=>by subst z;exact absurd (UN e) (Vd.mpr R.fr.above)).trans (R.fr.keep b o e),R.fr.above⟩,R.gb,R.bl,
   R.led.keeps λb o z Z e=>(hk.2 b z).trans e,N.stored hs hv λZ=>rfl,R.os,R.gens,R.kp,R.gk⟩ (.inl ⟨i,hs⟩) λZ=>k2▸hk
 |cv j=>
  refine aB (e:ob (nth ce j) _=some (lo',h')) ?_
  clear e
  intro k h1 o h2 v0 h3 e
  obtain⟨rfl,rfl⟩:=so2 e
  rw[ap]at h1 h2
  rw[eK h3]at h2
  refine el_AEAL (N.cv x j k hs h1) ?_
  intro kd a l1 l2
  refine el_EEAAEAL (R.led.at h2) ?_
  intro a' b' g1 g2 w0 g3 g4
  rw[show d.ρ[k]? =some a from l2]at g1
  obtain rfl:=Ud g1
  have fin: ∀h2,h2.IsCell a (some w)→UM a d.s.heap h2→Q () {d.s with heap:=h2}:=by
   intro h2 hc hk
   refine el_EAL hc ?_
   clear hc
   intro o2 ho2 hd2
   rw[aU]at hQ
   exact hQ d.m _ (R.set (t:=d.s.toks) l2 ho2 ⟨some w,hd2,λv' e=>by cases e;exact⟨w,rfl,hv⟩⟩ hk) (.inr ⟨rfl,rfl⟩) λz=>by rcases kd with kd|kd<;>(rw[kd]at z;cases z)
  rcases kd with kd|kd
  · exact wpAny_storeName_cell N.kind kd l1 ⟨b',g2,g3⟩ fin
  · exact storeName_free N.kind kd l1 ⟨b',g2,g3⟩ fin
 |gv _=>exact nn e
 |kv=>
  refine aR (e:ob (nth h q) _=some (lo',h')) ?_
  clear e
  intro o h1 es h2 e
  obtain⟨rfl,rfl⟩:=so2 e
  rw[ap]at h1
  rw[eS h2]at h1
  refine ae (N.kv x hs) ?_
  intro k1 k2
  refine el_EEAAEEAL (R.led.at h1) ?_
  intro a' b' g1 g2 ds ep g3 qX
  refine ae qX ?_
  clear qX
  intro g4 g5
  rw[show d.ρ[q]? =some _ from k2]at g1
  obtain rfl:=Ud g1
  have hn:d.s.heap.Ns c.env.locals (λy=>nsFind ds y):=⟨b',ds,ep,g2,g3,g4,λZ=>rfl⟩
  refine Tp k1 hn (λh2 hn2 hk=> ?_) (by rw[N.kind];rfl)
  refine el_EEEAAAL hn2 ?_
  clear hn2
  intro o2 ds2 ep2 i1 i2 i3 i4
  rw[aU]at hQ
  refine hQ d.m _ (R.set (t:=d.s.toks+1) k2 i1 ⟨ds2,ep2,i2,i3,λy u hy=> ?_⟩ hk) (.inr ⟨rfl,rfl⟩) (λZ=>hk)
  rw[kQ]at hy
  rw[i4]
  dsimp only
  by_cases e:y=x
  · subst e
    rw[if_pos rfl]at hy⊢
    obtain rfl:=Ud hy
    exact⟨w,rfl,hv⟩
  · rw[if_neg e]at hy
    rw[if_neg λz=>e (bW z)]
    exact g5 y u hy
theorem eW{Q:Unit→Shared→Prop}{x:T}{lo':Lo}{w:Value}(R:Rel Γ c d f lo h)(hv:VR d.ρ v w)(e:bz f lo h x v=some (lo',h'))(hQ: ∀m' s',Rel Γ c ⟨d.ρ,d.ξ,m',s'⟩ f lo' h'→Q () s'):
 wpAny Γ.M c.A (storeName c.env (mkS x) w) Q E d.s:=dt R hv e λm' s' R' Z Z=>hQ m' s' R'
end
end
section
variable{Γ:Gl}{c:St0}{d:Dy}{f:Frm}{lo:Lo}{h:H}{n:Nat}{ih:Ih}
theorem rG{dx:Addr}{o o':Obj}{post:List (Addr×Obj)}(h2: ∀p∈post,p.1≠dx): ∀{pre:List (Addr×Obj)},(∀p∈pre,p.1≠dx)→Upd dx o o' (pre++(dx,o)::post) (pre++(dx,o')::post)
 |[],_=> .head h2
 |p::pre,h1=> .tail (h1 p (.head _)) (rG h2 λq hq=>h1 q (.tail _ hq))
theorem rH{D:Wd}{h₀ hp:Heap}{L:Addr}{ρ:List Addr}{ξ:List (Addr×Obj)}(Y:Led D h₀ L hp ρ ξ h){k:Nat}{a:Addr}{b:Obj}(hk:ρ[k]? =some a)(hb:hp.get? a=some b):
 ∃pre post,nw hp ρ ξ=pre++(a,b)::post∧(∀p∈pre,p.1≠a)∧ ∀p∈post,p.1≠a:=by
 refine el_EEL (List.append_of_mem (Tq hk)) ?_
 rintro r1 r2 rfl
 have nd:=Y.nd
 rw[List.nodup_append]at nd
 refine bi nd ?_
 clear nd
 intro n1 n2 n3
 rw[Uf]at n2
 refine⟨r1.map λa=>(a,(hp.get? a).getD default),(r2.map λa=>(a,(hp.get? a).getD default))++ξ,?_,?_,?_⟩
 · unfold nw;simp[hb]
 · intro p hp'
   refine el_EAL (UW.mp hp') ?_
   rintro x hx rfl
   exact n3 x hx a (.head _)
 · intro p hp'
   rcases Ue.mp hp' with hp'|hp'
   · refine el_EAL (UW.mp hp') ?_
     rintro x hx rfl
     intro e
     have:x=a:=e
     subst this
     exact n2.1 hx
   · intro e
     exact(Y.frz p hp').2.2.2 (by rw[e];exact Tl _ (.head _))
theorem Led.updN{D:Wd}{h₀ hp hp':Heap}{L:Addr}{ρ:List Addr}{ξ:List (Addr×Obj)}(Y:Led D h₀ L hp ρ ξ h){k:Nat}{a:Addr}{b b':Obj}{o:O}{pre post:List (Addr×Obj)}(hk:ρ[k]? =some a)
 (e:nw hp ρ ξ=pre++(a,b)::post)(N:News h₀ L hp' (pre++(a,b')::post))(hf:OR D ρ ξ o b'):Led D h₀ L hp' ρ ξ (h.set k o):=by
 have old: ∀x b,x≠a→(x,b)∈nw hp ρ ξ→hp'.get? x=some b:=by
  intro x bx hx hm
  rw[e]at hm
  rcases Ue.mp hm with q|q
  · exact(N (x,bx) (Tu _ q)).1
  · rcases Uz.mp q with q|q
    · cases q;exact absurd rfl hx
    · exact(N (x,bx) (Tl _ (.tail _ q))).1
 refine⟨by simp[Y.len],Y.nd,λi x o' hx ho=> ?_,Y.new,λp hp2=> ?_⟩
 · by_cases q:i=k
   · subst q
     rw[hk]at hx
     obtain rfl:=Ud hx
     have hl:i<h.length:=by rw[←Y.len];rw[S3]at hk;exact hk.1
     rw[Ti hl]at ho
     obtain rfl:=Ud ho
     exact⟨b',(N _ (Tl _ (.head _))).1,hf⟩
   · rw[Tw (Ne.symm q)]at ho
     refine el_EAL (Y.obj i x o' hx ho) ?_
     intro bx hb r
     refine⟨bx,old x bx (λe=>q ?_) (mu Y (Tq hx) hb),r⟩
     subst e
     rw[S3]at hx hk
     exact mr Y.nd hx hk
 · have:=Y.frz p hp2
   refine⟨old p.1 p.2 (λe=>this.2.2.2 ?_) (Tl _ hp2),this.2⟩
   rw[e];exact Tq hk
theorem Rel.updN(R:Rel Γ c d f lo h){h':Heap}{t:Nat}{k:Nat}{a:Addr}{b b':Obj}{o:O}{pre post:List (Addr×Obj)}(hk:d.ρ[k]? =some a)
 (e:nw d.s.heap d.ρ d.ξ=pre++(a,b)::post)(F:Fr c.h₀ c.L h' d.m)(N:News c.h₀ c.L h' (pre++(a,b')::post))(hf:OR Γ.D d.ρ d.ξ o b'):Rel Γ c ⟨d.ρ,d.ξ,d.m,{d.s with heap:=h',toks:=t}⟩ f lo (h.set k o):=
 ⟨F,R.gb,R.bl,R.led.updN hk e N hf,R.nm.ext (.refl _),R.os,R.gens,R.kp,R.gk⟩
theorem SdR.put{P:Params}{ρ:List Addr}{x:T}{v:V}{w:Value}{tk:Tok}(hv:VR ρ v w){es:List (T×V)}{ds:List Vk}(r:SdR P ρ es ds):SdR P ρ (put x v es) (putL (mkS x) (Ur P (mkS x)) (.str (mkS x) tk) w ds):=by
 induction r with
 |nil=>exact .cons hv .nil
 | @cons y v' t' w' es ds hx hr ih=>
  rw[ki]
  unfold putL
  rw[show((⟨Ur P (mkS y),.str (mkS y) t',w'⟩:Vk).key.isStr (mkS x))=tEq x y from i7 y x t']
  by_cases q:x=y
  · rw[if_pos q,if_pos (au.mpr q)];exact .cons hv hr
  · rw[if_neg q,if_neg (λe=>q (au.mp e))];exact .cons hx ih
theorem kR(x:Str)(hh:Int)(k w:Value): ∀ds:List Vk,(putL x hh k w ds).length≤ds.length+1
 |[]=>by simp[putL]
 |e::ds=>by
  unfold putL
  have:=kR x hh k w ds
  split<;>simp<;>omega
theorem SdR.getL{P:Params}{ρ:List Addr}{x:T}{es:List (T×V)}{ds:List Vk}(r:SdR P ρ es ds):(∀v,look x es=some v→ ∃w,W.getL (mkS x) ds=some (some w)∧VR ρ v w)∧(look x es=none→W.getL (mkS x) ds=some none):=by
 have nr:ds.any (·.refKey)=false:=by
  induction r with
  |nil=>rfl
  |cons _ _ ih=>rw[UI,ih];rfl
 unfold W.getL
 rw[nr]
 clear nr
 show(∀v,look x es=some v→ ∃w,(match ds.find? (·.key.isStr (mkS x))with|some e=>some (some e.val)|none=>some none)=some (some w)∧VR ρ v w)∧(look x es=none→(match ds.find? (·.key.isStr (mkS x))with|some e=>some (some e.val)|none=>(some none:Option (Option Value)))=some none)
 induction r with
 |nil=>exact⟨λv e=>(nomatch e),λZ=>rfl⟩
 | @cons y v' t' w' es ds hx hr ih=>
  rw[aK]
  have k:((⟨Ur P (mkS y),.str (mkS y) t',w'⟩:Vk).key.isStr (mkS x))=tEq x y:=i7 y x t'
  by_cases q:x=y
  · rw[if_pos q,List.find?_cons_of_pos (by rw[k];exact au.mpr q)]
    exact⟨λv e=>⟨w',rfl,by cases e;exact hx⟩,λe=>(nomatch e)⟩
  · rw[if_neg q,List.find?_cons_of_neg (by rw[k];exact λe=>q (au.mp e))]
    exact ih
section
variable{E:Value→Shared→Prop}{v:V}{h':H}{p:Pos}{b:Bool}{Q:Unit→Shared→Prop}
theorem eX(R:Rel Γ c d f lo h){k C j:Nat}{es:List (T×V)}(h1:h[k]? =some (.inst C j))(h2:h[j]? =some (.sd es)): ∃a dx ds i,d.ρ[k]? =some a∧d.ρ[j]? =some dx∧d.s.heap.get? a=some (instObj C dx)∧
 d.s.heap.get? dx=some (Vy ds i)∧SdR Γ.w.params d.ρ es ds∧InstAt d.s.heap a (instObj C dx) C (some (Vy ds i)):=by
 refine el_EEAAEAL (R.led.at h1) ?_
 rintro a b g1 g2 dx g3 rfl
 refine el_EEAAEEAL (R.led.at h2) ?_
 rintro a' b' i1 i2 ds i rfl i4
 rw[i1]at g3
 cases g3
 exact⟨a,dx,ds,i,g1,i1,g2,i2,i4,⟨g2,rfl,rfl,i2⟩⟩
theorem uz{o:V}{wo w:Value}{x:T}(X:Snd Γ n ih)(R:Rel Γ c d f lo h)(ho:VR d.ρ o wo)(hv:VR d.ρ v w)(e:rf ih h o x v=some h')(hQ: ∀s',Rel Γ c ⟨d.ρ,d.ξ,d.m,s'⟩ f lo h'→Q () s'):
 wpAny Γ.M c.A (setAttr wo (mkS x) w) Q E d.s:=by
 refine aR e ?_
 clear e
 intro k h1 q h2 hvX
 refine cW hvX ?_
 clear hvX
 intro C j h3 hvX
 refine bJ hvX ?_
 clear hvX
 intro ns h4 h5 hvX
 refine bJ hvX ?_
 clear hvX
 intro es h6 h7 e
 obtain rfl:=Ud e
 rw[aj h1]at ho
 rw[ap]at h2
 rw[cO h3]at h2
 refine el_EAL ho ?_
 clear ho
 rintro a q1 rfl
 refine el_EEEL (eX R h2 (bH h6)) ?_
 intro a' dx ds qX
 refine el_EAAL qX ?_
 clear qX
 intro i g1 g2 qX
 refine aD qX ?_
 clear qX
 intro g3 g4 g5 g6
 rw[q1]at g1
 obtain rfl:=Ud g1
 have O:=X.ia _ _ h4
 have own:=O.own x h5
 refine el_EEAAL (rH R.led g2 g4) ?_
 intro pre post e1 e2 e3
 have gl:=g5.getL (x:=x)
 have hl:(W.getL (mkS x) ds).isSome=true:=by
  cases q:look x es with
  |none=>rw[gl.2 q];rfl
  |some v'=>obtain⟨w',z,_⟩:=gl.1 v' q;rw[z];rfl
 have hlen:=g5.length
 have h7:=aX h7
 rw[aO]at h7
 refine set_dict (es':=putL (mkS x) (Ur Γ.w.params (mkS x)) (.str (mkS x) (d.s.toks+1)) w ds) (n':=putN (mkS x) ds i) (news':=pre++(dx,Vy (putL (mkS x) (Ur Γ.w.params (mkS x)) (.str (mkS x) (d.s.toks+1)) w ds) (putN (mkS x) ds i))::post)
  R.fr R.gb.K R.led.news g6 rfl O.hs O.hp (by unfold takerIn;rw[own];rfl) O.hh hl rfl (by rw[e1];exact rG e3 e2) (UJ (kR _ _ _ _ _) (Nat.succ_le_of_lt (UQ (hlen▸h7) (by decide)))) λh2 F N=> ?_
 rw[aU]at hQ
 exact hQ _ (R.updN (t:=d.s.toks+2) g2 e1 F N ⟨_,_,rfl,g5.put hv⟩)
theorem zE{o i:V}{wo wi w:Value}(R:Rel Γ c d f lo h)(ho:VR d.ρ o wo)(hi:VR d.ρ i wi)(hv:VR d.ρ v w)(e:zf h o i v=some h')(hQ: ∀s',Rel Γ c ⟨d.ρ,d.ξ,d.m,s'⟩ f lo h'→Q () s'):
 wpAny Γ.M c.A (setItem wo wi w) Q E d.s:=by
 refine aB e ?_
 clear e
 intro k h1 xs h2 j h3 hvX
 refine aW hvX ?_
 clear hvX
 intro h4 h5 e
 obtain rfl:=Ud e
 rw[aj h1]at ho
 rw[bS h3]at hi
 refine el_EAL ho ?_
 clear ho
 rintro a q1 rfl
 refine el_EL hi ?_
 clear hi
 rintro t rfl
 refine el_EEEAAL (bh R (av h2)) ?_
 intro a' vs i e1 e2 e3
 rw[q1]at e1
 obtain rfl:=Ud e1
 have h5:=aX h5
 rw[aO]at h5
 have hl:=e3.length
 have h4:=aM h4
 refine ki_setAt e2 (TG j) (iHi (TH h5 (UJ h4 (by decide)))) (US.mpr (by rw[TO,hl];exact h5)) ?_
 have q:=PySem.IsL.update e2 (·.setIfInBounds (Int.ofNat j).toNat w)
 rw[aU,aU]at hQ
 refine hQ _ (R.set (t:=d.s.toks) q1 q ⟨vs.set j w,if((vs.toArray.setIfInBounds (Int.ofNat j).toNat w).size==vs.toArray.size)=true then i else i+1,?_,e3.set hv⟩ (TA ..))
 show Vv (vs.toArray.setIfInBounds j w) _=_
 rw[List.setIfInBounds_toArray]
end
end
section
variable{Γ:Gl}{c:St0}{d:Dy}{f:Frm}{lo:Lo}{h:H}{n:Nat}{ih:Ih}
section
variable{E:Value→Shared→Prop}{v:V}{h':H}{p:Pos}{b:Bool}{Q:Unit→Shared→Prop}{lo':Lo}
theorem du{t:Mine.E}(e:bG ih f lo h v t=some (lo',h')):(∃x p,t= .nm x p)∨(∃o x p,t= .attr o x p)∨(∃o i p,t= .sub o i p):=by
 revert t
 exact @EB _ (λx p Z=> .inl ⟨x,p,rfl⟩) (λo x p Z=> .inr (.inl ⟨o,x,p,rfl⟩)) (λo i p Z=> .inr (.inr ⟨o,i,p,rfl⟩)) (λe q hv=>noK (congrFun (congrFun (congrFun (congrFun (congrFun (q _ _ _ _ _:xZ e=λZ Z Z Z Z=>none) ih) f) lo) h) v) hv)
theorem rI{t:Mine.E}{w:Value}(X:Snd Γ n ih)(A:AOk c n)(R:Rel Γ c d f lo h)(hv:VR d.ρ v w)(e:bG ih f lo h v t=some (lo',h'))
 (hQ: ∀ρ' ξ' m' s',Ext d.ρ ρ'→Rel Γ c ⟨ρ',ξ',m',s'⟩ f lo' h'→Q () s'):wpAny Γ.M c.A (assign (dE t) c.env w) Q E d.s:=by
 rcases du e with qA|qA|qA
 · refine el_EEL qA ?_
   clear qA
   rintro x p rfl
   exact S8 (eW (x:=sT x) R hv e λm' s' R'=>hQ _ _ m' s' (.refl _) R')
 · refine el_EEEL qA ?_
   clear qA
   rintro o x p rfl
   refine aR (e:ob (ih.e f lo h o) (λp=>ob (rf ih p.2 p.1 (sT x) v) λh2=>some (lo,h2))=some (lo',h')) ?_
   clear e
   intro p1 h1 h2 h3 e
   obtain⟨rfl,rfl⟩:=so2 e
   show wpAny Γ.M c.A (assign (.Attribute (dE o) x p) c.env w) Q E d.s
   rw[PySem.assign_Attribute]
   refine U7 (Uy (X.e c d f lo h o p1.1 p1.2 _ E A R h1 λρ1 ξ1 s1 w1 x1 R1 v1=> ?_))
   refine U7 (UA (U7 (Uy ?_)))
   exact uz (d:=⟨ρ1,ξ1,d.m,s1⟩) (x:=sT x) X R1 v1 (hv.ext x1) h3 λs' R'=>wpAny_release' (hQ _ _ _ _ x1 R')
 · refine el_EEEL qA ?_
   clear qA
   rintro o i p rfl
   refine aB (e:ob (ih.e f lo h o) (λp=>ob (ih.e f lo p.2 i) λq=>ob (zf q.2 p.1 q.1 v) λh3=>some (lo,h3))=some (lo',h')) ?_
   clear e
   intro p1 h1 p2 h2 h3 h4 e
   obtain⟨rfl,rfl⟩:=so2 e
   show wpAny Γ.M c.A (assign (.Subscript (dE o) (dE i) p) c.env w) Q E d.s
   rw[PySem.assign_Subscript]
   refine U7 (Uy (X.e c d f lo h o p1.1 p1.2 _ E A R h1 λρ1 ξ1 s1 w1 x1 R1 v1=> ?_))
   refine U7 (Uy (X.e c ⟨ρ1,ξ1,d.m,s1⟩ f lo p1.2 i p2.1 p2.2 _ E A R1 h2 λρ2 ξ2 s2 w2 x2 R2 v2=> ?_))
   refine U7 (UA (U7 (Uy ?_)))
   exact zE (d:=⟨ρ2,ξ2,d.m,s2⟩) R2 (v1.ext x2) v2 (hv.ext (x1.trans x2)) h4 λs' R'=>wpAny_release' (hQ _ _ _ _ (x1.trans x2) R')
theorem cL{t:Mine.E}(he:bv t)(r:List Expr)(env:Env):Va (dE t::r) env=(false,assign (dE t) env)::Va r env:=by
 cases t<;>first|rfl|exact absurd rfl (he _)
theorem jc{t:Mine.E}(e:bG ih f lo h v t=some (lo',h')):bv t:=by
 rcases du e with⟨x,p,rfl⟩|⟨o,x,p,rfl⟩|⟨o,i,p,rfl⟩<;>exact λZ q=>ff (congrArg ma q)
theorem jd{t r:Mine.E}{vs:List V}{x:Lo×H}(e:jE ih f (.cons t r) lo h vs=some x): ∃v ws q,vs=v::ws∧bG ih f lo h v t=some q∧jE ih f r q.1 q.2 ws=some x:=by
 cases vs with
 |nil=>exact nn e
 |cons v ws=>
  refine aw (e:ob (bG ih f lo h v t) (λq=>jE ih f r q.1 q.2 ws)=some x) ?_
  clear e
  intro q h1 e
  exact⟨v,ws,q,rfl,h1,e⟩
theorem oR: ∀(ts:Mine.E) {lo:Lo} {h:H} {vs:List V} {x:Lo×H} {env:Env},jE ih f ts lo h vs=some x→(Va (dL ts) env).length=vs.length∧(Va (dL ts) env).findIdx? (·.1)=none:=by
 refine lsE ?_ ?_ ?_
 · intro lo h vs x env e
   refine bf (e:gd (aV vs) (some (lo,h))=some x) ?_
   clear e
   intro h1 _
   rw[bM]at h1
   obtain rfl:=T4.mp h1
   exact⟨rfl,rfl⟩
 · intro t r IH lo h vs x env e
   refine el_EEEAAL (jd e) ?_
   rintro v ws q rfl h1 h2
   refine ae (IH (env:=env) h2) ?_
   intro a b
   show(Va (dE t::dL r) env).length=_∧(Va (dE t::dL r) env).findIdx? (·.1)=none
   rw[cL (jc h1)]
   refine⟨by simp[a],?_⟩
   rw[List.findIdx?_cons,b];rfl
 · intro e q _ _ _ _ _ hv;exact nD q hv
theorem zF(X:Snd Γ n ih)(A:AOk c n): ∀(ts:Mine.E) (d:Dy) (lo:Lo) (h:H) (vs:List V) (ws:List Value) (lo':Lo) (h':H) (Q:Unit→Shared→Prop),Rel Γ c d f lo h→VsR d.ρ vs ws→jE ih f ts lo h vs=some (lo',h')→
 (∀ρ' ξ' m' s',Ext d.ρ ρ'→Rel Γ c ⟨ρ',ξ',m',s'⟩ f lo' h'→Q () s')→wpAny Γ.M c.A (assignInOrder ((Va (dL ts) c.env).map (·.2)) ws) Q E d.s:=by
 refine lsE ?_ ?_ ?_
 · intro d lo h vs ws lo' h' Q R hv e hQ
   refine bf (e:gd (aV vs) (some (lo,h))=some (lo',h')) ?_
   clear e
   intro h1 e
   obtain⟨rfl,rfl⟩:=so2 e
   show wpAny Γ.M c.A (assignInOrder [] ws) Q E d.s
   exact U8 (hQ _ _ _ _ (.refl _) R)
 · intro t r IH d lo h vs ws lo' h' Q R hv e hQ
   refine el_EEEAAL (jd e) ?_
   rintro v vs' q rfl h1 h2
   cases hv with
   | @cons _ w _ ws' hw hr=>
    show wpAny Γ.M c.A (assignInOrder ((Va (dE t::dL r) c.env).map (·.2)) (w::ws')) Q E d.s
    rw[cL (jc h1)]
    refine U7 (m:=holding ws' (assign (dE t) c.env w)) (Uy (rI X A R hw h1 λρ1 ξ1 m1 s1 x1 R1=> ?_))
    exact IH ⟨ρ1,ξ1,m1,s1⟩ q.1 q.2 vs' ws' lo' h' Q R1 (hr.ext x1) h2 λρ' ξ' m' s' x2 R'=>hQ _ _ _ _ (x1.trans x2) R'
 · intro e q _ _ _ _ _ _ _ _ _ _ hv _;exact nD q hv
theorem gO{t:Mine.E}(q:cP t=false):asg ih f lo h v t=bG ih f lo h v t:=by
 cases t with
 |tup _ _ _=>cases q
 |_=>rfl
theorem kT{t:Mine.E}{w:Value}(X:Snd Γ n ih)(A:AOk c n)(R:Rel Γ c d f lo h)(hv:VR d.ρ v w)(e:asg ih f lo h v t=some (lo',h'))
 (hQ: ∀ρ' ξ' m' s',Ext d.ρ ρ'→Rel Γ c ⟨ρ',ξ',m',s'⟩ f lo' h'→Q () s'):wpAny Γ.M c.A (assign (dE t) c.env w) Q E d.s:=by
 cases q:cP t with
 |false=>rw[gO q]at e;exact rI X A R hv e hQ
 |true=>
  cases t with
  |tup ts k p=>
   refine aB (e:ob (aH v) (λk=>ob (nth h k) λo=>ob (oq o) λvs=>jE ih f ts lo h vs)=some (lo',h')) ?_
   clear e
   intro i h1 o h2 vs h3 e
   rw[aj h1]at hv
   rw[ap]at h2
   rw[iX h3]at h2
   refine el_EAL hv ?_
   clear hv
   rintro a q1 rfl
   refine el_EEAAEAL (R.led.at h2) ?_
   rintro a' b' g1 g2 ws rfl g4
   rw[q1]at g1
   obtain rfl:=Ud g1
   refine ae (oR ts (env:=c.env) e) ?_
   intro i1 i2
   refine assign_Tuple_tuple (items:=ws.toArray) A.hd ⟨_,g2,rfl,_,rfl⟩ (by rw[i1];simp[g4.length]) i2 λh2 hx=> ?_
   have k: ∀b o,d.s.heap.get? b=some o→h2.get? b=some o:=λb o e=>hx b o (UL (UN e)) e
   exact zF X A ts ⟨d.ρ,d.ξ,d.m,{d.s with heap:=h2,toks:=d.s.toks}⟩ lo h vs ws lo' h' Q (R.junk k) g4 e hQ
  |_=>exact ff q
theorem kU{t:Mine.E}{x:Lo×H}(e:asg ih f lo h v t=some x):bv t:=
 λy q=>by subst q;cases e
theorem rJ{env:Env}{x:Lo×H}: ∀r:Mine.E,gF ih f v r lo h=some x→(Va (dL r) env).map (·.2)=[]→r= .nil:=by
 refine lsE (λZ Z=>rfl) (λt r Z e hm=> ?_) (λZ q e Z=>gn q e)
 refine aw (e:ob (asg ih f lo h v t) _=some x) ?_
 clear e
 intro q2 h3 _
 rw[show dL (Mine.E.cons t r)=dE t::dL r from rfl,cL (kU h3)]at hm
 cases hm
theorem zG(X:Snd Γ n ih)(A:AOk c n): ∀(ts:Mine.E) (d:Dy) (lo:Lo) (h:H) (w:Value) (lo':Lo) (h':H) (Q:Unit→Shared→Prop),Rel Γ c d f lo h→VR d.ρ v w→gF ih f v ts lo h=some (lo',h')→
 (∀ρ' ξ' m' s',Ext d.ρ ρ'→Rel Γ c ⟨ρ',ξ',m',s'⟩ f lo' h'→Q () s')→wpAny Γ.M c.A (Vn w ((Va (dL ts) c.env).map (·.2))) Q E d.s:=by
 refine lsE ?_ ?_ ?_
 · intro d lo h w lo' h' Q R hv e hQ
   obtain⟨rfl,rfl⟩:=so2 (e:some (lo,h)=some (lo',h'))
   exact U8 (hQ _ _ _ _ (.refl _) R)
 · intro t r IH d lo h w lo' h' Q R hv e hQ
   refine aw (e:ob (asg ih f lo h v t) (λq=>gF ih f v r q.1 q.2)=some (lo',h')) ?_
   clear e
   intro q h1 e
   show wpAny Γ.M c.A (Vn w ((Va (dE t::dL r) c.env).map (·.2))) Q E d.s
   rw[cL (kU h1)]
   have rest:wpAny Γ.M c.A (do holding [w] (assign (dE t) c.env w);Vn w ((Va (dL r) c.env).map (·.2))) Q E d.s:=
    U7 (Uy (kT X A R hv h1 λρ1 ξ1 m1 s1 x1 R1=>IH ⟨ρ1,ξ1,m1,s1⟩ q.1 q.2 w lo' h' Q R1 (hv.ext x1) e λρ' ξ' m' s' x2 R'=>hQ _ _ _ _ (x1.trans x2) R'))
   cases hm:(Va (dL r) c.env).map (·.2)with
   |nil=>
    have:=rJ r e hm
    subst this
    obtain⟨rfl,rfl⟩:=so2 (e:some (q.1,q.2)=some (lo',h'))
    exact kT X A R hv h1 λρ1 ξ1 m1 s1 x1 R1=>hQ _ _ _ _ x1 R1
   |cons a l=>rw[hm]at rest;rw[UB,hm];exact rest
 · intro e q _ _ _ _ _ _ _ _ _ hv _;exact gn q hv
end
end
section
variable{Γ:Gl}{c:St0}{d:Dy}{f:Frm}{lo:Lo}{h:H}{n:Nat}{ih:Ih}
section
variable{E:Value→Shared→Prop}{v:V}{h':H}{p:Pos}{b:Bool}{Q:Flow→Shared→Prop}{lo':Lo}
theorem kW{e:Mine.E}{o:Option Expr}{l:Nat}{env:Env}(he:bv e)(q:bV e=false):swapsWith (dE e) o l env=pure false:=by
 cases e with
 |raw x=>exact absurd rfl (he x)
 |lcomp _ _ _ _ _ _ _=>cases q
 |dcomp _ _ _ _ _ _ _ _=>cases q
 |_=>rfl
theorem zH{e:Mine.E}{x:R3}(X:Snd Γ n ih)(A:AOk c n)(R:Rel Γ c d f lo h)(hv:(gd (bn (bV e)) (ob (ih.e f lo h e) λp=>some (Fl.next,lo,p.2)))=some x)(hQ:PostS Γ c d f x Q):
 wpAny Γ.M c.A (exec (dS (.expr e p)).1 c.env) Q E d.s:=by
 refine bB hv ?_
 clear hv
 intro h0 p1 h1 hv
 replace hQ:=hQ.so1 hv
 clear hv
 rw[bg]at h0
 refine wpAny_Expr_any (X.e c d f lo h e p1.1 p1.2 _ E A R h1 λρ1 ξ1 s1 w x1 R1 v1=>hQ _ _ _ _ _ x1 R1 rfl) ?_ (kW (X.nraw h1) (by simpa using h0))
 unfold interactive
 rw[R.nm.kind];rfl
theorem FI{e:Mine.E}{x:R3}(X:Snd Γ n ih)(A:AOk c n)(R:Rel Γ c d f lo h)(hv:(ob (ih.e f lo h e) λp=>some (Fl.ret p.1,lo,p.2))=some x)(hQ:PostS Γ c d f x Q):
 wpAny Γ.M c.A (exec (dS (.ret e p)).1 c.env) Q E d.s:=by
 refine aw hv ?_
 clear hv
 intro p1 h1 hv
 replace hQ:=hQ.so1 hv
 clear hv
 exact wpAny_Return_some (X.e c d f lo h e p1.1 p1.2 _ E A R h1 λρ1 ξ1 s1 w x1 R1 v1=>hQ _ _ _ _ _ x1 R1 ⟨w,rfl,v1⟩)
theorem ML{t:Mine.E}{a b:S}{x:R3}(X:Snd Γ n ih)(A:AOk c n)(R:Rel Γ c d f lo h)(hv:ifS ih f lo h t a b=some x)(hQ:PostS Γ c d f x Q):
 wpAny Γ.M c.A (exec (dS (.if_ t a b p)).1 c.env) Q E d.s:=by
 refine aw hv ?_
 clear hv
 intro p1 h1 hv
 refine wpAny_If (X.t c d f lo h t p1.1 p1.2 _ E A R h1 λρ1 ξ1 s1 x1 R1=> ?_)
 have after:PostS Γ c ⟨ρ1,ξ1,d.m,s1⟩ f x Q:=λρ2 ξ2 m2 s2 fl e R2 hf=>hQ ρ2 ξ2 m2 s2 fl (x1.trans e) R2 hf
 rcases bO hv with qA|qA
 · refine ae qA ?_
   clear qA
   intro q hv
   rw[q,if_pos rfl];exact X.s c ⟨ρ1,ξ1,d.m,s1⟩ f lo p1.2 a x _ E A R1 hv after
 · refine ae qA ?_
   clear qA
   intro q hv
   rw[q,if_neg (by decide)];exact X.s c ⟨ρ1,ξ1,d.m,s1⟩ f lo p1.2 b x _ E A R1 hv after
theorem FJ(G:GOk Γ){x:Str}{px:Pos}{op:Vs}{e:Mine.E}{y:R3}(X:Snd Γ n ih)(A:AOk c n)(R:Rel Γ c d f lo h)(hv:Fj ih f lo h x op e=some y)(hQ:PostS Γ c d f y Q):
 wpAny Γ.M c.A (exec (dS (.aug x px op e p)).1 c.env) Q E d.s:=by
 refine bB hv ?_
 clear hv
 intro h0 a h1 hvX
 refine aB hvX ?_
 clear hvX
 intro p1 h2 i h3 j h4 hvX
 refine aR hvX ?_
 clear hvX
 intro z h5 q h6 hv
 replace hQ:=hQ.so1 hv
 clear hv
 refine wpAny_AugAssign_Name (nH G (x:=sT x) R h1 λw hw=> ?_)
 refine X.e c d f lo h e p1.1 p1.2 _ E A R h2 λρ1 ξ1 s1 w1 x1 R1 v1=> ?_
 rw[aq h3]at hw
 rw[aq h4]at v1
 refine el_EL hw ?_
 clear hw
 rintro t rfl
 refine el_EL v1 ?_
 clear v1
 rintro u rfl
 have fin: ∀t',wpAny Γ.M c.A (storeName c.env x (.int z t')) (λZ=>Q .next) E {s1 with toks:=t'+1}:=λt'=>
  eW (d:=⟨ρ1,ξ1,d.m,{s1 with toks:=t'+1}⟩) (x:=sT x) (R1.tok _) (v:= .int z) ⟨t',rfl⟩ h6 λm' s' R'=>hQ _ _ _ _ _ x1 R' rfl
 have ho:op= .Add∨op= .BitXor:=by
  cases q:dR 0 op with
  |true=>exact .inl (rx q)
  |false=>
   rw[q]at h0
   have:=eu (h0:dR 10 op=true)
   cases op<;>first|exact .inr rfl|(exfalso;revert this;decide)
 rcases ho with rfl|rfl
 · cases h5;exact AutoIntOps.iadd_0 (fin _)
 · refine el_EEAAL (bC h5) ?_
   rintro x' y' rfl rfl hz
   obtain rfl:=Ud hz
   exact PyProof.Rows.ixor_int (by rw[show Builtin.bitXor (Int.ofNat x') (Int.ofNat y')=_ from nI x' y'];exact fin _)
inductive WInv (Γ:Gl) (c:St0) (f:Frm) (ρ0:List Addr) (G:Lo→H→Prop) (s:Shared):Prop
 |mk {ρ:List Addr} {ξ:List (Addr×Obj)} {mm:Str→Option Value} {lo:Lo} {h:H}:Ext ρ0 ρ→Rel Γ c ⟨ρ,ξ,mm,s⟩ f lo h→G lo h→WInv Γ c f ρ0 G s
theorem uA{t:Mine.E}{b:S}{x:R3}(X:Snd Γ n ih)(A:AOk c n)(R:Rel Γ c d f lo h)(hv:et ih f t b 200 lo h=some x)(hQ:PostS Γ c d f x Q):
 wpAny Γ.M c.A (exec (dS (.while_ t b p)).1 c.env) Q E d.s:=by
 refine wpAny_While ?_
 refine codeAny_whileLoop (λm=>WInv Γ c f d.ρ λlo h=>et ih f t b m lo h=some x) (λm s hI=> ?_) 200 (.mk (.refl _) R hv)
 cases hI with| @mk ρ ξ mm lo h x0 R hv=>
 cases m with
 |zero=>exact nn hv
 |succ m=>
  refine aw (hv:ob (ih.t f lo h t) (λp=>bc p.1 (ob (ih.s f lo p.2 b) λx=>kC x (et ih f t b m)) (some (.next,lo,p.2)))=some x) ?_
  clear hv
  intro p1 h1 hv
  refine X.t c ⟨ρ,ξ,mm,s⟩ f lo h t p1.1 p1.2 _ _ A R h1 λρ1 ξ1 s1 x1 R1=> ?_
  rcases bO hv with qA|qA
  · refine ae qA ?_
    clear qA
    intro q hv
    rw[q,if_pos rfl]
    refine oJ hv ?_
    clear hv
    intro fl lo2 h2 h3 hv
    refine X.s c ⟨ρ1,ξ1,mm,s1⟩ f lo p1.2 b (fl,lo2,h2) _ _ A R1 h3 λρ2 ξ2 m2 s2 g x2 R2 hf=> ?_
    have xx:=(x0.trans x1).trans x2
    cases fl with
    |next=>cases hf;exact⟨m,TZ m,.mk xx R2 hv⟩
    |cont=>cases hf;exact⟨m,TZ m,.mk xx R2 hv⟩
    |brk=>cases hf;cases(hv:some (Fl.next,lo2,h2)=some x);exact hQ _ _ _ _ _ xx R2 rfl
    |ret v=>obtain⟨w,rfl,hw⟩:=hf;cases(hv:some (Fl.ret v,lo2,h2)=some x);exact hQ _ _ _ _ _ xx R2 ⟨w,rfl,hw⟩
  · refine ae qA ?_
    clear qA
    intro q hv
    obtain rfl:=Ud hv
    rw[q,if_neg (by decide)]
    exact Uo (hQ _ _ _ _ _ (x0.trans x1) R1 rfl)
theorem Rel.keep(R:Rel Γ c d f lo h){a:Addr}{o:Obj}(h1:d.s.heap.get? a=some o)(h2:c.h₀.get? a=none)(h3:a≠c.L)(h4:a∉d.ρ):Rel Γ {c with kept:=(a,o)::c.kept} ⟨d.ρ,(a,o)::d.ξ,d.m,d.s⟩ f lo h:=by
 have Y:=R.led
 have N:=R.nm
 refine⟨R.fr,R.gb,R.bl,⟨Y.len,Y.nd,λk x o' hx ho=> ?_,Y.new,λp hp=> ?_⟩,⟨N.kind,N.glob,N.blt,N.dbg,N.lv,N.inj,N.lov,N.cv,N.gv,N.kv,N.cd,N.ql⟩,R.os,R.gens,λp hp=> ?_,R.gk⟩
 · refine el_EAL (Y.obj k x o' hx ho) ?_
   intro b i1 i2
   exact⟨b,i1,i2.frz λp hp=> .tail _ hp⟩
 · rcases Uz.mp hp with rfl|hp
   · exact⟨h1,h2,h3,h4⟩
   · exact Y.frz p hp
 · rcases Uz.mp hp with rfl|hp
   · exact .head _
   · exact .tail _ (R.kp p hp)
theorem Rel.unkeep{a:Addr}{o:Obj}(R:Rel Γ {c with kept:=(a,o)::c.kept} d f lo h)(hc: ∀vs q tk,o.data= .fields vs→vs[1]? ≠some (.str q tk))(hk: ∀p∈c.kept,p.1≠a){h2:Heap}{t:Nat}(hs: ∀b ob,b≠a→d.s.heap.get? b=some ob→h2.get? b=some ob):
 Rel Γ c ⟨d.ρ,d.ξ.filter (λp=> !(p.1==a)),d.m,{d.s with heap:=h2,toks:=t}⟩ f lo h:=by
 have Y:=R.led
 have N:=R.nm
 have A:=Y.frz _ (R.kp _ (.head _))
 refine aD A ?_
 clear A
 intro A1 A2 A3 A4
 refine⟨⟨?_,λb o e=>hs b o (λq=>by rw[q]at e;rw[e]at A2;cases A2) (R.fr.keep b o e),R.fr.above⟩,R.gb,R.bl,⟨Y.len,Y.nd,λk x o' hx ho=> ?_,Y.new,λp hp=> ?_⟩,⟨N.kind,N.glob,N.blt,N.dbg,N.lv,N.inj,N.lov,N.cv,N.gv,N.kv,N.cd,N.ql⟩,R.os,R.gens,λp hp=> ?_,R.gk⟩
 · refine el_EEEAL R.fr.ns ?_
   intro oL es ep e1 e2
   exact⟨oL,es,ep,hs _ _ (Ne.symm A3) e1,e2⟩
 · refine el_EAL (Y.obj k x o' hx ho) ?_
   intro b i1 i2
   refine⟨b,hs _ _ (λq=>A4 (q▸Tq hx)) i1,?_⟩
   cases o' with
   |ltab=>
    refine⟨i2.1,i2.2.imp id λ⟨p,hp,q⟩=>⟨p,Ug.mpr ⟨hp,?_⟩,q⟩⟩
    have hc2:=Γ.lamc _ _ _ q
    cases z:p.1==a with
    |false=>rfl
    |true=>
     have z:=eq_of_beq z
     have:=(Y.frz p hp).1
     rw[z,A1]at this
     cases this
     refine el_EEEAL hc2 ?_
     clear hc2
     intro vs q' tk e1 e2
     exact absurd e2 (hc vs q' tk e1)
   |_=>exact i2
 · refine ae (Ug.mp hp) ?_
   intro p1 p2
   have:=Y.frz p p1
   refine⟨hs _ _ (λq=> ?_) this.1,this.2⟩
   rw[q]at p2;simp at p2
 · refine Ug.mpr ⟨R.kp p (.tail _ hp),?_⟩
   have:=hk p hp
   simpa using this
end
end
section
variable{Γ:Gl}{c:St0}{d:Dy}{f:Frm}{lo:Lo}{h:H}{n:Nat}{ih:Ih}
def kX(x:T):String:=if(mkS x).cps.all (· <128)=true then "str_ascii_iterator" else "str_iterator"
def ItO(ρ:List Addr)(i:Nat)(o:Obj):Src→Prop
 | .ls k=> ∃l,ρ[k]? =some l∧o.cls= .type "list_iterator"∧o.data= .fields #[.ref l,.int i 0]
 | .rg a b=>o={cls:= .type "range_iterator",dict:=none,data:= .fields #[rawInt (a+i),rawInt (S9 a b 1-i),rawInt 1],slots:= #[]}
 | .st x=> ∃t,o.cls= .type (kX x)∧o.data= .fields #[.str (mkS x) t,.int i 0]
theorem ItO.ext{ρ ρ':List Addr}(x:Ext ρ ρ'){i:Nat}{o:Obj}{s:Src}(e:ItO ρ i o s):ItO ρ' i o s:=by
 cases s with
 |ls k=>obtain⟨l,a,b⟩:=e;exact⟨l,x.get a,b⟩
 |_=>exact e
theorem ItO.cls{ρ:List Addr}{i:Nat}{o:Obj}{s:Src}(e:ItO ρ i o s): ∃t,o.cls= .type t∧t≠"code"∧(["enumerate","zip","dict_itemiterator","dict_reverseitemiterator","odict_iterator","itertools.zip_longest","itertools.pairwise"]:List String).contains t=false:=by
 cases s with
 |ls k=>obtain⟨l,_,a,_⟩:=e;exact⟨_,a,by decide,by decide⟩
 |rg a b=>cases e;exact⟨_,rfl,by decide,by decide⟩
 |st x=>
  refine el_EAL e ?_
  clear e
  intro t a _
  refine⟨_,a,?_,?_⟩<;> · unfold kX;split<;>decide
theorem ItO.nc{ρ:List Addr}{i:Nat}{o:Obj}{s:Src}(e:ItO ρ i o s): ∀vs q tk,o.data= .fields vs→vs[1]? ≠some (.str q tk):=by
 intro vs q tk h
 cases s with
 |ls k=>obtain⟨l,_,_,a⟩:=e;rw[a]at h;cases h;intro z;cases z
 |rg a b=>cases e;cases h;intro z;cases z
 |st x=>obtain⟨t,_,a⟩:=e;rw[a]at h;cases h;intro z;cases z
structure OffA(c:St0)(d:Dy)(a:Addr):Prop where
 b:c.h₀.get? a=none
 l:a≠c.L
 r:a∉d.ρ
 x: ∀p∈d.ξ,p.1≠a
theorem Rel.off(R:Rel Γ c d f lo h){a:Addr}(O:OffA c d a){h2:Heap}{t:Nat}(hs: ∀b ob,b≠a→d.s.heap.get? b=some ob→h2.get? b=some ob):Rel Γ c ⟨d.ρ,d.ξ,d.m,{d.s with heap:=h2,toks:=t}⟩ f lo h:=by
 have Y:=R.led
 have N:=R.nm
 refine⟨⟨?_,λb o e=>hs b o (λq=>by rw[q,O.b]at e;cases e) (R.fr.keep b o e),R.fr.above⟩,R.gb,R.bl,⟨Y.len,Y.nd,λk x o' hx ho=> ?_,Y.new,λp hp=> ?_⟩,⟨N.kind,N.glob,N.blt,N.dbg,N.lv,N.inj,N.lov,N.cv,N.gv,N.kv,N.cd,N.ql⟩,R.os,R.gens,R.kp,R.gk⟩
 · refine el_EEEAL R.fr.ns ?_
   intro oL es ep e1 e2
   exact⟨oL,es,ep,hs _ _ (Ne.symm O.l) e1,e2⟩
 · refine el_EAL (Y.obj k x o' hx ho) ?_
   intro b i1 i2
   exact⟨b,hs _ _ (λq=>O.r (q▸Tq hx)) i1,i2⟩
 · have:=Y.frz p hp
   exact⟨hs _ _ (O.x p hp) this.1,this.2⟩
theorem Rel.fresh(R:Rel Γ c d f lo h){a:Addr}(ha:d.s.heap.objs.size≤a):OffA c d a:=
 have below: ∀{b:Addr} {o:Obj},d.s.heap.get? b=some o→b≠a:=λe q=>Nat.lt_irrefl _ (TH (UN e) (q▸ha))
 ⟨by
  cases q:c.h₀.get? a with
  |none=>rfl
  |some o=>exact absurd rfl (below (R.fr.keep _ _ q)),λq=>by
  refine el_EEEAL R.fr.ns ?_
  intro oL _ _ hL _
  exact below hL q.symm,λq=>Nat.lt_irrefl _ (TH (R.led.lt q) ha),λp hp=>below (R.led.frz p hp).1⟩
section
variable{E:Value→Shared→Prop}{v:V}{h':H}{p:Pos}{b:Bool}
theorem zI{i:Int}(a:Int.negSucc 1099511627775<i)(b:i<Int.ofNat 1099511627776):S0 i=true:=by
 unfold S0
 rw[Ub,decide_eq_true_eq,decide_eq_true_eq]
 exact⟨UT (by decide) (Int.le_of_lt a),Int.lt_trans b (by decide)⟩
theorem FK{x y:Int}{i:Nat}(h: ¬x+(i:Int)<y):(if x<y then y-x else 0)-(i:Int)≤0:=by
 split
 · exact Int.sub_nonpos_of_le (Int.sub_left_le_of_le_add (Int.not_lt.mp h))
 · exact Int.sub_nonpos_of_le (TG i)
theorem MM{x y:Int}{i:Nat}(h:x+(i:Int)<y):0<(if x<y then y-x else 0)-(i:Int):=by
 rw[if_pos (Int.lt_of_le_of_lt (Int.le_add_of_nonneg_right (TG i)) h)]
 exact Int.sub_pos_of_lt (Int.lt_sub_left_of_add_lt h)
theorem MN(x:Int)(i:Nat):x+(i:Int)+1=x+((i+1:Nat):Int):=Int.add_assoc _ _ _
theorem FL(x:Int)(i:Nat):x-(i:Int)-1=x-((i+1:Nat):Int):=Int.sub_sub _ _ _
theorem gt(a b:Int):S9 a b 1=if a<b then b-a else 0:=by
 unfold S9
 rw[if_pos (by decide)]
 split
 · rw[Int.ediv_one,Int.sub_add_cancel]
 · rfl
theorem uB{x y:Int}(h2:Int.negSucc 1099511627775<x)(h3:x<Int.ofNat 1099511627776)(h4:Int.negSucc 1099511627775<y)(h5:y<Int.ofNat 1099511627776):Builtin.Range.small x y 1=true:=by
 have fl: ∀i:Int,-9223372036854775808≤i→i<9223372036854775808→S0 i=true:=λi a b=>by
  unfold S0
  rw[Ub,decide_eq_true_eq,decide_eq_true_eq]
  exact⟨a,b⟩
 unfold Builtin.Range.small
 have s1: -9223372036854775808≤S9 x y 1:=by
  rw[gt];split
  · exact UT (by decide) (Int.sub_nonneg_of_le (Int.le_of_lt (by assumption)))
  · decide
 have s2:S9 x y 1<9223372036854775808:=by
  rw[gt];split
  · exact Int.lt_trans (Int.sub_lt_sub h5 h2) (by decide)
  · decide
 rw[zI h2 h3,zI h4 h5,fl 1 (by decide) (by decide),fl _ s1 s2,if_pos (by decide),show y+((1:Int)-1)=y from Int.add_zero y,zI h4 h5,Bool.or_true]
 rfl
theorem mB{Q:Value→Shared→Prop}{w:Value}{src:Src}(R:Rel Γ c d f lo h)(hv:VR d.ρ v w)(e:qR h v=some src)
 (hQ: ∀a s' o,Rel Γ c ⟨d.ρ,d.ξ,d.m,s'⟩ f lo h→OffA c ⟨d.ρ,d.ξ,d.m,s'⟩ a→s'.heap.get? a=some o→ItO d.ρ 0 o src→Q (.ref a) s'):wpAny Γ.M c.A (pyIter w) Q E d.s:=by
 have fin: ∀o:Obj,o.isFreed=false→ItO d.ρ 0 o src→Q (.ref d.s.heap.objs.size) {d.s with heap:=d.s.heap.push o}:=λo hf hi=>
  have O:=R.fresh (UY d.s.heap.objs.size)
  hQ _ _ o (R.junk (t:=d.s.toks) λZ Z e=>Tf _ e) ⟨O.b,O.l,O.r,O.x⟩ (Tz _ hf) hi
 cases v with
 |str x=>
  obtain rfl:=Ud (e:some (Src.st x)=some src)
  refine el_EL hv ?_
  clear hv
  rintro t rfl
  cases q:(mkS x).cps.all (· <128)with
  |true=>exact wpAny_pyIter_ascii q (fin _ rfl ⟨t,by unfold kX;rw[if_pos q],rfl⟩)
  |false=>exact wpAny_pyIter_wide q (fin _ rfl ⟨t,by unfold kX;rw[if_neg (by rw[q];decide)],rfl⟩)
 |loc k=>
  refine aw (e:ob (nth h k) _=some src) ?_
  clear e
  intro o h1 e
  rw[ap]at h1
  refine el_EAL hv ?_
  clear hv
  rintro a q1 rfl
  cases o with
  |list xs=>
   obtain rfl:=Ud (e:some (Src.ls k)=some src)
   refine el_EEEAAL (bh R h1) ?_
   intro a' vs j e1 e2 e3
   rw[q1]at e1
   obtain rfl:=Ud e1
   exact wpAny_pyIter_list (aG e2) (fin _ rfl ⟨a,q1,rfl,rfl⟩)
  |rng x y=>
   refine aW (e:gd (iLt (.negSucc 1099511627775) x) _=some src) ?_
   clear e
   intro h2 h3 hvX
   refine aW hvX ?_
   clear hvX
   intro h4 h5 e
   obtain rfl:=Ud e
   rw[cu]at h2 h3 h4 h5
   refine el_EEAAL (R.led.at h1) ?_
   intro a' b g1 g2 qX
   refine el_EEEL qX ?_
   clear qX
   rintro t u w rfl
   rw[q1]at g1
   obtain rfl:=Ud g1
   refine wpAny_pyIter_range g2 ?_ (fin _ rfl ?_)
   · exact uB h2 h3 h4 h5
   · show _=_
     simp
  |_=>exact nn e
 |_=>exact nn e
theorem jK{Q:Option Value→Shared→Prop}{src:Src}{i:Nat}{r:Option V}{a:Addr}{o:Obj}(A:AOk c n)(R:Rel Γ c d f lo h)(O:OffA c d a)(ho:d.s.heap.get? a=some o)(hi:ItO d.ρ i o src)(e:fC h src i=some r)
 (hN:r=none→ ∀s',Rel Γ c ⟨d.ρ,d.ξ,d.m,s'⟩ f lo h→Q none s')
 (hS: ∀v,r=some v→ ∀w s' o',VR d.ρ v w→Rel Γ c ⟨d.ρ,d.ξ,d.m,s'⟩ f lo h→s'.heap.get? a=some o'→ItO d.ρ (i+1) o' src→Q (some w) s'):wpAny Γ.M c.A (pyNext (.ref a)) Q E d.s:=by
 cases src with
 |ls k=>
  refine aw (e:ob (aL h k) (λxs=>some (nth xs i))=some r) ?_
  clear e
  intro xs h1 e
  obtain rfl:=Ud e
  refine el_EAAL hi ?_
  clear hi
  intro l j1 j2 j3
  refine el_EEEAAL (bh R (av h1)) ?_
  intro a' vs j e1 e2 e3
  rw[j1]at e1
  obtain rfl:=Ud e1
  rw[ap]at hN hS
  cases q:xs[i]? with
  |none=>
   refine wpAny_pyNext_list_end A.hd ⟨o,ho,j2,j3⟩ (aG e2) (by simpa using e3.none_of q) λh2 hx=> ?_
   exact hN q _ (R.off (t:=d.s.toks) O λb ob hb e=>hx b ob hb e)
  |some v=>
   refine el_EAL (e3.get q) ?_
   intro w w1 w2
   refine wpAny_pyNext_list_item ⟨o,ho,j2,j3⟩ (aG e2) (x:=w) (by simpa using w1) λh2 hn hx=> ?_
   refine el_EAAL hn ?_
   clear hn
   intro o' ho' c1 c2
   exact hS v q w _ o' w2 (R.off (t:=d.s.toks) O λb ob hb e=>(hx.2 b hb).trans e) ho' ⟨l,j1,c1,c2⟩
 |rg x y=>
  obtain rfl:=Ud (e:some (gd (iLt (Int.add x (.ofNat i)) y) (some (V.int (Int.add x (.ofNat i)))))=some r)
  have hi:IsRangeIter d.s.heap a (x+i) (S9 x y 1-i) 1:=by rw[show o=_ from hi]at ho;exact ho
  cases q:iLt (Int.add x (.ofNat i)) y with
  |false=>
   have q2: ¬(x+(i:Int)<y):=λz=>by rw[show iLt (Int.add x (.ofNat i)) y=true from(cu _ _).mpr z]at q;cases q
   refine wpAny_pyNext_range_end A.hd hi (by rw[gt];exact FK q2) λh2 hx=> ?_
   exact hN (by rw[q];rfl) _ (R.off (t:=d.s.toks) O λb ob hb e=>hx b ob hb e)
  |true=>
   have q2:x+(i:Int)<y:=(cu _ _).mp q
   refine wpAny_pyNext_range_item hi (by rw[gt];exact MM q2) λh2 hn hx=> ?_
   refine hS (.int (x+(i:Int))) (by rw[q];rfl) _ _ _ ⟨_,rfl⟩ (R.off (t:=d.s.toks+1) O λb ob hb e=>(hx.2 b hb).trans e) hn ?_
   show _=_
   rw[MN,FL]
 |st x=>
  obtain rfl:=Ud (e:some (ob (nth x i) λch=>some (V.str [ch]))=some r)
  refine el_EAL hi ?_
  clear hi
  intro t j1 j2
  have get: ∀ch,x[i]? =some ch→(mkS x).cps[i]? =some ch:=λch e=>by show(x.toArray)[i]? =_;simpa using e
  have getN:x[i]? =none→(mkS x).cps[i]? =none:=λe=>by show(x.toArray)[i]? =_;simpa using e
  rw[ap]at hN hS
  cases q:(mkS x).cps.all (· <128)with
  |true=>
   have ty:kX x="str_ascii_iterator":=by unfold kX;rw[if_pos q]
   rw[ty]at j1
   cases z:x[i]? with
   |none=>
    refine wpAny_pyNext_ascii_end A.hd ⟨o,ho,j1,j2⟩ (getN z) λh2 hx=> ?_
    exact hN (by rw[z]) _ (R.off (t:=d.s.toks) O λb ob hb e=>hx b ob hb e)
   |some ch=>
    refine wpAny_pyNext_ascii_item ⟨o,ho,j1,j2⟩ (get ch z) λh2 hn hx=> ?_
    refine el_EAAL hn ?_
    clear hn
    intro o' ho' c1 c2
    exact hS (.str [ch]) (by rw[z]) _ _ o' ⟨_,rfl⟩ (R.off (t:=d.s.toks+1) O λb ob hb e=>(hx.2 b hb).trans e) ho' ⟨t,by rw[ty];exact c1,c2⟩
  |false=>
   have ty:kX x="str_iterator":=by unfold kX;rw[if_neg (by rw[q];decide)]
   rw[ty]at j1
   cases z:x[i]? with
   |none=>
    refine wpAny_pyNext_wide_end A.hd ⟨o,ho,j1,j2⟩ (getN z) λh2 hx=> ?_
    exact hN (by rw[z]) _ (R.off (t:=d.s.toks) O λb ob hb e=>hx b ob hb e)
   |some ch=>
    refine wpAny_pyNext_wide_item ⟨o,ho,j1,j2⟩ (get ch z) λh2 hn hx=> ?_
    refine el_EAAL hn ?_
    clear hn
    intro o' ho' c1 c2
    exact hS (.str [ch]) (by rw[z]) _ _ o' ⟨_,rfl⟩ (R.off (t:=d.s.toks+1) O λb ob hb e=>(hx.2 b hb).trans e) ho' ⟨t,by rw[ty];exact c1,c2⟩
end
end
section
variable{Γ:Gl}{c:St0}{d:Dy}{f:Frm}{lo:Lo}{h:H}{n:Nat}{ih:Ih}
section
variable{E:Value→Shared→Prop}{v:V}{h':H}{p:Pos}{b:Bool}
theorem gP{M:Model}{A:Around}{s:Shared}{Q:Unit→Shared→Prop}{t:Expr}{w:Value}{ρ:List Addr}{i:Nat}{o:Obj}{src:Src}{a:Addr}(ho:s.heap.get? a=some o)(hi:ItO ρ i o src)(hQ:Q () s):
 wpAny M A (letOwnedTupleGo t (.ref a) w) Q E s:=by
 refine el_EAAL hi.cls ?_
 intro ty h1 _ h2
 have go:wpAny M A (do
  let (.ref r,.ref a):=(Value.ref a,w)|return
  let o←load r
  match o.cls,o.data with
  | .type n,.fields vs=>
   if["enumerate","zip","dict_itemiterator","dict_reverseitemiterator","odict_iterator","itertools.zip_longest","itertools.pairwise"].contains n&&vs[0]? ==some (rawInt a)then
    rule "for.unpacks-the-owned-tuple"
    updateField r 0 .none
  |_,_=>pure ():Sem Unit) Q E s:=by
  cases w with
  |ref b=>
   refine U7 (wpAny_load ho ?_)
   rw[h1]
   cases o.data with
   |fields vs=>
    show wpAny M A (if(_&&_)=true then _ else _) Q E s
    rw[h2,Bool.false_and,if_neg (by decide)]
    exact U8 hQ
   |_=>exact U8 hQ
  |_=>exact U8 hQ
 cases t with
 |Tuple _ _ _=>exact go
 |List _ _=>exact go
 |_=>exact U8 hQ
theorem nL{e:Mine.E}(he:bv e)(q:gm e=false)(env:Env)(x:Value):foldedSetIterable (dE e) env x=pure x:=by
 cases e with
 |raw x=>exact absurd rfl (he x)
 |set1 _ _ _ _ _ _=>cases q
 |_=>rfl
theorem AOk.kept(A:AOk c n)(k:List (Addr×Obj)):AOk {c with kept:=k} n:=⟨A.fr,A.ff,A.fk,A.hd,A.dp,A.un⟩
variable{Q:Flow→Shared→Prop}
inductive LInv (Γ:Gl) (c:St0) (f:Frm) (ρ0:List Addr) (a:Addr) (src:Src) (G:Lo→H→Nat→Prop) (s:Shared):Prop
 |mk {ρ:List Addr} {ξ:List (Addr×Obj)} {mm:Str→Option Value} {lo:Lo} {h:H} {i:Nat} {o':Obj}:Ext ρ0 ρ→Rel Γ c ⟨ρ,ξ,mm,s⟩ f lo h→OffA c ⟨ρ,ξ,mm,s⟩ a→s.heap.get? a=some o'→ItO ρ i o' src→G lo h i→LInv Γ c f ρ0 a src G s
theorem FM{t it:Mine.E}{b o:S}{x:R3}(X:Snd Γ n ih)(A:AOk c n)(R:Rel Γ c d f lo h)(hv:E9 ih f lo h t it b o=some x)(hQ:PostS Γ c d f x Q):
 wpAny Γ.M c.A (exec (dS (.for_ t it b o p)).1 c.env) Q E d.s:=by
 refine bB hv ?_
 clear hv
 intro h0 p1 h1 hvX
 refine aw hvX ?_
 clear hvX
 intro src h2 hv
 rw[bg]at h0
 refine wpAny_For ?_ (nL (X.nraw h1) (by simpa using h0) _)
 refine X.e c d f lo h it p1.1 p1.2 _ E A R h1 λρ1 ξ1 s1 w x1 R1 v1=> ?_
 refine mB (d:=⟨ρ1,ξ1,d.m,s1⟩) R1 v1 h2 λa s2 ob R2 O2 ho2 hi2=> ?_
 refine codeAny_forLoop_any (λm=>LInv Γ c f d.ρ a src λlo h i=>forLoop ih f t b o src m lo h i=some x) (λm s hI=> ?_) 200 (.mk x1 R2 O2 ho2 hi2 hv)
 cases hI with| @mk ρ ξ mm lo h i o' x0 R O ho hi hv=>
 cases m with
 |zero=>exact nn hv
 |succ m=>
  refine aw (hv:Mine.ob (fC h src i) (λv=> @U9 V (λZ=>Option R3) (ih.s f lo h o) (λv=>Mine.ob (asg ih f lo h v t) λq=>Mine.ob (ih.s f q.1 q.2 b) λx=>kC x λlo2 h2=>forLoop ih f t b o src m lo2 h2 (Nat.succ i)) v)=some x) ?_
  clear hv
  intro r h3 hv
  refine jK A R O ho hi h3 (λhr s3 R3=> ?_) λv hr w s3 o3 v3 R3 ho3 hi3=> ?_
  · subst hr
    exact X.s c ⟨ρ,ξ,mm,s3⟩ f lo h o x _ _ A R3 hv λρ4 ξ4 m4 s4 fl x4 R4 hf=>hQ ρ4 ξ4 m4 s4 fl (x0.trans x4) R4 hf
  · subst hr
    refine cW hv ?_
    clear hv
    intro lo4 h4 k1 hvX
    refine oJ hvX ?_
    clear hvX
    intro fl lo5 h5 k2 hv
    refine gP ho3 hi3 ?_
    have Rk:=R3.keep ho3 O.b O.l O.r
    refine kT (c:={c with kept:=(a,o3)::c.kept}) (d:=⟨ρ,(a,o3)::ξ,mm,s3⟩) X (A.kept _) Rk v3 k1 λρ4 ξ4 m4 s4 x4 R4=> ?_
    refine X.s {c with kept:=(a,o3)::c.kept} ⟨ρ4,ξ4,m4,s4⟩ f lo4 h4 b (fl,lo5,h5) _ _ (A.kept _) R4 k2 λρ5 ξ5 m5 s5 g x5 R5 hf=> ?_
    have xx:=(x0.trans x4).trans x5
    have kk: ∀p∈c.kept,p.1≠a:=λp hp=>O.x p (R.kp p hp)
    refine el_EAAL hi3.cls ?_
    intro ty hc1 hc2 _
    have hc:=hi3.nc
    have R6:Rel Γ c ⟨ρ5,ξ5.filter (λp=> !(p.1==a)),m5,s5⟩ f lo5 h5:=R5.unkeep (t:=s5.toks) hc kk λb ob Z e=>e
    refine aD (R5.led.frz _ (R5.kp _ (.head _))) ?_
    intro f1 f2 f3 f4
    have O6:OffA c ⟨ρ5,ξ5.filter (λp=> !(p.1==a)),m5,s5⟩ a:=⟨f2,f3,f4,λp hp=>by
     refine ae (Ug.mp hp) ?_
     intro _ p2
     intro e;rw[e]at p2;simp at p2⟩
    cases fl with
    |next=>cases hf;exact⟨m,TZ m,.mk xx R6 O6 f1 ((hi3.ext x4).ext x5) hv⟩
    |cont=>cases hf;exact⟨m,TZ m,.mk xx R6 O6 f1 ((hi3.ext x4).ext x5) hv⟩
    |brk=>cases hf;cases(hv:some (Fl.next,lo5,h5)=some x);exact hQ _ _ _ _ _ xx R6 rfl
    |ret v=>obtain⟨w,rfl,hw⟩:=hf;cases(hv:some (Fl.ret v,lo5,h5)=some x);exact hQ _ _ _ _ _ xx R6 ⟨w,rfl,hw⟩
end
end
section
variable{Γ:Gl}{c:St0}{d:Dy}{f:Frm}{lo:Lo}{h:H}{n:Nat}{ih:Ih}
section
variable{E:Value→Shared→Prop}{v:V}{h':H}{p:Pos}{b:Bool}{Q:Flow→Shared→Prop}{lo':Lo}
noncomputable def jL(x:Expr):Bool:=match x with| .Tuple .. =>true|_=>false
theorem oT{e:Mine.E}(he:bv e):jL (dE e)=cP e:=by
 cases e<;>first|rfl|exact absurd rfl (he _)
theorem zJ{ts:List Expr}{k:Nat}{p:Pos}{env:Env}(x:Expr)(h:jL x=false):UC [.Tuple ts k p] x env=pure none:=by
 cases x<;>first|rfl|exact nomatch h
theorem zK{ts:List Expr}{p:Pos}{env:Env}(x:Expr)(h:jL x=false):UC [.List ts p] x env=pure none:=by
 cases x<;>first|rfl|exact nomatch h
theorem ym{x:Expr}(h:jL x=false)(l:List Expr)(env:Env):UC l x env=pure none:=by
 cases l with
 |nil=>rfl
 |cons a r=>cases a<;>first|rfl|(cases r<;>first|rfl|exact zJ x h|exact zK x h)
theorem iF{e:Mine.E}(he:bv e)(q:cP e=false)(l:List Expr)(env:Env):UC l (dE e) env=pure none:=ym ((oT he).trans q) _ _
theorem iG{t:Mine.E}{r:List Expr}{x:Lo×H}(e:bG ih f lo h v t=some x)(w:Expr)(env:Env):UC (dE t::r) w env=pure none:=by
 rcases du (lo':=x.1) (h':=x.2) e with⟨y,p,rfl⟩|⟨o,y,p,rfl⟩|⟨o,i,p,rfl⟩<;>cases r<;>rfl
theorem mC{P:Mine.E→Prop}(a: ∀ts k p,P (.tup ts k p)): ∀t,cP t=true→P t:=λt=>by
 cases t<;>first|exact λZ=>a _ _ _|exact λq=>nomatch q
theorem fV{P:Mine.E→Prop}(k: ∀a b c d e f g,P (.lcomp a b c d e f g))(l: ∀a b c d e f g h,P (.dcomp a b c d e f g h)): ∀t,bV t=true→P t:=λt=>by
 cases t<;>first|exact λZ=>k _ _ _ _ _ _ _|exact λZ=>l _ _ _ _ _ _ _ _|exact λq=>nomatch q
theorem oU{t:Mine.E}{x:Lo×H}(e:asg ih f lo h v t=some x):(∃x p,t= .nm x p)∨(∃o x p,t= .attr o x p)∨(∃o i p,t= .sub o i p)∨ ∃ts k p,t= .tup ts k p:=by
 cases q:cP t with
 |true=>exact .inr (.inr (.inr (mC (P:=λt=> ∃ts k p,t= .tup ts k p) (λZ Z Z=>⟨_,_,_,rfl⟩) t q)))
 |false=>
  rw[gO q]at e
  rcases du (lo':=x.1) (h':=x.2) e with h|h|h
  · exact .inl h
  · exact .inr (.inl h)
  · exact .inr (.inr (.inl h))
theorem oV{e ts:Mine.E}{x:Lo×H}(he:bv e)(g:bc (cP e) (ya ts) true=true)(a:gF ih f v ts lo h=some x)(env:Env):UC (dL ts) (dE e) env=pure none:=by
 cases q:cP e with
 |false=>exact iF he q _ _
 |true=>
  rw[q]at g
  cases ts with
  |nil=>rfl
  |cons t r=>
   have g:bn (cP t)=true:=g
   rw[bg]at g
   refine aw (a:ob (asg ih f lo h v t) _=some x) ?_
   clear a
   intro q2 h1 _
   rw[gO (by simpa using g)]at h1
   exact iG h1 _ _
  |_=>exact nn a
theorem gQ{e:Mine.E}(q:bV e=true){l:Nat}{env:Env}{t:Expr}(ht: ∀x p,t≠Expr.Name x p):UE [t] (dE e) l env=pure false:=by
 refine fV (P:=λe=>UE [t] (dE e) l env=pure false) (λZ Z Z Z Z Z Z=> ?_) (λZ Z Z Z Z Z Z Z=> ?_) e q<;>cases t<;>first|rfl|exact absurd rfl (ht _ _)
theorem uC{e:Mine.E}(q:bV e=true){l:Nat}{env:Env}{x:Str}{p:Pos}: ∃b,UE [.Name x p] (dE e) l env=pure b∧(b=true→env.kindOf x=some .local):=by
 have k {a b c d} (z:(a&&b&&c&&d)=true):b=true:=by cases b<;>first|rfl|(cases a<;>cases z)
 exact fV (P:=λe=> ∃b,UE [.Name x p] (dE e) l env=pure b∧(b=true→env.kindOf x=some .local)) (λZ Z Z Z Z Z Z=>⟨_,rfl,λz=>beq_iff_eq.mp (k z)⟩) (λZ Z Z Z Z Z Z Z=>⟨_,rfl,λz=>beq_iff_eq.mp (k z)⟩) e q
theorem zL{e t:Mine.E}{x:Lo×H}(q:bV e=true)(l:Nat)(env:Env)(h1:asg ih f lo h v t=some x):UE [dE t] (dE e) l env=pure false∨ ∃x p,t= .nm x p:=by
 rcases oU h1 with h|qA|qA|qA
 · exact .inr h
 · refine el_EEEL qA ?_
   clear qA
   rintro o y p rfl
   exact .inl (gQ q λZ Z z=>by cases z)
 · refine el_EEEL qA ?_
   clear qA
   rintro o i p rfl
   exact .inl (gQ q λZ Z z=>by cases z)
 · refine el_EEEL qA ?_
   clear qA
   rintro ts k p rfl
   exact .inl (gQ q λZ Z z=>by cases z)
theorem uD{e:Mine.E}{x:Lo×H}(q:bV e=true)(l:Nat)(env:Env): ∀ts:Mine.E,gF ih f v ts lo h=some x→UE (dL ts) (dE e) l env=pure false∨ ∃x p,ts= .cons (.nm x p) .nil:=by
 refine lsE (λZ=> .inl rfl) (λt r Z hts=> ?_) (λZ k hts=>gn k hts)
 obtain⟨q2,h1,hr⟩:=eR.mp (hts:ob (asg ih f lo h v t) (λq=>gF ih f v r q.1 q.2)=some x)
 revert r
 refine lsE (λZ Z Z=> ?_) (λZ Z Z Z Z Z=> .inl rfl) (λZ k Z Z hr=>gn k hr)
 rcases zL q l env h1 with z|qA
 · exact .inl z
 · refine el_EEL qA ?_
   clear qA
   rintro y p rfl
   exact .inr ⟨y,p,rfl⟩
theorem mD{e ts:Mine.E}{x:Lo×H}(he:bv e)(l:Nat)(env:Env)(hts:gF ih f v ts lo h=some x):UE (dL ts) (dE e) l env=pure false∨(bV e=true∧ ∃x p,ts= .cons (.nm x p) .nil∧ ∃b,UE (dL ts) (dE e) l env=pure b∧(b=true→env.kindOf x=some .local)):=by
 cases q:bV e with
 |false=>
  left
  have k:=λo=>kW (o:=o) (l:=l) (env:=env) he q
  generalize dL ts=l'
  rcases l' with _|⟨t,_|⟨u,r⟩⟩
  · rfl
  · exact k _
  · rfl
 |true=>
  rcases uD q l env ts hts with z|qA
  · exact .inl z
  · refine el_EEL qA ?_
    clear qA
    rintro y p rfl
    exact .inr ⟨rfl,y,p,rfl,uC q⟩
theorem zM{ts e:Mine.E}{x:R3}(X:Snd Γ n ih)(A:AOk c n)(R:Rel Γ c d f lo h)(hv:Fi ih f lo h ts e=some x)(hQ:PostS Γ c d f x Q):
 wpAny Γ.M c.A (exec (dS (.asg ts e p)).1 c.env) Q E d.s:=by
 refine bB hv ?_
 clear hv
 intro h0 p1 h1 hvX
 refine aw hvX ?_
 clear hvX
 intro q h2 hv
 replace hQ:=hQ.so1 hv
 clear hv
 have nr:=X.nraw h1
 show wpAny Γ.M c.A (exec (.Assign (dL ts) (dE e) p) c.env) Q E d.s
 rw[PySem.exec_Assign_arm]
 refine U7 (UA ?_)
 have plain:wpAny Γ.M c.A (do let v←eval (dE e) c.env;assignStores c.env v (←UC (dL ts) (dE e) c.env) ((Va (dL ts) c.env).map (·.2))) Q E d.s:=by
  refine U7 (X.e c d f lo h e p1.1 p1.2 _ E A R h1 λρ1 ξ1 s1 w x1 R1 v1=> ?_)
  rw[oV nr h0 h2]
  refine U7 (U8 ?_)
  show wpAny Γ.M c.A (do Vn w ((Va (dL ts) c.env).map (·.2));pure .next) Q E s1
  exact U7 (zG X A ts ⟨ρ1,ξ1,d.m,s1⟩ lo p1.2 w q.1 q.2 _ R1 v1 h2 λρ' ξ' m' s' x2 R'=>U8 (hQ _ _ _ _ _ (x1.trans x2) R' rfl))
 rcases mD nr p.line c.env h2 with z|qA
 · rw[z]
   refine U7 (U8 ?_)
   rw[if_neg (by decide)]
   exact plain
 · refine el_AEL qA ?_
   clear qA
   intro hc y qX
   refine el_EAL qX ?_
   clear qX
   intro py qX6 qX
   refine el_EAL qX ?_
   clear qX
   intro b z hb
   subst qX6
   rw[z]
   refine U7 (U8 ?_)
   cases b with
   |false=>rw[if_neg (by decide)];exact plain
   |true=>
    rw[if_pos rfl]
    refine aw (h2:ob (asg ih f lo p1.2 p1.1 (.nm y py)) (λq=>gF ih f p1.1 .nil q.1 q.2)=some q) ?_
    clear h2
    intro q2 h3 h4
    obtain rfl:=Ud (h4:some (q2.1,q2.2)=some q)
    exact U7 (X.u c d f lo h e p1.1 p1.2 y py q2.1 q2.2 _ E A R h1 h3 hc (hb rfl) λρ' ξ' m' s' x1 R'=>U8 (hQ _ _ _ _ _ x1 R' rfl))
theorem je{nm:Nm}{ce:List Nat}{q cd:Nat}{x:T}(e:zh ⟨nm,ce,q,cd⟩ x=true): ∃i,look x nm=some (.lv i):=by
 have e: @U9 Slot (λZ=>Bool) false (λs=> @Slot.casesOn (λZ=>Bool) s Ya Fa Fa false) (look x nm)=true:=e
 cases q:look x nm with
 |none=>rw[q]at e;cases e
 |some s=>
  rw[q]at e
  cases s with
  |lv i=>exact⟨i,rfl⟩
  |_=>exact ff e
theorem gR{x:Str}{w:Value}{Q:Unit→Shared→Prop}(R:Rel Γ c d f lo h)(hv:VR d.ρ v w)(e:bz f lo h (sT x) v=some (lo',h'))(hQ: ∀m' s',Rel Γ c ⟨d.ρ,d.ξ,m',s'⟩ f lo' h'→Q () s'):
 wpAny Γ.M c.A (bindName c.env x w) Q E d.s:=PyProof.Rows.bindName_ (eW (x:=sT x) R hv e hQ)
theorem kY{P:Mine.E→Prop}(a: ∀o z p,P (.attr o z p)): ∀t,jF t=true→P t:=λt=>by
 cases t<;>first|exact λZ=>a _ _ _|exact λq=>nomatch q
theorem FN{b:Mine.E}(nb:bv b)(o:Mine.E)(z:Str)(pa:Pos):([dE (.attr o z pa),dE b].any fun| .Starred .. =>true|_=>false)=false:=by
 cases b<;>first|rfl|exact absurd rfl (nb _)
theorem fm2{α β:Type}{g:α→Option β}{a b:α}{x y:β}(h:g a=some x)(k:g b=some y):List.filterMap g [a,b]=[x,y]:=by
 rw[List.filterMap_cons,h,List.filterMap_cons,k];rfl
theorem FP{a b:Option Vr}{l:Nat}{x:Str}{m:Nat}(h:a=b)(k:m=l)(q:(b==b)=true):(if(a==b&&m==l)=true then some x else none)=some x:=by
 subst h k;rw[q,beq_self_eq_true];rfl
theorem MO{x y:Str}(ne:x≠y):([x,y]:List Str).eraseDups.length=2:=by
 have:(y==x)=false:=by simpa using Ne.symm ne
 simp[List.eraseDups_cons,this]
theorem oW{x y:Str}{px py tp vp:Pos}{tk vk:Nat}{a b:Mine.E}{env:Env}(g1:jF a=true)(nb:bv b)(ne:x≠y)(hbk:env.blockKind= .function)(k1:env.kindOf x=some .local)(k2:env.kindOf y=some .local)(hl:px.line=py.line):
 UC [.Tuple [.Name x px,.Name y py] tk tp] (.Tuple [dE a,dE b] vk vp) env=pure (some [x,y]):=by
 have nb:=FN nb
 generalize dE b=w at nb
 refine kY (P:=λa=>UC [.Tuple [.Name x px,.Name y py] tk tp] (.Tuple [dE a,w] vk vp) env=pure (some [x,y])) (λo z pa=> ?_) a g1
 refine(if_neg ?_).trans ((if_neg ?_).trans ?_)
 · rw[hbk];exact TL
 · exact λzz=>TL ((nb o z pa).symm.trans zz)
 dsimp only
 rw[fm2 (a:=Expr.Name x px) (b:=Expr.Name y py) (x:=x) (y:=y) ?_ ?_,MO ne]
 · rfl
 · exact FP k1 rfl rfl
 · exact FP k2 hl.symm rfl
theorem FQ{x y:Str}{px py tp vp:Pos}{tk vk:Nat}{a b:Mine.E}{r:R3}(X:Snd Γ n ih)(A:AOk c n)(R:Rel Γ c d f lo h)(hv:Ff ih f lo h x px y py a b=some r)(hQ:PostS Γ c d f r Q):
 wpAny Γ.M c.A (exec (dS (.swp x px y py tk tp a b vk vp p)).1 c.env) Q E d.s:=by
 refine aW hv ?_
 clear hv
 intro g1 g2 hvX
 refine aW hvX ?_
 clear hvX
 intro g3 g4 hvX
 refine bB hvX ?_
 clear hvX
 intro g5 p1 h1 hvX
 refine aB hvX ?_
 clear hvX
 intro p2 h2 r1 h3 r2 h4 hv
 replace hQ:=hQ.so1 hv
 clear hv
 have na:=X.nraw h1
 have nb:=X.nraw h2
 obtain⟨nm,ce,qq,cd⟩:=f
 refine el_EL (je g4) ?_
 intro i1 l1
 refine el_EL (je g5) ?_
 intro i2 l2
 have k1:c.env.kindOf x=some .local:=(R.nm.lv _ _ l1).1
 have k2:c.env.kindOf y=some .local:=(R.nm.lv _ _ l2).1
 have ne:x≠y:=by
  rw[bg]at g3
  intro e
  rw[e,au.mpr rfl]at g3
  cases g3
 have hl:px.line=py.line:=by
  have:c6 px=c6 py:=Tj g2
  cases px;cases py;exact this
 have hsw:=oW (tk:=tk) (tp:=tp) (vk:=vk) (vp:=vp) g1 nb ne (by unfold Env.blockKind;rw[R.nm.kind];rfl) k1 k2 hl
 refine Assign_Tuple_swapped (names:=[x,y]) (wpAny_Tuple ?_) rfl hsw
 refine T0 (X.e c d _ lo h a p1.1 p1.2 _ E A R h1 λρ1 ξ1 s1 w1 x1 R1 v1=> ?_) (eU na _ _)
 refine T0 (X.e c ⟨ρ1,ξ1,d.m,s1⟩ _ lo p1.2 b p2.1 p2.2 _ E A R1 h2 λρ2 ξ2 s2 w2 x2 R2 v2=> ?_) (eU nb _ _)
 refine Ui ⟨by simp[ak],?_⟩
 have v1:=v1.ext x2
 have R3:=R2.new (t:=s2.toks) (o:= .tup [p1.1,p2.1]) (b:={cls:= .type "tuple",data:= .seq [w1,w2].toArray}) rfl ⟨[w1,w2],rfl,.cons (v1.ext (.push _ _)) (.cons (v2.ext (.push _ _)) .nil)⟩
 have ht:IsTup (s2.heap.push {cls:= .type "tuple",data:= .seq [w1,w2].toArray}) s2.heap.objs.size #[w1,w2]:=⟨_,Tz _ rfl,rfl,_,rfl⟩
 refine unpackItems_tuple (items:= #[w1,w2]) (t:=s2.heap.objs.size) A.hd ht λh4' hx=> ?_
 have R4:=R3.junk (h':=h4') (t:=s2.toks) λb o e=>hx b o (UL (UN e)) e
 rw[ay]at h3
 show wpAny Γ.M c.A (assignInOrder [λv=>bindName c.env y v,λv=>bindName c.env x v] [w2,w1]) _ E _
 refine U7 (m:=holding [w1] (bindName c.env y w2)) (Uy (gR R4 (v2.ext (.push _ _)) h3 λm' s' R5=> ?_))
 refine U7 (m:=holding [] (bindName c.env x w1)) (Uy (gR R5 (v1.ext (.push _ _)) h4 λm' s' R6=> ?_))
 exact U8 (hQ _ _ _ _ _ ((x1.trans x2).trans (.push _ _)) R6 rfl)
end
end
section
variable{Γ:Gl}{c:St0}{d:Dy}{f:Frm}{lo:Lo}{h:H}{n:Nat}{ih:Ih}
section
variable{prog:Program}{w:World}{A:Around}{E:Value→Shared→Prop}{s:Shared}
theorem rK{sel:Value×Nat→Bool}(l:List Value)(H: ∀x,x.2<l.length→sel x=true):l.zipIdx.filterMap (λx=>if sel x=true then none else some x.1)=[]:=by
 rw[List.filterMap_eq_nil_iff]
 intro x hx
 have:=List.snd_lt_of_mem_zipIdx hx
 rw[if_pos (H _ (by simpa using this))]
theorem zN{l sl:Addr}{its:Array Value}{m:Nat}{Q:Unit→Shared→Prop}(ho:s.heap.get? l=some (Vv its m))(hs:s.heap.IsSliceOf sl .none .none .none)(hz:its.size≤4000)
 (hQ: ∀h' k,UM l s.heap h'→h'.get? l=some (Vv #[] k)→Q () {s with heap:=h'}):wpAny (model prog w) A (delItem (.ref l) (.ref sl)) Q E s:=by
 have hl:s.heap.IsList l its:=⟨_,ho,rfl,m,rfl⟩
 refine el_EAAL (id hs) ?_
 intro os hos hcs hds
 have hTs:s.TypeIs (.ref sl) "slice":=⟨os,hos,hcs⟩
 refine wpAny_delItem_slot hl.typeIs (by decide) F.slot_list_delitem (T9 F.slot_list_delitem hl.typeIs F.entry_list_delitem ?_ (F.args_list_delitem_2 _ _))
 show wpAny _ _ (Builtin.List.listSubscript? (.ref sl)>>=_) _ _ s
 refine U7 ?_
 unfold Builtin.List.listSubscript?
 refine U7 (wpAny_specialOf hTs slice_no_index ?_)
 simp only[Option.isNone_none,if_true]
 refine U8 ?_
 show wpAny _ _ (typeOf (.ref sl)>>=_) _ _ s
 refine U7 (UU hTs ?_)
 rw[if_neg (by decide)]
 rw[listSliceParts_eq]
 refine U7 (U7 (U3 hos hds (x:= .none) rfl (U7 (wpAny_listPart .none ?_))))
 rw[if_neg (by decide)]
 refine U7 (U3 hos hds (x:= .none) rfl (U7 (wpAny_listPart .none ?_)))
 refine U7 (U3 hos hds (x:= .none) rfl (U7 (wpAny_listPart .none (U8 ?_))))
 refine U7 (m:=Builtin.List.listItems (.ref l)) ?_
 unfold Builtin.List.listItems
 refine U7 (wpAny_seqItems ho rfl (U8 ?_))
 refine U7 (UZ (sliceIndices_raw none none none its.size (by simp)) ?_)
 rw[sliceBounds_plain]
 refine U7 (Vf ?_)
 have fin: ∀g:Array Value→Array Value,g its= #[]→ ∀gone:List Value,wpAny (model prog w) A.in1 (do letGo gone;ret Value.none) (λfin s'=> ∃v,fin=Fin.done (Flow.ret v)∧Q () s') E {s with heap:=s.heap.update l (Vb g)}:=λg hg gone=>by
  refine U7 (wpAny_letGo (U8 ⟨_,rfl,?_⟩))
  have q:=PySem.IsL.update ho g
  rw[hg]at q
  exact hQ _ _ (TA ..) q
 have em: ∀g:List Value,g=[]→(g.toArray:Array Value)= #[]:=λg e=>by rw[e]
 have hs: ∀x:Value×Nat,x.2<its.toList.length→(if(1:Int)>0 then(decide (((none:Option Int).elim 0 (clipAt its.size):Nat)≤(x.2:Int))&&decide ((x.2:Int)<(((none:Option Int).elim its.size (clipAt its.size):Nat):Int))&&(((x.2:Int)-((none:Option Int).elim 0 (clipAt its.size):Nat))%1==0))else(decide ((((none:Option Int).elim its.size (clipAt its.size):Nat):Int)<(x.2:Int))&&decide ((x.2:Int)≤((none:Option Int).elim 0 (clipAt its.size):Nat))&&((((none:Option Int).elim 0 (clipAt its.size):Nat)-(x.2:Int))%(-1)==0)))=true:=by
  intro x hx
  rw[if_pos (by decide)]
  simp only[Option.elim]
  have hx:x.2<its.size:=by simpa using hx
  simp
  omega
 refine U7 ?_
 refine Un ho rfl (fin _ (em _ (rK _ hs)) _) (by rw[ak];omega) ?_
 exact UJ (Nat.le_of_eq (congrArg Array.size (em _ (rK _ hs)))) (U0 _)
end
section
variable{E:Value→Shared→Prop}{v:V}{h':H}{p:Pos}{b:Bool}{Q:Flow→Shared→Prop}{lo':Lo}
theorem FS{o:Mine.E}{ps p1:Pos}{x:R3}(X:Snd Γ n ih)(A:AOk c n)(R:Rel Γ c d f lo h)(hv:Fk ih f lo h o=some x)(hQ:PostS Γ c d f x Q):
 wpAny Γ.M c.A (exec (dS (.del o ps p1 p)).1 c.env) Q E d.s:=by
 refine aB hv ?_
 clear hv
 intro q1 h1 k h2 xs h3 hvX
 refine bf hvX ?_
 clear hvX
 intro h4 hv
 replace hQ:=hQ.so1 hv
 clear hv
 refine wpAny_Delete (wpAny_deleteEach_cons ?_)
 show wpAny Γ.M c.A (do
  let ov←eval (dE o) c.env
  let iv←holding [ov] (eval (.Slice none none none ps) c.env)
  standAt p1
  holding [ov,iv] (delItem ov iv)
  release [ov,iv] []) _ E d.s
 refine U7 (X.e c d f lo h o q1.1 q1.2 _ E A R h1 λρ1 ξ1 s1 w1 x1 R1 v1=> ?_)
 refine U7 (Uy (wpAny_Slice ?_))
 rw[evalPart_none]
 refine U8 (U8 (U8 (U7 (UA (U7 (Uy ?_))))))
 rw[aj h2]at v1
 refine el_EAL v1 ?_
 clear v1
 rintro a g1 rfl
 have R2:=R1.junk (h':=s1.heap.push {cls:= .type "slice",data:= .fields #[.none,.none,.none]}) (t:=s1.toks) λZ Z e=>Tf _ e
 refine el_EEEAAL (bh R2 (av h3)) ?_
 intro a' vs j e1 e2 e3
 rw[show ρ1[k]? =some a from g1]at e1
 obtain rfl:=Ud e1
 refine zN e2 ⟨_,Tz _ rfl,rfl,rfl⟩ (by simp only[TO];rw[e3.length];exact aM h4) λh2 k' hsb hg=> ?_
 refine wpAny_release' (wpAny_deleteEach_nil ?_)
 rw[aU]at hQ
 exact hQ _ _ _ _ _ x1 (R2.set (t:=s1.toks) g1 hg ⟨[],k',rfl,.nil⟩ hsb) rfl
theorem FT{bd:S}{hd:ExceptHandler}{hs:List ExceptHandler}{x:R3}(X:Snd Γ n ih)(A:AOk c n)(R:Rel Γ c d f lo h)(hv:ih.s f lo h bd=some x)(hQ:PostS Γ c d f x Q):
 wpAny Γ.M c.A (exec (dS (.try_ bd (hd::hs) p)).1 c.env) Q E d.s:=by
 refine wpAny_Try_except (X.s c d f lo h bd x _ _ A R hv λρ' ξ' m' s' fl x1 R' hf=> ?_)
 cases fl with
 |next=>exact Uo (hQ _ _ _ _ _ x1 R' hf)
 |_=>exact hQ _ _ _ _ _ x1 R' hf
theorem FU{x:R3}(R:Rel Γ c d f lo h)(hv:some (Fl.brk,lo,h)=some x)(hQ:PostS Γ c d f x Q):wpAny Γ.M c.A (exec (dS (.brk p)).1 c.env) Q E d.s:=by
 replace hQ:=hQ.so1 hv
 clear hv
 exact wpAny_Break (hQ _ _ _ _ _ (.refl _) R rfl)
theorem zO{x:R3}(R:Rel Γ c d f lo h)(hv:some (Fl.ret .none,lo,h)=some x)(hQ:PostS Γ c d f x Q):wpAny Γ.M c.A (exec (dS (.ret0 p)).1 c.env) Q E d.s:=by
 replace hQ:=hQ.so1 hv
 clear hv
 exact wpAny_Return_none (hQ _ _ _ _ _ (.refl _) R ⟨_,rfl,rfl⟩)
end
end
section
variable{Γ:Gl}{c:St0}{d:Dy}{f:Frm}{lo:Lo}{h:H}{n:Nat}{ih:Ih}
structure MethOk(K:Frag)(C:Addr)(x:T)(f:Addr):Prop where
 ha:findIn K (.ref C) (mkS x)=some (some (.ref f))
 hf:isFn K (.ref f)=true
 hgf:specialIn K (.ref f) "__get__"=some (some (.builtin "function.__get__"))
 ht:takesIn K (.ref f)=some false
 hc:copiedNames.contains (mkS x)=false
 hg:plainGet K C (mkS x)=true
 hh:hasDictIn K C=true
structure MkOk(K:Frag)(C i:Addr):Prop where
 ms:makesIn K C=true
 hi:findIn K (.ref C) "__init__"=some (some (.ref i))
 hf:typeIn K (.ref i)=some (.type "function")
 kp:keepIn K (.ref C)=true
structure COk(Γ:Gl):Prop where
 mki: ∀C cd i,atN C Γ.g.cls=some cd→look w_init cd=some (.top i)→MkOk Γ.K C i
 jn: ∃o t,Γ.K.lookup Γ.g.joinA=some o∧o.cls= .type "builtin_function_or_method"∧o.data= .fields #[.builtin "str.join",.str (mkS []) t]
 ia: ∀C ns,atN C Γ.g.ia=some ns→OwnOk Γ.K C ns
 me: ∀C cd x f,atN C Γ.g.cls=some cd→look x cd=some (.top f)→MethOk Γ.K C x f
 va: ∀C cd x v,atN C Γ.g.cls=some cd→look x cd=some v→asTop v=none→ ∃mc w,typeIn Γ.K (.ref C)=some mc∧readsIn Γ.K C mc=true∧findCls Γ.K (.ref C) mc (mkS x)=some (.val w)∧handedIn w=true∧VR [] v w
section
variable{E:Value→Shared→Prop}{v:V}{h':H}{p:Pos}{b:Bool}{Q:Value→Shared→Prop}
theorem nN{o:Mine.E}(he:bv o)(g:ky o=true)(x:Str)(env:Env)(w:Sem Value):attributeBase (dE o) x env w=w:=by
 cases o with
 |raw y=>exact absurd rfl (he y)
 |call y py args q=>
  refine el_EEL (fU (g:gE args=true)) ?_
  rintro a r rfl
  rfl
 |_=>rfl
theorem uE{o:Mine.E}(he:bv o)(g:ky o=true){x:Str}(hx:wpAny Γ.M c.A (eval (dE o) c.env) (λo s₁=>wpAny Γ.M c.A (getAttr o x true) Q E s₁) E d.s):
 wpAny Γ.M c.A (eval (.Attribute (dE o) x p) c.env) Q E d.s:=by
 refine PyProof.Rows.Attribute_any_ hx ?_
 rw[arm_eval_Attribute,nN he g]
theorem jf{ρ:List Addr}{v:V}{w:Value}(hv:VR ρ v w):handedIn w=true:=by
 cases v with
 |none=>cases hv;rfl
 |bool b=>cases hv;rfl
 |int i=>obtain⟨t,rfl⟩:=hv;rfl
 |str s=>obtain⟨t,rfl⟩:=hv;rfl
 |top a=>cases hv;rfl
 |loc k=>obtain⟨a,_,rfl⟩:=hv;rfl
 |m32 r=>obtain⟨n,t,rfl,_⟩:=hv;rfl
 |sh r p=>obtain⟨n,t,rfl,_⟩:=hv;rfl
 |prim m=>
  cases hv
  unfold cF
  repeat' split
  all_goals first|rfl|decide+kernel
theorem mE(G:COk Γ){x:Str}{k C j:Nat}{a:Addr}{out:V×H}(R:Rel Γ c d f lo h)(hk:h[k]? =some (.inst C j))(ha:d.ρ[k]? =some a)
 (hv:eT Γ.g h (C,j) (sT x) (λv=>some (v,h)) (λfa=>some (new h (.meth k fa)))=some out)(hQ:PostE Γ c d f lo out.2 out.1 Q){ex:Bool}:wpAny Γ.M c.A (getAttr (.ref a) x ex) Q E d.s:=by
 refine aw hv ?_
 clear hv
 intro es h1 hv
 refine el_EEEL (eX R hk (bH h1)) ?_
 intro a' dx ds qX
 refine el_EAAL qX ?_
 clear qX
 intro i g1 g2 qX
 refine aD qX ?_
 clear qX
 intro g3 g4 g5 g6
 rw[ha]at g1
 obtain rfl:=Ud g1
 have gl:=g5.getL (x:=sT x)
 cases q:look (sT x) es with
 |some v=>
  rw[q]at hv
  refine bJ (hv:ob (atN C Γ.g.ia) (λns=>gd (memT (sT x) ns) (some (v,h)))=some out) ?_
  clear hv
  intro ns h2 h3 hv
  replace hQ:=hQ.so1 hv
  clear hv
  have O:=G.ia _ _ h2
  refine el_EAL (gl.1 v q) ?_
  intro w w1 w2
  exact get_own R.fr R.gb.K g6 (O.hg _) O.hh (O.own _ h3) rfl w1 (jf w2) (hQ.tok R w2 _)
 |none=>
  rw[q]at hv
  refine aB (hv:ob (atN C Γ.g.cls) (λcd=>ob (look (sT x) cd) λw=>ob (asTop w) λfa=>some (new h (.meth k fa)))=some out) ?_
  clear hv
  intro cd h2 w h3 fa h4 hv
  rw[eM]at hv
  replace hQ:=hQ.so1 hv
  clear hv
  have w4:=bT h4
  subst w4
  have Mo:=G.me _ _ _ _ h2 h3
  refine get_bind (R.gb.K.keeps R.fr.keep) g6 (plainGet_of Mo.hg).1 (findObj_fn Mo.hh Mo.ha Mo.hgf Mo.ht Mo.hc (by show lookIn (mkS (sT x)) (dictOf ds i)=_;rw[lookIn_dict];exact gl.2 q)) (plainGet_of Mo.hg).2 ?_
  refine Vi (fn_get (s:={d.s with toks:=d.s.toks+1}) (R.gb.K.keeps R.fr.keep) (beq_iff_eq.mp Mo.hf) (handed_on rfl ?_))
  exact hQ _ _ _ _ (.push _ _) (R.new (t:=d.s.toks+1) (o:= .meth k fa) rfl ⟨a,(Ext.push _ _).get ha,rfl⟩) (bu R _)
end
end
theorem nO:PySem.Slot "method_descriptor" "__get__" "method_descriptor.__get__":=
 .of (owner:="method_descriptor") (n:="__get__") (by rw[Ul,Tn];kernel_rfl) (by decide+kernel) (by decide+kernel) (by decide+kernel)
  (by first|exact .inl (by decide+kernel)|exact .inr (by decide+kernel)) (by rw[Us];kernel_rfl)
theorem rL:entryFor table "method_descriptor.__get__"=some Builtin.«method_descriptor.__get__»:=entryFor_of_tree (by kernel_rfl)
theorem uF(a b c:Value):argsOk "method_descriptor.__get__" ⟨[a,b,c],[]⟩:=by unfold argsOk;kernel_rfl
theorem zP{prog:Program}{w:World}{A:Around}{s:Shared}{E:Value→Shared→Prop}{P:Fin→Shared→Prop}{a:Addr}{xs:Array Value}{k:Nat}(hx:s.heap.get? a=some (Vv xs k))
 (h:P (.done (.ret (.ref s.heap.objs.size))) {s with heap:=s.heap.push {cls:= .type "builtin_function_or_method",data:= .fields #[.builtin "list.append",.ref a]}}):
 wpAny (model prog w) A (Builtin.«method_descriptor.__get__» ⟨[.builtin "list.append",.ref a,.type "list"],[]⟩) P E s:=by
 have hT:s.TypeIs (.ref a) "list":=⟨_,hx,rfl⟩
 unfold Builtin.«method_descriptor.__get__»
 refine U7 (UZ (a:=(.builtin "list.append",some (.ref a),some (.type "list"))) (by first|rfl|kernel_rfl) ?_)
 have c1:Manifest.toldItsClass.contains "list.append"=false:=by decide+kernel
 dsimp only
 rw[c1,if_neg (by decide)]
 refine U7 (m:=_) ?_
 refine U7 (m:=_) ?_
 refine UZ (a:=(UK "append",Value.type "list")) (by first|rfl|kernel_rfl) ?_
 refine U7 (T8 (T:="list") (b:=true) hT (by rw[Us];kernel_rfl) ?_)
 refine U8 ?_
 exact U7 (TP (U8 h))
theorem jM(a:Addr)(xs:Array Value)(k:Nat)(u:Tok):
 Meets (Builtin.«object.__getattribute__» ⟨[.ref a,.str "append" u],[]⟩) (λA R s=>s.heap.get? a=some (Vv xs k)∧R (.ok (.ret (.ref s.heap.objs.size))) {s with heap:=s.heap.push {cls:= .type "builtin_function_or_method",data:= .fields #[.builtin "list.append",.ref a]}}):=
 Meets.of_wp λprog w A R s hs=>by
  obtain⟨hp,g,d,tk,os⟩:=s
  refine ae hs ?_
  clear hs
  intro hx hs
  have hT:(⟨hp,g,d,tk,os⟩:Shared).TypeIs (.ref a) "list":=⟨_,hx,rfl⟩
  have f1:=F.slot_list_append.lookup
  have f2:typeOf (.builtin "list.append")=pure (.type "method_descriptor"):=F.type_list_append
  have f3:typeLookup (.type "method_descriptor") "__get__"=pure (some (.builtin "method_descriptor.__get__")):=by rw[Ul,Tn];kernel_rfl
  have f4:typeLookup (.type "method_descriptor") "__set__"=pure none:=by rw[Ul,Tn];kernel_rfl
  have f5:typeLookup (.type "method_descriptor") "__delete__"=pure none:=by rw[Ul,Tn];kernel_rfl
  unfold Builtin.«object.__getattribute__»
  repeat (any_goals (first|assumption|wp_step))
  refine codeAny_call_builtin nO.plain rL (nO.check _ _ _ _ _ _ _ _ (by first|exact F.type_list_append|rfl|(show typeOf _=_;exact F.type_list_append)) (uF _ _ _) ?_)
  exact zP hx (U8 ⟨_,rfl,hs⟩)
theorem kZ{prog:Program}{w:World}{A:Around}{E:Value→Shared→Prop}{s:Shared}{a:Addr}{xs:Array Value}{k:Nat}{Q:Value→Shared→Prop}(hx:s.heap.get? a=some (Vv xs k))
 (h:Q (.ref s.heap.objs.size) {s with heap:=s.heap.push {cls:= .type "builtin_function_or_method",data:= .fields #[.builtin "list.append",.ref a]},toks:=s.toks+1}):
 wpAny (model prog w) A (getAttr (.ref a) "append" true) Q E s:=by
 obtain⟨hp,g,d,tk,os⟩:=s
 have hT: ∀tk',(⟨hp,g,d,tk',os⟩:Shared).TypeIs (.ref a) "list":=λZ=>⟨_,hx,rfl⟩
 have f3:=F.slot_list_getattribute.lookup
 have f4:=F.slot_list_getattribute.bind (.ref a)
 unfold getAttr getAttrBy
 repeat (any_goals (first|assumption|exact hT _|((with_reducible show wpAny _ _ (call (Value.builtin "list.__getattribute__") _ _) _ _ _);refine call_meets F.slot_list_getattribute (hT _) am_entry_list_getattribute (F.args_list_getattribute_2 _ _) (jM a xs k _) ⟨hx,?_⟩)|wp_step))
 show wpAny (model prog w) A (handedOut (.ref hp.objs.size)) Q E _
 rw[handedOut_of rfl]
 exact U8 h
section
variable{Γ:Gl}{c:St0}{d:Dy}{f:Frm}{lo:Lo}{h:H}{n:Nat}{ih:Ih}
section
variable{E:Value→Shared→Prop}{v:V}{h':H}{p:Pos}{b:Bool}{Q:Value→Shared→Prop}
theorem fW:mkS dT=UK "append":=by decide+kernel
theorem zQ(G:COk Γ){o:Mine.E}{x:Str}(X:Snd Γ n ih)(A:AOk c n)(R:Rel Γ c d f lo h)(hv:xY Γ.g ih f lo h o (sT x)=some (v,h'))(hQ:PostE Γ c d f lo h' v Q):
 wpAny Γ.M c.A (eval (dE (.attr o x p)) c.env) Q E d.s:=by
 refine bf hv ?_
 clear hv
 intro h0 hvX
 refine cW hvX ?_
 clear hvX
 intro u h1 e1 hv
 refine uE (X.nraw e1) h0 (X.e c d f lo h o u h1 _ E A R e1 λρ1 ξ1 s1 w1 x1 R1 v1=> ?_)
 have hQ:=hQ.after (ρ':=ρ1) (ξ':=ξ1) (s':=s1) x1
 cases u with
 |top C=>
  refine dn (hv:ob (atN C Γ.g.cls) _=some (v,h')) ?_
  clear hv
  intro cd h2 w h3 h4 hv
  cases hv
  cases v1
  have h5:asTop v=none:=by
   cases q:asTop v with
   |none=>rfl
   |some _=>rw[q]at h4;cases h4
  refine el_EEAAL (G.va _ _ _ _ h2 h3 h5) ?_
  intro mc w m1 m2 qX
  refine bi qX ?_
  intro m3 m4 m5
  exact cls_val R1.fr R1.gb.K m1 m2 m3 m4 (hQ.tok R1 (.ext0 m5) _)
 |loc k=>
  refine aw (hv:ob (nth h1 k) _=some (v,h')) ?_
  clear hv
  intro q h2 hv
  rw[ap]at h2
  refine el_EAL v1 ?_
  clear v1
  rintro a g1 rfl
  cases q with
  |inst C j=>
   exact mE (d:=⟨ρ1,ξ1,d.m,s1⟩) (out:=(v,h')) G R1 h2 g1 hv hQ
  |list xs=>
   refine bJ (hv:ob (eG (.list xs)) (λZ=>gd (tEq (sT x) dT) (some (new h1 (.bm k))))=some (v,h')) ?_
   clear hv
   intro l _ h4 hv
   rw[eM]at hv
   replace hQ:=hQ.so hv
   clear hv
   obtain rfl:x=UK "append":=by
    have:=au.mp h4
    rw[←fW,←this];rfl
   refine el_EEEAAL (bh R1 h2) ?_
   intro a' vs j e1 e2 e3
   rw[show ρ1[k]? =some a from g1]at e1
   obtain rfl:=Ud e1
   refine kZ e2 ?_
   exact hQ _ _ _ _ (.push _ _) (R1.new (t:=s1.toks+1) (o:= .bm k) rfl ⟨a,(Ext.push _ _).get g1,rfl,rfl⟩) (bu R1 _)
  |_=>exact nn hv
 |_=>exact nn hv
end
end
section
variable{Γ:Gl}{c:St0}{d:Dy}{f:Frm}{lo:Lo}{h:H}{n:Nat}{ih:Ih}
def Kp(M:Model)(h:Heap)(f:Value):Prop:= ∃k,(k=Keeper.frame∨k=Keeper.machine∨k=Keeper.boundFrame)∧Looks M h (keeperOf f) k
theorem gS(ih:Ih)(f:Frm)(lo:Lo)(pos:Pos)(env:Env)(hraw: ∀f lo h x,ih.e f lo h (.raw x)=none): ∀(es:Mine.E) (h:H) (r:List V×H),evs ih f lo es h=some r→(backTo pos (Vu (dL es) env)).any (·.1)=false:=by
 refine lsE ?_ ?_ ?_
 · intro h r hv;exact rfl
 · intro e es IH h r hv
   refine aR (hv:ob (ih.e f lo h e) (λp=>ob (evs ih f lo es p.2) λq=>some (p.1::q.1,q.2))=some r) ?_
   clear hv
   intro p h1 q h2 hv
   have he:bv e:=λy q=>by subst q;rw[hraw]at h1;cases h1
   show(backTo pos (Vu (dE e::dL es) env)).any (·.1)=false
   rw[eU he]
   show(false||(backTo pos (Vu (dL es) env)).any (·.1))=false
   rw[IH _ _ h2];rfl
 · intro e q _ _ hv;exact rq q hv
section
variable{E:Value→Shared→Prop}{v:V}{h':H}{p:Pos}{b:Bool}{Q:Value→Shared→Prop}
theorem cR(X:Snd Γ n ih)(A:AOk c n)(R:Rel Γ c d f lo h){es:Mine.E}{vs:List V}(hv:evs ih f lo es h=some (vs,h')){g:Value}{first:List Value}{pos:Pos}
 (hQ: ∀ρ' ξ' s' ws,Ext d.ρ ρ'→Rel Γ c ⟨ρ',ξ',d.m,s'⟩ f lo h'→VsR ρ' vs ws→Kp Γ.M s'.heap g∧wpAny Γ.M c.A (call g (first++ws)) Q E s'):
 wpAny Γ.M c.A (callWith pos g first (backTo pos (Vu (dL es) c.env)) []) Q E d.s:=by
 refine U4 (P:=λhp=>Kp Γ.M hp g) (by rw[gS ih f lo pos c.env X.raw es _ _ hv];rfl) (λhp k=>k) ?_
 cases es with
 |nil=>
  obtain⟨rfl,rfl⟩:=so2 (hv:some (([]:List V),h)=some (vs,h'))
  exact evalArgs_nil3 (hQ _ _ _ _ (.refl _) R .nil)
 |cons e r=>
  have:=yc (pos:=pos) (Q:=λws s'=>Kp Γ.M s'.heap g∧wpAny Γ.M c.A (call g (first++ws)) Q E s') (E:=E) X A (.cons e r) d h vs h' R hv
  refine aw (hv:ob (ih.e f lo h e) _=some (vs,h')) ?_
  clear hv
  intro p1 h1 _
  have e1:Vu (dL (.cons e r)) c.env=(false,eval (dE e) c.env)::Vu (dL r) c.env:=eU (X.nraw h1) _ _
  rw[e1]at this⊢
  exact Uu (this hQ)
 |_=>exact nn hv
theorem gT{M:Model}{h:Heap}{g:Value}(e:keeperOf g=pure .machine):Kp M h g:=⟨.machine,.inr (.inl rfl),UF e⟩
theorem aP{α β:Type}{l:List α}{f:α→Option β}{b:β}(h:one l f=some b): ∃a,l=[a]∧f a=some b:=by
 cases l with
 |nil=>exact nn h
 |cons a r=>
  refine bf h ?_
  clear h
  intro h1 h2
  cases r with
  |nil=>exact⟨a,rfl,h2⟩
  |cons _ _=>exact ff h1
theorem gU{α β:Type}{l:List α}{f:α→α→Option β}{b:β}(h:two l f=some b): ∃a a',l=[a,a']∧f a a'=some b:=by
 cases l with
 |nil=>exact nn h
 |cons a r=>
  refine el_EAL (aP h) ?_
  rintro a' rfl h2
  exact⟨a,a',rfl,h2⟩
theorem gV{α β:Type}{l:List α}{x:Option β}{b:β}(h:oA l x=some b):l=[]∧x=some b:=by
 refine bf h ?_
 clear h
 intro h1 h2
 cases l with
 |nil=>exact⟨rfl,h2⟩
 |cons _ _=>exact ff h1
theorem VsR.one{ρ:List Addr}{v:V}{ws:List Value}(h:VsR ρ [v] ws): ∃w,ws=[w]∧VR ρ v w:=by
 cases h with
 |cons a r=>cases r;exact⟨_,rfl,a⟩
theorem VsR.two{ρ:List Addr}{v v':V}{ws:List Value}(h:VsR ρ [v,v'] ws): ∃w w',ws=[w,w']∧VR ρ v w∧VR ρ v' w':=by
 cases h with
 |cons a r=>obtain⟨w,rfl,b⟩:=r.one;exact⟨_,_,rfl,a,b⟩
theorem VsR.nil_{ρ:List Addr}{ws:List Value}(h:VsR ρ [] ws):ws=[]:=by cases h;rfl
theorem nQ{ρ:List Addr}: ∀(l:List V) (ws:List Value) (a z:Int),VsR ρ l ws→tS l a=some z→ ∃xs:List (Int×Tok),ws=xs.map (λp=> .int p.1 p.2)∧z=xs.foldl (λa p=>a+p.1) a∧(∀j,j<xs.length→jA (numAt xs.toArray j)=true∧jA ((xs.take (j+1)).foldl (λa p=>a+p.1) a)=true)
 |[],_,a,z,r,h=>by
  cases r
  obtain rfl:=Ud (h:some a=some z)
  exact⟨[],rfl,rfl,λj hj=>by simp at hj⟩
 |v::l,_,a,z,.cons hv r,h=>by
  refine bJ (h:ob (ax v) (λi=>gd (jA i) (gd (jA (Int.add a i)) (tS l (Int.add a i))))=some z) ?_
  clear h
  intro i h1 h2 hvX
  refine bf hvX ?_
  clear hvX
  intro h3 hz
  have e:=aq h1
  subst e
  refine el_EL hv ?_
  clear hv
  rintro t rfl
  refine el_EAAL (nQ l _ _ _ r hz) ?_
  rintro xs rfl e2 e3
  refine⟨(i,t)::xs,rfl,by rw[e2];rfl,λj hj=> ?_⟩
  cases j with
  |zero=>exact⟨by simpa[numAt]using h2,by simpa using h3⟩
  |succ j=>
   have:=e3 j (by simpa using hj)
   refine⟨?_,?_⟩
   · have q:numAt ((i,t)::xs).toArray (j+1)=numAt xs.toArray j:=by simp[numAt]
     rw[q];exact this.1
   · simpa using this.2
theorem k8{i:Int}(h:jA i=true):InLong i:=by
 cases q:iLt (.negSucc 1099511627775) i with
 |true=>
  rw[jA,q]at h
  have a:=(cu _ _).mp q
  have b:=(cu _ _).mp (show iLt i (.ofNat 1099511627776)=true by rw[bF]at h;exact h)
  have e1:(Int.negSucc 1099511627775)= -1099511627776:=rfl
  have e2:(Int.ofNat 1099511627776)=1099511627776:=rfl
  rw[e1]at a;rw[e2]at b
  exact⟨UT (by decide) (Int.le_of_lt a),Int.lt_trans b (by decide)⟩
 |false=>rw[jA,q]at h;cases h
theorem dY(xs:List (Int×Tok)): ∀j,j≤xs.length→preSum (numAt xs.toArray) j=(xs.take j).foldl (λa p=>a+p.1) 0
 |0,_=>by simp[preSum]
 |j+1,hj=>by
  have q:=dY xs j (by omega)
  show preSum _ j+numAt _ j=_
  rw[q,List.take_add_one,List.foldl_append]
  have e:xs[j]? =some xs[j]:=S7 (by omega)
  simp[numAt,e]
theorem rM{a:Addr}{xs:List V}{vs:List Value}{k:Nat}{z:Int}(A:AOk c n)(hx:d.s.heap.get? a=some (Vv vs.toArray k))(hv:VsR d.ρ xs vs)(hs:tS xs (.ofNat 0)=some z)
 (hQ: ∀h' tk t,(∀b o,d.s.heap.get? b=some o→h'.get? b=some o)→Q (.int z t) {d.s with heap:=h',toks:=tk}):wpAny Γ.M c.A (call (.builtin "sum") [.ref a]) Q E d.s:=by
 refine el_EAAL (nQ xs vs _ _ hv hs) ?_
 rintro ys rfl e2 e3
 have hl:d.s.heap.IsList a (intItems ys.toArray):=by
  have:=aG hx
  simpa[intItems]using this
 refine sum_intList A.hd hl (λj hj=> ?_) λh' tk t' hk=> ?_
 · have hj:j<ys.length:=by simpa using hj
   have:=e3 j hj
   refine⟨k8 this.1,?_⟩
   rw[dY ys (j+1) hj]
   exact k8 this.2
 · have:preSum (numAt ys.toArray) ys.toArray.size=z:=by
    rw[show ys.toArray.size=ys.length from by simp,dY ys _ (UY _),List.take_length,e2];rfl
   rw[this]
   exact hQ _ _ _ hk
end
end
theorem dZ(s:String):UK s=mkS (s.toList.map Char.toNat):=by
 show Str.mk _=Str.mk _
 rw[cpsOfBytes_string]
theorem fE: ∀n:Nat,n<16→qp n=(Nat.digitChar n).toNat:=by decide+kernel
theorem jg(k n:Nat):iD (k+1) n=bc (Nat.blt n 16) [qp n] (iD k (n/16)++[qp (n%16)]):=by
 rw[←ay];rfl
theorem jN: ∀(k n:Nat),n<16^(k+1)→iD (k+1) n=(Nat.toDigits 16 n).map Char.toNat
 |0,n,h=>by
  have q':n<16:=by simpa using h
  rw[jg,Vg.mpr q',bF,Nat.toDigits_of_lt_base q',fE n q'];rfl
 |k+1,n,h=>by
  rw[jg]
  cases q:Nat.blt n 16 with
  |true=>
   have q':n<16:=by simpa using(Vg.mp q)
   rw[bF,Nat.toDigits_of_lt_base q',fE n q'];rfl
  |false=>
   have q':16≤n:=by
    rcases Nat.lt_or_ge n 16 with c|c
    · rw[Vg.mpr c]at q;cases q
    · exact c
   have e:=jN k (n/16) (by rw[Nat.div_lt_iff_lt_mul (by decide)];rw[Nat.pow_succ]at h;exact h)
   rw[bL,Nat.toDigits_of_base_le (by decide) q',List.map_append,e,fE _ (Nat.mod_lt _ (by decide))];rfl
theorem rO(n:Nat)(h:n<4294967296):mkS (48::120::iD 16 n)=baseText "0x" 16 (.ofNat n):=by
 rw[baseText_nonneg (by simp)]
 have e:(Int.ofNat n).natAbs=n:=rfl
 rw[e,dZ,dZ,dZ,cH,cH]
 congr 1
 rw[show iD 16 n=iD (15+1) n from rfl,jN 15 n (UQ h (by decide)),show(String.ofList (Nat.toDigits 16 n)).toList=Nat.toDigits 16 n from String.toList_ofList]
 rw[show(("":String).toList).map Char.toNat=[]from by decide+kernel,show(("0x":String).toList).map Char.toNat=[48,120]from by decide+kernel]
 rfl
section
variable{Γ:Gl}{c:St0}{d:Dy}{f:Frm}{lo:Lo}{h:H}{n:Nat}{ih:Ih}
section
variable{E:Value→Shared→Prop}{v:V}{h':H}{p:Pos}{b:Bool}{Q:Value→Shared→Prop}
theorem jO(R:Rel Γ c d f lo h){k:Nat}{xs:List V}{w:Value}(hw:VR d.ρ (.loc k) w)(e:h[k]? =some (.list xs)): ∃a vs j,w= .ref a∧d.ρ[k]? =some a∧d.s.heap.get? a=some (Vv vs.toArray j)∧VsR d.ρ xs vs:=by
 refine el_EAL hw ?_
 clear hw
 rintro a e1 rfl
 refine el_EEEAAL (bh R e) ?_
 intro a' vs j e2 e3 e4
 rw[e1]at e2;cases e2
 exact⟨a,vs,j,rfl,e1,e3,e4⟩
theorem rP(A:AOk c n)(R:Rel Γ c d f lo h){vs:List V}{ws:List Value}(hw:VsR d.ρ vs ws)(hv:qz h vs=some (v,h'))(hQ:PostE Γ c d f lo h' v Q):
 wpAny Γ.M c.A (call (cF 0) ws) Q E d.s:=by
 refine el_EAL (aP hv) ?_
 rintro a rfl hv
 refine el_EAL hw.one ?_
 rintro w rfl hu
 refine aw hv ?_
 clear hv
 intro m hv1 hv
 replace hQ:=hQ.so hv
 clear hv
 cases a with
 |str s=>
  refine bf hv1 ?_
  clear hv1
  intro h1 hv1
  cases hv1
  refine el_EL hu ?_
  clear hu
  rintro t rfl
  have:=aM h1
  rw[aO]at hQ
  refine P.len_str (x:=mkS s) (by rw[am];exact Int.not_le.mpr (oI this)) ?_
  rw[am]
  exact hQ _ _ _ _ (.refl _) (R.tok _) ⟨_,rfl⟩
 |loc j=>
  refine aw (hv1:ob (nth h j) (λo=> @U9 (List V) (λZ=>Option Nat) (ob (oq o) λxs=>gd (okL xs) (some (len xs))) (λxs=>gd (okL xs) (some (len xs))) (eG o))=some m) ?_
  clear hv1
  intro o h2 hv1
  rw[ap]at h2
  cases o with
  |list xs=>
   refine bf (hv1:gd (okL xs) (some (len xs))=some m) ?_
   clear hv1
   intro h1 hv1
   cases hv1
   have:=aM h1
   refine el_EEEAAAL (jO R hu h2) ?_
   rintro a vs i rfl _ e2 e3
   rw[aO]at hQ
   have e4:vs.toArray.size=xs.length:=by rw[←e3.length];simp
   refine call_len_list (aG e2) (by rw[e4];exact oI this) ?_
   rw[e4]
   exact hQ _ _ _ _ (.refl _) (R.tok _) ⟨_,rfl⟩
  |tup xs=>
   refine bf (hv1:gd (okL xs) (some (len xs))=some m) ?_
   clear hv1
   intro h1 hv1
   cases hv1
   have:=aM h1
   refine el_EAL hu ?_
   clear hu
   rintro a g1 rfl
   refine el_EEAAEAL (R.led.at h2) ?_
   rintro a' b g2 g3 vs rfl e3
   cases g1.symm.trans g2
   rw[aO]at hQ
   have e4:vs.toArray.size=xs.length:=by rw[←e3.length];simp
   refine PyProof.Rows.len_tuple ⟨_,g3,rfl,_,rfl⟩ (by rw[e4];exact oI this) ?_
   rw[e4]
   exact hQ _ _ _ _ (.refl _) (R.tok _) ⟨_,rfl⟩
  |_=>exact nn hv1
 |_=>exact nn hv1
theorem rQ(A:AOk c n)(R:Rel Γ c d f lo h){vs:List V}{ws:List Value}(hw:VsR d.ρ vs ws)(hv:qF h vs=some (v,h'))(hQ:PostE Γ c d f lo h' v Q):
 wpAny Γ.M c.A (call (cF 3) ws) Q E d.s:=by
 refine el_EAL (aP hv) ?_
 rintro a rfl hv
 refine el_EAL hw.one ?_
 rintro w rfl hu
 refine bJ hv ?_
 clear hv
 intro m hv1 h2 hv
 replace hQ:=hQ.so hv
 clear hv
 have:=bS hv1
 subst this
 refine el_EL hu ?_
 clear hu
 rintro t rfl
 have ht:=rO m (Vg.mp h2)
 refine P.hex_of_int ?_ ?_
 · rw[←ht]
   exact hQ _ _ _ _ (.refl _) (R.tok _) ⟨_,rfl⟩
 · rw[←ht,am,ak]
   have hm:=Vg.mp h2
   have q:=jN 15 m (UQ hm (by decide))
   have q2:(iD 16 m).length≤16:=by
    rw[show iD 16 m=iD (15+1) m from rfl,q,Uk]
    exact toDigits_len_pow (by decide) (by decide) (UQ hm (by decide))
   exact UJ (Nat.add_le_add_right q2 2) (by decide)
theorem rR(A:AOk c n)(R:Rel Γ c d f lo h){vs:List V}{ws:List Value}(hw:VsR d.ρ vs ws)(hv:qG h vs=some (v,h'))(hQ:PostE Γ c d f lo h' v Q):
 wpAny Γ.M c.A (call (cF 4) ws) Q E d.s:=by
 refine el_EAL (aP hv) ?_
 rintro a rfl hv
 refine el_EAL hw.one ?_
 rintro w rfl hu
 refine aB hv ?_
 clear hv
 intro j hv1 xs hv2 z hv3 hv
 replace hQ:=hQ.so hv
 clear hv
 have:=aj hv1
 subst this
 refine el_EEEAAAL (jO R hu (av hv2)) ?_
 rintro a vs i rfl _ e2 e3
 exact rM A e2 e3 hv3 λh' tk t hk=>hQ _ _ _ _ (.refl _) (R.junk hk) ⟨_,rfl⟩
theorem rS(A:AOk c n)(R:Rel Γ c d f lo h){vs:List V}{ws:List Value}(hw:VsR d.ρ vs ws)(hv:qH h vs=some (v,h'))(hQ:PostE Γ c d f lo h' v Q):
 wpAny Γ.M c.A (call (cF 5) ws) Q E d.s:=by
 refine el_EEAL (gU hv) ?_
 rintro a b rfl hv
 refine el_EEAAL hw.two ?_
 rintro w w' rfl hu hu'
 refine aR hv ?_
 clear hv
 intro x hv1 y hv2 hv
 replace hQ:=hQ.so hv
 clear hv
 have:=aq hv1
 subst this
 have:=aq hv2
 subst this
 refine el_EL hu ?_
 clear hu
 rintro t rfl
 refine el_EL hu' ?_
 clear hu'
 rintro t' rfl
 refine max_two_ints A.hd λh' tk hk=> ?_
 refine hQ _ _ _ _ (.refl _) (R.junk hk) ?_
 cases q:iLt x y with
 |true=>
  have:=(cu _ _).mp q
  rw[bF,if_pos this];exact⟨_,rfl⟩
 |false=>
  have: ¬y>x:=λc=>by rw[(cu _ _).mpr c]at q;cases q
  rw[bL,if_neg this];exact⟨_,rfl⟩
theorem mF(A:AOk c n)(R:Rel Γ c d f lo h){vs:List V}{ws:List Value}(hw:VsR d.ρ vs ws)(hv:kq h vs=some (v,h'))(hQ:PostE Γ c d f lo h' v Q):
 wpAny Γ.M c.A (call (cF 6) ws) Q E d.s:=by
 refine el_EAL (aP hv) ?_
 rintro a rfl hv
 refine el_EAL hw.one ?_
 rintro w rfl hu
 refine dn hv ?_
 clear hv
 intro j hv1 xs hv2 hv3 hv
 rw[eM]at hv
 replace hQ:=hQ.so hv
 clear hv
 have:=aj hv1
 subst this
 refine el_EEEAAAL (jO R hu (av hv2)) ?_
 rintro a vs i rfl _ e2 e3
 have:=aM hv3
 have e4:=e3.length
 refine call_tuple_list (aG e2) (λh' hk=> ?_) (by rw[ak,TO,e4];exact kF this)
 have R':=R.junk (t:=d.s.toks) hk
 exact hQ _ _ _ _ (.push _ _) (R'.new (t:=d.s.toks) (o:= .tup xs) rfl ⟨vs,rfl,e3.ext (.push _ _)⟩) (bu R' _)
theorem rT(A:AOk c n)(R:Rel Γ c d f lo h){vs:List V}{ws:List Value}(hw:VsR d.ρ vs ws)(hv:qI h vs=some (v,h'))(hQ:PostE Γ c d f lo h' v Q):
 wpAny Γ.M c.A (call (cF 8) ws) Q E d.s:=by
 refine ae (gV hv) ?_
 intro hn hy
 subst hn
 have:=hw.nil_
 subst this
 rw[eM]at hy
 clear hv
 replace hQ:=hQ.so hy
 clear hy
 refine call_set_0 λled=> ?_
 exact hQ _ _ _ _ (.push _ _) (R.new (t:=d.s.toks) (o:= .set []) rfl (setObjOf_fresh led)) (bu R _)
theorem mG(A:AOk c n)(R:Rel Γ c d f lo h){vs:List V}{ws:List Value}(hw:VsR d.ρ vs ws)(hr:kr h vs=some (v,h'))(hQ:PostE Γ c d f lo h' v Q):
 wpAny Γ.M c.A (call (cF 2) ws) Q E d.s:=by
 cases hw with
 |nil=>exact nn hr
 |cons a1 r=>
  cases r with
  |nil=>
   refine aw hr ?_
   clear hr
   intro x hv1 hy
   rw[eM]at hy
   obtain⟨rfl,rfl⟩:=so2 hy
   have:=aq hv1
   subst this
   refine el_EL a1 ?_
   clear a1
   rintro t rfl
   refine call_range_1 ?_
   exact hQ _ _ _ _ (.push _ _) (R.new (t:=d.s.toks+1+1) (o:= .rng (.ofNat 0) x) rfl ⟨_,_,_,rfl⟩) (bu R _)
  |cons a2 r=>
   refine bB hr ?_
   clear hr
   intro g1 x hv1 hvX
   refine aw hvX ?_
   clear hvX
   intro y hv2 hy
   rw[eM]at hy
   obtain⟨rfl,rfl⟩:=so2 hy
   have:=aq hv1
   subst this
   have:=aq hv2
   subst this
   refine el_EL a1 ?_
   clear a1
   rintro t rfl
   refine el_EL a2 ?_
   clear a2
   rintro t' rfl
   cases r with
   |cons _ _=>exact ff g1
   |nil=>
    refine call_range_2 ?_
    exact hQ _ _ _ _ (.push _ _) (R.new (t:=d.s.toks+1) (o:= .rng x y) rfl ⟨_,_,_,rfl⟩) (bu R _)
theorem uG(A:AOk c n)(R:Rel Γ c d f lo h){k:Nat}{vs:List V}{ws:List Value}(hw:VsR d.ρ vs ws)(hv:qJ h k vs=some (v,h'))(hQ:PostE Γ c d f lo h' v Q):
 wpAny Γ.M c.A (call (cF k) ws) Q E d.s:=by
 unfold qJ at hv
 refine bcK hv (λe hv=> ?_) λ_ hv=> ?_
 · obtain rfl:=Tj e
   exact rP A R hw hv hQ
 refine bcK hv (λe hv=> ?_) λ_ hv=> ?_
 · obtain rfl:=Tj e
   exact rQ A R hw hv hQ
 refine bcK hv (λe hv=> ?_) λ_ hv=> ?_
 · obtain rfl:=Tj e
   exact rR A R hw hv hQ
 refine bcK hv (λe hv=> ?_) λ_ hv=> ?_
 · obtain rfl:=Tj e
   exact rS A R hw hv hQ
 refine bcK hv (λe hv=> ?_) λ_ hv=> ?_
 · obtain rfl:=Tj e
   exact mF A R hw hv hQ
 refine bcK hv (λe hv=> ?_) λ_ hv=> ?_
 · obtain rfl:=Tj e
   exact rT A R hw hv hQ
 refine bf hv ?_
 clear hv
 intro e hr
 obtain rfl:=Tj e
 exact mG A R hw hr hQ
end
end
section
open PySem.Builtin PySem.Builtin.Str PySem.StrLaws
theorem ez: ∀{a t r:T},jz a t=some r↔t=a++r
 |[],t,r=>⟨λh=>by cases(h:some t=some r);rfl,λh=>by rw[h];rfl⟩
 |x::a,[],r=>⟨λh=>(nomatch h),λh=>(nomatch h)⟩
 |x::a,y::t,r=>by
  show bc (Nat.beq x y) (jz a t) none=some r↔_
  cases q:Nat.beq x y with
  |true=>
   have:=Tj q
   subst this
   rw[bF,ez]
   exact⟨λh=>by rw[h];rfl,λh=>(List.cons.inj h).2⟩
  |false=>
   rw[bL]
   exact⟨λh=>(nomatch h),λh=>absurd (List.cons.inj h).1.symm (Th q)⟩
theorem uH(sep:T)(k:Nat)(cur:T):spl sep [] k cur=[cur]:=rfl
theorem rU(sep:T)(c:Nat)(r:T)(k:Nat)(cur:T):spl sep (c::r) (k+1) cur=spl sep r k cur:=rfl
theorem k9(sep:T)(c:Nat)(r cur:T):spl sep (c::r) 0 cur=bc (bo (jz sep (c::r))) (cur::spl sep r (Nat.pred (len sep)) []) (spl sep r 0 (app cur [c])):=rfl
theorem dv(s:T)(i j:Nat):strSub (mkS s) i j=mkS ((s.drop i).take (j-i)):=by
 show Str.mk (s.toArray.extract i j)=Str.mk _
 congr 1
 simp[List.extract_eq_take_drop]
theorem jh(s sep:T)(i:Nat)(hi:i+sep.length≤s.length):subAt (mkS s) (mkS sep) i=bo (jz sep (s.drop i)):=by
 have e1:subAt (mkS s) (mkS sep) i=decide ((s.drop i).take sep.length=sep):=by
  unfold subAt
  rw[am]
  show(s.toArray.extract i (i+sep.length)==sep.toArray)=_
  simp only[List.extract_toArray,List.extract_eq_take_drop]
  rw[Tc]
  by_cases q:(s.drop i).take sep.length=sep
  · rw[q];simp
  · rw[decide_eq_false q]
    apply Bool.eq_false_iff.mpr
    intro h
    have:=congrArg Array.toList (eq_of_beq h)
    exact q (by simpa using this)
 rw[e1]
 cases q:jz sep (s.drop i)with
 |some r=>rw[ez.mp q];simp[bo]
 |none=>
  have: ¬(s.drop i).take sep.length=sep:=λh=>by
   have:jz sep (s.drop i)=some ((s.drop i).drop sep.length):=ez.mpr (by conv=>lhs;rw[←List.take_append_drop sep.length (s.drop i)];rw[h])
   rw[q]at this;cases this
  rw[decide_eq_false this];rfl
theorem rV{a t r:T}(h:jz a t=some r):a.length≤t.length:=by rw[ez.mp h];simp
theorem fF{α:Type}{x:Option α}(h:bo x=true): ∃a,x=some a:=by cases x with|none=>cases h|some a=>exact⟨a,rfl⟩
theorem omA{n i:Nat}(h:i<n):n+1-i=n+1-(i+1)+1:=(Nat.succ_sub (UP h)).trans (congrArg Nat.succ (Nat.add_sub_add_right n 1 i).symm)
theorem omB{a i:Nat}(h:a≤i):i+1-a=i-a+1:=Nat.succ_sub h
theorem omC{a i:Nat}(h:i<a):a-i=a-(i+1)+1:=(TM (Nat.sub_pos_of_lt h)).symm
theorem omD{n i k:Nat}(h:k≤n-i)(q:i≤n):i+k≤n:=by omega
theorem omE{i k:Nat}:k-1=i+k-(i+1):=(Nat.add_sub_add_left i k 1).symm
theorem eY(s sep:T)(hw:1≤sep.length): ∀(t:T) (i nx a k:Nat) (arr:Array Nat) (cur:T),s.drop i=t→i≤s.length→nx≤s.length→arr.size≤i→
 ((nx≤i∧a≤i∧k=0∧cur=(s.drop a).take (i-a))∨(i<nx∧a=nx∧k=nx-i∧cur=[]))→
 ∃cs,(forIn (List.range' i (s.length+1-i)) (arr,nx) (occBody (mkS s) (mkS sep) s.length (s.length+1))).run.fst.toList=arr.toList++cs∧partsFrom (mkS s) sep.length a cs=(spl sep t k cur).map mkS
 |[],i,nx,a,k,arr,cur,ht,hi,hn,hs,hk=>by
  have hl:i=s.length:=Up hi (List.drop_eq_nil_iff.mp ht)
  subst hl
  rw[Tc]
  refine⟨[],?_,?_⟩
  · rw[show List.range' s.length 1=[s.length]from rfl,Uj]
    unfold occBody
    rw[if_neg (by rintro⟨⟨_,h⟩,_⟩;rw[am]at h;exact absurd (UJ (TD hw _) h) (Nat.not_succ_le_self _))]
    simp
  · rcases hk with qA|qA
    · refine aD qA ?_
      clear qA
      rintro h1 h2 rfl rfl
      show[strSub (mkS s) a (mkS s).length]=_
      rw[am,dv,uH];rfl
    · refine ae qA ?_
      clear qA
      intro h1 _
      exact absurd h1 (Vd.mpr hn)
 |c::r,i,nx,a,k,arr,cur,ht,hi,hn,hs,hk=>by
  have hl:i<s.length:=Nat.lt_of_not_le λh=>by rw[List.drop_eq_nil_of_le h]at ht;cases ht
  have ht':s.drop (i+1)=r:=by
   have:s.drop (i+1)=(s.drop i).drop 1:=by rw[List.drop_drop]
   rw[this,ht];rfl
  have hc:s[i]? =some c:=by
   have:(s.drop i)[0]? =some c:=by rw[ht];rfl
   simpa using this
  have er:List.range' i (s.length+1-i)=i::List.range' (i+1) (s.length+1-(i+1)):=by
   rw[omA hl];rfl
  rw[er,Uj]
  rcases hk with qA|qA
  · refine aD qA ?_
    clear qA
    rintro h1 h2 rfl hcur
    cases q:bo (jz sep (c::r))with
    |true=>
     refine el_EL (fF q) ?_
     intro x hx
     have hle:i+sep.length≤s.length:=by
      have h5:=rV hx
      rw[←ht,List.length_drop]at h5
      exact omD h5 hi
     have hb:occBody (mkS s) (mkS sep) s.length (s.length+1) i (arr,nx)=pure (ForInStep.yield (arr.push i,i+sep.length)):=by
      unfold occBody
      rw[if_pos ⟨⟨⟨Nat.lt_succ_of_le (UJ hs hi),h1⟩,by rw[am];exact hle⟩,by rw[jh _ _ _ hle,ht];exact q⟩,am]
     rw[hb,pure_bind]
     dsimp only
     have hk':Nat.pred (len sep)=(i+sep.length)-(i+1):=by rw[aO];exact omE
     obtain⟨cs,e1,e2⟩:=eY s sep hw r (i+1) (i+sep.length) (i+sep.length) (Nat.pred (len sep)) (arr.push i) [] ht' hl hle (by rw[Array.size_push];exact Ua hs)
      (by
       by_cases q1:sep.length=1
       · refine .inl ⟨by rw[q1];exact UY _,by rw[q1];exact UY _,by rw[hk',q1];exact Nat.sub_self _,?_⟩
         rw[q1,Nat.sub_self];rfl
       · exact .inr ⟨Nat.add_lt_add_left (Nat.lt_of_le_of_ne hw (Ne.symm q1)) i,rfl,hk',rfl⟩)
     refine⟨i::cs,?_,?_⟩
     · rw[e1];simp
     · show strSub (mkS s) a i::partsFrom (mkS s) sep.length (i+sep.length) cs=_
       rw[e2,k9,q,bF,dv,UB,hcur]
    |false=>
     have hb:occBody (mkS s) (mkS sep) s.length (s.length+1) i (arr,nx)=pure (ForInStep.yield (arr,nx)):=by
      unfold occBody
      rw[if_neg (by
       rintro⟨⟨_,h3⟩,h4⟩
       rw[am]at h3
       rw[jh _ _ _ h3,ht,q]at h4
       cases h4)]
     rw[hb,pure_bind]
     dsimp only
     obtain⟨cs,e1,e2⟩:=eY s sep hw r (i+1) nx a 0 arr (app cur [c]) ht' hl hn (TW hs)
      (.inl ⟨TW h1,TW h2,rfl,by
       rw[ay,hcur,omB h2,List.take_add_one]
       rw[List.getElem?_drop,Nat.add_sub_of_le h2,hc];rfl⟩)
     exact⟨cs,e1,by rw[e2,k9,q,bL]⟩
  · refine aD qA ?_
    clear qA
    rintro h1 rfl rfl rfl
    have hb:occBody (mkS s) (mkS sep) s.length (s.length+1) i (arr,a)=pure (ForInStep.yield (arr,a)):=by
     unfold occBody
     rw[if_neg (by rintro⟨⟨⟨_,h3⟩,_⟩,_⟩;exact Nat.not_le.mpr h1 h3)]
    rw[hb,pure_bind]
    dsimp only
    obtain⟨cs,e1,e2⟩:=eY s sep hw r (i+1) a a (a-(i+1)) arr [] ht' hl hn (TW hs)
     (by
      by_cases q1:a=i+1
      · subst q1
        exact .inl ⟨UY _,UY _,Nat.sub_self _,by rw[Nat.sub_self];rfl⟩
      · exact .inr ⟨Nat.lt_of_le_of_ne h1 (Ne.symm q1),rfl,rfl,rfl⟩)
    refine⟨cs,e1,?_⟩
    rw[e2,omC h1,rU]
theorem gW(s sep:T)(hw:1≤sep.length):partsBetween (mkS s) (occurrences (mkS s) (mkS sep) 0 (mkS s).length ((mkS s).length+1)) (mkS sep).length=(spl sep s 0 []).map mkS:=by
 refine el_EAL (eY s sep hw s 0 0 0 0 #[] [] rfl (U0 _) (U0 _) (UY _) (.inl ⟨UY _,UY _,rfl,rfl⟩)) ?_
 intro cs e1 e2
 rw[am,am,occ_eq,partsBetween_eq,←e2]
 congr 1
theorem rW(s sep:T)(h:s.length<sep.length):occurrences (mkS s) (mkS sep) 0 (mkS s).length ((mkS s).length+1)=[]:=by
 refine el_EL (occ_chain (mkS s) (mkS sep) ((mkS s).length+1)) ?_
 intro f hf
 cases q:occurrences (mkS s) (mkS sep) 0 (mkS s).length ((mkS s).length+1)with
 |nil=>rfl
 |cons c r=>
  rw[q]at hf
  have:=hf.2.1.1
  rw[am,am]at this
  exact absurd (UJ (Nat.le_add_left _ _) this) (Nat.not_le.mpr h)
theorem la{s:T}(h:mf s=true):TE (mkS s)=1:=by
 unfold TE
 have:(mkS s).cps.all (λx=>decide (x<256))=true:=by
  show s.toArray.all _=true
  simp only[List.all_toArray]
  induction s with
  |nil=>rfl
  |cons a s ih=>
   have h':bc (Nat.blt a 256) (mf s) false=true:=h
   rcases bO (x:=some (mf s)) (y:=some false) (z:=true) (b:=Nat.blt a 256) (by
    cases q:Nat.blt a 256 with
    |true=>rw[q]at h';exact congrArg some h'
    |false=>rw[q]at h';cases h')with⟨q,e⟩|⟨_,e⟩
   · rw[List.all_cons,ih (Ud e)]
     simp[Vg.mp q]
   · cases e
 rw[if_pos this]
set_option tactic.hygienic true in
theorem rX(s sep:T)(hw:aV sep=false)(h1:mf s=true)(h2:mf sep=true):Txt.split (mkS s) (mkS sep)=(spl sep s 0 []).map mkS:=by
 have hl:1≤sep.length:=by cases sep with|nil=>cases hw|cons _ _=>simp
 have key:=gW s sep hl
 have hz:(occurrences (mkS s) (mkS sep) 0 (mkS s).length ((mkS s).length+1)).isEmpty=true→[mkS s]=(spl sep s 0 []).map mkS:=λe=>by
  rw[←key,T4.mp e]
  show[mkS s]=[strSub (mkS s) 0 (mkS s).length]
  rw[am,dv]
  congr 2
  simp
 unfold Txt.split
 rw[la h1,la h2]
 by_cases q:(mkS s).length<(mkS sep).length
 · rw[if_pos (by simp[q])]
   refine hz ?_
   rw[am,am]at q
   rw[rW s sep q];rfl
 · rw[if_neg (by simp[q])]
   split
   · rename_i e;exact hz e
   · exact key
theorem gu(sep:T): ∀l:List T,Str.join (mkS sep) (l.map mkS)=mkS (dH sep l)
 |[]=>rfl
 |[a]=>rfl
 |a::b::r=>by
  show mkS a++mkS sep++Str.join (mkS sep) ((b::r).map mkS)=mkS (app a (app sep (dH sep (b::r))))
  rw[gu sep (b::r),ay,ay,cH,cH,TQ]
set_option tactic.hygienic true in
theorem uI(s r:T)(k:Nat):Txt.replace (mkS s) (mkS [k]) (mkS r)=mkS (dH r (spl [k] s 0 [])):=by
 have key:=gW s [k] (by simp)
 unfold Txt.replace
 have e1:((mkS [k]).length==0)=false:=rfl
 rw[e1,Bool.false_and,Bool.or_false]
 have e2:glued (mkS r) (partsBetween (mkS s) (occurrences (mkS s) (mkS [k]) 0 (mkS s).length ((mkS s).length+1)) (mkS [k]).length)=mkS (dH r (spl [k] s 0 [])):=by
  rw[key,glued_eq_join,gu]
 split
 · rename_i e
   rw[←e2,T4.mp e]
   show mkS s=glued (mkS r) [strSub (mkS s) 0 (mkS s).length]
   rw[glued_eq_join,am,dv]
   show mkS s=mkS ((s.drop 0).take (s.length-0))
   congr 1;simp
 · exact e2
end
section
variable{prog:Program}{w:World}{A:Around}{E:Value→Shared→Prop}{s:Shared}
theorem gX{a:Addr}{o:Obj}{id:String}{self:Value}{args:List Value}{B:Builtin}{Q:Value→Shared→Prop}(ho:s.heap.get? a=some o)(hc:o.cls= .type "builtin_function_or_method")(hd:o.data= .fields #[.builtin id,self])
 (hq:plainId id=true)(hb:entryFor table id=some B)(ck: ∀A' P E',P () s→wpAny (model prog w) A' (checkBoundCall id ⟨self::args,[]⟩) P E' s)
 (h:wpAny (model prog w) A.in1 (B ⟨self::args,[]⟩) (λfin s'=>match fin with| .done f=>wants Q E (.ok f) s'| .again c'=>c'.quiet=true∧codeAny (model prog w) A c' (wants Q E) s') (λe s'=>wants Q E (.error e) s') s):
 wpAny (model prog w) A (call (.ref a) args) Q E s:=by
 refine Vi (codeAny_of_tree ?_)
 show wpAny _ A.in1 (callAny (.ref a) ⟨args,[]⟩) _ _ s
 simp only[callAny]
 refine U7 (wpAny_load ho ?_)
 simp only[hd,hc]
 rw[if_pos (by decide)]
 simp only[List.getElem?_toArray,List.getElem?_cons_zero,Td]
 rw[if_pos (by decide)]
 refine U7 (ck _ _ _ ?_)
 refine U7 (U8 (U8 ?_))
 exact⟨plainId_quiet hq _,Um hb (by rw[Tx hq];exact h)⟩
theorem uJ{x:Str}{t:Tok}{D:Addr}:checkBoundCall "str.join" ⟨[.str x t,.ref D],[]⟩=pure ():=by first|kernel_rfl|rfl
theorem oX{a D:Addr}{o:Obj}{x:Str}{t:Tok}{l:List (Str×Tok)}{texts:List Str}{Q:Value→Shared→Prop}(ho:s.heap.get? a=some o)(hc:o.cls= .type "builtin_function_or_method")(hd:o.data= .fields #[.builtin "str.join",.str x t])
 (hl:s.heap.IsList D (strValues l).toArray)(ht:l.map (·.1)=texts)(hok:JoinOk x texts=true)
 (hq: ∀t' k,Q (.str (Txt.join x texts) t') {s with toks:=k}):wpAny (model prog w) A (call (.ref a) [.ref D]) Q E s:=by
 subst ht
 unfold JoinOk at hok
 rw[Bool.not_eq_true']at hok
 refine gX ho hc hd F.slot_str_join.plain F.entry_str_join (λA' P E' h=>by rw[uJ];exact U8 h) ?_
 exact meets_str_join_list x t D l hok prog w A (wants Q E) s ⟨hl,post_join l ⟨joinFit_length hok,hq⟩⟩
theorem lb{a D:Addr}{o:Obj}{y:Value}{its:Array Value}{n:Nat}{Q:Value→Shared→Prop}(ho:s.heap.get? a=some o)(hc:o.cls= .type "builtin_function_or_method")(hd:o.data= .fields #[.builtin "list.append",.ref D])
 (hD:s.heap.get? D=some (Vv its n))(h: ∀h',UM D s.heap h'→h'.get? D=some (Vv (its.push y) (n+1))→Q .none {s with heap:=h'})
 (hsz:its.size≤sizeLine):wpAny (model prog w) A (call (.ref a) [y]) Q E s:=by
 refine gX ho hc hd slot_list_append.plain entry_list_append (λA' P E' hp=> ?_) ?_
 · have hT:s.TypeIs (.ref D) "list":=⟨_,hD,rfl⟩
   obtain⟨sig,hs,hck⟩: ∃sig,Manifest.signature? "list.append"=some sig∧ ∀y,Bind.checkArgs "list.append" {sig with full:=toString (Bind.lastOf "list")++toString "."++toString (Bind.lastOf "list.append")} ⟨[.ref D,y],[]⟩=pure ():=
    ⟨Option.get (Manifest.signature? "list.append") (by kernel_rfl),(Option.some_get _).symm,λy=>by kernel_rfl⟩
   unfold checkBoundCall
   simp only[hs,show builtinKind "list.append"=some .method from by decide+kernel]
   rw[if_neg (by decide+kernel)]
   refine U7 (T8 (b:=false) hT (by rw[Us];kernel_rfl) ?_)
   rw[if_neg (by decide+kernel)]
   refine U7 ?_
   unfold isType
   refine U7 (wpAny_loadPart hD (U8 ?_))
   rw[if_neg (by show¬(false=true);decide)]
   refine U7 (UU hT ?_)
   dsimp only
   exact UZ (a:=()) (hck y) hp
 · show wpAny _ _ (updateSeq D (·.push y)>>=λZ=>ret .none) _ _ s
   refine U7 ?_
   refine Un hD rfl (U8 (h _ (TA ..) ?_)) hsz
   rw[Tm _ hD (by rw[mapSeq_push];rfl),mapSeq_push]
end
section
variable{Γ:Gl}{c:St0}{d:Dy}{f:Frm}{lo:Lo}{h:H}{n:Nat}{ih:Ih}
theorem oY:mkS mi=UK "join":=by decide+kernel
theorem gY:mkS gi=UK "split":=by decide+kernel
theorem lg:mkS kt=UK "get":=by decide+kernel
theorem rY:mkS qK=UK "pop":=by decide+kernel
theorem rZ:mkS qL=UK "add":=by decide+kernel
noncomputable def cw:Nat→String
 |0=>"str.join"|1=>"str.split"|2=>"dict.get"|3=>"list.append"|4=>"list.pop"|5=>"dict.get"|_=>"set.add"
section
variable{E:Value→Shared→Prop}{v:V}{h':H}{p:Pos}{b:Bool}{Q:Value→Shared→Prop}
theorem FV(D:DOk Γ){x:T}{w:Value}{m:Nat}{pl:Sem Bool}{Q:Value×List Value→Shared→Prop}(R:Rel Γ c d f lo h)(hw:VR d.ρ v w)(hm:qP Γ.g h v x=some m)(hQ:Q (.builtin (cw m),[w]) d.s):
 wpAny Γ.M c.A (getMethod w (mkS x) pl) Q E d.s:=by
 cases v with
 |str s=>
  refine el_EL hw ?_
  clear hw
  rintro t rfl
  rcases bO (hm:bc (tEq x mi) (some 0) (gd (tEq x gi) (some 1))=some m)with qA|qA
  · refine ae qA ?_
    clear qA
    intro e hm
    obtain rfl:=Ud hm
    rw[au.mp e,oY]
    exact GM.join hQ
  · refine ae qA ?_
    clear qA
    intro _ hm
    refine bf hm ?_
    clear hm
    intro e hm
    obtain rfl:=Ud hm
    rw[au.mp e,gY]
    exact GM.split hQ
 |top a=>
  cases hw
  refine aW (hm:gd (tEq x kt) (gd (bo (atN a Γ.g.dicts)) (some 2))=some m) ?_
  clear hm
  intro e e2 hm
  obtain rfl:=Ud hm
  refine el_EL (fF e2) ?_
  intro es he
  rw[au.mp e,lg]
  refine el_EAAL (D.o _ _ he) ?_
  intro ob h1 h2 h3
  have h4:=R.gb.K.keeps R.fr.keep _ _ h1
  exact TT ⟨_,h4,h2⟩ PySem.F.plainAttrs_dict To PySem.F.type_dict_get (λb e=>by cases e;exact⟨_,h4,h3⟩) hQ
 |loc k=>
  refine el_EAL hw ?_
  clear hw
  rintro a h1 rfl
  refine aw (hm:ob (nth h k) _=some m) ?_
  clear hm
  intro o h2 hm
  rw[ap]at h2
  refine el_EEAAL (R.led.at h2) ?_
  intro a' b g1 g2 g3
  rw[h1]at g1;cases g1
  cases o with
  |list xs=>
   refine el_EEAL g3 ?_
   clear g3
   rintro vs j rfl _
   have hT:d.s.TypeIs (.ref a) "list":=⟨_,g2,rfl⟩
   have hn: ∀b,Value.ref a= .ref b→ ∃ob,d.s.heap.get? b=some ob∧ob.dict=none:=λb e=>by cases e;exact⟨_,g2,rfl⟩
   rcases bO (hm:bc (tEq x dT) (some 3) (gd (tEq x qK) (some 4))=some m)with qA|qA
   · refine ae qA ?_
     clear qA
     intro e hm
     obtain rfl:=Ud hm
     rw[au.mp e,fW]
     exact TT hT PySem.F.plainAttrs_list PySem.F.slot_list_append PySem.F.type_list_append hn hQ
   · refine ae qA ?_
     clear qA
     intro _ hm
     refine bf hm ?_
     clear hm
     intro e hm
     obtain rfl:=Ud hm
     rw[au.mp e,rY]
     exact TT hT PySem.F.plainAttrs_list PySem.F.slot_list_pop PySem.F.type_list_pop hn hQ
  |sd es=>
   refine el_EEAL g3 ?_
   clear g3
   rintro ds j rfl _
   have hT:d.s.TypeIs (.ref a) "dict":=⟨_,g2,rfl⟩
   have hn: ∀b,Value.ref a= .ref b→ ∃ob,d.s.heap.get? b=some ob∧ob.dict=none:=λb e=>by cases e;exact⟨_,g2,rfl⟩
   refine bf (hm:gd (tEq x kt) (some 5)=some m) ?_
   clear hm
   intro e hm
   obtain rfl:=Ud hm
   rw[au.mp e,lg]
   exact TT hT PySem.F.plainAttrs_dict To PySem.F.type_dict_get hn hQ
  |set xs=>
   have hT:d.s.TypeIs (.ref a) "set":=⟨_,g2,g3.1.1⟩
   have hn: ∀b,Value.ref a= .ref b→ ∃ob,d.s.heap.get? b=some ob∧ob.dict=none:=λb e=>by cases e;exact⟨_,g2,g3.1.2.1⟩
   refine bf (hm:gd (tEq x qL) (some 6)=some m) ?_
   clear hm
   intro e hm
   obtain rfl:=Ud hm
   rw[au.mp e,rZ]
   exact TT hT PySem.F.plainAttrs_set PySem.F.slot_set_add PySem.F.type_set_add hn hQ
  |_=>exact nn hm
 |_=>exact nn hm
theorem lh{ρ:List Addr}{r:Option V}{w':Option Value}(o:OptR r w'){e:V}{we:Value}(he:VR ρ e we):VR ρ (nB e r) (w'.getD we):=by
 cases r with
 |none=>cases(o:w'=none);exact he
 |some v=>obtain⟨w,rfl,h⟩:=(o: ∃w,w'=some w∧VR [] v w);exact h.ext0
theorem uK{ρ:List Addr}{l:List V}{ws:List Value}(hr:VsR ρ l ws): ∀{ts:List T},yR l=some ts→ ∃ps:List (Str×Tok),ws=strValues ps∧ps.map (·.1)=ts.map mkS:=by
 induction hr with
 |nil=>intro _ h;cases(h:some ([]:List T)=some _);exact⟨[],rfl,rfl⟩
 | @cons v w l ws hv r ih=>
  intro ts h
  refine aR (h:ob (aT v) (λs=>ob (yR l) λr=>some (s::r))=some ts) ?_
  clear h
  intro s h1 q h2 hz
  obtain rfl:=Ud hz
  rw[ar h1]at hv
  refine el_EL hv ?_
  clear hv
  rintro t rfl
  refine el_EAL (ih h2) ?_
  rintro ps rfl e
  exact⟨(mkS s,t)::ps,rfl,by rw[UB,e];rfl⟩
theorem r3{x:T}{ts:List T}(h1:(dH x ts).length≤4000)(h2:ts.length≤4000)(h3:x.length<100):JoinOk (mkS x) (ts.map mkS)=true:=by
 unfold JoinOk
 have hb: ∀y∈ts.map mkS,y.length≤4000:=λy hy=>by
  have:=join_mem_le (mkS x) _ _ hy
  rw[gu,am]at this
  exact UJ this h1
 rw[StrLaws.joinFits (B:=4000) hb ?_];rfl
 · rw[Uk,am]
   have a:ts.length*4000≤4000*4000:=Nat.mul_le_mul_right _ h2
   exact UJ (Nat.add_le_add a (Nat.mul_le_mul h2 (UP h3))) (by decide)
theorem lj{x:T}{vs:List V}(R:Rel Γ c d f lo h){ws:List Value}(hw:VsR d.ρ vs ws){r:V×H}(hv:qM h x vs=some r)(hQ:PostE Γ c d f lo r.2 r.1 Q):
 ∃D l ts,ws=[.ref D]∧d.s.heap.IsList D (strValues l).toArray∧l.map (·.1)=ts∧JoinOk (mkS x) ts=true∧(∀t' k,Q (.str (Txt.join (mkS x) ts) t') {d.s with toks:=k}):=by
 refine el_EAL (aP hv) ?_
 rintro a rfl hv
 refine aB hv ?_
 clear hv
 intro k h1 l h2 ts h3 hvX
 refine aW hvX ?_
 clear hvX
 intro h6 h4 hvX
 refine bf hvX ?_
 clear hvX
 intro h5 hv
 replace hQ:=hQ.so1 hv
 clear hv
 have:=aj h1
 subst this
 refine el_EAL hw.one ?_
 rintro w rfl hu
 refine el_EEEAAAL (jO R hu (av h2)) ?_
 rintro a vs j rfl _ e2 e3
 refine el_EAL (uK e3 h3) ?_
 rintro ps rfl e4
 refine⟨a,ps,ts.map mkS,rfl,aG e2,e4,?_,λt' k=> ?_⟩
 · rw[aO]at h6
   exact r3 (aM h4) (aM h5) (Vg.mp h6)
 · have:Txt.join (mkS x) (ts.map mkS)=mkS (dH x ts):=by
    show Builtin.Str.glued _ _=_
    rw[StrLaws.glued_eq_join,gu]
   rw[this]
   exact hQ _ _ _ _ (.refl _) (R.tok _) ⟨_,rfl⟩
theorem yn{ρ:List Addr}: ∀(ts:List T) (l:List (Str×Tok)),l.map (·.1)=ts.map mkS→VsR ρ (mp V.str ts) (strValues l)
 |[],[],_=> .nil
 |t::ts,(x,u)::l,e=>by
  rw[UB,UB,List.cons.injEq]at e
  exact .cons ⟨u,by show Value.str x u=_;rw[show x=mkS t from e.1]⟩ (yn ts l e.2)
 |[],_::_,e=>by simp at e
 |_::_,[],e=>by simp at e
theorem uL{ρ:List Addr}{xs:List V}{vs:List Value}{y:V}(hr:VsR ρ xs vs):xS xs=some y→ ∃q w,vs=q++[w]∧VR ρ y w∧VsR ρ (xU xs) q:=by
 induction hr with
 |nil=>intro h;cases h
 | @cons v w r ws ha hr ih=>
  cases hr with
  |nil=>
   intro h
   obtain rfl:=Ud (h:some v=some y)
   exact⟨[],_,rfl,ha,.nil⟩
  |cons hb hr=>
   intro h
   refine el_EEAAL (ih h) ?_
   intro q w e h1 h2
   exact⟨_::q,w,by rw[e];rfl,h1,.cons ha h2⟩
theorem ji: ∀(q:List Value) (y:Value),(q++[y]).eraseIdx q.length=q
 |[],_=>rfl
 |x::q,y=>by show x::(q++[y]).eraseIdx q.length=_;rw[ji q y]
theorem oZ{w:Value}{vs:List V}{ws:List Value}(R:Rel Γ c d f lo h)(hw:VR d.ρ v w)(hws:VsR d.ρ vs ws){r:V×H}(h1:(ob (aT v) λs=>qO h s vs)=some r)(hQ:PostE Γ c d f lo r.2 r.1 Q):
 wpAny Γ.M c.A (call (.builtin (cw 1)) (w::ws)) Q E d.s:=by
 refine aw h1 ?_
 clear h1
 intro s e1 h1
 have:=ar e1
 subst this
 refine el_EL hw ?_
 clear hw
 rintro t rfl
 refine el_EAL (aP h1) ?_
 intro a ev k1
 refine bJ k1 ?_
 clear k1
 intro sep e2 g1 hvX
 refine aW hvX ?_
 clear hvX
 intro g2 g3 hvX
 refine aW hvX ?_
 clear hvX
 intro g4 g5 k7
 rw[eM]at k7
 obtain rfl:=Ud k7
 subst ev
 have:=ar e2
 subst this
 refine el_EAL hws.one ?_
 rintro w rfl hu
 refine el_EL hu ?_
 clear hu
 rintro u rfl
 have hn:aV sep=false:=by rw[bg]at g1;simpa using g1
 have hl:1≤sep.length:=by cases sep with|nil=>cases hn|cons _ _=>simp
 have hz:=aM g2
 have hp:=aM g5
 have es:=rX s sep hn g3 g4
 have ep:=gW s sep hl
 have fin: ∀(l:List (Str×Tok)) (k:Nat),l.map (·.1)=Txt.split (mkS s) (mkS sep)→Q (.ref d.s.heap.objs.size) {d.s with heap:=d.s.heap.push {cls:= .type "list",data:= .seq (strValues l).toArray},toks:=k}:=λl k e=>by
  rw[es]at e
  exact hQ _ _ _ _ (.push _ _) (R.new (t:=k) (o:= .list (mp V.str (spl sep s 0 []))) rfl ⟨_,0,rfl,(yn _ l e)⟩) (bu R _)
 cases h1:(decide ((mkS s).length<(mkS sep).length)||decide (TE (mkS s)<TE (mkS sep)))
 · cases hf:(Te (mkS s) (mkS sep) 0 (mkS s).length ((mkS s).length+1)).isEmpty
   · refine call_meets F.slot_str_split (typeIs_str _ _ _) F.entry_str_split (F.args_str_split_2 _ _) (meets_str_split_sep (mkS s) (mkS sep) t u h1 (by rw[am];exact beq_eq_false_iff_ne.mpr (ne0 hl)) hf (by rw[am,ak];exact kF hz) (by rw[ep,Uk,ak];omega)) ?_
     show wants Q E _ {d.s with toks:=_,heap:=d.s.heap.push {cls:= .type "list",data:= .seq (strsFrom d.s.toks (Builtin.Str.partsBetween (mkS s) (Te (mkS s) (mkS sep) 0 (mkS s).length ((mkS s).length+1)) (mkS sep).length)).toArray}}
     rw[strsFrom_eq]
     exact fin _ _ ((numbered_texts _ _).trans ((if_neg (ne_true_of_eq_false h1)).trans (if_neg (ne_true_of_eq_false hf))).symm)
   · exact call_meets F.slot_str_split (typeIs_str _ _ _) F.entry_str_split (F.args_str_split_2 _ _) (meets_str_split_not_found (mkS s) (mkS sep) t u h1 (by rw[am];exact beq_eq_false_iff_ne.mpr (ne0 hl)) hf)
      (fin [(mkS s,t)] _ ((if_neg (ne_true_of_eq_false h1)).trans (if_pos hf)).symm)
 · exact call_meets F.slot_str_split (typeIs_str _ _ _) F.entry_str_split (F.args_str_split_2 _ _) (meets_str_split_cannot_occur (mkS s) (mkS sep) t u h1)
    (fin [(mkS s,t)] _ (if_pos h1).symm)
theorem uM(D:DOk Γ){w:Value}{vs:List V}{ws:List Value}(R:Rel Γ c d f lo h)(hw:VR d.ρ v w)(hws:VsR d.ρ vs ws){r:V×H}(h1:(ob (asTop v) λa=>gd (Nat.blt 1 a)<|ob (atN a Γ.g.dicts) λd=>EV h d vs)=some r)(hQ:PostE Γ c d f lo r.2 r.1 Q):
 wpAny Γ.M c.A (call (.builtin (cw 2)) (w::ws)) Q E d.s:=by
 refine bJ h1 ?_
 clear h1
 intro a e1 g1 hvX
 refine aw hvX ?_
 clear hvX
 intro es e2 k3
 have:=bT e1
 subst this
 cases hw
 have hsys:(a==sysModules)=false:=by
  exact yb (Vg.mp g1)
 cases hws with
 |nil=>exact nn k3
 | @cons k wk vs ws hk hr=>
  refine bB k3 ?_
  clear k3
  intro g2 r' e3 k5
  have hX:=R.gb.K.keeps R.fr.keep
  have go: ∀{K:Type} [DecidableEq K] (knd:KeyKind Γ.prog Γ.w K) (k:K) (g:K→Option Value),knd.is k wk=true→d.s.heap.MapOf knd a g→OptR r' (g k)→wpAny Γ.M c.A (call (.builtin (cw 2)) (.ref a::wk::ws)) Q E d.s:=by
   intro K _ knd k g hkey hm hr'
   cases hr with
   |nil=>
    obtain rfl:=Ud k5
    exact call_meetsIn To hm.typeIs PySem.F.entry_dict_get (PySem.F.args_dict_get_2 _ _) (meets_dict_get knd a hkey hsys) ⟨g,hm,hQ.tok R (lh hr' rfl) _⟩
   |cons hd hr=>
    refine bf k5 ?_
    clear k5
    intro g3 k6
    obtain rfl:=Ud k6
    cases hr with
    |cons _ _=>exact ff g3
    |nil=>exact call_meetsIn To hm.typeIs PySem.F.entry_dict_get (PySem.F.args_dict_get_3 _ _ _) (meets_dict_get_default knd a hkey hsys _) ⟨g,hm,hQ.tok R (lh hr' hd) _⟩
  cases k with
  |str x=>
   refine el_EL hk ?_
   clear hk
   rintro t rfl
   refine el_EAL (D.s _ _ e2 _ _ e3 _ hX) ?_
   intro g q1 q2
   exact go _ _ g (Vh _ _ _ _) q1 q2
  |int x=>
   refine el_EL hk ?_
   clear hk
   rintro t rfl
   refine el_EAL (D.i _ _ e2 _ _ e3 _ hX) ?_
   intro g q1 q2
   exact go _ _ g (intKind_is _ _ _ _) q1 q2
  |_=>exact ff g2
theorem uN{ws:List Value}{vs:List V}{k:Nat}{a:Addr}{b:Obj}{o:O}(R:Rel Γ c d f lo h)(hws:VsR d.ρ vs ws){r:V×H}(e2:h[k]? =some o)(q1:d.ρ[k]? =some a)(g2:d.s.heap.get? a=some b)(g3:OR Γ.D d.ρ d.ξ o b)(h1:(ob (eG o) λxs=>tT h k xs vs)=some r)(hQ:PostE Γ c d f lo r.2 r.1 Q):
 wpAny Γ.M c.A (call (.builtin (cw 3)) (.ref a::ws)) Q E d.s:=by
 refine aw h1 ?_
 clear h1
 intro xs e3 y1
 have:=eJ e3
 subst this
 refine el_EAL (aP y1) ?_
 rintro y rfl y2
 refine bf y2 ?_
 clear y2
 intro g4 y3
 obtain rfl:=Ud y3
 refine el_EAL hws.one ?_
 rintro wy rfl hy
 refine el_EEAL g3 ?_
 clear g3
 rintro vs j rfl e4
 have hz:=aM g4
 have e5:=e4.length
 refine append_at g2 (λh2 hs ho=> ?_) (by rw[ak,TO,e5];exact kF hz)
 rw[aU,ay]at hQ
 exact hQ _ _ _ _ (.refl _) (R.set (t:=d.s.toks) q1 ho ⟨vs++[wy],j+1,by rw[List.push_toArray],e4.append (.cons hy .nil)⟩ hs) rfl
theorem uO{ws:List Value}{vs:List V}{k:Nat}{a:Addr}{b:Obj}{o:O}(R:Rel Γ c d f lo h)(hws:VsR d.ρ vs ws){r:V×H}(e2:h[k]? =some o)(q1:d.ρ[k]? =some a)(g2:d.s.heap.get? a=some b)(g3:OR Γ.D d.ρ d.ξ o b)(h1:(ob (eG o) λxs=>EW h k xs vs)=some r)(hQ:PostE Γ c d f lo r.2 r.1 Q):
 wpAny Γ.M c.A (call (.builtin (cw 4)) (.ref a::ws)) Q E d.s:=by
 refine aw h1 ?_
 clear h1
 intro xs e3 y4
 have:=eJ e3
 subst this
 refine ae (gV y4) ?_
 rintro rfl y5
 refine bB y5 ?_
 clear y5
 intro g4 y e6 y7
 obtain rfl:=Ud y7
 have:=hws.nil_
 subst this
 refine el_EEAL g3 ?_
 clear g3
 rintro vs j rfl e4
 have hz:=aM g4
 have e5:=e4.length
 refine el_EEAAL (uL e4 e6) ?_
 rintro q wy rfl hy hi
 have hk:(q++[wy]).toArray.size-1=q.length:=by simp
 have hy':(q++[wy]).toArray[(q++[wy]).toArray.size-1]? =some wy:=by rw[hk];simp
 rw[aU]at hQ
 refine call_meets PySem.F.slot_list_pop ⟨_,g2,rfl⟩ PySem.F.entry_list_pop (PySem.F.args_list_pop_1 _) (PySem.MeetsSeq.list_pop_last a _ j wy hy' (by rw[ak];simp at e5⊢;omega)) ⟨g2,?_⟩
 have up:=PySem.IsL.update g2 (λxs:Array Value=>xs.eraseIdxIfInBounds ((q++[wy]).toArray.size-1))
 have er:((q++[wy]).toArray.eraseIdxIfInBounds ((q++[wy]).toArray.size-1))=q.toArray:=by
  rw[hk];simp[Array.eraseIdxIfInBounds]
  exact ji q wy
 rw[er,if_neg (by simp)]at up
 exact hQ _ _ _ _ (.refl _) (R.set (t:=d.s.toks) q1 up ⟨q,j+1,rfl,hi⟩ (TA ..)) hy
theorem zR{ws:List Value}{vs:List V}{k:Nat}{a:Addr}{b:Obj}{o:O}(R:Rel Γ c d f lo h)(hws:VsR d.ρ vs ws){r:V×H}(e2:h[k]? =some o)(q1:d.ρ[k]? =some a)(g2:d.s.heap.get? a=some b)(g3:OR Γ.D d.ρ d.ξ o b)(h1:(ob (oSd o) λes=>EY h es vs)=some r)(hQ:PostE Γ c d f lo r.2 r.1 Q):
 wpAny Γ.M c.A (call (.builtin (cw 5)) (.ref a::ws)) Q E d.s:=by
 refine aw h1 ?_
 clear h1
 intro es e3 y8
 have:=kl e3
 subst this
 refine el_EAL (aP y8) ?_
 rintro y rfl y9
 refine bJ y9 ?_
 clear y9
 intro x e4 g4 y11
 obtain rfl:=Ud y11
 have:=ar e4
 subst this
 refine el_EAL hws.one ?_
 rintro wy rfl hy
 refine el_EL hy ?_
 clear hy
 rintro t rfl
 refine el_EEAL g3 ?_
 clear g3
 rintro ds j rfl e5
 have hsys:(a==sysModules)=false:=by
  have:=(R.led.new a (Tq q1)).2.2
  exact beq_eq_false_iff_ne.mpr (λe=>by rw[e]at this;exact absurd this (by decide))
 have hm:=e5.mapOf (prog:=Γ.prog) (w:=Γ.w) g2
 refine call_meetsIn To hm.typeIs PySem.F.entry_dict_get (PySem.F.args_dict_get_2 _ _) (meets_dict_get (strKind Γ.prog Γ.w) a (Vh _ _ (mkS x) t) hsys) ⟨_,hm,hQ.tok R ?_ _⟩
 cases q:look x es with
 |none=>rw[e5.find_none q];rfl
 |some v'=>
  refine el_EAL (e5.find q) ?_
  intro w' z1 z2
  rw[z1];exact z2
theorem uP{ws:List Value}{vs:List V}{k:Nat}{a:Addr}{b:Obj}{o:O}(R:Rel Γ c d f lo h)(hws:VsR d.ρ vs ws){r:V×H}(e2:h[k]? =some o)(q1:d.ρ[k]? =some a)(g2:d.s.heap.get? a=some b)(g3:OR Γ.D d.ρ d.ξ o b)(h1:(ob (yM o) λxs=>EX h k xs vs)=some r)(hQ:PostE Γ c d f lo r.2 r.1 Q):
 wpAny Γ.M c.A (call (.builtin (cw 6)) (.ref a::ws)) Q E d.s:=by
 refine aw h1 ?_
 clear h1
 intro xs e3 h1
 have:=ot e3
 subst this
 refine el_EAL (aP h1) ?_
 rintro y rfl y12
 refine bJ y12 ?_
 clear y12
 intro x e4 g4 y14
 obtain rfl:=Ud y14
 have:=ar e4
 subst this
 refine el_EAL hws.one ?_
 rintro wy rfl hy
 refine el_EL hy ?_
 clear hy
 rintro t rfl
 cases xs with
 |cons _ _=>exact ff g4
 |nil=>
  have hS:d.s.heap.SetOf (strKind Γ.prog Γ.w) a _ _:=Obj.SetObjOf.setOf g3 g2 (by decide)
  refine call_set_add (knd:=strKind Γ.prog Γ.w) (k:=mkS x) (Vh _ _ _ _) rfl hS (by decide) λh2 hs hS'=> ?_
  refine el_EAL hS'.objOf ?_
  intro o ho hso
  rw[aU]at hQ
  refine hQ _ _ _ _ (.refl _) (R.set (t:=d.s.toks+1) q1 ho ?_ hs) rfl
  have e6:(λk':Str=>(([]:List T).any λx=>mkS x==k')||decide (k'=mkS x))=λk'=>[x].any λx=>mkS x==k':=by
   funext k'
   have:(mkS x==k')=decide (k'=mkS x):=by
    by_cases q:k'=mkS x
    · subst q;simp
    · rw[decide_eq_false q];exact beq_eq_false_iff_ne.mpr λe=>q e.symm
   simp[this]
  rw[e6]at hso
  exact hso
theorem r4(D:DOk Γ){m:Nat}{w:Value}{vs:List V}{ws:List Value}(R:Rel Γ c d f lo h)(hw:VR d.ρ v w)(hws:VsR d.ρ vs ws){r:V×H}(hv:jB Γ.g h m v vs=some r)(hQ:PostE Γ c d f lo r.2 r.1 Q):
 wpAny Γ.M c.A (call (.builtin (cw m)) (w::ws)) Q E d.s:=by
 refine bcK hv (λe h1=> ?_) λ_ hv=> ?_
 · obtain rfl:=Tj e
   refine aw h1 ?_
   clear h1
   intro s e1 h1
   have:=ar e1
   subst this
   refine el_EL hw ?_
   clear hw
   rintro t rfl
   refine el_EEEAAAL (lj R hws h1 hQ) ?_
   intro a l ts qX30 q1 q2 qX
   refine ae qX ?_
   clear qX
   intro q3 q4
   subst qX30
   exact SC.join q1 q2 q3 q4
 refine bcK hv (λe h1=> ?_) λ_ hv=> ?_
 · obtain rfl:=Tj e
   exact oZ R hw hws h1 hQ
 refine bcK hv (λe h1=> ?_) λ_ hv=> ?_
 · obtain rfl:=Tj e
   exact uM D R hw hws h1 hQ
 refine aR hv ?_
 clear hv
 intro k e1 o e2 z2
 rw[ap]at e2
 have:=aj e1
 subst this
 refine el_EAL hw ?_
 clear hw
 rintro a q1 rfl
 refine el_EEAAL (R.led.at e2) ?_
 intro a' b g1 g2 g3
 rw[q1]at g1;cases g1
 refine bcK z2 (λe h1=> ?_) λ_ z3=> ?_
 · obtain rfl:=Tj e
   exact uN R hws e2 q1 g2 g3 h1 hQ
 refine bcK z3 (λe h1=> ?_) λ_ z4=> ?_
 · obtain rfl:=Tj e
   exact uO R hws e2 q1 g2 g3 h1 hQ
 refine bcK z4 (λe h1=> ?_) λ_ z5=> ?_
 · obtain rfl:=Tj e
   exact zR R hws e2 q1 g2 g3 h1 hQ
 refine bf z5 ?_
 clear z5
 intro e z6
 obtain rfl:=Tj e
 exact uP R hws e2 q1 g2 g3 z6 hQ
end
end
section
variable{Γ:Gl}{c:St0}{d:Dy}{f:Frm}{lo:Lo}{h:H}{n:Nat}{ih:Ih}
set_option tactic.hygienic true in
theorem yo{M:Model}{K:Frag}{h:Heap}{a:Addr}(hf:fnIn K a=true)(X:K.In h):Kp M h (.ref a):=by
 unfold fnIn at hf
 split at hf
 · rename_i e
   exact⟨.frame,.inl rfl,(Looks.ld (part:=none) (X _ _ e)).andThen .now⟩
 · cases hf
theorem yp{M:Model}{h:Heap}{a:Addr}{o:Obj}{vs:Array Value}(ho:h.get? a=some o)(hc:o.cls= .type "builtin_function_or_method")(hd:o.data= .fields vs):Kp M h (.ref a):=by
 refine⟨.machine,.inr (.inl rfl),?_⟩
 unfold keeperOf
 refine(Looks.ld (part:=none) ho).andThen ?_
 simp only[hd,hc]
 exact .now
section
variable{E:Value→Shared→Prop}{v:V}{h':H}{p:Pos}{b:Bool}{Q:Value→Shared→Prop}
theorem PostE.toC(R:Rel Γ c d f lo h)(hQ:PostE Γ c d f lo h' v Q):PostC Γ c d h' v Q:=
 λρ' ξ' s' w x F L o g k gk hv=>hQ ρ' ξ' s' w x ⟨F,R.gb,R.bl,L,R.nm.ext x,o,g,k,gk⟩ hv
theorem zS(X:Snd Γ n ih)(A:AOk c n)(R:Rel Γ c d f lo h){a:Addr}{vs:List V}{ws:List Value}(hw:VsR d.ρ vs ws)(hv:ih.c h a vs=some (v,h'))(hQ:PostE Γ c d f lo h' v Q):
 Kp Γ.M d.s.heap (.ref a)∧codeAny Γ.M c.A (.call (.ref a) ⟨ws,[]⟩) (wants Q E) d.s:=
 ⟨yo (X.fk _ _ _ _ hv) (R.gb.K.keeps R.fr.keep),X.c c d h a vs ws v h' Q E A R.fr R.gb R.bl R.led R.os R.gens R.kp R.gk hw hv (hQ.toC R)⟩
theorem r5{C:Addr}{ws:List Value}(A:AOk c (n+1)):AOk {c with A:=c.A.under (.builtin "type.__call__" ⟨.ref C::ws,[]⟩)} n:=by
 have e1:(Code.builtin "type.__call__" ⟨.ref C::ws,[]⟩).weight=1:=rfl
 have e2:(Code.builtin "type.__call__" ⟨.ref C::ws,[]⟩).cUnits=1:=rfl
 have e3:(Code.builtin "type.__call__" ⟨.ref C::ws,[]⟩).envs=[]:=rfl
 have a:=A.dp
 have b:=A.un
 refine⟨?_,A.ff,A.fk,A.hd,?_,?_⟩
 · show pushEnvs (Code.builtin "type.__call__" ⟨.ref C::ws,[]⟩).envs c.A.frames=some (c.fenv::c.outer)
   rw[e3];exact A.fr
 · show c.A.depth+(Code.builtin "type.__call__" ⟨.ref C::ws,[]⟩).weight+3*n≤980
   rw[e1];exact nG A.dp (by decide)
 · show c.A.units+(Code.builtin "type.__call__" ⟨.ref C::ws,[]⟩).cUnits+12*n≤9000
   rw[e2];exact nG A.un (by decide)
theorem MP(G:COk Γ)(X:Snd Γ n ih)(A:AOk c (n+1))(R:Rel Γ c d f lo h){C:Addr}{cd:List (T×V)}{vs:List V}{ws:List Value}(hC:atN C Γ.g.cls=some cd)(hw:VsR d.ρ vs ws)(hv:qQ ih h C cd vs=some (v,h'))(hQ:PostE Γ c d f lo h' v Q):
 Kp Γ.M d.s.heap (.ref C)∧codeAny Γ.M c.A (.call (.ref C) ⟨ws,[]⟩) (wants Q E) d.s:=by
 refine aB hv ?_
 clear hv
 intro u h1 i h2 r h3 hvX
 refine bf hvX ?_
 clear hvX
 intro h4 hv
 replace hQ:=hQ.so hv
 clear hv
 have:=bT h2
 subst this
 obtain⟨m1,m2,m3,m4⟩:=G.mki _ _ _ hC h1
 have hK:=R.gb.K.keeps R.fr.keep
 refine⟨keeps_K m4 _ hK,?_⟩
 obtain⟨ρ,ξ,m,⟨hp,g,dr,t,os⟩⟩:=d
 refine make_core (makes_of hK m1) (looks_findIn hK m2) (λself=>bind_fn hK self m3) (.inl rfl) ?_
 have R1:=R.new (t:=t) (o:= .sd []) (b:=emptyDict) rfl ⟨[],0,rfl,.nil⟩
 have hl:ρ.length=h.length:=R.led.len
 have hj:(ρ++[hp.objs.size])[h.length]? =some hp.objs.size:=by rw[←hl];simp
 have R2:=Rel.new (d:=⟨ρ++[hp.objs.size],ξ,m,⟨hp.push emptyDict,g,dr,t,os⟩⟩) R1 (t:=t) (o:= .inst C h.length) (b:=instObj C hp.objs.size) rfl ⟨hp.objs.size,(Ext.push _ _).get hj,rfl⟩
 have x2:Ext ρ (ρ++[hp.objs.size]++[(hp.push emptyDict).objs.size]):=(Ext.push _ _).trans (Ext.push _ _)
 have e0:app h [.sd [],.inst C (len h)]=h++[.sd []]++[.inst C h.length]:=by rw[ay,aO,TQ];rfl
 rw[e0]at h3
 have vx:VR (ρ++[hp.objs.size]++[(hp.push emptyDict).objs.size]) (.loc (Nat.succ (len h))) (.ref (hp.objs.size+1)):=by
  refine⟨_,?_,rfl⟩
  rw[aO,Ux,←hl]
  simp
 have step:=X.c {c with A:=c.A.under (.builtin "type.__call__" ⟨.ref C::ws,[]⟩)} ⟨ρ++[hp.objs.size]++[(hp.push emptyDict).objs.size],ξ,m,⟨(hp.push emptyDict).push (instObj C hp.objs.size),g,dr,t,os⟩⟩ (h++[.sd []]++[.inst C h.length]) i
  (.loc (Nat.succ (len h))::vs) (.ref (hp.objs.size+1)::ws) r.1 r.2 (λv s'=>v= .none∧Q (.ref (hp.objs.size+1)) s') E (r5 A) R2.fr R2.gb R2.bl R2.led R2.os R2.gens R2.kp R2.gk
  (.cons vx (hw.ext x2)) h3 (λρ' ξ' s' w x F L o g' k gk hw'=> ?_)
 · refine codeAny_mono step λr' s' z=> ?_
   rcases r' with e|(v|_|_|_)<;>first|exact z|exact z.elim
 · have hn:r.1= .none:=by cases q:r.1<;>rw[q]at h4<;>first|rfl|cases h4
   rw[hn]at hw'
   exact⟨hw',hQ ρ' ξ' s' _ (x2.trans x) ⟨F,R.gb,R.bl,L,R.nm.ext (x2.trans x),o,g',k,gk⟩ (vx.ext x)⟩
theorem pe(G:COk Γ)(X:Snd Γ n ih)(A:AOk c (n+1))(R:Rel Γ c d f lo h){a:Addr}{vs:List V}{ws:List Value}(hw:VsR d.ρ vs ws)(hv:jC Γ.g ih h a vs=some (v,h'))(hQ:PostE Γ c d f lo h' v Q):
 Kp Γ.M d.s.heap (.ref a)∧wpAny Γ.M c.A (call (.ref a) ws) Q E d.s:=by
 unfold jC at hv
 cases q:atN a Γ.g.cls with
 |some cd=>
  rw[q]at hv
  have:=MP (E:=E) G X A R q hw hv hQ
  exact⟨this.1,Vi this.2⟩
 |none=>
  rw[q]at hv
  rcases bO hv with qA|qA
  · refine ae qA ?_
    clear qA
    intro e hj
    obtain rfl:=Tj e
    refine el_EEAAL G.jn ?_
    intro o t j1 j2 j3
    have hK:=R.gb.K.keeps R.fr.keep _ _ j1
    refine el_EEEAAAL (lj R hw hj hQ) ?_
    intro D l ts qX1 q1 q2 qX
    refine ae qX ?_
    clear qX
    intro q3 q4
    subst qX1
    exact⟨yp hK j2 j3,oX hK j2 j3 q1 q2 q3 q4⟩
  · refine ae qA ?_
    clear qA
    intro _ hj
    have:=zS (E:=E) X A.less R hw hj hQ
    exact⟨this.1,Vi this.2⟩
theorem nR(G:COk Γ)(X:Snd Γ n ih)(A:AOk c (n+1))(R:Rel Γ c d f lo h){u:V}{w:Value}{vs:List V}{ws:List Value}(hu:VR d.ρ u w)(hw:VsR d.ρ vs ws)(hv:nC Γ.g ih h u vs=some (v,h'))(hQ:PostE Γ c d f lo h' v Q):
 Kp Γ.M d.s.heap w∧wpAny Γ.M c.A (call w ws) Q E d.s:=by
 cases u with
 |top a=>cases hu;exact pe G X A R hw hv hQ
 |prim k=>
  cases hu
  refine⟨gT ?_,uG A.less R hw hv hQ⟩
  unfold cF
  repeat' split
  all_goals rfl
 |loc k=>
  refine el_EAL hu ?_
  clear hu
  rintro a h1 rfl
  refine aw (hv:ob (nth h k) _=some (v,h')) ?_
  clear hv
  intro o h2 hv
  rw[ap]at h2
  refine el_EEAAL (R.led.at h2) ?_
  intro a' b g1 g2 g3
  rw[h1]at g1;cases g1
  cases o with
  |bm l=>
   refine aw (hv:ob (aL h l) (λxs=>tT h l xs vs)=some (v,h')) ?_
   clear hv
   intro xs h3 hv
   refine el_EAL (aP hv) ?_
   rintro y rfl hv
   refine bf hv ?_
   clear hv
   intro h4 hv
   replace hQ:=hQ.so hv
   clear hv
   refine el_EAL hw.one ?_
   rintro wy rfl hy
   refine el_EAAL g3 ?_
   clear g3
   intro al k1 k2 k3
   refine el_EEEAAL (bh R (av h3)) ?_
   intro al' us j e1 e2 e3
   rw[k1]at e1;cases e1
   have hz:=aM h4
   have e5:=e3.length
   refine⟨yp g2 k2 k3,lb g2 k2 k3 e2 (λh2 hs ho=> ?_) (by rw[ak,TO,e5];exact kF hz)⟩
   rw[aU,ay]at hQ
   exact hQ _ _ _ _ (.refl _) (R.set (t:=d.s.toks) k1 ho ⟨us++[wy],j+1,by rw[List.push_toArray],e3.append (.cons hy .nil)⟩ hs) rfl
  |meth l fa=>
   refine el_EAL g3 ?_
   clear g3
   rintro al k1 rfl
   have:=zS (E:=E) X A.less R (ws:= .ref al::ws) (.cons (show VR d.ρ (.loc l) (.ref al)from⟨al,k1,rfl⟩) hw) (hv:ih.c h fa (.loc l::vs)=some (v,h')) hQ
   exact⟨keeps_M (X.fk _ _ _ _ hv) _ ⟨g2,R.gb.K.keeps R.fr.keep⟩,Vi (method_call g2 this.2)⟩
  |_=>exact nn hv
 |_=>exact nn hv
theorem zT(Go:GOk Γ)(G:COk Γ)(X:Snd Γ n ih)(A:AOk c (n+1))(R:Rel Γ c d f lo h){x:Str}{px:Pos}{args:Mine.E}(hv:xX Γ.g ih f lo h x args=some (v,h'))(hQ:PostE Γ c d f lo h' v Q):
 wpAny Γ.M c.A (eval (dE (.call x px args p)) c.env) Q E d.s:=by
 refine aw hv ?_
 clear hv
 intro u h1 hvX
 refine cW hvX ?_
 clear hvX
 intro vs h2 h3 hv
 refine Call_ (eN Go R h1 λw hw=>cR X A.less R h3 λρ' ξ' s' ws x R' v'=> ?_)
 exact nR (d:=⟨ρ',ξ',d.m,s'⟩) G X A R' (hw.ext x) v' hv (hQ.after x)
end
end
section
variable{Γ:Gl}{c:St0}{d:Dy}{f:Frm}{lo:Lo}{h:H}{n:Nat}{ih:Ih}
theorem uQ: ∀(n:Nat) (e:Mine.E),few n e=true→(dL e).length<n:=λn=>by
 induction n with
 |zero=>exact λe h=>nomatch h
 |succ n ih=>
  intro e h
  cases e with
  |cons a r=>exact Nat.succ_lt_succ (ih r h)
  |_=>exact Nat.succ_pos _
section
variable{M:Model}{A:Around}{E:Value→Shared→Prop}{s:Shared}{env:Env}{Q:Value→Shared→Prop}
theorem cg{o args:Mine.E}{x:Str}{pa p:Pos}(he:bv o)(g0:ky o=true)(hl:(pa.endLine==p.line)=true)(hfew:few 20 args=true)(hplain:(backTo p (Vu (dL args) env)).any (·.1)=false)
 (h:wpAny M A (eval (dE o) env) (λov s1=> ∀pl,wpAny M A (getMethod ov x pl) (λfx s2=>wpAny M A (callWith p fx.1 fx.2 (backTo p (Vu (dL args) env)) []) Q E s2) E s1) E s):
 wpAny M A (eval (dE (.meth o x pa args p)) env) Q E s:=by
 show wpAny M A (eval (.Call (.Attribute (dE o) x pa) (dL args) [] p) env) Q E s
 rw[arm_eval_Call,nN he g0]
 refine U7 (Vc h (λov s1 h1=>U7 (UA ?_)) λZ Z z=>z)
 have hform:methodCallForm ((dL args).length+([]:List Keyword).length) (backTo p (Vu (dL args) env)) (backToKw p (keywordEach [] env))=true:=by
  have h2:=uQ _ _ hfew
  have h3:(backTo p (Vu (dL args) env)).all (λx=> !x.1)=true:=by
   rw[TY]
   intro a ha
   have:=List.any_eq_false.mp hplain a ha
   simpa using this
  unfold methodCallForm
  rw[h3]
  show(true&&true&&decide _)=true
  simp only[List.length_nil,Nat.add_zero,Bool.and_self,Bool.true_and,decide_eq_true_eq]
  show(dL args).length+0<30
  omega
 have hpos:methodCallPos true (dE o) env pa p=pure p:=by unfold methodCallPos;simp[hl]
 unfold methodCall
 rw[hform]
 refine U7 (Uy (Vc (h1 _) (λfx s2 h2=> ?_) λZ Z z=>z))
 exact U7 (UZ hpos h2)
end
section
variable{E:Value→Shared→Prop}{v:V}{h':H}{p:Pos}{b:Bool}{Q:Value→Shared→Prop}
theorem zU(D:DOk Γ)(G:COk Γ)(X:Snd Γ n ih)(A:AOk c (n+1))(R:Rel Γ c d f lo h){o args:Mine.E}{x:Str}{pa:Pos}(hv:xV Γ.g ih f lo h o (sT x) args pa p=some (v,h'))(hQ:PostE Γ c d f lo h' v Q):
 wpAny Γ.M c.A (eval (dE (.meth o x pa args p)) c.env) Q E d.s:=by
 refine aW hv ?_
 clear hv
 intro g1 g2 hvX
 refine bf hvX ?_
 clear hvX
 intro g3 hvX
 refine cW hvX ?_
 clear hvX
 intro u h1 e1 z4
 have hl:(pa.endLine==p.line)=true:=by
  have:=Tj g1
  cases p
  exact beq_iff_eq.mpr this
 have plain: ∀{h:H} {r:List V×H},evs ih f lo args h=some r→(backTo p (Vu (dL args) c.env)).any (·.1)=false:=λe=>gS ih f lo p c.env X.raw args _ _ e
 have hob:=z4
 cases q:(ob (aH u) λk=>ob (nth h1 k) fR)with
 |none=>
  rw[show(u,h1).1=u from rfl,show(u,h1).2=h1 from rfl,q]at z4
  refine aw (z4:ob (qP Γ.g h1 u (sT x)) (λm=>ob (evs ih f lo args h1) λq=>jB Γ.g q.2 m u q.1)=some (v,h')) ?_
  clear z4
  intro m e2 hvX
  refine cW hvX ?_
  clear hvX
  intro vs h2 e3 z6
  refine cg (X.nraw e1) g3 hl g2 (plain e3) ?_
  refine X.e c d f lo h o u h1 _ E A.less R e1 λρ1 ξ1 s1 w1 x1 R1 v1 pl=> ?_
  refine FV (d:=⟨ρ1,ξ1,d.m,s1⟩) (x:=sT x) D R1 v1 e2 ?_
  refine cR (d:=⟨ρ1,ξ1,d.m,s1⟩) (g:= .builtin (cw m)) (first:=[w1]) X A.less R1 e3 λρ2 ξ2 s2 ws x2 R2 v2=>⟨gT rfl,?_⟩
  exact r4 (d:=⟨ρ2,ξ2,d.m,s2⟩) D R2 (v1.ext x2) v2 z6 (hQ.after (x1.trans x2))
 |some cd=>
  rw[show(u,h1).1=u from rfl,show(u,h1).2=h1 from rfl,q]at z4
  refine aR q ?_
  clear q
  intro k q1 ob' q3 q4
  rw[ap]at q3
  have:=aj q1
  subst this
  have:=cO q4
  subst this
  obtain⟨C,j⟩:=cd
  refine aw (z4:eT Γ.g h1 (C,j) (sT x) (λw=>ob (evs ih f lo args h1) λq=>nC Γ.g ih q.2 w q.1) (λa=>ob (evs ih f lo args h1) λq=>ih.c q.2 a (.loc k::q.1))=some (v,h')) ?_
  clear z4
  intro es e2 z5
  cases ql:look (sT x) es with
  |some w0=>
   rw[ql]at z5
   refine bJ (z5:ob (atN C Γ.g.ia) _=some (v,h')) ?_
   clear z5
   intro ns e3 e4 hvX
   refine cW hvX ?_
   clear hvX
   intro vs h2 e5 z8
   refine cg (X.nraw e1) g3 hl g2 (plain e5) ?_
   refine X.e c d f lo h o (.loc k) h1 _ E A.less R e1 λρ1 ξ1 s1 w1 x1 R1 v1 pl=> ?_
   refine el_EAL v1 ?_
   clear v1
   rintro a g4 rfl
   refine el_EEEL (eX R1 q3 (bH e2)) ?_
   intro a' dx ds qX
   refine el_EAAL qX ?_
   clear qX
   intro i i1 i2 qX
   refine aD qX ?_
   clear qX
   intro i3 i4 i5 i6
   rw[show ρ1[k]? =some a from g4]at i1
   obtain rfl:=Ud i1
   have O:=G.ia _ _ e3
   refine el_EAL ((i5.getL (x:=sT x)).1 w0 ql) ?_
   intro w w1 w2
   have hg:=plainGet_of (O.hg (mkS (sT x)))
   refine method_usual (r:=none) (R1.gb.K.keeps R1.fr.keep) i6 hg.1 hg.2 (O.own _ e4) rfl ?_
   refine get_own R1.fr R1.gb.K i6 (O.hg _) O.hh (O.own _ e4) rfl w1 (jf w2) ?_
   refine cR (d:=⟨ρ1,ξ1,d.m,{s1 with toks:=s1.toks+1}⟩) (g:=w) (first:=[]) X A.less (R1.tok _) e5 λρ2 ξ2 s2 ws x2 R2 v2=> ?_
   exact nR (d:=⟨ρ2,ξ2,d.m,s2⟩) G X A R2 (w2.ext x2) v2 z8 (hQ.after (x1.trans x2))
  |none=>
   rw[ql]at z5
   refine aB (z5:ob (atN C Γ.g.cls) _=some (v,h')) ?_
   clear z5
   intro cd e3 w0 e4 fa e5 hvX
   refine cW hvX ?_
   clear hvX
   intro vs h2 e6 z9
   have:=bT e5
   subst this
   refine cg (X.nraw e1) g3 hl g2 (plain e6) ?_
   refine X.e c d f lo h o (.loc k) h1 _ E A.less R e1 λρ1 ξ1 s1 w1 x1 R1 v1 pl=> ?_
   refine el_EAL v1 ?_
   clear v1
   rintro a g4 rfl
   refine el_EEEL (eX R1 q3 (bH e2)) ?_
   intro a' dx ds qX
   refine el_EAAL qX ?_
   clear qX
   intro i i1 i2 qX
   refine aD qX ?_
   clear qX
   intro i3 i4 i5 i6
   rw[show ρ1[k]? =some a from g4]at i1
   obtain rfl:=Ud i1
   have Mo:=G.me _ _ _ _ e3 e4
   refine method_inst R1.fr R1.gb.K i6 Mo.hg Mo.ha Mo.hf ((i5.getL (x:=sT x)).2 ql) ?_
   refine cR (d:=⟨ρ1,ξ1,d.m,s1⟩) (g:= .ref fa) (first:=[.ref a]) X A.less R1 e6 λρ2 ξ2 s2 ws x2 R2 v2=> ?_
   have:=zS (E:=E) (d:=⟨ρ2,ξ2,d.m,s2⟩) X A.less R2 (ws:= .ref a::ws) (.cons (show VR ρ2 (.loc k) (.ref a)from⟨a,x2.get g4,rfl⟩) v2) z9 (hQ.after (x1.trans x2))
   exact⟨this.1,Vi this.2⟩
end
end
section
variable{Γ:Gl}{c:St0}{d:Dy}{f:Frm}{lo:Lo}{h:H}{n:Nat}{ih:Ih}
theorem jP:mkS iY=UK "replace":=by decide+kernel
section
variable{E:Value→Shared→Prop}{v:V}{h':H}{p:Pos}{b:Bool}{Q:Flow→Shared→Prop}
theorem mH(l:List Expr)(g:Expr)(as:List Expr)(ks:List Keyword)(q:Pos)(n:Nat)(env:Env):UE l (.Call g as ks q) n env=pure false:=by
 rcases l with _|⟨t,_|⟨u,r⟩⟩<;>first|rfl|(cases t<;>rfl)
theorem jQ(l:List Expr)(g:Expr)(as:List Expr)(ks:List Keyword)(q:Pos)(env:Env):UC l (.Call g as ks q) env=pure none:=ym rfl l env
theorem FW(Go:GOk Γ){x ch m r:Str}{k1 k2 k3:Nat}{px pc pp pt po pa pr ps pw pq:Pos}{out:R3}(A:AOk c n)(R:Rel Γ c d f lo h)(hv:Fm f lo h x ch m r pa pw=some out)(hQ:PostS Γ c d f out Q):
 wpAny Γ.M c.A (exec (dS (.esc x ch m r k1 k2 k3 px pc pp pt po pa pr ps pw pq p)).1 c.env) Q E d.s:=by
 refine aW hv ?_
 clear hv
 intro g1 g2 hvX
 refine aR hvX ?_
 clear hvX
 intro u e1 s e2 z4
 refine el_EAL (aP z4) ?_
 intro k e3 z5
 refine aW z5 ?_
 clear z5
 intro g3 g4 hvX
 refine bf hvX ?_
 clear hvX
 intro g5 z8
 have:=ar e2
 subst this
 have em:m=UK "replace":=by rw[←jP,←au.mp g1];rfl
 have ec:ch=mkS [k]:=by show ch=mkS [k];rw[←e3];rfl
 have hl:(pa.endLine==pw.line)=true:=by
  have:=Tj g2
  cases pw
  exact beq_iff_eq.mpr this
 refine wpAny_If ?_
 show wpAny Γ.M c.A (PySem.isTrue (.Compare (.Constant (.str ch) k1 pc) [.In] [.Name x px] pp) c.env _) _ _ _
 rw[arm_isTrue_Compare]
 refine U7 (Constant_str ?_)
 show wpAny Γ.M c.A (testChain pp (.str ch d.s.toks) [.In] [markedBehindIn .In (.Name x px) (eval (.Name x px) c.env)]) _ E _
 rw[markedBehindIn_of_false (by rfl)]
 have R1:=R.tok (d.s.toks+1)
 refine U7 (Uy (eN (d:=⟨d.ρ,d.ξ,d.m,{d.s with toks:=d.s.toks+1}⟩) Go R1 e1 λw hw=> ?_))
 refine el_EL hw ?_
 clear hw
 rintro t rfl
 refine U7 (UA (U7 (wpAny_operate' ?_)))
 have q:(!(Te (mkS s) (mkS [k]) 0 (mkS s).length 1).isEmpty)=ou k s:=by
  rw[gK];exact StrLaws.found_one _ _
 rw[ec]
 refine PyProof.Rows.in_str ?_
 rw[q]
 refine Uy (TX ?_)
 rcases bO z8 with qA|qA
 · refine ae qA ?_
   clear qA
   intro g6 z9
   rw[g6,if_pos rfl]
   refine cW z9 ?_
   clear z9
   intro lo2 h2 e4 z10
   obtain rfl:=Ud z10
   refine Uc ?_
   rw[PySem.exec_Assign_arm]
   refine U7 (UA ?_)
   rw[mH]
   refine U7 (U8 ?_)
   rw[if_neg (by decide)]
   have go:wpAny Γ.M c.A (eval (.Call (.Attribute (.Name x po) m pa) [.Constant (.str (mkS [k])) k2 pr,.Constant (.str r) k3 ps] [] pw) c.env)
    (λw s1=>(∃t',w= .str (mkS (dH (sT r) (spl [k] s 0 []))) t')∧ ∃j,s1={d.s with toks:=j}) E {d.s with toks:=d.s.toks+1}:=by
    refine cg (o:= .nm x po) (args:= .cons (.cst (.str (mkS [k])) k2 pr) (.cons (.cst (.str r) k3 ps) .nil)) (λy z=>ff (congrArg ma z)) rfl hl rfl rfl ?_
    refine eN (d:=⟨d.ρ,d.ξ,d.m,{d.s with toks:=d.s.toks+1}⟩) Go R1 e1 λw hw=> ?_
    refine el_EL hw ?_
    clear hw
    rintro t2 rfl
    intro pl
    rw[em]
    refine GM.replace ?_
    refine U4 (P:=λZ=>True) rfl (λZ Z=>⟨.machine,.inr (.inl rfl),UF rfl⟩) ?_
    refine Uu ?_
    refine T0 (Constant_str ?_) rfl
    refine T0 (Constant_str ?_) rfl
    refine Ui ?_
    refine⟨trivial,?_⟩
    have hr:r=mkS (sT r):=rfl
    have l4:=aM g4
    have l5:=aM g5
    rw[hr]
    refine SC.replace (x:=mkS s) (y:=mkS [k]) (z:=mkS (sT r)) (Nat.succ_ne_zero _) (Nat.succ_ne_zero _) (UL (TZ _)) ?_ ?_ λt' j=> ?_
    · have:bn (tEq (sT ch) (sT r))=true:=g3
      rw[bg]at this
      rw[dq]
      rw[e3]at this
      simpa using this
    · rw[am,am]
      have:(s.length+1)*(sT r).length≤4001*4000:=Nat.mul_le_mul (Ua l4) l5
      exact UJ (Nat.add_le_add l4 this) (by decide)
    · rw[uI]
      exact⟨⟨t',rfl⟩,j,rfl⟩
   refine U7 (Vc go (λw s1 hw=> ?_) λZ Z z=>z)
   refine el_AEL hw ?_
   clear hw
   intro qX3 j qX4
   obtain⟨t',rfl⟩:=qX3
   subst qX4
   rw[jQ]
   refine U7 (U8 ?_)
   show wpAny Γ.M c.A (do Vn (.str (mkS (dH (sT r) (spl [k] s 0 []))) t') ((Va [.Name x pt] c.env).map (·.2));pure Flow.next:Sem Flow) _ E _
   refine U7 ?_
   rw[show Va [.Name x pt] c.env=(false,assign (.Name x pt) c.env)::Va [] c.env from cL (t:= .nm x pt) (λy z=>ff (congrArg ma z)) [] c.env]
   show wpAny Γ.M c.A (assign (.Name x pt) c.env _) _ E _
   refine S8 ?_
   rw[e3]at e4
   refine eW (d:=⟨d.ρ,d.ξ,d.m,{d.s with toks:=j}⟩) (v:= .str (dH (sT r) (spl [k] s 0 []))) (x:=sT x) (R.tok j) ⟨t',rfl⟩ e4 λm' s' R'=> ?_
   refine U8 ?_
   exact U8 (hQ _ _ _ _ _ (.refl _) R' rfl)
 · refine ae qA ?_
   clear qA
   intro g6 z9
   rw[g6,if_neg (by decide)]
   obtain rfl:=Ud z9
   exact U8 (hQ _ _ _ _ _ (.refl _) R1 rfl)
end
end
section
variable{Γ:Gl}{c:St0}{d:Dy}{f:Frm}{lo:Lo}{h:H}{n:Nat}{ih:Ih}
noncomputable def cellUp(n:Nat):List (Str×Vr)→List (Str×Addr)
 |[]=>[]
 |(x,k)::r=>if k== .cell then(x,n)::cellUp (n+1) r else cellUp n r
theorem bp: ∀(l:List (Str×Vr)) (n:Nat) (acc:List (Str×Addr)),Vm n l acc=(cellUp n l).reverse++acc
 |[],n,acc=>rfl
 |(x,k)::r,n,acc=>by
  unfold Vm cellUp
  split
  · rw[bp r];simp
  · rw[bp r]
theorem ea: ∀(l:List (Str×Vr)) (n j:Nat) (p:Str×Addr),(cellUp n l)[j]? =some p→ @Eq Nat p.2 (n+j)
 |[],n,j,p,h=>by simp[cellUp]at h
 |(x,k)::r,n,j,p,h=>by
  unfold cellUp at h
  split at h
  · cases j with
    |zero=>cases h;rfl
    |succ j=>
    have:=ea r (n+1) j p (by simpa using h)
    rw[this,Nat.add_assoc,Nat.add_comm 1]
  · exact ea r n j p h
theorem bw: ∀(l:List (Str×Vr)) (n m:Nat),(cellUp n l).map (·.1)=(cellUp m l).map (·.1)
 |[],n,m=>rfl
 |(x,k)::r,n,m=>by
  unfold cellUp
  split
  · rw[UB,UB,bw r (n+1) (m+1)]
  · exact bw r n m
noncomputable def fX(hp:Heap)(l:List Addr):List (Addr×Obj):=l.filterMap λa=>(hp.get? a).map λo=>(a,o)
theorem cj{hp:Heap}{l:List Addr}{p:Addr×Obj}:p∈fX hp l↔p.1∈l∧hp.get? p.1=some p.2:=by
 unfold fX
 rw[List.mem_filterMap]
 constructor
 · rintro⟨a,h1,h2⟩
   cases q:hp.get? a with
   |none=>rw[q]at h2;cases h2
   |some o=>rw[q]at h2;cases h2;exact⟨h1,q⟩
 · rintro⟨h1,h2⟩
   exact⟨p.1,h1,by rw[h2];rfl⟩
theorem Led.ns{D:Wd}{h₀ hp:Heap}{L:Addr}{ρ:List Addr}{ξ:List (Addr×Obj)}{h:H}(Y:Led D h₀ L hp ρ ξ h):News h₀ L hp (fX hp ρ++ξ):=by
 intro p hp'
 rcases Ue.mp hp' with q|q
 · have:=cj.mp q
   have n:=Y.new _ this.1
   exact⟨this.2,n.2.1,n.1⟩
 · have:=Y.frz p q
   exact⟨this.1,this.2.2.1,this.2.1⟩
theorem Led.rebase{D:Wd}{h₀ g hp:Heap}{L L':Addr}{ρ:List Addr}{ξ:List (Addr×Obj)}{h:H}(Y:Led D g L' hp ρ ξ h)(N:News h₀ L hp (fX hp ρ++ξ)):Led D h₀ L hp ρ ξ h:=by
 refine⟨Y.len,Y.nd,Y.obj,λa ha=> ?_,λp hp'=> ?_⟩
 · refine el_EL (Ts ha) ?_
   intro k hk
   have hl:k<h.length:=by rw[←Y.len];rw[S3]at hk;exact hk.1
   refine el_EAL (Y.obj k a h[k] hk (S7 hl)) ?_
   intro b hb _
   have:=N (a,b) (Tu _ (cj.mpr ⟨ha,hb⟩))
   exact⟨this.2.2,this.2.1,(Y.new a ha).2.2⟩
 · have:=N p (Tl _ hp')
   have y:=Y.frz p hp'
   exact⟨this.1,this.2.2,this.2.1,y.2.2.2⟩
theorem r6{cm:Str→Option Value}: ∀{cs:List (Str×Addr)} {cells:List (Addr×Obj)},CellsAre cm cs cells→ ∀{j:Nat} {x:Str} {a:Addr},cs[j]? =some (x,a)→ ∃o,(a,o)∈cells∧o.data= .cell (cm x):=λC=>by
 induction C with
 |nil=>intro j x a h;simp at h
 |cons hd r ih=>intro j x a h;cases j with
  |zero=>cases h;exact⟨_,.head _,hd⟩
  |succ j=>
   refine el_EAL (ih (j:=j) (by simpa using h)) ?_
   intro o h1 h2
   exact⟨o,.tail _ h1,h2⟩
theorem pf{cm:Str→Option Value}{cs:List (Str×Addr)}{cells:List (Addr×Obj)}(C:CellsAre cm cs cells): ∀{x:Str} {a:Addr},(x,a)∈cs→ ∃o,(a,o)∈cells∧o.data= .cell (cm x):=λ{x a} hm=>by
 refine el_EL (Ts hm) ?_
 intro j hj
 exact r6 C hj
theorem Led.enter{D:Wd}{h₀ g hp h₁:Heap}{L L':Addr}{ρ:List Addr}{ξ:List (Addr×Obj)}{h:H}{m':Str→Option Value}(Y:Led D h₀ L hp ρ ξ h){cells:List (Addr×Obj)}(N:News g L' h₁ (cells++(fX hp ρ++ξ)))
 {names:List (Str×Vr)}{cm:Str→Option Value}(C:CellsAre cm (Vm (L'+1) names []) cells)(hL:1<L')(lt: ∀p∈fX hp ρ++ξ,p.1<L'){ce:List (Option V)}(hce:ce.length=(cellUp 0 names).length)
 (hcm: ∀(j:Nat) (x:Str) (a:Addr) (v:V),(cellUp (L'+1) names)[j]? =some (x,a)→ce[j]? =some (some v)→ ∃w,cm x=some w∧VR ρ v w)(_F:Fr g L' h₁ m'):
 Led D g L' h₁ (ρ++(cellUp (L'+1) names).map (·.2)) ξ (h++ce.map O.cell):=by
 have hlen:((cellUp (L'+1) names).map (·.2)).length=ce.length:=by
  have:=congrArg List.length (bw names (L'+1) 0)
  rw[Uk,Uk]at this
  rw[Uk,hce];exact this
 have old: ∀a∈ρ,@LT.lt Nat _ a L':=λa ha=>by
  refine el_EL (Ts ha) ?_
  intro k hk
  have hl:k<h.length:=by rw[←Y.len];rw[S3]at hk;exact hk.1
  refine el_EAL (Y.obj k a h[k] hk (S7 hl)) ?_
  intro b hb _
  exact lt (a,b) (Tu _ (cj.mpr ⟨ha,hb⟩))
 have cellAt: ∀{j a},((cellUp (L'+1) names).map (·.2))[j]? =some a→ @Eq Nat a (L'+1+j):=λ{j a} e=>by
  rw[TN]at e
  cases q:(cellUp (L'+1) names)[j]? with
  |none=>rw[q]at e;cases e
  |some p=>rw[q]at e;cases e;exact ea _ _ _ _ q
 have cellIn: ∀{j x a},(cellUp (L'+1) names)[j]? =some (x,a)→ ∃o,(a,o)∈cells∧o.data= .cell (cm x):=λ{j x a} e=>by
  refine pf C ?_
  rw[bp,Uh,T7]
  exact Tq e
 refine⟨by simp[Y.len,hlen],?_,λk a o ha ho=> ?_,λa ha=> ?_,λp hp'=> ?_⟩
 · rw[List.nodup_append]
   refine⟨Y.nd,?_,λa ha b hb e=> ?_⟩
   · rw[S2,S6]
     intro i j hi hj hij e
     have h1:=cellAt (S7 hi)
     have h2:=cellAt (S7 hj)
     rw[e]at h1
     exact UL hij (Nat.add_left_cancel (Eq.trans h1.symm h2))
   · refine el_EL (Ts hb) ?_
     intro j hj
     have h1:=cellAt hj
     have h2:=old a ha
     rw[show @Eq Nat a b from e,show @Eq Nat b _ from h1]at h2
     exact absurd h2 (Vd.mpr (UJ (U6 L') (T2 _ j)))
 · by_cases q:k<ρ.length
   · rw[S4 q]at ha
     rw[S4 (by rw[←Y.len];exact q)]at ho
     refine el_EAL (Y.obj k a o ha ho) ?_
     intro b hb r
     have:=N (a,b) (Tl _ (Tu _ (cj.mpr ⟨Tq ha,hb⟩)))
     exact⟨b,this.1,r.ext ⟨_,rfl⟩⟩
   · have q:=Vd.mp q
     rw[S1 q]at ha
     rw[S1 (by rw[←Y.len];exact q),←Y.len,TN]at ho
     cases q2:(cellUp (L'+1) names)[k-ρ.length]? with
     |none=>rw[TN,q2]at ha;cases ha
     |some p=>
      obtain⟨x,a'⟩:=p
      rw[TN,q2]at ha
      obtain rfl:=Ud ha
      cases q3:ce[k-ρ.length]? with
      |none=>rw[q3]at ho;cases ho
      |some u=>
       rw[q3]at ho
       obtain rfl:=Ud ho
       refine el_EAL (cellIn q2) ?_
       intro o' h1 h2
       have:=N (a',o') (Tu _ h1)
       refine⟨o',this.1,cm x,h2,λv' e=> ?_⟩
       subst e
       refine el_EAL (hcm _ _ _ _ q2 q3) ?_
       intro w z1 z2
       exact⟨w,z1,z2.ext ⟨_,rfl⟩⟩
 · rcases Ue.mp ha with q|q
   · refine el_EL (Ts q) ?_
     intro k hk
     have hl:k<h.length:=by rw[←Y.len];rw[S3]at hk;exact hk.1
     refine el_EAL (Y.obj k a h[k] hk (S7 hl)) ?_
     intro b hb _
     have:=N (a,b) (Tl _ (Tu _ (cj.mpr ⟨q,hb⟩)))
     exact⟨this.2.2,this.2.1,(Y.new a q).2.2⟩
   · refine el_EL (Ts q) ?_
     intro j hj
     have h1:=cellAt hj
     rw[TN]at hj
     cases q2:(cellUp (L'+1) names)[j]? with
     |none=>rw[q2]at hj;cases hj
     |some p=>
      obtain⟨x,a'⟩:=p
      rw[q2]at hj
      obtain rfl:=Ud hj
      refine el_EAL (cellIn q2) ?_
      intro o' h3 _
      have:=N (a',o') (Tu _ h3)
      exact⟨this.2.2,this.2.1,by rw[show a'=(L'+1+j:Nat)from h1];exact TH (UQ hL (TZ L')) (T2 _ j)⟩
 · have:=N p (Tl _ (Tl _ hp'))
   refine⟨this.1,this.2.2,this.2.1,λq=> ?_⟩
   rcases Ue.mp q with q|q
   · exact(Y.frz p hp').2.2.2 q
   · refine el_EL (Ts q) ?_
     intro j hj
     have h1:=cellAt hj
     have h2: @LT.lt Nat _ p.1 L':=lt p (Tl _ hp')
     rw[show @Eq Nat p.1 _ from h1]at h2
     exact absurd h2 (Vd.mpr (UJ (U6 L') (T2 _ j)))
end
section
variable{Γ:Gl}{c:St0}{d:Dy}{f:Frm}{lo:Lo}{h:H}{n:Nat}{ih:Ih}
structure FnW where
 name:Str
 qual:Str
 params:Vj
 scope:Scope
 dV:Value
 kV:Value
 doc:Value
 pm:Value
 ct:Value
 oc:Value
 an:Option Addr
 od:Option Addr
 osl:Array (Option Value)
abbrev FnW.fd(w:FnW)(d:FD):FuncData:=fnX w.name w.qual w.params (dB d.body) w.scope [] w.dV w.kV w.doc w.pm w.an (.ref d.cd) w.ct
structure NmsOk(Γ:Gl)(d:FD)(names:List (Str×Vr)):Prop where
 lv: ∀x i,look x d.nm=some (.lv i)→names.lookup (mkS x)=some .local
 cv: ∀x j,look x d.nm=some (.cv j)→names.lookup (mkS x)=some .cell∧ ∃a,(cellUp 0 names)[j]? =some (mkS x,a)
 nc:(cellUp 0 names).length=d.nc
 ci: ∀j,j<d.nc→ ∃x,look x d.nm=some (.cv j)
 gv: ∀x v,look x d.nm=some (.gv v)→names.lookup (mkS x)=some .globalImplicit∧look x Γ.g.gl=some v
 kv: ∀x,look x d.nm≠some .kv
 inj: ∀x y i,look x d.nm=some (.lv i)→look y d.nm=some (.lv i)→x=y
 dbg: ∀x s,look x d.nm=some s→(mkS x==("__debug__":Str))=false∧(mkS x==("__classdict__":Str))=false
 nd:((Vm 0 names []).map (·.1)).Nodup
structure FnOk(Γ:Gl)(a:Addr)(d:FD)(w:FnW):Prop where
 lk:Γ.K.lookup a=some ⟨w.oc,w.od,.func (w.fd d),w.osl⟩
 cdi:codeIn Γ.K (.ref d.cd) w.qual=true
 co:w.scope.isCoroutine=false
 ge:w.scope.isGenerator=false
 kd:w.scope.kind= .function
 nm:NmsOk Γ d w.scope.names
 lq:d.cd=Γ.g.lamCd→w.qual++".<locals>."=mkS Γ.g.lamQ
 bind: ∀(vs:List V) us,vs.length≤d.npos→fillR d.dfl (dropL (len vs) d.params)=some us→ ∀(ws:List Value),ws.length=vs.length→
  ∃us',VsR [] us us'∧ ∀s:Shared,Γ.K.In s.heap→BindsTo s (w.fd d) ⟨ws,[]⟩ ((d.params.map mkS).zip (ws++us'))
def I1(ρ:List Addr)(nm:Nm)(lo:Lo)(m:Str→Option Value):Prop:= ∀(x:T) (i:Nat) (v:V),look x nm=some (.lv i)→lo[i]? =some (some v)→ ∃w,m (mkS x)=some w∧VR ρ v w
def I2(ρ:List Addr)(nm:Nm)(ce:Lo)(m:Str→Option Value):Prop:= ∀(x:T) (j:Nat) (v:V),look x nm=some (.cv j)→ce[j]? =some (some v)→ ∃w,m (mkS x)=some w∧VR ρ v w
theorem nS{α:Type}{l:List α}{i j:Nat}{v u:α}(h:(l.set i v)[j]? =some u):(j=i∧u=v)∨(j≠i∧l[j]? =some u):=by
 by_cases e:j=i
 · subst e
   rw[List.getElem?_set_self']at h
   cases q:l[j]? with
   |none=>rw[q]at h;cases h
   |some o=>rw[q]at h;cases h;exact .inl ⟨rfl,rfl⟩
 · rw[Tw (Ne.symm e)]at h
   exact .inr ⟨e,h⟩
theorem eB{fd:FD}{names:List (Str×Vr)}(N:NmsOk Γ fd names){ρ:List Addr}{kindOf:Str→Option Vr}(hk: ∀x,kindOf x=names.lookup x): ∀(ps:List T) (vs:List V) (ws:List Value) (lo ce lo' ce':Lo) (m cm:Str→Option Value),VsR ρ vs ws→eL fd.nm ps vs lo ce=some (lo',ce')→
 I1 ρ fd.nm lo m→I2 ρ fd.nm ce cm→I1 ρ fd.nm lo' (bindL kindOf ((ps.map mkS).zip ws) m)∧I2 ρ fd.nm ce' (bindC kindOf ((ps.map mkS).zip ws) cm)∧ce'.length=ce.length∧
  ∀y∈(ps.map mkS).zip ws,∃x,y.1=mkS x∧((∃i,look x fd.nm=some (.lv i))∨ ∃j,look x fd.nm=some (.cv j))
 |[],vs,ws,lo,ce,lo',ce',m,cm,hw,h,h1,h2=>by
  refine ae (gV (h:oA vs (some (lo,ce))=some (lo',ce'))) ?_
  intro _ hz
  obtain⟨rfl,rfl⟩:=so2 hz
  exact⟨h1,h2,rfl,λy hy=>by simp at hy⟩
 |x::ps,vs,ws,lo,ce,lo',ce',m,cm,hw,h,h1,h2=>by
  cases hw with
  |nil=>exact nn h
  | @cons v w vs ws hv hr=>
   refine aw (h:ob (look x fd.nm) (λs=> @Slot.casesOn (λZ=>Option (Lo×Lo)) s (λi=>eL fd.nm ps vs (cG (some v) lo i) ce) (λj=>eL fd.nm ps vs lo (cG (some v) ce j)) Za none)=some (lo',ce')) ?_
   clear h
   intro sl e1 hz
   show I1 ρ fd.nm lo' (bindL kindOf ((mkS x,w)::(ps.map mkS).zip ws) m)∧I2 ρ fd.nm ce' (bindC kindOf ((mkS x,w)::(ps.map mkS).zip ws) cm)∧_∧ ∀y∈(mkS x,w)::(ps.map mkS).zip ws,_
   unfold bindL bindC
   rw[hk]
   cases sl with
   |lv i=>
    have k1:=N.lv _ _ e1
    rw[k1,if_pos rfl,if_pos rfl]
    have hz':eL fd.nm ps vs (cG (some v) lo i) ce=some (lo',ce'):=hz
    rw[aU]at hz'
    obtain⟨a,b,c',e⟩:=eB N hk ps vs ws _ _ _ _ (λy=>if y=mkS x then some w else m y) cm hr hz' (λy j u hy hj=>by
     rcases nS hj with qA|qA
     · refine ae qA ?_
       clear qA
       rintro rfl q
       obtain rfl:=Ud q
       have:=N.inj _ _ _ hy e1
       subst this
       exact⟨w,if_pos rfl,hv⟩
     · refine ae qA ?_
       clear qA
       intro q1 q2
       refine el_EAL (h1 y j u hy q2) ?_
       intro w' z1 z2
       exact⟨w',by
        show(if mkS y=mkS x then some w else m (mkS y))=some w'
        rw[if_neg (λz=>q1 (by
         have:=bW z
         subst this
         rw[e1]at hy;cases hy;rfl))]
        exact z1,z2⟩) h2
    refine⟨a,b,c',λy hy=> ?_⟩
    rcases Uz.mp hy with rfl|hy
    · exact⟨x,rfl,.inl ⟨i,e1⟩⟩
    · exact e y hy
   |cv j=>
    have k1:=(N.cv _ _ e1).1
    have kn:(some NameKind.cell=some NameKind.local)=False:=by simp
    rw[k1,if_neg (by simp),if_neg (by simp)]
    have hz':eL fd.nm ps vs lo (cG (some v) ce j)=some (lo',ce'):=hz
    rw[aU]at hz'
    obtain⟨a,b,c',e⟩:=eB N hk ps vs ws _ _ _ _ m (λy=>if y=mkS x then some w else cm y) hr hz' h1 (λy i u hy hi=>by
     rcases nS hi with qA|qA
     · refine ae qA ?_
       clear qA
       rintro rfl q
       obtain rfl:=Ud q
       refine el_AEL (N.cv _ _ hy) ?_
       intro _ a1 b1
       refine el_AEL (N.cv _ _ e1) ?_
       intro _ a2 b2
       rw[b1]at b2
       have:=bW (Prod.mk.inj (Ud b2)).1
       subst this
       exact⟨w,if_pos rfl,hv⟩
     · refine ae qA ?_
       clear qA
       intro q1 q2
       refine el_EAL (h2 y i u hy q2) ?_
       intro w' z1 z2
       exact⟨w',by
        show(if mkS y=mkS x then some w else cm (mkS y))=some w'
        rw[if_neg (λz=>q1 (by
         have:=bW z
         subst this
         rw[e1]at hy;cases hy;rfl))]
        exact z1,z2⟩)
    refine⟨a,b,by rw[c'];simp,λy hy=> ?_⟩
    rcases Uz.mp hy with rfl|hy
    · exact⟨x,rfl,.inr ⟨j,e1⟩⟩
    · exact e y hy
   |gv u=>exact nn hz
   |kv=>exact nn hz
theorem dg: ∀(k i:Nat) (v:V),(cD k [(none:Option V)])[i]? ≠some (some v)
 |0,i,v,h=>by
  have:([]:List (Option V))[i]? =some (some v):=h
  simp at this
 |k+1,0,v,h=>by cases(show some (none:Option V)=some (some v)from h)
 |k+1,i+1,v,h=>dg k i v (by
  have:cD (k+1) [(none:Option V)]=none::cD k [none]:=by show app [none] (cD k [none])=_;rw[ay];rfl
  rw[this]at h
  simpa using h)
theorem jl(k:Nat):(cD k [(none:Option V)]).length=k:=by rw[kJ];simp
theorem gZ: ∀(m n j k:Nat),(az n m)[j]? =some k→k=n+j∧j<m
 |0,n,j,k,h=>by
  have:([]:List Nat)[j]? =some k:=h
  simp at this
 |m+1,n,j,k,h=>by
  have e:az n (m+1)=az n m++[n+m]:=by show app (az n m) [Nat.add n m]=_;rw[ay];rfl
  have hl: ∀m,(az n m).length=m:=λm=>by
   induction m with
   |zero=>rfl
   |succ m ih=>show(app (az n m) [Nat.add n m]).length=_;rw[ay];simp[ih]
  rw[e]at h
  by_cases q:j<m
  · rw[S4 (by rw[hl];exact q)]at h
    refine ae (gZ m n j k h) ?_
    intro a b
    exact⟨a,TS b⟩
  · rw[S1 (by rw[hl];exact Vd.mp q),hl]at h
    have:j-m=0:=by
     cases z:j-m with
     |zero=>rfl
     |succ t=>rw[z]at h;simp at h
    have hj:=Up (Nat.sub_eq_zero_iff_le.mp this) (Vd.mp q)
    rw[this]at h
    obtain rfl:=Ud h
    subst hj
    exact⟨rfl,TZ _⟩
end
section
variable{Γ:Gl}{n:Nat}{ih:Ih}
theorem GB.low'{Γ:Gl}{h₀:Heap}(G:GB Γ h₀):1<h₀.objs.size:=by
 refine el_EEEAL G.T.g ?_
 intro o _ _ ho _
 have:=UN ho
 exact UQ (by decide:(1:Nat)<3) this
theorem r7(FO: ∀a d,atN a Γ.g.funs=some d→d.gen=false→ ∃w,FnOk Γ a d w)(X:Snd Γ n ih)(c:St0)(d:Dy)(h:H)(a:Nat)(vs:List V)(ws:List Value)(v:V)(h':H)(Q:Value→Shared→Prop)(E:Value→Shared→Prop)
 (A:AOk c (n+1))(F:Fr c.h₀ c.L d.s.heap d.m)(G:GB Γ c.h₀)(B:Below c.A₀ c.base c.outer c.h₀)(Y:Led Γ.D c.h₀ c.L d.s.heap d.ρ d.ξ h)(ho:d.s.os=c.os)(hg:AllBare d.s.gens)(hkp: ∀p∈c.kept,p∈d.ξ)(hgk: ∀p∈c.gk,d.s.gens[p.1]? =some p.2)(hw:VsR d.ρ vs ws)
 (hv:gB Γ.g ih h a vs=some (v,h'))(hQ:PostC Γ c d h' v Q):codeAny Γ.M c.A (.call (.ref a) ⟨ws,[]⟩) (wants Q E) d.s:=by
 refine bJ hv ?_
 clear hv
 intro fd e1 g1 hvX
 refine bB hvX ?_
 clear hvX
 intro g2 us e2 hvX
 refine cW hvX ?_
 clear hvX
 intro lo ce e3 hvX
 refine aw hvX ?_
 clear hvX
 intro x e4 hv
 have hgen:fd.gen=false:=by rw[bg]at g1;simpa using g1
 refine el_EL (FO _ _ e1 hgen) ?_
 intro W OF
 have N:=OF.nm
 have hlen:vs.length≤fd.npos:=by have:=Tk g2;rwa [aO]at this
 refine el_EAL (OF.bind vs us hlen e2 ws hw.length) ?_
 intro us' u1 u2
 have hK:=G.K.keeps F.keep
 have hws:VsR d.ρ (vs++us) (ws++us'):=hw.append (u1.ext ⟨d.ρ,rfl⟩)
 rw[ay]at e3
 have bind1: ∀{kindOf:Str→Option Vr},(∀x,kindOf x=W.scope.names.lookup x)→_:=λ{kindOf} hk=>eB N (kindOf:=kindOf) hk fd.params _ _ _ _ _ _ Za Za hws e3 (λy i u hy hi=>absurd hi (dg _ _ _)) (λy j u hy hj=>absurd hj (dg _ _ _))
 have hkind: ∀n,∀y∈(fd.params.map mkS).zip (ws++us'),W.scope.names.lookup y.1=some .local∨(W.scope.names.lookup y.1=some .cell∧((Vm n W.scope.names []).lookup y.1).isSome=true):=λk y hy=>by
  refine el_EAL ((bind1 (kindOf:=λx=>W.scope.names.lookup x) λZ=>rfl).2.2.2 y hy) ?_
  intro x rfl' q
  rw[rfl']
  rcases q with qA|qA
  · refine el_EL qA ?_
    clear qA
    intro i q
    exact .inl (N.lv _ _ q)
  · refine el_EL qA ?_
    clear qA
    intro j q
    refine .inr ⟨(N.cv _ _ q).1,?_⟩
    refine el_AEL (N.cv _ _ q) ?_
    intro _ a0 ha
    have hm:(cellUp k W.scope.names).map (·.1)=(cellUp 0 W.scope.names).map (·.1):=bw _ _ _
    have h1:((cellUp k W.scope.names).map (·.1))[j]? =some (mkS x):=by rw[hm,TN,ha];rfl
    rw[TN]at h1
    cases q2:(cellUp k W.scope.names)[j]? with
    |none=>rw[q2]at h1;cases h1
    |some p=>
     rw[q2]at h1
     have h2:p.1=mkS x:=by simpa using h1
     have nd:((Vm k W.scope.names []).map (·.1)).Nodup:=by rw[cellsFrom_names W.scope.names k 0 [] [] rfl];exact N.nd
     rw[TB nd (n:=mkS x) (c:=p.2) (by rw[bp,Uh,T7,←h2];exact Tq q2)]
     rfl
 refine callX_cells (R:=wants Q E) (fo:=⟨W.oc,W.od,.func (W.fd fd),W.osl⟩) B F (Led.ns Y) G.T.nolimit A.fr A.ff A.fk (hK _ _ OF.lk) rfl (codeRec_of hK OF.cdi) (dp1 A.dp) (u2 _ hK) hkind N.nd (λg L' h₁ tk cells Fg F1 N1 C1 B1 st lt=> ?_) OF.co OF.ge OF.kd
 have Gg:GB Γ g:=G.keeps st
 have kOf: ∀x,(envOfC W.qual W.scope L' a (.ref fd.cd)).kindOf x=W.scope.names.lookup x:=λZ=>rfl
 refine aD (bind1 (kindOf:=(envOfC W.qual W.scope L' a (.ref fd.cd)).kindOf) kOf) ?_
 intro i1 i2 i3 _
 have hL':1<L':=TH Gg.low' F1.above
 have ndL:((Vm (L'+1) W.scope.names []).map (·.1)).Nodup:=by rw[cellsFrom_names W.scope.names (L'+1) 0 [] [] rfl];exact N.nd
 have hce:ce.length=(cellUp 0 W.scope.names).length:=by rw[i3,jl,N.nc]
 have cellName: ∀{j:Nat} {x:Str} {ad:Addr},(cellUp (L'+1) W.scope.names)[j]? =some (x,ad)→j<fd.nc∧ ∃y,x=mkS y∧look y fd.nm=some (.cv j):=λ{j x ad} hj=>by
  have hm:=bw W.scope.names (L'+1) 0
  have h1:((cellUp 0 W.scope.names).map (·.1))[j]? =some x:=by rw[←hm,TN,hj];rfl
  have h2:j<fd.nc:=by
   rw[S3]at h1
   refine el_EL h1 ?_
   clear h1
   intro p _
   simpa[N.nc]using p
  refine el_EL (N.ci j h2) ?_
  intro y hy
  refine el_AEL (N.cv _ _ hy) ?_
  intro _ ad' hy'
  rw[TN,hy']at h1
  exact⟨h2,y,by cases h1;rfl,hy⟩
 have Y1:=Y.enter N1 C1 hL' lt hce (λj x ad v hj hcv=>by
  refine el_AEAL (cellName hj) ?_
  rintro _ y rfl hy
  exact i2 y j v hy hcv) F1
 have x1:Ext d.ρ (d.ρ++(cellUp (L'+1) W.scope.names).map (·.2)):=⟨_,rfl⟩
 have nm':NmOk Γ.g {A:=c.A.deeper (envOfC W.qual W.scope L' a (.ref fd.cd)),env:=envOfC W.qual W.scope L' a (.ref fd.cd),fenv:=envOfC W.qual W.scope L' a (.ref fd.cd),outer:=c.fenv::c.outer,A₀:=c.A,base:=c.base,h₀:=g,L:=L',os:=c.os,kept:=c.kept,gk:=c.gk}
  ⟨d.ρ++(cellUp (L'+1) W.scope.names).map (·.2),d.ξ,bindL (envOfC W.qual W.scope L' a (.ref fd.cd)).kindOf ((fd.params.map mkS).zip (ws++us')) λZ=>none,{d.s with heap:=h₁,toks:=tk}⟩ ⟨fd.nm,az (len h) fd.nc,0,fd.cd⟩ lo:=
  ⟨OF.kd,rfl,rfl,N.dbg,λx i hx=>⟨N.lv x i hx,rfl⟩,N.inj,λx i v hx hi=>by
   refine el_EAL (i1 x i v hx hi) ?_
   intro w z1 z2
   exact⟨w,z1,z2.ext x1⟩,λx j k hx hk=>by
   refine ae (gZ _ _ _ _ hk) ?_
   intro k1 k2
   refine⟨.inl (N.cv x j hx).1,?_⟩
   refine el_AEL (N.cv _ _ hx) ?_
   intro _ a0 ha
   have hm:=bw W.scope.names (L'+1) 0
   have h1:((cellUp (L'+1) W.scope.names).map (·.1))[j]? =some (mkS x):=by rw[hm,TN,ha];rfl
   rw[TN]at h1
   cases q2:(cellUp (L'+1) W.scope.names)[j]? with
   |none=>rw[q2]at h1;cases h1
   |some p=>
    rw[q2]at h1
    have h2:p.1=mkS x:=by simpa using h1
    refine⟨p.2,?_,?_⟩
    · show(Vm (L'+1) W.scope.names []).lookup (mkS x)=some p.2
      exact TB ndL (n:=mkS x) (c:=p.2) (by rw[bp,Uh,T7,←h2];exact Tq q2)
    · show(d.ρ++_)[k]? =_
      rw[k1,aO,S1 (by rw[Y.len];exact T2 _ j),TN,Y.len,Tc,q2];rfl,
   N.gv,λx hx=>absurd hx (N.kv x),rfl,OF.lq⟩
 have R1:Rel Γ {A:=c.A.deeper (envOfC W.qual W.scope L' a (.ref fd.cd)),env:=envOfC W.qual W.scope L' a (.ref fd.cd),fenv:=envOfC W.qual W.scope L' a (.ref fd.cd),outer:=c.fenv::c.outer,A₀:=c.A,base:=c.base,h₀:=g,L:=L',os:=c.os,kept:=c.kept,gk:=c.gk}
  ⟨d.ρ++(cellUp (L'+1) W.scope.names).map (·.2),d.ξ,bindL (envOfC W.qual W.scope L' a (.ref fd.cd)).kindOf ((fd.params.map mkS).zip (ws++us')) λZ=>none,{d.s with heap:=h₁,toks:=tk}⟩ ⟨fd.nm,az (len h) fd.nc,0,fd.cd⟩ lo (h++ce.map O.cell):=
  ⟨F1,Gg,B1,Y1,nm',ho,hg,hkp,hgk⟩
 have A1:AOk {A:=c.A.deeper (envOfC W.qual W.scope L' a (.ref fd.cd)),env:=envOfC W.qual W.scope L' a (.ref fd.cd),fenv:=envOfC W.qual W.scope L' a (.ref fd.cd),outer:=c.fenv::c.outer,A₀:=c.A,base:=c.base,h₀:=g,L:=L',os:=c.os,kept:=c.kept,gk:=c.gk} n:=by
  refine⟨?_,rfl,OF.kd,A.hd,?_,?_⟩
  · show c.A.frames.map _=_
    rw[A.fr];rfl
  · show c.A.depth+1+3*n≤980
    exact nG A.dp (by decide)
  · show c.A.units+3+12*n≤9000
    exact nG A.un (by decide)
 rw[qm,ay]at e4
 refine X.s _ _ _ _ _ fd.body x _ _ A1 R1 e4 λρ' ξ' m' s' fl x2 R' hf=> ?_
 refine⟨L',m',fX s'.heap ρ'++ξ',R'.fr,Led.ns R'.led,λF2 N2=> ?_⟩
 have Y2:=R'.led.rebase N2
 obtain⟨xf,xl,xh⟩:=x
 cases xf with
 |next=>
  replace hQ:=hQ.so (hv:some (V.none,xh)=some (v,h'))
  clear hv
  cases(hf:fl= .next)
  exact hQ ρ' ξ' s' .none (x1.trans x2) F2 Y2 R'.os R'.gens R'.kp R'.gk rfl
 |ret u=>
  cases(hv:some (u,xh)=some (v,h'))
  obtain⟨w,rfl,hw'⟩:=(hf: ∃w,fl= .ret w∧VR ρ' v w)
  exact hQ ρ' ξ' s' w (x1.trans x2) F2 Y2 R'.os R'.gens R'.kp R'.gk hw'
 |brk=>exact nn hv
 |cont=>exact nn hv
end
section
variable{Γ:Gl}{c:St0}{d:Dy}{f:Frm}{lo:Lo}{h:H}{n:Nat}{ih:Ih}
theorem ll(x:T): ∀l:List T,memT x l=true↔x∈l
 |[]=>⟨λh=>(nomatch h),λh=>by simp at h⟩
 |a::l=>by
  show bc (tEq a x) true (memT x l)=true↔_
  cases q:tEq a x with
  |true=>rw[au.mp q];simp[bc]
  |false=>rw[bL,ll x l];have:=cK q;simp[Ne.symm this]
theorem mI: ∀l:List T,ndT l=true→l.Nodup∧ ∀x∈l,jD x=true
 |[],_=>⟨.nil,λx h=>by simp at h⟩
 |a::l,h=>by
  have h':bc (memT a l) false (bc (jD a) (ndT l) false)=true:=h
  cases q:memT a l with
  |true=>rw[q]at h';cases h'
  |false=>
   rw[q,bL]at h'
   cases q2:jD a with
   |false=>rw[q2]at h';cases h'
   |true=>
    rw[q2,bF]at h'
    refine ae (mI l h') ?_
    intro r1 r2
    refine⟨Uf.mpr ⟨λhm=> ?_,r1⟩,λx hx=> ?_⟩
    · rw[(ll a l).mpr hm]at q;cases q
    · rcases Uz.mp hx with rfl|hx
      · exact q2
      · exact r2 x hx
theorem mJ:mkS gj=UK "__debug__":=by decide+kernel
theorem hG:mkS dU=UK "__classdict__":=by decide+kernel
theorem nT{x:T}(h:jD x=true):(mkS x==("__debug__":Str))=false∧(mkS x==("__classdict__":Str))=false:=by
 have h':bc (tEq x gj) false (bn (tEq x dU))=true:=h
 rw[←mJ,←hG,dq,dq]
 cases q:tEq x gj with
 |true=>rw[q]at h';cases h'
 |false=>
  rw[q,bL,bg]at h'
  exact⟨rfl,by simpa using h'⟩
abbrev Ns:=List (Str×Vr)
theorem fG: ∀{l:Ns} {p:Str×Vr},(l.map (·.1)).Nodup→p∈l→l.lookup p.1=some p.2
 |(x,k)::l,p,hn,hm=>by
  rw[UB,Uf]at hn
  rcases Uz.mp hm with rfl|hm
  · simp[T6]
  · have:(p.1==x)=false:=beq_eq_false_iff_ne.mpr λe=>hn.1 (e▸TC (f:=(·.1)) hm)
    rw[T6,this]
    exact fG hn.2 hm
theorem eZ{α β:Type}{g:α→β}: ∀{l:List α},(l.map g).Nodup→l.Nodup
 |[],_=> .nil
 |a::l,h=>by
  rw[UB,Uf]at h
  exact Uf.mpr ⟨λhm=>h.1 (TC hm),eZ h.2⟩
theorem FX{l:Ns}(h:ndT (mp (λp=>sT p.1) l)=true):(l.map (·.1)).Nodup∧ ∀p∈l,jD (sT p.1)=true:=by
 refine ae (mI _ h) ?_
 intro a b
 rw[qm]at a b
 refine⟨?_,λp hp=>b _ (TC hp)⟩
 have:(l.map (·.1)).map sT=l.map λp=>sT p.1:=by rw[List.map_map];rfl
 rw[←this]at a
 exact eZ a
theorem bE{env:Env}: ∀{names:Ns} {x:Str} {k:Vr},names.lookup x=some k→
 (names.map λ(n,k)=>if(k==NameKind.free&&env.scope.kind== .function&&env.kindOf n==some .cell)then(n,NameKind.cell)else(n,k)).lookup x=some k∨
 (k= .free∧(names.map λ(n,k)=>if(k==NameKind.free&&env.scope.kind== .function&&env.kindOf n==some .cell)then(n,NameKind.cell)else(n,k)).lookup x=some .cell)
 |[],x,k,h=>by simp at h
 |(y,k')::r,x,k,h=>by
  rw[UB]
  cases q:x==y with
  |true=>
   rw[T6,q]at h
   have hk:k'=k:=Ud h
   subst hk
   by_cases hc:(k'==NameKind.free&&env.scope.kind== .function&&env.kindOf y==some .cell)=true
   · refine .inr ⟨?_,?_⟩
     · simp only[Ub]at hc;exact beq_iff_eq.mp hc.1.1
     · simp only[hc,if_true,T6,q]
   · left
     rw[Bool.not_eq_true]at hc
     simp only[hc,Bool.false_eq_true,if_false,T6,q]
  |false=>
   rw[T6,q]at h
   have:=bE (env:=env) h
   by_cases hc:(k'==NameKind.free&&env.scope.kind== .function&&env.kindOf y==some .cell)=true
   · simpa only[hc,if_true,T6,q]using this
   · rw[Bool.not_eq_true]at hc
     simpa only[hc,Bool.false_eq_true,if_false,T6,q]using this
noncomputable def cS(cs:List (Str×Addr)):Ns→List (Str×Addr)→List (Str×Addr)
 |[],acc=>acc
 |(x,k)::r,acc=>if k== .free then cS cs r ((x,(cs.lookup x).getD 0)::acc)else cS cs r acc
set_option tactic.hygienic true in
theorem fH{cs:List (Str×Addr)}: ∀{l:Ns} {acc:List (Str×Addr)} {p:Str×Addr},p∈cS cs l acc↔p∈acc∨((p.1,NameKind.free)∈l∧p.2=(cs.lookup p.1).getD 0)
 |[],acc,p=>⟨.inl,λh=>h.elim id λh=>by simp at h⟩
 |(x,k)::r,acc,p=>by
  unfold cS
  split
  · rename_i q
    have:=beq_iff_eq.mp q
    subst this
    rw[fH]
    constructor
    · rintro(h|h)
      · rcases Uz.mp h with rfl|h
        · exact .inr ⟨.head _,rfl⟩
        · exact .inl h
      · exact .inr ⟨.tail _ h.1,h.2⟩
    · rintro(h|⟨h1,h2⟩)
      · exact .inl (.tail _ h)
      · rcases Uz.mp h1 with e|h1
        · cases e
          exact .inl (by
           have:p=(p.1,(cs.lookup p.1).getD 0):=by rw[←h2]
           rw[this];exact .head _)
        · exact .inr ⟨h1,h2⟩
  · rename_i q
    rw[fH]
    constructor
    · rintro(h|h)
      · exact .inl h
      · exact .inr ⟨.tail _ h.1,h.2⟩
    · rintro(h|⟨h1,h2⟩)
      · exact .inl h
      · rcases Uz.mp h1 with e|h1
        · cases e;exact absurd rfl q
        · exact .inr ⟨h1,h2⟩
theorem eb{cs:List (Str×Addr)}: ∀{l:Ns} {acc:List (Str×Addr)},(l.map (·.1)).Nodup→(∀p∈acc,∀q∈l,p.1≠q.1)→(acc.map (·.1)).Nodup→((cS cs l acc).map (·.1)).Nodup
 |[],acc,_,_,h=>h
 |(x,k)::r,acc,hn,ha,hd=>by
  rw[UB,Uf]at hn
  unfold cS
  split
  · refine eb hn.2 (λp hp q hq=> ?_) ?_
    · rcases Uz.mp hp with rfl|hp
      · exact λe=>hn.1 (e▸TC hq)
      · exact ha p hp q (.tail _ hq)
    · rw[UB,Uf]
      refine⟨λhm=> ?_,hd⟩
      refine el_EAL (UW.mp hm) ?_
      intro p hp e
      exact ha p hp _ (.head _) e
  · exact eb hn.2 (λp hp q hq=>ha p hp q (.tail _ hq)) hd
set_option tactic.hygienic true in
theorem dy: ∀{l:Ns} {n:Nat} {p:Str×Addr},p∈cellUp n l→(p.1,NameKind.cell)∈l
 |(x,k)::r,n,p,h=>by
  unfold cellUp at h
  split at h
  · rename_i q
    have:=beq_iff_eq.mp q
    subst this
    rcases Uz.mp h with rfl|h
    · exact .head _
    · exact .tail _ (dy h)
  · exact .tail _ (dy h)
theorem fI: ∀{l:Ns} {n:Nat},(l.map (·.1)).Nodup→((cellUp n l).map (·.1)).Nodup
 |[],n,_=> .nil
 |(x,k)::r,n,hn=>by
  rw[UB,Uf]at hn
  unfold cellUp
  split
  · rw[UB,Uf]
    refine⟨λhm=> ?_,fI hn.2⟩
    refine el_EAL (UW.mp hm) ?_
    intro p hp e
    exact hn.1 (e▸TC (f:=(·.1)) (dy hp))
  · exact fI hn.2
theorem iH{env:Env}{names:Ns}{scope:Scope}(e:scope.names=names)(hf: ∀p∈names,p.2= .free→ ∃a,env.cells.lookup p.1=some a):closureFor scope env=pure (cS env.cells names []):=by
 have go: ∀(l:Ns) (acc:List (Str×Addr)),(∀p∈l,p∈names)→(forIn l acc (λx r=>(do
  if x.2== .free then pure (ForInStep.yield ((x.1,←cellOf env x.1)::r))else pure (ForInStep.yield r):Sem _)))=pure (cS env.cells l acc):=by
  intro l
  induction l with
  |nil=>intro acc _;rfl
  |cons p r ih=>
   intro acc hm
   obtain⟨x,k⟩:=p
   rw[Uj]
   unfold cS
   by_cases q:(k== .free)=true
   · refine el_EL (hf (x,k) (hm _ (.head _)) (beq_iff_eq.mp q)) ?_
     intro a ha
     have hc:cellOf env x=pure a:=by unfold cellOf;rw[ha]
     simp only[q,if_true,hc,pure_bind]
     rw[ih _ λp hp=>hm p (.tail _ hp),ha];rfl
   · rw[Bool.not_eq_true]at q
     simp only[q,Bool.false_eq_true,if_false,pure_bind]
     exact ih _ λp hp=>hm p (.tail _ hp)
 unfold closureFor
 rw[e]
 have:=go names [] λp hp=>hp
 simp only[bind_pure]
 first
 |exact this
 |(simpa using this)
set_option tactic.hygienic true in
theorem cz{nm:Nm}{gl:List (T×V)}: ∀(ns:Ns) (j:Nat) {x:T} {s:Slot},look x (aZ nm gl ns j)=some s→ ∃p∈ns,sT p.1=x∧
 ((s= .kv∧p.2= .local)∨(∃i,s= .cv i∧(p.2= .cell∨p.2= .free))∨(∃v,s= .gv v∧p.2= .globalImplicit∧look x gl=some v))
 |[],j,x,s,h=>by cases h
 |(y,k)::r,j,x,s,h=>by
  have more: ∀{j},look x (aZ nm gl r j)=some s→ ∃p∈(y,k)::r,sT p.1=x∧((s= .kv∧p.2= .local)∨(∃i,s= .cv i∧(p.2= .cell∨p.2= .free))∨(∃v,s= .gv v∧p.2= .globalImplicit∧look x gl=some v)):=λe=>by
   refine el_EAL (cz r _ e) ?_
   intro p h1 h2
   exact⟨p,.tail _ h1,h2⟩
  cases k with
  |«local»=>
   have h':look x ((sT y,Slot.kv)::aZ nm gl r j)=some s:=h
   rw[aK]at h'
   split at h'
   · rename_i q;cases h';exact⟨_,.head _,q.symm,.inl ⟨rfl,rfl⟩⟩
   · exact more h'
  |cell=>
   have h':look x ((sT y,Slot.cv j)::aZ nm gl r (Nat.succ j))=some s:=h
   rw[aK]at h'
   split at h'
   · rename_i q;cases h';exact⟨_,.head _,q.symm,.inr (.inl ⟨j,rfl,.inl rfl⟩)⟩
   · exact more h'
  |free=>
   have h':look x ((sT y,Slot.cv j)::aZ nm gl r (Nat.succ j))=some s:=h
   rw[aK]at h'
   split at h'
   · rename_i q;cases h';exact⟨_,.head _,q.symm,.inr (.inl ⟨j,rfl,.inr rfl⟩)⟩
   · exact more h'
  |globalExplicit=>exact more (h:look x (aZ nm gl r j)=some s)
  |globalImplicit=>
   cases q:look (sT y) gl with
   |none=>
    have h':look x (@U9 V (λZ=>Nm) (aZ nm gl r j) (λv=>(sT y,.gv v)::aZ nm gl r j) (look (sT y) gl))=some s:=h
    rw[q]at h';exact more h'
   |some v=>
    have h':look x (@U9 V (λZ=>Nm) (aZ nm gl r j) (λv=>(sT y,.gv v)::aZ nm gl r j) (look (sT y) gl))=some s:=h
    rw[q]at h'
    have h2:look x ((sT y,Slot.gv v)::aZ nm gl r j)=some s:=h'
    rw[aK]at h2
    split at h2
    · rename_i e;cases h2;subst e;exact⟨_,.head _,rfl,.inr (.inr ⟨v,rfl,rfl,q⟩)⟩
    · exact more h2
theorem jm{nm:Nm}{x:T}{j:Nat}(h:tU nm x=some j):look x nm=some (.cv j):=by
 refine aw h ?_
 clear h
 intro s h1 h2
 cases s<;>cases h2
 exact h1
set_option tactic.hygienic true in
theorem hJ{nm:Nm}{gl:List (T×V)}{ce:List Nat}: ∀(ns:Ns) (j b:Nat) {ce2:List Nat} {x:T} {i:Nat},cf nm ce ns b=some ce2→look x (aZ nm gl ns j)=some (.cv i)→j≤i∧ ∀k,ce2[i-j]? =some k→
 ∃p∈ns,sT p.1=x∧((p.2= .cell∧ ∃t,k=b+t∧ ∀n,∃a,(cellUp n ns)[t]? =some (p.1,a))∨(p.2= .free∧ ∃j',look x nm=some (.cv j')∧ce[j']? =some k))
 |[],j,b,ce2,x,i,_,h=>by cases h
 |(y,kd)::r,j,b,ce2,x,i,hc,h=>by
  cases kd with
  |«local»=>
   have h':look x ((sT y,Slot.kv)::aZ nm gl r j)=some (.cv i):=h
   rw[aK]at h'
   split at h'
   · cases h'
   · refine ae (hJ r j b (hc:cf nm ce r b=some ce2) h') ?_
     intro a e
     refine⟨a,λk hk=> ?_⟩
     refine el_EAAL (e k hk) ?_
     intro p h1 h2 h3
     exact⟨p,.tail _ h1,h2,h3⟩
  |cell=>
   refine aw (hc:ob (cf nm ce r (Nat.succ b)) (λl=>some (b::l))=some ce2) ?_
   clear hc
   intro l e1 e2
   obtain rfl:=Ud e2
   have h':look x ((sT y,Slot.cv j)::aZ nm gl r (Nat.succ j))=some (.cv i):=h
   rw[aK]at h'
   split at h'
   · rename_i q
     cases h'
     refine⟨UY _,λk hk=> ?_⟩
     rw[Nat.sub_self]at hk
     obtain rfl:=Ud hk
     exact⟨_,.head _,q.symm,.inl ⟨rfl,0,rfl,λn=>⟨n,rfl⟩⟩⟩
   · refine ae (hJ r (Nat.succ j) (Nat.succ b) e1 h') ?_
     intro a e
     refine⟨Nat.le_of_succ_le a,λk hk=> ?_⟩
     have hj:=zk a
     rw[hj,Td]at hk
     refine el_EAAL (e k hk) ?_
     intro p h1 h2 h3
     refine⟨p,.tail _ h1,h2,h3.imp (λ⟨z1,t,z2,z3⟩=>⟨z1,t+1,by rw[z2];omega,λn=> ?_⟩) id⟩
     refine el_EL (z3 (n+1)) ?_
     intro a' z
     exact⟨a',by unfold cellUp;rw[if_pos (by rfl),Td];exact z⟩
  |free=>
   refine aB (hc:ob (tU nm (sT y)) (λj=>ob (nth ce j) λk=>ob (cf nm ce r b) λl=>some (k::l))=some ce2) ?_
   clear hc
   intro j' e1 k0 e3 l e5 e6
   obtain rfl:=Ud e6
   rw[ap]at e3
   have h':look x ((sT y,Slot.cv j)::aZ nm gl r (Nat.succ j))=some (.cv i):=h
   rw[aK]at h'
   split at h'
   · rename_i q
     cases h'
     refine⟨UY _,λk hk=> ?_⟩
     rw[Nat.sub_self]at hk
     obtain rfl:=Ud hk
     exact⟨_,.head _,q.symm,.inr ⟨rfl,j',by rw[q];exact jm e1,e3⟩⟩
   · refine ae (hJ r (Nat.succ j) b e5 h') ?_
     intro a e
     refine⟨Nat.le_of_succ_le a,λk hk=> ?_⟩
     have hj:=zk a
     rw[hj,Td]at hk
     refine el_EAAL (e k hk) ?_
     intro p h1 h2 h3
     exact⟨p,.tail _ h1,h2,h3⟩
  |globalExplicit=>exact nn hc
  |globalImplicit=>
   have h1: ∃p∈((y,NameKind.globalImplicit)::r),True:=⟨_,.head _,trivial⟩
   have go:look x (aZ nm gl r j)=some (.cv i)→j≤i∧ ∀k,ce2[i-j]? =some k→
    ∃p∈(y,NameKind.globalImplicit)::r,sT p.1=x∧((p.2= .cell∧ ∃t,k=b+t∧ ∀n,∃a,(cellUp n ((y,NameKind.globalImplicit)::r))[t]? =some (p.1,a))∨(p.2= .free∧ ∃j',look x nm=some (.cv j')∧ce[j']? =some k)):=λh'=>by
    refine ae (hJ r j b (hc:cf nm ce r b=some ce2) h') ?_
    intro a e
    refine⟨a,λk hk=> ?_⟩
    refine el_EAAL (e k hk) ?_
    intro p h1 h2 h3
    exact⟨p,.tail _ h1,h2,h3⟩
   have h':look x (@U9 V (λZ=>Nm) (aZ nm gl r j) (λv=>(sT y,.gv v)::aZ nm gl r j) (look (sT y) gl))=some (.cv i):=h
   cases q:look (sT y) gl with
   |none=>rw[q]at h';exact go h'
   |some v=>
    rw[q]at h'
    have h2:look x ((sT y,Slot.gv v)::aZ nm gl r j)=some (.cv i):=h'
    rw[aK]at h2
    split at h2
    · cases h2
    · exact go h2
theorem cA{nm:Nm}{ce:List Nat}: ∀(ns:Ns) (b:Nat) {ce2:List Nat},cf nm ce ns b=some ce2→ ∀p∈ns,p.2= .free→ ∃j k,look (sT p.1) nm=some (.cv j)∧ce[j]? =some k
 |[],b,ce2,_,p,hp,_=>by simp at hp
 |(y,kd)::r,b,ce2,hc,p,hp,hf=>by
  cases kd with
  |«local»=>
   rcases Uz.mp hp with rfl|hp
   · cases hf
   · exact cA r b (hc:cf nm ce r b=some ce2) p hp hf
  |cell=>
   refine aw (hc:ob (cf nm ce r (Nat.succ b)) (λl=>some (b::l))=some ce2) ?_
   clear hc
   intro l e1 e2
   rcases Uz.mp hp with rfl|hp
   · cases hf
   · exact cA r _ e1 p hp hf
  |free=>
   refine aB (hc:ob (tU nm (sT y)) (λj=>ob (nth ce j) λk=>ob (cf nm ce r b) λl=>some (k::l))=some ce2) ?_
   clear hc
   intro j' e1 k0 e3 l e5 e6
   rw[ap]at e3
   rcases Uz.mp hp with rfl|hp
   · exact⟨j',k0,jm e1,e3⟩
   · exact cA r _ e5 p hp hf
  |globalExplicit=>exact nn hc
  |globalImplicit=>
   rcases Uz.mp hp with rfl|hp
   · cases hf
   · exact cA r b (hc:cf nm ce r b=some ce2) p hp hf
end
section
variable{Γ:Gl}{c:St0}{d:Dy}{f:Frm}{lo:Lo}{h:H}{n:Nat}{ih:Ih}
section
variable{M:Model}{A:Around}{E:Value→Shared→Prop}{s:Shared}{env:Env}
abbrev bX:Obj:={cls:= .type "dict",data:= .dict #[]}
theorem lm{scope:Scope}{globals:Addr}{cl:List (Str×Addr)}{qual:Str}{Q:Env→Shared→Prop}
 (h:Q {scope,locals:=s.heap.objs.size,globals,cells:=(cellUp (s.heap.objs.size+1) scope.names).reverse++cl,qual,func:=none,code:=env.code,frame:=env.frame,builtins:=env.builtins} {s with heap:=pushCells (s.heap.push bX) scope.names}):
 wpAny M A (newFunctionEnv scope globals cl [] qual none .none (some env)) Q E s:=by
 simp only[newFunctionEnv,Option.isSome_some,if_true]
 refine U7 (wpAny_alloc ?_)
 refine U7 (wpAny_layCells _ (λname kind cells=>by cases hkc:kind==NameKind.cell<;>simp[hkc]) _ _ _ _ ?_)
 rw[show({s with heap:=s.heap.push bX}:Shared).heap.objs.size=s.heap.objs.size+1 from Ux ..,bp]
 simp only[List.forIn_nil]
 exact U7 (U8 (U8 h))
def gw(M:Model)(A:Around)(E:Value→Shared→Prop)(use:Option (Value→Sem Unit))(Q:Value→Shared→Prop)(acc:Value)(C:Addr)(s':Shared):Prop:=
 match use with
 |none=> ∃m,s'.heap.Ns C m∧ ∀h' m',h'.Ns C m'→UM C s'.heap h'→Q acc {s' with heap:=h'}
 |some u=>wpAny M A (u acc) (λZ s''=> ∃m,s''.heap.Ns C m∧ ∀h' m',h'.Ns C m'→UM C s''.heap h'→Q .none {s'' with heap:=h'}) E s'
theorem pg{e:Expr}{scope:Scope}{pos:Pos}{newAcc first:Sem Value}{g:Comprehension}{gs:List Comprehension}{cl:List (Str×Addr)}{use:Option (Value→Sem Unit)}{Q:Value→Shared→Prop}
 (hcl:clausesOf e=g::gs)(hs: ∀x,foldedSetIterable g.iter env x=pure x)(hclos:closureFor scope env=pure cl)(hkind:scope.kind= .function)(hnames: ∀x∈scope.names,x.2= .local→scope.names.lookup x.1=some .local)
 (h:wpAny M A first (λx s₁=>wpAny M A (pyIter x) (λit s₂=>wpAny M A newAcc (λacc s₃=>wpAny M A (newFunctionEnv scope env.globals cl [] env.qual none .none (some env)) (λcenv s₄=>
  codeAny M A (.compStart e 0 it acc {cenv with scope:=relabel scope env}) (λr s'=>match r with| .ok _=>gw M A E use Q acc cenv.locals s'| .error _=>False) s₄) E s₃) E s₂) E s₁) E s):
 wpAny M A (comprehension e scope env pos newAcc false first use) Q E s:=by
 unfold comprehension
 rw[hclos,hcl]
 refine U7 (Vc h (λx s₁ h₁=> ?_) λZ Z z=>z)
 refine U7 (UA (U7 (UZ (hs x) (U7 (Uy (Vc h₁ (λit s₂ h₂=> ?_) λZ Z z=>z))))))
 refine wpAny_standIf (U7 (Vc h₂ (λacc s₃ h₃=> ?_) λZ Z z=>z))
 refine U7 (U8 (U7 (Vc h₃ (λcenv s₄ h₄=> ?_) λZ Z z=>z)))
 dsimp only
 have hv: ∀x∈(scope.names.filter λx=>(x.2== .local||x.2== .cell)&&x.1 !=(".0":Str)).reverse,x.2= .local→Env.kindOf {cenv with scope:=relabel scope env} x.1=some .local:=
  λx hx hl=>lookup_relabel_local (hnames x (Ug.mp (T7.mp hx)).1 hl)
 have hv': ∀x∈(scope.names.filter λx=>(x.2== .local||x.2== .cell)&&x.1 !=(".0":Str)).reverse.drop 1++(scope.names.filter λx=>(x.2== .local||x.2== .cell)&&x.1 !=(".0":Str)).reverse.take 1,
  x.2= .local→Env.kindOf {cenv with scope:=relabel scope env} x.1=some .local:=λx hx hl=>by
  rcases Ue.mp hx with q|q
  · exact hv x (List.mem_of_mem_drop q) hl
  · exact hv x (List.mem_of_mem_take q) hl
 refine Uy (U7 (UG (Uy (wpAny_run (codeAny_mono h₄ λr s' hr=> ?_)))))
 cases r with
 |error x=>exact hr.elim
 |ok fl=>
  cases use with
  |none=>
   refine el_EAL hr ?_
   clear hr
   intro m hn hr
   exact U7 (Uy (wpAny_comp_letGo (cenv:={cenv with scope:=relabel scope env}) hkind _ s' m hv hn λh' m' hn' hs'=>U8 (hr h' m' hn' hs')))
  |some u=>
   refine U7 (Vf (U7 (Uy (Vc hr (λZ s'' hr'=> ?_) λZ Z z=>z))))
   refine el_EAL hr' ?_
   clear hr'
   intro m hn hr'
   exact U7 (wpAny_comp_letGo (cenv:={cenv with scope:=relabel scope env}) hkind _ s'' m hv' hn λh' m' hn' hs'=>U8 (hr' h' m' hn' hs'))
end
theorem Rel.cells{C:Addr}: ∀(l:Ns) {d:Dy} {h:H},Rel Γ c d f lo h→Rel Γ c ⟨d.ρ++(cellUp d.s.heap.objs.size l).map (·.2),d.ξ,d.m,{d.s with heap:=pushCells d.s.heap l}⟩ f lo (h++bU l)
 |[],d,h,R=>by
  have e1:d.ρ++([]:List (Str×Addr)).map (·.2)=d.ρ:=by simp
  have e2:h++bU []=h:=by show h++[]=h;simp
  show Rel Γ c ⟨d.ρ++([]:List (Str×Addr)).map (·.2),d.ξ,d.m,d.s⟩ f lo (h++bU [])
  rw[e1,e2];exact R
 |(x,k)::r,d,h,R=>by
  cases k with
  |cell=>
   have R1:=R.new (t:=d.s.toks) (o:= .cell none) (b:={cls:= .type "cell",data:= .cell none}) rfl ⟨none,rfl,λv' e=>by cases e⟩
   have R2:=Rel.cells (C:=C) r R1
   have e1:d.ρ++(cellUp d.s.heap.objs.size ((x,NameKind.cell)::r)).map (·.2)=d.ρ++[d.s.heap.objs.size]++(cellUp (d.s.heap.push {cls:= .type "cell",data:= .cell none}).objs.size r).map (·.2):=by
    rw[Ux,show cellUp d.s.heap.objs.size ((x,NameKind.cell)::r)=(x,d.s.heap.objs.size)::cellUp (d.s.heap.objs.size+1) r from rfl]
    simp
   have e2:h++bU ((x,NameKind.cell)::r)=h++[.cell none]++bU r:=by show h++(.cell none::bU r)=_;simp
   have e3:pushCells d.s.heap ((x,NameKind.cell)::r)=pushCells (d.s.heap.push {cls:= .type "cell",data:= .cell none}) r:=rfl
   rw[e1,e2,e3]
   exact R2
  |«local»=>exact Rel.cells (C:=C) r R
  |free=>exact Rel.cells (C:=C) r R
  |globalExplicit=>exact Rel.cells (C:=C) r R
  |globalImplicit=>exact Rel.cells (C:=C) r R
theorem uR{nm:Nm}{gl:List (T×V)}{ns:Ns}{j:Nat}{x:T}{i:Nat}:look x (aZ nm gl ns j)≠some (.lv i):=λe=>by
 refine el_EAAL (cz (nm:=nm) ns j e) ?_
 intro p _ _ q
 rcases q with⟨q,_⟩|⟨_,q,_⟩|⟨_,q,_⟩<;>cases q
theorem uS{nm:Nm}{ce ce2:List Nat}{q cd b:Nat}{sc:Scope}(N:NmOk Γ.g c d ⟨nm,ce,q,cd⟩ lo)(hk:sc.kind= .function)(hnd:(sc.names.map (·.1)).Nodup)(hok: ∀p∈sc.names,jD (sT p.1)=true)
 (hce:cf nm ce sc.names (b+1)=some ce2){ρ2:List Addr}{C:Addr}{ξ2:List (Addr×Obj)}{s2:Shared}(x2:Ext d.ρ ρ2)(hC:ρ2[b]? =some C)(hcell: ∀t p,(cellUp (C+1) sc.names)[t]? =some p→ρ2[b+1+t]? =some p.2):
 NmOk Γ.g {c with env:={scope:=relabel sc c.env,locals:=C,globals:=c.env.globals,cells:=(cellUp (C+1) sc.names).reverse++cS c.env.cells sc.names [],qual:=c.env.qual,func:=none,code:=c.env.code,frame:=c.env.frame,builtins:=c.env.builtins}}
  ⟨ρ2,ξ2,d.m,s2⟩ ⟨aZ nm Γ.g.gl sc.names 0,ce2,b,cd⟩ lo:=by
 have hl: ∀p∈sc.names,sc.names.lookup p.1=some p.2:=λp hp=>fG hnd hp
 refine⟨hk,N.glob,N.blt,λx s hx=> ?_,λx i hx=>absurd hx (uR (nm:=nm)),λx y i hx=>absurd hx (uR (nm:=nm)),λx i v hx=>absurd hx (uR (nm:=nm)),λx j k hx hj=> ?_,λx v hx=> ?_,λx hx=> ?_,N.cd,N.ql⟩
 · refine el_EAAL (cz (nm:=nm) _ _ hx) ?_
   rintro p hp rfl _
   exact nT (hok p hp)
 · refine ae (hJ sc.names 0 (b+1) hce hx) ?_
   intro _ q
   refine el_EAAL (q k hj) ?_
   rintro p hp rfl q
   have e:mkS (sT p.1)=p.1:=rfl
   rw[e]
   rcases q with qA|qA
   · refine el_AEAL qA ?_
     clear qA
     intro q1 t q2 q3
     have hlk:=hl p hp
     rw[q1]at hlk
     refine⟨.inl ?_,?_⟩
     · rcases bE (env:=c.env) hlk with z|qA
       · exact z
       · refine ae qA ?_
         clear qA
         intro z _
         cases z
     · refine el_EL (q3 (C+1)) ?_
       intro a ha
       refine⟨a,?_,by rw[q2];exact hcell t _ ha⟩
       show((cellUp (C+1) sc.names).reverse++_).lookup p.1=some a
       rw[List.lookup_append,TB (n:=p.1) (c:=a) (by rw[List.map_reverse];exact List.pairwise_reverse.mpr (List.Pairwise.imp Ne.symm (fI hnd))) (by rw[T7];exact Tq ha)]
       rfl
   · refine el_AEAL qA ?_
     clear qA
     intro q1 j' q2 q3
     have hlk:=hl p hp
     rw[q1]at hlk
     refine el_AEAL (N.cv _ _ _ q2 q3) ?_
     intro _ a ha hr
     have ha':c.env.cells.lookup p.1=some a:=ha
     refine⟨?_,a,?_,x2.get hr⟩
     · rcases bE (env:=c.env) hlk with z|qA
       · exact .inr z
       · refine ae qA ?_
         clear qA
         intro _ z
         exact .inl z
     · show((cellUp (C+1) sc.names).reverse++cS c.env.cells sc.names []).lookup p.1=some a
       have hno:(cellUp (C+1) sc.names).reverse.lookup p.1=none:=by
        rw[List.lookup_eq_none_iff]
        intro y hy
        rw[T7]at hy
        have h1:=hl _ (dy hy)
        simp only[bne_iff_ne,ne_eq,beq_eq_false_iff_ne]
        intro z
        have h1':sc.names.lookup y.1=some .cell:=h1
        rw[←z,hlk]at h1'
        cases h1'
       rw[List.lookup_append,hno]
       show(cS c.env.cells sc.names []).lookup p.1=some a
       refine TB (eb hnd (λp hp=>by simp at hp) .nil) (fH.mpr (.inr ⟨?_,?_⟩))
       · rw[←q1];exact hp
       · rw[ha'];rfl
 · refine el_EAAL (cz (nm:=nm) _ _ hx) ?_
   rintro p hp rfl q
   rcases q with qA|qA|qA
   · refine ae qA ?_
     clear qA
     intro q _
     cases q
   · refine el_EAL qA ?_
     clear qA
     intro _ q _
     cases q
   · refine el_EAAL qA ?_
     clear qA
     intro v' q q1 q2
     cases q
     refine⟨?_,q2⟩
     have hlk:=hl p hp
     rw[q1]at hlk
     rcases bE (env:=c.env) hlk with z|qA
     · exact z
     · refine ae qA ?_
       clear qA
       intro z _
       cases z
 · refine el_EAAL (cz (nm:=nm) _ _ hx) ?_
   rintro p hp rfl q
   rcases q with qA|qA|qA
   · refine ae qA ?_
     clear qA
     intro _ q1
     have hlk:=hl p hp
     rw[q1]at hlk
     refine⟨?_,hC⟩
     rcases bE (env:=c.env) hlk with z|qA
     · exact z
     · refine ae qA ?_
       clear qA
       intro z _
       cases z
   · refine el_EAL qA ?_
     clear qA
     intro _ q _
     cases q
   · refine el_EAL qA ?_
     clear qA
     intro v' q _
     cases q
end
section
variable{Γ:Gl}{c:St0}{d:Dy}{f:Frm}{lo:Lo}{h:H}{n:Nat}{ih:Ih}
theorem fY{env:Env}: ∀(l:List Expr),(forIn l false λc' r=>if r=true then do let ok←isTrue c' env (eval c' env);pure (ForInStep.yield ok)else pure (ForInStep.yield r))=(pure false:Sem Bool)
 |[]=>rfl
 |e::l=>by
  rw[Uj,if_neg (by decide),pure_bind]
  exact fY l
section
variable{E:Value→Shared→Prop}{v:V}{h':H}{p:Pos}{b:Bool}
theorem uT(X:Snd Γ n ih)(A:AOk c n): ∀(cs:Mine.E) (d:Dy) (h:H) (b:Bool) (h':H) (Q:Bool→Shared→Prop),Rel Γ c d f lo h→iZ ih f lo cs h=some (b,h')→de Γ c d f lo h' b Q→
 wpAny Γ.M c.A (forIn (dL cs) true λc' r=>if r=true then do let ok←isTrue c' c.env (eval c' c.env);pure (ForInStep.yield ok)else pure (ForInStep.yield r)) Q E d.s:=by
 refine lsE ?_ ?_ ?_
 · intro d h b h' Q R hv hQ
   replace hQ:=hQ.so (hv:some (true,h)=some (b,h'))
   clear hv
   exact U8 (hQ d.ρ d.ξ d.s (.refl _) R)
 · intro e r IH d h b h' Q R hv hQ
   refine aw (hv:ob (ih.t f lo h e) (λp=>bc p.1 (iZ ih f lo r p.2) (some (false,p.2)))=some (b,h')) ?_
   clear hv
   intro p h1 hv
   show wpAny Γ.M c.A (forIn (dE e::dL r) true _) Q E d.s
   rw[Uj,if_pos rfl]
   refine U7 (U7 (X.t c d f lo h e p.1 p.2 _ E A R h1 λρ1 ξ1 s1 x1 R1=>U8 ?_))
   rcases bO hv with qA|qA
   · refine ae qA ?_
     clear qA
     intro q hv
     rw[q]
     exact IH ⟨ρ1,ξ1,d.m,s1⟩ p.2 b h' Q R1 hv λρ2 ξ2 s2 x2 R2=>hQ ρ2 ξ2 s2 (x1.trans x2) R2
   · refine ae qA ?_
     clear qA
     intro q hv
     rw[q]
     replace hQ:=hQ.so hv
     clear hv
     show wpAny Γ.M c.A (forIn (dL r) false _) Q E s1
     rw[fY]
     exact U8 (hQ ρ1 ξ1 s1 x1 R1)
 · intro e q _ _ _ _ _ _ hv _;exact rs q hv
theorem cT{a:Addr}{o3:Obj}{src:Src}{i:Nat}{ρ0:List Addr}(R:Rel Γ {c with kept:=(a,o3)::c.kept} d f lo h)(hi:ItO ρ0 i o3 src)(kk: ∀p∈c.kept,p.1≠a):
 ∃ξ',Rel Γ c ⟨d.ρ,ξ',d.m,d.s⟩ f lo h∧OffA c ⟨d.ρ,ξ',d.m,d.s⟩ a∧d.s.heap.get? a=some o3:=by
 refine el_EAAL hi.cls ?_
 intro ty hc1 hc2 _
 have hc:=hi.nc
 have R6:Rel Γ c ⟨d.ρ,d.ξ.filter (λp=> !(p.1==a)),d.m,d.s⟩ f lo h:=R.unkeep (t:=d.s.toks) hc kk λb ob Z e=>e
 refine aD (R.led.frz _ (R.kp _ (.head _))) ?_
 intro f1 f2 f3 f4
 exact⟨_,R6,⟨f2,f3,f4,λp hp=>by
  refine ae (Ug.mp hp) ?_
  intro _ p2
  intro e;rw[e]at p2;simp at p2⟩,f1⟩
theorem jo{x:Str}{px:Pos}{ifs:Mine.E}{emit:H→Option H}{src:Src}{m i:Nat}{hEnd:H}{a:Addr}{o':Obj}(X:Snd Γ n ih)(A:AOk c n){ρ:List Addr}{ξ:List (Addr×Obj)}{mm:Str→Option Value}{s:Shared}
 (R:Rel Γ c ⟨ρ,ξ,mm,s⟩ f lo h)(O:OffA c ⟨ρ,ξ,mm,s⟩ a)(ho:s.heap.get? a=some o')(hi:ItO ρ i o' src)(nl: ∀i,look (sT x) f.nm≠some (.lv i))(hv:compLoop ih f lo (sT x) ifs emit src (m+1) h i=some hEnd)
 {D T F:Shared→Prop}{E1 E2 E3:Value→Shared→Prop}
 (hD: ∀s',Rel Γ c ⟨ρ,ξ,mm,s'⟩ f lo hEnd→D s')
 (hT: ∀ρ' ξ' s' h' h'' o3,Ext ρ ρ'→Rel Γ {c with kept:=(a,o3)::c.kept} ⟨ρ',ξ',mm,s'⟩ f lo h'→ItO ρ' (i+1) o3 src→emit h'=some h''→compLoop ih f lo (sT x) ifs emit src m h'' (i+1)=some hEnd→T s')
 (hF: ∀ρ' ξ' s' h' o3,Ext ρ ρ'→Rel Γ {c with kept:=(a,o3)::c.kept} ⟨ρ',ξ',mm,s'⟩ f lo h'→ItO ρ' (i+1) o3 src→compLoop ih f lo (sT x) ifs emit src m h' (i+1)=some hEnd→F s'):
 wpAny Γ.M c.A (pyNext (.ref a)) (λr s₁=>match r with
  |none=>D s₁
  |some v=>wpAny Γ.M c.A (assign (.Name x px) c.env v) (λZ s₂=>wpAny Γ.M c.A (forIn (dL ifs) true λc' r=>if r=true then do let ok←isTrue c' c.env (eval c' c.env);pure (ForInStep.yield ok)else pure (ForInStep.yield r))
   (λok s₃=>if ok=true then T s₃ else F s₃) E3 s₂) E2 s₁) E1 s:=by
 refine aw (hv:ob (fC h src i) (λv=> @U9 V (λZ=>Option H) (some h) (λv=>ob (bz f lo h (sT x) v) λq=>ob (iZ ih f lo ifs q.2) λp=>bc p.1 (ob (emit p.2) λh3=>compLoop ih f lo (sT x) ifs emit src m h3 (Nat.succ i)) (compLoop ih f lo (sT x) ifs emit src m p.2 (Nat.succ i))) v)=some hEnd) ?_
 clear hv
 intro r h3 hv
 refine jK (d:=⟨ρ,ξ,mm,s⟩) A R O ho hi h3 (λhr s3 R3=> ?_) λv hr w s3 o3 v3 R3 ho3 hi3=> ?_
 · subst hr
   obtain rfl:=Ud (hv:some h=some hEnd)
   exact hD _ R3
 · subst hr
   refine cW hv ?_
   clear hv
   intro lo4 h4 k1 hvX
   refine cW hvX ?_
   clear hvX
   intro b h5 k2 hv
   have Rk:=R3.keep ho3 O.b O.l O.r
   refine S8 ?_
   refine dt (c:={c with kept:=(a,o3)::c.kept}) (d:=⟨ρ,(a,o3)::ξ,mm,s3⟩) (x:=sT x) Rk v3 k1 λm' s4 R4 hm Z=> ?_
   rcases hm with qA|qA
   · refine el_EL qA ?_
     clear qA
     intro j hj
     exact absurd hj (nl j)
   · refine ae qA ?_
     clear qA
     intro hm hlo
     have e1:m'=mm:=hm
     subst e1
     subst hlo
     refine uT (c:={c with kept:=(a,o3)::c.kept}) X (A.kept _) ifs ⟨ρ,(a,o3)::ξ,m',s4⟩ h4 b h5 _ R4 k2 λρ5 ξ5 s5 x5 R5=> ?_
     rcases bO hv with qA|qA
     · refine ae qA ?_
       clear qA
       intro q hv
       rw[show b=true from q,if_pos rfl]
       refine aw hv ?_
       clear hv
       intro h6 k3 hv
       exact hT ρ5 ξ5 s5 h5 h6 o3 x5 R5 (hi3.ext x5) k3 hv
     · refine ae qA ?_
       clear qA
       intro q hv
       rw[show b=false from q,if_neg (by decide)]
       exact hF ρ5 ξ5 s5 h5 o3 x5 R5 (hi3.ext x5) hv
inductive CInv (Γ:Gl) (c:St0) (f:Frm) (lo:Lo) (mm:Str→Option Value) (ρ0:List Addr) (a:Addr) (src:Src) (G:H→Nat→Prop) (s:Shared):Prop
 |mk {ρ:List Addr} {ξ:List (Addr×Obj)} {h:H} {i:Nat} {o':Obj}:Ext ρ0 ρ→Rel Γ c ⟨ρ,ξ,mm,s⟩ f lo h→OffA c ⟨ρ,ξ,mm,s⟩ a→s.heap.get? a=some o'→ItO ρ i o' src→G h i→CInv Γ c f lo mm ρ0 a src G s
theorem hM{x:Str}{px:Pos}{iter:Expr}{elt ifs:Mine.E}{sc:Scope}{src:Src}{hEnd:H}{a A0:Addr}{n0:Nat}{o':Obj}(X:Snd Γ n ih)(A:AOk c n){ρ:List Addr}{ξ:List (Addr×Obj)}{mm:Str→Option Value}{s:Shared}
 (R:Rel Γ c ⟨ρ,ξ,mm,s⟩ f lo h)(O:OffA c ⟨ρ,ξ,mm,s⟩ a)(ho:s.heap.get? a=some o')(hi:ItO ρ 0 o' src)(nl: ∀i,look (sT x) f.nm≠some (.lv i))(h0:ρ[n0]? =some A0)
 (hv:compLoop ih f lo (sT x) ifs (kz ih lo elt f n0) src 200 h 0=some hEnd){RR:Result→Shared→Prop}(hR: ∀ρ' ξ' s',Ext ρ ρ'→Rel Γ c ⟨ρ',ξ',mm,s'⟩ f lo hEnd→RR (.ok .next) s'):
 codeAny Γ.M c.A (.compLoop (.ListComp (dE elt) [⟨.Name x px,iter,dL ifs,0⟩] sc p) 0 (.ref a) (.ref A0) c.env) RR s:=by
 refine codeAny_compLoop_tests (λk=>CInv Γ c f lo mm ρ a src λh i=>compLoop ih f lo (sT x) ifs (kz ih lo elt f n0) src k h i=some hEnd) (λk s hI=> ?_) 200 (.mk (.refl _) R O ho hi hv)
 cases hI with| @mk ρ' ξ' h1 i o1 x1 R1 O1 ho1 hi1 hv1=>
 have kk: ∀p∈c.kept,p.1≠a:=λp hp=>O1.x p (R1.kp p hp)
 cases k with
 |zero=>exact nn hv1
 |succ m=>
  refine jo X A R1 O1 ho1 hi1 nl hv1 (λs' R'=>hR _ _ _ x1 R') (λρ2 ξ2 s2 h2 h3 o3 x2 R2 hi2 he hv2=> ?_) λρ2 ξ2 s2 h2 o3 x2 R2 hi2 hv2=> ?_
  · refine dn he ?_
    clear he
    intro p1 k1 xs k2 k3 he
    obtain rfl:=Ud he
    refine X.e {c with kept:=(a,o3)::c.kept} ⟨ρ2,ξ2,mm,s2⟩ f lo h2 elt p1.1 p1.2 _ _ (A.kept _) R2 k1 λρ3 ξ3 s3 w x3 R3 v3=> ?_
    have g0:ρ3[n0]? =some A0:=x3.get (x2.get (x1.get h0))
    refine el_EEEAAL (bh R3 (av k2)) ?_
    intro a' vs j e1 e2 e3
    rw[show ρ3[n0]? =some A0 from g0]at e1
    obtain rfl:=Ud e1
    have hz:=aM k3
    have e5:=e3.length
    refine append_at e2 (λh4 hs ho=> ?_) (by rw[ak,TO,e5];exact kF hz)
    rw[aU,ay]at hv2
    have R4:=R3.set (o:= .list (xs++[p1.1])) (t:=s3.toks) g0 ho ⟨vs++[w],j+1,by rw[List.push_toArray],e3.append (.cons v3 .nil)⟩ hs
    refine el_EAAL (cT R4 hi2 kk) ?_
    intro ξ5 R5 O5 ho5
    exact⟨m,TZ m,.mk ((x1.trans x2).trans x3) R5 O5 ho5 (hi2.ext x3) hv2⟩
  · refine el_EAAL (cT R2 hi2 kk) ?_
    intro ξ5 R5 O5 ho5
    exact⟨m,TZ m,.mk (x1.trans x2) R5 O5 ho5 hi2 hv2⟩
theorem r8{prog:Program}{w:World}{A:Around}{s:Shared}{D:Addr}{j:Nat}{x:Str}{t:Tok}{v:Value}{Q:Unit→Shared→Prop}(ho:s.heap.get? D=some (Vy [] j))
 (hQ: ∀h',UM D s.heap h'→h'.get? D=some (Vy [⟨(strKind prog w).hash x,.str x t,v⟩] (j+1))→Q () {s with heap:=h',toks:=s.toks+1}):wpAny (model prog w) A (dictSet D (.str x t) v) Q E s:=by
 unfold dictSet
 refine Uy (U7 (wpAny_pyHash_str ?_))
 unfold dictSetHashed
 refine Uy (U7 (wpAny_dictFind_of (knd:=strKind prog w) (s:={s with toks:=s.toks+1}) (Vh prog w x t) ho rfl (λe he=>by simp at he) ?_))
 rw[show(Array.findIdx? (λe:Vk=>(UH prog w).is x e.key) (List.toArray []))=none from by simp]
 refine U7 (Vf (wpAny_updateDictKeys ho rfl (hQ _ (TA ..) ?_)))
 exact Tm _ ho rfl
theorem hO{x:Str}{px:Pos}{iter:Expr}{kx vx ifs:Mine.E}{sc:Scope}{src:Src}{hEnd:H}{a A0:Addr}{n0:Nat}{o':Obj}(X:Snd Γ n ih)(A:AOk c n){ρ:List Addr}{ξ:List (Addr×Obj)}{mm:Str→Option Value}{s:Shared}
 (R:Rel Γ c ⟨ρ,ξ,mm,s⟩ f lo h)(O:OffA c ⟨ρ,ξ,mm,s⟩ a)(ho:s.heap.get? a=some o')(hi:ItO ρ 0 o' src)(nl: ∀i,look (sT x) f.nm≠some (.lv i))(h0:ρ[n0]? =some A0)
 (hv:compLoop ih f lo (sT x) ifs (kB ih lo kx vx f n0) src 200 h 0=some hEnd){RR:Result→Shared→Prop}(hR: ∀ρ' ξ' s',Ext ρ ρ'→Rel Γ c ⟨ρ',ξ',mm,s'⟩ f lo hEnd→RR (.ok .next) s'):
 codeAny Γ.M c.A (.compLoop (.DictComp (dE kx) (dE vx) [⟨.Name x px,iter,dL ifs,0⟩] sc p) 0 (.ref a) (.ref A0) c.env) RR s:=by
 refine codeAny_compLoop_testsD (λk=>CInv Γ c f lo mm ρ a src λh i=>compLoop ih f lo (sT x) ifs (kB ih lo kx vx f n0) src k h i=some hEnd) (λk s hI=> ?_) 200 (.mk (.refl _) R O ho hi hv)
 cases hI with| @mk ρ' ξ' h1 i o1 x1 R1 O1 ho1 hi1 hv1=>
 have kk: ∀p∈c.kept,p.1≠a:=λp hp=>O1.x p (R1.kp p hp)
 cases k with
 |zero=>exact nn hv1
 |succ m=>
  refine jo X A R1 O1 ho1 hi1 nl hv1 (λs' R'=>hR _ _ _ x1 R') (λρ2 ξ2 s2 h2 h3 o3 x2 R2 hi2 he hv2=> ?_) λρ2 ξ2 s2 h2 o3 x2 R2 hi2 hv2=> ?_
  · refine aB he ?_
    clear he
    intro p1 k1 y k2 p2 k3 hvX
    refine bJ hvX ?_
    clear hvX
    intro es k4 k5 he
    obtain rfl:=Ud he
    refine X.e {c with kept:=(a,o3)::c.kept} ⟨ρ2,ξ2,mm,s2⟩ f lo h2 kx p1.1 p1.2 _ _ (A.kept _) R2 k1 λρ3 ξ3 s3 w x3 R3 v3=> ?_
    refine X.e {c with kept:=(a,o3)::c.kept} ⟨ρ3,ξ3,mm,s3⟩ f lo p1.2 vx p2.1 p2.2 _ _ (A.kept _) R3 k3 λρ4 ξ4 s4 w2 x4 R4 v4=> ?_
    have g0:ρ4[n0]? =some A0:=x4.get (x3.get (x2.get (x1.get h0)))
    have:=ar k2
    rw[this]at v3
    refine el_EL v3 ?_
    clear v3
    rintro t rfl
    refine el_EEAAEEAL (R4.led.at (bH k4)) ?_
    rintro a' b' e1 e2 ds j rfl e3
    rw[show ρ4[n0]? =some A0 from g0]at e1
    obtain rfl:=Ud e1
    cases es with
    |cons _ _=>exact ff k5
    |nil=>
     cases e3
     refine r8 e2 λh5 hs ho=> ?_
     rw[aU]at hv2
     have R5:=R4.set (o:= .sd (put y p2.1 [])) (t:=s4.toks+1) g0 ho ⟨_,j+1,rfl,SdR.cons v4 .nil⟩ hs
     refine el_EAAL (cT R5 hi2 kk) ?_
     intro ξ5 R6 O5 ho5
     exact⟨m,TZ m,.mk (((x1.trans x2).trans x3).trans x4) R6 O5 ho5 ((hi2.ext x3).ext x4) hv2⟩
  · refine el_EAAL (cT R2 hi2 kk) ?_
    intro ξ5 R5 O5 ho5
    exact⟨m,TZ m,.mk (x1.trans x2) R5 O5 ho5 hi2 hv2⟩
end
end
section
variable{Γ:Gl}{c:St0}{d:Dy}{f:Frm}{lo:Lo}{h:H}{n:Nat}{ih:Ih}
theorem pi{sc:Scope}(e:EZ sc=true):sc.kind= .function∧(sc.names.map (·.1)).Nodup∧ ∀p∈sc.names,jD (sT p.1)=true:=by
 have e':bc (mj sc.kind) (ndT (mp (λp=>sT p.1) sc.names)) false=true:=e
 cases q:mj sc.kind with
 |false=>rw[q]at e';cases e'
 |true=>
  rw[q,bF]at e'
  refine⟨?_,FX e'⟩
  cases z:sc.kind<;>rw[z]at q<;>first|rfl|cases q
theorem ln{x:T}{v:V}{lo':Lo}{h':H}{k:Nat}(e:bz f lo h x v=some (lo',h'))(hk:h[k]? =some .dead):h'[k]? =some .dead:=by
 obtain⟨nm,ce,q,cd⟩:=f
 refine aw e ?_
 clear e
 intro s hs e
 cases s with
 |lv i=>cases(e:some (cG (some v) lo i,h)=some (lo',h'));exact hk
 |cv j=>
  refine aB (e:ob (nth ce j) _=some (lo',h')) ?_
  clear e
  intro k1 h1 o h2 v0 h3 e
  obtain⟨rfl,rfl⟩:=so2 e
  rw[ap]at h2
  rw[eK h3]at h2
  rw[aU,Tw]
  · exact hk
  · intro z;rw[z,hk]at h2;cases h2
 |gv _=>exact nn e
 |kv=>
  refine aR (e:ob (nth h q) _=some (lo',h')) ?_
  clear e
  intro o h1 es h2 e
  obtain⟨rfl,rfl⟩:=so2 e
  rw[ap]at h1
  rw[eS h2]at h1
  rw[aU,Tw]
  · exact hk
  · intro z;rw[z,hk]at h1;cases h1
theorem lr{x:T}{v:V}{y:Lo×H}(e:bz f lo h x v=some y):(∃i,look x f.nm=some (.lv i))∨(∃j,look x f.nm=some (.cv j))∨(look x f.nm=some .kv∧f.q<h.length):=by
 obtain⟨nm,ce,q,cd⟩:=f
 refine aw e ?_
 clear e
 intro s hs e
 cases s with
 |lv i=>exact .inl ⟨i,hs⟩
 |cv j=>exact .inr (.inl ⟨j,hs⟩)
 |gv _=>exact nn e
 |kv=>
  refine aw (e:ob (nth h q) _=some y) ?_
  clear e
  intro o h1 e
  rw[ap,S3]at h1
  exact .inr (.inr ⟨hs,h1.1⟩)
theorem br{α:Type}: ∀{l:List α} {k:Nat} {a:α},l[k]? =some a→l.set k a=l
 |[],_,_,h=>by simp at h
 |x::l,0,a,h=>by cases h;rfl
 |x::l,k+1,a,h=>by show x::l.set k a=_;rw[br (by simpa using h)]
section
variable{E:Value→Shared→Prop}{v:V}{h':H}{p:Pos}{b:Bool}
theorem Rel.kd_ns(R:Rel Γ c d f lo h){k:Nat}{es:List (T×V)}{C:Addr}(hk:h[k]? =some (.kd es))(hC:d.ρ[k]? =some C): ∃m,d.s.heap.Ns C m:=by
 refine el_EEAAEEAL (R.led.at hk) ?_
 intro a' b' g1 g2 ds ep g3 qX
 refine ae qX ?_
 clear qX
 intro g4 g5
 rw[hC]at g1;cases g1
 exact⟨λy=>nsFind ds y,b',ds,ep,g2,g3,g4,λZ=>rfl⟩
theorem Rel.kill(R:Rel Γ c d f lo h){k:Nat}{C:Addr}(hC:d.ρ[k]? =some C){h2:Heap}{m:Str→Option Value}{t:Nat}(hn:h2.Ns C m)(hs:UM C d.s.heap h2):Rel Γ c ⟨d.ρ,d.ξ,d.m,{d.s with heap:=h2,toks:=t}⟩ f lo (h.set k .dead):=by
 refine el_EEEAAL hn ?_
 clear hn
 intro o ds ep g1 g2 _
 exact R.set (o:= .dead) (b:=o) hC g1 (λZ Z Z e=>by rw[g2]at e;cases e) hs
theorem fe{e:Expr}{x:Str}{px:Pos}{it ifs:Mine.E}{sc:Scope}{acc:O}{b0:Obj}{newAcc:Sem Value}{emit:Frm→Nat→H→Option H}{use:Option (Value→Sem Unit)}{pos:Pos}{Q:Value→Shared→Prop}
 (X:Snd Γ n ih)(A:AOk c n)(R:Rel Γ c d f lo h)(hv:gC Γ.g ih f lo h x it ifs sc acc emit=some (v,h'))
 (hcl:clausesOf e=[⟨.Name x px,dE it,dL ifs,0⟩])(hf0:b0.isFreed=false)(hor: ∀ρ ξ,OR Γ.D ρ ξ acc b0)(hAcc: ∀(s:Shared) (P:Value→Shared→Prop) (E:Value→Shared→Prop),P (.ref s.heap.objs.size) {s with heap:=s.heap.push b0}→wpAny Γ.M c.A newAcc P E s)
 (hStart: ∀(s:Shared) (RR:Result→Shared→Prop) (it acc:Value) (env:Env),codeAny Γ.M c.A (.compLoop e 0 it acc env) RR s→(∀(P E:Value→Shared→Prop),P it s→wpAny Γ.M c.A (pyIter it) P E s)→codeAny Γ.M c.A (.compStart e 0 it acc env) RR s)
 (hLoop: ∀(c2:St0) (f2:Frm) (h:H) (src:Src) (hEnd:H) (a A0:Addr) (n0:Nat) (o':Obj) (ρ:List Addr) (ξ:List (Addr×Obj)) (mm:Str→Option Value) (s:Shared),AOk c2 n→c2.A=c.A→Rel Γ c2 ⟨ρ,ξ,mm,s⟩ f2 lo h→OffA c2 ⟨ρ,ξ,mm,s⟩ a→s.heap.get? a=some o'→ItO ρ 0 o' src→
  (∀i,look (sT x) f2.nm≠some (.lv i))→ρ[n0]? =some A0→compLoop ih f2 lo (sT x) ifs (emit f2 n0) src 200 h 0=some hEnd→ ∀(RR:Result→Shared→Prop),(∀ρ' ξ' s',Ext ρ ρ'→Rel Γ c2 ⟨ρ',ξ',mm,s'⟩ f2 lo hEnd→RR (.ok .next) s')→codeAny Γ.M c.A (.compLoop e 0 (.ref a) (.ref A0) c2.env) RR s)
 (hEndQ: ∀(ρ':List Addr) (ξ':List (Addr×Obj)) (s':Shared) (h3:H) (k:Nat) (A0 C:Addr) (es:List (T×V)),Ext d.ρ ρ'→Rel Γ c ⟨ρ',ξ',d.m,s'⟩ f lo h3→h3[k]? =some (.kd es)→ρ'[k]? =some C→h'=h3.set k .dead→(∀q:Nat,d.ρ[q]? =some C→False)→VR ρ' v (.ref A0)→gw Γ.M c.A E use Q (.ref A0) C s'):
 wpAny Γ.M c.A (comprehension e sc c.env pos newAcc false (eval (dE it) c.env) use) Q E d.s:=by
 refine aW hv ?_
 clear hv
 intro g1 g2 hvX
 refine cW hvX ?_
 clear hvX
 intro u h1 e1 z3
 obtain⟨nm,ce,q,cd⟩:=f
 refine dn (z3:ob (cf nm ce sc.names (Nat.add (len h1) 2)) _=some (v,h')) ?_
 clear z3
 intro ce2 e2 src e3 g3 hvX
 refine aB hvX ?_
 clear hvX
 intro h3 e4 o3 e5 es e6 z9
 obtain⟨rfl,rfl⟩:=so2 z9
 refine bi (pi g2) ?_
 intro hk hnd hok
 have nr:=X.nraw e1
 have ns:gm it=false:=by rw[bg]at g1;simpa using g1
 have hclos:=iH (env:=c.env) (scope:=sc) rfl λp hp hf=>by
  refine el_EEAL (cA _ _ e2 p hp hf) ?_
  intro j k q1 q2
  refine el_AEAL (R.nm.cv _ _ _ q1 q2) ?_
  intro _ a ha _
  exact⟨a,ha⟩
 refine pg hcl (nL nr ns _) hclos hk (λy hy hl=>by have:=fG hnd hy;rw[hl]at this;exact this) ?_
 refine X.e c d ⟨nm,ce,q,cd⟩ lo h it u h1 _ E A R e1 λρ1 ξ1 s1 w x1 R1 v1=> ?_
 refine mB (d:=⟨ρ1,ξ1,d.m,s1⟩) R1 v1 e3 λa s2 ob R2 O2 ho2 hi2=> ?_
 have Rk:=R2.keep ho2 O2.b O2.l O2.r
 have R3:=Rel.new (d:=⟨ρ1,(a,ob)::ξ1,d.m,s2⟩) Rk (t:=s2.toks) (o:=acc) hf0 (hor _ _)
 refine hAcc _ _ _ ?_
 have R4:=Rel.new (d:=⟨ρ1++[s2.heap.objs.size],(a,ob)::ξ1,d.m,{s2 with heap:=s2.heap.push b0}⟩) R3 (t:=s2.toks) (o:= .kd []) (b:=bX) rfl ⟨#[],0,rfl,λe he=>by simp at he,λx v e=>by cases e⟩
 have R5:=Rel.cells (C:=0) sc.names R4
 refine lm ?_
 have hl1:ρ1.length=h1.length:=R1.led.len
 have hsz:(s2.heap.push b0).objs.size=s2.heap.objs.size+1:=Ux ..
 have hsz2:((s2.heap.push b0).push bX).objs.size=(s2.heap.push b0).objs.size+1:=Ux ..
 have x5:Ext ρ1 (ρ1++[s2.heap.objs.size]++[(s2.heap.push b0).objs.size]++(cellUp ((s2.heap.push b0).push bX).objs.size sc.names).map (·.2)):=(Ext.push _ _).trans ((Ext.push _ _).trans ⟨_,rfl⟩)
 have hA0:(ρ1++[s2.heap.objs.size]++[(s2.heap.push b0).objs.size]++(cellUp ((s2.heap.push b0).push bX).objs.size sc.names).map (·.2))[len h1]? =some s2.heap.objs.size:=by
  rw[aO,←hl1,TQ,TQ,S1 (UY _)];simp
 have hC:(ρ1++[s2.heap.objs.size]++[(s2.heap.push b0).objs.size]++(cellUp ((s2.heap.push b0).push bX).objs.size sc.names).map (·.2))[Nat.succ (len h1)]? =some (s2.heap.push b0).objs.size:=by
  rw[aO,←hl1,TQ,TQ,S1 (U6 _)]
  have:Nat.succ ρ1.length-ρ1.length=1:=Tc ρ1.length 1
  rw[this];rfl
 have hcell: ∀t p,(cellUp ((s2.heap.push b0).objs.size+1) sc.names)[t]? =some p→(ρ1++[s2.heap.objs.size]++[(s2.heap.push b0).objs.size]++(cellUp ((s2.heap.push b0).push bX).objs.size sc.names).map (·.2))[Nat.succ (len h1)+1+t]? =some p.2:=λt p e=>by
  rw[hsz2,aO,←hl1,S1 (by simp),TN]
  have:Nat.succ ρ1.length+1+t-(ρ1++[s2.heap.objs.size]++[(s2.heap.push b0).objs.size]).length=t:=by simp<;>omega
  rw[this,e];rfl
 have nm2:=uS (c:={c with kept:=(a,ob)::c.kept}) (d:=⟨ρ1,(a,ob)::ξ1,d.m,s2⟩) (b:=Nat.succ (len h1)) (ξ2:=(a,ob)::ξ1) (s2:={s2 with heap:=pushCells ((s2.heap.push b0).push bX) sc.names}) Rk.nm hk hnd hok e2 x5 hC hcell
 have R6:Rel Γ {c with kept:=(a,ob)::c.kept,env:={scope:=relabel sc c.env,locals:=(s2.heap.push b0).objs.size,globals:=c.env.globals,cells:=(cellUp ((s2.heap.push b0).objs.size+1) sc.names).reverse++cS c.env.cells sc.names [],qual:=c.env.qual,func:=none,code:=c.env.code,frame:=c.env.frame,builtins:=c.env.builtins}} _ _ lo _:=
  ⟨R5.fr,R5.gb,R5.bl,R5.led,nm2,R5.os,R5.gens,R5.kp,R5.gk⟩
 have kk: ∀p∈c.kept,p.1≠a:=λp hp=>O2.x p (R2.kp p hp)
 refine el_EAAL (cT (c:={c with env:={scope:=relabel sc c.env,locals:=(s2.heap.push b0).objs.size,globals:=c.env.globals,cells:=(cellUp ((s2.heap.push b0).objs.size+1) sc.names).reverse++cS c.env.cells sc.names [],qual:=c.env.qual,func:=none,code:=c.env.code,frame:=c.env.frame,builtins:=c.env.builtins}}) R6 hi2 kk) ?_
 intro ξ7 R7 O7 ho7
 have hh:app h1 (acc:: .kd []::bU sc.names)=h1++[acc]++[.kd []]++bU sc.names:=by rw[ay];simp
 rw[hh]at e4
 have hi7:=hi2.ext x5
 have A2:AOk {c with env:={scope:=relabel sc c.env,locals:=(s2.heap.push b0).objs.size,globals:=c.env.globals,cells:=(cellUp ((s2.heap.push b0).objs.size+1) sc.names).reverse++cS c.env.cells sc.names [],qual:=c.env.qual,func:=none,code:=c.env.code,frame:=c.env.frame,builtins:=c.env.builtins}} n:=⟨A.fr,A.ff,A.fk,A.hd,A.dp,A.un⟩
 have nCQ: ∀q,d.ρ[q]? =some (s2.heap.push b0).objs.size→False:=λq hq=>by
  have h1:=x1.get hq
  have h2:=R2.led.lt (Tq h1)
  rw[hsz]at h2
  exact absurd h2 (Vd.mpr (U6 _))
 refine hStart _ _ _ _ _ ?_ λP E' hP=> ?_
 · refine hLoop _ ⟨aZ nm Γ.g.gl sc.names 0,ce2,Nat.succ (len h1),cd⟩ _ src h3 a s2.heap.objs.size (len h1) ob _ ξ7 d.m _ A2 rfl R7 O7 ho7 hi7 (λi=>uR (nm:=nm)) hA0 e4 _ λρ8 ξ8 s8 x8 R8=> ?_
   have xx:=(x1.trans x5).trans x8
   have R9:Rel Γ c ⟨ρ8,ξ8,d.m,s8⟩ ⟨nm,ce,q,cd⟩ lo h3:=⟨R8.fr,R8.gb,R8.bl,R8.led,R.nm.ext xx,R8.os,R8.gens,R8.kp,R8.gk⟩
   rw[ap,eS e6]at e5
   exact hEndQ ρ8 ξ8 s8 h3 (Nat.succ (len h1)) s2.heap.objs.size (s2.heap.push b0).objs.size es xx R9 e5 (x8.get hC) (by rw[aU]) nCQ ⟨_,x8.get hA0,rfl⟩
 · cases src with
   |ls k=>
    refine el_EAAL hi7 ?_
    clear hi7
    intro l j1 j2 j3
    exact wpAny_pyIter_listiter ⟨ob,ho7,j2,j3⟩ hP
   |rg x y=>
    have ho8:=ho7
    rw[show ob=_ from hi7]at ho8
    exact wpAny_pyIter_rangeiter ho8 hP
   |st x=>exact ff g3
end
end
section
variable{Γ:Gl}{c:St0}{d:Dy}{f:Frm}{lo:Lo}{h:H}{n:Nat}{ih:Ih}
section
variable{E:Value→Shared→Prop}{v:V}{h':H}{p:Pos}{b:Bool}
theorem lu{ρ':List Addr}{ξ':List (Addr×Obj)}{s':Shared}{h3:H}{k:Nat}{A0 C:Addr}{es:List (T×V)}{Q:Value→Shared→Prop}(hQ:PostE Γ c d f lo h' v Q)(xx:Ext d.ρ ρ')(R:Rel Γ c ⟨ρ',ξ',d.m,s'⟩ f lo h3)(hk:h3[k]? =some (.kd es))(hC:ρ'[k]? =some C)
 (e:h'=h3.set k .dead)(hv:VR ρ' v (.ref A0)):gw Γ.M c.A E none Q (.ref A0) C s':=by
 refine el_EL (R.kd_ns hk hC) ?_
 intro m hn
 subst e
 exact⟨m,hn,λh2 m2 hn2 hs2=>hQ ρ' ξ' _ _ xx (Rel.kill (t:=s'.toks) R hC hn2 hs2) hv⟩
theorem lw{ρ':List Addr}{ξ':List (Addr×Obj)}{s':Shared}{h3 h2:H}{k:Nat}{A0 C:Addr}{es:List (T×V)}{x:Str}{px:Pos}{lo2:Lo}{Q:Unit→Shared→Prop}(hQ: ∀ρ' ξ' m' s',Ext d.ρ ρ'→Rel Γ c ⟨ρ',ξ',m',s'⟩ f lo2 h2→Q () s')(xx:Ext d.ρ ρ')(R0:Rel Γ c d f lo h)(R:Rel Γ c ⟨ρ',ξ',d.m,s'⟩ f lo h3)
 (hk:h3[k]? =some (.kd es))(hC:ρ'[k]? =some C)(e:h'=h3.set k .dead)(hnC: ∀q:Nat,d.ρ[q]? =some C→False)(hst:bz f lo h' (sT x) v=some (lo2,h2))(hl:c.env.kindOf x=some .local)(hv:VR ρ' v (.ref A0)):
 gw Γ.M c.A E (some λv=>Vn v ((Va [.Name x px] c.env).map (·.2))) (λZ s'=>Q () s') (.ref A0) C s':=by
 refine el_EL (R.kd_ns hk hC) ?_
 intro m hn
 subst e
 have hdead:(h3.set k .dead)[k]? =some .dead:=by
  rw[List.getElem?_set_self']
  rw[hk];rfl
 have R1:Rel Γ c ⟨ρ',ξ',d.m,s'⟩ f lo (h3.set k .dead):=Rel.kill (t:=s'.toks) R hC hn (.refl _ _)
 show wpAny Γ.M c.A (Vn (.ref A0) ((Va [.Name x px] c.env).map (·.2))) _ E s'
 rw[show Va [.Name x px] c.env=(false,assign (.Name x px) c.env)::Va [] c.env from cL (t:= .nm x px) (λy z=>ff (congrArg ma z)) [] c.env]
 show wpAny Γ.M c.A (assign (.Name x px) c.env _) _ E _
 refine S8 ?_
 refine dt (d:=⟨ρ',ξ',d.m,s'⟩) (x:=sT x) R1 hv hst λm' s2 R2 Z hsame=> ?_
 have hs:=hsame hl
 have nCl:C≠c.env.locals:=by
  rcases lr hst with qA|qA|qA
  · refine el_EL qA ?_
    clear qA
    intro i hi
    rw[(R0.nm.lv _ _ hi).2]
    exact(R.led.new C (Tq hC)).2.1
  · refine el_EL qA ?_
    clear qA
    intro j hj
    by_cases q: ∃kk,f.ce[j]? =some kk
    · refine el_EL q ?_
      clear q
      intro kk hkk
      have:=(R0.nm.cv _ _ _ hj hkk).1
      have hl':c.env.kindOf (mkS (sT x))=some .local:=hl
      rw[hl']at this
      rcases this with z|z<;>cases z
    · exfalso
      obtain⟨nm,ce,q',cd⟩:=f
      refine aw hst ?_
      clear hst
      intro s z1 z2
      rw[show look (sT x) nm=some (.cv j)from hj]at z1
      obtain rfl:=Ud z1
      refine aw (z2:ob (nth ce j) _=some (lo2,h2)) ?_
      clear z2
      intro k1 z3 _
      rw[ap]at z3
      exact q ⟨k1,z3⟩
  · refine ae qA ?_
    clear qA
    intro hkv _
    intro z
    exact hnC _ (z▸(R0.nm.kv _ hkv).2)
 refine el_EEEAAAL hn ?_
 clear hn
 intro o ds ep g1 g2 g3 g4
 have hn2:s2.heap.Ns C m:=⟨o,ds,ep,(hs.2 _ nCl).trans g1,g2,g3,g4⟩
 refine⟨m,hn2,λh4 m4 hn4 hs4=> ?_⟩
 have R3:=Rel.kill (d:=⟨ρ',ξ',m',s2⟩) (t:=s2.toks) R2 hC hn4 hs4
 rw[br (ln hst hdead)]at R3
 exact hQ ρ' ξ' m' _ xx R3
theorem nU{M:Model}{A:Around}{s:Shared}{m:Sem Value}{Q:Unit→Shared→Prop}(h:wpAny M A m (λZ s'=>Q () s') E s):wpAny M A (m>>=λZ=>pure ()) Q E s:=U7 (Vc h (λZ Z z=>U8 z) λZ Z z=>z)
theorem uU{elt:Mine.E}{x:Str}{px:Pos}{it ifs:Mine.E}{sc:Scope}{Q:Value→Shared→Prop}(X:Snd Γ n ih)(A:AOk c n)(R:Rel Γ c d f lo h)(hv:gC Γ.g ih f lo h x it ifs sc (.list []) (kz ih lo elt)=some (v,h'))(hQ:PostE Γ c d f lo h' v Q):
 wpAny Γ.M c.A (eval (dE (.lcomp elt x px it ifs sc p)) c.env) Q E d.s:=by
 show wpAny Γ.M c.A (comprehension (.ListComp (dE elt) [⟨.Name x px,dE it,dL ifs,0⟩] sc p) sc c.env _ (newList []) false (eval (dE it) c.env)) Q E d.s
 refine fe (px:=px) (b0:={cls:= .type "list",dict:=none,data:= .seq ([]:List Value).toArray}) X A R hv rfl rfl (λρ ξ=>⟨[],0,rfl,.nil⟩) (λs P E hP=>wpAny_newList hP (U0 _)) (λs RR it acc env h0 hP=>codeAny_compStart_list h0 (hP _ _ h0))
  (λc2 f2 h src hEnd a A0 n0 o' ρ ξ mm s A2 hA R O ho hi nl h0 hv RR hR=>by rw[←hA];exact hM X A2 R O ho hi nl h0 hv hR) λρ' ξ' s' h3 k A0 C es xx R9 hk hC e Z hvr=> ?_
 exact lu hQ xx R9 hk hC e hvr
theorem uV{kx vx:Mine.E}{x:Str}{px:Pos}{it ifs:Mine.E}{sc:Scope}{Q:Value→Shared→Prop}(X:Snd Γ n ih)(A:AOk c n)(R:Rel Γ c d f lo h)(hv:gC Γ.g ih f lo h x it ifs sc (.sd []) (kB ih lo kx vx)=some (v,h'))(hQ:PostE Γ c d f lo h' v Q):
 wpAny Γ.M c.A (eval (dE (.dcomp kx vx x px it ifs sc p)) c.env) Q E d.s:=by
 show wpAny Γ.M c.A (comprehension (.DictComp (dE kx) (dE vx) [⟨.Name x px,dE it,dL ifs,0⟩] sc p) sc c.env _ newDict false (eval (dE it) c.env)) Q E d.s
 refine fe (px:=px) (b0:=Vy [] 0) X A R hv rfl rfl (λρ ξ=>⟨[],0,rfl,.nil⟩) (λs P E hP=>TP hP) (λs RR it acc env h0 hP=>codeAny_compStart_dict h0 (hP _ _ h0))
  (λc2 f2 h src hEnd a A0 n0 o' ρ ξ mm s A2 hA R O ho hi nl h0 hv RR hR=>by rw[←hA];exact hO X A2 R O ho hi nl h0 hv hR) λρ' ξ' s' h3 k A0 C es xx R9 hk hC e Z hvr=> ?_
 exact lu hQ xx R9 hk hC e hvr
theorem uW{elt:Mine.E}{x y:Str}{px py:Pos}{it ifs:Mine.E}{sc:Scope}{lo2:Lo}{h2:H}{Q:Unit→Shared→Prop}(X:Snd Γ n ih)(A:AOk c n)(R:Rel Γ c d f lo h)(hv:gC Γ.g ih f lo h x it ifs sc (.list []) (kz ih lo elt)=some (v,h'))
 (hst:bz f lo h' (sT y) v=some (lo2,h2))(hl:c.env.kindOf y=some .local)(hQ: ∀ρ' ξ' m' s',Ext d.ρ ρ'→Rel Γ c ⟨ρ',ξ',m',s'⟩ f lo2 h2→Q () s'):
 wpAny Γ.M c.A (evalThenUse (dE (.lcomp elt x px it ifs sc p)) c.env λv=>Vn v ((Va [.Name y py] c.env).map (·.2))) Q E d.s:=by
 rw[show dE (.lcomp elt x px it ifs sc p)=(.ListComp (dE elt) [⟨.Name x px,dE it,dL ifs,0⟩] sc p)from rfl]
 rw[arm_evalThenUse_ListComp]
 dsimp only
 refine nU ?_
 rw[show firstIter [⟨.Name x px,dE it,dL ifs,0⟩] c.env=eval (dE it) c.env from rfl,show firstAsync [⟨.Name x px,dE it,dL ifs,0⟩]=false from rfl]
 generalize hU:(λv=>Vn v ((Va [.Name y py] c.env).map (·.2)))=U
 generalize firstIterPos _ _=pp
 refine fe (e:=(.ListComp (dE elt) [⟨.Name x px,dE it,dL ifs,0⟩] sc p)) (px:=px) (E:=E) (pos:=pp) (newAcc:=newList []) (use:=some U) (Q:=λZ s'=>Q () s') (b0:={cls:= .type "list",dict:=none,data:= .seq ([]:List Value).toArray}) X A R hv rfl rfl (λρ ξ=>⟨[],0,rfl,.nil⟩) (λs P E hP=>wpAny_newList hP (U0 _)) (λs RR it acc env h0 hP=>codeAny_compStart_list h0 (hP _ _ h0))
  (λc2 f2 h src hEnd a A0 n0 o' ρ ξ mm s A2 hA R O ho hi nl h0 hv RR hR=>by rw[←hA];exact hM X A2 R O ho hi nl h0 hv hR) λρ' ξ' s' h3 k A0 C es xx R9 hk hC e hnC hvr=> ?_
 subst hU
 exact lw hQ xx R R9 hk hC e hnC hst hl hvr
theorem uX{kx vx:Mine.E}{x y:Str}{px py:Pos}{it ifs:Mine.E}{sc:Scope}{lo2:Lo}{h2:H}{Q:Unit→Shared→Prop}(X:Snd Γ n ih)(A:AOk c n)(R:Rel Γ c d f lo h)(hv:gC Γ.g ih f lo h x it ifs sc (.sd []) (kB ih lo kx vx)=some (v,h'))
 (hst:bz f lo h' (sT y) v=some (lo2,h2))(hl:c.env.kindOf y=some .local)(hQ: ∀ρ' ξ' m' s',Ext d.ρ ρ'→Rel Γ c ⟨ρ',ξ',m',s'⟩ f lo2 h2→Q () s'):
 wpAny Γ.M c.A (evalThenUse (dE (.dcomp kx vx x px it ifs sc p)) c.env λv=>Vn v ((Va [.Name y py] c.env).map (·.2))) Q E d.s:=by
 rw[show dE (.dcomp kx vx x px it ifs sc p)=(.DictComp (dE kx) (dE vx) [⟨.Name x px,dE it,dL ifs,0⟩] sc p)from rfl]
 rw[arm_evalThenUse_DictComp]
 dsimp only
 refine nU ?_
 rw[show firstIter [⟨.Name x px,dE it,dL ifs,0⟩] c.env=eval (dE it) c.env from rfl,show firstAsync [⟨.Name x px,dE it,dL ifs,0⟩]=false from rfl]
 generalize hU:(λv=>Vn v ((Va [.Name y py] c.env).map (·.2)))=U
 generalize firstIterPos _ _=pp
 refine fe (e:=(.DictComp (dE kx) (dE vx) [⟨.Name x px,dE it,dL ifs,0⟩] sc p)) (px:=px) (E:=E) (pos:=pp) (newAcc:=newDict) (use:=some U) (Q:=λZ s'=>Q () s') (b0:=Vy [] 0) X A R hv rfl rfl (λρ ξ=>⟨[],0,rfl,.nil⟩) (λs P E hP=>TP hP) (λs RR it acc env h0 hP=>codeAny_compStart_dict h0 (hP _ _ h0))
  (λc2 f2 h src hEnd a A0 n0 o' ρ ξ mm s A2 hA R O ho hi nl h0 hv RR hR=>by rw[←hA];exact hO X A2 R O ho hi nl h0 hv hR) λρ' ξ' s' h3 k A0 C es xx R9 hk hC e hnC hvr=> ?_
 subst hU
 exact lw hQ xx R R9 hk hC e hnC hst hl hvr
end
end
section
variable{Γ:Gl}
structure Gaps(Γ:Gl):Prop where
 set1: ∀{n c d f lo h e y py ps k p v h' Q E},AOk c (n+1)→Rel Γ c d f lo h→setE Γ.g f lo h e y k=some (v,h')→PostE Γ c d f lo h' v Q→wpAny Γ.M c.A (eval (dE (.set1 e y py ps k p)) c.env) Q E d.s
 sort: ∀{n c d f lo h x px y py key z cs m k1 k2 pz pn po pc1 pc2 pb lp kp p v h' Q E},AOk c (n+1)→Rel Γ c d f lo h→sortE Γ.g f lo h x y key z cs m po pb lp=some (v,h')→PostE Γ c d f lo h' v Q→wpAny Γ.M c.A (eval (dE (.sort x px y py key z cs m k1 k2 pz pn po pc1 pc2 pb lp kp p)) c.env) Q E d.s
 items: ∀{n c d f lo h x px D pd m pm pc p v h' Q E},AOk c (n+1)→Rel Γ c d f lo h→itemsE Γ.g f lo h x D m pm pc=some (v,h')→PostE Γ c d f lo h' v Q→wpAny Γ.M c.A (eval (dE (.items x px D pd m pm pc p)) c.env) Q E d.s
 gfor: ∀{n ih c d f lo h t s ps m pm s' ps' a pa pc b p x Q E},Snd Γ n ih→AOk c (n+1)→Rel Γ c d f lo h→gforS ih f lo h t s m pm s' ps' a pa pc b=some x→PostS Γ c d f x Q→wpAny Γ.M c.A (exec (dS (.gfor t s ps m pm s' ps' a pa pc b p)).1 c.env) Q E d.s
structure TopOk(Γ:Gl):Prop where
 g:GOk Γ
 d:DOk Γ
 c:COk Γ
 f: ∀a d,atN a Γ.g.funs=some d→d.gen=false→ ∃w,FnOk Γ a d w
 gaps:Gaps Γ
theorem AOk.le{c:St0}{n m:Nat}(A:AOk c n)(h:m≤n):AOk c m:=⟨A.fr,A.ff,A.fk,A.hd,nF h A.dp,nF h A.un⟩
section
variable{c:St0}{d:Dy}{f:Frm}{lo:Lo}{h:H}{n:Nat}{ih:Ih}{E:Value→Shared→Prop}{v:V}{h':H}
theorem MQ(T:TopOk Γ){e:Mine.E}{Q:Value→Shared→Prop}(X:Snd Γ n ih)(A:AOk c (n+1))(R:Rel Γ c d f lo h)(hv:evF e Γ.g ih f lo h=some (v,h'))(hQ:PostE Γ c d f lo h' v Q):wpAny Γ.M c.A (eval (dE e) c.env) Q E d.s:=by
 have A':=A.less
 cases e with
 |nil|cons _ _|no|raw _|bop _ _ _|fmt _ _ _=>exact nn hv
 |cst k i p=>
  refine aw (hv:ob (ml k) (λv=>some (v,h))=some (v,h')) ?_
  clear hv
  intro u h1 hz
  obtain⟨rfl,rfl⟩:=so2 hz
  exact Fs R h1 hQ
 |nm x p=>
  refine aw (hv:ob (bq f lo h (sT x)) (λv=>some (v,h))=some (v,h')) ?_
  clear hv
  intro u h1 hz
  obtain⟨rfl,rfl⟩:=so2 hz
  exact eN T.g R h1 λw hw=>hQ _ _ _ _ (.refl _) R hw
 |bin l op r p=>exact Fy X A' R hv hQ
 |neg x p=>exact Fz X A' R hv hQ
 |not x p=>exact FA X A' R hv hQ
 |ite a b e p=>exact FB X A' R hv hQ
 |list es p=>exact zD X A' R hv hQ
 |tup es k p=>exact FH X A' R hv hQ
 |dict0 p=>exact uy R hv hQ
 |set1 e y py ps k p=>exact T.gaps.set1 A R hv hQ
 |cmp l ops cs p=>exact uu X A' R hv hQ
 |call x px args p=>exact zT T.g T.c X A R hv hQ
 |meth o x pa args p=>exact zU T.d T.c X A R hv hQ
 |sort x px y py key z cs m k1 k2 pz pn po pc1 pc2 pb lp kp p=>exact T.gaps.sort A R hv hQ
 |items x px D pd m pm pc p=>exact T.gaps.items A R hv hQ
 |attr o x p=>exact zQ T.c X A' R hv hQ
 |sub o i p=>exact FC T.d X A' R hv hQ
 |slc o l u ps p=>exact FF X A' R hv hQ
 |lcomp elt x px it ifs sc p=>exact uU X A' R hv hQ
 |dcomp k v x px it ifs sc p=>exact uV X A' R hv hQ
 |fstr ps p=>exact zy X A' R hv hQ
theorem MR(T:TopOk Γ){st:Mine.S}{x:R3}{Q:Flow→Shared→Prop}(X:Snd Γ n ih)(A:AOk c (n+1))(R:Rel Γ c d f lo h)(hv:ex1 st ih f lo h=some x)(hQ:PostS Γ c d f x Q):wpAny Γ.M c.A (exec (dS st).1 c.env) Q E d.s:=by
 have A':=A.less
 cases st with
 |nil|cons _ _|raw _=>exact nn hv
 |expr e p=>exact zH X A' R hv hQ
 |brk p=>exact FU R hv hQ
 |ret0 p=>exact zO R hv hQ
 |ret e p=>exact FI X A' R hv hQ
 |asg ts e p=>exact zM X A' R hv hQ
 |swp x px y py tk tp a b vk vp p=>exact FQ X A' R hv hQ
 |aug x px op e p=>exact FJ T.g X A' R hv hQ
 |if_ t a b p=>exact ML X A' R hv hQ
 |while_ t b p=>exact uA X A' R hv hQ
 |for_ t it b o p=>exact FM X A' R hv hQ
 |gfor t s ps m pm s' ps' a pa pc b p=>exact T.gaps.gfor X A R hv hQ
 |del o ps p1 p=>exact FS X A' R hv hQ
 |try_ b hs p=>
  refine bf hv ?_
  clear hv
  intro h1 hz
  cases hs with
  |nil=>exact ff h1
  |cons hd hs=>exact FT X A' R hz hQ
 |esc x ch m r k1 k2 k3 px pc pp pt po pa pr ps pw pq p=>exact FW T.g A' R hv hQ
theorem FY(T:TopOk Γ)(X:Snd Γ n ih)(A:AOk c (n+1)): ∀(b:Mine.S) (d:Dy) (lo:Lo) (h:H) (x:R3) (Q:Flow→Shared→Prop),Rel Γ c d f lo h→exF ih f b lo h=some x→PostS Γ c d f x Q→wpAny Γ.M c.A (execs (dB b) c.env) Q E d.s:=by
 refine lsS ?_ ?_ ?_
 · intro d lo h x Q R hv hQ
   replace hQ:=hQ.so1 (hv:some (Fl.next,lo,h)=some x)
   clear hv
   exact Uo (hQ _ _ _ _ _ (.refl _) R rfl)
 · intro s r IH d lo h x Q R hv hQ
   refine aw (hv:ob (ex1 s ih f lo h) (λx=>bc (zg x.1) (exF ih f r x.2.1 x.2.2) (some x))=some x) ?_
   clear hv
   intro y h1 hv
   show wpAny Γ.M c.A (execs ((dS s).1::dB r) c.env) Q E d.s
   refine Uc (MR T X A R h1 λρ1 ξ1 m1 s1 fl x1 R1 hf=> ?_)
   obtain⟨yf,yl,yh⟩:=y
   cases yf with
   |next=>
    cases(hf:fl= .next)
    exact IH ⟨ρ1,ξ1,m1,s1⟩ yl yh x Q R1 hv λρ2 ξ2 m2 s2 fl2 x2 R2 hf2=>hQ ρ2 ξ2 m2 s2 fl2 (x1.trans x2) R2 hf2
   |brk=>
    replace hQ:=hQ.so1 (hv:some (Fl.brk,yl,yh)=some x)
    clear hv
    cases(hf:fl= .brk)
    exact hQ _ _ _ _ _ x1 R1 rfl
   |cont=>
    replace hQ:=hQ.so1 (hv:some (Fl.cont,yl,yh)=some x)
    clear hv
    cases(hf:fl= .cont)
    exact hQ _ _ _ _ _ x1 R1 rfl
   |ret v=>
    replace hQ:=hQ.so1 (hv:some (Fl.ret v,yl,yh)=some x)
    clear hv
    refine el_EAL ((hf: ∃w,fl= .ret w∧VR ρ1 v w)) ?_
    rintro w rfl hw
    exact hQ _ _ _ _ _ x1 R1 ⟨w,rfl,hw⟩
 · intro e q d lo h x Q R hv _;exact zi q hv
end
structure ConOk(Γ:Gl)(B:Nat)(con:H→Nat→List V→Option (V×H)):Prop where
 fk: ∀h a vs r,con h a vs=some r→fnIn Γ.K a=true
 c: ∀(c:St0) (d:Dy) (h:H) (a:Nat) (vs:List V) (ws:List Value) (v:V) (h':H) (Q:Value→Shared→Prop) (E:Value→Shared→Prop),AOk c B→Fr c.h₀ c.L d.s.heap d.m→GB Γ c.h₀→Below c.A₀ c.base c.outer c.h₀→Led Γ.D c.h₀ c.L d.s.heap d.ρ d.ξ h→
  d.s.os=c.os→AllBare d.s.gens→(∀p∈c.kept,p∈d.ξ)→(∀p∈c.gk,d.s.gens[p.1]? =some p.2)→VsR d.ρ vs ws→con h a vs=some (v,h')→PostC Γ c d h' v Q→codeAny Γ.M c.A (.call (.ref a) ⟨ws,[]⟩) (wants Q E) d.s
theorem yq{Γ:Gl}{a:Addr}{d:FD}{w:FnW}(O:FnOk Γ a d w):fnIn Γ.K a=true:=by
 unfold fnIn
 rw[O.lk]
theorem Snd.zero(n:Nat):Snd Γ n ih0 where
 u:=λZ Z Z Z Z Z Z Z Z Z Z Z Z Z Z Z hv=>nomatch hv
 ia:=λZ Z hv=>nomatch hv
 mt:=λZ Z hv=>nomatch hv
 raw:=λZ Z Z Z=>rfl
 fk:=λZ Z Z Z hv=>nomatch hv
 e:=λZ Z Z Z Z Z Z Z Z Z Z Z hv=>nomatch hv
 t:=λZ Z Z Z Z Z Z Z Z Z Z Z hv=>nomatch hv
 s:=λZ Z Z Z Z Z Z Z Z Z Z hv=>nomatch hv
 c:=λZ Z Z Z Z Z Z Z Z Z Z Z Z Z Z Z Z Z Z Z hv=>nomatch hv
theorem Snd.step(T:TopOk Γ){B n:Nat}(hB:B≤n+1){con:H→Nat→List V→Option (V×H)}(C:ConOk Γ B con){ih:Ih}(X:Snd Γ n ih):Snd Γ (n+1) (Mine.step Γ.g con ih) where
 u:=λc d f lo h e v h' x p lo2 h2 Q E A R hv hst hc hl hQ=>by
  cases e with
  |lcomp elt y py it ifs sc q=>exact uW X A.less R hv hst hl hQ
  |dcomp kx vx y py it ifs sc q=>exact uX X A.less R hv hst hl hQ
  |_=>exact ff hc
 ia:=λC' ns hv=>T.c.ia C' ns hv
 mt:=λC' fn hv=>by
  refine aB (hv:ob (atN C' Γ.g.cls) (λcd=>ob (look w_iter_namespaces cd) λw=>ob (asTop w) λfn=>gd (Nat.beq fn Γ.g.genA) (some fn))=some fn) ?_
  clear hv
  intro cd h1 w h2 fn' h3 hvX
  refine bf hvX ?_
  clear hvX
  intro h4 hz
  obtain rfl:=Ud hz
  exact⟨Tj h4,cd,h1,by rw[h2,bT h3]⟩
 raw:=λZ Z Z Z=>rfl
 fk:=λh a vs r hv=>by
  have hv': @U9 (V×H) (λZ=>Option (V×H)) (gB Γ.g ih h a vs) (λr=>some r) (con h a vs)=some r:=hv
  cases q:con h a vs with
  |some r'=>exact C.fk _ _ _ _ q
  |none=>
   rw[q]at hv'
   refine bJ (hv':gB Γ.g ih h a vs=some r) ?_
   clear hv'
   intro fd e1 g1 _
   refine el_EL (T.f _ _ e1 (by rw[bg]at g1;simpa using g1)) ?_
   intro w O
   exact yq O
 e:=λc d f lo h e v h' Q E A R hv hQ=>MQ T X A R hv hQ
 t:=λc d f lo h e b h' Q E A R hv hQ=>MK X A.less R hv hQ
 s:=λc d f lo h b x Q E A R hv hQ=>FY T X A b d lo h x Q R hv hQ
 c:=λc d h a vs ws v h' Q E A F G B' Y ho hg hkp hgk hw hv hQ=>by
  have hv': @U9 (V×H) (λZ=>Option (V×H)) (gB Γ.g ih h a vs) (λr=>some r) (con h a vs)=some (v,h'):=hv
  cases q:con h a vs with
  |some r'=>
   rw[q]at hv'
   cases(hv':some r'=some (v,h'))
   exact C.c c d h a vs ws v h' Q E (A.le hB) F G B' Y ho hg hkp hgk hw q hQ
  |none=>
   rw[q]at hv'
   exact r7 T.f X c d h a vs ws v h' Q E A F G B' Y ho hg hkp hgk hw hv' hQ
theorem Snd.itp(T:TopOk Γ){B:Nat}{con:H→Nat→List V→Option (V×H)}(C:ConOk Γ B con): ∀m,Snd Γ (m+B) (Mine.itp Γ.g con m)
 |0=>Snd.zero _
 |m+1=>by
  have:=Snd.step T (n:=m+B) (TW (Nat.le_add_left B m)) C (Snd.itp T C m)
  rw[Nat.add_right_comm m 1 B]
  exact this
end
section
variable{Γ:Gl}{c:St0}{d:Dy}{f:Frm}{lo:Lo}{h:H}{n:Nat}
structure ItemsOk(Γ:Gl):Prop where
 it: ∃od kvs,Γ.K.lookup Γ.g.itemsA=some od∧od.IsDictOf (UH Γ.prog Γ.w) kvs∧kvs.length≤4000
theorem mK:mkS nA=UK "items":=by decide+kernel
theorem uY(G:GOk Γ)(I:ItemsOk Γ){x D m:Str}{px pd pm pc p:Pos}{v:V}{h':H}{Q:Value→Shared→Prop}{E:Value→Shared→Prop}(A:AOk c (n+1))(R:Rel Γ c d f lo h)(hv:itemsE Γ.g f lo h x D m pm pc=some (v,h'))(hQ:PostE Γ c d f lo h' v Q):
 wpAny Γ.M c.A (eval (dE (.items x px D pd m pm pc p)) c.env) Q E d.s:=by
 refine aW hv ?_
 clear hv
 intro g1 g2 hvX
 refine bJ hvX ?_
 clear hvX
 intro u e1 g3 hvX
 refine dn hvX ?_
 clear hvX
 intro w e2 a e3 g4 hvX
 refine bf hvX ?_
 clear hvX
 intro g5 z8
 rw[eM]at z8
 obtain⟨rfl,rfl⟩:=so2 z8
 have hu:u= .prim 7:=by
  cases u<;>first|cases g3|exact congrArg V.prim (Tj g3).symm
 subst hu
 have ha:=Tj g5
 subst ha
 have hw:=bT e3
 subst hw
 have hl:(pm.endLine==pc.line)=true:=by
  have:=Tj g2
  cases pc
  exact beq_iff_eq.mpr this
 have em:m=UK "items":=by rw[←mK,←au.mp g1];rfl
 have hsys:(Γ.g.itemsA==sysModules)=false:=by
  exact yb (Vg.mp g4)
 refine el_EEAAL I.it ?_
 intro od kvs i1 i2 i3
 show wpAny Γ.M c.A (eval (.Call (.Name x px) [dE (.meth (.nm D pd) m pm .nil pc)] [] p) c.env) Q E d.s
 refine Call_ (eN G R e1 λw hw=> ?_)
 cases(hw:w=cF 7)
 refine U4 (P:=λZ=>True) rfl (λZ Z=>⟨.machine,.inr (.inl rfl),UF rfl⟩) ?_
 refine Uu (show wpAny Γ.M c.A (spliced (backTo p (Vu [dE (.meth (.nm D pd) m pm .nil pc)] c.env))) _ _ _ from ?_)
 refine T0 ?_
 refine cg (o:= .nm D pd) (args:= .nil) (λy z=>ff (congrArg ma z)) rfl hl rfl rfl ?_
 refine eN G R e2 λw hw pl=> ?_
 cases(hw:w= .ref Γ.g.itemsA)
 rw[em]
 have hK:d.s.heap.get? Γ.g.itemsA=some od:=R.gb.K.keeps R.fr.keep _ _ i1
 have hD:d.s.heap.DictOf (UH Γ.prog Γ.w) Γ.g.itemsA kvs:=Heap.dictOf_iff.mpr ⟨od,hK,i2⟩
 refine TT hD.typeIs PySem.F.plainAttrs_dict PySem.F.slot_dict_items PySem.F.type_dict_items hD.mapOf.noDict ?_
 refine U4 (P:=λZ=>True) rfl (λZ Z=>⟨.machine,.inr (.inl rfl),UF rfl⟩) (evalArgs_nil3 ⟨trivial,?_⟩)
 refine call_meetsIn PySem.F.slot_dict_items hD.typeIs PySem.F.entry_dict_items (PySem.F.args_dict_items_1 _) (meets_dict_items (UH Γ.prog Γ.w) Γ.g.itemsA hsys) ⟨⟨kvs,hD⟩,?_⟩
 refine Ui ⟨trivial,?_⟩
 have R1:=R.junk (t:=d.s.toks) (h':=d.s.heap.push {cls:= .type "dict_items",data:= .fields #[.ref Γ.g.itemsA]}) λZ Z e=>Tf _ e
 have hD1:(d.s.heap.push {cls:= .type "dict_items",data:= .fields #[.ref Γ.g.itemsA]}).DictOf (UH Γ.prog Γ.w) Γ.g.itemsA kvs:=Heap.dictOf_iff.mpr ⟨od,Tf _ hK,i2⟩
 refine el_EL hD1.dictAt ?_
 intro ep hAt
 refine kdx_call A.hd ⟨_,Tz _ rfl,rfl,rfl⟩ hAt (by rw[ak];omega) λh2 tk acc k as hk hS Z Z Z=> ?_
 have R2:=Rel.push (d:=⟨d.ρ,d.ξ,d.m,{d.s with heap:=d.s.heap.push {cls:= .type "dict_items",data:= .fields #[.ref Γ.g.itemsA]}}⟩) R1 (t:=tk) (o:= .dead) (UY _) hS (λZ Z Z e=>by cases e) hk
 exact hQ _ _ _ _ (.push _ _) R2 (bu R _)
end
section
theorem jR(led:Bool)(h:Int)(x:Value): ∃t1 wd gave j,layNew (.fresh 0 0 led) #[] h x=(#[(h,x)],t1,wd,gave)∧t1.place= #[j]∧t1.dummies= #[]∧(t1.mask=7∨t1.mask=8)∧t1.led=led:=by
 unfold layNew
 have hr:Array.range 1= #[0]:=by decide
 cases q:SetTable.freeSlot (.fresh 0 0 led) h with
 |none=>exact⟨_,_,_,0,rfl,hr,rfl,.inr rfl,rfl⟩
 |some p=>
  obtain⟨slot,wd⟩:=p
  have e1:Uv (SetTable.fresh 0 0 led).place slot=0:=rfl
  have e2:SetTable.put (.fresh 0 0 led) slot=({(SetTable.fresh 0 0 led)with place:= #[slot]},0):=by
   unfold SetTable.put
   rw[e1]
   rfl
  dsimp only
  rw[e2]
  dsimp only
  have e3:SetTable.insertAt (#[]:Array (Int×Value)) 0 (h,x)= #[(h,x)]:=rfl
  rw[e3]
  unfold SetTable.orStandIn
  split
  · exact⟨_,_,_,slot,rfl,rfl,rfl,.inl rfl,rfl⟩
  · exact⟨_,_,_,0,rfl,hr,rfl,.inr rfl,rfl⟩
section
variable{prog:Program}{w:World}{A:Around}{E:Value→Shared→Prop}{s:Shared}
theorem jS{a:Addr}{led:Bool}{x:Str}{t:Tok}{Q:Bool→Shared→Prop}(ho:s.heap.get? a=some {cls:= .type "set",dict:=none,data:= .set #[] 0 (.fresh 0 0 led)})
 (h: ∀h' n t1,UM a s.heap h'→h'.get? a=some (cQ (hashStr w x) (.str x t) n t1)→(∃j,t1.place= #[j])→t1.dummies= #[]→(t1.mask=7∨t1.mask=8)→t1.led=led→Q true {s with heap:=h',toks:=s.toks+1}):
 wpAny (model prog w) A (setAdd a (.str x t)) Q E s:=by
 unfold setAdd
 refine Uy (U7 (wpAny_pyHash_str ?_))
 unfold setAddHashed setAddHashedIn
 refine Uy (U7 (TR (s:={s with toks:=s.toks+1}) ho rfl (by rfl) ?_))
 dsimp only
 rw[byScan_of (knd:=strKind prog w) (es:= #[]) (x:= .str x t) rfl (by decide) (λe he=>by simp at he)]
 simp only[↓reduceIte]
 unfold setAddByScan
 refine U7 ?_
 refine U7 (Vf ?_)
 refine U7 (wpAny_setScan_of (knd:=strKind prog w) (k:=x) (s:={s with toks:=s.toks+1}) (Vh prog w x t) ho rfl rfl (λe he=>by simp at he) ?_)
 dsimp only
 refine el_EEEL (jR led (hashStr w x) (.str x t)) ?_
 intro t1 wd gave qX
 refine el_EAAL qX ?_
 clear qX
 intro j hL p1 qX
 refine bi qX ?_
 clear qX
 intro p2 p3 p4
 rw[hL]
 dsimp only
 have hgw: ∀(b:Bool) {s₁:Shared} {Q':Unit→Shared→Prop},Q' () s₁→wpAny (model prog w) A (match b with|true=>rule "set.scan.the-table-gave-way"|false=>pure ()) Q' E s₁:=
  λb s₁ Q' hq=>by cases b<;>first|exact U8 hq|exact Vf hq
 refine U7 (hgw _ ?_)
 have fin: ∀t2:SetTable,t2.place=t1.place→t2.dummies=t1.dummies→t2.mask=t1.mask→t2.led=t1.led→wpAny (model prog w) A (do
  storeSet a #[(hashStr w x,Value.str x t)] t2
  if(!wd&&t2.tooFull)=true then do
   let __discr:=relayAll t2 #[(hashStr w x,Value.str x t)] (SetTable.grown (#[(hashStr w x,Value.str x t)]:Array (Int×Value)).size)
   (match __discr.2.2 with|true=>rule "set.scan.the-table-gave-way"|false=>pure ())
   storeSet a __discr.1 __discr.2.1
   pure (some true)
  else pure (some true)) (λr s'=>r=some true∧Q true s') E {s with toks:=s.toks+1}:=λt2 q1 q2 q3 q4=>by
  refine U7 (wpAny_storeSet_of (s:={s with toks:=s.toks+1}) ho rfl ?_ (by rw[ak];exact Tk rfl))
  have hfull:t2.tooFull=false:=by
   unfold SetTable.tooFull SetTable.fill
   rw[q1,q2,p1,p2,q3]
   rcases p3 with e|e<;>rw[e]<;>rfl
  rw[hfull,Bool.and_false,if_neg (by decide)]
  refine U8 ⟨rfl,h _ 1 t2 (TA ..) (Tm _ ho rfl) ⟨j,by rw[q1];exact p1⟩ (by rw[q2];exact p2) (by rw[q3];exact p3) (by rw[q4];exact p4)⟩
 split
 · refine U7 ?_
   rw[hashByValue_scannable 8 rfl]
   refine U8 ?_
   refine Vc (fin _ ?_ ?_ ?_ ?_) (λr s' hr=> ?_) λZ Z z=>z
   · split<;>rfl
   · split<;>rfl
   · split<;>rfl
   · split<;>rfl
   · refine ae hr ?_
     clear hr
     rintro rfl hr
     exact U8 hr
 · refine U7 (U8 ?_)
   simp only[↓reduceIte]
   refine Vc (fin t1 rfl rfl rfl rfl) (λr s' hr=> ?_) λZ Z z=>z
   refine ae hr ?_
   clear hr
   rintro rfl hr
   exact U8 hr
end
end
section
theorem pj:entryFor table "set.update.loop"=some Builtin.«set.update.loop»:=entryFor_of_tree (by kernel_rfl)
theorem pu:plainId "set.update.loop"=true:=by decide+kernel
section
variable{prog:Program}{w:World}{A:Around}{E:Value→Shared→Prop}{s:Shared}
theorem mL{a D:Addr}{j n:Nat}{hs:Int}{x:Value}{t1:SetTable}{Q:Unit→Shared→Prop}(hh:A.handled=none)(hD:s.heap.get? D=some (Vy [] j))(hsys:(D==sysModules)=false)(ho:s.heap.get? a=some (cQ hs x n t1))
 (p1: ∃j,t1.place= #[j])(p2:t1.dummies= #[])(p3:t1.mask=7∨t1.mask=8)(h: ∀h' tk,(∀b o,s.heap.get? b=some o→h'.get? b=some o)→Q () {s with heap:=h',toks:=tk}):
 wpAny (model prog w) A (setDisplayStar a (.ref D)) Q E s:=by
 have hT:s.TypeIs (.ref D) "dict":=⟨_,hD,rfl⟩
 unfold setDisplayStar
 dsimp only
 refine el_EL p1 ?_
 clear p1
 intro jj p1
 have fill:t1.fill=1:=by unfold SetTable.fill;rw[p1,p2];rfl
 have hf:t1.fits (#[(hs,x)]:Array (Int×Value)).size=true:=by
  unfold SetTable.fits
  rw[p1,fill]
  rcases p3 with e|e<;>rw[e]<;>rfl
 have room:t1.roomFor 0=none:=by
  unfold SetTable.roomFor
  rw[fill]
  rcases p3 with e|e<;>rw[e]<;>rfl
 have hDA:s.heap.DictAt (strKind prog w) D [] j:=⟨_,#[],hD,⟨rfl,rfl,rfl⟩,rfl,λe he=>by simp at he,.nil,by simp⟩
 have road2:wpAny (model prog w) A (do
  let _←runValue (.builtin "set.update.loop" ⟨[.ref a,←pyIter (.ref D)],[]⟩)) Q E s:=by
  refine U7 (wpAny_pyIter_dict hsys hDA ?_)
  refine U7 (wpAny_runValue ?_)
  refine Um pj ?_
  rw[Tx pu _]
  show wpAny _ A.in1 (pyNext (.ref _)>>=_) _ _ _
  refine U7 (wpAny_pyNext_dict_end (knd:=strKind prog w) (kvs:=[]) (i:=0) (ep:=j) (d:=D) hh ?_ ?_ rfl λh' hx=> ?_)
  · exact⟨_,Tz _ rfl,rfl,rfl⟩
  · refine el_EEAL hDA ?_
    clear hDA
    intro o es ho r
    exact⟨o,es,Tf _ ho,r⟩
  · show wpAny _ A.in1 (ret Value.none) _ _ _
    refine U8 ?_
    refine U8 (h h' _ λb o e=> ?_)
    exact hx b o (UL (UN e)) (Tf _ e)
 refine U7 (T8 (b:=false) hT (by rw[Us];kernel_rfl) ?_)
 rw[if_neg (by decide)]
 refine U7 (T8 (b:=false) hT (by rw[Us];kernel_rfl) ?_)
 refine U7 (T5 ?_)
 dsimp only
 cases hb:w.params.followText "set-display-star-reads-storage" with
 |true=>
  rw[show(model prog w).w.params.followText "set-display-star-reads-storage"=true from hb,if_pos rfl]
  exact road2
 |false=>
  rw[show(model prog w).w.params.followText "set-display-star-reads-storage"=false from hb,if_neg (by decide)]
  dsimp only
  rw[if_neg (by decide)]
  refine U7 (UU hT ?_)
  rw[if_pos (by decide)]
  refine U7 (Vf ?_)
  rw[if_neg (by rw[hsys];decide)]
  refine U7 (wpAny_dictEpoch hD rfl ?_)
  refine U7 (wpAny_dictEntries hD rfl ?_)
  refine U7 ?_
  unfold setRoomFor
  refine U7 (TR ho rfl hf ?_)
  dsimp only
  rw[show(#[]:Array Vk).size=0 from rfl,room]
  dsimp only
  refine U8 ?_
  refine U7 (UZ (a:=PUnit.unit) (by first|rfl|simp) ?_)
  exact U8 (h s.heap s.toks λZ Z e=>e)
end
end
section
variable{Γ:Gl}{c:St0}{d:Dy}{f:Frm}{lo:Lo}{h:H}{n:Nat}
theorem r9{e:Mine.E}{x:Str}(h:nmE e=some x): ∃p,e= .nm x p:=by
 cases e<;>cases h
 exact⟨_,rfl⟩
theorem pA{g:G}{e:Mine.E}{y:Str}{k:Nat}{v:V}{h':H}(hv:setE g f lo h e y k=some (v,h')):
 f.cd=g.lamCd∧k=0∧ ∃x px s j,e= .nm x px∧bq f lo h (sT x)=some (.str s)∧bq f lo h (sT y)=some (.loc j)∧h[j]? =some (.sd [])∧v= .loc h.length∧h'=h++[.one s]:=by
 refine aW hv ?_
 clear hv
 intro g1 g2 hvX
 refine aB hvX ?_
 clear hvX
 intro x e1 u e2 s e3 hvX
 refine aB hvX ?_
 clear hvX
 intro w e4 j e5 l e6 hvX
 refine bf hvX ?_
 clear hvX
 intro g3 z
 rw[eM]at z
 have hl:l=[]:=by cases l<;>first|rfl|cases g3
 have q:=Prod.mk.inj (Ud z)
 refine el_EL (r9 e1) ?_
 intro px h1
 exact⟨Tj g1,Tj g2,x,px,s,j,h1,ar e3▸e2,aj e5▸e4,hl▸bH e6,q.1.symm,q.2.symm⟩
theorem mM{prog:Program}{w:World}{A:Around}{E:Value→Shared→Prop}{s:Shared}{Q:Value→Shared→Prop}
 (h:Q (.ref s.heap.objs.size) {s with heap:=s.heap.push {cls:= .type "set",dict:=none,data:= .set #[] 0 (.fresh 0 0 (!w.params.followText "set-order"))}}):wpAny (model prog w) A (newSet (.type "set")) Q E s:=by
 unfold newSet setsByText
 refine U7 (U7 (T5 (U8 ?_)))
 dsimp only
 simp only[newObj]
 exact U7 (wpAny_alloc (U8 h))
theorem zV(G:GOk Γ)(LO:kdsCode Γ.K (.ref Γ.g.lamCd)=true){e:Mine.E}{y:Str}{py ps p:Pos}{k:Nat}{v:V}{h':H}{Q:Value→Shared→Prop}{E:Value→Shared→Prop}(A:AOk c (n+1))(R:Rel Γ c d f lo h)(hv:setE Γ.g f lo h e y k=some (v,h'))(hQ:PostE Γ c d f lo h' v Q):
 wpAny Γ.M c.A (eval (dE (.set1 e y py ps k p)) c.env) Q E d.s:=by
 refine bi (pA hv) ?_
 intro g1 qX1 qX
 refine el_EEEL qX ?_
 clear qX
 intro x px s qX
 refine el_EAAL qX ?_
 clear qX
 intro j qX2 e2 qX
 refine aD qX ?_
 clear qX
 intro e4 e6 qX3 qX4
 subst qX1
 subst qX2
 subst qX3
 subst qX4
 clear hv
 have hcd:=R.nm.cd
 rw[g1]at hcd
 have hA:c.A.handled=none:=A.hd
 clear A g1
 show wpAny Γ.M c.A (eval (.Set [.Name x px,.Starred (.Name y py) ps] 0 p) c.env) Q E d.s
 rw[arm_eval_Set]
 refine U7 (UA ?_)
 refine U7 (kds_main (R.gb.K.keeps R.fr.keep) (by rw[hcd];exact LO) λb=> ?_)
 unfold setDisplay
 rw[if_neg (show¬(displayRoad 0 [PySem.Expr.Name x px,(PySem.Expr.Name y py).Starred ps]==DisplayRoad.constants)=true from by rw[show displayRoad 0 [PySem.Expr.Name x px,(PySem.Expr.Name y py).Starred ps]= .oneByOne from rfl];decide)]
 refine U7 (mM ?_)
 dsimp only
 have R1:=R.junk (t:=d.s.toks) (h':=d.s.heap.push {cls:= .type "set",dict:=none,data:= .set #[] 0 (.fresh 0 0 (!Γ.w.params.followText "set-order"))}) λZ Z e=>Tf _ e
 refine U7 (Uy ?_)
 show wpAny Γ.M c.A (do
  let first←evalAll [do let v←eval (.Name x px) c.env;standAt p;pure v]
  _) _ E _
 refine U7 (wpAny_evalAll_cons (U7 (eN G R1 e2 λw hw=> ?_)))
 refine el_EL hw ?_
 clear hw
 rintro tk rfl
 refine U7 (UA (U8 (wpAny_evalAll_nil ?_)))
 refine U7 (Uy ?_)
 rw[Uj]
 refine U7 (U7 (U7 (jS (Tz _ rfl) λh1 n1 t1 hsb ho p1 p2 p3 p4=> ?_)))
 refine U8 ?_
 dsimp only
 rw[List.forIn_nil]
 refine U8 ?_
 rw[show displayRoad 0 [PySem.Expr.Name x px,(PySem.Expr.Name y py).Starred ps]= .oneByOne from rfl,if_neg (by decide)]
 refine U8 ?_
 have k1: ∀b o,d.s.heap.get? b=some o→h1.get? b=some o:=λb o e=>(hsb.2 b (UL (UN e))).trans (Tf _ e)
 have R2:=R.junk (t:=d.s.toks+1) (h':=h1) k1
 show wpAny Γ.M c.A (forIn [(true,do let v←eval (.Name y py) c.env;standAt p;pure v)] PUnit.unit _>>=_) _ E _
 rw[Uj]
 refine U7 (U7 (U7 (U7 (eN G R2 e4 λw hw=> ?_))))
 refine el_EAL hw ?_
 clear hw
 rintro D hD1 rfl
 refine el_EEAAEEAL (R2.led.at e6) ?_
 rintro D' bD h1' hD2 ds m rfl hds
 cases hD1.symm.trans h1'
 have hds':ds=[]:=List.eq_nil_of_length_eq_zero hds.length
 subst hds'
 have hsys:(D==sysModules)=false:=by
  have:=(R.led.new D (Tq hD1)).2.2
  exact beq_eq_false_iff_ne.mpr λe=>by rw[e]at this;exact absurd this (by decide)
 refine U7 (UA (U8 ?_))
 rw[if_pos rfl]
 refine U7 (Uy (mL hA hD2 hsys ho p1 p2 p3 λh2 tk2 k2=> ?_))
 refine U8 ?_
 dsimp only
 rw[List.forIn_nil]
 refine U8 (U8 (U8 ?_))
 refine hQ _ _ _ _ (.push _ _) (R.push (t:=tk2) (o:= .one s) (UY _) (k2 _ _ ho) ⟨tk,n1,t1,rfl,p1,p2,p3,p4⟩ λb o e=>k2 _ _ (k1 b o e)) (bu R _)
end
section
theorem bY:PySem.Slot "set_iterator" "__next__" "set_iterator.__next__":=
 .of (owner:="set_iterator") (n:="__next__") (by rw[Ul,Tn];kernel_rfl) (by decide+kernel) (by decide+kernel) (by decide+kernel)
  (by first|exact .inl (by decide+kernel)|exact .inr (by decide+kernel)) (by rw[Us];kernel_rfl)
theorem eH:entryFor table "set_iterator.__next__"=some Builtin.«set_iterator.__next__»:=entryFor_of_tree (by kernel_rfl)
theorem fg(a:Value):argsOk "set_iterator.__next__" ⟨[a],[]⟩:=by unfold argsOk;kernel_rfl
theorem hV:entryFor table "set.__iter__"=some Builtin.«frozenset.__iter__»:=entryFor_alias (id':="frozenset.__iter__") (by kernel_rfl) rfl (by decide+kernel) (by kernel_rfl)
theorem zW(j:Nat):Uv #[j] 0=0:=rfl
theorem zX(j:Nat):Uv #[j] (j+1)=1:=by
 show SetTable.below.go #[j] (j+1) 1 0 1=1
 unfold SetTable.below.go
 simp[SetTable.below.go]
theorem lx{α:Type}(f:Nat→Nat)(e:α):pickOrder f #[e]= #[e]:=by
 show pickOrder.go f 1 0 [e] #[]=_
 unfold pickOrder.go
 have:f 0% [e].length=0:=by simp[Nat.mod_one]
 rw[this]
 rfl
abbrev fh(k i:Int)(a:Addr)(n:Nat):Obj:={cls:= .type "set_iterator",data:= .fields #[.int k 0,.int i 0,.ref a,.int 1 0,.int n 0]}
section
variable{prog:Program}{w:World}{A:Around}{E:Value→Shared→Prop}{s:Shared}{a it:Addr}{hs:Int}{x:Value}{n j:Nat}{t1:SetTable}
theorem ed(p1:t1.place= #[j])(p2:t1.dummies= #[])(p3:t1.mask=7∨t1.mask=8):t1.fits (#[(hs,x)]:Array (Int×Value)).size=true:=by
 have fill:t1.fill=1:=by unfold SetTable.fill;rw[p1,p2];rfl
 unfold SetTable.fits
 rw[p1,fill]
 rcases p3 with e|e<;>rw[e]<;>rfl
theorem mN{Q:Value→Shared→Prop}(ho:s.heap.get? a=some (cQ hs x n t1))(p1:t1.place= #[j])(p2:t1.dummies= #[])(p3:t1.mask=7∨t1.mask=8)
 (h:Q (.ref s.heap.objs.size) {s with heap:=s.heap.push (fh 0 0 a n)}):wpAny (model prog w) A (pyIter (.ref a)) Q E s:=by
 have hT:s.TypeIs (.ref a) "set":=⟨_,ho,rfl⟩
 have hf:=ed (hs:=hs) (x:=x) p1 p2 p3
 refine wpAny_pyIter_slot hT F.slot_set_iter (T9 F.slot_set_iter hT hV ?_ (F.args_set_iter_1 _))
 unfold Builtin.«frozenset.__iter__»
 refine U7 (UZ (a:=a) (by rfl) ?_)
 unfold Builtin.Frozenset.sizeOf
 refine U7 (U7 (wpAny_setEntries_of ho rfl hf (U8 ?_)))
 unfold setDrawn setsByText
 refine U7 (U7 (TR ho rfl hf ?_))
 refine U7 (U7 (T5 (U8 ?_)))
 refine U8 ?_
 have hd: ∀b:Bool,(b&&(!t1.plain&&decide ((#[(hs,x)]:Array (Int×Value)).size>1)))=false:=λb=>by cases b<;>cases t1.plain<;>rfl
 show wpAny _ _ (if(!_&&(!t1.plain&&decide ((#[(hs,x)]:Array (Int×Value)).size>1)))=true then _ else _) _ _ _
 rw[if_neg (by rw[hd];decide)]
 refine U7 (U8 ?_)
 unfold setEpoch
 refine U7 (U7 (TR ho rfl hf (U8 ?_)))
 refine U7 (TP (U8 ⟨_,rfl,"set_iterator",_,⟨_,Tz _ rfl,rfl⟩,bY.lookup,?_⟩))
 exact h
theorem ly{Q:Option (Value×Nat)→Shared→Prop}(ho:s.heap.get? a=some (cQ hs x n t1))(p1:t1.place= #[j])(p2:t1.dummies= #[])(p3:t1.mask=7∨t1.mask=8)(p4:t1.led= !w.params.followText "set-order")
 (h:Q (some (x,if w.params.followText "set-order" then 0 else j+1)) s):wpAny (model prog w) A (setNext a 0 0 n) Q E s:=by
 have hf:=ed (hs:=hs) (x:=x) p1 p2 p3
 unfold setNext
 refine U7 (TR ho rfl hf ?_)
 dsimp only
 unfold setsByText
 refine U7 (U7 (T5 (U8 ?_)))
 cases hb:w.params.followText "set-order" with
 |true=>
  rw[hb,if_pos rfl]at h
  rw[show(model prog w).w.params.followText "set-order"=true from hb,if_pos rfl,if_neg (by simp)]
  unfold setWalk setsByText
  refine U7 (U7 (TR ho rfl hf ?_))
  dsimp only
  refine U7 (U7 (T5 (U8 ?_)))
  rw[show(model prog w).w.params.followText "set-order"=true from hb,if_pos rfl]
  refine U7 (T5 (U8 ?_))
  rw[lx]
  exact U8 h
 |false=>
  rw[hb,if_neg (by decide)]at h
  rw[hb]at p4
  rw[show(model prog w).w.params.followText "set-order"=false from hb,if_neg (by decide)]
  have hd:(!t1.plain&&decide ((#[(hs,x)]:Array (Int×Value)).size>1))=false:=by cases t1.plain<;>rfl
  show wpAny _ _ (if(!t1.plain&&decide ((#[(hs,x)]:Array (Int×Value)).size>1))=true then _ else _) _ _ _
  rw[if_neg (by rw[hd];decide)]
  show wpAny _ _ ((if(!t1.led&& !(#[(hs,x)]:Array (Int×Value)).isEmpty)=true then _ else _)>>=_) _ _ _
  rw[if_neg (by rw[p4];exact TL)]
  refine U7 (U8 ?_)
  rw[p1,zW]
  exact U8 h
theorem lz{Q:Option (Value×Nat)→Shared→Prop}(ho:s.heap.get? a=some (cQ hs x n t1))(p1:t1.place= #[j])(p2:t1.dummies= #[])(p3:t1.mask=7∨t1.mask=8)(p4:t1.led= !w.params.followText "set-order")
 (h:Q none s):wpAny (model prog w) A (setNext a (if w.params.followText "set-order" then 0 else j+1) 1 n) Q E s:=by
 have hf:=ed (hs:=hs) (x:=x) p1 p2 p3
 unfold setNext
 refine U7 (TR ho rfl hf ?_)
 dsimp only
 unfold setsByText
 refine U7 (U7 (T5 (U8 ?_)))
 cases hb:w.params.followText "set-order" with
 |true=>
  rw[show(model prog w).w.params.followText "set-order"=true from hb,if_pos rfl,if_neg (by simp)]
  unfold setWalk setsByText
  refine U7 (U7 (TR ho rfl hf ?_))
  dsimp only
  refine U7 (U7 (T5 (U8 ?_)))
  rw[show(model prog w).w.params.followText "set-order"=true from hb,if_pos rfl]
  refine U7 (T5 (U8 ?_))
  rw[lx]
  exact U8 h
 |false=>
  rw[hb]at p4
  rw[show(model prog w).w.params.followText "set-order"=false from hb,if_neg (by decide)]
  have hd:(!t1.plain&&decide ((#[(hs,x)]:Array (Int×Value)).size>1))=false:=by cases t1.plain<;>rfl
  show wpAny _ _ (if(!t1.plain&&decide ((#[(hs,x)]:Array (Int×Value)).size>1))=true then _ else _) _ _ _
  rw[if_neg (by rw[hd];decide)]
  show wpAny _ _ ((if(!t1.led&& !(#[(hs,x)]:Array (Int×Value)).isEmpty)=true then _ else _)>>=_) _ _ _
  rw[if_neg (by rw[p4];exact TL)]
  refine U7 (U8 ?_)
  rw[p1,if_neg (by decide),zX]
  exact U8 h
theorem mO{Q:Option Value→Shared→Prop}(hit:s.heap.get? it=some (fh 0 0 a n))(ho:s.heap.get? a=some (cQ hs x n t1))(p1:t1.place= #[j])(p2:t1.dummies= #[])(p3:t1.mask=7∨t1.mask=8)(p4:t1.led= !w.params.followText "set-order")
 (h: ∀h',UM it s.heap h'→h'.get? it=some (fh (if w.params.followText "set-order" then 0 else j+1) 1 a n)→Q (some x) {s with heap:=h'}):wpAny (model prog w) A (pyNext (.ref it)) Q E s:=by
 have hT:s.TypeIs (.ref it) "set_iterator":=⟨_,hit,rfl⟩
 have hf:=ed (hs:=hs) (x:=x) p1 p2 p3
 unfold pyNext
 refine U7 (UG (Ta (name:=UK "__next__") hT bY
  (T9 bY hT eH ?_ (fg _))))
 unfold Builtin.«set_iterator.__next__»
 refine U7 (UZ (a:=(Value.ref it,[])) (by rfl) ?_)
 refine U7 (wpAny_fieldsOf hit rfl ?_)
 show wpAny _ _ (setEntries a>>=_) _ _ s
 refine U7 (wpAny_setEntries_of ho rfl hf ?_)
 rw[if_neg (by simp)]
 dsimp only
 refine U7 (ly ho p1 p2 p3 p4 ?_)
 dsimp only
 refine U7 (wpAny_setField hit rfl (by simp) ?_)
 refine U7 (wpAny_setField (Tm _ hit rfl) rfl (by simp) ?_)
 refine U8 ⟨_,rfl,U8 (h _ ?_ ?_)⟩
 · exact(TA ..).trans (TA ..)
 · rw[Tm _ (Tm _ hit rfl) rfl]
   split<;>rfl
theorem iI{Q:Option Value→Shared→Prop}(hh:A.handled=none)(hit:s.heap.get? it=some (fh (if w.params.followText "set-order" then 0 else j+1) 1 a n))(ho:s.heap.get? a=some (cQ hs x n t1))(p1:t1.place= #[j])(p2:t1.dummies= #[])(p3:t1.mask=7∨t1.mask=8)(p4:t1.led= !w.params.followText "set-order")
 (h: ∀h',Heap.ExtBut it s.heap h'→Q none {s with heap:=h'}):wpAny (model prog w) A (pyNext (.ref it)) Q E s:=by
 have hT:s.TypeIs (.ref it) "set_iterator":=⟨_,hit,rfl⟩
 have hf:=ed (hs:=hs) (x:=x) p1 p2 p3
 unfold pyNext
 refine U7 (UG (Ta (name:=UK "__next__") hT bY
  (T9 bY hT eH ?_ (fg _))))
 unfold Builtin.«set_iterator.__next__»
 refine U7 (UZ (a:=(Value.ref it,[])) (by rfl) ?_)
 refine U7 (wpAny_fieldsOf hit rfl ?_)
 show wpAny _ _ (setEntries a>>=_) _ _ s
 refine U7 (wpAny_setEntries_of ho rfl hf ?_)
 rw[if_neg (by simp)]
 dsimp only
 have hn:(if w.params.followText "set-order"=true then(0:Int)else(j:Int)+1).toNat=(if w.params.followText "set-order"=true then 0 else j+1):=by split<;>omega
 rw[hn]
 refine U7 (lz ho p1 p2 p3 p4 ?_)
 dsimp only
 refine U7 (wpAny_setField hit rfl (by simp) ?_)
 show wpAny _ _ (newExc (.type "StopIteration") []>>=_) _ _ _
 refine U7 ?_
 simp only[newExc,newTuple]
 refine U7 (TP ?_ (by size_fits))
 refine U7 (m:=Ut _ _) (UZ (a:=Value.none) (by first|rfl|(simp only[Ut];rfl)) ?_)
 refine TP ?_ (by size_fits)
 simp only[raiseNew]
 refine U7 (wpAny_handled ?_)
 rw[show A.in1.handled=none from hh]
 refine U7 (U8 (wpAny_throw ?_))
 refine U7 (T8 (T:="StopIteration") (b:=true) ⟨_,Tz _ rfl,rfl⟩ isSubtype_stop ?_)
 exact U8 (h _ (((TA ..).extBut.push _).push _))
theorem lA{Q:List Value→Shared→Prop}(hh:A.handled=none)(ho:s.heap.get? a=some (cQ hs x n t1))(p1:t1.place= #[j])(p2:t1.dummies= #[])(p3:t1.mask=7∨t1.mask=8)(p4:t1.led= !w.params.followText "set-order")
 (h: ∀h',(∀b o,s.heap.get? b=some o→h'.get? b=some o)→s.heap.objs.size≤h'.objs.size→Q [x] {s with heap:=h'}):wpAny (model prog w) A (collect (.ref a)) Q E s:=by
 have hla:a<s.heap.objs.size:=UN ho
 unfold collect
 refine U7 (wpAny_runValue (Um PySem.F.entry_proto_collect ?_))
 rw[Tx PySem.F.plain_proto_collect _]
 show wpAny _ A.in1 (newList []>>=λl=>again (.builtin "list.__iadd__" ⟨[l,.ref a],[]⟩)) _ _ s
 refine U7 (TP ?_)
 refine U8 ⟨plainId_quiet PySem.F.plain_list_iadd _,Um PySem.F.entry_list_iadd ?_⟩
 rw[Tx PySem.F.plain_list_iadd _]
 show wpAny _ A.in1 (Builtin.List.listExtendWith (.ref s.heap.objs.size) (.ref a) (.ref s.heap.objs.size)) _ _ _
 have hT:({s with heap:=s.heap.push {cls:= .type "list",data:= .seq ([]:List Value).toArray}}:Shared).TypeIs (.ref a) "set":=⟨_,Tf _ ho,rfl⟩
 unfold Builtin.List.listExtendWith
 refine U7 (UU hT ?_)
 have hne:Builtin.List.listSameRef (.ref s.heap.objs.size) (.ref a)=false:=beq_eq_false_iff_ne.mpr (UR hla)
 rw[if_neg (by rw[hne];decide)]
 refine U7 (mN (s:={s with heap:=s.heap.push {cls:= .type "list",data:= .seq ([]:List Value).toArray}}) (Tf _ ho) p1 p2 p3 ?_)
 have hT2:({s with heap:=(s.heap.push {cls:= .type "list",data:= .seq ([]:List Value).toArray}).push (fh 0 0 a n)}:Shared).TypeIs (.ref a) "set":=⟨_,Tf _ (Tf _ ho),rfl⟩
 refine U7 (Uy ?_)
 unfold Builtin.List.listLengthHint
 refine U7 (wpAny_specialOf hT2 F.slot_set_len.lookup ?_)
 generalize hid:("set.__len__":String)=id0
 (fail_if_success (clear hid id0))
 wp_delta
 rw[show splitId id0=some ("set","__len__")from by subst hid;decide+kernel]
 subst hid
 refine U7 (T8 (b:=true) hT2 (by rw[Us];kernel_rfl) ?_)
 rw[if_neg (by decide)]
 dsimp only
 rw[if_pos (by decide+kernel)]
 refine U7 (UU hT2 ?_)
 refine U8 ?_
 rw[if_pos (by decide+kernel)]
 refine U7 (Vf ?_)
 refine U7 ?_
 show wpAny _ A.in1 (updateSeq s.heap.objs.size (·.push .none)>>=λZ=>updateSeq s.heap.objs.size (·.pop)) _ _ _
 have hS₁:((s.heap.push {cls:= .type "list",data:= .seq ([]:List Value).toArray}).push (fh 0 0 a n)).get? s.heap.objs.size=some {cls:= .type "list",data:= .seq ([]:List Value).toArray}:=Tf _ (Tz _ rfl)
 refine U7 (Un hS₁ rfl ?_)
 have hS₂:=Tm (Vb (·.push Value.none)) hS₁ rfl
 refine Un hS₂ rfl ?_
 have hS₃:=Tm (Vb (·.pop)) hS₂ rfl
 generalize hH:(((s.heap.push {cls:= .type "list",data:= .seq ([]:List Value).toArray}).push (fh 0 0 a n)).update s.heap.objs.size (Vb (·.push Value.none))).update s.heap.objs.size (Vb (·.pop))=H at hS₃
 have hk: ∀b o,b≠s.heap.objs.size→((s.heap.push {cls:= .type "list",data:= .seq ([]:List Value).toArray}).push (fh 0 0 a n)).get? b=some o→H.get? b=some o:=λb o hb e=>by
  rw[←hH]
  exact(Heap.get?_update_other _ _ (Ne.symm hb)).trans ((Heap.get?_update_other _ _ (Ne.symm hb)).trans e)
 have hsz:(s.heap.push {cls:= .type "list",data:= .seq ([]:List Value).toArray}).objs.size=s.heap.objs.size+1:=Ux ..
 have hit:H.get? (s.heap.objs.size+1)=some (fh 0 0 a n):=hk _ _ (Nat.succ_ne_self _) (by rw[←hsz];exact Tz _ rfl)
 have ho':H.get? a=some (cQ hs x n t1):=hk _ _ (UL hla) (Tf _ (Tf _ ho))
 have hk0: ∀b o,s.heap.get? b=some o→H.get? b=some o:=λb o e=>hk b o (UL (UN e)) (Tf _ (Tf _ e))
 rw[hsz]
 refine U8 ⟨plainId_quiet S5 _,Um PySem.F.entry_extend_loop ?_⟩
 rw[Tx S5 _]
 show wpAny _ A.in1 (pyNext (.ref (s.heap.objs.size+1))>>=_) _ _ _
 refine U7 (mO (s:={s with heap:=H}) hit ho' p1 p2 p3 p4 λh1 hsb hit1=> ?_)
 show wpAny _ A.in1 (updateSeq s.heap.objs.size (·.push x)>>=_) _ _ _
 have hS4:=(hsb.2 _ (UL (TZ _))).trans hS₃
 refine U7 ?_
 refine Un (s:={s with heap:=h1}) hS4 rfl (U8 ⟨plainId_quiet S5 _,Um PySem.F.entry_extend_loop ?_⟩)
 rw[Tx S5 _]
 show wpAny _ A.in1 (pyNext (.ref (s.heap.objs.size+1))>>=_) _ _ _
 have hu: ∀b o,b≠s.heap.objs.size→h1.get? b=some o→(h1.update s.heap.objs.size (Vb (·.push x))).get? b=some o:=λb o hb e=>(Heap.get?_update_other _ _ (Ne.symm hb)).trans e
 have hS5:=Tm (Vb (·.push x)) hS4 rfl
 refine U7 (iI (s:={s with heap:=h1.update s.heap.objs.size (Vb (·.push x))}) hh (hu _ _ (Nat.succ_ne_self _) hit1) (hu _ _ (UL hla) ((hsb.2 _ (UL (TS hla))).trans ho')) p1 p2 p3 p4 λh2 hx=> ?_)
 show wpAny _ A.in1 (ret (.ref s.heap.objs.size)) _ _ _
 refine U8 ?_
 show wpAny _ A (load s.heap.objs.size>>=_) _ _ _
 refine U7 (wpAny_load (hx _ _ (UL (TZ _)) hS5) ?_)
 refine U8 (h _ (λb o e=> ?_) (UP (UN (hx _ _ (UL (TZ _)) hS5))))
 have hb:=UN e
 exact hx _ _ (UL (TS hb)) (hu _ _ (UL hb) ((hsb.2 b (UL (TS hb))).trans (hk0 b o e)))
end
end
section
variable{prog:Program}{w:World}{A:Around}{E:Value→Shared→Prop}{s:Shared}{h₀:Heap}{L a kS:Addr}{m:Str→Option Value}{news:List (Addr×Obj)}{x k:Value}{e e1:Nat}{P:PySem.Fin→Shared→Prop}
theorem sa(F:Fr h₀ L s.heap m)(N:News h₀ L s.heap (news++[(kS,seqObj "list" #[k] e),(a,seqObj "list" #[] e1)]))(hka:kS≠a)(hnk: ∀p∈news,p.1≠kS)(hna: ∀p∈news,p.1≠a)
 (h: ∀h' tk c,Fr h₀ L h' m→News h₀ L h' ((a,seqObj "list" #[x] c)::news)→P (.done (.ret .none)) {s with heap:=h',toks:=tk}):
 wpAny (model prog w) A (ksk_end a false #[x] e1 (.ref kS) #[k]) P E s:=by
 have nk:=N (kS,seqObj "list" #[k] e) (Tl _ (.head _))
 have na:=N (a,seqObj "list" #[] e1) (Tl _ (.tail _ (.head _)))
 have Nn:News h₀ L s.heap news:=λp hp=>N p (Tu _ hp)
 have s1:=TA s.heap kS (Vb λZ=>(#[]:Array Value))
 have na1:(s.heap.update kS (Vb λZ=>(#[]:Array Value))).get? a=some (seqObj "list" #[] e1):=(s1.2 a hka.symm).trans na.1
 have s2:=TA (s.heap.update kS (Vb λZ=>(#[]:Array Value))) a (Vb λZ=> #[x])
 have hc2:=get?_update_seq na1 λZ=> #[x]
 have N2:=ksk_news (ksk_news Nn s1 hnk) s2 hna
 unfold ksk_end
 dsimp only
 rw[if_neg (by decide),if_pos (show(#[x]:Array Value).size<2 from Tk rfl),if_pos (show(#[x]:Array Value).size<2 from Tk rfl)]
 refine U7 (U8 ?_)
 rw[StateT.run_pure]
 refine U7 (U8 ?_)
 dsimp only
 unfold ksk_tail
 dsimp only
 refine U7 (listUpdate_at nk.1 rfl ?_ (Tk rfl) (U0 _))
 refine U7 (wpAny_letGo ?_)
 refine U7 (seqEpoch_at na1 rfl ?_)
 have hout:(if false=true then(Array.map (λx=>x.snd) (arrOf (SortSt.mk' general' (if false=true then(#[k].zip #[x]:Array (Value×Value)).reverse else #[k].zip #[x]) #[] 7 none))).reverse else Array.map (λx=>x.snd) (arrOf (SortSt.mk' general' (if false=true then(#[k].zip #[x]:Array (Value×Value)).reverse else #[k].zip #[x]) #[] 7 none)))= #[x]:=by
  rw[if_neg (by decide)]
  show Array.map (λx=>x.snd) (#[k].zip #[x])= #[x]
  simp
 rw[hout]
 refine U7 (listUpdate_at na1 rfl ?_ (U0 _) (Tk rfl))
 simp only[bne_self_eq_false,Bool.false_eq_true,if_false]
 have N3:News h₀ L ((s.heap.update kS (Vb λZ=>(#[]:Array Value))).update a (Vb λZ=> #[x])) ((a,seqObj "list" #[x] _)::news):=λp hp=>by
  rcases Uz.mp hp with rfl|hp
  · exact⟨hc2,na.2⟩
  · exact N2 p hp
 exact U8 (h _ s.toks _ (ksk_fr (ksk_fr F s1 nk.2.1 nk.2.2) s2 na.2.1 na.2.2) N3)
theorem uZ{f:Value}{n:Nat}(F:Fr h₀ L s.heap m)(N:News h₀ L s.heap news)(ho:s.heap.get? a=some (seqObj "list" #[x] n))(haL:a≠L)(ha0:h₀.get? a=none)(hna: ∀p∈news,p.1≠a)
 (kC: ∀(h:Heap) (own:List (Addr×Obj)) (Q:Value→Shared→Prop) (E:Value→Shared→Prop),Fr h₀ L h m→News h₀ L h (news++own)→(∀k h' tk,Fr h₀ L h' m→News h₀ L h' (news++own)→Q k {s with heap:=h',toks:=tk})→wpAny (model prog w) A (call f [x]) Q E {s with heap:=h})
 (h: ∀h' tk c,Fr h₀ L h' m→News h₀ L h' ((a,seqObj "list" #[x] c)::news)→P (.done (.ret .none)) {s with heap:=h',toks:=tk}):
 wpAny (model prog w) A (ksk_tree a f false) P E s:=by
 have ha:a<s.heap.objs.size:=UN ho
 have s1:=TA s.heap a (Vb λZ=>(#[]:Array Value))
 obtain⟨e1,ho1⟩: ∃e1,(s.heap.update a (Vb λZ=>(#[]:Array Value))).get? a=some (seqObj "list" #[] e1):=⟨_,get?_update_seq ho λZ=> #[]⟩
 have F1:=ksk_fr F s1 haL ha0
 have N1:=ksk_news N s1 hna
 have hkS:((s.heap.update a (Vb λZ=>(#[]:Array Value))).push (seqObj "tuple" #[x] 0)).objs.size=s.heap.objs.size+1:=by rw[size_push',Heap.size_update]
 have hLk:L<((s.heap.update a (Vb λZ=>(#[]:Array Value))).push (seqObj "tuple" #[x] 0)).objs.size:=(F1.push _).ns.lt
 unfold ksk_tree
 refine U7 (listItems_at ho rfl ?_)
 refine U7 (listUpdate_at ho rfl ?_ (Tk rfl) (U0 _))
 refine U7 (seqEpoch_at ho1 rfl ?_)
 refine U7 (wpAny_newTuple ?_ (Tk rfl))
 refine U7 (wpAny_newList ?_ (U0 _))
 refine Uy ?_
 have hka:((s.heap.update a (Vb λZ=>(#[]:Array Value))).push (seqObj "tuple" #[x] 0)).objs.size≠a:=by rw[hkS];exact UR (TS ha)
 have hnk: ∀p∈news,p.1≠((s.heap.update a (Vb λZ=>(#[]:Array Value))).push (seqObj "tuple" #[x] 0)).objs.size:=λp hp=>by rw[hkS];exact UL (TS (UN (N p hp).1))
 have N2:News h₀ L (((s.heap.update a (Vb λZ=>(#[]:Array Value))).push (seqObj "tuple" #[x] 0)).push (seqObj "list" #[] 0)) (news++[(((s.heap.update a (Vb λZ=>(#[]:Array Value))).push (seqObj "tuple" #[x] 0)).objs.size,seqObj "list" #[] 0),(a,seqObj "list" #[] e1)]):=λp hp=>by
  rcases Ue.mp hp with hp|hp
  · exact⟨Tf _ (Tf _ (N1 p hp).1),(N1 p hp).2⟩
  · rcases Uz.mp hp with rfl|hp
    · exact⟨Tz _ rfl,UR hLk,Ty (UJ F.above (UP hLk))⟩
    · rw[TF.mp hp]
      exact⟨Tf _ (Tf _ ho1),haL,ha0⟩
 generalize ((s.heap.update a (Vb λZ=>(#[]:Array Value))).push (seqObj "tuple" #[x] 0)).objs.size=kS at*
 have F2:=(F1.push (seqObj "tuple" #[x] 0)).push (seqObj "list" #[] 0)
 generalize ((s.heap.update a (Vb λZ=>(#[]:Array Value))).push (seqObj "tuple" #[x] 0)).push (seqObj "list" #[] 0)=H at N2 F2⊢
 unfold ksk_rest
 refine U7 (Vf ?_)
 rw[show(#[x]:Array Value)=[x].toArray from rfl,List.forIn_toArray,Uj]
 refine U7 (U7 (U7 (UG (kC H _ _ _ F2 N2 λk h1 tk F3 N3=> ?_))))
 dsimp only
 have nk:=N3 (kS,seqObj "list" #[] 0) (Tl _ (.head _))
 have na:=N3 (a,seqObj "list" #[] e1) (Tl _ (.tail _ (.head _)))
 have s3:=TA h1 kS (Vb (·.push k))
 have hc2:=get?_update_seq nk.1 (·.push k)
 refine U7 (listUpdate_at nk.1 rfl ?_ (U0 _) (Tk rfl))
 refine U8 ?_
 dsimp only
 rw[List.forIn_nil]
 refine U8 ?_
 refine U7 (listItems_at hc2 rfl ?_)
 refine sa (e:=1) (ksk_fr F3 s3 nk.2.1 nk.2.2) (λp hp=> ?_) hka hnk hna λh2 tk2 c F4 N4=>h h2 tk2 c F4 N4
 rcases Ue.mp hp with hp|hp
 · exact ksk_news (λq hq=>N3 q (Tu _ hq)) s3 hnk p hp
 · rcases Uz.mp hp with rfl|hp
   · exact⟨hc2,nk.2⟩
   · rw[TF.mp hp]
     exact⟨(s3.2 a hka.symm).trans na.1,na.2⟩
theorem pB{c:Addr}{hs:Int}{n j:Nat}{t1:SetTable}{f:Addr}{Q:Value→Shared→Prop}(F:Fr h₀ L s.heap m)(N:News h₀ L s.heap news)(hh:A.handled=none)(ho:s.heap.get? c=some (cQ hs x n t1))(p1:t1.place= #[j])(p2:t1.dummies= #[])(p3:t1.mask=7∨t1.mask=8)(p4:t1.led= !w.params.followText "set-order")
 (kC: ∀(h:Heap) (own:List (Addr×Obj)) (Q:Value→Shared→Prop) (E:Value→Shared→Prop),Fr h₀ L h m→News h₀ L h (news++own)→(∀k h' tk,Fr h₀ L h' m→News h₀ L h' (news++own)→Q k {s with heap:=h',toks:=tk})→wpAny (model prog w) A.in1.in1 (call (.ref f) [x]) Q E {s with heap:=h})
 (h: ∀D h' tk e,Fr h₀ L h' m→News h₀ L h' ((D,seqObj "list" #[x] e)::news)→s.heap.objs.size≤D→Q (.ref D) {s with heap:=h',toks:=tk}):
 wpAny (model prog w) A (call (.builtin "sorted") [.ref c] [(UK "key",.ref f)]) Q E s:=by
 refine call_function_entry_kw kind_sorted plain_sorted entry_sorted (ksk_s1 _ _) ?_
 unfold Builtin.«sorted»
 refine U7 (m:=checkCount "sorted" 1 1 _) (U8 ?_)
 refine U7 (lA (A:=A.in1) hh ho p1 p2 p3 p4 λh1 k1 hsz=> ?_)
 refine U7 (wpAny_newList ?_ (Tk rfl))
 have F1:=(F.kept k1).push (seqObj "list" #[x] 0)
 have N1:News h₀ L (h1.push (seqObj "list" #[x] 0)) news:=λp hp=>⟨Tf _ (k1 _ _ (N p hp).1),(N p hp).2⟩
 have hL:L<h1.objs.size:=(F.kept k1).ns.lt
 refine U7 (Uy (wpAny_call_entry_kw slot_list_sort ⟨_,Tz _ rfl,rfl⟩ entry_list_sort ?body (ksk_l1 _ _)))
 case body=>
  show wpAny (model prog w) A.in1.in1 (Builtin.«list.sort» ⟨[.ref h1.objs.size],[(UK "key",.ref f)]⟩) _ _ _
  rw[ksk_t1]
  refine uZ (s:={s with heap:=h1.push (seqObj "list" #[x] 0)}) F1 N1 (Tz _ rfl) (UR hL) (Ty (UJ F.above (UP hL))) (λp hp=>UL (UN (k1 _ _ (N p hp).1))) kC λh' tk e F' N'=>⟨_,rfl,?_⟩
  exact U8 ⟨_,rfl,h _ h' tk e F' N' hsz⟩
end
section
variable{Γ:Gl}{c:St0}{d:Dy}{f:Frm}{lo:Lo}{h:H}{n:Nat}
def mP(g:G):Str:=mkS g.lamQ++"<lambda>"
def lamR(g:G)(a:Addr)(b t:Obj):Prop:=t=tabObj #[rawInt g.lamL,rawInt g.lamC,.ref a]∧ ∃vs tk,b.data= .fields vs∧vs[1]? =some (.str (mP g) tk)
structure LamOk(Γ:Gl):Prop where
 kc:kdsCode Γ.K (.ref Γ.g.lamCd)=true
 hd:codeHdIn Γ.K Γ.g.lamCd Γ.tabA=true
 lam:Γ.lam=lamR Γ.g
theorem sb(LO:LamOk Γ)(R:Rel Γ c d f lo h)(h0:h[0]? =some .ltab)(hcd:f.cd=Γ.g.lamCd){params:Vj}{body:PySem.Expr}{scope:Scope}{pos:Pos}{fl:Nat}(hcl:closureFor scope c.env=pure [])(hl:pos.line=Γ.g.lamL)(hc:pos.col=Γ.g.lamC)
 {Q:Value→Shared→Prop}{E:Value→Shared→Prop}
 (hQ: ∀ξ' c' ctv pm h' tk,Rel Γ c ⟨d.ρ,ξ',d.m,{d.s with heap:=h',toks:=tk}⟩ f lo h→(∃oc vs t,(c',oc)∈ξ'∧oc.data= .fields vs∧vs[1]? =some (.str (mP Γ.g) t))→d.s.heap.objs.size≤h'.objs.size→
  Q (.ref h'.objs.size) {d.s with heap:=h'.push (kla_obj "<lambda>" (mP Γ.g) params body scope [] pm c' ctv),toks:=tk}):
 wpAny Γ.M c.A (makeFunction "<lambda>" (c.env.qual++"<lambda>") params (.expr body) scope c.env [] [] [] pos fl) Q E d.s:=by
 have hq:c.env.qual++"<lambda>"=mP Γ.g:=by rw[R.nm.ql hcd];rfl
 rw[hq]
 have hK:=R.gb.K.keeps R.fr.keep
 have C:=codeHd_of_K hK LO.hd
 have hcode:c.env.code= .ref Γ.g.lamCd:=by rw[R.nm.cd,hcd]
 refine el_EEAAL (R.led.at h0) ?_
 intro P o hP hPo qX
 refine ae qX ?_
 clear qX
 intro hT hor
 have hPt:P=Γ.tabA:=by rw[hP]at hT;exact Ud hT
 have T:=R.gb.T
 have hgs:=T.g.keeps R.fr.keep
 have nP:=R.led.new P (Tq hP)
 refine el_EEAAL T.bmain ?_
 intro bm ob b1 b2 qX
 refine aD qX ?_
 clear qX
 intro b3 b4 b5 b6
 have hgP:U1≠P:=λq=>by
  refine el_EEEAL T.g ?_
  intro o es ep e _
  rw[q,nP.1]at e;cases e
 have hbP:bm≠P:=λq=>by rw[q,nP.1]at b3;cases b3
 have hbG:bm≠U1:=λq=>by
  refine el_EEEAAL T.g ?_
  intro o es ep e hd _
  rw[q,e]at b3;cases b3;rw[hd]at b6;cases b6
 rw[←hPt]at C
 have low:d.s.heap.objs.size≠0:=UR (TI (U0 _) (R.gb.low R.fr))
 rcases hor with rfl|qA
 · refine kla_makeFunction (mg:=Γ.mg) hcl R.nm.glob hgs hcode C hPo (by trivial) rfl hgP ⟨bm,ob,b1,b2,hbG,hbP,R.fr.keep _ _ b3,b4,b5,b6⟩ λc' ctv h' tk hx hge hlt hrec htb=> ?_
   refine el_EEEL (id hrec) ?_
   intro c2 oc vs qX
   refine el_EAAL qX ?_
   clear qX
   intro t e2 hoc qX
   refine ae qX ?_
   clear qX
   intro hd hv
   cases e2
   have hLs:c.L<d.s.heap.objs.size:=R.fr.ns.lt
   have hLP:c.L≠P:=Ne.symm nP.2.1
   have hc0:c.h₀.get? c'=none:=Ty (UJ R.fr.above (UP (TH hLs hge)))
   have Rn:Rel Γ c ⟨d.ρ,(c',oc)::d.ξ,d.m,{d.s with heap:=h',toks:=tk}⟩ f lo h:=by
    refine⟨⟨R.fr.ns.extBut hx hLP,λb o e=>hx b o (λq=>by rw[q,nP.1]at e;cases e) (R.fr.keep b o e),R.fr.above⟩,R.gb,R.bl,⟨R.led.len,R.led.nd,λk a o' ha ho'=> ?_,R.led.new,λp hp=> ?_⟩,⟨R.nm.kind,R.nm.glob,R.nm.blt,R.nm.dbg,R.nm.lv,R.nm.inj,R.nm.lov,R.nm.cv,R.nm.gv,R.nm.kv,R.nm.cd,R.nm.ql⟩,R.os,R.gens,λp hp=> .tail _ (R.kp p hp),R.gk⟩
    · by_cases q:a=P
      · subst q
        have hk0:k=0:=mr R.led.nd (by rw[S3]at ha;exact ha) (by rw[S3]at hP;exact hP)
        subst hk0
        rw[h0]at ho'
        obtain rfl:=Ud ho'
        refine⟨_,htb,hT,.inr ⟨(c',oc),.head _,?_⟩⟩
        show Γ.lam c' oc _
        rw[LO.lam]
        refine⟨?_,vs,t,hd,hv⟩
        rw[hl,hc]
        rfl
      · refine el_EAL (R.led.obj k a o' ha ho') ?_
        intro b hb r
        exact⟨b,hx _ _ q hb,r.frz λp hp=> .tail _ hp⟩
    · rcases Uz.mp hp with rfl|hp
      · exact⟨hoc,hc0,UR (TH hLs hge),λq=>Nat.lt_irrefl _ (TH (R.led.lt q) hge)⟩
      · have z:=R.led.frz p hp
        exact⟨hx _ _ (λq=>z.2.2.2 (q▸Tq hP)) z.1,z.2⟩
   exact hQ _ c' ctv _ h' tk Rn ⟨oc,vs,t,.head _,hd,hv⟩ (UJ hge (UP hlt))
 · refine el_EAL qA ?_
   clear qA
   intro p hp hlam
   have hlam':lamR Γ.g p.1 p.2 o:=by
    have:=hlam
    rw[show Γ.D.lam=lamR Γ.g from LO.lam]at this
    exact this
   refine el_AEL hlam' ?_
   clear hlam'
   intro qX1 vs qX
   refine el_EAL qX ?_
   clear qX
   intro t hd hv
   subst qX1
   have z:=R.led.frz p hp
   refine kla_makeFunctionHit (mg:=Γ.mg) (cv:= .ref p.1) hcl R.nm.glob hgs hcode C hPo (by trivial) ?_ ⟨bm,ob,b1,b2,hbG,hbP,R.fr.keep _ _ b3,b4,b5,b6⟩ λctv h' tk hk hsz=> ?_
   · show(if(_==_&&_==_)=true then _ else _)=_
     rw[hl,hc]
     simp
   · exact hQ d.ξ p.1 ctv _ h' tk (R.junk hk) ⟨p.2,vs,t,hp,hd,hv⟩ hsz
end
section
variable{Γ:Gl}{c:St0}{d:Dy}{f:Frm}{lo:Lo}{h:H}{n:Nat}
section
variable{prog:Program}{w:World}{A:Around}{E:Value→Shared→Prop}{s:Shared}{h₀:Heap}{L fa:Addr}{m:Str→Option Value}{news:List (Addr×Obj)}{Q:Value→Shared→Prop}
theorem se{z cs mm q:Str}{k1 k2:Nat}{pn po pc1 pc2 pb:Pos}{cd:Value}{x:T}{t:Tok}(F:Fr h₀ L s.heap m)(N:News h₀ L s.heap news)(hm:m z=some (.str (mkS x) t))(hz:(z==("__debug__":Str))=false)(hmm:mm=UK "split")(hl:(po.endLine==pb.line)=true)(hcs:(cs.length==0)=false)(hx:x.length≤4000)
 (h: ∀k h' tk,Fr h₀ L h' m→News h₀ L h' news→Q k {s with heap:=h',toks:=tk}):
 wpAny (model prog w) A (eval (.Call (.Attribute (.Name z pn) mm po) [.Constant (.str cs) k1 pc1,.Constant (.int 1) k2 pc2] [] pb) (envX q ⟨.function,[(z,.local)],false,false,[]⟩ L fa cd [])) Q E s:=by
 refine cg (o:= .nm z pn) (args:= .cons (.cst (.str cs) k1 pc1) (.cons (.cst (.int 1) k2 pc2) .nil)) (λy z=>ff (congrArg ma z)) rfl hl rfl rfl ?_
 refine wpAny_Name (Tv rfl (by show[(z,NameKind.local)].lookup z=_;simp[List.lookup]) F.ns hm ?_) hz
 intro pl
 rw[hmm]
 refine GM.split ?_
 refine U4 (P:=λZ=>True) rfl (λZ Z=>⟨.machine,.inr (.inl rfl),UF rfl⟩) ?_
 refine Uu ?_
 refine T0 (Constant_str ?_) rfl
 refine T0 (TK ?_) rfl
 refine Ui ?_
 refine⟨trivial,?_⟩
 exact splitN2A (s:={s with toks:=s.toks+1+1}) F N hcs rfl (λl h' tk Z Z Z Z F' N'=>h _ h' tk F' λp hp=>N' p (.tail _ hp)) (by rw[am,ak];omega)
end
theorem sf{q z:Str}{pz:Pos}{body:PySem.Expr}{sc:Scope}{pm ctv cv x:Value}:bindArgs (kla_fn (UK "<lambda>") q ⟨[],[⟨z,none,pz⟩],none,[],[],none,[]⟩ body sc [] pm cv ctv) ⟨[x],[]⟩=pure [(z,x)]:=by
 unfold bindArgs
 have e:([(z,x)]:List (Str×Value)).lookup z=some x:=by simp[List.lookup]
 simp[seqItems?,e]
 rfl
theorem sg(G:GB Γ c.h₀)(B:Below c.A₀ c.base c.outer c.h₀){A:Around}(hA:A.frames=some (c.fenv::c.outer))(hf:c.fenv.frame=some c.L)(hk:c.fenv.scope.kind= .function)(hdp:A.depth<1000){s:Shared}{m:Str→Option Value}{news:List (Addr×Obj)}
 (F:Fr c.h₀ c.L s.heap m)(N:News c.h₀ c.L s.heap news){fa c':Addr}{oc:Obj}{vs:Array Value}{tk0:Tok}{q:Str}{pm ctv:Value}{z cs mm:Str}{k1 k2:Nat}{pz pn po pc1 pc2 pb:Pos}{x:T}{t:Tok}
 (hfo:(fa,kla_obj "<lambda>" q ⟨[],[⟨z,none,pz⟩],none,[],[],none,[]⟩ (.Call (.Attribute (.Name z pn) mm po) [.Constant (.str cs) k1 pc1,.Constant (.int 1) k2 pc2] [] pb) ⟨.function,[(z,.local)],false,false,[]⟩ [] pm c' ctv)∈news)(hco:(c',oc)∈news)(hd:oc.data= .fields vs)(hv:vs[1]? =some (.str q tk0))
 (hz:(z==("__debug__":Str))=false)(hmm:mm=UK "split")(hl:(po.endLine==pb.line)=true)(hcs:(cs.length==0)=false)(hx:x.length≤4000)
 {Q:Value→Shared→Prop}{E:Value→Shared→Prop}(h: ∀k h' tk,Fr c.h₀ c.L h' m→News c.h₀ c.L h' news→Q k {s with heap:=h',toks:=tk}):
 wpAny Γ.M A (call (.ref fa) [.str (mkS x) t]) Q E s:=by
 refine Vi ?_
 have hrec:s.heap.CodeRec (.ref c') q:=⟨c',oc,vs,tk0,rfl,(N _ hco).1,hd,hv⟩
 refine kla_code (binds:=[(z,.str (mkS x) t)]) B F G.K N G.T hA hf hk hfo hrec hdp sf (λy hy=> ?_) (λg L' h₁ Fg F1 N1 B1 K1 T1=> ?_) rfl rfl rfl (λy hy=> ?_)
 · rw[TF.mp hy]
   show[(z,NameKind.local)].lookup z=_
   simp[List.lookup]
 · refine se (x:=x) (t:=t) (s:={s with heap:=h₁,toks:=_}) F1 N1 (by show[(z,Value.str (mkS x) t)].lookup z=_;simp[List.lookup]) hz hmm hl hcs hx λk h' tk F2 N2=> ?_
   exact leaveK_ F2 N2 λF3 N3=>h k h' tk F3 N3
 · rw[TF.mp hy]
   exact λe=>nomatch e
theorem si:mkS xW=UK "key":=by decide+kernel
theorem mQ{x y key z cs mm:Str}{po pb lp:Pos}{v:V}{h':H}{g:G}(hv:sortE g f lo h x y key z cs mm po pb lp=some (v,h')):
 lp.line=g.lamL∧lp.col=g.lamC∧key=UK "key"∧mm=UK "split"∧(z==("__debug__":Str))=false∧(po.endLine==pb.line)=true∧f.cd=g.lamCd∧(cs.length==0)=false∧
  h[0]? =some .ltab∧bq f lo h (sT x)=some (.prim 1)∧ ∃k s,bq f lo h (sT y)=some (.loc k)∧h[k]? =some (.one s)∧s.length≤4000∧v= .loc h.length∧h'=h++[.list [.str s]]:=by
 refine aW hv ?_
 clear hv
 intro g1 g2 hvX
 refine aW hvX ?_
 clear hvX
 intro g3 g4 hvX
 refine aW hvX ?_
 clear hvX
 intro g5 g6 hvX
 refine aW hvX ?_
 clear hvX
 intro g7 g8 hvX
 refine bB hvX ?_
 clear hvX
 intro g9 o0 e1 hvX
 refine bB hvX ?_
 clear hvX
 intro g10 u e2 hvX
 refine bB hvX ?_
 clear hvX
 intro g11 w e3 hvX
 refine aB hvX ?_
 clear hvX
 intro k e4 o e5 s e6 hvX
 refine bf hvX ?_
 clear hvX
 intro g12 z1
 rw[eM]at z1
 rw[ap]at e1 e5
 have q:=Prod.mk.inj (Ud z1)
 have h0:o0= .ltab:=by cases o0<;>first|rfl|cases g10
 have h1:u= .prim 1:=by
  cases u<;>first|cases g11|exact congrArg V.prim (Tj g11).symm
 have h2:o= .one s:=by cases o<;>cases e6;rfl
 subst h0 h1 h2
 refine⟨by cases lp;exact Tj g1,?_,?_,?_,(nT g5).1,?_,Tj g7,?_,e1,e2,k,s,aj e4▸e3,e5,aM g12,q.1.symm,q.2.symm⟩
 · cases lp;exact Tj g2
 · rw[←si,←au.mp g3];rfl
 · rw[←gY,←au.mp g4];rfl
 · have:=Tj g6
   cases pb
   exact beq_iff_eq.mpr this
 · rw[bg]at g8
   cases q:sT cs with
   |nil=>rw[q]at g8;cases g8
   |cons a r=>
    have:cs.length=(sT cs).length:=by show cs.cps.size=cs.cps.toList.length;simp
    rw[this,q];rfl
variable{Γ:Gl}{c:St0}{d:Dy}{f:Frm}{lo:Lo}{h:H}{n:Nat}
theorem zY(G:GOk Γ)(LO:LamOk Γ){x y key z cs mm:Str}{k1 k2:Nat}{px py pz pn po pc1 pc2 pb lp kp p:Pos}{v:V}{h':H}{Q:Value→Shared→Prop}{E:Value→Shared→Prop}(A:AOk c (n+1))(R:Rel Γ c d f lo h)(hv:sortE Γ.g f lo h x y key z cs mm po pb lp=some (v,h'))(hQ:PostE Γ c d f lo h' v Q):
 wpAny Γ.M c.A (eval (dE (.sort x px y py key z cs mm k1 k2 pz pn po pc1 pc2 pb lp kp p)) c.env) Q E d.s:=by
 refine aD (mQ hv) ?_
 intro g1 g2 qX1 qX
 refine aD qX ?_
 clear qX
 intro g4 g5 g6 qX
 refine aD qX ?_
 clear qX
 intro g7 g8 h0 qX
 refine el_AEL qX ?_
 clear qX
 intro e1 k qX
 refine el_EAAL qX ?_
 clear qX
 intro s e2 e3 qX
 refine bi qX ?_
 clear qX
 intro g9 qX2 qX3
 subst qX1
 subst qX2
 subst qX3
 clear hv
 show wpAny Γ.M c.A (do callWith p (←eval (.Name x px) c.env) [] (backTo p (Vu [.Name y py] c.env)) (backToKw p (keywordEach [⟨some (UK "key"),.Lambda ⟨[],[⟨z,none,pz⟩],none,[],[],none,[]⟩ (.Call (.Attribute (.Name z pn) mm po) [.Constant (.str cs) k1 pc1,.Constant (.int 1) k2 pc2] [] pb) ⟨.function,[(z,.local)],false,false,[]⟩ lp,kp⟩] c.env))) Q E d.s
 refine U7 (eN G R e1 λw hw=> ?_)
 cases(hw:w=cF 1)
 refine U4 (P:=λZ=>True) rfl (λZ Z=>⟨.machine,.inr (.inl rfl),UF rfl⟩) ?_
 refine evalArgs_kw2 rfl ?_
 refine T0 (eN G R e2 λw hw=> ?_) rfl
 refine el_EAL hw ?_
 clear hw
 rintro a ha rfl
 refine Ui ?_
 refine kwAll_cons (kla_eval rfl ?_)
 refine sb LO R h0 g7 rfl g1 g2 λξ' c' ctv pm h1 tk R1 hc hsz=> ?_
 refine kwAll_nil ⟨trivial,?_⟩
 refine el_EEEAAL hc ?_
 clear hc
 intro oc vs tk0 hco hd hv
 refine el_EEAAL (R1.led.at e3) ?_
 intro a' ob q1 q2 q3
 rw[show(Dy.mk d.ρ ξ' d.m {d.s with heap:=h1,toks:=tk}).ρ=d.ρ from rfl,ha]at q1
 obtain rfl:=Ud q1
 refine el_EEEAAAL q3 ?_
 clear q3
 intro tk1 n1 t1 qX5 qX6 p2 qX
 refine ae qX ?_
 clear qX
 intro p3 p4
 subst qX5
 obtain⟨j,p1⟩:=qX6
 have N1:=R1.led.news
 have F1:=R1.fr
 have hL1:c.L<h1.objs.size:=F1.ns.lt
 have hfresh:c.h₀.get? h1.objs.size=none:=Ty (UJ F1.above (UP hL1))
 have low:=R1.gb.low R1.fr
 have hfn:(h1.push (kla_obj "<lambda>" (mP Γ.g) ⟨[],[⟨z,none,pz⟩],none,[],[],none,[]⟩ (.Call (.Attribute (.Name z pn) mm po) [.Constant (.str cs) k1 pc1,.Constant (.int 1) k2 pc2] [] pb) ⟨.function,[(z,.local)],false,false,[]⟩ [] pm c' ctv)).get? h1.objs.size=some _:=Tz _ rfl
 have N2:News c.h₀ c.L (h1.push (kla_obj "<lambda>" (mP Γ.g) ⟨[],[⟨z,none,pz⟩],none,[],[],none,[]⟩ (.Call (.Attribute (.Name z pn) mm po) [.Constant (.str cs) k1 pc1,.Constant (.int 1) k2 pc2] [] pb) ⟨.function,[(z,.local)],false,false,[]⟩ [] pm c' ctv)) ((h1.objs.size,kla_obj "<lambda>" (mP Γ.g) ⟨[],[⟨z,none,pz⟩],none,[],[],none,[]⟩ (.Call (.Attribute (.Name z pn) mm po) [.Constant (.str cs) k1 pc1,.Constant (.int 1) k2 pc2] [] pb) ⟨.function,[(z,.local)],false,false,[]⟩ [] pm c' ctv)::nw h1 d.ρ ξ'):=λp hp=>by
  rcases Uz.mp hp with rfl|hp
  · exact⟨hfn,UR hL1,hfresh⟩
  · exact⟨Tf _ (N1 p hp).1,(N1 p hp).2⟩
 refine pB (F1.push _) N2 A.hd (Tf _ q2) p1 p2 p3 p4 (λhp own Q E F N h=> ?_) λD hp tk2 e F N hge=> ?_
 · exact sg (A:=c.A.in1.in1) (s:={d.s with heap:=hp,toks:=tk}) R1.gb R1.bl A.fr A.ff A.fk (dp1 A.dp) F N (.head _) (.tail _ (Tu _ (Tl _ hco))) hd hv g5 g4 g6 g8 g9 h
 · have Y:=R1.led.of_news1 F1 low (a:=D) (o:= .list [.str s]) (b:=seqObj "list" #[.str (mkS s) tk1] e) (UJ (UP (by rw[size_push'];exact TZ _)) hge) (hp':=hp) (λp hp=>N p (by
    rcases Uz.mp hp with rfl|hp
    · exact .head _
    · exact .tail _ (.tail _ hp))) ⟨[.str (mkS s) tk1],e,rfl,.cons ⟨tk1,rfl⟩ .nil⟩
   exact hQ (d.ρ++[D]) ξ' _ _ (.push _ _) ⟨F,R1.gb,R1.bl,Y,R1.nm.ext (.push _ _),R1.os,R1.gens,R1.kp,R1.gk⟩ (bu R1 D)
end
section
variable{M:Model}{A:Around}{R:GenEnd}{Y:Protocol}{n:Nat}{s₀:Shared}{c:Code}{fs:List Frame}{s:Shared}
theorem bA{α β:Type}{m:Sem α}{K:α→Sem β}{K':β→Sem Fin}{H:Value→Sem Fin}{gd lv}(h:wpAny M (A.over c fs) m (λa s'=>Seg M A R Y n s₀ c ((K a).wrap K' H gd lv) fs s') (λZ Z=>False) s):Seg M A R Y n s₀ c ((m>>=K).wrap K' H gd lv) fs s:=by
 rw[TU,Sem.wrap_wrap]
 exact seg_wrap (Vc h (λZ Z x=>x) λZ Z x=>x.elim)
theorem dh{α:Type}{m:Sem α}{K:α→Sem Fin}(h:wpAny M (A.over c fs) m (λa s'=>Seg M A R Y n s₀ c (K a) fs s') (λZ Z=>False) s):Seg M A R Y n s₀ c (m>>=K) fs s:=
 seg_bind (Vc h (λZ Z x=>x) λZ Z x=>x.elim)
end
section
variable{prog:Program}{w:World}{A:Around}{R:GenEnd}{Y:Protocol}{n:Nat}{s₀:Shared}{fs:List Frame}{s:Shared}{env:Env}
abbrev yr(env:Env):Value→Sem Fin:=λe=>(do noteFrame e env;theTreesLotGoes e:Sem Unit).wrap (λZ=> .raise e) .raise id id
theorem ee{target:Expr}{it:Value}{body orelse:List Stmt}
 (h:wpAny (model prog w) (A.over (.forLoop target it body orelse env) fs) (pyNext it) (λr s'=>match r with
  |none=>Seg (model prog w) A R Y n s₀ (.block orelse env) ((model prog w).den (.block orelse env)) fs s'
  |some v=>wpAny (model prog w) (A.over (.forLoop target it body orelse env) fs) (letOwnedTupleGo target it v) (λZ s1=>wpAny (model prog w) (A.over (.forLoop target it body orelse env) fs) (assign target env v)
   (λZ s2=>Seg (model prog w) A R Y n s₀ (.forLoop target it body orelse env) ((execs body env).wrap (λf=>match f with
    | .next| .cont=> .pure (.again (.forLoop target it body orelse env))
    | .brk=> .pure (.done .next)
    | .ret v=> .pure (.done (.ret v))) (yr env) id id) fs s2) (λZ Z=>False) s1) (λZ Z=>False) s') (λZ Z=>False) s):
 Seg (model prog w) A R Y n s₀ (.forLoop target it body orelse env) ((model prog w).den (.forLoop target it body orelse env)) fs s:=by
 show Seg _ A R Y n s₀ _ ((forTurn target it body orelse env).onRaise (λx=>do noteFrame x env;theTreesLotGoes x)) fs s
 unfold forTurn
 rw[Sem.onRaise_eq_wrap]
 refine bA (UA ?_)
 refine bA (wpAny_onRaise (Vc h (λr s' h=> ?_) λZ Z x=>x.elim))
 cases r with
 |none=>exact seg_again rfl h
 |some v=>
  refine bA (Vc h (λZ s1 h1=> ?_) λZ Z x=>x)
  refine bA (Vc h1 (λZ s2 h2=> ?_) λZ Z x=>x)
  rw[TU,Sem.wrap_wrap]
  rw[Sem.wrap_congr (execs body env) _ _ (K':=λf=>match f with
   | .next| .cont=> .pure (.again (.forLoop target it body orelse env))
   | .brk=> .pure (.done .next)
   | .ret v=> .pure (.done (.ret v))) (H':=yr env) (λf=>by cases f<;>rfl)
   (λe=>by first|exact Sem.bind_eq_wrap _ _|(show(do noteFrame e env;theTreesLotGoes e:Sem Unit).bind (λZ=> .raise e)=_;rw[Sem.bind_eq_wrap]))]
  exact h2
end
section
theorem sj:entryFor table "proto.yield_from"=some Builtin.«proto.yield_from»:=entryFor_of_tree (by kernel_rfl)
theorem u4:typeLookup (.type "list_iterator") (UK "close")=pure none:=by rw[Ul,Tn];kernel_rfl
abbrev yfC(li:Addr):Code:= .builtin "proto.yield_from" ⟨[.ref li,.bool false,.none],[]⟩
section
variable{prog:Program}{w:World}{A:Around}{R:GenEnd}{Y:Protocol}{n:Nat}{s₀:Shared}{fs:List Frame}{s:Shared}{li base:Addr}{i:Nat}{items:Array Value}{x:Value}
theorem lB{id:String}{args:Args}{b:Builtin}(hb:entryFor table id=some b):(model prog w).den (.builtin id args)=b args:=by
 show(match entryFor table id with|some b=>b args|none=>unsupported ((withoutEnding? id "#data").getD id))=_
 rw[hb]
theorem sk(li:Addr):(model prog w).den (yfC li)=Builtin.«proto.yield_from» ⟨[.ref li,.bool false,.none],[]⟩:=lB sj
theorem yt{A:Around}{s:Shared}{b:Bool}{Q:Unit→Shared→Prop}{E:Value→Shared→Prop}(hit:s.heap.IsListIter li base i)(h:Q () s):wpAny (model prog w) A (Builtin.Generator.sleptOver (.ref li) b) Q E s:=by
 refine el_EAAL hit ?_
 clear hit
 intro o ho hc hd
 unfold Builtin.Generator.sleptOver
 refine U7 (wpAny_load ho ?_)
 rw[hc]
 exact U8 h
theorem sm(hit:s.heap.IsListIter li base i)(hl:s.heap.IsList base items)(hx:items[i]? =some x)(hfs:splitAtGen fs=none)(hfg:fs.any Frame.guarded=false)
 (h: ∀h',h'.IsListIter li base (i+1)→UM li s.heap h'→ ∀κ:Resume→Shared→Prop,(∀s'' j,s''.heap.IsListIter li base j→Seg (model prog w) A R Y n s'' (yfC li) ((model prog w).den (yfC li)) fs s''→κ (.send .none) s'')→Y n s₀ x {s with heap:=h'} κ):
 Seg (model prog w) A R Y (n+1) s₀ (yfC li) ((model prog w).den (yfC li)) fs s:=by
 rw[sk]
 unfold Builtin.«proto.yield_from»
 refine dh (U8 ?_)
 refine el_EAAL (id hit) ?_
 intro o ho hc hd
 refine el_EAAL hl ?_
 clear hl
 intro ol hol _ qX
 refine el_EL qX ?_
 clear qX
 intro nl hdl
 refine dh (UG (Uy ?_))
 rw[if_neg (by decide),if_pos (by decide)]
 refine U7 (Vf ?_)
 refine U7 (Ta (name:=UK "__next__") hit.typeIs slot_listiter_next (T9 slot_listiter_next hit.typeIs entry_listiter_next ?_ (args_listiter_next _)))
 show wpAny _ _ (field (.ref li) 0>>=_) _ _ s
 refine U7 (U3 ho hd (x:= .ref base) rfl ?_)
 show wpAny _ _ (if(Value.ref base==Value.none)=true then _ else _) _ _ s
 rw[if_neg (show¬((Value.ref base==Value.none)=true)from TL)]
 show wpAny _ _ (field (.ref li) 1>>=_) _ _ s
 refine U7 (U3 ho hd (x:= .int i 0) rfl ?_)
 show wpAny _ _ (seqItems? (.ref base)>>=_) _ _ s
 refine U7 (wpAny_seqItems hol hdl ?_)
 simp only[Int.toNat_natCast,hx]
 have hit2:(s.heap.update li (Obj.mapFields λx=>x.setIfInBounds 1 (rawInt (i+1)))).IsListIter li base (i+1):=⟨_,Tm _ ho (Obj.isFreed_of_fields (Obj.data_mapFields hd _)),(Obj.cls_mapFields ..).trans hc,by
  rw[Obj.data_mapFields hd];simp[rawInt]⟩
 have hsb:UM li s.heap (s.heap.update li (Obj.mapFields λx=>x.setIfInBounds 1 (rawInt (i+1)))):=TA ..
 refine U7 (wpAny_setField ho hd (by simp) (U8 ⟨x,rfl,U8 ?_⟩))
 refine dh (UU hit2.typeIs ?_)
 refine dh (UZ u4 ?_)
 refine dh (U8 ?_)
 refine dh (yt hit2 ?_)
 show Seg _ _ _ _ (n+1) _ _ (.yield x false [] λr=>(Sem.pure r).bind _) fs _
 refine seg_yield hfs rfl hfg (h _ hit2 hsb _ λs'' j hj hs=> ?_)
 refine dh (U8 (dh (yt hj ?_)))
 exact seg_again (Code.quiet_builtin _ (by decide+kernel)) hs
theorem zZ(hfr:(A.over (yfC li) fs).handled=none)(hit:s.heap.IsListIter li base i)(hl:s.heap.IsList base items)(hx:items[i]? =none)
 (h: ∀h',Heap.ExtBut li s.heap h'→Seg (model prog w) A R Y n s₀ (yfC li) (.pure (.done (.ret .none))) fs {s with heap:=h'}):
 Seg (model prog w) A R Y n s₀ (yfC li) ((model prog w).den (yfC li)) fs s:=by
 rw[sk]
 unfold Builtin.«proto.yield_from»
 refine dh (U8 ?_)
 refine el_EAAL (id hit) ?_
 intro o ho hc hd
 refine el_EAAL hl ?_
 clear hl
 intro ol hol _ qX
 refine el_EL qX ?_
 clear qX
 intro nl hdl
 refine dh (UG (Uy ?_))
 rw[if_neg (by decide),if_pos (by decide)]
 refine U7 (Vf ?_)
 refine U7 (Ta (name:=UK "__next__") hit.typeIs slot_listiter_next (T9 slot_listiter_next hit.typeIs entry_listiter_next ?_ (args_listiter_next _)))
 show wpAny _ _ (field (.ref li) 0>>=_) _ _ s
 refine U7 (U3 ho hd (x:= .ref base) rfl ?_)
 show wpAny _ _ (if(Value.ref base==Value.none)=true then _ else _) _ _ s
 rw[if_neg (show¬((Value.ref base==Value.none)=true)from TL)]
 show wpAny _ _ (field (.ref li) 1>>=_) _ _ s
 refine U7 (U3 ho hd (x:= .int i 0) rfl ?_)
 show wpAny _ _ (seqItems? (.ref base)>>=_) _ _ s
 refine U7 (wpAny_seqItems hol hdl ?_)
 simp only[Int.toNat_natCast,hx]
 refine U7 (Vf (U7 (wpAny_setField ho hd (by simp) ?_)))
 show wpAny _ _ (newExc (.type "StopIteration") []>>=_) _ _ _
 refine U7 ?_
 simp only[newExc,newTuple]
 refine U7 (TP ?_ (by size_fits))
 refine U7 (m:=Ut _ _) (UZ (a:=Value.none) (by first|rfl|(simp only[Ut];rfl)) ?_)
 refine TP ?_ (by size_fits)
 simp only[raiseNew]
 refine U7 (wpAny_handled ?_)
 rw[show(A.over (yfC li) fs).in1.handled=none from hfr]
 refine U7 (U8 (wpAny_throw ?_))
 have hE: ∀(hp:Heap) (t:Value),(hp.push {cls:= .type "StopIteration",data:= .fields (#[t,.none,.none,.none,.bool false,.none]++ #[])}).get? hp.objs.size=some {cls:= .type "StopIteration",data:= .fields (#[t,.none,.none,.none,.bool false,.none]++ #[])}:=λhp t=>Tz _ rfl
 refine dh ?_
 unfold Builtin.Generator.endsTheTurnAsAValue
 refine U7 ?_
 unfold Builtin.Generator.isStopAndMetaclass
 refine U7 (UU (T:="StopIteration") ⟨_,hE _ _,rfl⟩ ?_)
 refine U7 (UZ isSubtype_stop ?_)
 refine U7 (UZ (a:=Value.type "type") (by kernel_rfl) ?_)
 refine U8 ?_
 refine U8 ?_
 rw[if_pos rfl,if_neg (by decide)]
 refine dh (Vf ?_)
 refine dh (U3 (x:= .none) (hE _ _) rfl rfl ?_)
 exact h _ (((TA ..).extBut.push _).push _)
end
end
section
structure GPos where
 p1:Pos
 p2:Pos
 p3:Pos
 p4:Pos
 p5:Pos
 p6:Pos
 p7:Pos
 p8:Pos
 p9:Pos
 p10:Pos
abbrev gIf(q:GPos):List Stmt:=[.If (.Name "namespaces" q.p5) [.Expr (.YieldFrom (.Name "namespaces" q.p6) q.p7) q.p8] [] q.p9]
abbrev lC(q:GPos):List Stmt:=[.For (.Name "namespaces" q.p1) (.Call (.Name "_reversed" q.p2) [.Name "ns_stack" q.p3] [] q.p4) (gIf q) [] q.p10]
structure GEnv(env:Env)(Lg:Addr):Prop where
 kd:env.scope.kind= .function
 loc:env.locals=Lg
 k1:env.kindOf "namespaces"=some .local
 k2:env.kindOf "ns_stack"=some .local
 k3:env.kindOf "_reversed"=some .local
 co:env.scope.isCoroutine=false
abbrev sn(q:GPos)(ri:Addr)(env:Env):Code:= .forLoop (.Name "namespaces" q.p1) (.ref ri) (gIf q) [] env
theorem hW{α β γ:Type}(m:Sem α)(f:α→Sem β)(g:β→Sem γ):(m>>=f)>>=g=m>>=λa=>f a>>=g:=by
 rw[TU,TU,Sem.wrap_wrap,TU]
 exact Sem.wrap_congr _ _ _ (λa=>(TU _ _).symm) λZ=>rfl
section
variable{prog:Program}{w:World}{A:Around}{R:GenEnd}{Y:Protocol}{n:Nat}{s₀:Shared}{fs:List Frame}{s0:Shared}{env:Env}{Lg S base:Addr}{items:Array Value}{x:Value}{hp0:Heap}
theorem sp(q:GPos)(G:GEnv env Lg)(hh:(marksOver fs (A.handled,A.handled)).1=none)(hfs:splitAtGen fs=none)(hfg:fs.any Frame.guarded=false)
 (hS:hp0.IsList S items)(hSL:S≠Lg)(hB:hp0.IsList base #[x])(hBL:base≠Lg)(h0:items[0]? =some (.ref base))
 (hY: ∀h1 tk κ,(∀b o,b≠Lg→hp0.get? b=some o→h1.get? b=some o)→h1.IsListIter (hp0.objs.size+1) base 1→h1.IsRevIter hp0.objs.size S (-1)→(∃m,h1.Ns Lg m)→h1.objs.size=hp0.objs.size+2→
  (∀s'' items',s''.heap.IsListIter (hp0.objs.size+1) base 1→s''.heap.IsList base items'→items'[1]? =none→s''.heap.IsRevIter hp0.objs.size S (-1)→
   (∀h2,(∀b o,b≠hp0.objs.size→b≠hp0.objs.size+1→s''.heap.get? b=some o→h2.get? b=some o)→Seg (model prog w) A R Y n s'' (.block [] env) (.pure (.done .next)) fs {s'' with heap:=h2})→κ (.send .none) s'')→Y n s₀ x {s0 with heap:=h1,toks:=tk} κ):
 ∀(i:Nat) (hp:Heap) (tk:Nat),(∀j,1≤j→j≤i→ ∃a,items[j]? =some (.ref a)∧hp0.IsList a #[]∧a≠Lg)→(∀b o,b≠Lg→hp0.get? b=some o→hp.get? b=some o)→hp.IsRevIter hp0.objs.size S (i:Int)→(∃m,hp.Ns Lg m)→Lg<hp0.objs.size→hp.objs.size=hp0.objs.size+1→i<items.size→
  Seg (model prog w) A R Y (n+1) s₀ (sn q hp0.objs.size env) ((model prog w).den (sn q hp0.objs.size env)) fs {s0 with heap:=hp,toks:=tk}:=by
 intro i
 induction i with
 |zero=>
  intro hp tk hE hold hri hns hLg hsz hi
  refine el_EL hns ?_
  clear hns
  intro m hns
  have old: ∀{b items},hp0.IsList b items→b≠Lg→hp.IsList b items:=λx hb=>x.at λo e=>hold _ o hb e
  refine ee ?_
  refine wpAny_pyNext_rev_item (i:=0) hri (old hS hSL) h0 λh1 hri1 hsb1=> ?_
  refine U8 ?_
  have hLr:Lg≠hp0.objs.size:=UL hLg
  refine wpAny_assign_Name ?_
  refine Tp G.k1 (G.loc▸hns.sameBut hsb1 hLr) (λh2 hn2 hsb2=> ?_) (by rw[G.kd];rfl)
  rw[G.loc]at hn2 hsb2
  have hold2: ∀b o,b≠Lg→hp0.get? b=some o→h2.get? b=some o:=λb o hb e=>(hsb2.2 b hb).trans ((hsb1.2 b (UL (UN e))).trans (hold b o hb e))
  have hri2:h2.IsRevIter hp0.objs.size S (-1):=hri1.at λo e=>(hsb2.2 _ hLr.symm).trans e
  have hsz2:h2.objs.size=hp0.objs.size+1:=hsb2.1.trans (hsb1.1.trans hsz)
  refine seg_execs_cons ?_
  rw[exec_If]
  refine bA (UA ?_)
  refine bA ?_
  refine PyProof.Rows.isTrue_plain (wpAny_Name (Tv G.kd G.k1 (G.loc▸hn2) (if_pos rfl) ?_)) rfl
  have hb2:=hB.at λo e=>hold2 _ o hBL e
  refine wpAny_truthy_list (items:= #[x]) hb2 (by simp) ?_
  rw[show(!(#[x]:Array Value).isEmpty)=true from rfl,if_pos rfl]
  refine seg_execs_cons ?_
  rw[exec_Expr env _ _ (by unfold interactive;rw[G.kd];rfl) rfl]
  refine bA (UA ?_)
  show Seg _ _ _ _ _ _ _ (((eval (.Name "namespaces" q.p6) env>>=λv=>(standAt q.p7>>=λZ=>yieldFrom env v))>>=λx=>dropValue (.YieldFrom (.Name "namespaces" q.p6) q.p7) q.p8 x).wrap _ _ _ _) _ _
  rw[hW]
  refine bA (wpAny_Name (Tv G.kd G.k1 (G.loc▸hn2) (if_pos rfl) ?_))
  rw[hW]
  refine bA (UA ?_)
  unfold yieldFrom
  rw[hW]
  refine bA (UU hb2.typeIs ?_)
  rw[if_neg (by decide),hW]
  refine bA (Uy (wpAny_pyIter_list hb2 ?_))
  refine seg_call λp=> ?_
  have hb3:(h2.push {cls:= .type "list_iterator",data:= .fields #[.ref base,.int 0 0]}).IsList base #[x]:=hb2.at λo e=>Tf _ e
  refine sm (i:=0) (li:=h2.objs.size) (base:=base) (items:= #[x]) ⟨_,Tz _ rfl,rfl,rfl⟩ hb3 rfl (by simp[splitAtGen,hfs]) (by rw[UI,hfg];rfl) λh3 hit3 hsb3 κ hκ=> ?_
  have k3: ∀b o,h2.get? b=some o→h3.get? b=some o:=λb o e=>(hsb3.2 b (UL (UN e))).trans (Tf _ e)
  have hli:h2.objs.size=hp0.objs.size+1:=hsz2
  rw[hli]at hit3 hκ
  refine hY h3 _ κ (λb o hb e=>k3 _ _ (hold2 b o hb e)) hit3 (hri2.at λo e=>k3 _ _ e) ⟨_,hn2.keeps k3⟩ (by rw[hsb3.1,size_push',hli]) λs'' items' z1 z2 z3 z4 z5=>hκ s'' 1 z1 ?_
  refine zZ hh z1 z2 z3 λh4 hx4=> ?_
  refine seg_leaf (.ok (.ret .none)) ?_
  show Seg _ _ _ _ n _ _ (.pure (.again (sn q hp0.objs.size env))) fs _
  refine seg_again rfl ?_
  refine ee ?_
  have z4':h4.IsRevIter hp0.objs.size S (-1):=z4.at λo e=>hx4 _ o (UL (TZ _)) e
  refine wpAny_pyNext_rev_end hh z4' λh5 hx5=> ?_
  exact z5 h5 λb o b1 b2 e=>hx5 b o b1 (hx4 b o b2 e)
 |succ i ih=>
  intro hp tk hE hold hri hns hLg hsz hi
  refine el_EAAL (hE (i+1) (Nat.succ_pos i) (UY _)) ?_
  intro a ha hal haL
  refine el_EL hns ?_
  clear hns
  intro m hns
  have old: ∀{b items},hp0.IsList b items→b≠Lg→hp.IsList b items:=λx hb=>x.at λo e=>hold _ o hb e
  have lt0: ∀{b items},hp0.IsList b items→b≠hp0.objs.size:=λ⟨o,e,_⟩=>UL (UN e)
  refine ee ?_
  refine wpAny_pyNext_rev_item (i:=i+1) hri (old hS hSL) ha λh1 hri1 hsb1=> ?_
  refine U8 ?_
  have hLr:Lg≠hp0.objs.size:=UL hLg
  refine wpAny_assign_Name ?_
  refine Tp G.k1 (G.loc▸hns.sameBut hsb1 hLr) (λh2 hn2 hsb2=> ?_) (by rw[G.kd];rfl)
  rw[G.loc]at hn2 hsb2
  have hold2: ∀b o,b≠Lg→hp0.get? b=some o→h2.get? b=some o:=λb o hb e=>(hsb2.2 b hb).trans ((hsb1.2 b (UL (UN e))).trans (hold b o hb e))
  have hri2:h2.IsRevIter hp0.objs.size S (i:Int):=by
   have:h2.IsRevIter hp0.objs.size S (((i+1:Nat):Int)-1):=hri1.at λo e=>(hsb2.2 _ hLr.symm).trans e
   rwa [Fn]at this
  refine seg_execs_cons ?_
  rw[exec_If]
  refine bA (UA ?_)
  refine bA ?_
  refine PyProof.Rows.isTrue_plain (wpAny_Name (Tv G.kd G.k1 (G.loc▸hn2) (if_pos rfl) ?_)) rfl
  refine wpAny_truthy_list (items:= #[]) (hal.at λo e=>hold2 _ o haL e) (by decide) ?_
  rw[show(!(#[]:Array Value).isEmpty)=false from rfl,if_neg (by decide)]
  refine seg_execs_nil ?_
  refine seg_execs_nil ?_
  refine seg_again rfl ?_
  exact ih h2 _ (λj h1 h2=>hE j h1 (TW h2)) hold2 hri2 ⟨_,hn2⟩ hLg (hsb2.1.trans (hsb1.1.trans hsz)) (Nat.lt_of_succ_lt hi)
end
end
section
variable{prog:Program}{w:World}{A:Around}{R:GenEnd}{Y:Protocol}{n:Nat}{env:Env}{s:Shared}{Lg S base:Addr}{items:Array Value}{x:Value}{m:Str→Option Value}
theorem pC(q:GPos)(G:GEnv env Lg)(hh:A.handled=none)(hns:s.heap.Ns Lg m)(m1:m "ns_stack"=some (.ref S))(m2:m "_reversed"=some (.type "reversed"))
 (hS:s.heap.IsList S items)(hSL:S≠Lg)(hB:s.heap.IsList base #[x])(hBL:base≠Lg)(h0:items[0]? =some (.ref base))(hE: ∀j,1≤j→j<items.size→ ∃a,items[j]? =some (.ref a)∧s.heap.IsList a #[]∧a≠Lg)
 (hR: ∀s'' h2,(∀b o,b≠s.heap.objs.size→b≠s.heap.objs.size+1→s''.heap.get? b=some o→h2.get? b=some o)→R n s'' (.ok (.ret .none)) {s'' with heap:=h2})
 (hY: ∀h1 tk κ,(∀b o,b≠Lg→s.heap.get? b=some o→h1.get? b=some o)→h1.IsListIter (s.heap.objs.size+1) base 1→h1.IsRevIter s.heap.objs.size S (-1)→(∃m,h1.Ns Lg m)→h1.objs.size=s.heap.objs.size+2→
  (∀s'' items',s''.heap.IsListIter (s.heap.objs.size+1) base 1→s''.heap.IsList base items'→items'[1]? =none→s''.heap.IsRevIter s.heap.objs.size S (-1)→κ (.send .none) s'')→Y n s x {s with heap:=h1,toks:=tk} κ):
 Seg (model prog w) A R Y (n+1) s (.func (lC q) env) ((model prog w).den (.func (lC q) env)) [] s:=by
 refine seg_func ?_
 refine seg_execs_cons ?_
 rw[exec_For]
 refine bA (UA ?_)
 refine bA ?_
 refine Call_ (wpAny_Name (Tv G.kd G.k3 (G.loc▸hns) m2 ?_)) rfl
 refine U4 (P:=λZ=>True) rfl (λZ Z=>⟨.machine,.inr (.inl rfl),UF rfl⟩) ?_
 refine Uu ?_
 refine T0 (wpAny_Name (Tv G.kd G.k2 (G.loc▸hns) m1 ?_)) rfl
 refine Ui ⟨trivial,?_⟩
 refine call_reversed_list hS ?_
 refine bA (UZ (a:=Value.ref s.heap.objs.size) rfl ?_)
 refine bA (UA ?_)
 have hri:(s.heap.push (revObj S ((items.size:Int)-1))).IsRevIter s.heap.objs.size S ((items.size:Int)-1):=⟨_,Tz _ rfl,rfl,rfl⟩
 refine bA (Uy (wpAny_pyIter_revIter hri ?_))
 refine seg_call λp=> ?_
 have hpos:0<items.size:=by
  rw[Array.getElem?_eq_some_iff]at h0
  exact h0.1
 have hLg:Lg<s.heap.objs.size:=hns.lt
 refine sp (s0:=s) (hp0:=s.heap) (base:=base) (items:=items) (x:=x) q G (by exact hh) (by rfl) (by rfl) hS hSL hB hBL h0 (λh1 tk κ k1 k2 k3 k4 k5 hκ=>hY h1 tk κ k1 k2 k3 k4 k5 λs'' items' z1 z2 z3 z4=>hκ s'' items' z1 z2 z3 z4 λh2 hk=> ?_)
  (items.size-1) _ s.toks (λj j1 j2=>hE j j1 (TI j2 (Nat.sub_lt hpos Nat.zero_lt_one))) (λb o Z e=>Tf _ e) ?_ ⟨m,hns.push _⟩ hLg (size_push' _ _) (Nat.sub_lt hpos Nat.zero_lt_one)
 · refine seg_leaf (.ok .next) ?_
   show Seg _ _ _ _ n _ _ (.pure (.done (.ret .none))) [] _
   exact seg_end (.ok (.ret .none)) (hR s'' h2 hk)
 · rwa [Fo hpos]
end
section
variable{prog:Program}{w:World}{A:Around}{E:Value→Shared→Prop}{s:Shared}
theorem fZ{a:Addr}{g n:Nat}{gs:Vw}{P:Nat→Shared→Shared→Prop}{Y:Protocol}{Q:Option Value→Shared→Prop}(hh:A.handled=none)
 (hl:s.heap.NoLimit)(hroom:A.depth<recursionLimit)
 (hg:s.heap.IsGen a g)(hgs:s.gens[g]? =some gs)
 (hgo:gs.Goes (model prog w) A.in1 (λn s₀ r s₁=>r= .ok (.ret .none)∧P n s₀ s₁) Y n (.send .none) (s.setGen g .running))
 (hY: ∀v s₁ gs',gs'.bare=true→Y (n-1) (s.setGen g .running) v s₁ (λr' s''=>match n with
  |0=>False
  |m+1=>gs'.Goes (model prog w) A.in1 (λn s₀ r s₁=>r= .ok (.ret .none)∧P n s₀ s₁) Y m r' s'')→Q (some v) (s₁.setGen g gs'))
 (hP: ∀s₁,P n (s.setGen g .running) s₁→ ∀h',(∀b o,s₁.heap.get? b=some o→h'.get? b=some o)→Q none {s₁.setGen g .finished with heap:=h'}):
 wpAny (model prog w) A (pyNext (.ref a)) Q E s:=by
 unfold pyNext
 refine U7 (UG (Ta (name:=UK "__next__") hg.typeIs slot_gen_next
  (T9 slot_gen_next hg.typeIs entry_gen_next ?_ (args_gen_next _))))
 show wpAny _ A.in1 (Builtin.Generator.genWake (.ref a) (.send .none)) _ _ s
 unfold Builtin.Generator.genWake
 refine U7 (Uy (wpAny_genNumber hg (U7 (wpAny_genState hgs ?_))))
 cases gs with
 |running=>exact hgo.elim
 |finished=>exact hgo.elim
 |_=>
  refine U7 (wpAny_roomToWake hl hroom ?_)
  show wpAny _ A.in1 (.resume g (.send .none) [] _) _ _ s
  refine wpAny_resumeQ hgs hgo (λx s₁ hx=> ?_) (λv s₁ gs' hb hv=> ?_)
  · refine ae hx ?_
    clear hx
    rintro rfl hp
    show wpAny _ A.in1 (newExc (.type "StopIteration") []>>=_) _ _ _
    refine U7 ?_
    simp only[newExc,newTuple]
    refine U7 (TP ?_ (by size_fits))
    refine U7 (m:=Ut _ _) (UZ (a:=Value.none) (by first|rfl|(simp only[Ut];rfl)) ?_)
    refine TP ?_ (by size_fits)
    simp only[raiseNew]
    refine U7 (U7 (wpAny_handled ?_))
    first|rw[show A.in1.handled=none from hh]|rw[hh]
    refine wpAny_throw ?_
    refine U7 (T8 (T:="StopIteration") (b:=true) ⟨_,Tz _ rfl,rfl⟩ isSubtype_stop ?_)
    exact U8 (hP s₁ hp _ λb o hb=>Tf _ (Tf _ hb))
  · exact U8 ⟨v,rfl,U8 (hY v s₁ gs' hb hv)⟩
theorem mR{M:Model}{A:Around}{s:Shared}{Q:Unit→Shared→Prop}{t:Expr}{w:Value}{o:Obj}{a:Addr}(ho:s.heap.get? a=some o)(hc:o.cls= .type "generator")(hQ:Q () s):
 wpAny M A (letOwnedTupleGo t (.ref a) w) Q E s:=by
 have go:wpAny M A (do
  let (.ref r,.ref a):=(Value.ref a,w)|return
  let o←load r
  match o.cls,o.data with
  | .type n,.fields vs=>
   if["enumerate","zip","dict_itemiterator","dict_reverseitemiterator","odict_iterator","itertools.zip_longest","itertools.pairwise"].contains n&&vs[0]? ==some (rawInt a)then
    rule "for.unpacks-the-owned-tuple"
    updateField r 0 .none
  |_,_=>pure ():Sem Unit) Q E s:=by
  cases w with
  |ref b=>
   refine U7 (wpAny_load ho ?_)
   rw[hc]
   cases o.data with
   |fields vs=>
    show wpAny M A (if(_&&_)=true then _ else _) Q E s
    rw[show(["enumerate","zip","dict_itemiterator","dict_reverseitemiterator","odict_iterator","itertools.zip_longest","itertools.pairwise"]:List String).contains "generator"=false by decide,Bool.false_and,if_neg (by decide)]
    exact U8 hQ
   |_=>exact U8 hQ
  |_=>exact U8 hQ
 cases t with
 |Tuple _ _ _=>exact go
 |List _ _=>exact go
 |_=>exact U8 hQ
noncomputable def YG(x:Value)(li base ri S:Addr)(F:Shared→Shared→Prop):Protocol:=λZ s₀ v s₁ κ=>v=x∧F s₀ s₁∧(∃it,s₁.heap.IsListIter li base 1∧s₁.heap.IsList base it∧it[1]? =none∧s₁.heap.IsRevIter ri S (-1))∧
 ∀s'' it,s''.heap.IsListIter li base 1→s''.heap.IsList base it→it[1]? =none→s''.heap.IsRevIter ri S (-1)→κ (.send .none) s''
noncomputable def PG(li ri:Addr):Nat→Shared→Shared→Prop:=λn s₀ s₁=>n=0∧ ∃h2,s₁={s₀ with heap:=h2}∧ ∀b o,b≠ri→b≠li→s₀.heap.get? b=some o→h2.get? b=some o
def FG(hp0:Heap)(Lg:Addr)(s₀ s₁:Shared):Prop:= ∃h1 tk,s₁={s₀ with heap:=h1,toks:=tk}∧ ∀b o,b≠Lg→hp0.get? b=some o→h1.get? b=some o
theorem FZ{env:Env}{Lg S base:Addr}{items:Array Value}{x:Value}{m:Str→Option Value}{a:Addr}{g:Nat}(q:GPos)(G:GEnv env Lg)(hh:A.handled=none)(hl:s.heap.NoLimit)(hroom:A.depth<recursionLimit)(hg:s.heap.IsGen a g)(hgs:s.gens[g]? =some (.fresh (.func (lC q) env)))
 (hns:s.heap.Ns Lg m)(m1:m "ns_stack"=some (.ref S))(m2:m "_reversed"=some (.type "reversed"))
 (hS:s.heap.IsList S items)(hSL:S≠Lg)(hB:s.heap.IsList base #[x])(hBL:base≠Lg)(h0:items[0]? =some (.ref base))(hE: ∀j,1≤j→j<items.size→ ∃a,items[j]? =some (.ref a)∧s.heap.IsList a #[]∧a≠Lg)
 {Q:Option Value→Shared→Prop}
 (h: ∀h1 tk gs',gs'.bare=true→(∀b o,b≠Lg→s.heap.get? b=some o→h1.get? b=some o)→h1.IsListIter (s.heap.objs.size+1) base 1→h1.IsRevIter s.heap.objs.size S (-1)→
  (∀s'' it,s''.heap.IsListIter (s.heap.objs.size+1) base 1→s''.heap.IsList base it→it[1]? =none→s''.heap.IsRevIter s.heap.objs.size S (-1)→
   gs'.Goes (model prog w) A.in1 (λn s₀ r s₁=>r= .ok (.ret .none)∧PG (s.heap.objs.size+1) s.heap.objs.size n s₀ s₁) (YG x (s.heap.objs.size+1) base s.heap.objs.size S (FG s.heap Lg)) 0 (.send .none) s'')→
  Q (some x) ({s.setGen g .running with heap:=h1,toks:=tk}.setGen g gs')):
 wpAny (model prog w) A (pyNext (.ref a)) Q E s:=by
 refine fZ (n:=1) (P:=PG (s.heap.objs.size+1) s.heap.objs.size) (Y:=YG x (s.heap.objs.size+1) base s.heap.objs.size S (FG s.heap Lg)) hh hl hroom hg hgs ⟨rfl,?_⟩ (λv s₁ gs' hb hY=> ?_) λs₁ hP h' hk=> ?_
 · refine pC (n:=0) (s:=s.setGen g .running) (base:=base) (items:=items) (x:=x) q G hh hns m1 m2 hS hSL hB hBL h0 hE (λs'' h2 hk=>⟨rfl,rfl,h2,rfl,hk⟩) λh1 tk κ k1 k2 k3 k4 k5 hκ=> ?_
   exact⟨rfl,⟨h1,tk,rfl,k1⟩,⟨#[x],k2,hB.at λo e=>k1 _ o hBL e,rfl,k3⟩,hκ⟩
 · refine aD hY ?_
   clear hY
   rintro rfl qX3 qX4 hκ
   obtain⟨h1,tk,rfl,k1⟩:=qX3
   obtain⟨it,k2,k3,k4,k5⟩:=qX4
   exact h h1 tk gs' hb k1 k2 k5 hκ
 · exact absurd hP.1 (by decide)
theorem F0{base S li ri:Addr}{x:Value}{F:Shared→Shared→Prop}{a:Addr}{g:Nat}{gs:Vw}(hh:A.handled=none)(hl:s.heap.NoLimit)(hroom:A.depth<recursionLimit)(hg:s.heap.IsGen a g)(hgs:s.gens[g]? =some gs)
 (hgo:gs.Goes (model prog w) A.in1 (λn s₀ r s₁=>r= .ok (.ret .none)∧PG li ri n s₀ s₁) (YG x li base ri S F) 0 (.send .none) (s.setGen g .running))
 {Q:Option Value→Shared→Prop}
 (h: ∀h2,(∀b o,b≠ri→b≠li→s.heap.get? b=some o→h2.get? b=some o)→Q none {(s.setGen g .running).setGen g .finished with heap:=h2}):
 wpAny (model prog w) A (pyNext (.ref a)) Q E s:=by
 refine fZ (n:=0) hh hl hroom hg hgs hgo (λv s₁ gs' hb hY=> ?_) λs₁ hP h' hk=> ?_
 · refine aD hY ?_
   clear hY
   rintro rfl _ qX6 hκ
   obtain⟨it,k2,k3,k4,k5⟩:=qX6
   exact(hκ s₁ it k2 k3 k4 k5).elim
 · refine el_AEAL hP ?_
   clear hP
   rintro _ h2 rfl k
   exact h h' λb o b1 b2 e=>hk b o (k b o b1 b2 e)
end
section
variable{Γ:Gl}{c:St0}{d:Dy}{f:Frm}{lo:Lo}{h:H}{n:Nat}{ih:Ih}
structure GenW where
 name:Str
 qual:Str
 params:Vj
 scope:Scope
 dV:Value
 kV:Value
 doc:Value
 pm:Value
 ct:Value
 oc:Value
 an:Option Addr
 od:Option Addr
 osl:Array (Option Value)
 cd:Addr
 q:GPos
abbrev GenW.fd(W:GenW):FuncData:=fnX W.name W.qual W.params (lC W.q) W.scope [] W.dV W.kV W.doc W.pm W.an (.ref W.cd) W.ct
structure GenOk(Γ:Gl)(W:GenW):Prop where
 lk:Γ.K.lookup Γ.g.genA=some ⟨W.oc,W.od,.func W.fd,W.osl⟩
 cdi:codeIn Γ.K (.ref W.cd) W.qual=true
 co:W.scope.isCoroutine=false
 ge:W.scope.isGenerator=true
 kd:W.scope.kind= .function
 k0:W.scope.names.lookup (UK "self")=some NameKind.local
 k1:W.scope.names.lookup (UK "namespaces")=some NameKind.local
 k2:W.scope.names.lookup (UK "ns_stack")=some NameKind.local
 k3:W.scope.names.lookup (UK "_reversed")=some NameKind.local
 nc: ∀x∈W.scope.names,x.2≠ .cell
 bind: ∀(v1 v2:Value) (s:Shared),Γ.K.In s.heap→BindsTo s W.fd ⟨[v1,v2],[]⟩ [("self",v1),("ns_stack",v2),("_reversed",.type "reversed")]
theorem iJ{h:H}{v:V}{y:V}{k:Nat}(e:kD h v=some (y,k)):v= .loc k∧h[k]? =some (.list [y]):=by
 refine aR e ?_
 clear e
 intro k' e1 xs e2 e
 refine el_EAL (aP e) ?_
 intro y' e3 e
 obtain⟨rfl,rfl⟩:=so2 e
 rw[e3]at e2
 exact⟨aj e1,av e2⟩
theorem eI{h:H}: ∀{l:List V},gG h l=some ()→ ∀v∈l,∃k,v= .loc k∧h[k]? =some (.list [])
 |[],_,v,hv=>nomatch hv
 |u::l,e,v,hv=>by
  refine dn (e:ob (aH u) (λk=>ob (aL h k) λxs=>gd (aV xs) (gG h l))=some ()) ?_
  clear e
  intro k e1 xs e2 e3 e
  rcases Uz.mp hv with rfl|hv
  · refine⟨k,aj e1,?_⟩
    rw[bM]at e3
    rw[←T4.mp e3]
    exact av e2
  · exact eI e v hv
theorem mS{t:Mine.E}{s m s' a:Str}{pm ps' pa pc:Pos}{b:S}{x:R3}(hv:gforS ih f lo h t s m pm s' ps' a pa pc b=some x):
 sT m=w_iter_namespaces∧(pm.endLine==pc.line)=true∧ ∃k C j es fn,bq f lo h (sT s)=some (.loc k)∧h[k]? =some (.inst C j)∧ih.mt C=some fn∧h[j]? =some (.sd es)∧look w_iter_namespaces es=none∧
  ∃l h1 z y ys,ih.e f lo h (.attr (.nm s' ps') a pa)=some (.loc l,h1)∧h1[l]? =some (.list (.loc z::ys))∧h1[z]? =some (.list [y])∧(∀v∈ys,∃k,v= .loc k∧h1[k]? =some (.list []))∧
   ∃lo2 h2 lo3 h3 y2,asg ih f lo h1 y t=some (lo2,h2)∧ih.s f lo2 h2 b=some (.next,lo3,h3)∧h3[z]? =some (.list [y2])∧x=(.next,lo3,h3):=by
 refine aW hv ?_
 clear hv
 intro g1 g2 hvX
 refine aB hvX ?_
 clear hvX
 intro u e1 k e2 o e3 hvX
 refine cW hvX ?_
 clear hvX
 intro C j e4 hvX
 refine dn hvX ?_
 clear hvX
 intro fn e5 es e6 g3 hvX
 refine cW hvX ?_
 clear hvX
 intro q1 h1 e7 hvX
 refine aR hvX ?_
 clear hvX
 intro l e8 xs e9 hvX
 refine cW hvX ?_
 clear hvX
 intro y0 ys e10 hvX
 refine cW hvX ?_
 clear hvX
 intro y z e11 hvX
 refine aw hvX ?_
 clear hvX
 intro _ e12 hvX
 refine cW hvX ?_
 clear hvX
 intro lo2 h2 e13 hvX
 refine oJ hvX ?_
 clear hvX
 intro fl lo3 h3 e14 hvX
 refine bB hvX ?_
 clear hvX
 intro g4 l2 e15 hv
 refine el_EAL (aP hv) ?_
 intro y2 e16 hv
 have hf:fl= .next:=by cases fl<;>first|rfl|cases g4
 have hxs:xs=y0::ys:=by cases xs<;>cases e10;rfl
 refine ae (iJ e11) ?_
 intro f1 f2
 rw[ap,cO e4]at e3
 refine⟨au.mp g1,?_,k,C,j,es,fn,aj e2▸e1,e3,e5,bH e6,?_,l,h1,z,y,ys,aj e8▸e7,?_,f2,eI e12,lo2,h2,lo3,h3,y2,e13,hf▸e14,?_,?_⟩
 · have:=Tj g2
   cases pc
   exact beq_iff_eq.mpr this
 · cases q:look w_iter_namespaces es with
   |none=>rfl
   |some v=>rw[q]at g3;cases g3
 · have:=av e9
   rw[hxs]at this
   rw[this,show y0= .loc z from f1]
 · have:=av e15
   rw[e16]at this
   exact this
 · rw[←Ud hv,hf]
theorem Rel.shift(R:Rel Γ c d f lo h){s':Shared}(hos:s'.os=d.s.os)(hg:AllBare s'.gens)(hgk: ∀p∈c.gk,s'.gens[p.1]? =some p.2)(P:Addr→Prop)(hP: ∀a,P a→OffA c d a)(hs: ∀b ob,¬P b→d.s.heap.get? b=some ob→s'.heap.get? b=some ob):
 Rel Γ c ⟨d.ρ,d.ξ,d.m,s'⟩ f lo h:=by
 have Y:=R.led
 have N:=R.nm
 refine⟨⟨?_,λb o e=>hs b o (λq=>by rw[(hP _ q).b]at e;cases e) (R.fr.keep b o e),R.fr.above⟩,R.gb,R.bl,⟨Y.len,Y.nd,λk x o' hx ho=> ?_,Y.new,λp hp=> ?_⟩,⟨N.kind,N.glob,N.blt,N.dbg,N.lv,N.inj,N.lov,N.cv,N.gv,N.kv,N.cd,N.ql⟩,hos.trans R.os,hg,R.kp,hgk⟩
 · refine el_EEEAL R.fr.ns ?_
   intro oL es ep e1 e2
   exact⟨oL,es,ep,hs _ _ (λq=>(hP _ q).l rfl) e1,e2⟩
 · refine el_EAL (Y.obj k x o' hx ho) ?_
   intro b i1 i2
   exact⟨b,hs _ _ (λq=>(hP _ q).r (Tq hx)) i1,i2⟩
 · have:=Y.frz p hp
   exact⟨hs _ _ (λq=>(hP _ q).x p hp rfl) this.1,this.2⟩
theorem Rel.keepL(R:Rel Γ c d f lo h)(l:List (Addr×Obj))(gg:List (Nat×Vw))(hl: ∀q∈l,d.s.heap.get? q.1=some q.2∧OffA c d q.1)(hgg: ∀p∈gg,d.s.gens[p.1]? =some p.2):
 Rel Γ {c with kept:=l++c.kept,gk:=gg} ⟨d.ρ,l++d.ξ,d.m,d.s⟩ f lo h:=by
 have Y:=R.led
 have N:=R.nm
 refine⟨R.fr,R.gb,R.bl,⟨Y.len,Y.nd,λk x o' hx ho=> ?_,Y.new,λp hp=> ?_⟩,⟨N.kind,N.glob,N.blt,N.dbg,N.lv,N.inj,N.lov,N.cv,N.gv,N.kv,N.cd,N.ql⟩,R.os,R.gens,λp hp=> ?_,hgg⟩
 · refine el_EAL (Y.obj k x o' hx ho) ?_
   intro b i1 i2
   exact⟨b,i1,i2.frz λp hp=>Tl _ hp⟩
 · rcases Ue.mp hp with hp|hp
   · have:=hl p hp
     exact⟨this.1,this.2.b,this.2.l,this.2.r⟩
   · exact Y.frz p hp
 · rcases Ue.mp hp with hp|hp
   · exact Tu _ hp
   · exact Tl _ (R.kp p hp)
theorem Rel.unkeepL{l:List (Addr×Obj)}{gg:List (Nat×Vw)}(R:Rel Γ {c with kept:=l++c.kept,gk:=gg} d f lo h)(hc: ∀q∈l,∀vs qn tk,q.2.data= .fields vs→vs[1]? ≠some (.str qn tk))(hk: ∀p∈c.kept,∀q∈l,p.1≠q.1)
 {s':Shared}(hos:s'.os=d.s.os)(hg:AllBare s'.gens)(hgk: ∀p∈c.gk,s'.gens[p.1]? =some p.2)(hs: ∀b ob,(∀q∈l,b≠q.1)→d.s.heap.get? b=some ob→s'.heap.get? b=some ob):
 Rel Γ c ⟨d.ρ,d.ξ.filter (λp=> !(l.any λq=>p.1==q.1)),d.m,s'⟩ f lo h:=by
 have Y:=R.led
 have N:=R.nm
 have A: ∀q∈l,d.s.heap.get? q.1=some q.2∧c.h₀.get? q.1=none∧q.1≠c.L∧q.1∉d.ρ:=λq hq=>Y.frz _ (R.kp _ (Tu _ hq))
 have out: ∀p:Addr×Obj,(!(l.any λq=>p.1==q.1))=true→ ∀q∈l,p.1≠q.1:=λp hp q hq e=>by
  rw[Bool.not_eq_true',List.any_eq_false]at hp
  exact hp q hq (by rw[e];simp)
 have inn: ∀p:Addr×Obj,(∀q∈l,p.1≠q.1)→(!(l.any λq=>p.1==q.1))=true:=λp hp=>by
  rw[Bool.not_eq_true',List.any_eq_false]
  intro q hq e
  exact hp q hq (eq_of_beq e)
 refine⟨⟨?_,λb o e=>hs b o (λq hq z=>by rw[z,(A q hq).2.1]at e;cases e) (R.fr.keep b o e),R.fr.above⟩,R.gb,R.bl,⟨Y.len,Y.nd,λk x o' hx ho=> ?_,Y.new,λp hp=> ?_⟩,⟨N.kind,N.glob,N.blt,N.dbg,N.lv,N.inj,N.lov,N.cv,N.gv,N.kv,N.cd,N.ql⟩,hos.trans R.os,hg,λp hp=> ?_,hgk⟩
 · refine el_EEEAL R.fr.ns ?_
   intro oL es ep e1 e2
   exact⟨oL,es,ep,hs _ _ (λq hq z=>(A q hq).2.2.1 z.symm) e1,e2⟩
 · refine el_EAL (Y.obj k x o' hx ho) ?_
   intro b i1 i2
   refine⟨b,hs _ _ (λq hq z=>(A q hq).2.2.2 (z▸Tq hx)) i1,?_⟩
   cases o' with
   |ltab=>
    refine⟨i2.1,i2.2.imp id λ⟨p,hp,q⟩=>⟨p,Ug.mpr ⟨hp,inn p λq' hq' z=> ?_⟩,q⟩⟩
    have hc2:=Γ.lamc _ _ _ q
    have:=(Y.frz p hp).1
    rw[z,(A q' hq').1]at this
    refine el_EEEAL hc2 ?_
    clear hc2
    intro vs qn tk e1 e2
    exact hc q' hq' vs qn tk (by rw[Ud this];exact e1) e2
   |_=>exact i2
 · refine ae (Ug.mp hp) ?_
   intro p1 p2
   have:=Y.frz p p1
   exact⟨hs _ _ (out p p2) this.1,this.2⟩
 · exact Ug.mpr ⟨R.kp p (Tl _ hp),inn p (hk p hp)⟩
theorem AOk.kg(A:AOk c n)(k:List (Addr×Obj))(g:List (Nat×Vw)):AOk {c with kept:=k,gk:=g} n:=⟨A.fr,A.ff,A.fk,A.hd,A.dp,A.un⟩
end
section
variable{Γ:Gl}{c:St0}{d:Dy}{f:Frm}{lo:Lo}{h:H}{n:Nat}{ih:Ih}
theorem fi{gens:Array Vw}(h:AllBare gens){x:Vw}(hx:x.bare=true)(g:Nat):AllBare (gens.setIfInBounds g x):=λy hy=>by
 obtain⟨i,hi,e⟩:=Array.mem_iff_getElem.mp hy
 rw[Array.getElem_setIfInBounds]at e
 split at e
 · rw[←e];exact hx
 · rw[←e];exact h _ (Array.getElem_mem (by simpa using hi))
 · simpa using hi
theorem dz{gens:Array Vw}{x:Vw}{g p:Nat}(h:p≠g):(gens.setIfInBounds g x)[p]? =gens[p]? :=Array.getElem?_setIfInBounds_ne (Ne.symm h)
theorem fj{gens:Array Vw}{x y:Vw}{g:Nat}(h:gens[g]? =some y):(gens.setIfInBounds g x)[g]? =some x:=by
 rw[Array.getElem?_setIfInBounds_self,if_pos]
 rw[Array.getElem?_eq_some_iff]at h
 exact h.1
abbrev genObj(g:Nat)(nm qn:Str)(t u:Tok):Obj:={cls:= .type "generator",data:= .fields #[.int g 0,.str nm t,.str qn u]}
theorem fJ{hp:Heap}{a:Addr}{g:Nat}{nm qn:Str}{t u:Tok}(h:hp.get? a=some (genObj g nm qn t u)):hp.IsGen a g:=⟨_,_,_,h,rfl,rfl,rfl⟩
theorem Rel.lessKept{a:Addr}{o:Obj}(R:Rel Γ {c with kept:=(a,o)::c.kept} d f lo h):Rel Γ c d f lo h:=
 have N:=R.nm
 ⟨R.fr,R.gb,R.bl,R.led,⟨N.kind,N.glob,N.blt,N.dbg,N.lv,N.inj,N.lov,N.cv,N.gv,N.kv,N.cd,N.ql⟩,R.os,R.gens,λp hp=>R.kp p (.tail _ hp),R.gk⟩
theorem sq{x:Value}{S base li ri ga g:Nat}{F:Shared→Shared→Prop}{gs:Vw}{og ol or:Obj}{ρ:List Addr}{ξ:List (Addr×Obj)}{m:Str→Option Value}{s:Shared}{h3:H}{z:Nat}{y2:V}
 (A:AOk c n)(hroom:c.A.depth<1000)(R:Rel Γ {c with kept:=[(li,ol),(ri,or)]++((ga,og)::c.kept),gk:=(g,gs)::c.gk} ⟨ρ,ξ,m,s⟩ f lo h3)
 (hga:s.heap.get? ga=some og→s.heap.IsGen ga g)(hli: ∀hp:Heap,hp.get? li=some ol→hp.IsListIter li base 1)(hri: ∀hp:Heap,hp.get? ri=some or→hp.IsRevIter ri S (-1))(hz:h3[z]? =some (.list [y2]))(hb:ρ[z]? =some base)
 (hnc: ∀q∈[(li,ol),(ri,or)],∀vs qn tk,q.2.data= .fields vs→vs[1]? ≠some (.str qn tk))(hk: ∀p∈(ga,og)::c.kept,∀q∈[(li,ol),(ri,or)],p.1≠q.1)(hgk: ∀p∈c.gk,p.1≠g)
 (hgo: ∀s'' it,s''.heap.IsListIter li base 1→s''.heap.IsList base it→it[1]? =none→s''.heap.IsRevIter ri S (-1)→gs.Goes Γ.M c.A.in1 (λn s₀ r s₁=>r= .ok (.ret .none)∧PG li ri n s₀ s₁) (YG x li base ri S F) 0 (.send .none) s'')
 {Q:Option Value→Shared→Prop}{E:Value→Shared→Prop}(hQ: ∀ξ' s',Rel Γ c ⟨ρ,ξ',m,s'⟩ f lo h3→Q none s'):wpAny Γ.M c.A (pyNext (.ref ga)) Q E s:=by
 have k2:=R.led.frz _ (R.kp _ (.head _))
 have k3:=R.led.frz _ (R.kp _ (.tail _ (.head _)))
 have k1:=R.led.frz _ (R.kp _ (.tail _ (.tail _ (.head _))))
 have hgs:s.gens[g]? =some gs:=R.gk (g,gs) (.head _)
 refine el_EEEAAL (bh R hz) ?_
 intro b' vs j b1 b2 b3
 cases hb.symm.trans b1
 refine F0 (li:=li) (ri:=ri) (base:=base) (S:=S) (x:=x) (F:=F) A.hd ((R.gb.T.nolimit).keeps R.fr.keep) hroom (hga k1.1) hgs (hgo (s.setGen g .running) vs.toArray (hli _ k2.1) (aG b2) ?_ (hri _ k3.1)) λh2 hk2=> ?_
 · have:=b3.length
   rw[Array.getElem?_eq_none_iff]
   rw[TO,this];exact UY _
 · refine hQ _ _ (Rel.lessKept (a:=ga) (o:=og) (Rel.unkeepL (c:={c with kept:=(ga,og)::c.kept}) R (s':={(s.setGen g .running).setGen g .finished with heap:=h2}) hnc hk rfl (fi (fi R.gens rfl g) rfl g) (λp hp=> ?_) λb ob hb e=>hk2 b ob (hb _ (.tail _ (.head _))) (hb _ (.head _)) e))
   have:p.1≠g:=hgk p hp
   show((s.gens.setIfInBounds g .running).setIfInBounds g .finished)[p.1]? =_
   rw[dz this,dz this]
   exact R.gk p (.tail _ hp)
inductive GInv (Γ:Gl) (c:St0) (f:Frm) (lo3:Lo) (h3:H) (ρ:List Addr) (ga g:Nat) (nm qn:Str) (t1 t2:Tok) (s3:Shared) (base Sd Lg:Addr) (x:Value):Nat→Shared→Prop
 |a:GInv Γ c f lo3 h3 ρ ga g nm qn t1 t2 s3 base Sd Lg x 2 s3
 |b {s:Shared} {ρ5:List Addr} {ξ5:List (Addr×Obj)} {m5:Str→Option Value} {gs':Vw} {ol or:Obj}:(Ext ρ ρ5)→(Rel Γ {c with kept:=[(s3.heap.objs.size+1,ol),(s3.heap.objs.size,or)]++((ga,genObj g nm qn t1 t2)::c.kept),gk:=(g,gs')::c.gk} ⟨ρ5,ξ5,m5,s⟩ f lo3 h3)→((∀hp:Heap,hp.get? (s3.heap.objs.size+1)=some ol→hp.IsListIter (s3.heap.objs.size+1) base 1))→((∀hp:Heap,hp.get? s3.heap.objs.size=some or→hp.IsRevIter s3.heap.objs.size Sd (-1)))→((∀q∈[(s3.heap.objs.size+1,ol),(s3.heap.objs.size,or)],∀vs qn tk,q.2.data= .fields vs→vs[1]? ≠some (.str qn tk)))→((∀s'' it,s''.heap.IsListIter (s3.heap.objs.size+1) base 1→s''.heap.IsList base it→it[1]? =none→s''.heap.IsRevIter s3.heap.objs.size Sd (-1)→
  gs'.Goes Γ.M c.A.in1 (λn s₀ r s₁=>r= .ok (.ret .none)∧PG (s3.heap.objs.size+1) s3.heap.objs.size n s₀ s₁) (YG x (s3.heap.objs.size+1) base s3.heap.objs.size Sd (FG s3.heap Lg)) 0 (.send .none) s''))→GInv Γ c f lo3 h3 ρ ga g nm qn t1 t2 s3 base Sd Lg x 1 s
noncomputable def MS(Γ:Gl)(c:St0)(E:Value→Shared→Prop)(Q:Flow→Shared→Prop):Result→Shared→Prop:=λr s'=>match r with| .ok f=>Q f s'| .error e=>cameBackBy Γ.M c.A c.env E e s'
theorem u5{q:GPos}{env':Env}{Lg ga g:Nat}{nm qn:Str}{t1 t2:Tok}{ρ:List Addr}{ξ:List (Addr×Obj)}{m mm:Str→Option Value}{s3:Shared}{h1 h2 h3:H}{lo2 lo3:Lo}{l z:Nat}{y y2:V}{ys:List V}{Sd:Addr}{t:Mine.E}{b:S}{E:Value→Shared→Prop}{Q:Flow→Shared→Prop}(GE:GEnv env' Lg)(X:Snd Γ n ih)(A:AOk c n)(hroom:c.A.depth<1000)
 (R:Rel Γ c ⟨ρ,ξ,m,s3⟩ f lo h1)(hog:s3.heap.get? ga=some (genObj g nm qn t1 t2))(hgs:s3.gens[g]? =some (.fresh (.func (lC q) env')))(hgk: ∀p∈c.gk,p.1≠g)
 (OL:OffA c ⟨ρ,ξ,m,s3⟩ Lg)(OG:OffA c ⟨ρ,ξ,m,s3⟩ ga)(hgl:ga≠Lg)(hns:s3.heap.Ns Lg mm)(m1:mm "ns_stack"=some (.ref Sd))(m2:mm "_reversed"=some (.type "reversed"))(hSd:ρ[l]? =some Sd)
 (e9:h1[l]? =some (O.list (V.loc z::ys)))(e11:h1[z]? =some (O.list [y]))(e12: ∀v∈ys,∃k,v=V.loc k∧h1[k]? =some (O.list []))
 (e13:asg ih f lo h1 y t=some (lo2,h2))(e14:ih.s f lo2 h2 b=some (Fl.next,lo3,h3))(e15:h3[z]? =some (O.list [y2]))(hQ:PostS Γ c ⟨ρ,ξ,m,s3⟩ f (Fl.next,lo3,h3) Q):
 codeAny Γ.M c.A (.forLoop (dE t) (.ref ga) (dB b) [] c.env) (MS Γ c E Q) s3:=by
 refine el_EEEAAL (bh R e9) ?_
 intro a1 vs j1 b1 b2 b3
 cases hSd.symm.trans b1
 refine el_EEEAAL (bh R e11) ?_
 intro base vb j2 c1 c2 c3
 cases b3 with
 | @cons _ w _ wr w1 w2=>
 refine el_EAL w1 ?_
 clear w1
 rintro base' c1' rfl
 cases c1.symm.trans c1'
 cases c3 with
 | @cons _ x _ _ x1 x2=>
 cases x2
 have nSd:=OL.r
 have hS:=aG b2
 have hB:=aG c2
 have hSL:Sd≠Lg:=λe=>nSd (e▸Tq hSd)
 have hBL:base≠Lg:=λe=>nSd (e▸Tq c1)
 have hE: ∀j,1≤j→j<((Value.ref base::wr).toArray).size→ ∃a,((Value.ref base::wr).toArray)[j]? =some (.ref a)∧s3.heap.IsList a #[]∧a≠Lg:=by
  intro j j1 j2
  refine el_EL (exS j1) ?_
  rintro i rfl
  have hi:i<ys.length:=by
   have:=w2.length
   rw[←this];exact Nat.lt_of_succ_lt_succ j2
  refine el_EAL (w2.get (S7 hi)) ?_
  intro w g1 g2
  refine el_EAL (e12 _ (List.getElem_mem hi)) ?_
  intro k e1 e2
  rw[e1]at g2
  refine el_EAL g2 ?_
  clear g2
  rintro a e3 rfl
  refine el_EEEAAL (bh R e2) ?_
  intro a' vs j5 f1 f2 f3
  cases e3.symm.trans f1
  cases f3
  exact⟨a,by simpa using g1,aG f2,λe=>nSd (e▸Tq e3)⟩
 have o1:OffA c ⟨ρ,ξ,m,s3⟩ (s3.heap.objs.size+1):=R.fresh (U6 _)
 have o2:OffA c ⟨ρ,ξ,m,s3⟩ s3.heap.objs.size:=R.fresh (UY _)
 have hgz:ga<s3.heap.objs.size:=UN hog
 have hkz: ∀p∈c.kept,p.1<s3.heap.objs.size:=λp hp=>UN (R.led.frz p (R.kp p hp)).1
 refine codeAny_forLoop_any (GInv Γ c f lo3 h3 ρ ga g nm qn t1 t2 s3 base Sd Lg x) (λk s hI=> ?_) 2 .a
 cases hI with
 |a=>
  refine FZ q GE A.hd ((R.gb.T.nolimit).keeps R.fr.keep) hroom (fJ hog) hgs hns m1 m2 hS hSL hB hBL rfl hE λh1' tk gs' hb k1 k2 k3 hgo=> ?_
  refine el_EAAL k2 ?_
  clear k2
  intro ol ol1 ol2 ol3
  refine el_EAAL k3 ?_
  clear k3
  intro or or1 or2 or3
  have R4:Rel Γ c ⟨ρ,ξ,m,({s3.setGen g .running with heap:=h1',toks:=tk}:Shared).setGen g gs'⟩ f lo h1:=R.shift (s':=({s3.setGen g .running with heap:=h1',toks:=tk}:Shared).setGen g gs') rfl (fi (fi R.gens rfl g) hb g) (λp hp=>by
   show((s3.gens.setIfInBounds g .running).setIfInBounds g gs')[p.1]? =_
   rw[dz (hgk p hp),dz (hgk p hp)]
   exact R.gk p hp) (λa=>a=Lg) (λa e=>e▸OL) (λb ob hb e=>k1 b ob hb e)
  have hga4:h1'.get? ga=some (genObj g nm qn t1 t2):=k1 ga _ hgl hog
  have Rk:=R4.keepL [(s3.heap.objs.size+1,ol),(s3.heap.objs.size,or),(ga,genObj g nm qn t1 t2)] ((g,gs')::c.gk) (λp hp=>by
   rcases Uz.mp hp with rfl|hp
   · exact⟨ol1,o1.b,o1.l,o1.r,o1.x⟩
   · rcases Uz.mp hp with rfl|hp
     · exact⟨or1,o2.b,o2.l,o2.r,o2.x⟩
     · rw[TF.mp hp]
       exact⟨hga4,OG.b,OG.l,OG.r,OG.x⟩) (λp hp=>by
   rcases Uz.mp hp with rfl|hp
   · exact fj (fj hgs)
   · exact R4.gk p hp)
  refine mR hga4 rfl ?_
  refine kT (c:={c with kept:=[(s3.heap.objs.size+1,ol),(s3.heap.objs.size,or),(ga,genObj g nm qn t1 t2)]++c.kept,gk:=(g,gs')::c.gk}) (d:=⟨ρ,_,m,_⟩) X (A.kg _ _) Rk x1 e13 λρ5 ξ5 m5 s5 x5 R5=> ?_
  refine X.s {c with kept:=[(s3.heap.objs.size+1,ol),(s3.heap.objs.size,or),(ga,genObj g nm qn t1 t2)]++c.kept,gk:=(g,gs')::c.gk} ⟨ρ5,ξ5,m5,s5⟩ f lo2 h2 b (.next,lo3,h3) _ _ (A.kg _ _) R5 e14 λρ6 ξ6 m6 s6 fl x6 R6 hf=> ?_
  cases(hf:fl= .next)
  refine⟨1,by decide,.b (x5.trans x6) R6 (λhp e=>⟨ol,e,ol2,ol3⟩) (λhp e=>⟨or,e,or2,or3⟩) (λp hp vs qn tk e=> ?_) hgo⟩
  rcases Uz.mp hp with rfl|hp
  · rw[show ol.data=_ from ol3]at e;cases e;intro z;cases z
  · rw[TF.mp hp]at e
    rw[show or.data=_ from or3]at e;cases e;intro z;cases z
 | @b s ρ5 ξ5 m5 gs' ol or x5 R5 hli hri hnc hgo=>
  refine sq A hroom R5 (λe=>fJ e) hli hri e15 (x5.get c1) hnc (λp hp q hq=> ?_) hgk hgo λξ' s' R'=> ?_
  · have:p.1<s3.heap.objs.size:=by
     rcases Uz.mp hp with rfl|hp
     · exact hgz
     · exact hkz p hp
    rcases Uz.mp hq with rfl|hq
    · exact UL (TS this)
    · rw[TF.mp hq]
      exact UL this
  · exact Uo (hQ ρ5 ξ' m5 s' _ x5 R' rfl)
end
section
variable{Γ:Gl}{c:St0}{d:Dy}{f:Frm}{lo:Lo}{h:H}{n:Nat}{ih:Ih}
theorem z0(G0:GOk Γ)(G:COk Γ){W:GenW}(GN:GenOk Γ W){t:Mine.E}{s m s' a:Str}{ps pm ps' pa pc p:Pos}{b:S}{x:R3}{Q:Flow→Shared→Prop}{E:Value→Shared→Prop}(X:Snd Γ n ih)(A:AOk c (n+1))(R:Rel Γ c d f lo h)
 (hv:gforS ih f lo h t s m pm s' ps' a pa pc b=some x)(hQ:PostS Γ c d f x Q):wpAny Γ.M c.A (exec (dS (.gfor t s ps m pm s' ps' a pa pc b p)).1 c.env) Q E d.s:=by
 refine bi (mS hv) ?_
 intro g1 hl qX
 refine el_EEEL qX ?_
 clear qX
 intro k C j qX
 refine el_EEAAL qX ?_
 clear qX
 intro es fn e1 e3 qX
 refine aD qX ?_
 clear qX
 intro e5 e6 g3 qX
 refine el_EEEL qX ?_
 clear qX
 intro l h1 z qX
 refine el_EEAAL qX ?_
 clear qX
 intro y ys e7 e9 qX
 refine bi qX ?_
 clear qX
 intro e11 e12 qX
 refine el_EEEL qX ?_
 clear qX
 intro lo2 h2 lo3 qX
 refine el_EEAAL qX ?_
 clear qX
 intro h3 y2 e13 e14 qX
 refine ae qX ?_
 clear qX
 rintro e15 rfl
 clear hv
 refine el_AEAL (X.mt _ _ e5) ?_
 rintro rfl cd hcls hlook
 show wpAny Γ.M c.A (exec (.For (dE t) (dE (.meth (.nm s ps) m pm (.cons (.attr (.nm s' ps') a pa) .nil) pc)) (dB b) [] p) c.env) Q E d.s
 refine wpAny_For ?_ (λZ=>rfl)
 refine cg (o:= .nm s ps) (args:= .cons (.attr (.nm s' ps') a pa) .nil) (λy z=>ff (congrArg ma z)) rfl hl rfl rfl ?_
 refine eN G0 R e1 λw hw pl=> ?_
 refine el_EAL hw ?_
 clear hw
 rintro ad g4 rfl
 refine el_EEEL (eX R e3 e6) ?_
 intro a' dx ds qX
 refine el_EAAL qX ?_
 clear qX
 intro i i1 i2 qX
 refine aD qX ?_
 clear qX
 intro i3 i4 i5 i6
 cases g4.symm.trans i1
 have Mo:=G.me _ _ _ _ hcls hlook
 have em:m=mkS w_iter_namespaces:=by rw[←g1];rfl
 rw[em]
 refine method_inst R.fr R.gb.K i6 Mo.hg Mo.ha Mo.hf ((i5.getL (x:=w_iter_namespaces)).2 g3) ?_
 have hev:evs ih f lo (.cons (.attr (.nm s' ps') a pa) .nil) h=some ([.loc l],h1):=by
  show ob (ih.e f lo h (.attr (.nm s' ps') a pa)) _=_
  rw[e7]
 refine cR (g:= .ref Γ.g.genA) (first:=[.ref ad]) X A.less R hev λρ2 ξ2 s2 ws x2 R2 v2=> ?_
 clear i1 i2 i3 i4 i5 i6 hev e6 g4 em
 have hK:=R2.gb.K.keeps R2.fr.keep
 cases v2 with
 |cons v2 vn=>
 cases vn
 refine el_EAL v2 ?_
 clear v2
 rintro Sd hSd rfl
 refine⟨yo (by unfold fnIn;rw[GN.lk]) hK,Vi ?_⟩
 have hroom:c.A.depth<1000:=dp1 A.dp
 refine codeAny_call_generator hroom (hK _ _ GN.lk) rfl GN.co GN.ge rfl (codeRec_of hK GN.cdi) (GN.bind _ _ _ hK _ _ _ _ ?_)
 refine wpAny_newFunctionEnv GN.nc (λy hy=> ?_) (λhA hns hsb=> ?_) GN.kd
 · rcases Uz.mp hy with rfl|hy
   · exact GN.k0
   · rcases Uz.mp hy with rfl|hy
     · exact GN.k2
     · rw[TF.mp hy];exact GN.k3
 refine⟨((R2.gb.T.nolimit).keeps R2.fr.keep).fresh _ hsb,?_⟩
 have hA1: ∀b o,s2.heap.get? b=some o→hA.get? b=some o:=λb o e=>(hsb.2 b (UL (UN e))).trans (Tf _ e)
 have hAz:hA.objs.size=s2.heap.objs.size+1:=hsb.1.trans (size_push' _ _)
 have hog: ∀o:Obj,o.isFreed=false→(hA.push o).get? hA.objs.size=some o:=λo ho=>Tz _ ho
 refine wpAny_pyIter_gen (g:=s2.gens.size) (fJ (hog (genObj s2.gens.size W.fd.name W.fd.qualname _ _) rfl)) ?_
 have kA: ∀p∈c.gk,p.1<s2.gens.size:=λp hp=>by
  have:=R2.gk p hp
  rw[Array.getElem?_eq_some_iff]at this
  exact this.1
 have R3: ∀(o:Obj) (gs:Vw) (tk:Nat),gs.bare=true→Rel Γ c ⟨ρ2,ξ2,d.m,{s2 with heap:=hA.push o,gens:=s2.gens.push gs,toks:=tk}⟩ f lo h1:=λo gs tk hb=>
  R2.shift (s':={s2 with heap:=hA.push o,gens:=s2.gens.push gs,toks:=tk}) rfl (R2.gens.push hb) (λp hp=>by
   rw[Array.getElem?_push,if_neg (UL (kA p hp))]
   exact R2.gk p hp) (λZ=>False) (λZ e=>e.elim) λb ob Z e=>Tf _ (hA1 b ob e)
 have OL:=R2.fresh (UY s2.heap.objs.size)
 have OG:=R2.fresh (a:=hA.objs.size) (by rw[hAz];exact U6 _)
 have GE:GEnv (newEnv W.scope s2.heap.objs.size U1 [] (W.qual++".<locals>.") (some Γ.g.genA) (.ref W.cd) none builtinsNs) s2.heap.objs.size:=⟨GN.kd,rfl,GN.k1,GN.k2,GN.k3,GN.co⟩
 refine u5 (q:=W.q) (ga:=hA.objs.size) (g:=s2.gens.size) (Lg:=s2.heap.objs.size) (Sd:=Sd) GE X A.less hroom (R3 _ _ _ rfl) (hog (genObj s2.gens.size W.fd.name W.fd.qualname _ _) rfl) Array.getElem?_push_size (λp hp=>UL (kA p hp)) ⟨OL.b,OL.l,OL.r,OL.x⟩ ⟨OG.b,OG.l,OG.r,OG.x⟩
  (by rw[hAz];exact Nat.succ_ne_self _) (hns.push _) (by rfl) (by rfl) hSd e9 e11 e12 e13 e14 e15 λρ' ξ' m' s' fl x' R' hf=>hQ ρ' ξ' m' s' fl (x2.trans x') R' hf
end
theorem u6{Γ:Gl}(G:GOk Γ)(C:COk Γ)(I:ItemsOk Γ)(LO:LamOk Γ){W:GenW}(GN:GenOk Γ W):Gaps Γ where
 set1 A R hv hQ:=zV G LO.kc A R hv hQ
 sort A R hv hQ:=zY G LO A R hv hQ
 items A R hv hQ:=uY G I A R hv hQ
 gfor X A R hv hQ:=z0 G C GN X A R hv hQ
section
noncomputable def cB(k:Nat)(is:List Nat):Option Nat:= @Vq Nat (λZ=>Nat→Option Nat) Za (λa Z ih n=> @Vt (λZ=>Option Nat) (ih (Nat.succ n)) (some n) (Nat.beq k a)) is 0
theorem nV{k:Nat}: ∀(is:List Nat) (n i:Nat),@Vq Nat (λZ=>Nat→Option Nat) Za (λa Z ih n=> @Vt (λZ=>Option Nat) (ih (Nat.succ n)) (some n) (Nat.beq k a)) is n=some i→n≤i∧is[i-n]? =some k
 |[],n,i,h=>nomatch h
 |a::is,n,i,h=>by
  have h': @Vt (λZ=>Option Nat) (@Vq Nat (λZ=>Nat→Option Nat) Za (λa Z ih n=> @Vt (λZ=>Option Nat) (ih (Nat.succ n)) (some n) (Nat.beq k a)) is (Nat.succ n)) (some n) (Nat.beq k a)=some i:=h
  cases q:Nat.beq k a with
  |true=>
   rw[q]at h'
   obtain rfl:=Ud h'
   rw[Tj q]
   exact⟨UY _,by simp⟩
  |false=>
   rw[q]at h'
   refine ae (nV is (n+1) i h') ?_
   intro h1 h2
   refine⟨Nat.le_of_succ_le h1,?_⟩
   rw[zk h1]
   exact h2
theorem eC{k i:Nat}{is:List Nat}(h:cB k is=some i):is[i]? =some k:=(nV is 0 i h).2
noncomputable def renV(σ:Nat→Option Nat)(v:V):Option V:= @V.casesOn (λZ=>Option V) v (some .none) (λb=>some (.bool b)) (λi=>some (.int i)) (λs=>some (.str s)) (λa=>some (.top a)) (λn=>some (.prim n)) (λk=>ob (σ k) λj=>some (.loc j)) (λr=>some (.m32 r)) (λr p=>some (.sh r p))
def cC(σ:Nat→Option Nat)(l:List V):Option (List V):= @Vq V (λZ=>Option (List V)) (some []) (λv Z r=>ob (renV σ v) λu=>ob r λus=>some (u::us)) l
def nW(σ:Nat→Option Nat)(l:List (T×V)):Option (List (T×V)):= @Vq (T×V) (λZ=>Option (List (T×V))) (some []) (λp Z r=>ob (renV σ p.2) λu=>ob r λus=>some ((p.1,u)::us)) l
def b9(σ:Nat→Option Nat)(o:O):Option O:= @O.casesOn (λZ=>Option O) o (λxs=>ob (cC σ xs) λus=>some (.list us)) (λxs=>ob (cC σ xs) λus=>some (.tup us)) (λc d=>ob (σ d) λe=>some (.inst c e)) (λes=>ob (nW σ es) λus=>some (.sd us))
 (λv=> @U9 V (λZ=>Option O) (some (.cell none)) (λu=>some (.cell (renV σ u))) v) (λxs=>some (.set xs)) (λk=>ob (σ k) λj=>some (.bm j)) (λk f=>ob (σ k) λj=>some (.meth j f)) (λa b=>some (.rng a b)) Za (some .dead) (some .ltab) (λs=>some (.one s))
section
variable{ρ ρ':List Addr}{σ:Nat→Option Nat}(hσ: ∀k j,σ k=some j→ ∀a,ρ[k]? =some a→ρ'[j]? =some a)
include hσ
theorem VR.ren{v v':V}{w:Value}(h:VR ρ v w)(e:renV σ v=some v'):VR ρ' v' w:=by
 cases v with
 |loc k=>
  refine aw (e:ob (σ k) (λj=>some (.loc j))=some v') ?_
  clear e
  intro j e1 e
  obtain rfl:=Ud e
  refine el_EAL h ?_
  clear h
  intro a h1 h2
  exact⟨a,hσ k j e1 a h1,h2⟩
 |_=>cases e;exact h
theorem VsR.ren: ∀{vs vs':List V} {ws:List Value},VsR ρ vs ws→cC σ vs=some vs'→VsR ρ' vs' ws
 |_,_,_,.nil,e=>by cases e;exact .nil
 |_,_,_,.cons (v:=v) (vs:=vs) h r,e=>by
  refine aR (e:ob (renV σ v) (λu=>ob (cC σ vs) λus=>some (u::us))=some _) ?_
  clear e
  intro u e1 us e2 e
  obtain rfl:=Ud e
  exact .cons (h.ren hσ e1) (VsR.ren r e2)
theorem SdR.ren{P:Params}: ∀{vs vs':List (T×V)} {ws:List Vk},SdR P ρ vs ws→nW σ vs=some vs'→SdR P ρ' vs' ws
 |_,_,_,.nil,e=>by cases e;exact .nil
 |_,_,_,.cons (x:=x) (v:=v) (es:=vs) h r,e=>by
  refine aR (e:ob (renV σ v) (λu=>ob (nW σ vs) λus=>some ((x,u)::us))=some _) ?_
  clear e
  intro u e1 us e2 e
  obtain rfl:=Ud e
  exact .cons (h.ren hσ e1) (SdR.ren r e2)
theorem OR.ren{D:Wd}{ξ ξ':List (Addr×Obj)}{o o':O}{b:Obj}(h:OR D ρ ξ o b)(e:b9 σ o=some o')(hlt:o= .ltab→OR D ρ ξ .ltab b→OR D ρ' ξ' .ltab b):OR D ρ' ξ' o' b:=by
 cases o with
 |list xs=>
  refine aw (e:ob (cC σ xs) (λus=>some (.list us))=some o') ?_
  clear e
  intro us e1 e
  obtain rfl:=Ud e
  refine el_EEAL h ?_
  clear h
  intro vs n a c
  exact⟨vs,n,a,c.ren hσ e1⟩
 |tup xs=>
  refine aw (e:ob (cC σ xs) (λus=>some (.tup us))=some o') ?_
  clear e
  intro us e1 e
  obtain rfl:=Ud e
  refine el_EAL h ?_
  clear h
  intro vs a c
  exact⟨vs,a,c.ren hσ e1⟩
 |inst c d=>
  refine aw (e:ob (σ d) (λj=>some (.inst c j))=some o') ?_
  clear e
  intro j e1 e
  obtain rfl:=Ud e
  refine el_EAL h ?_
  clear h
  intro dx a b
  exact⟨dx,hσ d j e1 dx a,b⟩
 |sd es=>
  refine aw (e:ob (nW σ es) (λus=>some (.sd us))=some o') ?_
  clear e
  intro us e1 e
  obtain rfl:=Ud e
  refine el_EEAL h ?_
  clear h
  intro ds n a c
  exact⟨ds,n,a,c.ren hσ e1⟩
 |cell v=>
  refine el_EAL h ?_
  clear h
  intro w a c
  cases v with
  |none=>cases e;exact⟨w,a,λv' e=>by cases e⟩
  |some u=>
   obtain rfl:=Ud (e:some (O.cell (renV σ u))=some o')
   exact⟨w,a,λv' e=>let ⟨w',p,q⟩:=c u rfl;⟨w',p,q.ren hσ e⟩⟩
 |bm k=>
  refine aw (e:ob (σ k) (λj=>some (.bm j))=some o') ?_
  clear e
  intro j e1 e
  obtain rfl:=Ud e
  refine el_EAL h ?_
  clear h
  intro a p q
  exact⟨a,hσ k j e1 a p,q⟩
 |meth k f=>
  refine aw (e:ob (σ k) (λj=>some (.meth j f))=some o') ?_
  clear e
  intro j e1 e
  obtain rfl:=Ud e
  refine el_EAL h ?_
  clear h
  intro a p q
  exact⟨a,hσ k j e1 a p,q⟩
 |kd es=>exact nn e
 |ltab=>cases e;exact hlt rfl h
 |_=>cases e;exact h
end
def NC(b:Obj):Prop:= ∀vs q tk,b.data= .fields vs→vs[1]? ≠some (.str q tk)
theorem OR.nc{Γ:Gl}{ρ:List Addr}{ξ:List (Addr×Obj)}{o:O}{b:Obj}(h:OR Γ.D ρ ξ o b):NC b:=by
 intro vs q tk e
 cases o with
 |list xs=>obtain⟨_,_,rfl,_⟩:=h;cases e
 |tup xs=>obtain⟨_,rfl,_⟩:=h;cases e
 |inst c d=>obtain⟨_,_,rfl⟩:=h;cases e
 |sd es=>obtain⟨_,_,rfl,_⟩:=h;cases e
 |cell v=>obtain⟨_,a,_⟩:=h;rw[a]at e;cases e
 |set xs=>obtain⟨_,_,_,_,a,_⟩:=h;rw[a]at e;cases e
 |bm k=>obtain⟨_,_,_,a⟩:=h;rw[a]at e;cases e;intro z;cases z
 |meth k f=>obtain⟨_,_,rfl⟩:=h;cases e;intro z;cases z
 |rng a b=>obtain⟨_,_,_,rfl⟩:=h;cases e;intro z;cases z
 |kd es=>obtain⟨_,_,a,_⟩:=h;rw[a]at e;cases e
 |dead=>exact h vs q tk e
 |ltab=>
  rcases h.2 with rfl|qA
  · cases e;intro z;cases z
  · refine el_EAL qA ?_
    clear qA
    intro p _ hl
    exact Γ.lamt _ _ _ hl vs q tk e
 |one s=>obtain⟨_,_,_,rfl,_⟩:=h;cases e
end
section
noncomputable def sel(is:List Nat)(ρ:List Addr):List Addr:=is.map λk=>ρ.getD k 0
def ef(σ:Nat→Option Nat)(h:H)(is:List Nat):Option H:= @Vq Nat (λZ=>Option H) (some []) (λk Z r=>ob (nth h k) λo=>ob (b9 σ o) λu=>ob r λus=>some (u::us)) is
def subs(is:List Nat)(h:H):Option H:=ef (λk=>cB k is) h is
theorem dA{σ:Nat→Option Nat}{h:H}: ∀{is:List Nat} {h':H},ef σ h is=some h'→h'.length=is.length∧ ∀(i k:Nat),is[i]? =some k→ ∃o o',h[k]? =some o∧h'[i]? =some o'∧b9 σ o=some o'
 |[],h',e=>by cases e;exact⟨rfl,λi k hi=>by simp at hi⟩
 |k::is,h',e=>by
  refine aB (e:ob (nth h k) (λo=>ob (b9 σ o) λu=>ob (ef σ h is) λus=>some (u::us))=some h') ?_
  clear e
  intro o e1 u e2 us e3 e
  obtain rfl:=Ud e
  refine ae (dA e3) ?_
  intro l x
  rw[ap]at e1
  refine⟨by simp[l],λi k' hi=> ?_⟩
  cases i with
  |zero=>cases hi;exact⟨o,u,e1,rfl,e2⟩
  |succ i=>exact x i k' (by simpa using hi)
theorem cY{is:List Nat}{ρ:List Addr}{k j:Nat}{a:Addr}(h:is[j]? =some k)(ha:ρ[k]? =some a):(sel is ρ)[j]? =some a:=by
 unfold sel
 rw[TN,h]
 simp[ha]
theorem eO{is:List Nat}{ρ:List Addr}(lt: ∀k∈is,k<ρ.length){j:Nat}{a:Addr}(h:(sel is ρ)[j]? =some a): ∃k,is[j]? =some k∧ρ[k]? =some a:=by
 unfold sel at h
 rw[TN]at h
 cases q:is[j]? with
 |none=>rw[q]at h;cases h
 |some k=>
  rw[q]at h
  have:=lt k (Tq q)
  refine⟨k,rfl,?_⟩
  rw[S7 this]
  have h:some (ρ.getD k 0)=some a:=h
  rw[←h]
  simp[S7 this]
theorem hZ{α:Type}{l:List α}(h:l.Nodup){i j:Nat}{a:α}(hi:l[i]? =some a)(hj:l[j]? =some a):i=j:=by
 rw[S3]at hi hj
 refine el_EL hi ?_
 clear hi
 intro p e
 refine el_EL hj ?_
 clear hj
 intro q f
 rw[S2,S6]at h
 rcases Nat.lt_trichotomy i j with c|c|c
 · exact absurd (e.trans f.symm) (h i j p q c)
 · exact c
 · exact absurd (f.trans e.symm) (h j i q p c)
theorem jp{α:Type}{l:List α}(h: ∀(i j:Nat) (a:α),l[i]? =some a→l[j]? =some a→i=j):l.Nodup:=by
 rw[S2,S6]
 intro i j hi hj hij e
 exact UL hij (h i j _ (S7 hi) (by rw[S7 hj,e]))
variable{Γ:Gl}{h₀ hp:Heap}{L:Addr}{ρ:List Addr}{ξ:List (Addr×Obj)}{h:H}
theorem Led.ren(Y:Led Γ.D h₀ L hp ρ ξ h){is:List Nat}(nd:is.Nodup)(lt: ∀k∈is,k<ρ.length)(z:is[0]? =some 0){h':H}(e:subs is h=some h')(fz:List (Addr×Obj))(hfz: ∀p∈fz,∃k,k∉is∧ρ[k]? =some p.1∧hp.get? p.1=some p.2):
 Led Γ.D h₀ L hp (sel is ρ) (fz++ξ) h':=by
 refine ae (dA e) ?_
 intro l x
 have inj: ∀i j a,(sel is ρ)[i]? =some a→(sel is ρ)[j]? =some a→i=j:=λi j a hi hj=>by
  refine el_EAL (eO lt hi) ?_
  intro k1 a1 b1
  refine el_EAL (eO lt hj) ?_
  intro k2 a2 b2
  cases hZ Y.nd b1 b2
  exact hZ nd a1 a2
 refine⟨by rw[l];unfold sel;simp,jp inj,λi a o' ha ho=> ?_,λa ha=> ?_,λp hp'=> ?_⟩
 · refine el_EAL (eO lt ha) ?_
   intro k a1 b1
   refine el_EEAAL (x i k a1) ?_
   intro o u x1 x2 x3
   cases ho.symm.trans x2
   refine el_EAL (Y.obj k a o b1 x1) ?_
   intro b c1 c2
   refine⟨b,c1,c2.ren (λk j hk a ha=>cY (eC hk) ha) x3 λZ y=> ?_⟩
   exact⟨cY z y.1,y.2.imp id λ⟨p,hp,q⟩=>⟨p,Tl _ hp,q⟩⟩
 · refine el_EL (Ts ha) ?_
   intro i hi
   refine el_EAL (eO lt hi) ?_
   intro k a1 b1
   exact Y.new a (Tq b1)
 · rcases Ue.mp hp' with q|q
   · refine el_EAAL (hfz p q) ?_
     intro k hk a1 a2
     have n:=Y.new _ (Tq a1)
     refine⟨a2,n.1,n.2.1,λhm=> ?_⟩
     refine el_EL (Ts hm) ?_
     intro i hi
     refine el_EAL (eO lt hi) ?_
     intro k' b1 b2
     cases hZ Y.nd a1 b2
     exact hk (Tq b1)
   · have:=Y.frz p q
     refine⟨this.1,this.2.1,this.2.2.1,λhm=> ?_⟩
     refine el_EL (Ts hm) ?_
     intro i hi
     refine el_EAL (eO lt hi) ?_
     intro k' b1 b2
     exact this.2.2.2 (Tq b2)
noncomputable def setAll:List Nat→List O→H→H
 |k::is,o::os,h=>setAll is os (h.set k o)
 |_,_,h=>h
theorem cp: ∀(is:List Nat) (os:List O) (h:H),(setAll is os h).length=h.length
 |[],os,h=>by unfold setAll;rfl
 |k::is,[],h=>rfl
 |k::is,o::os,h=>by show(setAll is os (h.set k o)).length=_;rw[cp];simp
theorem dC{k:Nat}: ∀(is:List Nat) (os:List O) (h:H),k∉is→(setAll is os h)[k]? =h[k]?
 |[],os,h,_=>by unfold setAll;rfl
 |j::is,[],h,_=>rfl
 |j::is,o::os,h,hk=>by
  show(setAll is os (h.set j o))[k]? =_
  rw[dC is os _ (λq=>hk (.tail _ q)),Tw (λq=>hk (by rw[q];exact .head _))]
theorem fK{k:Nat}{o:O}: ∀(is:List Nat) (os:List O) (h:H) (i:Nat),is.Nodup→is[i]? =some k→os[i]? =some o→k<h.length→(setAll is os h)[k]? =some o
 |[],os,h,i,_,hk,_,_=>by simp at hk
 |j::is,[],h,i,_,_,ho,_=>by simp at ho
 |j::is,o1::os,h,i,nd,hk,ho,hl=>by
  show(setAll is os (h.set j o1))[k]? =_
  rw[Uf]at nd
  cases i with
  |zero=>
   cases hk;cases ho
   rw[dC _ _ _ nd.1,Ti hl]
  |succ i=>exact fK is os _ i nd.2 (by simpa using hk) (by simpa using ho) (by simpa using hl)
def backN(is:List Nat)(n:Nat)(k:Nat):Option Nat:= @Vt (λZ=>Option Nat) (some (Nat.add n (Nat.sub k (len is)))) (nth is k) (Nat.blt k (len is))
end
section
def renOs(σ:Nat→Option Nat)(l:List O):Option (List O):= @Vq O (λZ=>Option (List O)) (some []) (λv Z r=>ob (b9 σ v) λu=>ob r λus=>some (u::us)) l
theorem h8{σ:Nat→Option Nat}: ∀{l l':List O},renOs σ l=some l'→l'.length=l.length∧ ∀(i:Nat) (o:O),l[i]? =some o→ ∃o',l'[i]? =some o'∧b9 σ o=some o'
 |[],l',e=>by cases e;exact⟨rfl,λi o h=>by simp at h⟩
 |o::l,l',e=>by
  refine aR (e:ob (b9 σ o) (λu=>ob (renOs σ l) λus=>some (u::us))=some l') ?_
  clear e
  intro u e1 us e2 e
  obtain rfl:=Ud e
  refine ae (h8 e2) ?_
  intro a b
  refine⟨by simp[a],λi o' hi=> ?_⟩
  cases i with
  |zero=>cases hi;exact⟨u,rfl,e1⟩
  |succ i=>exact b i o' (by simpa using hi)
theorem sr{is:List Nat}{n k:Nat}(h:k<is.length):backN is n k=is[k]? :=by
 unfold backN
 rw[aO,show Nat.blt k is.length=true from Vg.mpr h,ap]
theorem ss{is:List Nat}{n k:Nat}(h:is.length≤k):backN is n k=some (n+(k-is.length)):=by
 unfold backN
 rw[aO,show Nat.blt k is.length=false by
  cases q:Nat.blt k is.length with
  |false=>rfl
  |true=>exact absurd (Vg.mp q) (Vd.mpr h)]
 rfl
variable{Γ:Gl}{h₀ hp:Heap}{L:Addr}{ρ:List Addr}{ξ:List (Addr×Obj)}{h:H}
theorem nX{is:List Nat}{ρ2:List Addr}(lt: ∀k∈is,k<ρ.length)(x:Ext (sel is ρ) ρ2): ∀k j,backN is ρ.length k=some j→ ∀a,ρ2[k]? =some a→(ρ++ρ2.drop is.length)[j]? =some a:=by
 intro k j hk a ha
 have hl:(sel is ρ).length=is.length:=by unfold sel;simp
 by_cases q:k<is.length
 · rw[sr q]at hk
   refine el_EL x ?_
   clear x
   rintro r rfl
   rw[S4 (by rw[hl];exact q)]at ha
   refine el_EAL (eO lt ha) ?_
   intro k' a1 b1
   cases hk.symm.trans a1
   rw[S4 (lt _ (Tq hk))]
   exact b1
 · have q:=Nat.le_of_not_lt q
   rw[ss q]at hk
   obtain rfl:=Ud hk
   rw[S1 (T2 _ _),List.getElem?_drop,Tc,MH q]
   exact ha
theorem Led.thaw{h₁ hp2:Heap}{L2:Addr}{ρ2:List Addr}{ξ2:List (Addr×Obj)}{h2 h2':H}(Y:Led Γ.D h₀ L hp ρ ξ h){is:List Nat}(nd:is.Nodup)(lt: ∀k∈is,k<ρ.length)(z:is[0]? =some 0)
 (Y2:Led Γ.D h₁ L2 hp2 ρ2 ξ2 h2)(x:Ext (sel is ρ) ρ2)(hξ: ∀p∈ξ,p∈ξ2)(hfz: ∀k a o,ρ[k]? =some a→k∉is→h[k]? =some o→ ∃b,(a,b)∈ξ2∧OR Γ.D ρ ξ o b)(e:renOs (backN is h.length) h2=some h2'):
 Led Γ.D h₁ L2 hp2 (ρ++ρ2.drop is.length) (ξ2.filter λp=> !(ρ.contains p.1)) (setAll is h2' h++h2'.drop is.length):=by
 refine ae (h8 e) ?_
 intro l2 x2
 have hl:(sel is ρ).length=is.length:=by unfold sel;simp
 have hl2:is.length≤ρ2.length:=by obtain⟨r,rfl⟩:=x;simp[hl]
 rw[←Y.len]at e x2
 have σ:=nX (ρ2:=ρ2) lt x
 have inSel: ∀{i k a},is[i]? =some k→ρ[k]? =some a→ρ2[i]? =some a:=λhi ha=>x.get (cY hi ha)
 have fzAt: ∀{k a},ρ[k]? =some a→k∉is→ ∃b o,(a,b)∈ξ2∧h[k]? =some o∧OR Γ.D ρ ξ o b:=λ{k a} ha hk=>by
  have hlt:k<h.length:=by rw[←Y.len];rw[S3]at ha;exact ha.1
  refine el_EAL (hfz k a h[k] ha hk (S7 hlt)) ?_
  intro b b1 b2
  exact⟨b,h[k],b1,S7 hlt,b2⟩
 have keepP: ∀p∈ξ2,(∀k,ρ[k]? ≠some p.1)→p∈ξ2.filter λp=> !(ρ.contains p.1):=λp hp hk=>by
  refine Ug.mpr ⟨hp,?_⟩
  cases q:ρ.contains p.1 with
  |false=>rfl
  |true=>
   refine el_EL (Ts (List.elem_iff.mp q)) ?_
   intro k hk'
   exact absurd hk' (hk k)
 have lamP: ∀p∈ξ2,∀t,Γ.lam p.1 p.2 t→p∈ξ2.filter λp=> !(ρ.contains p.1):=λp hp t hlam=>keepP p hp λk hk=>by
  refine el_EEEAL (Γ.lamc _ _ _ hlam) ?_
  intro vs qn tk d1 d2
  have fp:=Y2.frz p hp
  by_cases hi:k∈is
  · refine el_EL (Ts hi) ?_
    intro i hi
    exact fp.2.2.2 (Tq (inSel hi hk))
  · refine el_EEAAL (fzAt hk hi) ?_
    intro b o b1 b2 b3
    have:=(Y2.frz _ b1).1
    rw[fp.1]at this
    cases this
    exact b3.nc vs qn tk d1 d2
 have ltabF: ∀b,(Γ.D.tabA=Γ.D.tabA)→ρ[0]? =some Γ.D.tabA→(b=X.tableObj #[]∨ ∃p∈ξ2,Γ.D.lam p.1 p.2 b)→OR Γ.D (ρ++ρ2.drop is.length) (ξ2.filter λp=> !(ρ.contains p.1)) .ltab b:=λb Z h0 hb=>by
  refine⟨by rw[S4 (by rw[S3]at h0;exact h0.1)];exact h0,hb.imp id λ⟨p,hp,q⟩=>⟨p,lamP p hp b q,q⟩⟩
 have h00:ρ2[0]? =some Γ.D.tabA→ρ[0]? =some Γ.D.tabA:=λe0=>by
  have h0:0<ρ.length:=lt 0 (Tq z)
  have:=inSel z (S7 h0)
  rw[this]at e0
  rw[S7 h0,e0]
 have at_: ∀{i a},(ρ++ρ2.drop is.length)[i]? =some a→(ρ[i]? =some a)∨(ρ.length≤i∧ρ2[is.length+(i-ρ.length)]? =some a):=λ{i a} ha=>by
  by_cases q:i<ρ.length
  · rw[S4 q]at ha;exact .inl ha
  · rw[S1 (Nat.le_of_not_lt q),List.getElem?_drop]at ha
    exact .inr ⟨Nat.le_of_not_lt q,ha⟩
 refine⟨?_,jp λi j a hi hj=> ?_,λi a o ha ho=> ?_,λa ha=> ?_,λp hp'=> ?_⟩
 · rw[TJ,TJ,List.length_drop,List.length_drop,cp,Y.len,l2,Y2.len]
 · rcases at_ hi with hi|⟨i1,hi⟩<;>rcases at_ hj with hj|⟨j1,hj⟩
   · exact hZ Y.nd hi hj
   · exfalso
     by_cases q:i∈is
     · refine el_EL (Ts q) ?_
       intro i' hi'
       have h5:=hZ Y2.nd (inSel hi' hi) hj
       rw[S3]at hi'
       exact absurd (T2 is.length _) (Nat.not_le.mpr (h5▸hi'.1))
     · refine el_EEAL (fzAt hi q) ?_
       intro b o b1 _
       exact(Y2.frz _ b1).2.2.2 (Tq hj)
   · exfalso
     by_cases q:j∈is
     · refine el_EL (Ts q) ?_
       intro i' hi'
       have h5:=hZ Y2.nd (inSel hi' hj) hi
       rw[S3]at hi'
       exact absurd (T2 is.length _) (Nat.not_le.mpr (h5▸hi'.1))
     · refine el_EEAL (fzAt hj q) ?_
       intro b o b1 _
       exact(Y2.frz _ b1).2.2.2 (Tq hi)
   · exact(TM i1).symm.trans ((congrArg (· +ρ.length) (Nat.add_left_cancel (hZ Y2.nd hi hj))).trans (TM j1))
 · rcases at_ ha with ha|qA
   · have hli:i<(setAll is h2' h).length:=by
      rw[cp,←Y.len]
      rw[S3]at ha
      exact ha.1
     rw[S4 hli]at ho
     by_cases q:i∈is
     · refine el_EL (Ts q) ?_
       intro i' hi'
       have r2:=inSel hi' ha
       have hl3:i'<h2.length:=by rw[←Y2.len];rw[S3]at r2;exact r2.1
       refine el_EAL (x2 i' h2[i'] (S7 hl3)) ?_
       intro o' y1 y2
       rw[fK is h2' h i' nd hi' y1 (by rw[cp]at hli;exact hli)]at ho
       obtain rfl:=Ud ho
       refine el_EAL (Y2.obj i' a _ r2 (S7 hl3)) ?_
       intro b c1 c2
       exact⟨b,c1,c2.ren σ y2 λZ y=>ltabF b rfl (h00 y.1) y.2⟩
     · rw[dC is h2' h q]at ho
       refine el_EEAAL (fzAt ha q) ?_
       intro b o1 b1 b2 b3
       cases ho.symm.trans b2
       refine⟨b,(Y2.frz _ b1).1,?_⟩
       by_cases hlt:o= .ltab
       · subst hlt
         exact ltabF b rfl b3.1 (b3.2.imp id λ⟨p,hp,q⟩=>⟨p,hξ p hp,q⟩)
       · have b4:=b3.ext (ρ':=ρ++ρ2.drop is.length) ⟨_,rfl⟩
         cases o with
         |ltab=>exact absurd rfl hlt
         |_=>exact b4
   · refine ae qA ?_
     clear qA
     intro i1 ha
     have hli:(setAll is h2' h).length≤i:=by rw[cp,←Y.len];exact i1
     rw[S1 hli,List.getElem?_drop,cp,←Y.len]at ho
     have hl3:is.length+(i-ρ.length)<h2.length:=by rw[←Y2.len];rw[S3]at ha;exact ha.1
     refine el_EAL (x2 _ _ (S7 hl3)) ?_
     intro o' y1 y2
     cases ho.symm.trans y1
     refine el_EAL (Y2.obj _ a _ ha (S7 hl3)) ?_
     intro b c1 c2
     exact⟨b,c1,c2.ren σ y2 λZ y=>ltabF b rfl (h00 y.1) y.2⟩
 · rcases Ue.mp ha with ha|ha
   · refine el_EL (Ts ha) ?_
     intro k hk
     by_cases q:k∈is
     · refine el_EL (Ts q) ?_
       intro i' hi'
       exact Y2.new a (Tq (inSel hi' hk))
     · refine el_EEAL (fzAt hk q) ?_
       intro b o b1 _
       have:=Y2.frz _ b1
       exact⟨this.2.1,this.2.2.1,(Y.new a ha).2.2⟩
   · exact Y2.new a (List.mem_of_mem_drop ha)
 · refine ae (Ug.mp hp') ?_
   intro p1 p2
   have:=Y2.frz p p1
   refine⟨this.1,this.2.1,this.2.2.1,λq=> ?_⟩
   rcases Ue.mp q with q|q
   · rw[show ρ.contains p.1=true from List.elem_iff.mpr q]at p2
     cases p2
   · exact this.2.2.2 (List.mem_of_mem_drop q)
end
section
variable{Γ:Gl}{c:St0}{d:Dy}{f:Frm}{lo:Lo}{h:H}{n:Nat}{ih:Ih}
noncomputable def fzL(hp:Heap)(ρ:List Addr)(is:List Nat):List (Addr×Obj):=(List.range ρ.length).filterMap λk=>if k∈is then none else(ρ[k]?).bind λa=>(hp.get? a).map λb=>(a,b)
theorem nY{hp:Heap}{ρ:List Addr}{is:List Nat}{p:Addr×Obj}:p∈fzL hp ρ is↔ ∃k,k∉is∧ρ[k]? =some p.1∧hp.get? p.1=some p.2:=by
 unfold fzL
 rw[List.mem_filterMap]
 constructor
 · rintro⟨k,hk,e⟩
   by_cases q:k∈is
   · rw[if_pos q]at e;cases e
   · rw[if_neg q]at e
     refine el_EAL (Option.bind_eq_some_iff.mp e) ?_
     intro a e1 e
     refine el_EAL (Option.map_eq_some_iff.mp e) ?_
     intro b e2 e
     subst e
     exact⟨k,q,e1,e2⟩
 · rintro⟨k,hk,e1,e2⟩
   refine⟨k,List.mem_range.mpr (by rw[S3]at e1;exact e1.1),?_⟩
   rw[if_neg hk,e1]
   show((hp.get? p.1).map λb=>(p.1,b))=_
   rw[e2];rfl
theorem u7{is:List Nat}{a ρ':List Addr}(x:Ext a ρ')(h: ∀i,i<a.length→is[i]? =some i):Ext a (sel is ρ'):=by
 refine⟨(sel is ρ').drop a.length,?_⟩
 have:(sel is ρ').take a.length=a:=by
  apply List.ext_getElem?
  intro i
  rw[List.getElem?_take]
  by_cases q:i<a.length
  · rw[if_pos q,S7 q]
    exact cY (h i q) (x.get (S7 q))
  · rw[if_neg q,List.getElem?_eq_none_iff.mpr (Nat.le_of_not_lt q)]
 conv=>lhs;rw[←List.take_append_drop a.length (sel is ρ')]
 rw[this]
structure Back(is:List Nat)(h:H)(h2:H)(is2:List Nat)(h4:H):Prop where
 nd:is.Nodup
 lt: ∀k∈is,k<h.length
 z:is[0]? =some 0
 nd2:is2.Nodup
 lt2: ∀k∈is2,k<h2.length
 pre: ∀i,i<is.length→is2[i]? =some i
 e: ∃h3 h3',subs is2 h2=some h3∧renOs (backN is h.length) h3=some h3'∧h4=setAll is h3' h++h3'.drop is.length
def tw2(is is2:List Nat)(n:Nat)(v:V):Option V:=ob (renV (λk=>cB k is2) v) λu=>renV (backN is n) u
section
variable{is is2:List Nat}{hs h2 h4:H}
theorem F5(z:is[0]? =some 0):0<is.length:=by rw[S3]at z;exact z.1
theorem lD(Y:Led Γ.D c.h₀ c.L d.s.heap d.ρ d.ξ h)(K:Back is h h2 is2 h4){hp2:Heap}{ρ2:List Addr}{ξ2:List (Addr×Obj)}(Y2:Led Γ.D c.h₀ c.L hp2 ρ2 ξ2 h2)(x:Ext (sel is d.ρ) ρ2)(hk: ∀p∈fzL d.s.heap d.ρ is++d.ξ,p∈ξ2):
 ∃ρ4 ξ4,Led Γ.D c.h₀ c.L hp2 (d.ρ++ρ4) ξ4 h4∧(∀p∈d.ξ,p∈ξ4)∧ ∀v w v4,VR ρ2 v w→tw2 is is2 h.length v=some v4→VR (d.ρ++ρ4) v4 w:=by
 refine el_EEAAL K.e ?_
 rintro h3 h3' e1 e2 rfl
 have hl:(sel is d.ρ).length=is.length:=by unfold sel;simp
 have ltρ: ∀k∈is,k<d.ρ.length:=λk hk=>by rw[Y.len];exact K.lt k hk
 have z2:=K.pre 0 (F5 K.z)
 have Y3:=Y2.ren K.nd2 (λk hk=>by rw[Y2.len];exact K.lt2 k hk) z2 e1 [] (λp hp=>nomatch hp)
 have x3:=u7 (is:=is2) x (λi hi=>K.pre i (by rw[←hl];exact hi))
 have hfz: ∀k a o,d.ρ[k]? =some a→k∉is→h[k]? =some o→ ∃b,(a,b)∈[]++ξ2∧OR Γ.D d.ρ d.ξ o b:=λk a o ha hk' ho=>by
  refine el_EAL (Y.obj k a o ha ho) ?_
  intro b b1 b2
  exact⟨b,hk _ (Tu _ (nY.mpr ⟨k,hk',ha,b1⟩)),b2⟩
 refine⟨_,_,Y.thaw K.nd ltρ K.z Y3 x3 (λp hp=>hk p (Tl _ hp)) hfz e2,λp hp=> ?_,λv w v4 hv e=> ?_⟩
 · refine Ug.mpr ⟨hk p (Tl _ hp),?_⟩
   cases q:d.ρ.contains p.1 with
   |false=>rfl
   |true=>exact absurd (List.elem_iff.mp q) (Y.frz p hp).2.2.2
 · refine aw e ?_
   clear e
   intro u q1 q2
   have hu:=hv.ren (ρ':=sel is2 ρ2) (λk j hk a ha=>cY (eC hk) ha) q1
   rw[←Y.len]at q2
   exact hu.ren (nX ltρ x3) q2
theorem lE(Y:Led Γ.D c.h₀ c.L d.s.heap d.ρ d.ξ h)(nd:is.Nodup)(lt: ∀k∈is,k<h.length)(z:is[0]? =some 0)(e1:subs is h=some hs):Led Γ.D c.h₀ c.L d.s.heap (sel is d.ρ) (fzL d.s.heap d.ρ is++d.ξ) hs:=
 Y.ren nd (λk hk=>by rw[Y.len];exact lt k hk) z e1 _ λZ hp=>nY.mp hp
theorem lF(X:Snd Γ n ih)(A:AOk c n)(F:Fr c.h₀ c.L d.s.heap d.m)(G:GB Γ c.h₀)(B:Below c.A₀ c.base c.outer c.h₀)(Y:Led Γ.D c.h₀ c.L d.s.heap d.ρ d.ξ h)(ho:d.s.os=c.os)(hg:AllBare d.s.gens)(hkp: ∀p∈c.kept,p∈d.ξ)(hgk: ∀p∈c.gk,d.s.gens[p.1]? =some p.2)
 {a:Nat}{vs vs':List V}{ws:List Value}{v2 v4:V}(hw:VsR d.ρ vs ws)(e1:subs is h=some hs)(e2:cC (λk=>cB k is) vs=some vs')(hrun:ih.c hs a vs'=some (v2,h2))(K:Back is h h2 is2 h4)(e4:tw2 is is2 h.length v2=some v4)
 {Q:Value→Shared→Prop}{E:Value→Shared→Prop}(hQ:PostC Γ c d h4 v4 Q):codeAny Γ.M c.A (.call (.ref a) ⟨ws,[]⟩) (wants Q E) d.s:=by
 have Y1:=lE Y K.nd K.lt K.z e1
 refine X.c {c with kept:=fzL d.s.heap d.ρ is++d.ξ} ⟨sel is d.ρ,fzL d.s.heap d.ρ is++d.ξ,d.m,d.s⟩ hs a vs' ws v2 h2 Q E (A.kept _) F G B Y1 ho hg (λp hp=>hp) hgk (hw.ren (λk j hk a ha=>cY (eC hk) ha) e2) hrun λρ2 ξ2 s2 w x F2 Y2 o2 g2 k2 gk2 hv=> ?_
 refine el_EEAAL (lD Y K Y2 x k2) ?_
 intro ρ4 ξ4 Y4 kp4 hv4
 exact hQ _ ξ4 s2 w ⟨_,rfl⟩ F2 Y4 o2 g2 (λp hp=>kp4 p (hkp p hp)) gk2 (hv4 _ _ _ hv e4)
end
end
section
variable{Γ:Gl}{c:St0}{d:Dy}{h:H}{n:Nat}{ih:Ih}{is is2:List Nat}{hs h2 h4:H}{lo los lo2 lo3:Lo}{nm:Nm}{ce ce':List Nat}{q q' cd:Nat}
theorem NmOk.part(N:NmOk Γ.g c d ⟨nm,ce,q,cd⟩ lo)(nd:is.Nodup)(hkv: ∀x,look x nm≠some .kv)(hce: ∀(j k':Nat),ce'[j]? =some k'→ ∃k,ce[j]? =some k∧is[k']? =some k)
 (hlo: ∀(i:Nat) (v:V),los[i]? =some (some v)→ ∃v0,lo[i]? =some (some v0)∧(renV (λk=>cB k is) v0=some v∨ ∃k a,v0= .loc k∧d.ρ[k]? =some a∧v= .top a)){ξ:List (Addr×Obj)}{c':St0}(h1:c'.env=c.env)(h2:c'.L=c.L):
 NmOk Γ.g c' ⟨sel is d.ρ,ξ,d.m,d.s⟩ ⟨nm,ce',q',cd⟩ los:=by
 refine⟨by rw[h1];exact N.kind,by rw[h1];exact N.glob,by rw[h1];exact N.blt,N.dbg,by rw[h1,h2];exact N.lv,N.inj,λx i v hx hi=> ?_,λx j k hx hk=> ?_,by rw[h1];exact N.gv,λx hx=>absurd hx (hkv x),by rw[h1];exact N.cd,by rw[h1];exact N.ql⟩
 · refine el_EAL (hlo i v hi) ?_
   intro v0 e1 e2
   refine el_EAL (N.lov x i v0 hx e1) ?_
   intro w w1 w2
   refine⟨w,w1,?_⟩
   rcases e2 with e2|qA
   · exact w2.ren (λk j hk a ha=>cY (eC hk) ha) e2
   · refine el_EEAAL qA ?_
     clear qA
     rintro k a rfl ha rfl
     refine el_EAL w2 ?_
     clear w2
     intro a' b1 b2
     cases ha.symm.trans b1
     exact b2
 · refine el_EAL (hce j k hk) ?_
   intro k0 e1 e2
   refine el_AEAL (N.cv x j k0 hx e1) ?_
   intro a1 ad a2 a3
   rw[h1]
   exact⟨a1,ad,a2,cY e2 a3⟩
theorem z7(X:Snd Γ n ih)(A:AOk c n)(R:Rel Γ c d ⟨nm,ce,q,cd⟩ lo h)(e1:subs is h=some hs)(hkv: ∀x,look x nm≠some .kv)(hce: ∀(j k':Nat),ce'[j]? =some k'→ ∃k,ce[j]? =some k∧is[k']? =some k)
 (hlo: ∀(i:Nat) (v:V),los[i]? =some (some v)→ ∃v0,lo[i]? =some (some v0)∧(renV (λk=>cB k is) v0=some v∨ ∃k a,v0= .loc k∧d.ρ[k]? =some a∧v= .top a))
 {b:S}{fl:Fl}(hrun:ih.s ⟨nm,ce',q',cd⟩ los hs b=some (fl,lo2,h2))(K:Back is h h2 is2 h4)
 (hlo3: ∀(i:Nat) (v4:V),lo3[i]? =some (some v4)→ ∃v,lo2[i]? =some (some v)∧(tw2 is is2 h.length v=some v4∨ ∃k a,v= .top a∧d.ρ[k]? =some a∧v4= .loc k))
 (hfl:fl= .next∨ ∃b,fl= .ret (.bool b)){Q:Flow→Shared→Prop}{E:Value→Shared→Prop}
 (hQ: ∀ρ' ξ' m' s' x,Ext d.ρ ρ'→Rel Γ c ⟨ρ',ξ',m',s'⟩ ⟨nm,ce,q,cd⟩ lo3 h4→FR ρ' fl x→Q x s'):wpAny Γ.M c.A (execs (dB b) c.env) Q E d.s:=by
 have Y1:=lE R.led K.nd K.lt K.z e1
 have N:=R.nm
 have N1:=N.part (ξ:=fzL d.s.heap d.ρ is++d.ξ) (q':=q') (c':={c with kept:=fzL d.s.heap d.ρ is++d.ξ}) K.nd hkv hce hlo rfl rfl
 have R1:Rel Γ {c with kept:=fzL d.s.heap d.ρ is++d.ξ} ⟨sel is d.ρ,fzL d.s.heap d.ρ is++d.ξ,d.m,d.s⟩ ⟨nm,ce',q',cd⟩ los hs:=⟨R.fr,R.gb,R.bl,Y1,N1,R.os,R.gens,λp hp=>hp,R.gk⟩
 refine X.s {c with kept:=fzL d.s.heap d.ρ is++d.ξ} ⟨sel is d.ρ,fzL d.s.heap d.ρ is++d.ξ,d.m,d.s⟩ ⟨nm,ce',q',cd⟩ los hs b (fl,lo2,h2) Q E (A.kept _) R1 hrun λρ2 ξ2 m2 s2 x x2 R2 hf=> ?_
 refine el_EEAAL (lD R.led K R2.led x2 R2.kp) ?_
 intro ρ4 ξ4 Y4 kp4 hv4
 refine hQ (d.ρ++ρ4) ξ4 m2 s2 x ⟨_,rfl⟩ ⟨R2.fr,R.gb,R.bl,Y4,?_,R2.os,R2.gens,λp hp=>kp4 p (R.kp p hp),R2.gk⟩ ?_
 · refine⟨N.kind,N.glob,N.blt,N.dbg,N.lv,N.inj,λy i v hy hi=> ?_,λy j k hy hk=> ?_,N.gv,λy hy=>absurd hy (hkv y),N.cd,N.ql⟩
   · refine el_EAL (hlo3 i v hi) ?_
     intro v2 g1 g2
     refine el_EAL (R2.nm.lov y i v2 hy g1) ?_
     intro w w1 w2
     refine⟨w,w1,?_⟩
     rcases g2 with g2|qA
     · exact hv4 _ _ _ w2 g2
     · refine el_EEAAL qA ?_
       clear qA
       rintro k a rfl ha rfl
       exact⟨a,Ext.get ⟨ρ4,rfl⟩ ha,w2⟩
   · refine el_AEAL (N.cv y j k hy hk) ?_
     intro a1 ad a2 a3
     exact⟨a1,ad,a2,Ext.get ⟨ρ4,rfl⟩ a3⟩
 · rcases hfl with rfl|qA
   · exact hf
   · refine el_EL qA ?_
     clear qA
     rintro b rfl
     exact hf
end
theorem pD{Γ:Gl}{a:Addr}{fd:FD}{W:FnW}(OF:FnOk Γ a fd W){s:Shared}{cd0:Addr}(hT:TabsAt [(cd0,Γ.tabA)] s.heap)(h1:1<Γ.tabA)(X:Γ.K.In (ghostOf s.heap [(cd0,Γ.tabA)]))(T:Top Γ.p Γ.loose Γ.mean Γ.mg Γ.mb (ghostOf s.heap [(cd0,Γ.tabA)]))(hg:AllBare s.gens)
 {vs us:List V}{ws:List Value}(hw:VsR [] vs ws)(hlen:vs.length≤fd.npos)(e2:fillR fd.dfl (dropL (len vs) fd.params)=some us){lo ce:Lo}(e3:eL fd.nm fd.params (vs++us) (cD fd.nl [none]) (cD fd.nc [none])=some (lo,ce)){R:Result→Shared→Prop}
 (hQ: ∀(c:St0) (d:Dy) (E:Value→Shared→Prop),c.h₀=ghostOf s.heap [(cd0,Γ.tabA)]→c.os=s.os→c.kept=[]→c.gk=[]→AOk c 220→Rel Γ c d ⟨fd.nm,az 1 fd.nc,0,fd.cd⟩ lo (.ltab::ce.map O.cell)→
  wpAny Γ.M c.A (execs (dB fd.body) c.env) (λfl s'=>R (.ok (.ret (match fl with| .ret v=>v|_=> .none))) s') E d.s):
 codeAny Γ.M callerA (.call (.ref a) ⟨ws,[]⟩) R s:=by
 have N:=OF.nm
 refine el_EAL (OF.bind vs us hlen e2 ws hw.length) ?_
 intro us' u1 u2
 have stay: ∀b o,(ghostOf s.heap [(cd0,Γ.tabA)]).get? b=some o→s.heap.get? b=some o:=λb o e=>of_hideAll _ e
 have hK:Γ.K.In s.heap:=X.keeps stay
 have hP:s.heap.get? Γ.tabA=some (tabObj #[]):=(hT _ (.head _)).2
 have hPg:(ghostOf s.heap [(cd0,Γ.tabA)]).get? Γ.tabA=none:=hideAll_none _ (TC (TF.mpr rfl))
 have hws:VsR [] (vs++us) (ws++us'):=hw.append u1
 have bind1: ∀{kindOf:Str→Option Vr},(∀x,kindOf x=W.scope.names.lookup x)→_:=λ{kindOf} hk=>eB N (kindOf:=kindOf) hk fd.params _ _ _ _ _ _ Za Za hws e3 (λy i u hy hi=>absurd hi (dg _ _ _)) (λy j u hy hj=>absurd hj (dg _ _ _))
 have hkind: ∀n,∀y∈(fd.params.map mkS).zip (ws++us'),W.scope.names.lookup y.1=some .local∨(W.scope.names.lookup y.1=some .cell∧((Vm n W.scope.names []).lookup y.1).isSome=true):=λk y hy=>by
  refine el_EAL ((bind1 (kindOf:=λx=>W.scope.names.lookup x) λZ=>rfl).2.2.2 y hy) ?_
  intro x rfl' q
  rw[rfl']
  rcases q with qA|qA
  · refine el_EL qA ?_
    clear qA
    intro i q
    exact .inl (N.lv _ _ q)
  · refine el_EL qA ?_
    clear qA
    intro j q
    refine .inr ⟨(N.cv _ _ q).1,?_⟩
    refine el_AEL (N.cv _ _ q) ?_
    intro _ a0 ha
    have hm:(cellUp k W.scope.names).map (·.1)=(cellUp 0 W.scope.names).map (·.1):=bw _ _ _
    have h1:((cellUp k W.scope.names).map (·.1))[j]? =some (mkS x):=by rw[hm,TN,ha];rfl
    rw[TN]at h1
    cases q2:(cellUp k W.scope.names)[j]? with
    |none=>rw[q2]at h1;cases h1
    |some p=>
     rw[q2]at h1
     have h2:p.1=mkS x:=by simpa using h1
     have nd:((Vm k W.scope.names []).map (·.1)).Nodup:=by rw[cellsFrom_names W.scope.names k 0 [] [] rfl];exact N.nd
     rw[TB nd (n:=mkS x) (c:=p.2) (by rw[bp,Uh,T7,←h2];exact Tq q2)]
     rfl
 have hlim:s.heap.NoLimit:=T.nolimit.keeps stay
 refine codeAny_call_function (fd:=W.fd fd) (body:=dB fd.body) (by decide) (hK _ _ OF.lk) rfl OF.co OF.ge rfl (codeRec_of hK OF.cdi) (u2 _ hK _ _ _ _ ?_)
 refine wpAny_newFunctionEnv_cells OF.kd (hkind _) λenv' he s' x=> ?_
 subst he
 refine⟨hlim.keeps x.toInCall.keep,codeAny_func ?_⟩
 refine el_EEAL x.done ?_
 rintro h₁ tk rfl _
 have hk₁:=x.toInCall.keep
 have nd0:((Vm (s.heap.objs.size+1) W.scope.names []).map (·.1)).Nodup:=by rw[cellsFrom_names W.scope.names (s.heap.objs.size+1) 0 [] [] rfl];exact N.nd
 refine el_EAL (Cl.news (h₀:=s.heap) (UY _) λn c hm=>⟨x.cell n c (TB nd0 hm),x.above n c hm⟩) ?_
 intro cells NC Y
 have kOf: ∀x,(envOfC W.qual W.scope s.heap.objs.size a (.ref fd.cd)).kindOf x=W.scope.names.lookup x:=λZ=>rfl
 refine aD (bind1 (kindOf:=(envOfC W.qual W.scope s.heap.objs.size a (.ref fd.cd)).kindOf) kOf) ?_
 intro i1 i2 i3 _
 have hPL:Γ.tabA<s.heap.objs.size:=UN hP
 have hL1:1<s.heap.objs.size:=UQ h1 hPL
 have hce:ce.length=(cellUp 0 W.scope.names).length:=by rw[i3,jl,N.nc]
 have F1:Fr (ghostOf s.heap [(cd0,Γ.tabA)]) s.heap.objs.size h₁ (bindL (envOfC W.qual W.scope s.heap.objs.size a (.ref fd.cd)).kindOf ((fd.params.map mkS).zip (ws++us')) λZ=>none):=ghost_fr hT ⟨x.toInCall.ns,hk₁,x.toInCall.fresh⟩
 have Y0:Led Γ.D (ghostOf s.heap [(cd0,Γ.tabA)]) s.heap.objs.size s.heap [Γ.tabA] [] [.ltab]:=by
  refine⟨rfl,by simp,λk a o ha ho=> ?_,λa ha=> ?_,λp hp=>nomatch hp⟩
  · cases k with
    |succ k=>simp at ha
    |zero=>
     cases ha;cases ho
     exact⟨_,hP,rfl,.inl rfl⟩
  · rw[TF.mp ha]
    exact⟨hPg,UL hPL,h1⟩
 have N1:News (ghostOf s.heap [(cd0,Γ.tabA)]) s.heap.objs.size h₁ (cells++(fX s.heap [Γ.tabA]++[])):=λp hp=>by
  rcases Ue.mp hp with hp|hp
  · have:=NC p hp
    exact⟨this.1,this.2.1,ghost_fresh this.2.2⟩
  · rcases Ue.mp hp with hp|hp
    · refine ae (cj.mp hp) ?_
      intro q1 q2
      rw[TF.mp q1]at q2⊢
      exact⟨hk₁ _ _ q2,UL hPL,hPg⟩
    · cases hp
 have Y1:=Y0.enter N1 Y hL1 (λp hp=>by
  rcases Ue.mp hp with hp|hp
  · refine ae (cj.mp hp) ?_
    intro q1 q2
    rw[TF.mp q1]
    exact hPL
  · cases hp) hce (λj x ad v hj hcv=>by
  have hm:=bw W.scope.names (s.heap.objs.size+1) 0
  have g1:((cellUp 0 W.scope.names).map (·.1))[j]? =some x:=by rw[←hm,TN,hj];rfl
  have g2:j<fd.nc:=by
   rw[S3]at g1
   refine el_EL g1 ?_
   clear g1
   intro p _
   simpa[N.nc]using p
  refine el_EL (N.ci j g2) ?_
  intro y hy
  refine el_AEL (N.cv _ _ hy) ?_
  intro _ ad' hy'
  rw[TN,hy']at g1
  obtain rfl:=Ud g1
  refine el_EAL (i2 y j v hy hcv) ?_
  intro w z1 z2
  exact⟨w,z1,z2.ext0⟩) F1
 have x1:Ext [] ([Γ.tabA]++(cellUp (s.heap.objs.size+1) W.scope.names).map (·.2)):=⟨_,rfl⟩
 refine Vc (hQ {A:=callerA.deeper (envOfC W.qual W.scope s.heap.objs.size a (.ref fd.cd)),env:=envOfC W.qual W.scope s.heap.objs.size a (.ref fd.cd),fenv:=envOfC W.qual W.scope s.heap.objs.size a (.ref fd.cd),outer:=[],A₀:=callerA,base:=ghostOf s.heap [(cd0,Γ.tabA)],h₀:=ghostOf s.heap [(cd0,Γ.tabA)],L:=s.heap.objs.size,os:=s.os,kept:=[],gk:=[]}
  ⟨[Γ.tabA]++(cellUp (s.heap.objs.size+1) W.scope.names).map (·.2),[],bindL (envOfC W.qual W.scope s.heap.objs.size a (.ref fd.cd)).kindOf ((fd.params.map mkS).zip (ws++us')) λZ=>none,{s with heap:=h₁,toks:=tk}⟩
  (λe s'=>wpAny Γ.M (callerA.deeper (envOfC W.qual W.scope s.heap.objs.size a (.ref fd.cd))) (leaving (envOfC W.qual W.scope s.heap.objs.size a (.ref fd.cd)) e) (λZ s''=>R (.error e) s'') (λe' s''=>R (.error e') s'') s') rfl rfl rfl rfl ⟨rfl,rfl,OF.kd,rfl,(show callerA.depth+1+3*220≤980 by decide),(show callerA.units+3+12*220≤9000 by decide)⟩
  ⟨F1,⟨X,T⟩,ghost_below hT,Y1,⟨OF.kd,rfl,rfl,N.dbg,λx i hx=>⟨N.lv x i hx,rfl⟩,N.inj,λx i v hx hi=> ?_,λx j k hx hk=> ?_,N.gv,λx hx=>absurd hx (N.kv x),rfl,OF.lq⟩,rfl,hg,(λp hp=>nomatch hp),(λp hp=>nomatch hp)⟩) (λZ Z h=>h) λZ Z h=>h
 · refine el_EAL (i1 x i v hx hi) ?_
   intro w z1 z2
   exact⟨w,z1,z2.ext0⟩
 · refine ae (gZ _ _ _ _ hk) ?_
   intro k1 k2
   refine⟨.inl (N.cv x j hx).1,?_⟩
   refine el_AEL (N.cv _ _ hx) ?_
   intro _ a0 ha
   have hm:=bw W.scope.names (s.heap.objs.size+1) 0
   have h1:((cellUp (s.heap.objs.size+1) W.scope.names).map (·.1))[j]? =some (mkS x):=by rw[hm,TN,ha];rfl
   rw[TN]at h1
   cases q2:(cellUp (s.heap.objs.size+1) W.scope.names)[j]? with
   |none=>rw[q2]at h1;cases h1
   |some p=>
    rw[q2]at h1
    have h2:p.1=mkS x:=by simpa using h1
    refine⟨p.2,?_,?_⟩
    · show(Vm (s.heap.objs.size+1) W.scope.names []).lookup (mkS x)=some p.2
      exact TB nd0 (n:=mkS x) (c:=p.2) (by rw[bp,Uh,T7,←h2];exact Tq q2)
    · show([Γ.tabA]++_)[k]? =_
      rw[k1,S1 (by simp),TN,show 1+j-[Γ.tabA].length=j by simp,q2];rfl
def h9(k:Nat)(l:List Nat):Bool:= @Vq Nat (λZ=>Bool) false (λa Z r=>bc (Nat.beq k a) true r) l
def ndN(l:List Nat):Bool:= @Vq Nat (λZ=>Bool) true (λa r ih=>bc (h9 a r) false ih) l
theorem lG{k:Nat}: ∀{l:List Nat},h9 k l=true↔k∈l
 |[]=>⟨λh=>(nomatch h),λh=>(nomatch h)⟩
 |a::l=>by
  show bc (Nat.beq k a) true (h9 k l)=true↔_
  cases q:Nat.beq k a with
  |true=>rw[bF];exact⟨λZ=>by rw[Tj q];exact .head _,λZ=>rfl⟩
  |false=>
   rw[bL,lG]
   exact⟨λh=> .tail _ h,λh=>by
    rcases Uz.mp h with h|h
    · exact absurd h (Th q)
    · exact h⟩
theorem mT: ∀{l:List Nat},ndN l=true→l.Nodup
 |[],_=>Uw
 |a::l,h=>by
  have h':bc (h9 a l) false (ndN l)=true:=h
  cases q:h9 a l with
  |true=>rw[q]at h';cases h'
  |false=>
   rw[q]at h'
   exact Uf.mpr ⟨(λz=>by rw[lG.mpr z]at q;cases q),mT h'⟩
def lH(v:V)(r:List Nat):List Nat:= @U9 Nat (λZ=>List Nat) r (λk=>k::r) (aH v)
def mU(l:List V):List Nat:= @Vq V (λZ=>List Nat) [] (λv Z r=>lH v r) l
def nZ(o:O):List Nat:= @O.casesOn (λZ=>List Nat) o mU mU (λZ d=>[d]) (λes=>mU (mp (λp=>p.2) es)) (λv=> @U9 V (λZ=>List Nat) [] (λv=>lH v []) v) (λZ=>[]) (λk=>[k]) (λk Z=>[k]) (λZ Z=>[]) (λZ=>[]) [] [] (λZ=>[])
def fm(h:H)(fuel:Nat):List Nat→List Nat→List Nat:= @Nat.rec (λZ=>List Nat→List Nat→List Nat) (λZ seen=>seen)
 (λZ ih work seen=> @UO Nat (λZ=>List Nat) work seen (λk w=>bc (h9 k seen) (ih w seen) (ih (app (@U9 O (λZ=>List Nat) [] nZ (nth h k)) w) (app seen [k])))) fuel
theorem fL(h:H): ∀(fuel:Nat) (work seen:List Nat),∃r,fm h fuel work seen=seen++r
 |0,work,seen=>⟨[],by show seen=_;simp⟩
 |n+1,[],seen=>⟨[],by show seen=_;simp⟩
 |n+1,k::w,seen=>by
  show∃r,bc (h9 k seen) (fm h n w seen) (fm h n (app (@U9 O (λZ=>List Nat) [] nZ (nth h k)) w) (app seen [k]))=seen++r
  cases h9 k seen with
  |true=>rw[bF];exact fL h n w seen
  |false=>
   rw[bL]
   refine el_EL (fL h n (app (@U9 O (λZ=>List Nat) [] nZ (nth h k)) w) (app seen [k])) ?_
   intro r e
   rw[e,ay]
   exact⟨k::r,by simp⟩
theorem eg: ∀m,(az 0 m).length=m
 |0=>rfl
 |m+1=>by show(app (az 0 m) [Nat.add 0 m]).length=_;rw[ay];simp[eg m]
theorem jT: ∀(m i:Nat),i<m→(az 0 m)[i]? =some i
 |0,i,h=>absurd h (Nat.not_lt_zero _)
 |m+1,i,h=>by
  have e:az 0 (m+1)=az 0 m++[m]:=by show app (az 0 m) [Nat.add 0 m]=_;rw[ay];simp
  rw[e]
  by_cases q:i<m
  · rw[S4 (by rw[eg];exact q)];exact jT m i q
  · have:i=m:=rt h q
    subst this
    rw[S1 (by rw[eg];exact UY _),eg];simp
def Aa(lo:Lo)(ks:List Nat):List Nat:= @Vq Nat (λZ=>List Nat) [] (λk Z r=> @U9 (Option V) (λZ=>List Nat) r (λo=> @U9 V (λZ=>List Nat) r (λv=>lH v r) o) (nth lo k)) ks
def yu(h:H)(cs:List Nat):List Nat:= @Vq Nat (λZ=>List Nat) [] (λk Z r=> @U9 O (λZ=>List Nat) r (λo=>app (nZ o) r) (nth h k)) cs
def yv(σ:Nat→Option Nat)(ks:List Nat)(lo:Lo):Nat→Lo:= @Vq (Option V) (λZ=>Nat→Lo) (λZ=>[]) (λo Z r i=>bc (h9 i ks) (ob o (renV σ)) none::r (Nat.succ i)) lo
theorem lI{σ:Nat→Option Nat}{ks:List Nat}: ∀{lo:Lo} {n i:Nat} {v3:V},(yv σ ks lo n)[i]? =some (some v3)→ ∃v,lo[i]? =some (some v)∧renV σ v=some v3
 |[],n,i,v3,h=>by
  have:([]:Lo)[i]? =some (some v3):=h
  simp at this
 |o::lo,n,0,v3,h=>by
  have h':some (bc (h9 n ks) (ob o (renV σ)) none)=some (some v3):=h
  have h':=Ud h'
  cases q:h9 n ks with
  |false=>rw[q]at h';cases h'
  |true=>
   rw[q,bF]at h'
   refine aw h' ?_
   clear h'
   intro v e1 e2
   exact⟨v,by rw[e1];rfl,e2⟩
 |o::lo,n,i+1,v3,h=>lI (lo:=lo) (n:=Nat.succ n) (i:=i) (v3:=v3) h
def ft(m:Nat)(ks cs:List Nat)(r:Option R3):Option R3:=ob r λx=>(λis2=>gd (ndN is2) (ob (subs is2 x.2.2) λh3=>some (x.1,yv (λk=>cB k is2) ks x.2.1 0,h3))) (fm x.2.2 2000 (app (Aa x.2.1 ks) (yu x.2.2 cs)) (az 0 m))
def fu(m:Nat)(r:Option (V×H)):Option (V×H):=ob r λx=>(λis2=>gd (ndN is2) (ob (subs is2 x.2) λh3=>ob (renV (λk=>cB k is2) x.1) λv=>some (v,h3))) (fm x.2 2000 (lH x.1 []) (az 0 m))
structure Live(m:Nat)(h2:H)(is2:List Nat)(h3:H):Prop where
 nd:is2.Nodup
 lt: ∀k∈is2,k<h2.length
 pre: ∀i,i<m→is2[i]? =some i
 e:subs is2 h2=some h3
theorem jU{m:Nat}{h2:H}{work:List Nat}{h3:H}(g:ndN (fm h2 2000 work (az 0 m))=true)(e:subs (fm h2 2000 work (az 0 m)) h2=some h3):Live m h2 (fm h2 2000 work (az 0 m)) h3:=by
 refine⟨mT g,λk hk=> ?_,λi hi=> ?_,e⟩
 · refine el_EL (Ts hk) ?_
   intro i hi
   refine el_EEAL ((dA e).2 i k hi) ?_
   intro o _ h1 _
   rw[S3]at h1
   exact h1.1
 · refine el_EL (fL h2 2000 work (az 0 m)) ?_
   intro r hr
   rw[hr,S4 (by rw[eg];exact hi)]
   exact jT m i hi
theorem pE{m:Nat}{ks cs:List Nat}{r:Option R3}{fl:Fl}{lo3:Lo}{h3:H}(h:ft m ks cs r=some (fl,lo3,h3)):
 ∃lo2 h2 is2,r=some (fl,lo2,h2)∧Live m h2 is2 h3∧ ∀(i:Nat) (v3:V),lo3[i]? =some (some v3)→ ∃v,lo2[i]? =some (some v)∧renV (λk=>cB k is2) v=some v3:=by
 refine oJ h ?_
 clear h
 intro fl' lo2 h2 e1 hvX
 refine bB hvX ?_
 clear hvX
 intro g h3' e2 h
 cases h
 exact⟨lo2,h2,_,e1,jU g e2,λi v3 hi=>lI hi⟩
theorem pF{m:Nat}{r:Option (V×H)}{v3:V}{h3:H}(h:fu m r=some (v3,h3)): ∃v h2 is2,r=some (v,h2)∧Live m h2 is2 h3∧renV (λk=>cB k is2) v=some v3:=by
 refine cW h ?_
 clear h
 intro v h2 e1 hvX
 refine bB hvX ?_
 clear hvX
 intro g h3' e2 hvX
 refine aw hvX ?_
 clear hvX
 intro v' e3 h
 obtain⟨rfl,rfl⟩:=so2 h
 exact⟨v,h2,_,e1,jU g e2,e3⟩
theorem Live.back{m:Nat}{h2:H}{is2:List Nat}{h3:H}(L:Live m h2 is2 h3){is:List Nat}{h h3' h4:H}(nd:is.Nodup)(lt: ∀k∈is,k<h.length)(z:is[0]? =some 0)(hm:is.length=m)(e:renOs (backN is h.length) h3=some h3')(e4:h4=setAll is h3' h++h3'.drop is.length):Back is h h2 is2 h4:=
 ⟨nd,lt,z,L.nd,L.lt,λi hi=>L.pre i (hm▸hi),h3,h3',L.e,e,e4⟩
section
def Gnd(xs:List V):Prop:= ∀σ,cC σ xs=some xs
def iK(v:V):Bool:=bn (bo (aH v))
theorem jV: ∀{xs:List V},xs.all iK=true→Gnd xs
 |[],_,σ=>rfl
 |v::xs,h,σ=>by
  rw[List.all_cons,Tr]at h
  have e1:renV σ v=some v:=by
   cases v<;>first|rfl|(exact absurd h.1 TL)
  show ob (renV σ v) (λu=>ob (cC σ xs) λus=>some (u::us))=_
  rw[e1,jV h.2 σ]
theorem lJ{σ:Nat→Option Nat}{h:H}: ∀{is:List Nat} {hs:H},hs.length=is.length→(∀(i k:Nat),is[i]? =some k→ ∃o,h[k]? =some o∧ ∃o',hs[i]? =some o'∧b9 σ o=some o')→ef σ h is=some hs
 |[],[],_,_=>rfl
 |[],_::_,l,_=>by cases l
 |_::_,[],l,_=>by cases l
 |k::is,o'::hs,l,hx=>by
  refine el_EAL (hx 0 k rfl) ?_
  intro o e1 qX
  refine el_EAL qX ?_
  clear qX
  intro u e2 e3
  obtain rfl:=Ud e2
  have r:=lJ (is:=is) (hs:=hs) (by simpa using l) λi k' hi=>hx (i+1) k' (by simpa using hi)
  show ob (nth h k) (λo=>ob (b9 σ o) λu=>ob (ef σ h is) λus=>some (u::us))=_
  rw[ap,e1]
  show ob (b9 σ o) (λu=>ob (ef σ h is) λus=>some (u::us))=_
  rw[e3]
  show ob (ef σ h is) (λus=>some (_::us))=_
  rw[r]
theorem cq{σ:Nat→Option Nat}: ∀{a a' b b':List O},renOs σ a=some a'→renOs σ b=some b'→renOs σ (a++b)=some (a'++b')
 |[],a',b,b',e,e2=>by cases e;exact e2
 |o::a,a',b,b',e,e2=>by
  refine aR (e:ob (b9 σ o) (λu=>ob (renOs σ a) λus=>some (u::us))=some a') ?_
  clear e
  intro u e1 us e3 e
  obtain rfl:=Ud e
  show ob (b9 σ o) (λu=>ob (renOs σ (a++b)) λus=>some (u::us))=_
  rw[e1,cq e3 e2];rfl
theorem ib{σ:Nat→Option Nat}: ∀{l:List O},(∀o∈l,b9 σ o=some o)→renOs σ l=some l
 |[],_=>rfl
 |o::l,h=>by
  show ob (b9 σ o) (λu=>ob (renOs σ l) λus=>some (u::us))=_
  rw[h o (.head _),ib λo ho=>h o (.tail _ ho)]
theorem lK{is:List Nat}(nd:is.Nodup)(os:List O)(h:H)(hx: ∀(i k:Nat) (o:O),is[i]? =some k→os[i]? =some o→h[k]? =some o)(hl:is.length≤os.length):setAll is os h=h:=by
 apply List.ext_getElem?
 intro k
 by_cases q:k∈is
 · refine el_EL (Ts q) ?_
   intro i hi
   have hil:i<os.length:=by rw[S3]at hi;exact TH hi.1 hl
   have:=hx i k _ hi (S7 hil)
   have hk:k<h.length:=by rw[S3]at this;exact this.1
   rw[fK is os h i nd hi (S7 hil) hk,this]
 · rw[dC is os h q]
variable{Γ:Gl}{c:St0}{d:Dy}{h:H}{n:Nat}{ih:Ih}
theorem cU(X:Snd Γ n ih)(A:AOk c n)(F:Fr c.h₀ c.L d.s.heap d.m)(G:GB Γ c.h₀)(B:Below c.A₀ c.base c.outer c.h₀)(Y:Led Γ.D c.h₀ c.L d.s.heap d.ρ d.ξ h)(ho:d.s.os=c.os)(hg:AllBare d.s.gens)(hkp: ∀p∈c.kept,p∈d.ξ)(hgk: ∀p∈c.gk,d.s.gens[p.1]? =some p.2)
 {a:Nat}{vs vs':List V}{ws:List Value}{v3 v4:V}{new ns:List O}(hw:VsR d.ρ vs ws)(o0:h[0]? =some .ltab){ks:List Nat}{xss:List (List V)}(nk:ks.Nodup)(lk:xss.length=ks.length)(hks: ∀(i k:Nat),ks[i]? =some k→ ∃xs,xss[i]? =some xs∧h[k]? =some (.list xs)∧Gnd xs)
 (e2:cC (λk=>cB k (0::ks)) vs=some vs')(hrun:fu (ks.length+1) (ih.c (.ltab::xss.map O.list) a vs')=some (v3,.ltab::xss.map O.list++new))(ens:renOs (backN (0::ks) h.length) new=some ns)(ev:renV (backN (0::ks) h.length) v3=some v4)
 {Q:Value→Shared→Prop}{E:Value→Shared→Prop}(hQ:PostC Γ c d (h++ns) v4 Q):codeAny Γ.M c.A (.call (.ref a) ⟨ws,[]⟩) (wants Q E) d.s:=by
 refine el_EEEAAL (pF hrun) ?_
 intro v h2 is2 r1 L r2
 have n0:0∉ks:=λq=>by
  refine el_EL (Ts q) ?_
  intro i hi
  refine el_EAAL (hks i 0 hi) ?_
  intro xs _ h1 _
  rw[o0]at h1;cases h1
 have nd:(0::ks).Nodup:=Uf.mpr ⟨n0,nk⟩
 have lt: ∀k∈0::ks,k<h.length:=λk hk=>by
  rcases Uz.mp hk with rfl|hk
  · rw[S3]at o0;exact o0.1
  · refine el_EL (Ts hk) ?_
    intro i hi
    refine el_EAAL (hks i k hi) ?_
    intro xs _ h1 _
    rw[S3]at h1;exact h1.1
 have at_: ∀(i k:Nat),(0::ks)[i]? =some k→ ∃o,h[k]? =some o∧(.ltab::xss.map O.list)[i]? =some o∧ ∀σ,b9 σ o=some o:=λi k hi=>by
  cases i with
  |zero=>cases hi;exact⟨_,o0,rfl,λZ=>rfl⟩
  |succ i=>
   refine el_EAAL (hks i k (by simpa using hi)) ?_
   intro xs x1 x2 x3
   refine⟨_,x2,?_,λσ=> ?_⟩
   · show(xss.map O.list)[i]? =_
     rw[TN,x1];rfl
   · show ob (cC σ xs) (λus=>some (O.list us))=_
     rw[x3 σ]
 have hl:(.ltab::xss.map O.list).length=(0::ks).length:=by simp[lk]
 have e1:subs (0::ks) h=some (.ltab::xss.map O.list):=lJ hl λi k hi=>by
  refine el_EAAL (at_ i k hi) ?_
  intro o x1 x2 x3
  exact⟨o,x1,o,x2,x3 _⟩
 have gsame: ∀o∈(.ltab::xss.map O.list),b9 (backN (0::ks) h.length) o=some o:=λo ho'=>by
  refine el_EL (Ts ho') ?_
  intro i hi
  have hil:i<(0::ks).length:=by rw[←hl];rw[S3]at hi;exact hi.1
  refine el_EAAL (at_ i _ (S7 hil)) ?_
  intro o' x1 x2 x3
  cases hi.symm.trans x2
  exact x3 _
 have K:=L.back nd lt rfl (by simp) (cq (ib gsame) ens) (h4:=h++ns) (by
  rw[lK nd _ h (λi k o hi ho'=>by
   refine el_EAAL (at_ i k hi) ?_
   intro o' x1 x2 x3
   rw[S4 (by rw[hl];rw[S3]at hi;exact hi.1)]at ho'
   cases ho'.symm.trans x2
   exact x1) (by rw[TJ,hl];exact T2 _ _)]
  rw[←hl,List.drop_left])
 refine lF X A F G B Y ho hg hkp hgk hw e1 e2 r1 K ?_ hQ
 show ob (renV (λk=>cB k is2) v) (λu=>renV (backN (0::ks) h.length) u)=_
 rw[r2]
 exact ev
end
section
theorem jq(env:Env): ∀(l1 l2:List Stmt),execs (l1++l2) env=execs l1 env>>=λf=>match f with| .next=>execs l2 env|f=>pure f
 |[],l2=>rfl
 |s::l1,l2=>by
  rw[List.cons_append,execs_cons,execs_cons,hW]
  congr 1
  funext f
  cases f with
  |next=>exact jq env l1 l2
  |_=>rfl
theorem ba{M:Model}{A:Around}{E:Value→Shared→Prop}{s:Shared}{env:Env}{Q:Flow→Shared→Prop}{l1 l2:List Stmt}(h:wpAny M A (execs l1 env) (λf s'=>match f with| .next=>wpAny M A (execs l2 env) Q E s'|f=>Q f s') E s):wpAny M A (execs (l1++l2) env) Q E s:=by
 rw[jq]
 refine U7 (Vc h (λf s' h=> ?_) λZ Z h=>h)
 cases f with
 |next=>exact h
 |_=>exact U8 h
theorem aI{α β:Type}{f g:α→β}: ∀{l:List α},mp f l=mp g l→ ∀a∈l,f a=g a
 |[],_,a,ha=>nomatch ha
 |x::l,h,a,ha=>by
  refine ae (List.cons.inj (h:f x::mp f l=g x::mp g l)) ?_
  intro h1 h2
  rcases Uz.mp ha with rfl|ha
  · exact h1
  · exact aI h2 a ha
theorem af{m r:Nat}(h:r<m):r∈az 0 m:=Tq (jT m r h)
theorem ab{σ:Nat→Option Nat}{h:H}{k:Nat}{is:List Nat}{o o':O}{hs:H}(h1:h[k]? =some o)(h2:b9 σ o=some o')(h3:ef σ h is=some hs):ef σ h (k::is)=some (o'::hs):=by
 show ob (nth h k) (λo=>ob (b9 σ o) λu=>ob (ef σ h is) λus=>some (u::us))=_
 rw[ap,h1]
 show ob (b9 σ o) (λu=>ob (ef σ h is) λus=>some (u::us))=_
 rw[h2,h3]
theorem aa{σ:Nat→Option Nat}{o o':O}{l l':List O}(h1:b9 σ o=some o')(h2:renOs σ l=some l'):renOs σ (o::l)=some (o'::l'):=by
 show ob (b9 σ o) (λu=>ob (renOs σ l) λus=>some (u::us))=_
 rw[h1,h2]
theorem n4(l:List T):Gnd (mp V.str l):=jV (by
 induction l with
 |nil=>rfl
 |cons a l ih=>
  show(iK (.str a)&&(mp V.str l).all iK)=true
  rw[ih];rfl)
theorem ai{xs:List V}(g:Gnd xs)(σ:Nat→Option Nat):b9 σ (.list xs)=some (.list xs):=by
 show ob (cC σ xs) (λus=>some (O.list us))=_
 rw[g σ]
inductive LoSub (ρ:List Addr) (σ:Nat→Option Nat):Lo→Lo→Prop
 |nil:LoSub ρ σ [] []
 |no {o:Option V} {a b:Lo}:LoSub ρ σ a b→LoSub ρ σ (o::a) (none::b)
 |ren {v v':V} {a b:Lo}:renV σ v=some v'→LoSub ρ σ a b→LoSub ρ σ (some v::a) (some v'::b)
 |top {k:Nat} {x:Addr} {a b:Lo}:ρ[k]? =some x→LoSub ρ σ a b→LoSub ρ σ (some (.loc k)::a) (some (.top x)::b)
theorem LoSub.at{ρ:List Addr}{σ:Nat→Option Nat}: ∀{lo los:Lo},LoSub ρ σ lo los→ ∀(i:Nat) (v:V),los[i]? =some (some v)→ ∃v0,lo[i]? =some (some v0)∧(renV σ v0=some v∨ ∃k a,v0= .loc k∧ρ[k]? =some a∧v= .top a):=λhL=>by
 induction hL with
 |nil=>intro i v h;simp at h
 |no r ih=>intro i v h;cases i with
  |zero=>cases h
  |succ i=>exact ih i v h
 |ren e r ih=>intro i v h;cases i with
  |zero=>cases h;exact⟨_,rfl,.inl e⟩
  |succ i=>exact ih i v h
 |top e r ih=>intro i v h;cases i with
  |zero=>cases h;exact⟨_,rfl,.inr ⟨_,_,rfl,e,rfl⟩⟩
  |succ i=>exact ih i v h
inductive LoBack (ρ:List Addr) (σ:Nat→Option Nat):Lo→Lo→Prop
 |nil:LoBack ρ σ [] []
 |no {o:Option V} {a b:Lo}:LoBack ρ σ a b→LoBack ρ σ (o::a) (none::b)
 |ren {v v':V} {a b:Lo}:renV σ v=some v'→LoBack ρ σ a b→LoBack ρ σ (some v::a) (some v'::b)
 |top {k:Nat} {x:Addr} {a b:Lo}:ρ[k]? =some x→LoBack ρ σ a b→LoBack ρ σ (some (.top x)::a) (some (.loc k)::b)
theorem LoBack.at{ρ:List Addr}{σ:Nat→Option Nat}: ∀{lo los:Lo},LoBack ρ σ lo los→ ∀(i:Nat) (v:V),los[i]? =some (some v)→ ∃v0,lo[i]? =some (some v0)∧(renV σ v0=some v∨ ∃k a,v0= .top a∧ρ[k]? =some a∧v= .loc k):=λhL=>by
 induction hL with
 |nil=>intro i v h;simp at h
 |no r ih=>intro i v h;cases i with
  |zero=>cases h
  |succ i=>exact ih i v h
 |ren e r ih=>intro i v h;cases i with
  |zero=>cases h;exact⟨_,rfl,.inl e⟩
  |succ i=>exact ih i v h
 |top e r ih=>intro i v h;cases i with
  |zero=>cases h;exact⟨_,rfl,.inr ⟨_,_,rfl,e,rfl⟩⟩
  |succ i=>exact ih i v h
variable{Γ:Gl}{c:St0}{d:Dy}{f:Frm}{lo:Lo}{h:H}{n:Nat}{ih:Ih}
theorem Rel.clear(R:Rel Γ c d f lo h){k:Nat}{v:Option V}(hk:h[k]? =some (.cell v)):Rel Γ c d f lo (h.set k (.cell none)):=by
 have Y:=R.led
 refine⟨R.fr,R.gb,R.bl,⟨by rw[Y.len];simp,Y.nd,λi a o ha ho=> ?_,Y.new,Y.frz⟩,R.nm,R.os,R.gens,R.kp,R.gk⟩
 by_cases q:i=k
 · subst q
   have hl:i<h.length:=by rw[S3]at hk;exact hk.1
   rw[Ti hl]at ho
   obtain rfl:=Ud ho
   refine el_EAL (Y.obj i a _ ha hk) ?_
   intro b b1 qX
   refine el_EAL qX ?_
   clear qX
   intro w b2 _
   exact⟨b,b1,w,b2,λv' e=>by cases e⟩
 · rw[Tw (Ne.symm q)]at ho
   exact Y.obj i a o ha ho
theorem cy(X:Snd Γ n ih)(A:AOk c n){nm:Nm}{ce ce':List Nat}{q cd:Nat}(R:Rel Γ c d ⟨nm,ce,q,cd⟩ lo h){is ks cs:List Nat}{m:Nat}{hs h3 h3' h4:H}{los lo3 lo4:Lo}{b:S}{fl:Fl}(nd:is.Nodup)(lt: ∀k∈is,k<h.length)(z:is[0]? =some 0)(hm:is.length=m)
 (e1:subs is h=some hs)(hkv: ∀x,look x nm≠some .kv)(hce: ∀(j k':Nat),ce'[j]? =some k'→ ∃k,ce[j]? =some k∧is[k']? =some k)(hlo:LoSub d.ρ (λk=>cB k is) lo los)
 (run:ft m ks cs (ih.s ⟨nm,ce',0,cd⟩ los hs b)=some (fl,lo3,h3))(e:renOs (backN is h.length) h3=some h3')(e4:h4=setAll is h3' h++h3'.drop is.length)(hlo4:LoBack d.ρ (backN is h.length) lo3 lo4)(hfl:fl= .next∨ ∃b,fl= .ret (.bool b))
 {Q:Flow→Shared→Prop}{E:Value→Shared→Prop}(hQ: ∀ρ' ξ' m' s' x,Ext d.ρ ρ'→Rel Γ c ⟨ρ',ξ',m',s'⟩ ⟨nm,ce,q,cd⟩ lo4 h4→FR ρ' fl x→Q x s'):wpAny Γ.M c.A (execs (dB b) c.env) Q E d.s:=by
 refine el_EEEAAL (pE run) ?_
 intro lo2 h2 is2 r1 L r2
 refine z7 X A R e1 hkv hce hlo.at r1 (L.back nd lt z hm e e4) (λi v4 hi=> ?_) hfl hQ
 refine el_EAL (hlo4.at i v4 hi) ?_
 intro v3 g1 g2
 refine el_EAL (r2 i v3 g1) ?_
 intro v g3 g4
 refine⟨v,g3,?_⟩
 rcases g2 with g2|qA
 · refine .inl ?_
   show ob (renV (λk=>cB k is2) v) (λu=>renV (backN is h.length) u)=_
   rw[g4]
   exact g2
 · refine el_EEAAL qA ?_
   clear qA
   rintro k a rfl ha rfl
   have:v= .top a:=by
    cases v with
    |loc k=>obtain⟨j,_,e⟩:=eR.mp (g4:ob (cB k is2) (λj=>some (V.loc j))=some (.top a));cases e
    |_=>cases g4<;>rfl
   exact .inr ⟨k,a,this,ha,rfl⟩
end
section
def cI(m:Nat)(cs:List Nat)(r:Option (V×H)):Option (V×H):=ob r λx=>(λis2=>gd (ndN is2) (ob (subs is2 x.2) λh3=>ob (renV (λk=>cB k is2) x.1) λv=>some (v,h3))) (fm x.2 2000 (app (lH x.1 []) (yu x.2 cs)) (az 0 m))
theorem pG{m:Nat}{cs:List Nat}{r:Option (V×H)}{v3:V}{h3:H}(h:cI m cs r=some (v3,h3)): ∃v h2 is2,r=some (v,h2)∧Live m h2 is2 h3∧renV (λk=>cB k is2) v=some v3:=by
 refine cW h ?_
 clear h
 intro v h2 e1 hvX
 refine bB hvX ?_
 clear hvX
 intro g h3' e2 hvX
 refine aw hvX ?_
 clear hvX
 intro v' e3 h
 obtain⟨rfl,rfl⟩:=so2 h
 exact⟨v,h2,_,e1,jU g e2,e3⟩
theorem n5{k:Nat}: ∀(is:List Nat) (n i:Nat),is.Nodup→is[i]? =some k→ @Vq Nat (λZ=>Nat→Option Nat) Za (λa Z ih n=> @Vt (λZ=>Option Nat) (ih (Nat.succ n)) (some n) (Nat.beq k a)) is n=some (n+i)
 |[],n,i,_,h=>by simp at h
 |a::is,n,0,_,h=>by
  cases h
  show @Vt (λZ=>Option Nat) _ (some n) (Nat.beq k k)=_
  rw[Nat.beq_refl];rfl
 |a::is,n,i+1,nd,h=>by
  rw[Uf]at nd
  have hk:k∈is:=Tq (by simpa using h)
  have hne:Nat.beq k a=false:=by
   cases q:Nat.beq k a with
   |false=>rfl
   |true=>exact absurd (Tj q▸hk) nd.1
  show @Vt (λZ=>Option Nat) (@Vq Nat (λZ=>Nat→Option Nat) Za (λa Z ih n=> @Vt (λZ=>Option Nat) (ih (Nat.succ n)) (some n) (Nat.beq k a)) is (Nat.succ n)) (some n) (Nat.beq k a)=_
  rw[hne]
  show @Vq Nat (λZ=>Nat→Option Nat) Za (λa Z ih n=> @Vt (λZ=>Option Nat) (ih (Nat.succ n)) (some n) (Nat.beq k a)) is (n+1)=_
  rw[n5 is (n+1) i nd.2 (by simpa using h)]
  congr 1;omega
theorem bP{k i:Nat}{is:List Nat}(nd:is.Nodup)(h:is[i]? =some k):cB k is=some i:=by
 have:=n5 is 0 i nd h
 rw[Nat.zero_add]at this
 exact this
variable{Γ:Gl}{c:St0}{d:Dy}{h:H}{n:Nat}{ih:Ih}
theorem n6(X:Snd Γ n ih)(A:AOk c n)(F:Fr c.h₀ c.L d.s.heap d.m)(G:GB Γ c.h₀)(B:Below c.A₀ c.base c.outer c.h₀)(Y:Led Γ.D c.h₀ c.L d.s.heap d.ρ d.ξ h)(ho:d.s.os=c.os)(hg:AllBare d.s.gens)(hkp: ∀p∈c.kept,p∈d.ξ)(hgk: ∀p∈c.gk,d.s.gens[p.1]? =some p.2)
 {a:Nat}{vs vs':List V}{ws:List Value}{v3 v4:V}{is cs:List Nat}{m:Nat}{hs h3 h3' h4:H}(hw:VsR d.ρ vs ws)(nd:is.Nodup)(z:is[0]? =some 0)(hm:is.length=m)(e1:subs is h=some hs)(e2:cC (λk=>cB k is) vs=some vs')(run:cI m cs (ih.c hs a vs')=some (v3,h3))
 (e:renOs (backN is h.length) h3=some h3')(e4:h4=setAll is h3' h++h3'.drop is.length)(ev:renV (backN is h.length) v3=some v4){Q:Value→Shared→Prop}{E:Value→Shared→Prop}(hQ:PostC Γ c d h4 v4 Q):codeAny Γ.M c.A (.call (.ref a) ⟨ws,[]⟩) (wants Q E) d.s:=by
 refine el_EEEAAL (pG run) ?_
 intro v h2 is2 r1 L r2
 have lt: ∀k∈is,k<h.length:=λk hk=>by
  refine el_EL (Ts hk) ?_
  intro i hi
  refine el_EEAL ((dA e1).2 i k hi) ?_
  intro o _ h1 _
  rw[S3]at h1
  exact h1.1
 refine lF X A F G B Y ho hg hkp hgk hw e1 e2 r1 (L.back nd lt z hm e e4) ?_ hQ
 show ob (renV (λk=>cB k is2) v) (λu=>renV (backN is h.length) u)=_
 rw[r2]
 exact ev
end
theorem F6{vs:List Value}{ns:List Int}(hi:IntsAre vs ns){a b c:Value}(ha: ∃i t,a= .int i t)(hb: ∃i t,b= .int i t)(hc: ∃i t,c= .int i t):
 ∃n0 t0 n1 t1 n2 t2,(Vo vs.toArray none (some 3) none).toList++(Vo #[a,b,c] (some (vs.length:Int)) none none).toList=[.int n0 t0,.int n1 t1,.int n2 t2]:=by
 have e1:(Vo vs.toArray none (some 3) none).toList=vs.take 3:=by
  rw[slicePick_plain]
  simp only[TO]
  show(vs.drop 0).take (clipAt vs.length 3-0)=_
  rw[List.drop_zero,Nat.sub_zero]
  rw[show clipAt vs.length 3=min 3 vs.length from clipAt_nat vs.length 3,←List.take_take,List.take_length]
 have e2:(Vo #[a,b,c] (some (vs.length:Int)) none none).toList=[a,b,c].drop vs.length:=by
  rw[slicePick_plain]
  show([a,b,c].drop (clipAt 3 (vs.length:Int))).take (3-clipAt 3 (vs.length:Int))=_
  have hcl:clipAt 3 (vs.length:Int)=min 3 vs.length:=(clipAt_nat 3 vs.length).trans (Nat.min_comm _ _)
  rw[hcl]
  rcases Nat.lt_or_ge vs.length 3 with h|h
  · rw[Nat.min_eq_right (UP h),List.take_of_length_le (by simp)]
  · rw[Nat.min_eq_left h]
    rw[List.drop_eq_nil_of_le (by simp),List.drop_eq_nil_of_le (by simpa using h)];rfl
 rw[e1,e2]
 refine el_EEL ha ?_
 clear ha
 rintro i0 u0 rfl
 refine el_EEL hb ?_
 clear hb
 rintro i1 u1 rfl
 refine el_EEL hc ?_
 clear hc
 rintro i2 u2 rfl
 cases hi with
 |nil=>exact⟨_,_,_,_,_,_,rfl⟩
 |cons n0 t0 hi=>cases hi with
  |nil=>exact⟨_,_,_,_,_,_,rfl⟩
  |cons n1 t1 hi=>cases hi with
   |nil=>exact⟨_,_,_,_,_,_,rfl⟩
   |cons n2 t2 hi=>exact⟨n0,t0,n1,t1,n2,t2,by simp⟩
section
variable{Γ:Gl}{c:St0}{d:Dy}{f:Frm}{lo:Lo}{h:H}{n:Nat}{E:Value→Shared→Prop}
theorem F7(G:GOk Γ)(R:Rel Γ c d f lo h){y:Str}{k1:Nat}{q2 q3 q4 q5:Pos}{l:Addr}{vs:List Value}(hx:bq f lo h (sT y)=some (.top l))(hl:c.h₀.IsList l vs.toArray)(hsz:vs.length≤63){Q:Value→Shared→Prop}
 (hQ: ∀a H tk,(∀b o,d.s.heap.get? b=some o→H.get? b=some o)→H.IsList a (Vo vs.toArray none (some 3) none)→Q (.ref a) {d.s with heap:=H,toks:=tk}):
 wpAny Γ.M c.A (eval (dE (.slc (.nm y q2) .no (.cst (.int 3) k1 q3) q4 q5)) c.env) Q E d.s:=by
 refine Subscript_ (eN G R hx λw hw=>wpAny_Slice ?_)
 cases(hw:w= .ref l)
 show wpAny Γ.M c.A (evalPart none c.env) _ E _
 rw[evalPart_none]
 refine U8 ?_
 show wpAny Γ.M c.A (evalPart (some (.Constant (.int 3) k1 q3)) c.env) _ E _
 rw[evalPart_some]
 refine TK ?_
 refine U8 ?_
 have hls:d.s.heap.IsList l vs.toArray:=hl.at λo e=>R.fr.keep _ _ e
 have hsl:(d.s.heap.push {cls:= .type "slice",data:= .fields #[.none,.int 3 d.s.toks,.none]}).get? d.s.heap.objs.size=some {cls:= .type "slice",data:= .fields #[.none,.int 3 d.s.toks,.none]}:=Tz _ rfl
 have hl1:(d.s.heap.push {cls:= .type "slice",data:= .fields #[.none,.int 3 d.s.toks,.none]}).IsList l vs.toArray:=hls.at λo e=>Tf _ e
 refine tail_any hl1.typeIs slot_list_getitem.lookup ?_ rfl
 refine wpAny_getItem_list_slice (vl:= .none) (vu:= .int 3 d.s.toks) (vs:= .none) hl1 ⟨_,hsl,rfl,rfl⟩ .none (.int 3 _) .none (by simp) ?_ (by rw[TO,ak];exact UJ hsz (by decide))
 exact hQ _ _ _ (λb o e=>Tf _ (Tf _ e)) ⟨_,Tz _ rfl,rfl,0,rfl⟩
theorem F8(G:GOk Γ)(R:Rel Γ c d f lo h){y z:Str}{i1 i2 i3:Int}{k2 k3 k4:Nat}{q6 q7 q8 q9 q10 q11 q12 q13 q14:Pos}{l:Addr}{vs:List Value}(hx:bq f lo h (sT y)=some (.top l))(hz:bq f lo h (sT z)=some (.prim 0))(hl:c.h₀.IsList l vs.toArray)(hsz:vs.length≤63){Q:Value→Shared→Prop}
 (hQ: ∀a H tk t1 t2 t3,(∀b o,d.s.heap.get? b=some o→H.get? b=some o)→H.IsList a (Vo #[.int i1 t1,.int i2 t2,.int i3 t3] (some (vs.length:Int)) none none)→Q (.ref a) {d.s with heap:=H,toks:=tk}):
 wpAny Γ.M c.A (eval (dE (.slc (.list (.cons (.cst (.int i1) k2 q6) (.cons (.cst (.int i2) k3 q7) (.cons (.cst (.int i3) k4 q8) .nil))) q9) (.call z q10 (.cons (.nm y q11) .nil) q12) .no q13 q14)) c.env) Q E d.s:=by
 refine Subscript_ (wpAny_List (T0 (TK ?_) rfl))
 refine T0 (TK ?_) rfl
 refine T0 (TK ?_) rfl
 refine Ui ⟨by rw[ak];exact Tk rfl,?_⟩
 refine wpAny_Slice ?_
 show wpAny Γ.M c.A (evalPart (some (.Call (.Name z q10) [.Name y q11] [] q12)) c.env) _ E _
 rw[evalPart_some]
 have R1:=R.junk (t:=d.s.toks+1+1+1) (h':=d.s.heap.push {cls:= .type "list",data:= .seq [Value.int i1 d.s.toks,.int i2 (d.s.toks+1),.int i3 (d.s.toks+1+1)].toArray}) λZ Z e=>Tf _ e
 refine Call_ (eN G R1 hz λw hw=> ?_)
 cases(hw:w=cF 0)
 refine U4 (P:=λZ=>True) rfl (λZ Z=>⟨.machine,.inr (.inl rfl),UF rfl⟩) ?_
 refine Uu ?_
 refine T0 (eN G R1 hx λw hw=> ?_) rfl
 cases(hw:w= .ref l)
 refine Ui ⟨trivial,?_⟩
 have hls:(d.s.heap.push {cls:= .type "list",data:= .seq [Value.int i1 d.s.toks,.int i2 (d.s.toks+1),.int i3 (d.s.toks+1+1)].toArray}).IsList l vs.toArray:=hl.at λo e=>Tf _ (R.fr.keep _ _ e)
 refine call_len_list hls (by rw[TO];exact oI (UJ hsz (by decide))) ?_
 show wpAny Γ.M c.A (evalPart none c.env) _ E _
 rw[evalPart_none]
 refine U8 ?_
 refine U8 ?_
 have hL: ∀o2:Obj,(((d.s.heap.push {cls:= .type "list",data:= .seq [Value.int i1 d.s.toks,.int i2 (d.s.toks+1),.int i3 (d.s.toks+1+1)].toArray}).push o2).IsList d.s.heap.objs.size #[.int i1 d.s.toks,.int i2 (d.s.toks+1),.int i3 (d.s.toks+1+1)]):=λo2=>⟨_,Tf _ (Tz _ rfl),rfl,0,rfl⟩
 refine tail_any (hL _).typeIs slot_list_getitem.lookup ?_ rfl
 refine wpAny_getItem_list_slice (vl:= .int (vs.toArray.size:Nat) _) (vu:= .none) (vs:= .none) (hL _) ⟨_,Tz _ rfl,rfl,rfl⟩ (.int _ _) .none .none (by simp) ?_ (by rw[ak];exact Tk rfl)
 refine hQ _ _ _ d.s.toks (d.s.toks+1) (d.s.toks+1+1) (λb o e=>Tf _ (Tf _ (Tf _ e))) ?_
 refine⟨_,Tz _ rfl,rfl,0,?_⟩
 simp only[TO]
theorem Ab(G:GOk Γ)(R:Rel Γ c d f lo h){x y z:Str}{i1 i2 i3:Int}{k1 k2 k3 k4:Nat}{q1 q2 q3 q4 q5 q6 q7 q8 q9 q10 q11 q12 q13 q14 q15 q16:Pos}{l:Addr}{vs:List Value}{ns:List Int}(hx:bq f lo h (sT y)=some (.top l))(hz:bq f lo h (sT z)=some (.prim 0))
 (hl:c.h₀.IsList l vs.toArray)(hi:IntsAre vs ns)(hsz:vs.length≤63){lo':Lo}{iv:Nat}(hlv:look (sT x) f.nm=some (.lv iv))(hst: ∀o,bz f lo (h++[o]) (sT x) (.loc h.length)=some (lo',h++[o])){Q:Flow→Shared→Prop}
 (hQ: ∀a m' s' n0 t0 n1 t1 n2 t2,Rel Γ c ⟨d.ρ++[a],d.ξ,m',s'⟩ f lo' (h++[.list [.m32 (n0%32).toNat,.m32 (n1%32).toNat,.m32 (n2%32).toNat]])→s'.heap.IsList a #[.int n0 t0,.int n1 t1,.int n2 t2]→Q .next s'):
 wpAny Γ.M c.A (exec (dS (.asg (.cons (.nm x q1) .nil) (.bin (.slc (.nm y q2) .no (.cst (.int 3) k1 q3) q4 q5) .Add (.slc (.list (.cons (.cst (.int i1) k2 q6) (.cons (.cst (.int i2) k3 q7) (.cons (.cst (.int i3) k4 q8) .nil))) q9) (.call z q10 (.cons (.nm y q11) .nil) q12) .no q13 q14) q15) q16)).1 c.env) Q E d.s:=by
 show wpAny Γ.M c.A (exec (.Assign [.Name x q1] (dE (.bin (.slc (.nm y q2) .no (.cst (.int 3) k1 q3) q4 q5) .Add (.slc (.list (.cons (.cst (.int i1) k2 q6) (.cons (.cst (.int i2) k3 q7) (.cons (.cst (.int i3) k4 q8) .nil))) q9) (.call z q10 (.cons (.nm y q11) .nil) q12) .no q13 q14) q15)) q16) c.env) Q E d.s
 refine wpAny_Assign_Name ?_
 refine U5 ?_
 refine F7 G R hx hl hsz λa1 H1 tk1 kp1 L1=> ?_
 have R1:=R.junk (t:=tk1) kp1
 refine F8 G R1 hx hz hl hsz λa2 H2 tk2 t1 t2 t3 kp2 L2=> ?_
 have R2:=R1.junk (t:=tk2) kp2
 have L1':=L1.at λo e=>kp2 _ _ e
 refine el_EEEL (F6 hi ⟨i1,t1,rfl⟩ ⟨i2,t2,rfl⟩ ⟨i3,t3,rfl⟩) ?_
 intro n0 u0 n1 qX
 refine el_EEEL qX ?_
 clear qX
 intro u1 n2 u2 e3
 have szs:=congrArg List.length e3
 rw[TJ]at szs
 have hsz3:(Vo vs.toArray none (some 3) none).toList.length+(Vo #[Value.int i1 t1,.int i2 t2,.int i3 t3] (some (vs.length:Int)) none none).toList.length=3:=szs
 refine add_lists (vs:=(Vo vs.toArray none (some 3) none).toList) (ws:=(Vo #[Value.int i1 t1,.int i2 t2,.int i3 t3] (some (vs.length:Int)) none none).toList) R2.fr R2.led.news (by simpa using L1') (by simpa using L2) (λH3 F3 N3=> ?_) (by rw[hsz3,ak];exact Tk rfl)
 rw[e3]at N3
 have g3:H3.get? H2.objs.size=some {cls:= .type "list",data:= .seq [Value.int n0 u0,.int n1 u1,.int n2 u2].toArray}:=(N3 _ (.head _)).1
 have m32: ∀{k:Int} {t:Tok},VR (d.ρ++[H2.objs.size]) (.m32 (k%32).toNat) (.int k t):=λ{k t}=>⟨k,t,rfl,(Int.toNat_of_nonneg (Int.emod_nonneg k (by decide))).symm⟩
 have Y:=R2.led.of_news1 R2.fr (R2.gb.low R2.fr) (a:=H2.objs.size) (o:= .list [.m32 (n0%32).toNat,.m32 (n1%32).toNat,.m32 (n2%32).toNat]) (UY _) N3 ⟨[Value.int n0 u0,.int n1 u1,.int n2 u2],0,rfl,.cons m32 (.cons m32 (.cons m32 .nil))⟩
 have R3:Rel Γ c ⟨d.ρ++[H2.objs.size],d.ξ,d.m,{d.s with heap:=H3,toks:=tk2}⟩ f lo (h++[.list [.m32 (n0%32).toNat,.m32 (n1%32).toNat,.m32 (n2%32).toNat]]):=⟨F3,R2.gb,R2.bl,Y,R2.nm.ext (.push _ _),R2.os,R2.gens,R2.kp,R2.gk⟩
 refine dt (d:=⟨d.ρ++[H2.objs.size],d.ξ,d.m,{d.s with heap:=H3,toks:=tk2}⟩) (x:=sT x) R3 (bu R2 H2.objs.size) (hst _) λm' s' R4 Z hsb=> ?_
 refine hQ H2.objs.size m' s' n0 u0 n1 u1 n2 u2 R4 ?_
 refine ae (R3.nm.lv (sT x) iv hlv) ?_
 intro k1 k2
 have hs:=hsb k1
 rw[k2]at hs
 have hne:H2.objs.size≠c.L:=(R3.led.new H2.objs.size (by simp)).2.1
 exact⟨_,(hs.2 _ hne).trans g3,rfl,0,rfl⟩
theorem Ac{s:Shared}{a:Addr}{v0 v1 v2 v:Value}{k:Nat}{u:Tok}{value slice:Expr}{Q:Value→Shared→Prop}(hL:s.heap.IsList a #[v0,v1,v2])(hk:[v0,v1,v2][k]? =some v)(hs:subscripted slice false (.ref a) (.int (k:Int) u)=operate [.ref a,.int (k:Int) u] (getItem (.ref a) (.int (k:Int) u)))(hQ:Q v s):
 wpAny Γ.M c.A (subscriptTail value slice (.ref a) (.int (k:Int) u)) Q E s:=by
 have hk3:k<3:=by
  rw[S3]at hk
  exact hk.1
 refine tail_any hL.typeIs slot_list_getitem.lookup ?_ hs
 exact wpAny_getItem_list hL (TG k) (US.mpr (UQ hk3 (by decide))) (by simpa using hk) hQ
theorem Ad(G:GOk Γ)(R:Rel Γ c d f lo h){x y:Str}{k0 k1 k2 k3 k4 k5:Nat}{p1 p2 p3 p4 p5 p6 p7 p8 p9 p10 p11 p12 p13 p14 p15 p16 p17 p18 p19:Pos}{kx:Nat}{a:Addr}{n0 n1 n2:Int}{t0 t1 t2:Tok}(hx:bq f lo h (sT x)=some (.loc kx))(ha:d.ρ[kx]? =some a)(hL:d.s.heap.IsList a #[.int n0 t0,.int n1 t1,.int n2 t2])
 {lo':Nat→Lo}(hst: ∀b,bz f lo h (sT y) (.int (.ofNat b))=some (lo' b,h)){Q:Flow→Shared→Prop}(hQ: ∀m' s' b,b<12→Rel Γ c ⟨d.ρ,d.ξ,m',s'⟩ f (lo' b) h→Q .next s'):
 wpAny Γ.M c.A (exec (dS (.asg (.cons (.nm y p1) .nil) (.bin (.bin (.bin (.bin (.sub (.nm x p2) (.cst (.int 0) k0 p3) p4) .FloorDiv (.cst (.int 32) k1 p5) p6) .Add (.bin (.sub (.nm x p7) (.cst (.int 1) k2 p8) p9) .FloorDiv (.cst (.int 32) k3 p10) p11) p12) .Add (.sub (.nm x p13) (.cst (.int 2) k4 p14) p15) p16) .Mod (.cst (.int 12) k5 p17) p18) p19)).1 c.env) Q E d.s:=by
 show wpAny Γ.M c.A (exec (.Assign [.Name y p1] (dE (.bin (.bin (.bin (.bin (.sub (.nm x p2) (.cst (.int 0) k0 p3) p4) .FloorDiv (.cst (.int 32) k1 p5) p6) .Add (.bin (.sub (.nm x p7) (.cst (.int 1) k2 p8) p9) .FloorDiv (.cst (.int 32) k3 p10) p11) p12) .Add (.sub (.nm x p13) (.cst (.int 2) k4 p14) p15) p16) .Mod (.cst (.int 12) k5 p17) p18)) p19) c.env) Q E d.s
 have it: ∀{tk:Nat} {k:Nat} {v:Value} {kk:Nat} {q1 q2 q3:Pos} {Q':Value→Shared→Prop},[Value.int n0 t0,.int n1 t1,.int n2 t2][k]? =some v→(∀tk,Q' v {d.s with toks:=tk})→wpAny Γ.M c.A (eval (dE (.sub (.nm x q1) (.cst (.int (k:Int)) kk q2) q3)) c.env) Q' E {d.s with toks:=tk}:=λ{tk k v kk q1 q2 q3 Q'} hk hQ'=>by
  refine Subscript_ (eN (d:=⟨d.ρ,d.ξ,d.m,{d.s with toks:=tk}⟩) G (R.tok tk) hx λw hw=> ?_)
  refine el_EAL hw ?_
  clear hw
  rintro a' ha' rfl
  cases ha.symm.trans ha'
  refine TK ?_
  exact Ac hL hk rfl (hQ' _)
 refine wpAny_Assign_Name ?_
 refine U5 (U5 (U5 (U5 ?_)))
 refine it (k:=0) rfl λtk=> ?_
 refine TK ?_
 refine floordiv_int (by decide) ?_
 refine U5 ?_
 refine it (k:=1) rfl λtk=> ?_
 refine TK ?_
 refine floordiv_int (by decide) ?_
 refine add_int ?_
 refine it (k:=2) rfl λtk=> ?_
 refine add_int ?_
 refine TK ?_
 refine mod_int (by decide) ?_
 have hb1:=Int.fmod_nonneg_of_pos (n0.fdiv 32+n1.fdiv 32+n2) (show(0:Int)<12 by decide)
 have hb2:=Int.fmod_lt_of_pos (n0.fdiv 32+n1.fdiv 32+n2) (show(0:Int)<12 by decide)
 refine el_EL (Int.eq_ofNat_of_zero_le hb1) ?_
 intro b hb
 rw[hb]at hb2⊢
 refine eW (d:=⟨d.ρ,d.ξ,d.m,{d.s with toks:=_}⟩) (x:=sT y) (v:= .int (.ofNat b)) (R.tok _) ⟨_,rfl⟩ (hst b) λm' s' R'=>hQ m' s' b (US.mp hb2) R'
end
section
noncomputable def u8(w:Value):Option Int:=match w with| .int j _=>some j|_=>none
noncomputable def u9(w:Value):Option Str:=match w with| .str j _=>some j|_=>none
noncomputable def Ae(w:Value):Option Addr:=match w with| .ref j=>some j|_=>none
noncomputable def su(w:Value):Option Bool:=match w with| .bool j=>some j|_=>none
theorem jr{w:Value}{j:Int}(h:u8 w=some j): ∃t,w= .int j t:=by cases w<;>first|exact nn h|(cases h;exact⟨_,rfl⟩)
theorem js{w:Value}{j:Str}(h:u9 w=some j): ∃t,w= .str j t:=by cases w<;>first|exact nn h|(cases h;exact⟨_,rfl⟩)
theorem pH{w:Value}{j:Addr}(h:Ae w=some j):w= .ref j:=by cases w<;>first|exact nn h|(cases h;rfl)
theorem mV{w:Value}{j:Bool}(h:su w=some j):w= .bool j:=by cases w<;>first|exact nn h|(cases h;rfl)
def vM(v:V)(w:Value):Bool:= @V.casesOn (λZ=>Bool) v (w== .none) (λb=>su w==some b) (λi=>u8 w==some i) (λs=>u9 w==some (mkS s)) (λa=>Ae w==some a) (λn=>w==cF n) Fa Fa Fb
theorem jt{v:V}{w:Value}(h:vM v w=true):VR [] v w:=by
 cases v with
 |none=>exact beq_iff_eq.mp (h:(w== .none)=true)
 |bool b=>exact mV (beq_iff_eq.mp (h:(su w==some b)=true))
 |int i=>exact jr (beq_iff_eq.mp (h:(u8 w==some i)=true))
 |str s=>exact js (beq_iff_eq.mp (h:(u9 w==some (mkS s))=true))
 |top a=>exact pH (beq_iff_eq.mp (h:(Ae w==some a)=true))
 |prim n=>exact beq_iff_eq.mp (h:(w==cF n)=true)
 |_=>exact ff h
def vsM:List V→List Value→Bool
 |[],[]=>true
 |v::vs,w::ws=>vM v w&&vsM vs ws
 |_,_=>false
theorem vc{vs:List V}: ∀{ws:List Value},vsM vs ws=true→VsR [] vs ws:=by
 induction vs with
 |nil=>
  intro ws h
  cases ws with
  |nil=>exact .nil
  |cons w ws=>exact ff h
 |cons v vs ih=>
  intro ws h
  cases ws with
  |nil=>exact ff h
  |cons w ws=>
   refine ae (Tr.mp h) ?_
   intro a b
   exact .cons (jt a) (ih b)
def glB(K:Frag)(gl:List (T×V)):Bool:=gl.all λp=>match nsIn K U1 (mkS p.1)with
 |some (some w)=>vM p.2 w
 |some none=>(match bootBuiltins (mkS p.1)with|some w=>vM p.2 w&& !(mkS p.1=="__name__")|none=>false)
 |none=>false
set_option tactic.hygienic true in
theorem Af{Γ:Gl}(h:glB Γ.K Γ.g.gl=true):GOk Γ:=⟨λx v hx=>by
 have:=TY.mp h _ (c8 hx)
 dsimp only at this
 unfold GlobIs
 split at this
 · rename_i w hw
   exact⟨w,jt this,.inl hw⟩
 · rename_i hw
   split at this
   · rename_i w hb
     refine ae (Tr.mp this) ?_
     intro a b
     exact⟨w,jt a,.inr ⟨hw,hb,by simpa using b⟩⟩
   · cases this
 · cases this⟩
noncomputable def dcEs(o:Option Obj):List Vk:=match o with|some ⟨_,_,.dict es _,_⟩=>es.toList|_=>[]
noncomputable def dcEp(o:Option Obj):Nat:=match o with|some ⟨_,_,.dict _ n,_⟩=>n|_=>0
noncomputable def fixH(P:Params)(e:Vk):Vk:=match e.key with| .str x _=>{e with hash:=Ur P x}|_=>e
def kS(k:V)(e:Vk):Bool:=match aT k with|some s=>u9 e.key==some (mkS s)|none=>false
def kI(k:V)(e:Vk):Bool:=match ax k with|some s=>u8 e.key==some s&&e.hash==hashInt s|none=>false
def dsB:List (V×V)→List Vk→Bool
 |[],es=>es.isEmpty
 |p::l,es=>match es with|[]=>false|e::es=>kS p.1 e&&(vM p.2 e.val&&dsB l es)
def diB:List (V×V)→List Vk→Bool
 |[],es=>es.isEmpty
 |p::l,es=>match es with|[]=>false|e::es=>kI p.1 e&&(vM p.2 e.val&&diB l es)
set_option tactic.hygienic true in
theorem vd{k:V}{e:Vk}(h:kS k e=true): ∃s t,k= .str s∧e.key= .str (mkS s) t:=by
 unfold kS at h
 split at h
 · rename_i s hs
   refine el_EL (js (beq_iff_eq.mp h)) ?_
   intro t ht
   exact⟨s,t,ar hs,ht⟩
 · cases h
set_option tactic.hygienic true in
theorem ve{k:V}{e:Vk}(h:kI k e=true): ∃s t,k= .int s∧e.key= .int s t∧e.hash=hashInt s:=by
 unfold kI at h
 split at h
 · rename_i s hs
   refine ae (Tr.mp h) ?_
   intro a b
   refine el_EL (jr (beq_iff_eq.mp a)) ?_
   intro t ht
   exact⟨s,t,aq hs,ht,beq_iff_eq.mp b⟩
 · cases h
theorem fv{k v:V}{l:List (V×V)}{es:List Vk}(h:dsB ((k,v)::l) es=true): ∃s t e r,es=e::r∧k= .str s∧e.key= .str (mkS s) t∧vM v e.val=true∧dsB l r=true:=by
 cases es with
 |nil=>exact ff h
 |cons e r=>
  refine ae (Tr.mp (h:(kS k e&&(vM v e.val&&dsB l r))=true)) ?_
  intro h1 h2
  refine ae (Tr.mp h2) ?_
  intro h2 h3
  refine el_EEAL (vd h1) ?_
  intro s t a b
  exact⟨s,t,e,r,rfl,a,b,h2,h3⟩
theorem ic{k v:V}{l:List (V×V)}{es:List Vk}(h:diB ((k,v)::l) es=true): ∃s t e r,es=e::r∧k= .int s∧e.key= .int s t∧e.hash=hashInt s∧vM v e.val=true∧diB l r=true:=by
 cases es with
 |nil=>exact ff h
 |cons e r=>
  refine ae (Tr.mp (h:(kI k e&&(vM v e.val&&diB l r))=true)) ?_
  intro h1 h2
  refine ae (Tr.mp h2) ?_
  intro h2 h3
  refine el_EEAAL (ve h1) ?_
  intro s t a b c
  exact⟨s,t,e,r,rfl,a,b,c,h2,h3⟩
theorem eh{P:Params}{e:Vk}{s:Str}{t:Tok}(h:e.key= .str s t):(fixH P e).key= .str s t∧(fixH P e).hash=Ur P s∧(fixH P e).val=e.val:=by
 obtain⟨hh,key,vl⟩:=e
 cases(h:key= .str s t)
 exact⟨rfl,rfl,rfl⟩
theorem di{es:List Vk}(h:es.isEmpty=true):es=[]:=T4.mp h
theorem jW{P:Params}: ∀{l:List (V×V)} {es:List Vk},dsB l es=true→KeysLit P (es.map (fixH P))
 |[],es,h=>by rw[di h];exact trivial
 |(k,v)::l,es,h=>by
  refine el_EEEL (fv h) ?_
  intro s t e qX
  refine el_EAAL qX ?_
  clear qX
  intro r qX1 qX2 qX
  refine bi qX ?_
  clear qX
  intro h1 _ h3
  subst qX1
  subst qX2
  exact⟨⟨_,_,(eh h1).1,(eh h1).2.1⟩,jW h3⟩
theorem mW(s x:T)(t:Tok):UD (mkS x) (.str (mkS s) t)=tEq s x:=by
 show(mkS s==mkS x)=_
 cases q:tEq s x with
 |true=>rw[au.mp q];simp
 |false=>have:=cK q;simp;exact λe=>this (bW e)
theorem pI(s x:Int)(t:Tok):Value.isInt x (.int s t)=iEq s x:=by
 show(s==x)=_
 cases q:iEq s x with
 |true=>rw[eo.mp q];simp
 |false=>simp;exact λe=>by rw[eo.mpr e]at q;cases q
theorem n7{P:Params}{x:T}{r:Option V}: ∀{l:List (V×V)} {es:List Vk},dsB l es=true→dictGet (.str x) l=some r→OptR r (((es.map (fixH P)).find? λe=>UD (mkS x) e.key).map (·.val))
 |[],es,h,hd=>by rw[di h];cases(hd:some none=some r);rfl
 |(k,v)::l,es,h,hd=>by
  refine el_EEEL (fv h) ?_
  intro s t e qX
  refine el_EAAL qX ?_
  clear qX
  intro es qX3 qX4 qX
  refine bi qX ?_
  clear qX
  intro h1 h2 h3
  subst qX3
  subst qX4
  have hd':bc (tEq s x) (some (some v)) (dictGet (.str x) l)=some r:=hd
  rw[UB,List.find?_cons,(eh h1).1,mW]
  cases q:tEq s x with
  |true=>rw[q]at hd';cases hd';exact⟨_,rfl,by show VR [] v (fixH P e).val;rw[(eh h1).2.2];exact jt h2⟩
  |false=>rw[q]at hd';exact n7 h3 hd'
theorem n8{x:Int}{r:Option V}: ∀{l:List (V×V)} {es:List Vk},diB l es=true→dictGet (.int x) l=some r→OptR r ((es.find? λe=>Value.isInt x e.key).map (·.val))
 |[],es,h,hd=>by rw[di h];cases(hd:some none=some r);rfl
 |(k,v)::l,es,h,hd=>by
  refine el_EEEL (ic h) ?_
  intro s t e qX
  refine el_EAAL qX ?_
  clear qX
  intro es qX5 qX6 qX
  refine aD qX ?_
  clear qX
  intro h1 _ h2 h3
  subst qX5
  subst qX6
  have hd':bc (iEq s x) (some (some v)) (dictGet (.int x) l)=some r:=hd
  rw[List.find?_cons,h1,pI]
  cases q:iEq s x with
  |true=>rw[q]at hd';cases hd';exact⟨_,rfl,jt h2⟩
  |false=>rw[q]at hd';exact n8 h3 hd'
theorem n9{prog:Program}{w:World}: ∀{l:List (V×V)} {es:List Vk},diB l es=true→ ∀e∈es,∃k,(intKind prog w).is k e.key=true∧e.hash=(intKind prog w).hash k
 |[],es,h,e,he=>by rw[di h]at he;cases he
 |(k,v)::l,es,h,e,he=>by
  refine el_EEEL (ic h) ?_
  intro s t e' qX
  refine el_EAAL qX ?_
  clear qX
  intro es qX7 qX8 qX
  refine aD qX ?_
  clear qX
  intro h1 h4 h2 h3
  subst qX7
  subst qX8
  rcases Uz.mp he with rfl|he
  · exact⟨s,by rw[h1];show(s==s)=true;simp,h4⟩
  · exact n9 h3 e he
inductive DOne (Γ:Gl) (a:Nat) (l:List (V×V)):Prop where
 |s:Γ.K.lookup a=some ⟨.type "dict",none,.dict ((dcEs (Γ.K.lookup a)).map (fixH Γ.w.params)).toArray (dcEp (Γ.K.lookup a)),#[]⟩→dsB l (dcEs (Γ.K.lookup a))=true→l≠[]→DOne Γ a l
 |i:Γ.K.lookup a=some ⟨.type "dict",none,.dict (dcEs (Γ.K.lookup a)).toArray (dcEp (Γ.K.lookup a)),#[]⟩→diB l (dcEs (Γ.K.lookup a))=true→l≠[]→DOne Γ a l
theorem Ag{Γ:Gl}(H: ∀p∈Γ.g.dicts,DOne Γ p.1 p.2):DOk Γ:=by
 refine⟨λa e h=> ?_,λa e h x r hr hp X=> ?_,λa e h x r hr hp X=> ?_⟩
 · cases H _ (dm h)with
   |s h1 _ _=>exact⟨_,h1,rfl,rfl⟩
   |i h1 _ _=>exact⟨_,h1,rfl,rfl⟩
 · cases H _ (dm h)with
   |s h1 h2 h3=>
    refine⟨_,mapOf_K (w:=Γ.w) X h1 (by simpa using jW h2),?_⟩
    unfold findBy
    rw[List.find?_toArray]
    exact n7 h2 hr
   |i h1 h2 h3=>
    exfalso
    match e,h3 with
    |(k,v)::l,_=>
     refine el_EEEL (ic h2) ?_
     intro s t e qX
     refine el_EAAL qX ?_
     clear qX
     rintro es _ rfl _
     exact nomatch (show none=some r from hr)
 · cases H _ (dm h)with
   |i h1 h2 h3=>
    refine⟨_,⟨_,_,_,X _ _ h1,⟨rfl,rfl,rfl⟩,rfl,?_,λZ=>rfl⟩,?_⟩
    · intro e he
      exact n9 h2 e (by simpa using he)
    · show OptR r (findBy Value.isInt _ x)
      unfold findBy
      rw[List.find?_toArray]
      exact n8 h2 hr
   |s h1 h2 h3=>
    exfalso
    match e,h3 with
    |(k,v)::l,_=>
     refine el_EEEL (fv h2) ?_
     intro s t e qX
     refine el_EAAL qX ?_
     clear qX
     rintro es _ rfl _
     exact nomatch (show none=some r from hr)
def sv(K:Frag)(C:Addr)(x:T)(f:Addr):Bool:=
 findIn K (.ref C) (mkS x)==some (some (.ref f))&&(isFn K (.ref f)&&(specialIn K (.ref f) "__get__"==some (some (.builtin "function.__get__"))&&(takesIn K (.ref f)==some false&&(!copiedNames.contains (mkS x)&&(plainGet K C (mkS x)&&hasDictIn K C)))))
noncomputable def mkB(K:Frag)(C i:Addr):Bool:=makesIn K C&&(findIn K (.ref C) "__init__"==some (some (.ref i))&&(typeIn K (.ref i)==some (.type "function")&&keepIn K (.ref C)))
def Ah(K:Frag)(C:Addr)(x:T)(v:V):Bool:=match typeIn K (.ref C)with
 |some mc=>readsIn K C mc&&(match findCls K (.ref C) mc (mkS x)with|some (.val w)=>handedIn w&&vM v w|_=>false)
 |none=>false
def clB(K:Frag)(C:Addr)(x:T)(v:V):Bool:=match asTop v with
 |some f=>sv K C x f&&(!tEq x w_init||mkB K C f)
 |none=>Ah K C x v
def F9(K:Frag)(cls:List (Nat×List (T×V))):Bool:=cls.all λp=>p.2.all λq=>clB K p.1 q.1 q.2
def iaB(K:Frag)(ia:List (Nat×List T)):Bool:=ia.all λp=>findIn K (.ref p.1) "__setattr__"==some (some (.builtin "object.__setattr__"))&&(plainOver K p.1&&(hasDictIn K p.1&&(plainGet K p.1 ""&&p.2.all λx=>findIn K (.ref p.1) (mkS x)==some none)))
theorem lL{x:T}: ∀{l:List T},memT x l=true→x∈l
 |y::l,h=>by
  have h':bc (tEq y x) true (memT x l)=true:=h
  cases q:tEq y x with
  |true=>rw[au.mp q];exact .head _
  |false=>rw[q]at h';exact .tail _ (lL h')
set_option tactic.hygienic true in
theorem Ai{Γ:Gl}(h:F9 Γ.K Γ.g.cls=true)(hi:iaB Γ.K Γ.g.ia=true)(hj: ∃o t,Γ.K.lookup Γ.g.joinA=some o∧o.cls= .type "builtin_function_or_method"∧o.data= .fields #[.builtin "str.join",.str (mkS []) t]):COk Γ:=by
 have at_: ∀{C cd x v},atN C Γ.g.cls=some cd→look x cd=some v→clB Γ.K C x v=true:=λ{C cd x v} h1 h2=>by
  have:=TY.mp h _ (dm h1)
  exact TY.mp this _ (c8 h2)
 refine⟨λC cd i h1 h2=> ?_,hj,λC ns h1=> ?_,λC cd x f h1 h2=> ?_,λC cd x v h1 h2 h3=> ?_⟩
 · have:=at_ h1 h2
   refine ae (Tr.mp (this:(sv Γ.K C w_init i&&(!tEq w_init w_init||mkB Γ.K C i))=true)) ?_
   intro _ b
   rw[au.mpr rfl]at b
   refine ae (Tr.mp (b:mkB Γ.K C i=true)) ?_
   intro a1 b
   refine ae (Tr.mp b) ?_
   intro a2 b
   refine ae (Tr.mp b) ?_
   intro a3 a4
   exact⟨a1,beq_iff_eq.mp a2,beq_iff_eq.mp a3,a4⟩
 · have:=TY.mp hi _ (dm h1)
   refine ae (Tr.mp this) ?_
   intro a1 b
   refine ae (Tr.mp b) ?_
   intro a2 b
   refine ae (Tr.mp b) ?_
   intro a3 b
   refine ae (Tr.mp b) ?_
   intro a4 a5
   exact⟨beq_iff_eq.mp a1,a2,a3,λZ=>a4,λx hx=>beq_iff_eq.mp (TY.mp a5 x (lL hx))⟩
 · refine ae (Tr.mp (at_ h1 h2:(sv Γ.K C x f&&_)=true)) ?_
   intro a _
   refine ae (Tr.mp a) ?_
   intro a1 b
   refine ae (Tr.mp b) ?_
   intro a2 b
   refine ae (Tr.mp b) ?_
   intro a3 b
   refine ae (Tr.mp b) ?_
   intro a4 b
   refine ae (Tr.mp b) ?_
   intro a5 b
   refine ae (Tr.mp b) ?_
   intro a6 a7
   exact⟨beq_iff_eq.mp a1,a2,beq_iff_eq.mp a3,beq_iff_eq.mp a4,by simpa using a5,a6,a7⟩
 · have:=at_ h1 h2
   have hv:Ah Γ.K C x v=true:=by
    unfold clB at this
    rw[h3]at this
    exact this
   unfold Ah at hv
   split at hv
   · rename_i mc hmc
     refine ae (Tr.mp hv) ?_
     intro a b
     split at b
     · rename_i w hw
       refine ae (Tr.mp b) ?_
       intro b1 b2
       exact⟨mc,w,hmc,a,hw,b1,jt b2⟩
     · cases b
   · cases hv
noncomputable def rdW(o:Option Obj):FnW:=match o with
 |some ⟨oc,od,.func f,osl⟩=>⟨f.name,f.qualname,f.params,f.scope,f.defaults,f.kwdefaults,f.doc,f.pyModule,f.closureTuple,oc,f.annotations,od,osl⟩
 |_=>⟨⟨#[]⟩,⟨#[]⟩,⟨[],[],none,[],[],none,[]⟩,⟨.function,[],false,false,[]⟩,.none,.none,.none,.none,.none,.none,none,none,#[]⟩
noncomputable def mX(v:V):Option Nat:= @V.casesOn (λZ=>Option Nat) v none Za Za Za Za (λn=>some n) Za Za Zb
theorem lM{v:V}{k:Nat}(h:mX v=some k):v= .prim k:=by cases v<;>first|exact nn h|(cases h;rfl)
def sw(a b:V):Bool:= @V.casesOn (λZ=>Bool) a false Fa (λi=>ax b==some i) (λs=>aT b==some s) (λi=>asTop b==some i) (λi=>mX b==some i) Fa Fa Fb
theorem sx{a b:V}(h:sw a b=true):a=b:=by
 cases a with
 |int i=>exact(aq (beq_iff_eq.mp (h:(ax b==some i)=true))).symm
 |str i=>exact(ar (beq_iff_eq.mp (h:(aT b==some i)=true))).symm
 |top i=>exact(bT (beq_iff_eq.mp (h:(asTop b==some i)=true))).symm
 |prim i=>exact(lM (beq_iff_eq.mp (h:(mX b==some i)=true))).symm
 |_=>exact ff h
def yw(gl:List (T×V))(nm:Nm)(names:List (Str×Vr))(p:T×Slot):Bool:=
 (!(mkS p.1==("__debug__":Str))&& !(mkS p.1==("__classdict__":Str)))&&(match p.2 with
 | .lv i=>names.lookup (mkS p.1)==some .local&&nm.all λq=>match q.2 with| .lv j=> !Nat.beq i j||tEq p.1 q.1|_=>true
 | .cv j=>names.lookup (mkS p.1)==some .cell&&(match(cellUp 0 names)[j]? with|some y=>y.1==mkS p.1|none=>false)
 | .gv v=>names.lookup (mkS p.1)==some .globalImplicit&&(match look p.1 gl with|some u=>sw u v|none=>false)
 | .kv=>false)
def nmB(gl:List (T×V))(d:FD)(names:List (Str×Vr)):Bool:=
 d.nm.all (yw gl d.nm names)&&(Nat.beq (cellUp 0 names).length d.nc&&((List.range d.nc).all (λj=>d.nm.any λp=>match look p.1 d.nm with|some (.cv i)=>Nat.beq i j|_=>false)&&decide ((Vm 0 names []).map (·.1)).Nodup))
set_option tactic.hygienic true in
theorem sy{Γ:Gl}{d:FD}{names:List (Str×Vr)}(h:nmB Γ.g.gl d names=true):NmsOk Γ d names:=by
 refine ae (Tr.mp h) ?_
 intro h1 h
 refine ae (Tr.mp h) ?_
 intro h2 h
 refine ae (Tr.mp h) ?_
 intro h3 h4
 have at_: ∀{x s},look x d.nm=some s→yw Γ.g.gl d.nm names (x,s)=true:=λe=>TY.mp h1 _ (c8 e)
 refine⟨λx i e=> ?_,λx j e=> ?_,Tj h2,λj hj=> ?_,λx v e=> ?_,λx e=> ?_,λx y i e e'=> ?_,λx s e=> ?_,of_decide_eq_true h4⟩
 · refine ae (Tr.mp (at_ e)) ?_
   intro _ a
   exact beq_iff_eq.mp (Tr.mp (a:(names.lookup (mkS x)==some .local&&_)=true)).1
 · refine ae (Tr.mp (at_ e)) ?_
   intro _ a
   refine ae (Tr.mp (a:(names.lookup (mkS x)==some .cell&&(match(cellUp 0 names)[j]? with|some y=>y.1==mkS x|none=>false))=true)) ?_
   intro a b
   refine⟨beq_iff_eq.mp a,?_⟩
   split at b
   · rename_i y hy
     obtain⟨y1,y2⟩:=y
     cases beq_iff_eq.mp b
     exact⟨y2,hy⟩
   · cases b
 · have:=TY.mp h3 j (List.mem_range.mpr hj)
   refine el_EAL (List.any_eq_true.mp this) ?_
   intro p _ b
   split at b
   · rename_i i hi
     cases Tj b
     exact⟨_,hi⟩
   · cases b
 · refine ae (Tr.mp (at_ e)) ?_
   intro _ a
   refine ae (Tr.mp (a:(names.lookup (mkS x)==some .globalImplicit&&(match look x Γ.g.gl with|some u=>sw u v|none=>false))=true)) ?_
   intro a b
   refine⟨beq_iff_eq.mp a,?_⟩
   split at b
   · rename_i u hu
     rw[hu,sx b]
   · cases b
 · exact absurd (Tr.mp (at_ e)).2 (λz=>nomatch (z:false=true))
 · refine ae (Tr.mp (at_ e)) ?_
   intro _ a
   refine ae (Tr.mp (a:(names.lookup (mkS x)==some .local&&d.nm.all λq=>match q.2 with| .lv j=> !Nat.beq i j||tEq x q.1|_=>true)=true)) ?_
   intro _ b
   have c:=TY.mp b _ (c8 e')
   have c':(!Nat.beq i i||tEq x y)=true:=c
   rw[Nat.beq_refl]at c'
   exact au.mp c'
 · refine ae (Tr.mp (at_ e)) ?_
   intro a _
   refine ae (Tr.mp a) ?_
   intro a b
   exact⟨by simpa using a,by simpa using b⟩
def yx(K:Frag)(d:FD)(w:FnW)(us':List Value)(k:Nat):Prop:= ∀(ws:List Value) (S:Setting),ws.length=k→peek K S (bindArgs (w.fd d) ⟨ws,[]⟩)=some ((d.params.map mkS).zip (ws++us'))
def sz(d:FD)(rows:List (Nat×List Value))(k:Nat):Bool:=match fillR d.dfl (dropL k d.params)with
 |none=>true
 |some us=>(match rows.lookup k with|some us'=>vsM us us'|none=>false)
set_option tactic.hygienic true in
theorem vf{Γ:Gl}{a:Addr}{d:FD}{w:FnW}(rows:List (Nat×List Value))(lk:Γ.K.lookup a=some ⟨w.oc,w.od,.func (w.fd d),w.osl⟩)(cdi:codeIn Γ.K (.ref d.cd) w.qual=true)(sc:(!w.scope.isCoroutine&&(!w.scope.isGenerator&&(w.scope.kind== .function)))=true)
 (nm:nmB Γ.g.gl d w.scope.names=true)(lq:(!Nat.beq d.cd Γ.g.lamCd||(w.qual++".<locals>."==mkS Γ.g.lamQ))=true)(rb:((List.range (d.npos+1)).all (sz d rows))=true)(bk: ∀p∈rows,yx Γ.K d w p.2 p.1):FnOk Γ a d w:=by
 refine ae (Tr.mp sc) ?_
 intro s1 s2
 refine ae (Tr.mp s2) ?_
 intro s2 s3
 refine⟨lk,cdi,by simpa using s1,by simpa using s2,beq_iff_eq.mp s3,sy nm,(λe=>by rw[e,Nat.beq_refl]at lq;exact beq_iff_eq.mp lq),λvs us hl hf ws hw=> ?_⟩
 rw[aO]at hf
 have:=TY.mp rb vs.length (List.mem_range.mpr (Nat.lt_succ_of_le hl))
 unfold sz at this
 rw[hf]at this
 dsimp only at this
 split at this
 · rename_i us' hl'
   refine⟨us',vc this,λs X=>kp_binds X λS=> ?_⟩
   have hm:(vs.length,us')∈rows:=by
    clear this bk rb
    induction rows with
    |nil=>simp at hl'
    |cons p r ih=>
     rw[T6]at hl'
     split at hl'
     · rename_i q
       obtain rfl:=Ud hl'
       rw[beq_iff_eq.mp q];exact .head _
     · exact .tail _ (ih hl')
   exact bk _ hm ws S hw
 · cases this
theorem cJ{α:Type}{l:List α}(h:l.length=0):l=[]:=List.length_eq_zero_iff.mp h
theorem bj{α:Type}{l:List α}{n:Nat}(h:l.length=n+1): ∃a r,l=a::r∧r.length=n:=by
 cases l with
 |nil=>cases h
 |cons a r=>exact⟨a,r,rfl,by simpa using h⟩
end
def yy(v:V):Str:=mkS ((aT v).getD [])
theorem lN{prog:Program}{w:World}: ∀(l:List (V×V)) (es:List Vk),dsB l es=true→ ∃kvs,Pairs (UH prog w) (es.map (fixH w.params)) kvs∧kvs.map (·.1)=l.map (λp=>yy p.1)
 |[],es,h=>by rw[di h];exact⟨[],.nil,rfl⟩
 |(k,v)::l,es,h=>by
  refine el_EEEL (fv h) ?_
  intro s t e qX
  refine el_EAAL qX ?_
  intro r qX1 qX2 qX
  refine bi qX ?_
  intro h1 h2 h3
  subst qX1
  subst qX2
  obtain⟨kvs,p1,p2⟩:=lN l r h3
  obtain⟨f1,f2,f3⟩:=eh (P:=w.params) h1
  refine⟨(mkS s,(fixH w.params e).val)::kvs,.cons (by rw[f1];exact Vh prog w _ _) rfl p1,by rw[UB,UB,p2];rfl⟩
theorem mY{Γ:Gl}{l:List (V×V)}(h1:Γ.K.lookup Γ.g.itemsA=some ⟨.type "dict",none,.dict ((dcEs (Γ.K.lookup Γ.g.itemsA)).map (fixH Γ.w.params)).toArray (dcEp (Γ.K.lookup Γ.g.itemsA)),#[]⟩)(h2:dsB l (dcEs (Γ.K.lookup Γ.g.itemsA))=true)(h3:ndT (l.map λp=>(aT p.1).getD [])=true)(h4:l.length≤4000):ItemsOk Γ:=by
 refine el_EAL (lN (prog:=Γ.prog) (w:=Γ.w) l _ h2) ?_
 intro kvs p1 p2
 refine⟨_,kvs,h1,⟨_,_,⟨rfl,rfl,rfl⟩,rfl,λe he=> ?_,by simpa using p1,?_⟩,?_⟩
 · refine el_EEAL ((jW (P:=Γ.w.params) h2).all e (by simpa using he)) ?_
   intro x t e1 e2
   exact⟨x,by rw[e1];exact Vh _ _ x t,e2⟩
 · rw[p2]
   have:=(mI _ h3).1
   have q:(l.map λp=>yy p.1)=(l.map λp=>(aT p.1).getD []).map mkS:=by rw[List.map_map];rfl
   rw[q]
   rw[S2]at this⊢
   exact List.Pairwise.map mkS (λa b h e=>h (bW e)) this
 · have:=congrArg List.length p2
   simp at this
   omega
section
open PySem.Pos renaming mk→p
open Int renaming ofNat→i
open Mine.E renaming nil→Ea,cons→Eb,no→Ec,cst→Ed,nm→Ee,bin→Ef,neg→Eg,not→Eh,ite→Ei,list→Ej,tup→Ek,dict0→El,set1→Em,cmp→En,bop→Eo,call→Ep,meth→Eq,sort→Er,items→Es,attr→Et,sub→Eu,slc→Ev,lcomp→Ew,dcomp→Ex,fstr→Ey,fmt→Ez,raw→EA
open Mine.S renaming nil→Sa,cons→Sb,expr→Sc,brk→Sd,ret0→Se,ret→Sf,asg→Sg,swp→Sh,aug→Si,if_→Sj,while_→Sk,for_→Sl,gfor→Sm,del→Sn,try_→So,esc→Sp,raw→Sq
noncomputable def q(l c e:Nat):Pos:=⟨l,c,l,e⟩
noncomputable def zt(l:T):T:=l
noncomputable def zs(l:T):Str:=⟨⟨l⟩⟩
def t0:=zt [110,97,109,101,115]
def s0:=zs t0
def t1:=zt [105]
def s1:=zs t1
def t2:=zt [114,97,110,103,101]
def s2:=zs t2
def t3:=zt [102,108,97,103]
def s3:=zs t3
def t4:=zt [102,108,97,103,115]
def s4:=zs t4
def s5:=zs [97,112,112,101,110,100]
def t6:=zt [67,79,77,80,73,76,69,82,95,70,76,65,71,95,78,65,77,69,83]
def s6:=zs t6
def s7:=zs [103,101,116]
def t8:=zt [104,101,120]
def s8:=zs t8
def s9:=zs [44,32]
def s10:=zs [106,111,105,110]
def t11:=zt [115,101,108,102]
def s11:=zs t11
def t12:=zt [114,97,119]
def s12:=zs t12
def t13:=zt [119,115]
def s13:=zs t13
def t14:=zt [83]
def s14:=zs t14
def t15:=zt [84]
def s15:=zs t15
def t16:=zt [87,104,105,116,101,115,112,97,99,101]
def s16:=zs t16
def t17:=zt [99,111,117,110,116]
def s17:=zs t17
def t18:=zt [98]
def s18:=zs t18
def t19:=zt [110]
def s19:=zs t19
def t20:=zt [110,116]
def s20:=zs t20
def t21:=zt [99,104]
def s21:=zs t21
def t22:=zt [108,101,110]
def s22:=zs t22
def t23:=zt [110,111,114,109]
def s23:=zs t23
def t24:=zt [116,117,112,108,101]
def s24:=zs t24
def t25:=zt [105,115,95,115,105,109,112,108,101]
def s25:=zs t25
def t26:=zt [116,114,97,105,108,105,110,103]
def s26:=zs t26
def t27:=zt [109,97,120]
def s27:=zs t27
def t28:=zt [105,108]
def s28:=zs t28
def t29:=zt [116,97,98,115,105,122,101]
def s29:=zs t29
def t30:=zt [95,119,97,108,108]
def s30:=zs t30
def t31:=zt [111,116,104,101,114]
def s31:=zs t31
def t32:=zt [108,111,110,103,101,115,116,95,114,117,110,95,111,102,95,115,112,97,99,101,115]
def s32:=zs t32
def t33:=zt [116,115]
def s33:=zs t33
def t34:=zt [105,110,100,101,110,116,95,108,101,118,101,108]
def s34:=zs t34
def s35:=zs [84,121,112,101,69,114,114,111,114]
def s36:=zs [99,97,110,110,111,116,32,115,101,114,105,97,108,105,122,101,32]
def t37:=zt [116,101,120,116]
def s37:=zs t37
def s38:=zs [32,40,116,121,112,101,32]
def s39:=zs [116,121,112,101]
def t40:=zt [95,95,110,97,109,101,95,95]
def s40:=zs t40
def t41:=zt [41]
def s41:=zs t41
def t42:=zt [95,119,114,105,116,101]
def s42:=zs t42
def t43:=zt [119,114,105,116,101]
def s43:=zs t43
def t44:=zt [95,100,97,116,97]
def s44:=zs t44
def t45:=zt [95,119,105,116,104,95,99,111,109,109,101,110,116,115]
def s45:=zs t45
def t46:=zt [119,105,116,104,95,99,111,109,109,101,110,116,115]
def s46:=zs t46
def t47:=zt [95,115,116,114,105,112,95,116,101,120,116]
def s47:=zs t47
def t48:=zt [115,116,114,105,112,95,116,101,120,116]
def s48:=zs t48
def t49:=zt [95,101,120,99,108,117,100,101,95,97,116,116,114,115]
def s49:=zs t49
def t50:=zt [101,120,99,108,117,100,101,95,97,116,116,114,115]
def s50:=zs t50
def t51:=zt [115,101,116]
def s51:=zs t51
def t52:=zt [95,101,120,99,108,117,100,101,95,116,97,103,115]
def s52:=zs t52
def t53:=zt [101,120,99,108,117,100,101,95,116,97,103,115]
def s53:=zs t53
def t54:=zt [95,114,101,119,114,105,116,101,95,112,114,101,102,105,120,101,115]
def s54:=zs t54
def t55:=zt [114,101,119,114,105,116,101,95,112,114,101,102,105,120,101,115]
def s55:=zs t55
def t56:=zt [113,110,97,109,101,95,97,119,97,114,101,95,116,97,103,115]
def s56:=zs t56
def t57:=zt [95,113,110,97,109,101,95,97,119,97,114,101,95,116,97,103,115]
def s57:=zs t57
def t58:=zt [113,110,97,109,101,95,97,119,97,114,101,95,97,116,116,114,115]
def s58:=zs t58
def t59:=zt [95,102,105,110,100,95,113,110,97,109,101,95,97,119,97,114,101,95,97,116,116,114,115]
def s59:=zs t59
def s60:=zs [105,110,116,101,114,115,101,99,116,105,111,110]
def t61:=zt [95,100,101,99,108,97,114,101,100,95,110,115,95,115,116,97,99,107]
def s61:=zs t61
def t62:=zt [104,116,116,112,58,47,47,119,119,119,46,119,51,46,111,114,103,47,88,77,76,47,49,57,57,56,47,110,97,109,101,115,112,97,99,101]
def s62:=zs t62
def t63:=zt [120,109,108]
def s63:=zs t63
def t64:=zt [95,110,115,95,115,116,97,99,107]
def s64:=zs t64
def t65:=zt [108,105,115,116]
def s65:=zs t65
def t66:=zt [95,110,97,109,101,115,112,97,99,101,95,109,97,112]
def s66:=zs t66
def s67:=zs [105,116,101,109,115]
def t68:=zt [95,112,114,101,102,105,120,95,109,97,112]
def s68:=zs t68
def t69:=zt [95,112,114,101,115,101,114,118,101,95,115,112,97,99,101]
def s69:=zs t69
def t70:=zt [95,112,101,110,100,105,110,103,95,115,116,97,114,116]
def s70:=zs t70
def t71:=zt [95,114,111,111,116,95,115,101,101,110]
def s71:=zs t71
def t72:=zt [95,114,111,111,116,95,100,111,110,101]
def s72:=zs t72
def t73:=zt [95,105,103,110,111,114,101,100,95,100,101,112,116,104]
def s73:=zs t73
def s74:=zs [110,97,109,101,115,112,97,99,101,115]
def s75:=zs [95,114,101,118,101,114,115,101,100]
def s76:=zs [110,115,95,115,116,97,99,107]
def t77:=zt [112,114,101,102,105,120]
def s77:=zs t77
def s78:=zs [110,97,109,101]
def s79:=zs [112,114,101,102,105,120,101,100,95,110,97,109,101]
def s80:=zs [115,112,108,105,116]
def t81:=zt [58]
def s81:=zs t81
def t82:=zt [117,114,105]
def s82:=zs t82
def s83:=zs [112]
def t84:=zt [95,105,116,101,114,95,110,97,109,101,115,112,97,99,101,115]
def s84:=zs t84
def t85:=zt [123]
def s85:=zs t85
def t86:=zt [125]
def s86:=zs t86
def s87:=zs [86,97,108,117,101,69,114,114,111,114]
def s88:=zs [80,114,101,102,105,120,32]
def s89:=zs [32,111,102,32,81,78,97,109,101,32,34]
def s90:=zs [34,32,105,115,32,110,111,116,32,100,101,99,108,97,114,101,100,32,105,110,32,115,99,111,112,101]
def t91:=zt [116,97,103]
def s91:=zs t91
def t92:=zt [113,110,97,109,101]
def s92:=zs t92
def s93:=zs [114,115,112,108,105,116]
def s94:=zs []
def t95:=zt [112,114,101,102,105,120,101,115,95,115,101,101,110]
def s95:=zs t95
def t96:=zt [117]
def s96:=zs t96
def s97:=zs [97,100,100]
def s98:=zs [78,97,109,101,115,112,97,99,101,32,34]
def t99:=zt [100,97,116,97]
def s99:=zs t99
def vg:=zt [95,106,111,105,110,95,116,101,120,116]
def vh:=zs vg
def MT:=zs [115,116,114,105,112]
def Ga:=zt [97,114,103,115]
def vi:=zs Ga
def sA:=zt [113,110,97,109,101,95,116,101,120,116]
def fM:=zs sA
def vj:=zt [95,108,111,111,107,115,95,108,105,107,101,95,112,114,101,102,105,120,95,110,97,109,101]
def pJ:=zs vj
def Gb:=zt [95,115,116,97,114,116]
def pK:=zs Gb
def vm:=zt [95,101,115,99,97,112,101,95,99,100,97,116,97,95,99,49,52,110]
def f7:=zs vm
def Gc:=zt [95,102,108,117,115,104]
def pL:=zs Gc
def vo:=zt [110,101,119,95,110,97,109,101,115,112,97,99,101,115]
def ie:=zs vo
def sB:=zt [97,116,116,114,115]
def dM:=zs sB
def Aj:=zt [107]
def cX:=zs Aj
def Gd:=zt [118]
def fN:=zs Gd
def dN:=zs [46,48]
def Ge:=zt [113,110,97,109,101,115]
def pM:=zs Ge
def Gf:=zt [114,101,115,111,108,118,101,100,95,110,97,109,101,115]
def lO:=zs Gf
def Gh:=zt [95,114,101,115,111,108,118,101,95,112,114,101,102,105,120,95,110,97,109,101]
def pO:=zs Gh
def Gi:=zt [113,97,116,116,114,115]
def jX:=zs Gi
def Gj:=zt [97,116,116,114,95,110,97,109,101]
def pP:=zs Gj
def Gk:=zt [118,97,108,117,101]
def pQ:=zs Gk
def Gm:=zt [112,97,114,115,101,95,113,110,97,109,101]
def sC:=zs Gm
def Gn:=zt [95,113,110,97,109,101]
def pR:=zs Gn
def Gp:=zt [112,97,114,115,101,100,95,113,110,97,109,101,115]
def mZ:=zs Gp
def Ak:=zt [115,111,114,116,101,100]
def vq:=zs Ak
def MU:=zs [107,101,121]
def Gq:=zt [97,116,116,114,95,108,105,115,116]
def lP:=zs Gq
def MV:=zs [120,109,108,110,115,58]
def MW:=zs [120,109,108,110,115]
def MX:=zs [115,111,114,116]
def Gr:=zt [97,116,116,114,95,113,110,97,109,101]
def vt:=zs Gr
def Gs:=zt [115,112,97,99,101,95,98,101,104,97,118,105,111,117,114]
def sE:=zs Gs
def MY:=zs [123,104,116,116,112,58,47,47,119,119,119,46,119,51,46,111,114,103,47,88,77,76,47,49,57,57,56,47,110,97,109,101,115,112,97,99,101,125,115,112,97,99,101]
def MZ:=zs [112,114,101,115,101,114,118,101]
def Al:=zt [60]
def sF:=zs Al
def Gu:=zt [32]
def pS:=zs Gu
def M0:=zs [61,34]
def Gv:=zt [95,101,115,99,97,112,101,95,97,116,116,114,105,98,95,99,49,52,110]
def iL:=zs Gv
def Gw:=zs [34]
def Am:=zt [62]
def sG:=zs Am
def M1:=zs [60,47]
def vv:=zs [112,111,112]
def An:=zt [38]
def Ao:=zs An
def iM:=zs [114,101,112,108,97,99,101]
def Gx:=zs [38,97,109,112,59]
def Ap:=zs [38,108,116,59]
def Gy:=zs [38,103,116,59]
def Gz:=zs [13]
def GA:=zs [38,35,120,68,59]
def vw:=zs [65,116,116,114,105,98,117,116,101,69,114,114,111,114]
def Aq:=zt [95,114,97,105,115,101,95,115,101,114,105,97,108,105,122,97,116,105,111,110,95,101,114,114,111,114]
def ig:=zs Aq
def M2:=zs [38,113,117,111,116,59]
def GC:=zt [9]
def GD:=zs GC
def M3:=zs [38,35,120,57,59]
def M4:=zs [10]
def M5:=zs [38,35,120,65,59]
def GF:=zt [110,97,109,101,100]
def vy:=zs GF
def Ar:=zt [79,80,84,73,77,73,90,69,68]
def GG:=zs Ar
def As:=zt [78,69,87,76,79,67,65,76,83]
def GH:=zs As
def At:=zt [86,65,82,65,82,71,83]
def GI:=zs At
def Au:=zt [86,65,82,75,69,89,87,79,82,68,83]
def GJ:=zs Au
def Av:=zt [78,69,83,84,69,68]
def GK:=zs Av
def Aw:=zt [71,69,78,69,82,65,84,79,82]
def GL:=zs Aw
def Ax:=zt [78,79,70,82,69,69]
def GO:=zs Ax
def Ay:=zt [67,79,82,79,85,84,73,78,69]
def GP:=zs Ay
def Az:=zt [73,84,69,82,65,66,76,69,95,67,79,82,79,85,84,73,78,69]
def GQ:=zs Az
def AA:=zt [65,83,89,78,67,95,71,69,78,69,82,65,84,79,82]
def GR:=zs AA
def GS:=zt [100,117,101]
def pT:=zs GS
def sH:=zt [112,108,97,99,101]
def aY:=zs sH
def pU:=zt [98,97,115,101]
def dD:=zs pU
def m0:=zt [98,105,116,115]
def eP:=zs m0
def M6:=zs [48,120]
def M7:=zs [49,50,52,56]
def M8:=zs [48]
def M9:=zs [48,120,48]
def AB:=zt [116,111,108,100]
def ii:=zs AB
def Na:=zs [60,114,62]
def AC:=zt [105,110,115,105,100,101]
def f8:=zs AC
def GT:=zt [100,101,112,116,104]
def sI:=zs GT
def GU:=zt [112,97,105,114,101,100]
def pV:=zs GU
def vz:=zt [97,116]
def c7:=zs vz
def Nb:=zs [60,98,62]
def Nc:=zs [60,47,98,62]
def Nd:=zs [60,47,114,62]
def GV:=zt [119,97,105,116,105,110,103]
def pW:=zs GV
def GW:=zt [109,97,116,101,115]
def lQ:=zs GW
def sJ:=zt [114,111,119]
def eD:=zs sJ
def GX:=zt [112,105,101,99,101,115]
def sK:=zs GX
def GY:=zt [119,114,105,116,101,114]
def lR:=zs GY
def AD:=zt [67,49,52,78,87,114,105,116,101,114,84,97,114,103,101,116]
def ij:=zs AD
def GZ:=zt [115,116,97,114,116]
def pX:=zs GZ
def G1:=zs [114]
def Ng:=zs [60,62]
def G2:=zt [101,110,100]
def pY:=zs G2
def vA:=zt [115,104,97,112,101]
def dj:=zs vA
def vD:=zt [112,97,103,101]
def f9:=zs vD
def G3:=zt [108,97,115,116]
def sL:=zs G3
def AE:=zt [69,88,65,67,84,95,84,79,75,69,78,95,84,89,80,69,83]
def m7:=zs AE
def G4:=zt [98,101,104,105,110,100]
def m8:=zs G4
def Nh:=zs [108,116]
def G5:=zs [47,98]
def Ni:=zs [103,116]
def AF:=zt [46]
def AG:=zs AF
def vE:=zt [112,114,101,116,116,121,95,102,108,97,103,115]
def gc:=zs vE
def vF:=zs [119,111,114,100]
def vG:=zt [101,118,101,114,121]
def il:=zs vG
def AH:=zt [95,108,97,119,95,112,97,103,101]
def iN:=zs AH
def G6:=zt [114,101,97,100]
def vH:=zs G6
def AI:=zt [95,108,97,119,95,114,101,97,100]
def iO:=zs AI
def vJ:=zt [95,108,97,119,95,119,111,114,100,115]
def gf:=zs vJ
def AJ:=zt [95,108,97,119,95,116,111,108,100]
def iQ:=zs AJ
def G7:=zt [99,111,108,117,109,110,115]
def sM:=zs G7
def G8:=zt [115,105,122,101]
def sN:=zs G8
def G9:=zt [115,105,103,110]
def vK:=zs G9
def AK:=zt [108,101,97,100]
def im:=zs AK
def AL:=zt [99,104,97,105,110,115]
def iR:=zs AL
def Ha:=zt [102,117,114,116,104,101,114]
def pZ:=zs Ha
def AM:=zt [99,104,97,105,110]
def ei:=zs AM
def fO:=zs [111,110,101]
def Hc:=zt [110,117,109,98,101,114,115]
def lS:=zs Hc
def AN:=zt [115,99,114,105,112,116]
def sO:=zs AN
def AO:=zt [95,108,97,119,95,99,104,97,105,110,115]
def iS:=zs AO
def Hd:=zt [115,104,97,112,101,115]
def qc:=zs Hd
def He:=zt [102,111,117,110,100]
def qd:=zs He
def Hf:=zt [120]
def iT:=zs Hf
def AP:=zt [95,108,97,119,95,115,104,97,112,101]
def gh:=zs AP
def Hg:=zt [102,114,101,101]
def qe:=zs Hg
def Hh:=zt [107,101,112,116]
def sP:=zs Hh
def AQ:=zt [115,117,109]
def sQ:=zs AQ
def vL:=zs [109,97,110,121]
def Hi:=zt [108,101,97,100,115]
def sR:=zs Hi
def Hj:=zs [32,9]
def Hk:=zt [98,97,114,101]
def sS:=zs Hk
def Hl:=zt [108,111,110,103,101,114]
def sU:=zs Hl
def Hm:=zt [106]
def qf:=zs Hm
def Hn:=zt [108,101,115,115]
def m9:=zs Hn
def Ho:=zt [100,114,97,119,110]
def nf:=zs Ho
def Hp:=zt [104,101,114,101]
def sV:=zs Hp
def AR:=zt [95,108,97,119,95,99,111,108,117,109,110,115]
def io:=zs AR
def Hq:=zt [116,104,101,114,101]
def sW:=zs Hq
def Hr:=zt [108,111,119,101,114]
def vN:=zs Hr
def qg:=zs [115]
def Hs:=zt [108,97,119,95,116,97,48,49,51,55,95,48,49]
def jY:=zs Hs
def Ht:=zt [95,95,100,111,99,95,95]
def ng:=zs Ht
def Hu:=zt [95,95,112,97,99,107,97,103,101,95,95]
def AS:=zs Hu
def Hv:=zt [95,95,115,112,101,99,95,95]
def AT:=zs Hv
def Hw:=zt [95,95,97,110,110,111,116,97,116,105,111,110,115,95,95]
def Nj:=zs Hw
def Hx:=zt [95,95,98,117,105,108,116,105,110,115,95,95]
def Nk:=zs Hx
def Hy:=zt [95,95,102,105,108,101,95,95]
def Nl:=zs Hy
def Hz:=zt [47,99,108,97,105,109,47,99,117,116,46,112,121]
def aA:=zs Hz
def HD:=zt [95,95,99,97,99,104,101,100,95,95]
def No:=zs HD
def HE:=zt [95,115,114,101]
def sX:=zs HE
def HF:=zt [76,80,65,82]
def HG:=zs HF
def HH:=zt [82,80,65,82]
def HI:=zs HH
def HJ:=zt [76,83,81,66]
def HK:=zs HJ
def HL:=zt [82,83,81,66]
def HM:=zs HL
def HN:=zt [67,79,76,79,78]
def HO:=zs HN
def HP:=zt [67,79,77,77,65]
def HQ:=zs HP
def HR:=zt [83,69,77,73]
def HS:=zs HR
def HT:=zt [80,76,85,83]
def HU:=zs HT
def HV:=zt [77,73,78,85,83]
def HW:=zs HV
def HX:=zt [83,84,65,82]
def HY:=zs HX
def HZ:=zt [83,76,65,83,72]
def H0:=zs HZ
def H4:=zt [86,66,65,82]
def H5:=zs H4
def H6:=zt [65,77,80,69,82]
def H7:=zs H6
def H8:=zt [76,69,83,83]
def H9:=zs H8
def Ia:=zt [71,82,69,65,84,69,82]
def Ib:=zs Ia
def Ic:=zt [69,81,85,65,76]
def Id:=zs Ic
def Ie:=zt [68,79,84]
def Ig:=zs Ie
def Ii:=zt [80,69,82,67,69,78,84]
def Ij:=zs Ii
def Ik:=zt [76,66,82,65,67,69]
def Il:=zs Ik
def Im:=zt [82,66,82,65,67,69]
def Io:=zs Im
def Ip:=zt [69,81,69,81,85,65,76]
def Iq:=zs Ip
def Ir:=zt [78,79,84,69,81,85,65,76]
def It:=zs Ir
def Iu:=zt [76,69,83,83,69,81,85,65,76]
def Iw:=zs Iu
def Ix:=zt [71,82,69,65,84,69,82,69,81,85,65,76]
def Iy:=zs Ix
def Iz:=zt [84,73,76,68,69]
def IA:=zs Iz
def IB:=zt [67,73,82,67,85,77,70,76,69,88]
def IC:=zs IB
def ID:=zt [76,69,70,84,83,72,73,70,84]
def IE:=zs ID
def IF:=zt [82,73,71,72,84,83,72,73,70,84]
def IG:=zs IF
def II:=zt [68,79,85,66,76,69,83,84,65,82]
def IJ:=zs II
def IK:=zt [80,76,85,83,69,81,85,65,76]
def IL:=zs IK
def IM:=zt [77,73,78,69,81,85,65,76]
def IN:=zs IM
def IO:=zt [83,84,65,82,69,81,85,65,76]
def IP:=zs IO
def IQ:=zt [83,76,65,83,72,69,81,85,65,76]
def IR:=zs IQ
def IS:=zt [80,69,82,67,69,78,84,69,81,85,65,76]
def IT:=zs IS
def IU:=zt [65,77,80,69,82,69,81,85,65,76]
def IV:=zs IU
def IW:=zt [86,66,65,82,69,81,85,65,76]
def IX:=zs IW
def IY:=zt [67,73,82,67,85,77,70,76,69,88,69,81,85,65,76]
def IZ:=zs IY
def I0:=zt [76,69,70,84,83,72,73,70,84,69,81,85,65,76]
def I3:=zs I0
def I4:=zt [82,73,71,72,84,83,72,73,70,84,69,81,85,65,76]
def I5:=zs I4
def I6:=zt [68,79,85,66,76,69,83,84,65,82,69,81,85,65,76]
def I7:=zs I6
def I8:=zt [68,79,85,66,76,69,83,76,65,83,72]
def I9:=zs I8
def Ja:=zt [68,79,85,66,76,69,83,76,65,83,72,69,81,85,65,76]
def Jb:=zs Ja
def Jc:=zt [65,84]
def Jd:=zs Jc
def Je:=zt [65,84,69,81,85,65,76]
def Jf:=zs Je
def Jg:=zt [82,65,82,82,79,87]
def Jh:=zs Jg
def Ji:=zt [69,76,76,73,80,83,73,83]
def Jj:=zs Ji
def Jk:=zt [67,79,76,79,78,69,81,85,65,76]
def Jl:=zs Jk
def Jm:=zt [69,88,67,76,65,77,65,84,73,79,78]
def Jn:=zs Jm
def Jo:=zt [95,116,119,105,110,95,114,101,95,49]
def Jp:=zs Jo
def Jq:=zt [108,97,119]
def nh:=zs Jq
def Jr:=zt [114,101,118,101,114,115,101,100]
def Js:=zs Jr
def AU:=zt [95,95,105,110,105,116,95,95]
def jZ:=zs AU
def Jt:=zt [101,113,117,97,108]
def vO:=zs Jt
def Ju:=zt [110,111,116,95,101,113,117,97,108,95,119,105,116,110,101,115,115]
def vP:=zs Ju
def Jv:=zt [110,111,116,95,108,101,115,115,95,119,105,116,110,101,115,115]
def vQ:=zs Jv
def Jw:=zt [115,116,97,114,116,95,110,115]
def vU:=zs Jw
def Jx:=zt [99,111,109,109,101,110,116]
def vV:=zs Jx
def Jy:=zt [112,105]
def vW:=zs Jy
def AV:=zt [33]
def Np:=zs AV
def AW:=zt [33,61]
def Nq:=zs AW
def AX:=zt [37]
def Nr:=zs AX
def AY:=zt [37,61]
def Nt:=zs AY
def AZ:=zt [38,61]
def Nu:=zs AZ
def A5:=zt [40]
def Nv:=zs A5
def A6:=zt [42]
def Nw:=zs A6
def A7:=zt [42,42]
def Nx:=zs A7
def A8:=zt [42,42,61]
def Ny:=zs A8
def A9:=zt [42,61]
def Nz:=zs A9
def Ba:=zt [43]
def NA:=zs Ba
def Bb:=zt [43,61]
def NB:=zs Bb
def Bc:=zt [44]
def ND:=zs Bc
def Bd:=zt [45]
def NE:=zs Bd
def Be:=zt [45,61]
def NF:=zs Be
def Bf:=zt [45,62]
def NG:=zs Bf
def Bg:=zt [46,46,46]
def NH:=zs Bg
def Bh:=zt [47]
def NI:=zs Bh
def Bi:=zt [47,47]
def NJ:=zs Bi
def Bj:=zt [47,47,61]
def NK:=zs Bj
def Bk:=zt [47,61]
def NL:=zs Bk
def Bl:=zt [58,61]
def NM:=zs Bl
def Bm:=zt [59]
def NN:=zs Bm
def Bn:=zt [60,60]
def NO:=zs Bn
def Bo:=zt [60,60,61]
def NP:=zs Bo
def Bp:=zt [60,61]
def NQ:=zs Bp
def Bq:=zt [61]
def NR:=zs Bq
def Br:=zt [61,61]
def NS:=zs Br
def Bs:=zt [62,61]
def NT:=zs Bs
def Bt:=zt [62,62]
def NU:=zs Bt
def Bu:=zt [62,62,61]
def NV:=zs Bu
def Bv:=zt [64]
def NW:=zs Bv
def Bw:=zt [64,61]
def NX:=zs Bw
def Bx:=zt [91]
def NY:=zs Bx
def By:=zt [93]
def NZ:=zs By
def Bz:=zt [94]
def N5:=zs Bz
def BA:=zt [94,61]
def N6:=zs BA
def BB:=zt [124]
def N7:=zs BB
def BC:=zt [124,61]
def N8:=zs BC
def BD:=zt [126]
def N9:=zs BD
def BE:=zt [104,116,116,112,58,47,47,119,119,119,46,119,51,46,111,114,103,47,49,57,57,57,47,120,104,116,109,108]
def Oa:=zs BE
def BF:=zt [104,116,109,108]
def Ob:=zs BF
def BG:=zt [104,116,116,112,58,47,47,119,119,119,46,119,51,46,111,114,103,47,49,57,57,57,47,48,50,47,50,50,45,114,100,102,45,115,121,110,116,97,120,45,110,115,35]
def Oc:=zs BG
def BH:=zt [114,100,102]
def Od:=zs BH
def BI:=zt [104,116,116,112,58,47,47,115,99,104,101,109,97,115,46,120,109,108,115,111,97,112,46,111,114,103,47,119,115,100,108,47]
def Oe:=zs BI
def BJ:=zt [119,115,100,108]
def Of:=zs BJ
def BK:=zt [104,116,116,112,58,47,47,119,119,119,46,119,51,46,111,114,103,47,50,48,48,49,47,88,77,76,83,99,104,101,109,97]
def Og:=zs BK
def BL:=zt [120,115]
def Oh:=zs BL
def BM:=zt [104,116,116,112,58,47,47,119,119,119,46,119,51,46,111,114,103,47,50,48,48,49,47,88,77,76,83,99,104,101,109,97,45,105,110,115,116,97,110,99,101]
def Oi:=zs BM
def BN:=zt [120,115,105]
def Oj:=zs BN
def BO:=zt [104,116,116,112,58,47,47,112,117,114,108,46,111,114,103,47,100,99,47,101,108,101,109,101,110,116,115,47,49,46,49,47]
def Ok:=zs BO
def BP:=zt [100,99]
def Ol:=zs BP
def Om:=zt [67,49,52,78,87,114,105,116,101,114,84,97,114,103,101,116,46,95,115,116,97,114,116,46,60,108,111,99,97,108,115,62,46]
def aJ:=zs [102,97,115,116]
def Cu:=zs [116,97,114,103,101,116]
noncomputable abbrev pN:Program:=PySem.Challenge.pw_ta0137_01
inductive uRr{α β:Type}(a:α)(b:β):Type|mk:uRr a b
structure uFn where
  a:Arguments
  b:S
  c:Scope
abbrev uRE(x:Expr)(y:Mine.E):Type:=uRr x y
abbrev uRL(x:List Expr)(y:Mine.E):Type:=uRr x y
abbrev uRO(x:Option Expr)(y:Mine.E):Type:=uRr x y
abbrev uRN(x y:Str):Type:=uRr x y
abbrev uRC(x y:Const):Type:=uRr x y
abbrev uRI(x y:Int):Type:=uRr x y
abbrev uRB(x:List Stmt)(y:Mine.S):Type:=uRr x y
abbrev uRS(x:Stmt)(y:Mine.S):Type:=uRr x y
abbrev uRK(x y:List (Str×NameKind)):Type:=uRr x y
abbrev uRM(x y:List (Str×Const)):Type:=uRr x y
abbrev uRQ(x y:Scope):Type:=uRr x y
abbrev uRA(x y:List Arg):Type:=uRr x y
abbrev uRG(x y:Arguments):Type:=uRr x y
abbrev uRF(x:Stmt)(y:uFn):Type:=uRr x y
noncomputable def uR0:uRL [] .nil:=.mk
noncomputable def uR1{yx yl ya yb}:uRE yx ya→uRL yl yb→uRL (yx::yl) (.cons ya yb):=λ_ _=>.mk
noncomputable def uR2:uRO none .no:=.mk
noncomputable def uR3{yx ya}:uRE yx ya→uRO (some yx) ya:=λ_=>.mk
noncomputable def uR4{yc yk yp yd}:uRC yc yd→uRE (.Constant yc yk yp) (.cst yd yk yp):=λ_=>.mk
noncomputable def uR5{yx yp yy}:uRN yx yy→uRE (.Name yx yp) (.nm yy yp):=λ_=>.mk
noncomputable def uR6{yx yo yz yp ya yb}:uRE yx ya→uRE yz yb→uRE (.BinOp yx yo yz yp) (.bin ya yo yb yp):=λ_ _=>.mk
noncomputable def uR7{yx yp ya}:uRE yx ya→uRE (.UnaryOp .USub yx yp) (.neg ya yp):=λ_=>.mk
noncomputable def uR8{yx yp ya}:uRE yx ya→uRE (.UnaryOp .Not yx yp) (.not ya yp):=λ_=>.mk
noncomputable def uR9{yx yy yz yp ya yb yc}:uRE yx ya→uRE yy yb→uRE yz yc→uRE (.IfExp yx yy yz yp) (.ite ya yb yc yp):=λ_ _ _=>.mk
noncomputable def uR10{yl yp ya}:uRL yl ya→uRE (.List yl yp) (.list ya yp):=λ_=>.mk
noncomputable def uR11{yl yk yp ya}:uRL yl ya→uRE (.Tuple yl yk yp) (.tup ya yk yp):=λ_=>.mk
noncomputable def uR12{yp}:uRE (.Dict [] [] yp) (.dict0 yp):=.mk
noncomputable def uR13{yx yy yr ys yk yp ya yz}:uRE yx ya→uRN yy yz→uRE (.Set [yx,.Starred (.Name yy yr) ys] yk yp) (.set1 ya yz yr ys yk yp):=λ_ _=>.mk
noncomputable def uR14{yx yo yl yp ya yb}:uRE yx ya→uRL yl yb→uRE (.Compare yx yo yl yp) (.cmp ya yo yb yp):=λ_ _=>.mk
noncomputable def uR15{yl yp ya}:uRL yl ya→uRE (.BoolOp .And yl yp) (.bop true ya yp):=λ_=>.mk
noncomputable def uR16{yl yp ya}:uRL yl ya→uRE (.BoolOp .Or yl yp) (.bop false ya yp):=λ_=>.mk
noncomputable def uR17{yx yr yy ys ye yz yu1 yu2 ym yu3 yc yk1 yu4 yk2 yu5 yu6 yw yu7 yu8 yp yx1 yy1 ye1 yz1 yc1 ym1}:uRN yx yx1→uRN yy yy1→uRN ye ye1→uRN yz yz1→uRN yc yc1→uRN ym ym1→uRE (.Call (.Name yx yr) [.Name yy ys] [⟨some ye,.Lambda ⟨[],[⟨yz,none,yu1⟩],none,[],[],none,[]⟩ (.Call (.Attribute (.Name yz yu2) ym yu3) [.Constant (.str yc) yk1 yu4,.Constant (.int 1) yk2 yu5] [] yu6) yw yu7,yu8⟩] yp) (.sort yx1 yr yy1 ys ye1 yz1 yc1 ym1 yk1 yk2 yu1 yu2 yu3 yu4 yu5 yu6 yu7 yu8 yp):=λ_ _ _ _ _ _=>.mk
noncomputable def uR18{yr yd ys ym yu yw yp yx1 yd1 ym1}:uRN "list" yx1→uRN yd yd1→uRN ym ym1→uRE (.Call (.Name "list" yr) [.Call (.Attribute (.Name yd ys) ym yu) [] [] yw] [] yp) (.items yx1 yr yd1 ys ym1 yu yw yp):=λ_ _ _=>.mk
noncomputable def uR19{yx yr yl yp yy ya}:uRN yx yy→uRL yl ya→uRE (.Call (.Name yx yr) yl [] yp) (.call yy yr ya yp):=λ_ _=>.mk
noncomputable def uR20{yx ym yr yl yp ya yn yb}:uRE yx ya→uRN ym yn→uRL yl yb→uRE (.Call (.Attribute yx ym yr) yl [] yp) (.meth ya yn yr yb yp):=λ_ _ _=>.mk
noncomputable def uR21{yx ym yp ya yn}:uRE yx ya→uRN ym yn→uRE (.Attribute yx ym yp) (.attr ya yn yp):=λ_ _=>.mk
noncomputable def uR22{yx yy yz yr yp ya yb yc}:uRE yx ya→uRO yy yb→uRO yz yc→uRE (.Subscript yx (.Slice yy yz none yr) yp) (.slc ya yb yc yr yp):=λ_ _ _=>.mk
noncomputable def uR23{yx yy yp ya yb}:uRE yx ya→uRE yy yb→uRE (.Subscript yx yy yp) (.sub ya yb yp):=λ_ _=>.mk
noncomputable def uR24{yx yn yr yy yl yg yp ya ym yb yc yh}:uRE yx ya→uRN yn ym→uRE yy yb→uRL yl yc→uRQ yg yh→uRE (.ListComp yx [⟨.Name yn yr,yy,yl,0⟩] yg yp) (.lcomp ya ym yr yb yc yh yp):=λ_ _ _ _ _=>.mk
noncomputable def uR25{yk yx yn yr yy yl yg yp yd ya ym yb yc yh}:uRE yk yd→uRE yx ya→uRN yn ym→uRE yy yb→uRL yl yc→uRQ yg yh→uRE (.DictComp yk yx [⟨.Name yn yr,yy,yl,0⟩] yg yp) (.dcomp yd ya ym yr yb yc yh yp):=λ_ _ _ _ _ _=>.mk
noncomputable def uR26{yl yp ya}:uRL yl ya→uRE (.JoinedStr yl yp) (.fstr ya yp):=λ_=>.mk
noncomputable def uR27{yx yc yp ya yd}:uRE yx ya→uRI yc yd→uRE (.FormattedValue yx yc none yp) (.fmt ya yd yp):=λ_ _=>.mk
noncomputable def uR28{yx}:uRE yx (.raw yx):=.mk
noncomputable def uR29{yx yy}:uRN yx yy→uRC (.str yx) (.str yy):=λ_=>.mk
noncomputable def uR30{yx yy}:uRI yx yy→uRC (.int yx) (.int yy):=λ_=>.mk
noncomputable def uR31{yx}:uRC yx yx:=.mk
noncomputable def uR32{yn}:uRI (OfNat.ofNat yn) (.ofNat yn):=.mk
noncomputable def uR33{yx}:uRI yx yx:=.mk
noncomputable def uR34:uRB [] .nil:=.mk
noncomputable def uR35{yx yl ya yb}:uRS yx ya→uRB yl yb→uRB (yx::yl) (.cons ya yb):=λ_ _=>.mk
noncomputable def uR36{yx yp ya}:uRE yx ya→uRS (.Expr yx yp) (.expr ya yp):=λ_=>.mk
noncomputable def uR37{yp}:uRS (.Break yp) (.brk yp):=.mk
noncomputable def uR38{yp}:uRS (.Return none yp) (.ret0 yp):=.mk
noncomputable def uR39{yx yp ya}:uRE yx ya→uRS (.Return (some yx) yp) (.ret ya yp):=λ_=>.mk
noncomputable def uR40{yx yr yy ys yk yu ye yf yw yv yp yx1 yy1 ya yb}:uRN yx yx1→uRN yy yy1→uRE ye ya→uRE yf yb→uRS (.Assign [.Tuple [.Name yx yr,.Name yy ys] yk yu] (.Tuple [ye,yf] yw yv) yp) (.swp yx1 yr yy1 ys yk yu ya yb yw yv yp):=λ_ _ _ _=>.mk
noncomputable def uR41{yc yk1 yu1 yx yu2 yu3 yu4 yu5 ym yu6 yk2 yu7 yr yk3 yu8 yu9 yv1 yp yx1 yc1 ym1 yr1}:uRN yx yx1→uRN yc yc1→uRN ym ym1→uRN yr yr1→uRS (.If (.Compare (.Constant (.str yc) yk1 yu1) [.In] [.Name yx yu2] yu3) [.Assign [.Name yx yu4] (.Call (.Attribute (.Name yx yu5) ym yu6) [.Constant (.str yc) yk2 yu7,.Constant (.str yr) yk3 yu8] [] yu9) yv1] [] yp) (.esc yx1 yc1 ym1 yr1 yk1 yk2 yk3 yu2 yu1 yu3 yu4 yu5 yu6 yu7 yu8 yu9 yv1 yp):=λ_ _ _ _=>.mk
noncomputable def uR42{yl yx yp yb ya}:uRL yl yb→uRE yx ya→uRS (.Assign yl yx yp) (.asg yb ya yp):=λ_ _=>.mk
noncomputable def uR43{yx yr yo ye yp yy ya}:uRN yx yy→uRE ye ya→uRS (.AugAssign (.Name yx yr) yo ye yp) (.aug yy yr yo ya yp):=λ_ _=>.mk
noncomputable def uR44{yx yl ym yp ya yb yc}:uRE yx ya→uRB yl yb→uRB ym yc→uRS (.If yx yl ym yp) (.if_ ya yb yc yp):=λ_ _ _=>.mk
noncomputable def uR45{yx yl yp ya yb}:uRE yx ya→uRB yl yb→uRS (.While yx yl [] yp) (.while_ ya yb yp):=λ_ _=>.mk
noncomputable def uR46{yx ys yr1 ym yr2 yt yr3 yn yr4 yr5 yl yp ya ys1 ym1 yt1 yn1 yb}:uRE yx ya→uRN ys ys1→uRN ym ym1→uRN yt yt1→uRN yn yn1→uRB yl yb→uRS (.For yx (.Call (.Attribute (.Name ys yr1) ym yr2) [.Attribute (.Name yt yr3) yn yr4] [] yr5) yl [] yp) (.gfor ya ys1 yr1 ym1 yr2 yt1 yr3 yn1 yr4 yr5 yb yp):=λ_ _ _ _ _ _=>.mk
noncomputable def uR47{yx yy yl ym yp ya yb yc yd}:uRE yx ya→uRE yy yb→uRB yl yc→uRB ym yd→uRS (.For yx yy yl ym yp) (.for_ ya yb yc yd yp):=λ_ _ _ _=>.mk
noncomputable def uR48{yx yr ys yp ya}:uRE yx ya→uRS (.Delete [.Subscript yx (.Slice none none none yr) ys] yp) (.del ya yr ys yp):=λ_=>.mk
noncomputable def uR49{yl yh yp yb}:uRB yl yb→uRS (.Try yl yh [] [] yp) (.try_ yb yh yp):=λ_=>.mk
noncomputable def uR50{yx}:uRS yx (.raw yx):=.mk
noncomputable def uR51:uRK [] []:=.mk
noncomputable def uR52{yx yk yl yy ym}:uRN yx yy→uRK yl ym→uRK ((yx,yk)::yl) ((yy,yk)::ym):=λ_ _=>.mk
noncomputable def uR53:uRM [] []:=.mk
noncomputable def uR54{yx yc yl yy yd ym}:uRN yx yy→uRC yc yd→uRM yl ym→uRM ((yx,yc)::yl) ((yy,yd)::ym):=λ_ _ _=>.mk
noncomputable def uR55{yk yl yg yh ym ya yb}:uRK yl ya→uRM ym yb→uRQ ⟨yk,yl,yg,yh,ym⟩ ⟨yk,ya,yg,yh,yb⟩:=λ_ _=>.mk
noncomputable def uR56:uRA [] []:=.mk
noncomputable def uR57{yx yn yp yl yy ym}:uRN yx yy→uRA yl ym→uRA (⟨yx,yn,yp⟩::yl) (⟨yy,yn,yp⟩::ym):=λ_ _=>.mk
noncomputable def uR58{yo yl yv yk yd yw ye ym yn}:uRA yl ym→uRA yk yn→uRG ⟨yo,yl,yv,yk,yd,yw,ye⟩ ⟨yo,ym,yv,yn,yd,yw,ye⟩:=λ_ _=>.mk
noncomputable def uR59{yn1 yg yb yn2 yn3 yn4 ys yn5 yn6 yn7 yh yc yt}:uRG yg yh→uRB yb yc→uRQ ys yt→uRF (.FunctionDef yn1 yg yb yn2 yn3 yn4 ys yn5 yn6 yn7) ⟨yh,yc,yt⟩:=λ_ _ _=>.mk
noncomputable def uN0:uRN "names" s0:=.mk
noncomputable def uN1:uRN "i" s1:=.mk
noncomputable def uN2:uRN "range" s2:=.mk
noncomputable def uN3:uRN "flag" s3:=.mk
noncomputable def uN4:uRN "flags" s4:=.mk
noncomputable def uN5:uRN "append" s5:=.mk
noncomputable def uN6:uRN "COMPILER_FLAG_NAMES" s6:=.mk
noncomputable def uN7:uRN "get" s7:=.mk
noncomputable def uN8:uRN "hex" s8:=.mk
noncomputable def uN9:uRN ", " s9:=.mk
noncomputable def uN10:uRN "join" s10:=.mk
noncomputable def uN11:uRN "self" s11:=.mk
noncomputable def uN12:uRN "raw" s12:=.mk
noncomputable def uN13:uRN "ws" s13:=.mk
noncomputable def uN14:uRN "S" s14:=.mk
noncomputable def uN15:uRN "T" s15:=.mk
noncomputable def uN16:uRN "Whitespace" s16:=.mk
noncomputable def uN17:uRN "count" s17:=.mk
noncomputable def uN18:uRN "b" s18:=.mk
noncomputable def uN19:uRN "n" s19:=.mk
noncomputable def uN20:uRN "nt" s20:=.mk
noncomputable def uN21:uRN "ch" s21:=.mk
noncomputable def uN22:uRN "len" s22:=.mk
noncomputable def uN23:uRN "norm" s23:=.mk
noncomputable def uN24:uRN "tuple" s24:=.mk
noncomputable def uN25:uRN "is_simple" s25:=.mk
noncomputable def uN26:uRN "trailing" s26:=.mk
noncomputable def uN27:uRN "max" s27:=.mk
noncomputable def uN28:uRN "il" s28:=.mk
noncomputable def uN29:uRN "tabsize" s29:=.mk
noncomputable def uN30:uRN "_wall" s30:=.mk
noncomputable def uN31:uRN "other" s31:=.mk
noncomputable def uN32:uRN "longest_run_of_spaces" s32:=.mk
noncomputable def uN33:uRN "ts" s33:=.mk
noncomputable def uN34:uRN "indent_level" s34:=.mk
noncomputable def uN35:uRN "TypeError" s35:=.mk
noncomputable def uN36:uRN "cannot serialize " s36:=.mk
noncomputable def uN37:uRN "text" s37:=.mk
noncomputable def uN38:uRN " (type " s38:=.mk
noncomputable def uN39:uRN "type" s39:=.mk
noncomputable def uN40:uRN "__name__" s40:=.mk
noncomputable def uN41:uRN ")" s41:=.mk
noncomputable def uN42:uRN "_write" s42:=.mk
noncomputable def uN43:uRN "write" s43:=.mk
noncomputable def uN44:uRN "_data" s44:=.mk
noncomputable def uN45:uRN "_with_comments" s45:=.mk
noncomputable def uN46:uRN "with_comments" s46:=.mk
noncomputable def uN47:uRN "_strip_text" s47:=.mk
noncomputable def uN48:uRN "strip_text" s48:=.mk
noncomputable def uN49:uRN "_exclude_attrs" s49:=.mk
noncomputable def uN50:uRN "exclude_attrs" s50:=.mk
noncomputable def uN51:uRN "set" s51:=.mk
noncomputable def uN52:uRN "_exclude_tags" s52:=.mk
noncomputable def uN53:uRN "exclude_tags" s53:=.mk
noncomputable def uN54:uRN "_rewrite_prefixes" s54:=.mk
noncomputable def uN55:uRN "rewrite_prefixes" s55:=.mk
noncomputable def uN56:uRN "qname_aware_tags" s56:=.mk
noncomputable def uN57:uRN "_qname_aware_tags" s57:=.mk
noncomputable def uN58:uRN "qname_aware_attrs" s58:=.mk
noncomputable def uN59:uRN "_find_qname_aware_attrs" s59:=.mk
noncomputable def uN60:uRN "intersection" s60:=.mk
noncomputable def uN61:uRN "_declared_ns_stack" s61:=.mk
noncomputable def uN62:uRN "http://www.w3.org/XML/1998/namespace" s62:=.mk
noncomputable def uN63:uRN "xml" s63:=.mk
noncomputable def uN64:uRN "_ns_stack" s64:=.mk
noncomputable def uN65:uRN "list" s65:=.mk
noncomputable def uN66:uRN "_namespace_map" s66:=.mk
noncomputable def uN67:uRN "items" s67:=.mk
noncomputable def uN68:uRN "_prefix_map" s68:=.mk
noncomputable def uN69:uRN "_preserve_space" s69:=.mk
noncomputable def uN70:uRN "_pending_start" s70:=.mk
noncomputable def uN71:uRN "_root_seen" s71:=.mk
noncomputable def uN72:uRN "_root_done" s72:=.mk
noncomputable def uN73:uRN "_ignored_depth" s73:=.mk
noncomputable def uN74:uRN "namespaces" s74:=.mk
noncomputable def uN75:uRN "_reversed" s75:=.mk
noncomputable def uN76:uRN "ns_stack" s76:=.mk
noncomputable def uN77:uRN "prefix" s77:=.mk
noncomputable def uN78:uRN "name" s78:=.mk
noncomputable def uN79:uRN "prefixed_name" s79:=.mk
noncomputable def uN80:uRN "split" s80:=.mk
noncomputable def uN81:uRN ":" s81:=.mk
noncomputable def uN82:uRN "uri" s82:=.mk
noncomputable def uN83:uRN "p" s83:=.mk
noncomputable def uN84:uRN "_iter_namespaces" s84:=.mk
noncomputable def uN85:uRN "{" s85:=.mk
noncomputable def uN86:uRN "}" s86:=.mk
noncomputable def uN87:uRN "ValueError" s87:=.mk
noncomputable def uN88:uRN "Prefix " s88:=.mk
noncomputable def uN89:uRN " of QName \"" s89:=.mk
noncomputable def uN90:uRN "\" is not declared in scope" s90:=.mk
noncomputable def uN91:uRN "tag" s91:=.mk
noncomputable def uN92:uRN "qname" s92:=.mk
noncomputable def uN93:uRN "rsplit" s93:=.mk
noncomputable def uN94:uRN "" s94:=.mk
noncomputable def uN95:uRN "prefixes_seen" s95:=.mk
noncomputable def uN96:uRN "u" s96:=.mk
noncomputable def uN97:uRN "add" s97:=.mk
noncomputable def uN98:uRN "Namespace \"" s98:=.mk
noncomputable def uN99:uRN "data" s99:=.mk
noncomputable def uN100:uRN "_join_text" vh:=.mk
noncomputable def uN101:uRN "strip" MT:=.mk
noncomputable def uN102:uRN "args" vi:=.mk
noncomputable def uN103:uRN "qname_text" fM:=.mk
noncomputable def uN104:uRN "_looks_like_prefix_name" pJ:=.mk
noncomputable def uN105:uRN "_start" pK:=.mk
noncomputable def uN106:uRN "_escape_cdata_c14n" f7:=.mk
noncomputable def uN107:uRN "_flush" pL:=.mk
noncomputable def uN108:uRN "new_namespaces" ie:=.mk
noncomputable def uN109:uRN "attrs" dM:=.mk
noncomputable def uN110:uRN "k" cX:=.mk
noncomputable def uN111:uRN "v" fN:=.mk
noncomputable def uN112:uRN ".0" dN:=.mk
noncomputable def uN113:uRN "qnames" pM:=.mk
noncomputable def uN114:uRN "resolved_names" lO:=.mk
noncomputable def uN115:uRN "_resolve_prefix_name" pO:=.mk
noncomputable def uN116:uRN "qattrs" jX:=.mk
noncomputable def uN117:uRN "attr_name" pP:=.mk
noncomputable def uN118:uRN "value" pQ:=.mk
noncomputable def uN119:uRN "parse_qname" sC:=.mk
noncomputable def uN120:uRN "_qname" pR:=.mk
noncomputable def uN121:uRN "parsed_qnames" mZ:=.mk
noncomputable def uN122:uRN "sorted" vq:=.mk
noncomputable def uN123:uRN "key" MU:=.mk
noncomputable def uN124:uRN "attr_list" lP:=.mk
noncomputable def uN125:uRN "xmlns:" MV:=.mk
noncomputable def uN126:uRN "xmlns" MW:=.mk
noncomputable def uN127:uRN "sort" MX:=.mk
noncomputable def uN128:uRN "attr_qname" vt:=.mk
noncomputable def uN129:uRN "space_behaviour" sE:=.mk
noncomputable def uN130:uRN "{http://www.w3.org/XML/1998/namespace}space" MY:=.mk
noncomputable def uN131:uRN "preserve" MZ:=.mk
noncomputable def uN132:uRN "<" sF:=.mk
noncomputable def uN133:uRN " " pS:=.mk
noncomputable def uN134:uRN "=\"" M0:=.mk
noncomputable def uN135:uRN "_escape_attrib_c14n" iL:=.mk
noncomputable def uN136:uRN "\"" Gw:=.mk
noncomputable def uN137:uRN ">" sG:=.mk
noncomputable def uN138:uRN "</" M1:=.mk
noncomputable def uN139:uRN "pop" vv:=.mk
noncomputable def uN140:uRN "&" Ao:=.mk
noncomputable def uN141:uRN "replace" iM:=.mk
noncomputable def uN142:uRN "&amp;" Gx:=.mk
noncomputable def uN143:uRN "&lt;" Ap:=.mk
noncomputable def uN144:uRN "&gt;" Gy:=.mk
noncomputable def uN145:uRN "\r" Gz:=.mk
noncomputable def uN146:uRN "&#xD;" GA:=.mk
noncomputable def uN147:uRN "AttributeError" vw:=.mk
noncomputable def uN148:uRN "_raise_serialization_error" ig:=.mk
noncomputable def uN149:uRN "&quot;" M2:=.mk
noncomputable def uN150:uRN "\t" GD:=.mk
noncomputable def uN151:uRN "&#x9;" M3:=.mk
noncomputable def uN152:uRN "\n" M4:=.mk
noncomputable def uN153:uRN "&#xA;" M5:=.mk
noncomputable def uN154:uRN "named" vy:=.mk
noncomputable def uN155:uRN "OPTIMIZED" GG:=.mk
noncomputable def uN156:uRN "NEWLOCALS" GH:=.mk
noncomputable def uN157:uRN "VARARGS" GI:=.mk
noncomputable def uN158:uRN "VARKEYWORDS" GJ:=.mk
noncomputable def uN159:uRN "NESTED" GK:=.mk
noncomputable def uN160:uRN "GENERATOR" GL:=.mk
noncomputable def uN161:uRN "NOFREE" GO:=.mk
noncomputable def uN162:uRN "COROUTINE" GP:=.mk
noncomputable def uN163:uRN "ITERABLE_COROUTINE" GQ:=.mk
noncomputable def uN164:uRN "ASYNC_GENERATOR" GR:=.mk
noncomputable def uN165:uRN "due" pT:=.mk
noncomputable def uN166:uRN "place" aY:=.mk
noncomputable def uN167:uRN "base" dD:=.mk
noncomputable def uN168:uRN "bits" eP:=.mk
noncomputable def uN169:uRN "0x" M6:=.mk
noncomputable def uN170:uRN "1248" M7:=.mk
noncomputable def uN171:uRN "0" M8:=.mk
noncomputable def uN172:uRN "0x0" M9:=.mk
noncomputable def uN173:uRN "told" ii:=.mk
noncomputable def uN174:uRN "<r>" Na:=.mk
noncomputable def uN175:uRN "inside" f8:=.mk
noncomputable def uN176:uRN "depth" sI:=.mk
noncomputable def uN177:uRN "paired" pV:=.mk
noncomputable def uN178:uRN "at" c7:=.mk
noncomputable def uN179:uRN "<b>" Nb:=.mk
noncomputable def uN180:uRN "</b>" Nc:=.mk
noncomputable def uN181:uRN "</r>" Nd:=.mk
noncomputable def uN182:uRN "waiting" pW:=.mk
noncomputable def uN183:uRN "mates" lQ:=.mk
noncomputable def uN184:uRN "row" eD:=.mk
noncomputable def uN185:uRN "pieces" sK:=.mk
noncomputable def uN186:uRN "writer" lR:=.mk
noncomputable def uN187:uRN "C14NWriterTarget" ij:=.mk
noncomputable def uN188:uRN "start" pX:=.mk
noncomputable def uN189:uRN "r" G1:=.mk
noncomputable def uN190:uRN "<>" Ng:=.mk
noncomputable def uN191:uRN "end" pY:=.mk
noncomputable def uN192:uRN "shape" dj:=.mk
noncomputable def uN193:uRN "page" f9:=.mk
noncomputable def uN194:uRN "last" sL:=.mk
noncomputable def uN195:uRN "EXACT_TOKEN_TYPES" m7:=.mk
noncomputable def uN196:uRN "behind" m8:=.mk
noncomputable def uN197:uRN "lt" Nh:=.mk
noncomputable def uN198:uRN "/b" G5:=.mk
noncomputable def uN199:uRN "gt" Ni:=.mk
noncomputable def uN200:uRN "." AG:=.mk
noncomputable def uN201:uRN "pretty_flags" gc:=.mk
noncomputable def uN202:uRN "word" vF:=.mk
noncomputable def uN203:uRN "every" il:=.mk
noncomputable def uN204:uRN "_law_page" iN:=.mk
noncomputable def uN205:uRN "read" vH:=.mk
noncomputable def uN206:uRN "_law_read" iO:=.mk
noncomputable def uN207:uRN "_law_words" gf:=.mk
noncomputable def uN208:uRN "_law_told" iQ:=.mk
noncomputable def uN209:uRN "columns" sM:=.mk
noncomputable def uN210:uRN "size" sN:=.mk
noncomputable def uN211:uRN "sign" vK:=.mk
noncomputable def uN212:uRN "lead" im:=.mk
noncomputable def uN213:uRN "chains" iR:=.mk
noncomputable def uN214:uRN "further" pZ:=.mk
noncomputable def uN215:uRN "chain" ei:=.mk
noncomputable def uN216:uRN "one" fO:=.mk
noncomputable def uN217:uRN "numbers" lS:=.mk
noncomputable def uN218:uRN "script" sO:=.mk
noncomputable def uN219:uRN "_law_chains" iS:=.mk
noncomputable def uN220:uRN "shapes" qc:=.mk
noncomputable def uN221:uRN "found" qd:=.mk
noncomputable def uN222:uRN "x" iT:=.mk
noncomputable def uN223:uRN "_law_shape" gh:=.mk
noncomputable def uN224:uRN "free" qe:=.mk
noncomputable def uN225:uRN "kept" sP:=.mk
noncomputable def uN226:uRN "sum" sQ:=.mk
noncomputable def uN227:uRN "many" vL:=.mk
noncomputable def uN228:uRN "leads" sR:=.mk
noncomputable def uN229:uRN " \t" Hj:=.mk
noncomputable def uN230:uRN "bare" sS:=.mk
noncomputable def uN231:uRN "longer" sU:=.mk
noncomputable def uN232:uRN "j" qf:=.mk
noncomputable def uN233:uRN "less" m9:=.mk
noncomputable def uN234:uRN "drawn" nf:=.mk
noncomputable def uN235:uRN "here" sV:=.mk
noncomputable def uN236:uRN "_law_columns" io:=.mk
noncomputable def uN237:uRN "there" sW:=.mk
noncomputable def uN238:uRN "lower" vN:=.mk
noncomputable def uN239:uRN "s" qg:=.mk
noncomputable def uN240:uRN "reversed" Js:=.mk
noncomputable def uN241:uRN "fast" aJ:=.mk
noncomputable def uN242:uRN "target" Cu:=.mk
noncomputable def uNN{x:Str}:uRN x x:=.mk
abbrev uRP(x:List Stmt)(y:List uFn):Type:=uRr x y
noncomputable def uP0:uRP [] []:=.mk
noncomputable def uP1{s y l m}:uRF s y→uRP l m→uRP (s::l) (y::m):=λ_ _=>.mk
inductive uSi:List uFn→Type|mk(y:List uFn):uSi y
noncomputable def uOu{y:List uFn}(_:uSi y):List uFn:=y
abbrev uGo(x:List Stmt)(y:List uFn):=uRP x y→uSi y
def uSt(k:Nat):Stmt:=pN.main.body.getD k (.Pass ⟨0,0,0,0⟩)
def uBo(s:Stmt):List Stmt:=match s with|.ClassDef _ _ _ b _ _ _ _ _ _ _=>b|_=>[]
def uCt(j k:Nat):Stmt:=(uBo (uSt j)).getD k (.Pass ⟨0,0,0,0⟩)
noncomputable def uAll:List uFn:=uOu ((by intro _;apply uSi.mk:uGo [uSt 1,uSt 4,uCt 6 1,uCt 6 2,uCt 6 3,uCt 6 4,uCt 6 5,uCt 6 6,uCt 6 7,uSt 59,uCt 61 0,uCt 61 1,uCt 61 2,uCt 61 3,uCt 61 4,uCt 61 5,uCt 61 6,uCt 61 7,uCt 61 8,uCt 61 9,uCt 61 10,uCt 61 11,uSt 62,uSt 63,uSt 65,uSt 66,uSt 67,uSt 68,uSt 69,uSt 70,uSt 71,uSt 72] _) (by
 repeat' first|with_reducible apply uP0|with_reducible apply uP1
 all_goals try apply uR59
 with_reducible repeat' first|apply uR0|apply uR1|apply uR2|apply uR3|apply uR4|apply uR5|apply uR6|apply uR7|apply uR8|apply uR9|apply uR10|apply uR11|apply uR12|apply uR13|apply uR14|apply uR15|apply uR16|apply uR17|apply uR18|apply uR19|apply uR20|apply uR21|apply uR22|apply uR23|apply uR24|apply uR25|apply uR26|apply uR27|apply uR28|apply uR29|apply uR30|apply uR31|apply uR32|apply uR33|apply uR34|apply uR35|apply uR36|apply uR37|apply uR38|apply uR39|apply uR40|apply uR41|apply uR42|apply uR43|apply uR44|apply uR45|apply uR46|apply uR47|apply uR48|apply uR49|apply uR50|apply uR51|apply uR52|apply uR53|apply uR54|apply uR55|apply uR56|apply uR57|apply uR58|apply uR59|exact uN0|exact uN1|exact uN2|exact uN3|exact uN4|exact uN5|exact uN6|exact uN7|exact uN8|exact uN9|exact uN10|exact uN11|exact uN12|exact uN13|exact uN14|exact uN15|exact uN16|exact uN17|exact uN18|exact uN19|exact uN20|exact uN21|exact uN22|exact uN23|exact uN24|exact uN25|exact uN26|exact uN27|exact uN28|exact uN29|exact uN30|exact uN31|exact uN32|exact uN33|exact uN34|exact uN35|exact uN36|exact uN37|exact uN38|exact uN39|exact uN40|exact uN41|exact uN42|exact uN43|exact uN44|exact uN45|exact uN46|exact uN47|exact uN48|exact uN49|exact uN50|exact uN51|exact uN52|exact uN53|exact uN54|exact uN55|exact uN56|exact uN57|exact uN58|exact uN59|exact uN60|exact uN61|exact uN62|exact uN63|exact uN64|exact uN65|exact uN66|exact uN67|exact uN68|exact uN69|exact uN70|exact uN71|exact uN72|exact uN73|exact uN74|exact uN75|exact uN76|exact uN77|exact uN78|exact uN79|exact uN80|exact uN81|exact uN82|exact uN83|exact uN84|exact uN85|exact uN86|exact uN87|exact uN88|exact uN89|exact uN90|exact uN91|exact uN92|exact uN93|exact uN94|exact uN95|exact uN96|exact uN97|exact uN98|exact uN99|exact uN100|exact uN101|exact uN102|exact uN103|exact uN104|exact uN105|exact uN106|exact uN107|exact uN108|exact uN109|exact uN110|exact uN111|exact uN112|exact uN113|exact uN114|exact uN115|exact uN116|exact uN117|exact uN118|exact uN119|exact uN120|exact uN121|exact uN122|exact uN123|exact uN124|exact uN125|exact uN126|exact uN127|exact uN128|exact uN129|exact uN130|exact uN131|exact uN132|exact uN133|exact uN134|exact uN135|exact uN136|exact uN137|exact uN138|exact uN139|exact uN140|exact uN141|exact uN142|exact uN143|exact uN144|exact uN145|exact uN146|exact uN147|exact uN148|exact uN149|exact uN150|exact uN151|exact uN152|exact uN153|exact uN154|exact uN155|exact uN156|exact uN157|exact uN158|exact uN159|exact uN160|exact uN161|exact uN162|exact uN163|exact uN164|exact uN165|exact uN166|exact uN167|exact uN168|exact uN169|exact uN170|exact uN171|exact uN172|exact uN173|exact uN174|exact uN175|exact uN176|exact uN177|exact uN178|exact uN179|exact uN180|exact uN181|exact uN182|exact uN183|exact uN184|exact uN185|exact uN186|exact uN187|exact uN188|exact uN189|exact uN190|exact uN191|exact uN192|exact uN193|exact uN194|exact uN195|exact uN196|exact uN197|exact uN198|exact uN199|exact uN200|exact uN201|exact uN202|exact uN203|exact uN204|exact uN205|exact uN206|exact uN207|exact uN208|exact uN209|exact uN210|exact uN211|exact uN212|exact uN213|exact uN214|exact uN215|exact uN216|exact uN217|exact uN218|exact uN219|exact uN220|exact uN221|exact uN222|exact uN223|exact uN224|exact uN225|exact uN226|exact uN227|exact uN228|exact uN229|exact uN230|exact uN231|exact uN232|exact uN233|exact uN234|exact uN235|exact uN236|exact uN237|exact uN238|exact uN239|exact uN240|exact uN241|exact uN242|exact uNN))
def uFk(k:Nat):uFn:=uAll.getD k ⟨⟨[],[],none,[],[],none,[]⟩,.nil,⟨.function,[],false,false,[]⟩⟩
def ar0:Arguments:=(uFk 0).a
def bd0:Mine.S:=(uFk 0).b
def sc0:Scope:=(uFk 0).c
def ar1:Arguments:=(uFk 1).a
def bd1:Mine.S:=(uFk 1).b
def sc1:Scope:=(uFk 1).c
def ar2:Arguments:=(uFk 2).a
def bd2:Mine.S:=(uFk 2).b
def sc2:Scope:=(uFk 2).c
def ar3:Arguments:=(uFk 3).a
def bd3:Mine.S:=(uFk 3).b
def sc3:Scope:=(uFk 3).c
def ar4:Arguments:=(uFk 4).a
def bd4:Mine.S:=(uFk 4).b
def sc4:Scope:=(uFk 4).c
def ar5:Arguments:=(uFk 5).a
def bd5:Mine.S:=(uFk 5).b
def sc5:Scope:=(uFk 5).c
def ar6:Arguments:=(uFk 6).a
def bd6:Mine.S:=(uFk 6).b
def ar7:Arguments:=(uFk 7).a
def bd7:Mine.S:=(uFk 7).b
def sc6:Scope:=(uFk 7).c
def ar8:Arguments:=(uFk 8).a
def bd8:Mine.S:=(uFk 8).b
def ar9:Arguments:=(uFk 9).a
def bd9:Mine.S:=(uFk 9).b
def sc7:Scope:=(uFk 9).c
def KC:Arguments:=(uFk 10).a
def BQ:Mine.S:=(uFk 10).b
def sc8:Scope:=(uFk 10).c
def KD:Arguments:=(uFk 11).a
def Jz:Mine.S:=(uFk 11).b
def sc9:Scope:=(uFk 11).c
def KE:Arguments:=(uFk 12).a
def JA:Mine.S:=(uFk 12).b
def KG:Scope:=(uFk 12).c
def KH:Arguments:=(uFk 13).a
def BR:Mine.S:=(uFk 13).b
def KI:Scope:=(uFk 13).c
def KJ:Arguments:=(uFk 14).a
def BS:Mine.S:=(uFk 14).b
def KK:Scope:=(uFk 14).c
def KL:Arguments:=(uFk 15).a
def BU:Mine.S:=(uFk 15).b
def KM:Scope:=(uFk 15).c
def KO:Arguments:=(uFk 16).a
def JB:Mine.S:=(uFk 16).b
def KP:Scope:=(uFk 16).c
def KQ:Arguments:=(uFk 17).a
def BV:Mine.S:=(uFk 17).b
def KR:Scope:=(uFk 17).c
def KS:Arguments:=(uFk 18).a
def BW:Mine.S:=(uFk 18).b
def KT:Scope:=(uFk 18).c
def KU:Arguments:=(uFk 19).a
def BX:Mine.S:=(uFk 19).b
def KV:Scope:=(uFk 19).c
def KW:Arguments:=(uFk 20).a
def JC:Mine.S:=(uFk 20).b
def KX:Scope:=(uFk 20).c
def KY:Arguments:=(uFk 21).a
def JD:Mine.S:=(uFk 21).b
def KZ:Scope:=(uFk 21).c
def K2:Arguments:=(uFk 22).a
def BY:Mine.S:=(uFk 22).b
def w8:Scope:=(uFk 22).c
def K4:Arguments:=(uFk 23).a
def JE:Mine.S:=(uFk 23).b
def K6:Arguments:=(uFk 24).a
def BZ:Mine.S:=(uFk 24).b
def K7:Scope:=(uFk 24).c
def K9:Arguments:=(uFk 25).a
def B2:Mine.S:=(uFk 25).b
def La:Scope:=(uFk 25).c
def Lc:Arguments:=(uFk 26).a
def B3:Mine.S:=(uFk 26).b
def Ld:Scope:=(uFk 26).c
def Lf:Arguments:=(uFk 27).a
def B4:Mine.S:=(uFk 27).b
def Lh:Scope:=(uFk 27).c
def Lj:Arguments:=(uFk 28).a
def B5:Mine.S:=(uFk 28).b
def Lk:Scope:=(uFk 28).c
def Lm:Arguments:=(uFk 29).a
def B6:Mine.S:=(uFk 29).b
def Ln:Scope:=(uFk 29).c
def Lq:Arguments:=(uFk 30).a
def B7:Mine.S:=(uFk 30).b
def Lr:Scope:=(uFk 30).c
def Lu:Arguments:=(uFk 31).a
def dF:Mine.S:=(uFk 31).b
def Lv:Scope:=(uFk 31).c
def On:Nm:=[(t4,(.lv 0)),(t0,(.lv 1)),(t1,(.lv 2)),(t3,(.lv 3)),(t2,(.gv (.prim 2))),(t6,(.gv (.top 39))),(t8,(.gv (.prim 3)))]
def JF:FD:=⟨46,[t4],1,[],bd1,On,4,0,false,45⟩
def Oo:Nm:=[(t11,(.lv 0)),(t13,(.lv 1)),(t14,(.lv 2)),(t15,(.lv 3)),(t17,(.lv 4)),(t18,(.lv 5)),(t19,(.lv 6)),(t20,(.lv 7)),(t21,(.lv 8)),(t16,(.gv (.top 108))),(t22,(.gv (.prim 0))),(t24,(.gv (.prim 6)))]
def B8:FD:=⟨63,[t11,t13],2,[],bd2,Oo,9,0,false,62⟩
def Op:Nm:=[(t11,(.lv 0)),(t17,(.lv 1)),(t26,(.lv 2)),(t27,(.gv (.prim 5))),(t22,(.gv (.prim 0)))]
def JG:FD:=⟨70,[t11],1,[],bd3,Op,3,0,false,69⟩
def Oq:Nm:=[(t11,(.lv 0)),(t29,(.lv 1)),(t17,(.lv 2)),(t26,(.lv 3)),(t28,(.lv 4)),(t1,(.lv 5)),(t2,(.gv (.prim 2))),(t22,(.gv (.prim 0)))]
def JH:FD:=⟨77,[t11,t29],2,[],bd4,Oq,6,0,false,76⟩
def Os:Nm:=[(t11,(.lv 0)),(t31,(.lv 1)),(t19,(.lv 2)),(t33,(.lv 3)),(t27,(.gv (.prim 5))),(t2,(.gv (.prim 2)))]
def B9:FD:=⟨98,[t11,t31],2,[],bd7,Os,4,0,false,97⟩
def JI:Nm:=[(t11,(.lv 0)),(t43,(.lv 1)),(t46,(.lv 2)),(t48,(.lv 3)),(t55,(.lv 4)),(t56,(.lv 5)),(t58,(.lv 6)),(t50,(.lv 7)),(t53,(.lv 8)),(t51,(.gv (.prim 8))),(t65,(.gv (.prim 7))),(t66,(.gv (.top 121)))]
def yz:FD:=⟨144,[t11,t43,t46,t48,t55,t56,t58,t50,t53],2,[(t46,(.bool false)),(t48,(.bool false)),(t55,(.bool false)),(t56,.none),(t58,.none),(t50,.none),(t53,.none)],BQ,JI,9,0,false,143⟩
def JJ:Nm:=[(t11,(.lv 0)),(t92,(.lv 1)),(t82,(.lv 2)),(t91,(.lv 3)),(t95,(.lv 4)),(t96,(.lv 5)),(t77,(.lv 6)),(t51,(.gv (.prim 8))),(t22,(.gv (.prim 0)))]
def yA:FD:=⟨167,[t11,t92,t82],3,[(t82,.none)],BR,JJ,7,0,false,166⟩
def JK:Nm:=[(t11,(.lv 0)),(t99,(.lv 1))]
def yB:FD:=⟨174,[t11,t99],2,[],BS,JK,2,0,false,173⟩
def JL:Nm:=[(t11,(.lv 0)),(vg,(.lv 1)),(t99,(.lv 2)),(Ga,(.lv 3)),(sA,(.lv 4)),(vj,(.gv (.top 129))),(vm,(.gv (.top 238)))]
def yC:FD:=⟨183,[t11,vg],2,[(vg,(.top 175))],BU,JL,5,0,false,182⟩
def JM:Nm:=[(t11,(.lv 0)),(t91,(.lv 1)),(sB,(.lv 2)),(vo,(.lv 3))]
def yD:FD:=⟨197,[t11,t91,sB],3,[],BV,JM,4,0,false,196⟩
def JN:Nm:=[(t11,(.cv 0)),(t91,(.lv 0)),(sB,(.lv 1)),(vo,(.lv 2)),(sA,(.lv 3)),(Aj,(.lv 4)),(Gd,(.lv 5)),(Ge,(.lv 6)),(Gf,(.lv 7)),(t92,(.lv 8)),(Gi,(.lv 9)),(Gj,(.lv 10)),(Gk,(.lv 11)),(Gm,(.cv 1)),(Gp,(.lv 12)),(t82,(.lv 13)),(Gq,(.lv 14)),(Gr,(.lv 15)),(Gs,(.lv 16)),(t43,(.lv 17)),(vj,(.gv (.top 129))),(Ak,(.gv (.prim 1))),(vm,(.gv (.top 238)))]
def yE:FD:=⟨203,[t11,t91,sB,vo,sA],5,[(sA,.none)],BW,JN,18,2,false,202⟩
def JO:Nm:=[(t11,(.lv 0)),(t91,(.lv 1)),(t22,(.gv (.prim 0)))]
def yF:FD:=⟨210,[t11,t91],2,[],BX,JO,2,0,false,209⟩
def JP:Nm:=[(t37,(.lv 0)),(Aq,(.gv (.top 128)))]
def yG:FD:=⟨238,[t37],1,[],BY,JP,1,0,false,237⟩
def JQ:Nm:=[(m0,(.lv 0)),(pU,(.lv 1)),(GF,(.lv 2)),(GS,(.lv 3)),(sH,(.lv 4)),(t2,(.gv (.prim 2)))]
def yH:FD:=⟨252,[m0,pU],2,[],BZ,JQ,5,0,false,251⟩
def JR:Nm:=[(m0,(.lv 0)),(AB,(.lv 1)),(sH,(.lv 2)),(AC,(.lv 3)),(GT,(.lv 4)),(GU,(.lv 5)),(vz,(.lv 6)),(t2,(.gv (.prim 2)))]
def sY:FD:=⟨259,[m0],1,[],B2,JR,7,0,false,258⟩
def JS:Nm:=[(sJ,(.lv 0)),(GV,(.lv 1)),(GW,(.lv 2)),(sH,(.lv 3)),(GX,(.lv 4)),(GY,(.lv 5)),(t2,(.gv (.prim 2))),(AD,(.gv (.top 227)))]
def sZ:FD:=⟨266,[sJ],1,[],B3,JS,6,0,false,265⟩
def JT:Nm:=[(vD,(.lv 0)),(sJ,(.lv 1)),(vA,(.lv 2)),(vz,(.lv 3)),(G3,(.lv 4)),(G4,(.lv 5)),(AC,(.lv 6)),(t22,(.gv (.prim 0))),(AE,(.gv (.top 113)))]
def ta:FD:=⟨273,[vD],1,[],B4,JT,7,0,false,272⟩
def JU:Nm:=[(m0,(.lv 0)),(pU,(.lv 1)),(vG,(.lv 2)),(AB,(.cv 0)),(sJ,(.lv 3)),(vD,(.lv 4)),(G6,(.lv 5)),(vA,(.lv 6)),(vE,(.gv (.top 46))),(AH,(.gv (.top 266))),(AI,(.gv (.top 273))),(vJ,(.gv (.top 252))),(AJ,(.gv (.top 259)))]
def tb:FD:=⟨278,[m0,pU,vG],3,[],B5,JU,7,1,false,277⟩
def JV:Nm:=[(AK,(.lv 0)),(G7,(.lv 1)),(G8,(.lv 2)),(vz,(.lv 3)),(G9,(.lv 4))]
def tc:FD:=⟨285,[AK],1,[],B6,JV,5,0,false,284⟩
def JW:Nm:=[(AL,(.lv 0)),(sH,(.cv 0)),(Ha,(.lv 1)),(AM,(.lv 2)),(t2,(.gv (.prim 2))),(t22,(.gv (.prim 0)))]
def td:FD:=⟨290,[],0,[],B7,JW,3,1,false,289⟩
def oa:Nm:=[(AN,(.lv 0)),(Hc,(.lv 1)),(pU,(.lv 2)),(vG,(.lv 3)),(AL,(.lv 4)),(Hd,(.lv 5)),(He,(.lv 6)),(Hf,(.cv 0)),(vA,(.cv 1)),(Hg,(.cv 2)),(Hh,(.cv 3)),(AM,(.lv 7)),(Hi,(.lv 8)),(Hk,(.lv 9)),(Hl,(.lv 10)),(t1,(.lv 11)),(Hm,(.lv 12)),(Ho,(.lv 13)),(Aj,(.lv 14)),(Hp,(.cv 4)),(Hq,(.cv 5)),(Hr,(.lv 15)),(t22,(.gv (.prim 0))),(vE,(.gv (.top 46))),(vJ,(.gv (.top 252))),(AO,(.gv (.top 290))),(AP,(.gv (.top 278))),(t2,(.gv (.prim 2))),(AQ,(.gv (.prim 4))),(AR,(.gv (.top 285))),(t16,(.gv (.top 108)))]
def te:FD:=⟨295,[AN],1,[],dF,oa,16,6,false,294⟩
def glD:List (T×V):=[(t40,(.str Hs)),(Ht,.none),(Hu,.none),(Hv,.none),(Hw,(.top 6)),(Hx,(.top 4)),(Hy,(.str Hz)),(HD,.none),(HE,(.top 12)),(t30,(.top 38)),(t6,(.top 39)),(vE,(.top 46)),(t16,(.top 108)),(HF,(.int (i 7))),(HH,(.int (i 8))),(HJ,(.int (i 9))),(HL,(.int (i 10))),(HN,(.int (i 11))),(HP,(.int (i 12))),(HR,(.int (i 13))),(HT,(.int (i 14))),(HV,(.int (i 15))),(HX,(.int (i 16))),(HZ,(.int (i 17))),(H4,(.int (i 18))),(H6,(.int (i 19))),(H8,(.int (i 20))),(Ia,(.int (i 21))),(Ic,(.int (i 22))),(Ie,(.int (i 23))),(Ii,(.int (i 24))),(Ik,(.int (i 25))),(Im,(.int (i 26))),(Ip,(.int (i 27))),(Ir,(.int (i 28))),(Iu,(.int (i 29))),(Ix,(.int (i 30))),(Iz,(.int (i 31))),(IB,(.int (i 32))),(ID,(.int (i 33))),(IF,(.int (i 34))),(II,(.int (i 35))),(IK,(.int (i 36))),(IM,(.int (i 37))),(IO,(.int (i 38))),(IQ,(.int (i 39))),(IS,(.int (i 40))),(IU,(.int (i 41))),(IW,(.int (i 42))),(IY,(.int (i 43))),(I0,(.int (i 44))),(I4,(.int (i 45))),(I6,(.int (i 46))),(I8,(.int (i 47))),(Ja,(.int (i 48))),(Jc,(.int (i 49))),(Je,(.int (i 50))),(Jg,(.int (i 51))),(Ji,(.int (i 52))),(Jk,(.int (i 53))),(Jm,(.int (i 54))),(AE,(.top 113)),(Jo,(.top 120)),(t66,(.top 121)),(Aq,(.top 128)),(vj,(.top 129)),(AD,(.top 227)),(vm,(.top 238)),(Gv,(.top 245)),(vJ,(.top 252)),(AJ,(.top 259)),(AH,(.top 266)),(AI,(.top 273)),(AP,(.top 278)),(AR,(.top 285)),(AO,(.top 290)),(Jq,(.top 295)),(t22,(.prim 0)),(Ak,(.prim 1)),(t2,(.prim 2)),(t8,(.prim 3)),(AQ,(.prim 4)),(t27,(.prim 5)),(t24,(.prim 6)),(t65,(.prim 7)),(t51,(.prim 8)),(Jr,(.prim 9))]
def JX:List (Nat×List (T×V)):=[(108,[(t14,(.str Gu)),(t15,(.str GC)),(AU,(.top 63)),(t32,(.top 70)),(t34,(.top 77)),(Jt,(.top 84)),(Ju,(.top 91)),(Hn,(.top 98)),(Jv,(.top 105))]),(227,[(AU,(.top 144)),(t84,(.top 152)),(Gh,(.top 159)),(Gn,(.top 167)),(t99,(.top 174)),(Gc,(.top 183)),(Jw,(.top 190)),(GZ,(.top 197)),(Gb,(.top 203)),(G2,(.top 210)),(Jx,(.top 217)),(Jy,(.top 224))])]
def tf:List (Nat×List (V×V)):=[(39,[((.int (i 1)),(.str Ar)),((.int (i 2)),(.str As)),((.int (i 4)),(.str At)),((.int (i 8)),(.str Au)),((.int (i 16)),(.str Av)),((.int (i 32)),(.str Aw)),((.int (i 64)),(.str Ax)),((.int (i 128)),(.str Ay)),((.int (i 256)),(.str Az)),((.int (i 512)),(.str AA))]),(113,[((.str AV),(.int (i 54))),((.str AW),(.int (i 28))),((.str AX),(.int (i 24))),((.str AY),(.int (i 40))),((.str An),(.int (i 19))),((.str AZ),(.int (i 41))),((.str A5),(.int (i 7))),((.str t41),(.int (i 8))),((.str A6),(.int (i 16))),((.str A7),(.int (i 35))),((.str A8),(.int (i 46))),((.str A9),(.int (i 38))),((.str Ba),(.int (i 14))),((.str Bb),(.int (i 36))),((.str Bc),(.int (i 12))),((.str Bd),(.int (i 15))),((.str Be),(.int (i 37))),((.str Bf),(.int (i 51))),((.str AF),(.int (i 23))),((.str Bg),(.int (i 52))),((.str Bh),(.int (i 17))),((.str Bi),(.int (i 47))),((.str Bj),(.int (i 48))),((.str Bk),(.int (i 39))),((.str t81),(.int (i 11))),((.str Bl),(.int (i 53))),((.str Bm),(.int (i 13))),((.str Al),(.int (i 20))),((.str Bn),(.int (i 33))),((.str Bo),(.int (i 44))),((.str Bp),(.int (i 29))),((.str Bq),(.int (i 22))),((.str Br),(.int (i 27))),((.str Am),(.int (i 21))),((.str Bs),(.int (i 30))),((.str Bt),(.int (i 34))),((.str Bu),(.int (i 45))),((.str Bv),(.int (i 49))),((.str Bw),(.int (i 50))),((.str Bx),(.int (i 9))),((.str By),(.int (i 10))),((.str Bz),(.int (i 32))),((.str BA),(.int (i 43))),((.str t85),(.int (i 25))),((.str BB),(.int (i 18))),((.str BC),(.int (i 42))),((.str t86),(.int (i 26))),((.str BD),(.int (i 31)))]),(121,[((.str t62),(.str t63)),((.str BE),(.str BF)),((.str BG),(.str BH)),((.str BI),(.str BJ)),((.str BK),(.str BL)),((.str BM),(.str BN)),((.str BO),(.str BP))])]
def iaD:List (Nat×List T):=[(108,[t12,t19,t20,t23,t25]),(227,[t42,t44,t45,t47,t49,t52,t54,t57,t59,t61,t64,t68,t69,t70,t71,t72,t73])]
def yI:List (Nat×FD):=[(46,JF),(63,B8),(70,JG),(77,JH),(98,B9),(144,yz),(167,yA),(174,yB),(183,yC),(197,yD),(203,yE),(210,yF),(238,yG),(252,yH),(259,sY),(266,sZ),(273,ta),(278,tb),(285,tc),(290,td),(295,te)]
def gD:G:=⟨202,121,152,yI,tf,JX,iaD,175,glD,Om,255,71⟩
end
section
open PySem.W.Fast renaming tw15667345088766844465→zw0,tw14364793385576792824→zw1,tw11892475500146522536→zw2,te15667345088766844465→ze3,te14364793385576792824→ze4,te11892475500146522536→ze5,tw14374325043358763698→zw6,te14374325043358763698→ze7,tw10110043849684766642→zw8,tw12563942051412417395→zw9,te10110043849684766642→ze10,te12563942051412417395→ze11,tw14082659384304107361→zw12,te14082659384304107361→ze13
open PySem.Value renaming str→vS,ref→vR,int→vI,bool→vB,builtin→vC,type→vT
open PySem.W.BT renaming node→bN,nil→bZ
open PySem.Pos renaming mk→p
open Int renaming ofNat→i
noncomputable def dk(P:Params)(s:Str)(t:Tok)(v:Value):Vk:=⟨@PySem.PyData.keyHash P s,vS s t,v⟩
noncomputable def J(k:Nat):Value:=vI (i k) 0
noncomputable def co(l:List Value):Obj:=⟨.type "code",none,.fields ⟨l⟩,⟨[]⟩⟩
noncomputable def tu(l:List Value):Obj:=⟨.type "tuple",none,.seq ⟨l⟩ 0,⟨[]⟩⟩
def fa(n q:Str)(a:Vj)(b:S)(c:Scope):Obj:=⟨.none,none,.func ⟨n,q,a,.stmts (dB b),c,0,[],.none,.none,.none,.none,none,.none,.none,0⟩,⟨[]⟩⟩
def fb(n q:Str)(a:Vj)(b:S)(c:Scope)(d k m r:Value):Obj:=⟨.type "function",none,.func ⟨n,q,a,.stmts (dB b),c,3,[],d,k,.none,m,none,r,.none,0⟩,⟨[]⟩⟩
def JY:=zs [98,117,105,108,116,105,110,115]
def Ca:=zs [95,95,108,111,97,100,101,114,95,95]
def Ot:=zs [95,95,98,117,105,108,100,95,99,108,97,115,115,95,95]
def Ou:=zs [95,95,105,109,112,111,114,116,95,95]
def Ov:=zs [97,98,115]
def Ow:=zs [97,108,108]
def Ox:=zs [97,110,121]
def Oy:=zs [97,115,99,105,105]
def Oz:=zs [98,105,110]
def OA:=zs [98,114,101,97,107,112,111,105,110,116]
def OB:=zs [99,97,108,108,97,98,108,101]
def OC:=zs [99,104,114]
def JZ:=zs [99,111,109,112,105,108,101]
def OD:=zs [100,101,108,97,116,116,114]
def OE:=zs [100,105,114]
def OH:=zs [100,105,118,109,111,100]
def OI:=zs [101,118,97,108]
def OJ:=zs [101,120,101,99]
def OK:=zs [102,111,114,109,97,116]
def OM:=zs [103,101,116,97,116,116,114]
def ON:=zs [103,108,111,98,97,108,115]
def OO:=zs [104,97,115,97,116,116,114]
def OP:=zs [104,97,115,104]
def OQ:=zs [105,100]
def OS:=zs [105,110,112,117,116]
def OT:=zs [105,115,105,110,115,116,97,110,99,101]
def OU:=zs [105,115,115,117,98,99,108,97,115,115]
def OV:=zs [105,116,101,114]
def OW:=zs [97,105,116,101,114]
def OX:=zs [108,111,99,97,108,115]
def OY:=zs [109,105,110]
def OZ:=zs [110,101,120,116]
def O0:=zs [97,110,101,120,116]
def O3:=zs [111,99,116]
def O4:=zs [111,114,100]
def O8:=zs [112,111,119]
def O9:=zs [112,114,105,110,116]
def Pa:=zs [114,101,112,114]
def Pb:=zs [114,111,117,110,100]
def Pc:=zs [115,101,116,97,116,116,114]
def Pd:=zs [118,97,114,115]
def Pe:=zs [78,111,110,101]
def Pf:=zs [69,108,108,105,112,115,105,115]
def Pg:=zs [78,111,116,73,109,112,108,101,109,101,110,116,101,100]
def Ph:=zs [70,97,108,115,101]
def Pi:=zs [84,114,117,101]
def Pj:=zs [98,111,111,108]
def Pk:=zs [109,101,109,111,114,121,118,105,101,119]
def Pl:=zs [98,121,116,101,97,114,114,97,121]
def Pm:=zs [98,121,116,101,115]
def Pn:=zs [99,108,97,115,115,109,101,116,104,111,100]
def Po:=zs [99,111,109,112,108,101,120]
def Pp:=zs [100,105,99,116]
def Pq:=zs [101,110,117,109,101,114,97,116,101]
def Pr:=zs [102,105,108,116,101,114]
def Ps:=zs [102,108,111,97,116]
def Pt:=zs [102,114,111,122,101,110,115,101,116]
def Pu:=zs [112,114,111,112,101,114,116,121]
def Pv:=zs [105,110,116]
def Pw:=zs [109,97,112]
def Px:=zs [111,98,106,101,99,116]
def Py:=zs [115,108,105,99,101]
def Pz:=zs [115,116,97,116,105,99,109,101,116,104,111,100]
def PA:=zs [115,116,114]
def PB:=zs [115,117,112,101,114]
def PC:=zs [122,105,112]
def PD:=zs [95,95,100,101,98,117,103,95,95]
def PE:=zs [66,97,115,101,69,120,99,101,112,116,105,111,110]
def PF:=zs [66,97,115,101,69,120,99,101,112,116,105,111,110,71,114,111,117,112]
def PH:=zs [69,120,99,101,112,116,105,111,110]
def PI:=zs [71,101,110,101,114,97,116,111,114,69,120,105,116]
def PJ:=zs [75,101,121,98,111,97,114,100,73,110,116,101,114,114,117,112,116]
def PK:=zs [83,121,115,116,101,109,69,120,105,116]
def PL:=zs [65,114,105,116,104,109,101,116,105,99,69,114,114,111,114]
def PM:=zs [65,115,115,101,114,116,105,111,110,69,114,114,111,114]
def PN:=zs [66,117,102,102,101,114,69,114,114,111,114]
def PO:=zs [69,79,70,69,114,114,111,114]
def PP:=zs [73,109,112,111,114,116,69,114,114,111,114]
def PQ:=zs [76,111,111,107,117,112,69,114,114,111,114]
def PR:=zs [77,101,109,111,114,121,69,114,114,111,114]
def PS:=zs [78,97,109,101,69,114,114,111,114]
def PT:=zs [79,83,69,114,114,111,114]
def PU:=zs [82,101,102,101,114,101,110,99,101,69,114,114,111,114]
def PV:=zs [82,117,110,116,105,109,101,69,114,114,111,114]
def PW:=zs [83,116,111,112,65,115,121,110,99,73,116,101,114,97,116,105,111,110]
def PX:=zs [83,116,111,112,73,116,101,114,97,116,105,111,110]
def PY:=zs [83,121,110,116,97,120,69,114,114,111,114]
def PZ:=zs [83,121,115,116,101,109,69,114,114,111,114]
def P0:=zs [87,97,114,110,105,110,103]
def P1:=zs [70,108,111,97,116,105,110,103,80,111,105,110,116,69,114,114,111,114]
def P2:=zs [79,118,101,114,102,108,111,119,69,114,114,111,114]
def P3:=zs [90,101,114,111,68,105,118,105,115,105,111,110,69,114,114,111,114]
def P4:=zs [66,121,116,101,115,87,97,114,110,105,110,103]
def P5:=zs [68,101,112,114,101,99,97,116,105,111,110,87,97,114,110,105,110,103]
def P6:=zs [69,110,99,111,100,105,110,103,87,97,114,110,105,110,103]
def P7:=zs [70,117,116,117,114,101,87,97,114,110,105,110,103]
def P8:=zs [73,109,112,111,114,116,87,97,114,110,105,110,103]
def P9:=zs [80,101,110,100,105,110,103,68,101,112,114,101,99,97,116,105,111,110,87,97,114,110,105,110,103]
def Qa:=zs [82,101,115,111,117,114,99,101,87,97,114,110,105,110,103]
def Qb:=zs [82,117,110,116,105,109,101,87,97,114,110,105,110,103]
def Qc:=zs [83,121,110,116,97,120,87,97,114,110,105,110,103]
def Qd:=zs [85,110,105,99,111,100,101,87,97,114,110,105,110,103]
def Qe:=zs [85,115,101,114,87,97,114,110,105,110,103]
def Qf:=zs [66,108,111,99,107,105,110,103,73,79,69,114,114,111,114]
def Qg:=zs [67,104,105,108,100,80,114,111,99,101,115,115,69,114,114,111,114]
def Qh:=zs [67,111,110,110,101,99,116,105,111,110,69,114,114,111,114]
def Qi:=zs [70,105,108,101,69,120,105,115,116,115,69,114,114,111,114]
def Qj:=zs [70,105,108,101,78,111,116,70,111,117,110,100,69,114,114,111,114]
def Qk:=zs [73,110,116,101,114,114,117,112,116,101,100,69,114,114,111,114]
def Ql:=zs [73,115,65,68,105,114,101,99,116,111,114,121,69,114,114,111,114]
def Qm:=zs [78,111,116,65,68,105,114,101,99,116,111,114,121,69,114,114,111,114]
def Qn:=zs [80,101,114,109,105,115,115,105,111,110,69,114,114,111,114]
def Qo:=zs [80,114,111,99,101,115,115,76,111,111,107,117,112,69,114,114,111,114]
def Qp:=zs [84,105,109,101,111,117,116,69,114,114,111,114]
def Qq:=zs [73,110,100,101,110,116,97,116,105,111,110,69,114,114,111,114]
def Qr:=zs [95,73,110,99,111,109,112,108,101,116,101,73,110,112,117,116,69,114,114,111,114]
def Qs:=zs [73,110,100,101,120,69,114,114,111,114]
def Qt:=zs [75,101,121,69,114,114,111,114]
def Qu:=zs [77,111,100,117,108,101,78,111,116,70,111,117,110,100,69,114,114,111,114]
def Qv:=zs [78,111,116,73,109,112,108,101,109,101,110,116,101,100,69,114,114,111,114]
def Qw:=zs [80,121,116,104,111,110,70,105,110,97,108,105,122,97,116,105,111,110,69,114,114,111,114]
def Qx:=zs [82,101,99,117,114,115,105,111,110,69,114,114,111,114]
def Qy:=zs [85,110,98,111,117,110,100,76,111,99,97,108,69,114,114,111,114]
def Qz:=zs [85,110,105,99,111,100,101,69,114,114,111,114]
def QA:=zs [66,114,111,107,101,110,80,105,112,101,69,114,114,111,114]
def QB:=zs [67,111,110,110,101,99,116,105,111,110,65,98,111,114,116,101,100,69,114,114,111,114]
def QC:=zs [67,111,110,110,101,99,116,105,111,110,82,101,102,117,115,101,100,69,114,114,111,114]
def QD:=zs [67,111,110,110,101,99,116,105,111,110,82,101,115,101,116,69,114,114,111,114]
def QE:=zs [84,97,98,69,114,114,111,114]
def QF:=zs [85,110,105,99,111,100,101,68,101,99,111,100,101,69,114,114,111,114]
def QG:=zs [85,110,105,99,111,100,101,69,110,99,111,100,101,69,114,114,111,114]
def QH:=zs [85,110,105,99,111,100,101,84,114,97,110,115,108,97,116,101,69,114,114,111,114]
def QI:=zs [69,120,99,101,112,116,105,111,110,71,114,111,117,112]
def QJ:=zs [69,110,118,105,114,111,110,109,101,110,116,69,114,114,111,114]
def QK:=zs [73,79,69,114,114,111,114]
def QL:=zs [111,112,101,110]
def QM:=zs [113,117,105,116]
def QN:=zs [101,120,105,116]
def J0:=zs [99,111,112,121,114,105,103,104,116]
def QO:=zs [99,114,101,100,105,116,115]
def QP:=zs [108,105,99,101,110,115,101]
def QQ:=zs [104,101,108,112]
def tg:=zs [95,95,109,97,105,110,95,95]
def QR:=zs [105,109,112,111,114,116,46,108,111,97,100,101,100,46,95,115,114,101]
def QS:=zs [99,108,97,115,115,46,95,102,114,111,122,101,110,95,105,109,112,111,114,116,108,105,98,46,66,117,105,108,116,105,110,73,109,112,111,114,116,101,114]
def QT:=zs [119,97,116,99,104,101,100,46,105,109,112,111,114,116]
def QU:=zs [99,108,97,115,115,46,95,102,114,111,122,101,110,95,105,109,112,111,114,116,108,105,98,46,77,111,100,117,108,101,83,112,101,99]
def QV:=zs [115,121,115,46,109,111,100,117,108,101,115,46,98,111,111,107,101,100,45,101,112,111,99,104]
def QW:=zs [105,109,112,111,114,116,46,108,97,116,101,114,45,108,97,105,100,46,95,115,114,101]
def QX:=zs [119,97,116,99,104,101,100,46,108,105,98,114,97,114,121]
def QY:=zs [119,97,116,99,104,101,100,46,108,105,98,114,97,114,121,45,111,98,106,101,99,116,115]
def QZ:=zs [12]
def Q0:=zs [119,97,116,99,104,101,100,46,108,105,98,114,97,114,121,45,100,101,101,112,46,95,115,114,101]
def Q1:=zs [4,0,0,11,4,0,0,11,4,0,0,3,4,0,0,11,8,4,100,105,99,116,2]
def vX:=zs [60,109,111,100,117,108,101,62]
def Q2:=zs [116,101,109,112,108,97,116,101]
def Q3:=zs [103,101,116,99,111,100,101,115,105,122,101]
def Q4:=zs [97,115,99,105,105,95,105,115,99,97,115,101,100]
def Q5:=zs [117,110,105,99,111,100,101,95,105,115,99,97,115,101,100]
def Q6:=zs [97,115,99,105,105,95,116,111,108,111,119,101,114]
def Q7:=zs [117,110,105,99,111,100,101,95,116,111,108,111,119,101,114]
def Q8:=zs [77,65,71,73,67]
def Q9:=zs [67,79,68,69,83,73,90,69]
def Ra:=zs [77,65,88,82,69,80,69,65,84]
def Rb:=zs [77,65,88,71,82,79,85,80,83]
def Rc:=zs [32,83,82,69,32,50,46,50,46,50,32,67,111,112,121,114,105,103,104,116,32,40,99,41,32,49,57,57,55,45,50,48,48,50,32,98,121,32,83,101,99,114,101,116,32,76,97,98,115,32,65,66,32]
def vY:=zs [95,95,109,111,100,117,108,101,95,95]
def J1:=zs [95,102,114,111,122,101,110,95,105,109,112,111,114,116,108,105,98]
def vZ:=zs [95,95,102,105,114,115,116,108,105,110,101,110,111,95,95]
def Rd:=zs [95,79,82,73,71,73,78]
def J2:=zs [98,117,105,108,116,45,105,110]
def Re:=zs [102,105,110,100,95,115,112,101,99]
def Rf:=zs [99,114,101,97,116,101,95,109,111,100,117,108,101]
def Rg:=zs [101,120,101,99,95,109,111,100,117,108,101]
def Rh:=zs [103,101,116,95,99,111,100,101]
def Ri:=zs [103,101,116,95,115,111,117,114,99,101]
def Rj:=zs [105,115,95,112,97,99,107,97,103,101]
def Rl:=zs [108,111,97,100,95,109,111,100,117,108,101]
def v5:=zs [95,95,115,116,97,116,105,99,95,97,116,116,114,105,98,117,116,101,115,95,95]
def lT:=zs [95,95,100,105,99,116,95,95]
def lU:=zs [95,95,119,101,97,107,114,101,102,95,95]
def J3:=zs [66,117,105,108,116,105,110,73,109,112,111,114,116,101,114]
def Rm:=zs [6,189,10,95,95,109,111,100,117,108,101,95,95,6,186,17,95,102,114,111,122,101,110,95,105,109,112,111,114,116,108,105,98,6,190,15,95,95,102,105,114,115,116,108,105,110,101,110,111,95,95,4,187,0,971,6,191,7,95,95,100,111,99,95,95,9,52,95,102,114,111,122,101,110,95,105,109,112,111,114,116,108,105,98,46,66,117,105,108,116,105,110,73,109,112,111,114,116,101,114,46,95,95,100,111,99,95,95,58,115,116,114,35,111,112,97,113,117,101,6,192,7,95,79,82,73,71,73,78,6,188,8,98,117,105,108,116,45,105,110,6,193,9,102,105,110,100,95,115,112,101,99,9,50,95,102,114,111,122,101,110,95,105,109,112,111,114,116,108,105,98,46,66,117,105,108,116,105,110,73,109,112,111,114,116,101,114,46,102,105,110,100,95,115,112,101,99,35,111,112,97,113,117,101,6,194,13,99,114,101,97,116,101,95,109,111,100,117,108,101,9,54,95,102,114,111,122,101,110,95,105,109,112,111,114,116,108,105,98,46,66,117,105,108,116,105,110,73,109,112,111,114,116,101,114,46,99,114,101,97,116,101,95,109,111,100,117,108,101,35,111,112,97,113,117,101,6,195,11,101,120,101,99,95,109,111,100,117,108,101,9,52,95,102,114,111,122,101,110,95,105,109,112,111,114,116,108,105,98,46,66,117,105,108,116,105,110,73,109,112,111,114,116,101,114,46,101,120,101,99,95,109,111,100,117,108,101,35,111,112,97,113,117,101,6,196,8,103,101,116,95,99,111,100,101,9,49,95,102,114,111,122,101,110,95,105,109,112,111,114,116,108,105,98,46,66,117,105,108,116,105,110,73,109,112,111,114,116,101,114,46,103,101,116,95,99,111,100,101,35,111,112,97,113,117,101,6,197,10,103,101,116,95,115,111,117,114,99,101,9,51,95,102,114,111,122,101,110,95,105,109,112,111,114,116,108,105,98,46,66,117,105,108,116,105,110,73,109,112,111,114,116,101,114,46,103,101,116,95,115,111,117,114,99,101,35,111,112,97,113,117,101,6,198,10,105,115,95,112,97,99,107,97,103,101,9,51,95,102,114,111,122,101,110,95,105,109,112,111,114,116,108,105,98,46,66,117,105,108,116,105,110,73,109,112,111,114,116,101,114,46,105,115,95,112,97,99,107,97,103,101,35,111,112,97,113,117,101,6,199,11,108,111,97,100,95,109,111,100,117,108,101,9,52,95,102,114,111,122,101,110,95,105,109,112,111,114,116,108,105,98,46,66,117,105,108,116,105,110,73,109,112,111,114,116,101,114,46,108,111,97,100,95,109,111,100,117,108,101,35,111,112,97,113,117,101,6,200,21,95,95,115,116,97,116,105,99,95,97,116,116,114,105,98,117,116,101,115,95,95,4,0,0,15,6,202,8,95,95,100,105,99,116,95,95,4,0,0,16,6,204,11,95,95,119,101,97,107,114,101,102,95,95,4,0,0,17]
def Ro:=zs [6,227,10,95,95,109,111,100,117,108,101,95,95,6,217,17,95,102,114,111,122,101,110,95,105,109,112,111,114,116,108,105,98,6,228,15,95,95,102,105,114,115,116,108,105,110,101,110,111,95,95,4,218,0,562,6,229,7,95,95,100,111,99,95,95,9,47,95,102,114,111,122,101,110,95,105,109,112,111,114,116,108,105,98,46,77,111,100,117,108,101,83,112,101,99,46,95,95,100,111,99,95,95,58,115,116,114,35,111,112,97,113,117,101,6,230,8,95,95,105,110,105,116,95,95,9,44,95,102,114,111,122,101,110,95,105,109,112,111,114,116,108,105,98,46,77,111,100,117,108,101,83,112,101,99,46,95,95,105,110,105,116,95,95,35,111,112,97,113,117,101,6,231,8,95,95,114,101,112,114,95,95,9,44,95,102,114,111,122,101,110,95,105,109,112,111,114,116,108,105,98,46,77,111,100,117,108,101,83,112,101,99,46,95,95,114,101,112,114,95,95,35,111,112,97,113,117,101,6,232,6,95,95,101,113,95,95,9,42,95,102,114,111,122,101,110,95,105,109,112,111,114,116,108,105,98,46,77,111,100,117,108,101,83,112,101,99,46,95,95,101,113,95,95,35,111,112,97,113,117,101,6,233,6,99,97,99,104,101,100,9,42,95,102,114,111,122,101,110,95,105,109,112,111,114,116,108,105,98,46,77,111,100,117,108,101,83,112,101,99,46,99,97,99,104,101,100,35,111,112,97,113,117,101,6,234,6,112,97,114,101,110,116,9,42,95,102,114,111,122,101,110,95,105,109,112,111,114,116,108,105,98,46,77,111,100,117,108,101,83,112,101,99,46,112,97,114,101,110,116,35,111,112,97,113,117,101,6,235,12,104,97,115,95,108,111,99,97,116,105,111,110,9,48,95,102,114,111,122,101,110,95,105,109,112,111,114,116,108,105,98,46,77,111,100,117,108,101,83,112,101,99,46,104,97,115,95,108,111,99,97,116,105,111,110,35,111,112,97,113,117,101,6,236,21,95,95,115,116,97,116,105,99,95,97,116,116,114,105,98,117,116,101,115,95,95,4,0,0,23,6,238,8,95,95,100,105,99,116,95,95,4,0,0,24,6,240,11,95,95,119,101,97,107,114,101,102,95,95,4,0,0,25,6,241,8,95,95,104,97,115,104,95,95,0]
def J4:=zs [108,111,97,100,101,114]
def J5:=zs [111,114,105,103,105,110]
def J6:=zs [108,111,97,100,101,114,95,115,116,97,116,101]
def J7:=zs [115,117,98,109,111,100,117,108,101,95,115,101,97,114,99,104,95,108,111,99,97,116,105,111,110,115]
def J8:=zs [95,117,110,105,110,105,116,105,97,108,105,122,101,100,95,115,117,98,109,111,100,117,108,101,115]
def J9:=zs [95,115,101,116,95,102,105,108,101,97,116,116,114]
def Ka:=zs [95,99,97,99,104,101,100]
def Rp:=zs [95,105,110,105,116,105,97,108,105,122,105,110,103]
def Rq:=zs [95,95,114,101,112,114,95,95]
def Rr:=zs [95,95,101,113,95,95]
def Rs:=zs [99,97,99,104,101,100]
def Rt:=zs [112,97,114,101,110,116]
def Ru:=zs [104,97,115,95,108,111,99,97,116,105,111,110]
def Rv:=zs [95,95,104,97,115,104,95,95]
def Kb:=zs [77,111,100,117,108,101,83,112,101,99]
def iU:=zs [99,112,121,51,49,51,46,116,97,98,110,97,110,110,121]
def Rw:=zs [99,112,121,51,49,51,46,100,105,115]
def Kc:=zs [95,95,113,117,97,108,110,97,109,101,95,95]
def Cb:=zs [87,104,105,116,101,115,112,97,99,101,46,95,95,105,110,105,116,95,95]
def Cc:=zs [87,104,105,116,101,115,112,97,99,101,46,108,111,110,103,101,115,116,95,114,117,110,95,111,102,95,115,112,97,99,101,115]
def Cd:=zs [87,104,105,116,101,115,112,97,99,101,46,105,110,100,101,110,116,95,108,101,118,101,108]
def Ce:=zs [87,104,105,116,101,115,112,97,99,101,46,101,113,117,97,108]
def Cf:=zs [87,104,105,116,101,115,112,97,99,101,46,110,111,116,95,101,113,117,97,108,95,119,105,116,110,101,115,115]
def Cg:=zs [87,104,105,116,101,115,112,97,99,101,46,108,101,115,115]
def Ch:=zs [87,104,105,116,101,115,112,97,99,101,46,110,111,116,95,108,101,115,115,95,119,105,116,110,101,115,115]
def dP:=zs [99,112,121,51,49,51,46,120,109,108,46,101,116,114,101,101,46,69,108,101,109,101,110,116,84,114,101,101]
def Rx:=zs [94,92,119,43,58,92,119,43,36]
def Ci:=zs [67,49,52,78,87,114,105,116,101,114,84,97,114,103,101,116,46,95,95,105,110,105,116,95,95]
def Cj:=zs [67,49,52,78,87,114,105,116,101,114,84,97,114,103,101,116,46,95,105,116,101,114,95,110,97,109,101,115,112,97,99,101,115]
def Ck:=zs [67,49,52,78,87,114,105,116,101,114,84,97,114,103,101,116,46,95,114,101,115,111,108,118,101,95,112,114,101,102,105,120,95,110,97,109,101]
def Cm:=zs [67,49,52,78,87,114,105,116,101,114,84,97,114,103,101,116,46,95,113,110,97,109,101]
def Cn:=zs [67,49,52,78,87,114,105,116,101,114,84,97,114,103,101,116,46,100,97,116,97]
def Co:=zs [67,49,52,78,87,114,105,116,101,114,84,97,114,103,101,116,46,95,102,108,117,115,104]
def Cp:=zs [67,49,52,78,87,114,105,116,101,114,84,97,114,103,101,116,46,115,116,97,114,116,95,110,115]
def Cq:=zs [67,49,52,78,87,114,105,116,101,114,84,97,114,103,101,116,46,115,116,97,114,116]
def Cr:=zs [67,49,52,78,87,114,105,116,101,114,84,97,114,103,101,116,46,95,115,116,97,114,116]
def Cs:=zs [67,49,52,78,87,114,105,116,101,114,84,97,114,103,101,116,46,101,110,100]
def Ct:=zs [67,49,52,78,87,114,105,116,101,114,84,97,114,103,101,116,46,99,111,109,109,101,110,116]
def Cv:=zs [67,49,52,78,87,114,105,116,101,114,84,97,114,103,101,116,46,112,105]
noncomputable def lf:Life:=⟨[],[],[],0,[],[],false,⟨[]⟩,[],0,false,false,false,(i 0),[(i 2000),(i 10),(i 10)],false,0,true,[],[],0,false⟩
noncomputable def dw:Drawn:=⟨0,0,0,0⟩
def o0(P:Params):Obj:=⟨(vT "dict"),none,(.dict ⟨[(dk P s40 1 (vS JY 160)),(dk P ng 2 (vC "builtins.__doc__:str#opaque")),(dk P AS 3 (vC "builtins.__package__:str#opaque")),(dk P Ca 4 (vC "builtins.__loader__:shared#opaque")),(dk P AT 5 (vC "builtins.__spec__#opaque")),(dk P Ot 6 (vC "__build_class__")),(dk P Ou 7 (vC "__import__")),(dk P Ov 8 (vC "abs")),(dk P Ow 9 (vC "all")),(dk P Ox 10 (vC "any")),(dk P Oy 11 (vC "ascii")),(dk P Oz 12 (vC "bin")),(dk P OA 13 (vC "breakpoint")),(dk P OB 14 (vC "callable")),(dk P OC 15 (vC "chr")),(dk P JZ 16 (vC "compile")),(dk P OD 17 (vC "delattr")),(dk P OE 18 (vC "dir")),(dk P OH 19 (vC "divmod")),(dk P OI 20 (vC "eval")),(dk P OJ 21 (vC "exec")),(dk P OK 22 (vC "format")),(dk P OM 23 (vC "getattr")),(dk P ON 24 (vC "globals")),(dk P OO 25 (vC "hasattr")),(dk P OP 26 (vC "hash")),(dk P s8 27 (vC "hex")),(dk P OQ 28 (vC "id")),(dk P OS 29 (vC "input")),(dk P OT 30 (vC "isinstance")),(dk P OU 31 (vC "issubclass")),(dk P OV 32 (vC "iter")),(dk P OW 33 (vC "aiter")),(dk P s22 34 (vC "len")),(dk P OX 35 (vC "locals")),(dk P s27 36 (vC "max")),(dk P OY 37 (vC "min")),(dk P OZ 38 (vC "next")),(dk P O0 39 (vC "anext")),(dk P O3 40 (vC "oct")),(dk P O4 41 (vC "ord")),(dk P O8 42 (vC "pow")),(dk P O9 43 (vC "print")),(dk P Pa 44 (vC "repr")),(dk P Pb 45 (vC "round")),(dk P Pc 46 (vC "setattr")),(dk P vq 47 (vC "sorted")),(dk P sQ 48 (vC "sum")),(dk P Pd 49 (vC "vars")),(dk P Pe 50 .none),(dk P Pf 51 .ellipsis),(dk P Pg 52 .notImplemented),(dk P Ph 53 (vB false)),(dk P Pi 54 (vB true)),(dk P Pj 55 (vT "bool")),(dk P Pk 56 (vT "memoryview")),(dk P Pl 57 (vT "bytearray")),(dk P Pm 58 (vT "bytes")),(dk P Pn 59 (vT "classmethod")),(dk P Po 60 (vT "complex")),(dk P Pp 61 (vT "dict")),(dk P Pq 62 (vT "enumerate")),(dk P Pr 63 (vT "filter")),(dk P Ps 64 (vT "float")),(dk P Pt 65 (vT "frozenset")),(dk P Pu 66 (vT "property")),(dk P Pv 67 (vT "int")),(dk P s65 68 (vT "list")),(dk P Pw 69 (vT "map")),(dk P Px 70 (vT "object")),(dk P s2 71 (vT "range")),(dk P Js 72 (vT "reversed")),(dk P s51 73 (vT "set")),(dk P Py 74 (vT "slice")),(dk P Pz 75 (vT "staticmethod")),(dk P PA 76 (vT "str")),(dk P PB 77 (vT "super")),(dk P s24 78 (vT "tuple")),(dk P s39 79 (vT "type")),(dk P PC 80 (vT "zip")),(dk P PD 81 (vB true)),(dk P PE 82 (vT "BaseException")),(dk P PF 83 (vT "BaseExceptionGroup")),(dk P PH 84 (vT "Exception")),(dk P PI 85 (vT "GeneratorExit")),(dk P PJ 86 (vT "KeyboardInterrupt")),(dk P PK 87 (vT "SystemExit")),(dk P PL 88 (vT "ArithmeticError")),(dk P PM 89 (vT "AssertionError")),(dk P vw 90 (vT "AttributeError")),(dk P PN 91 (vT "BufferError")),(dk P PO 92 (vT "EOFError")),(dk P PP 93 (vT "ImportError")),(dk P PQ 94 (vT "LookupError")),(dk P PR 95 (vT "MemoryError")),(dk P PS 96 (vT "NameError")),(dk P PT 97 (vT "OSError")),(dk P PU 98 (vT "ReferenceError")),(dk P PV 99 (vT "RuntimeError")),(dk P PW 100 (vT "StopAsyncIteration")),(dk P PX 101 (vT "StopIteration")),(dk P PY 102 (vT "SyntaxError")),(dk P PZ 103 (vT "SystemError")),(dk P s35 104 (vT "TypeError")),(dk P s87 105 (vT "ValueError")),(dk P P0 106 (vT "Warning")),(dk P P1 107 (vT "FloatingPointError")),(dk P P2 108 (vT "OverflowError")),(dk P P3 109 (vT "ZeroDivisionError")),(dk P P4 110 (vT "BytesWarning")),(dk P P5 111 (vT "DeprecationWarning")),(dk P P6 112 (vT "EncodingWarning")),(dk P P7 113 (vT "FutureWarning")),(dk P P8 114 (vT "ImportWarning")),(dk P P9 115 (vT "PendingDeprecationWarning")),(dk P Qa 116 (vT "ResourceWarning")),(dk P Qb 117 (vT "RuntimeWarning")),(dk P Qc 118 (vT "SyntaxWarning")),(dk P Qd 119 (vT "UnicodeWarning")),(dk P Qe 120 (vT "UserWarning")),(dk P Qf 121 (vT "BlockingIOError")),(dk P Qg 122 (vT "ChildProcessError")),(dk P Qh 123 (vT "ConnectionError")),(dk P Qi 124 (vT "FileExistsError")),(dk P Qj 125 (vT "FileNotFoundError")),(dk P Qk 126 (vT "InterruptedError")),(dk P Ql 127 (vT "IsADirectoryError")),(dk P Qm 128 (vT "NotADirectoryError")),(dk P Qn 129 (vT "PermissionError")),(dk P Qo 130 (vT "ProcessLookupError")),(dk P Qp 131 (vT "TimeoutError")),(dk P Qq 132 (vT "IndentationError")),(dk P Qr 133 (vT "_IncompleteInputError")),(dk P Qs 134 (vT "IndexError")),(dk P Qt 135 (vT "KeyError")),(dk P Qu 136 (vT "ModuleNotFoundError")),(dk P Qv 137 (vT "NotImplementedError")),(dk P Qw 138 (vT "PythonFinalizationError")),(dk P Qx 139 (vT "RecursionError")),(dk P Qy 140 (vT "UnboundLocalError")),(dk P Qz 141 (vT "UnicodeError")),(dk P QA 142 (vT "BrokenPipeError")),(dk P QB 143 (vT "ConnectionAbortedError")),(dk P QC 144 (vT "ConnectionRefusedError")),(dk P QD 145 (vT "ConnectionResetError")),(dk P QE 146 (vT "TabError")),(dk P QF 147 (vT "UnicodeDecodeError")),(dk P QG 148 (vT "UnicodeEncodeError")),(dk P QH 149 (vT "UnicodeTranslateError")),(dk P QI 150 (vT "ExceptionGroup")),(dk P QJ 151 (vT "OSError")),(dk P QK 152 (vT "OSError")),(dk P QL 153 (vC "open")),(dk P QM 154 (vC "builtins.quit#opaque")),(dk P QN 155 (vC "builtins.exit#opaque")),(dk P J0 156 (vC "builtins.copyright#opaque")),(dk P QO 157 (vC "builtins.credits#opaque")),(dk P QP 158 (vC "builtins.license#opaque")),(dk P QQ 159 (vC "builtins.help#opaque"))]⟩ 159),⟨[]⟩⟩
def o1(P:Params):Obj:=⟨(vT "dict"),none,(.dict ⟨[(dk P JY 162 (vR 4)),(dk P tg 163 (vR 5)),(dk P sX 244 (vR 12))]⟩ 3),⟨[]⟩⟩
def o2(P:Params):Obj:=⟨.none,none,(.dict ⟨[(dk P QR 183 (vB true)),(dk P QS 185 (vR 14)),(dk P QT 206 (vR 18)),(dk P QU 216 (vR 22)),(dk P QV 245 (J 3)),(dk P QW 270 (vB true)),(dk P QX 272 (vR 27)),(dk P QY 0 (vS QZ 0)),(dk P Q0 273 (vS Q1 0))]⟩ 9),⟨[]⟩⟩
def d0(P:Params):=dk P ng 166 .none
def d1(P:Params):=dk P AS 167 .none
def d2(P:Params):=dk P Ca 168 (vC "__main__.__loader__#opaque")
def d3(P:Params):=dk P AT 169 .none
def d4(P:Params):=dk P Nj 170 (vR 6)
def d5(P:Params):=dk P Nk 171 (vR 4)
def d6(P:Params):=dk P Nl 173 (vS aA 172)
def d7(P:Params):=dk P No 174 .none
def d8(P:Params):=dk P sX 275 (vR 12)
def o3(P:Params):Obj:=⟨(vT "dict"),none,(.dict ⟨[(dk P s40 165 (vS tg 164)),(d0 P),(d1 P),(d2 P),(d3 P),(d4 P),(d5 P),(d6 P),(d7 P),(d8 P)]⟩ 10),⟨[]⟩⟩
noncomputable def o4:Obj:=⟨(vT "module"),(.some 0),.plain,⟨[]⟩⟩
noncomputable def o5:Obj:=⟨(vT "module"),(.some 3),.plain,⟨[]⟩⟩
noncomputable def o6:Obj:=⟨(vT "dict"),none,(.dict ⟨[]⟩ 0),⟨[]⟩⟩
def o7:Obj:=tu []
noncomputable def o8:Obj:=⟨.none,none,(.fields ⟨[]⟩),⟨[]⟩⟩
def o9:Obj:=co [(vS vX 176),(vS vX 177),(vS aA 178),(J 1),(J 0),(J 0),(J 0),(J 0),(vR 7),(vB false),(J 175),(vR 8),.none,.none,.none,.none,(J 179),(J 1),(vS aA 180)]
def o10:Obj:=⟨(vT "frame"),none,.plain,⟨[(.some (vR 9)),(.some (vR 3)),(.some (vR 3)),none,(.some (vS tg 164)),none,(.some (vR 0))]⟩⟩
def o11(P:Params):Obj:=⟨(vT "dict"),none,(.dict ⟨[(dk P s40 247 (vS sX 246)),(dk P ng 248 .none),(dk P AS 250 (vS s94 249)),(dk P Ca 251 (vC "off-the-table:_sre.__loader__:shared#opaque")),(dk P AT 252 (vC "off-the-table:_sre.__spec__:shared#opaque")),(dk P JZ 253 (vC "_sre.compile")),(dk P Q2 254 (vC "off-the-table:_sre.template:shared#opaque")),(dk P Q3 255 (vC "off-the-table:_sre.getcodesize:shared#opaque")),(dk P Q4 256 (vC "off-the-table:_sre.ascii_iscased:shared#opaque")),(dk P Q5 257 (vC "off-the-table:_sre.unicode_iscased:shared#opaque")),(dk P Q6 258 (vC "off-the-table:_sre.ascii_tolower:shared#opaque")),(dk P Q7 259 (vC "off-the-table:_sre.unicode_tolower:shared#opaque")),(dk P Q8 261 (vI (i 20230612) 260)),(dk P Q9 263 (vI (i 4) 262)),(dk P Ra 265 (vI (i 4294967295) 264)),(dk P Rb 267 (vI (i 1073741823) 266)),(dk P J0 269 (vS Rc 268))]⟩ 17),⟨[]⟩⟩
noncomputable def o12:Obj:=⟨(vT "module"),(.some 11),.plain,⟨[]⟩⟩
def o13(P:Params):Obj:=⟨(vT "dict"),none,(.dict ⟨[(dk P vY 189 (vS J1 186)),(dk P vZ 190 (vI (i 971) 187)),(dk P ng 191 (vC "_frozen_importlib.BuiltinImporter.__doc__:str#opaque")),(dk P Rd 192 (vS J2 188)),(dk P Re 193 (vC "_frozen_importlib.BuiltinImporter.find_spec#opaque")),(dk P Rf 194 (vC "_frozen_importlib.BuiltinImporter.create_module#opaque")),(dk P Rg 195 (vC "_frozen_importlib.BuiltinImporter.exec_module#opaque")),(dk P Rh 196 (vC "_frozen_importlib.BuiltinImporter.get_code#opaque")),(dk P Ri 197 (vC "_frozen_importlib.BuiltinImporter.get_source#opaque")),(dk P Rj 198 (vC "_frozen_importlib.BuiltinImporter.is_package#opaque")),(dk P Rl 199 (vC "_frozen_importlib.BuiltinImporter.load_module#opaque")),(dk P v5 200 (vR 15)),(dk P lT 202 (vR 16)),(dk P lU 204 (vR 17))]⟩ 14),⟨[]⟩⟩
def o14:Obj:=⟨(vT "type"),none,(.cls ⟨J3,[(.type "object")],[(.ref 14),(.type "object")],13,J3,true,[],[],false,none,false⟩),⟨[]⟩⟩
def o15:Obj:=⟨(vT "getset_descriptor"),none,(.fields ⟨[(vS lT 201),(vR 14),(vC "function.__dict__"),(vC "function.__dict__#set")]⟩),⟨[]⟩⟩
def o16:Obj:=⟨(vT "getset_descriptor"),none,(.fields ⟨[(vS lU 203),(vR 14),(vC "ExceptionGroup.__weakref__"),.none]⟩),⟨[]⟩⟩
def o17:Obj:=⟨.none,none,(.seq ⟨[(J 13),(vS Rm 0),(vB true),(vB true),(vS s94 205),(J 21),(vS Ro 0),(vB true),(vB true),(vS s94 242)]⟩ 1),⟨[]⟩⟩
noncomputable def o18:Obj:=⟨(vT "list"),none,(.seq ⟨[]⟩ 0),⟨[]⟩⟩
def o19(P:Params):Obj:=⟨(vT "dict"),none,(.dict ⟨[(dk P s78 208 (vS sX 207)),(dk P J4 209 (vR 14)),(dk P J5 210 (vS J2 184)),(dk P J6 211 .none),(dk P J7 212 .none),(dk P J8 213 (vR 19)),(dk P J9 214 (vB false)),(dk P Ka 215 .none),(dk P Rp 243 (vB false))]⟩ 9),⟨[]⟩⟩
def o20(P:Params):Obj:=⟨(vT "dict"),none,(.dict ⟨[(dk P vY 227 (vS J1 217)),(dk P vZ 228 (vI (i 562) 218)),(dk P ng 229 (vC "_frozen_importlib.ModuleSpec.__doc__:str#opaque")),(dk P jZ 230 (vC "_frozen_importlib.ModuleSpec.__init__#opaque")),(dk P Rq 231 (vC "_frozen_importlib.ModuleSpec.__repr__#opaque")),(dk P Rr 232 (vC "_frozen_importlib.ModuleSpec.__eq__#opaque")),(dk P Rs 233 (vC "_frozen_importlib.ModuleSpec.cached#opaque")),(dk P Rt 234 (vC "_frozen_importlib.ModuleSpec.parent#opaque")),(dk P Ru 235 (vC "_frozen_importlib.ModuleSpec.has_location#opaque")),(dk P v5 236 (vR 23)),(dk P lT 238 (vR 24)),(dk P lU 240 (vR 25)),(dk P Rv 241 .none)]⟩ 13),⟨[]⟩⟩
def o21:Obj:=⟨(vT "type"),none,(.cls ⟨Kb,[(.type "object")],[(.ref 22),(.type "object")],21,Kb,true,[],[],false,none,false⟩),⟨[]⟩⟩
def o22:Obj:=tu [(vS Ka 219),(vS J9 220),(vS J8 221),(vS J4 222),(vS J6 223),(vS s78 224),(vS J5 225),(vS J7 226)]
def o23:Obj:=⟨(vT "getset_descriptor"),none,(.fields ⟨[(vS lT 237),(vR 22),(vC "function.__dict__"),(vC "function.__dict__#set")]⟩),⟨[]⟩⟩
def o24:Obj:=⟨(vT "getset_descriptor"),none,(.fields ⟨[(vS lU 239),(vR 22),(vC "ExceptionGroup.__weakref__"),.none]⟩),⟨[]⟩⟩
noncomputable def o25:Obj:=⟨(vR 22),(.some 20),.plain,⟨[]⟩⟩
def o26:Obj:=⟨.none,none,(.seq ⟨[(J 11),(vS ⟨⟨[6,247,8,95,95,110,97,109,101,95,95,6,246,4,95,115,114,101,6,248,7,95,95,100,111,99,95,95,0,6,250,11,95,95,112,97,99,107,97,103,101,95,95,6,249,0,6,251,10,95,95,108,111,97,100,101,114,95,95,4,0,0,14,6,252,8,95,95,115,112,101,99,95,95,4,0,0,26,6,253,7,99,111,109,112,105,108,101,9,12,95,115,114,101,46,99,111,109,112,105,108,101,6,254,8,116,101,109,112,108,97,116,101,9,13,95,115,114,101,46,116,101,109,112,108,97,116,101,6,255,11,103,101,116,99,111,100,101,115,105,122,101,9,16,95,115,114,101,46,103,101,116,99,111,100,101,115,105,122,101,6,256,13,97,115,99,105,105,95,105,115,99,97,115,101,100,9,18,95,115,114,101,46,97,115,99,105,105,95,105,115,99,97,115,101,100,6,257,15,117,110,105,99,111,100,101,95,105,115,99,97,115,101,100,9,20,95,115,114,101,46,117,110,105,99,111,100,101,95,105,115,99,97,115,101,100,6,258,13,97,115,99,105,105,95,116,111,108,111,119,101,114,9,18,95,115,114,101,46,97,115,99,105,105,95,116,111,108,111,119,101,114,6,259,15,117,110,105,99,111,100,101,95,116,111,108,111,119,101,114,9,20,95,115,114,101,46,117,110,105,99,111,100,101,95,116,111,108,111,119,101,114,6,261,5,77,65,71,73,67,4,260,0,20230612,6,263,8,67,79,68,69,83,73,90,69,4,262,0,4,6,265,9,77,65,88,82,69,80,69,65,84,4,264,0,4294967295,6,267,9,77,65,88,71,82,79,85,80,83,4,266,0,1073741823,6,269,9,99,111,112,121,114,105,103,104,116,6,268,53,32,83,82,69,32,50,46,50,46,50,32,67,111,112,121,114,105,103,104,116,32,40,99,41,32,49,57,57,55,45,50,48,48,50,32,98,121,32,83,101,99,114,101,116,32,76,97,98,115,32,65,66,32]⟩⟩ 0),(vB true),(vB false),(vS sX 271)]⟩ 0),⟨[]⟩⟩
def hp0(P:Params):Heap:=⟨⟨[o0 P,o1 P,o2 P,o3 P,o4,o5,o6,o7,o8,o9,o10,o11 P,o12,o13 P,o14,o7,o15,o16,o17,o18,o19 P,o20 P,o21,o22,o23,o24,o25,o26]⟩,lf⟩
def o27:Obj:=co [(vS vX 277),(vS vX 278),(vS aA 279),(J 1),(J 0),(J 0),(J 0),(J 0),(vR 28),(vB false),(J 276),(vR 29),.none,.none,.none,.none,(J 280),(J 1),(vS aA 281)]
def o28:Obj:=⟨(vT "frame"),none,.plain,⟨[(.some (vR 30)),(.some (vR 3)),(.some (vR 3)),none,(.some (vS tg 164)),none,(.some (vR 0))]⟩⟩
def hpa(P:Params):Heap:=⟨⟨[o0 P,o1 P,o2 P,o3 P,o4,o5,o6,o7,o8,o9,o10,o11 P,o12,o13 P,o14,o7,o15,o16,o17,o18,o19 P,o20 P,o21,o22,o23,o24,o25,o26,o7,o8,o27,o28]⟩,lf⟩
def trb(P:Params):BT:=(bN (o0 P) (bN (o1 P) (bN (o3 P) (bN o7 (bN o7 (bN o28 bZ bZ) bZ) (bN o22 bZ bZ)) (bN (o11 P) (bN o18 bZ bZ) (bN o26 bZ bZ))) (bN o5 (bN o9 (bN o16 bZ bZ) (bN o24 bZ bZ)) (bN (o13 P) (bN (o20 P) bZ bZ) (bN o8 bZ bZ)))) (bN (o2 P) (bN o4 (bN o8 (bN o15 bZ bZ) (bN o23 bZ bZ)) (bN o12 (bN (o19 P) bZ bZ) (bN o7 bZ bZ))) (bN o6 (bN o10 (bN o17 bZ bZ) (bN o25 bZ bZ)) (bN o14 (bN o21 bZ bZ) (bN o27 bZ bZ)))))
def b7:Env:={scope:=pN.main.scope,locals:=mainNs,globals:=mainNs,cells:=[],code:=(.ref 30),frame:=some 31}
def cE:Code:=.body (T3 pN) b7
noncomputable def frB:List Frame:=[topFrame ⟨0,0,0,0⟩]
theorem Cw: ∀w:World,(λos=>zw0 zw1 pN w 28 (.some (.ref 6)) 12 (⟨hp0 w.params,#[],dw,276,os⟩:Shared) (topStub pN))=λos=>some ((⟨hpa w.params,#[],dw,282,os⟩:Shared),(⟨zw2 zw1 cE,cE,⟨0,0,0,0⟩,frB⟩:Thread)):=λw=>by kernel_rfl
theorem Kd(w:World)(os:OsState):topGo Vl pN w 28 (.some (.ref 6)) 12 (⟨hp0 w.params,#[],dw,276,os⟩:Shared) (topStub pN)=some ((⟨hpa w.params,#[],dw,282,os⟩:Shared),(⟨denote Vl cE,cE,⟨0,0,0,0⟩,frB⟩:Thread)):=by rw[ze3,ze4,ze5];exact congrFun (Cw w) os
theorem th: ∀w:World,(λos=>zw6 zw1 pN w 28 (.some (.ref 6)) 1 1 (⟨hpa w.params,#[],dw,282,os⟩:Shared) (blockOf (T3 pN) b7 cE ⟨0,0,0,0⟩ frB))=λos=>some (Flow.next,(SharedT.abs (⟨trb w.params,32,lf,#[],dw,282,os⟩:SharedT)),cE,⟨0,0,0,0⟩):=λw=>by kernel_rfl
theorem v6(w:World)(os:OsState):segRun Vl pN w 28 (.some (.ref 6)) 1 1 (⟨hpa w.params,#[],dw,282,os⟩:Shared) (blockOf (T3 pN) b7 cE ⟨0,0,0,0⟩ frB)=some (Flow.next,(SharedT.abs (⟨trb w.params,32,lf,#[],dw,282,os⟩:SharedT)),cE,⟨0,0,0,0⟩):=by rw[ze7,ze4];exact congrFun (th w) os
def d9(P:Params):=dk P s40 165 (vS iU 332)
def d10(P:Params):=dk P s30 288 (vR 38)
def d11(P:Params):=dk P s6 321 (vR 39)
def d12(P:Params):=dk P gc 331 (vR 46)
def o29(P:Params):Obj:=⟨(vT "dict"),none,(.dict ⟨[(d9 P),(d0 P),(d1 P),(d2 P),(d3 P),(d4 P),(d5 P),(d6 P),(d7 P),(d8 P),(d10 P),(d11 P),(d12 P)]⟩ 13),⟨[]⟩⟩
def o30:Obj:=⟨.none,none,(.fields ⟨[(J 2),(J 0),(vR 37),(J 7),(J 0),(vR 45)]⟩),⟨[]⟩⟩
def o31:Obj:=tu [(vS cX 285)]
def o32:Obj:=fa s30 s30 ar0 bd0 sc0
def o33:Obj:=co [(vS s30 282),(vS s30 283),(vS aA 284),(J 2),(J 1),(J 0),(J 0),(J 3),(vR 32),(vB true),(J 276),(vR 33),.none,(vR 34),(vR 35),(vR 36),(J 286),(J 2),(vS aA 287)]
def o34:Obj:=fb s30 s30 ar0 bd0 sc0 .none .none (vS tg 164) (vR 37)
def o35:Obj:=⟨(vT "dict"),none,(.dict ⟨[⟨(i 1),(vI (i 1) 291),(vS GG 292)⟩,⟨(i 2),(vI (i 2) 293),(vS GH 294)⟩,⟨(i 4),(vI (i 4) 295),(vS GI 296)⟩,⟨(i 8),(vI (i 8) 297),(vS GJ 298)⟩,⟨(i 16),(vI (i 16) 299),(vS GK 300)⟩,⟨(i 32),(vI (i 32) 301),(vS GL 302)⟩,⟨(i 64),(vI (i 64) 303),(vS GO 304)⟩,⟨(i 128),(vI (i 128) 305),(vS GP 306)⟩,⟨(i 256),(vI (i 256) 307),(vS GQ 308)⟩,⟨(i 512),(vI (i 512) 309),(vS GR 310)⟩]⟩ 10),⟨[]⟩⟩
def o36:Obj:=tu [(vS s4 325),(vS s0 326),(vS s1 327),(vS s3 328)]
def o37:Obj:=fa gc gc ar1 bd1 sc1
def o38:Obj:=co [(vS gc 322),(vS gc 323),(vS aA 324),(J 7),(J 1),(J 0),(J 0),(J 3),(vR 40),(vB true),(J 276),(vR 41),.none,(vR 42),(vR 43),(vR 44),(J 329),(J 7),(vS aA 330)]
def o39:Obj:=fb gc gc ar1 bd1 sc1 .none .none (vS Rw 289) (vR 45)
def tr1(P:Params):BT:=(bN (o0 P) (bN (o1 P) (bN (o29 P) (bN o7 (bN o7 (bN o28 bZ bZ) bZ) (bN o22 (bN o35 bZ bZ) bZ)) (bN (o11 P) (bN o18 (bN o7 bZ bZ) bZ) (bN o26 (bN o7 bZ bZ) bZ))) (bN o5 (bN o9 (bN o16 (bN o8 bZ bZ) bZ) (bN o24 (bN o8 bZ bZ) bZ)) (bN (o13 P) (bN (o20 P) (bN o33 bZ bZ) bZ) (bN o30 (bN o38 bZ bZ) bZ)))) (bN (o2 P) (bN o4 (bN o8 (bN o15 (bN o7 bZ bZ) bZ) (bN o23 (bN o7 bZ bZ) bZ)) (bN o12 (bN (o19 P) (bN o32 bZ bZ) bZ) (bN o7 (bN o37 bZ bZ) bZ))) (bN o6 (bN o10 (bN o17 (bN o31 bZ bZ) bZ) (bN o25 (bN o36 bZ bZ) bZ)) (bN o14 (bN o21 (bN o34 bZ bZ) bZ) (bN o27 (bN o39 bZ bZ) bZ)))))
def gs1:List Stmt:=((T3 pN).drop 0).take 5
theorem ti: ∀w:World,(λos=>zw8 zw1 pN (w.withFollow "special-get-raises" false) 28 (.some (.ref 6)) 1 220 (⟨trb w.params,32,lf,#[],dw,282,os⟩:SharedT) (⟨(zw9 gs1 b7).wrap doneF deadEnd id id,cE,⟨0,0,0,0⟩,frB⟩:Thread))=(λos=>some (Flow.next,(⟨tr1 w.params,47,lf,#[],dw,334,os⟩:SharedT),cE,⟨19,0,19,8⟩)):=λw=>by kernel_rfl
theorem v7: ∀w:World,(λos=>zw8 zw1 pN (w.withFollow "special-get-raises" true) 28 (.some (.ref 6)) 1 220 (⟨trb w.params,32,lf,#[],dw,282,os⟩:SharedT) (⟨(zw9 gs1 b7).wrap doneF deadEnd id id,cE,⟨0,0,0,0⟩,frB⟩:Thread))=(λos=>some (Flow.next,(⟨tr1 w.params,47,lf,#[],dw,334,os⟩:SharedT),cE,⟨19,0,19,8⟩)):=λw=>by kernel_rfl
theorem Ry(w:World):(λos=>zw8 zw1 pN w 28 (.some (.ref 6)) 1 220 (⟨trb w.params,32,lf,#[],dw,282,os⟩:SharedT) (⟨(zw9 gs1 b7).wrap doneF deadEnd id id,cE,⟨0,0,0,0⟩,frB⟩:Thread))=(λos=>some (Flow.next,(⟨tr1 w.params,47,lf,#[],dw,334,os⟩:SharedT),cE,⟨19,0,19,8⟩)):=byRow2 "special-get-raises" (P:=λw=>(λos=>zw8 zw1 pN w 28 (.some (.ref 6)) 1 220 (⟨trb w.params,32,lf,#[],dw,282,os⟩:SharedT) (⟨(zw9 gs1 b7).wrap doneF deadEnd id id,cE,⟨0,0,0,0⟩,frB⟩:Thread))=(λos=>some (Flow.next,(⟨tr1 w.params,47,lf,#[],dw,334,os⟩:SharedT),cE,⟨19,0,19,8⟩))) ti v7 w
theorem hd1(w:World)(os:OsState):segRunT Vl pN w 28 (.some (.ref 6)) 1 220 (⟨trb w.params,32,lf,#[],dw,282,os⟩:SharedT) (Vx gs1 b7 cE ⟨0,0,0,0⟩ frB)=some (Flow.next,(⟨tr1 w.params,47,lf,#[],dw,334,os⟩:SharedT),cE,⟨19,0,19,8⟩):=by unfold Vx;rw[ze10,ze4,ze11];exact congrFun (Ry w) os
def d13(P:Params):=dk P s16 433 (vR 108)
def d14(P:Params):=dk P HG 435 (vI (i 7) 434)
def d15(P:Params):=dk P HI 437 (vI (i 8) 436)
def d16(P:Params):=dk P HK 439 (vI (i 9) 438)
def o40(P:Params):Obj:=⟨(vT "dict"),none,(.dict ⟨[(d9 P),(d0 P),(d1 P),(d2 P),(d3 P),(d4 P),(d5 P),(d6 P),(d7 P),(d8 P),(d10 P),(d11 P),(d12 P),(d13 P),(d14 P),(d15 P),(d16 P)]⟩ 17),⟨[]⟩⟩
def o41:Obj:=⟨.none,none,(.fields ⟨[(J 2),(J 0),(vR 37),(J 7),(J 0),(vR 45),(J 20),(J 0),(vR 52)]⟩),⟨[]⟩⟩
noncomputable def o42:Obj:=⟨(vT "builtin_function_or_method"),none,(.fields ⟨[(vC "type.__prepare__"),(vT "type")]⟩),⟨[]⟩⟩
def d17(P:Params):=dk P vY 341 (vS iU 332)
def d18(P:Params):=dk P vZ 345 (vI (i 20) 344)
def d19(P:Params):=dk P s14 349 (vS pS 347)
def d20(P:Params):=dk P s15 350 (vS GD 348)
def d21(P:Params):=dk P jZ 365 (vR 63)
def d22(P:Params):=dk P s32 374 (vR 70)
def d23(P:Params):=dk P s34 386 (vR 77)
def d24(P:Params):=dk P vO 394 (vR 84)
def d25(P:Params):=dk P vP 402 (vR 91)
def d26(P:Params):=dk P m9 412 (vR 98)
def d27(P:Params):=dk P vQ 420 (vR 105)
def d28(P:Params):=dk P v5 426 (vR 106)
def o43(P:Params):Obj:=⟨(vT "dict"),none,(.dict ⟨[(d17 P),(dk P Kc 343 (vS s16 342)),(d18 P),(d19 P),(d20 P),(d21 P),(d22 P),(d23 P),(d24 P),(d25 P),(d26 P),(d27 P),(d28 P)]⟩ 13),⟨[]⟩⟩
def o44:Obj:=⟨.none,none,(.fields ⟨[(J 23),(J 4),(vR 62),(J 46),(J 4),(vR 69),(J 50),(J 4),(vR 76),(J 57),(J 4),(vR 83),(J 60),(J 4),(vR 90),(J 63),(J 4),(vR 97),(J 74),(J 4),(vR 104)]⟩),⟨[]⟩⟩
def o45:Obj:=co [(vS s16 336),(vS s16 337),(vS aA 338),(J 20),(J 0),(J 0),(J 0),(J 0),(vR 50),(vB false),(J 276),(vR 51),.none,.none,.none,.none,(J 339),(J 20),(vS aA 340)]
def o46:Obj:=⟨(vT "frame"),none,.plain,⟨[(.some (vR 52)),(.some (vR 3)),(.some (vR 49)),none,(.some (vS iU 332)),none,(.some (vR 0))]⟩⟩
def o47:Obj:=⟨(vT "str_ascii_iterator"),none,(.fields ⟨[.none,(J 2)]⟩),⟨[]⟩⟩
noncomputable def o48:Obj:=⟨(vT "StopIteration"),none,(.fields ⟨[(vR 55),.none,.none,.none,(vB false),.none]⟩),⟨[]⟩⟩
def o49:Obj:=tu [(vS s11 354),(vS s13 355),(vS s14 356),(vS s15 357),(vS s17 358),(vS s18 359),(vS s19 360),(vS s20 361),(vS s21 362)]
def o50:Obj:=fa jZ Cb ar2 bd2 sc2
def o51:Obj:=co [(vS jZ 351),(vS Cb 352),(vS aA 353),(J 23),(J 2),(J 0),(J 0),(J 3),(vR 57),(vB true),(J 276),(vR 58),.none,(vR 59),(vR 60),(vR 61),(J 363),(J 23),(vS aA 364)]
def o52:Obj:=fb jZ Cb ar2 bd2 sc2 .none .none (vS iU 332) (vR 62)
def o53:Obj:=tu [(vS s11 369),(vS s17 370),(vS s26 371)]
def o54:Obj:=fa s32 Cc ar3 bd3 sc3
def o55:Obj:=co [(vS s32 366),(vS Cc 367),(vS aA 368),(J 46),(J 1),(J 0),(J 0),(J 3),(vR 64),(vB true),(J 276),(vR 65),.none,(vR 66),(vR 67),(vR 68),(J 372),(J 46),(vS aA 373)]
def o56:Obj:=fb s32 Cc ar3 bd3 sc3 .none .none (vS iU 332) (vR 69)
def o57:Obj:=tu [(vS s11 378),(vS s29 379),(vS s17 380),(vS s26 381),(vS s28 382),(vS s1 383)]
def o58:Obj:=fa s34 Cd ar4 bd4 sc4
def o59:Obj:=co [(vS s34 375),(vS Cd 376),(vS aA 377),(J 50),(J 2),(J 0),(J 0),(J 3),(vR 71),(vB true),(J 276),(vR 72),.none,(vR 73),(vR 74),(vR 75),(J 384),(J 50),(vS aA 385)]
def o60:Obj:=fb s34 Cd ar4 bd4 sc4 .none .none (vS iU 332) (vR 76)
def o61:Obj:=tu [(vS s11 390),(vS s31 391)]
def o62:Obj:=fa vO Ce ar5 bd5 sc5
def o63:Obj:=co [(vS vO 387),(vS Ce 388),(vS aA 389),(J 57),(J 2),(J 0),(J 0),(J 3),(vR 78),(vB true),(J 276),(vR 79),.none,(vR 80),(vR 81),(vR 82),(J 392),(J 57),(vS aA 393)]
def o64:Obj:=fb vO Ce ar5 bd5 sc5 .none .none (vS iU 332) (vR 83)
def o65:Obj:=tu [(vS s11 398),(vS s31 399)]
def o66:Obj:=fa vP Cf ar6 bd6 sc5
def o67:Obj:=co [(vS vP 395),(vS Cf 396),(vS aA 397),(J 60),(J 2),(J 0),(J 0),(J 3),(vR 85),(vB true),(J 276),(vR 86),.none,(vR 87),(vR 88),(vR 89),(J 400),(J 60),(vS aA 401)]
def o68:Obj:=fb vP Cf ar6 bd6 sc5 .none .none (vS iU 332) (vR 90)
def o69:Obj:=tu [(vS s11 406),(vS s31 407),(vS s19 408),(vS s33 409)]
def o70:Obj:=fa m9 Cg ar7 bd7 sc6
def o71:Obj:=co [(vS m9 403),(vS Cg 404),(vS aA 405),(J 63),(J 2),(J 0),(J 0),(J 3),(vR 92),(vB true),(J 276),(vR 93),.none,(vR 94),(vR 95),(vR 96),(J 410),(J 63),(vS aA 411)]
def o72:Obj:=fb m9 Cg ar7 bd7 sc6 .none .none (vS iU 332) (vR 97)
def o73:Obj:=tu [(vS s11 416),(vS s31 417)]
def o74:Obj:=fa vQ Ch ar8 bd8 sc5
def o75:Obj:=co [(vS vQ 413),(vS Ch 414),(vS aA 415),(J 74),(J 2),(J 0),(J 0),(J 3),(vR 99),(vB true),(J 276),(vR 100),.none,(vR 101),(vR 102),(vR 103),(J 418),(J 74),(vS aA 419)]
def o76:Obj:=fb vQ Ch ar8 bd8 sc5 .none .none (vS iU 332) (vR 104)
def o77:Obj:=tu [(vS s25 421),(vS s19 422),(vS s23 423),(vS s20 424),(vS s12 425)]
def o78(P:Params):Obj:=⟨(vT "dict"),none,(.dict ⟨[(d17 P),(d18 P),(d19 P),(d20 P),(d21 P),(d22 P),(d23 P),(d24 P),(d25 P),(d26 P),(d27 P),(d28 P),(dk P lT 428 (vR 109)),(dk P lU 430 (vR 110)),(dk P ng 431 .none)]⟩ 4),⟨[]⟩⟩
def o79:Obj:=⟨(vT "type"),none,(.cls ⟨s16,[(.type "object")],[(.ref 108),(.type "object")],107,s16,true,[],[],false,none,false⟩),⟨[none,none,(.some (vS s16 334)),(.some (vS s16 342)),(.some (vC "object.__new__")),(.some (vB true))]⟩⟩
def o80:Obj:=⟨(vT "getset_descriptor"),none,(.fields ⟨[(vS lT 427),(vR 108),(vC "function.__dict__"),(vC "function.__dict__#set")]⟩),⟨[]⟩⟩
def o81:Obj:=⟨(vT "getset_descriptor"),none,(.fields ⟨[(vS lU 429),(vR 108),(vC "ExceptionGroup.__weakref__"),.none]⟩),⟨[]⟩⟩
noncomputable def o82:Obj:=⟨(vT "super"),none,(.fields ⟨[(vR 108),(vR 108),(vR 108)]⟩),⟨[]⟩⟩
noncomputable def o83:Obj:=⟨(vT "builtin_function_or_method"),none,(.fields ⟨[(vC "object.__init_subclass__"),(vR 108)]⟩),⟨[]⟩⟩
def tr2(P:Params):BT:=(bN (o0 P) (bN (o1 P) (bN (o40 P) (bN o7 (bN o7 (bN o28 (bN o52 bZ bZ) (bN o7 bZ bZ)) (bN o7 (bN o8 bZ bZ) (bN o82 bZ bZ))) (bN o22 (bN o35 (bN o7 bZ bZ) (bN o74 bZ bZ)) (bN o7 (bN o65 bZ bZ) bZ))) (bN (o11 P) (bN o18 (bN o7 (bN o7 bZ bZ) (bN o7 bZ bZ)) (bN o44 (bN o63 bZ bZ) bZ)) (bN o26 (bN o7 (bN o58 bZ bZ) (bN (o78 P) bZ bZ)) (bN o49 (bN o68 bZ bZ) bZ)))) (bN o5 (bN o9 (bN o16 (bN o8 (bN o8 bZ bZ) (bN o71 bZ bZ)) (bN (o43 P) (bN o7 bZ bZ) bZ)) (bN o24 (bN o8 (bN o57 bZ bZ) (bN o76 bZ bZ)) (bN o7 (bN o66 bZ bZ) bZ))) (bN (o13 P) (bN (o20 P) (bN o33 (bN o55 bZ bZ) (bN o73 bZ bZ)) (bN o46 (bN o7 bZ bZ) bZ)) (bN o41 (bN o38 (bN o60 bZ bZ) (bN o80 bZ bZ)) (bN o50 (bN o8 bZ bZ) bZ))))) (bN (o2 P) (bN o4 (bN o8 (bN o15 (bN o7 (bN o7 bZ bZ) (bN o70 bZ bZ)) (bN o42 (bN o61 bZ bZ) (bN o83 bZ bZ))) (bN o23 (bN o7 (bN o8 bZ bZ) (bN o75 bZ bZ)) (bN o48 (bN o7 bZ bZ) bZ))) (bN o12 (bN (o19 P) (bN o32 (bN o54 bZ bZ) (bN o8 bZ bZ)) (bN o45 (bN o64 bZ bZ) bZ)) (bN o7 (bN o37 (bN o59 bZ bZ) (bN o79 bZ bZ)) (bN o7 (bN o7 bZ bZ) bZ)))) (bN o6 (bN o10 (bN o17 (bN o31 (bN o53 bZ bZ) (bN o72 bZ bZ)) (bN o7 (bN o62 bZ bZ) bZ)) (bN o25 (bN o36 (bN o7 bZ bZ) (bN o77 bZ bZ)) (bN o8 (bN o67 bZ bZ) bZ))) (bN o14 (bN o21 (bN o34 (bN o56 bZ bZ) (bN o7 bZ bZ)) (bN o47 (bN o8 bZ bZ) bZ)) (bN o27 (bN o39 (bN o7 bZ bZ) (bN o81 bZ bZ)) (bN o51 (bN o69 bZ bZ) bZ))))))
def gs2:List Stmt:=((T3 pN).drop 5).take 4
theorem tj: ∀w:World,(λos=>zw8 zw1 pN (w.withFollow "special-get-raises" false) 28 (.some (.ref 6)) 1 520 (⟨tr1 w.params,47,lf,#[],dw,334,os⟩:SharedT) (⟨(zw9 gs2 b7).wrap doneF deadEnd id id,cE,⟨19,0,19,8⟩,frB⟩:Thread))=(λos=>some (Flow.next,(⟨tr2 w.params,113,lf,#[],dw,440,os⟩:SharedT),cE,⟨78,0,78,4⟩)):=λw=>by kernel_rfl
theorem v8: ∀w:World,(λos=>zw8 zw1 pN (w.withFollow "special-get-raises" true) 28 (.some (.ref 6)) 1 520 (⟨tr1 w.params,47,lf,#[],dw,334,os⟩:SharedT) (⟨(zw9 gs2 b7).wrap doneF deadEnd id id,cE,⟨19,0,19,8⟩,frB⟩:Thread))=(λos=>some (Flow.next,(⟨tr2 w.params,113,lf,#[],dw,440,os⟩:SharedT),cE,⟨78,0,78,4⟩)):=λw=>by kernel_rfl
theorem Rz(w:World):(λos=>zw8 zw1 pN w 28 (.some (.ref 6)) 1 520 (⟨tr1 w.params,47,lf,#[],dw,334,os⟩:SharedT) (⟨(zw9 gs2 b7).wrap doneF deadEnd id id,cE,⟨19,0,19,8⟩,frB⟩:Thread))=(λos=>some (Flow.next,(⟨tr2 w.params,113,lf,#[],dw,440,os⟩:SharedT),cE,⟨78,0,78,4⟩)):=byRow2 "special-get-raises" (P:=λw=>(λos=>zw8 zw1 pN w 28 (.some (.ref 6)) 1 520 (⟨tr1 w.params,47,lf,#[],dw,334,os⟩:SharedT) (⟨(zw9 gs2 b7).wrap doneF deadEnd id id,cE,⟨19,0,19,8⟩,frB⟩:Thread))=(λos=>some (Flow.next,(⟨tr2 w.params,113,lf,#[],dw,440,os⟩:SharedT),cE,⟨78,0,78,4⟩))) tj v8 w
theorem hd2(w:World)(os:OsState):segRunT Vl pN w 28 (.some (.ref 6)) 1 520 (⟨tr1 w.params,47,lf,#[],dw,334,os⟩:SharedT) (Vx gs2 b7 cE ⟨19,0,19,8⟩ frB)=some (Flow.next,(⟨tr2 w.params,113,lf,#[],dw,440,os⟩:SharedT),cE,⟨78,0,78,4⟩):=by unfold Vx;rw[ze10,ze4,ze11];exact congrFun (Rz w) os
def d29(P:Params):=dk P HM 441 (vI (i 10) 440)
def d30(P:Params):=dk P HO 443 (vI (i 11) 442)
def d31(P:Params):=dk P HQ 445 (vI (i 12) 444)
def d32(P:Params):=dk P HS 447 (vI (i 13) 446)
def d33(P:Params):=dk P HU 449 (vI (i 14) 448)
def d34(P:Params):=dk P HW 451 (vI (i 15) 450)
def d35(P:Params):=dk P HY 453 (vI (i 16) 452)
def d36(P:Params):=dk P H0 455 (vI (i 17) 454)
def d37(P:Params):=dk P H5 457 (vI (i 18) 456)
def d38(P:Params):=dk P H7 459 (vI (i 19) 458)
def d39(P:Params):=dk P H9 461 (vI (i 20) 460)
def d40(P:Params):=dk P Ib 463 (vI (i 21) 462)
def d41(P:Params):=dk P Id 465 (vI (i 22) 464)
def d42(P:Params):=dk P Ig 467 (vI (i 23) 466)
def d43(P:Params):=dk P Ij 469 (vI (i 24) 468)
def d44(P:Params):=dk P Il 471 (vI (i 25) 470)
def d45(P:Params):=dk P Io 473 (vI (i 26) 472)
def d46(P:Params):=dk P Iq 475 (vI (i 27) 474)
def d47(P:Params):=dk P It 477 (vI (i 28) 476)
def d48(P:Params):=dk P Iw 479 (vI (i 29) 478)
def d49(P:Params):=dk P Iy 481 (vI (i 30) 480)
def d50(P:Params):=dk P IA 483 (vI (i 31) 482)
def d51(P:Params):=dk P IC 485 (vI (i 32) 484)
def d52(P:Params):=dk P IE 487 (vI (i 33) 486)
def d53(P:Params):=dk P IG 489 (vI (i 34) 488)
def d54(P:Params):=dk P IJ 491 (vI (i 35) 490)
def d55(P:Params):=dk P IL 493 (vI (i 36) 492)
def d56(P:Params):=dk P IN 495 (vI (i 37) 494)
def d57(P:Params):=dk P IP 497 (vI (i 38) 496)
def d58(P:Params):=dk P IR 499 (vI (i 39) 498)
def d59(P:Params):=dk P IT 501 (vI (i 40) 500)
def d60(P:Params):=dk P IV 503 (vI (i 41) 502)
def d61(P:Params):=dk P IX 505 (vI (i 42) 504)
def d62(P:Params):=dk P IZ 507 (vI (i 43) 506)
def d63(P:Params):=dk P I3 509 (vI (i 44) 508)
def d64(P:Params):=dk P I5 511 (vI (i 45) 510)
def d65(P:Params):=dk P I7 513 (vI (i 46) 512)
def d66(P:Params):=dk P I9 515 (vI (i 47) 514)
def d67(P:Params):=dk P Jb 517 (vI (i 48) 516)
def d68(P:Params):=dk P Jd 519 (vI (i 49) 518)
def d69(P:Params):=dk P Jf 521 (vI (i 50) 520)
def d70(P:Params):=dk P Jh 523 (vI (i 51) 522)
def d71(P:Params):=dk P Jj 525 (vI (i 52) 524)
def d72(P:Params):=dk P Jl 527 (vI (i 53) 526)
def d73(P:Params):=dk P Jn 529 (vI (i 54) 528)
def o84(P:Params):Obj:=⟨(vT "dict"),none,(.dict ⟨[(d9 P),(d0 P),(d1 P),(d2 P),(d3 P),(d4 P),(d5 P),(d6 P),(d7 P),(d8 P),(d10 P),(d11 P),(d12 P),(d13 P),(d14 P),(d15 P),(d16 P),(d29 P),(d30 P),(d31 P),(d32 P),(d33 P),(d34 P),(d35 P),(d36 P),(d37 P),(d38 P),(d39 P),(d40 P),(d41 P),(d42 P),(d43 P),(d44 P),(d45 P),(d46 P),(d47 P),(d48 P),(d49 P),(d50 P),(d51 P),(d52 P),(d53 P),(d54 P),(d55 P),(d56 P),(d57 P),(d58 P),(d59 P),(d60 P),(d61 P),(d62 P),(d63 P),(d64 P),(d65 P),(d66 P),(d67 P),(d68 P),(d69 P),(d70 P),(d71 P),(d72 P),(d73 P)]⟩ 62),⟨[]⟩⟩
def tr3(P:Params):BT:=(bN (o0 P) (bN (o1 P) (bN (o84 P) (bN o7 (bN o7 (bN o28 (bN o52 bZ bZ) (bN o7 bZ bZ)) (bN o7 (bN o8 bZ bZ) (bN o82 bZ bZ))) (bN o22 (bN o35 (bN o7 bZ bZ) (bN o74 bZ bZ)) (bN o7 (bN o65 bZ bZ) bZ))) (bN (o11 P) (bN o18 (bN o7 (bN o7 bZ bZ) (bN o7 bZ bZ)) (bN o44 (bN o63 bZ bZ) bZ)) (bN o26 (bN o7 (bN o58 bZ bZ) (bN (o78 P) bZ bZ)) (bN o49 (bN o68 bZ bZ) bZ)))) (bN o5 (bN o9 (bN o16 (bN o8 (bN o8 bZ bZ) (bN o71 bZ bZ)) (bN (o43 P) (bN o7 bZ bZ) bZ)) (bN o24 (bN o8 (bN o57 bZ bZ) (bN o76 bZ bZ)) (bN o7 (bN o66 bZ bZ) bZ))) (bN (o13 P) (bN (o20 P) (bN o33 (bN o55 bZ bZ) (bN o73 bZ bZ)) (bN o46 (bN o7 bZ bZ) bZ)) (bN o41 (bN o38 (bN o60 bZ bZ) (bN o80 bZ bZ)) (bN o50 (bN o8 bZ bZ) bZ))))) (bN (o2 P) (bN o4 (bN o8 (bN o15 (bN o7 (bN o7 bZ bZ) (bN o70 bZ bZ)) (bN o42 (bN o61 bZ bZ) (bN o83 bZ bZ))) (bN o23 (bN o7 (bN o8 bZ bZ) (bN o75 bZ bZ)) (bN o48 (bN o7 bZ bZ) bZ))) (bN o12 (bN (o19 P) (bN o32 (bN o54 bZ bZ) (bN o8 bZ bZ)) (bN o45 (bN o64 bZ bZ) bZ)) (bN o7 (bN o37 (bN o59 bZ bZ) (bN o79 bZ bZ)) (bN o7 (bN o7 bZ bZ) bZ)))) (bN o6 (bN o10 (bN o17 (bN o31 (bN o53 bZ bZ) (bN o72 bZ bZ)) (bN o7 (bN o62 bZ bZ) bZ)) (bN o25 (bN o36 (bN o7 bZ bZ) (bN o77 bZ bZ)) (bN o8 (bN o67 bZ bZ) bZ))) (bN o14 (bN o21 (bN o34 (bN o56 bZ bZ) (bN o7 bZ bZ)) (bN o47 (bN o8 bZ bZ) bZ)) (bN o27 (bN o39 (bN o7 bZ bZ) (bN o81 bZ bZ)) (bN o51 (bN o69 bZ bZ) bZ))))))
def gs3:List Stmt:=((T3 pN).drop 9).take 45
theorem RA: ∀w:World,(λos=>zw8 zw1 pN w 28 (.some (.ref 6)) 1 406 (⟨tr2 w.params,113,lf,#[],dw,440,os⟩:SharedT) (⟨(zw9 gs3 b7).wrap doneF deadEnd id id,cE,⟨78,0,78,4⟩,frB⟩:Thread))=(λos=>some (Flow.next,(⟨tr3 w.params,113,lf,#[],dw,530,os⟩:SharedT),cE,⟨123,0,123,11⟩)):=λw=>by kernel_rfl
theorem hd3(w:World)(os:OsState):segRunT Vl pN w 28 (.some (.ref 6)) 1 406 (⟨tr2 w.params,113,lf,#[],dw,440,os⟩:SharedT) (Vx gs3 b7 cE ⟨78,0,78,4⟩ frB)=some (Flow.next,(⟨tr3 w.params,113,lf,#[],dw,530,os⟩:SharedT),cE,⟨123,0,123,11⟩):=by unfold Vx;rw[ze10,ze4,ze11];exact congrFun (RA w) os
def d74(P:Params):=dk P m7 626 (vR 113)
def o85(P:Params):Obj:=⟨(vT "dict"),none,(.dict ⟨[(d9 P),(d0 P),(d1 P),(d2 P),(d3 P),(d4 P),(d5 P),(d6 P),(d7 P),(d8 P),(d10 P),(d11 P),(d12 P),(d13 P),(d14 P),(d15 P),(d16 P),(d29 P),(d30 P),(d31 P),(d32 P),(d33 P),(d34 P),(d35 P),(d36 P),(d37 P),(d38 P),(d39 P),(d40 P),(d41 P),(d42 P),(d43 P),(d44 P),(d45 P),(d46 P),(d47 P),(d48 P),(d49 P),(d50 P),(d51 P),(d52 P),(d53 P),(d54 P),(d55 P),(d56 P),(d57 P),(d58 P),(d59 P),(d60 P),(d61 P),(d62 P),(d63 P),(d64 P),(d65 P),(d66 P),(d67 P),(d68 P),(d69 P),(d70 P),(d71 P),(d72 P),(d73 P),(d74 P)]⟩ 63),⟨[]⟩⟩
def d75(P:Params):=dk P NG 564 (vI (i 51) 522)
def d76(P:Params):=dk P AG 566 (vI (i 23) 466)
def d77(P:Params):=dk P NH 568 (vI (i 52) 524)
def d78(P:Params):=dk P NI 570 (vI (i 17) 454)
def d79(P:Params):=dk P NJ 572 (vI (i 47) 514)
def d80(P:Params):=dk P NK 574 (vI (i 48) 516)
def d81(P:Params):=dk P NL 576 (vI (i 39) 498)
def d82(P:Params):=dk P s81 578 (vI (i 11) 442)
def d83(P:Params):=dk P NM 580 (vI (i 53) 526)
def d84(P:Params):=dk P NN 582 (vI (i 13) 446)
def d85(P:Params):=dk P sF 584 (vI (i 20) 460)
def d86(P:Params):=dk P NO 586 (vI (i 33) 486)
def d87(P:Params):=dk P NP 588 (vI (i 44) 508)
def d88(P:Params):=dk P NQ 590 (vI (i 29) 478)
def d89(P:Params):=dk P NR 592 (vI (i 22) 464)
def d90(P:Params):=dk P NS 594 (vI (i 27) 474)
def d91(P:Params):=dk P sG 596 (vI (i 21) 462)
def d92(P:Params):=dk P NT 598 (vI (i 30) 480)
def d93(P:Params):=dk P NU 599 (vI (i 34) 488)
def d94(P:Params):=dk P NV 600 (vI (i 45) 510)
def d95(P:Params):=dk P NW 601 (vI (i 49) 518)
def d96(P:Params):=dk P NX 602 (vI (i 50) 520)
def d97(P:Params):=dk P NY 603 (vI (i 9) 438)
def d98(P:Params):=dk P NZ 604 (vI (i 10) 440)
def d99(P:Params):=dk P N5 605 (vI (i 32) 484)
def Ke(P:Params):=dk P N6 606 (vI (i 43) 506)
def Kf(P:Params):=dk P s85 607 (vI (i 25) 470)
def Kg(P:Params):=dk P N7 608 (vI (i 18) 456)
def Kh(P:Params):=dk P N8 609 (vI (i 42) 504)
def Ki(P:Params):=dk P s86 610 (vI (i 26) 472)
def Kj(P:Params):=dk P N9 611 (vI (i 31) 482)
def o86(P:Params):Obj:=⟨(vT "dict"),none,(.dict ⟨[(dk P Np 530 (vI (i 54) 528)),(dk P Nq 532 (vI (i 28) 476)),(dk P Nr 534 (vI (i 24) 468)),(dk P Nt 536 (vI (i 40) 500)),(dk P Ao 538 (vI (i 19) 458)),(dk P Nu 540 (vI (i 41) 502)),(dk P Nv 542 (vI (i 7) 434)),(dk P s41 544 (vI (i 8) 436)),(dk P Nw 546 (vI (i 16) 452)),(dk P Nx 548 (vI (i 35) 490)),(dk P Ny 550 (vI (i 46) 512)),(dk P Nz 552 (vI (i 38) 496)),(dk P NA 554 (vI (i 14) 448)),(dk P NB 556 (vI (i 36) 492)),(dk P ND 558 (vI (i 12) 444)),(dk P NE 560 (vI (i 15) 450)),(dk P NF 562 (vI (i 37) 494)),(d75 P),(d76 P),(d77 P),(d78 P),(d79 P),(d80 P),(d81 P),(d82 P),(d83 P),(d84 P),(d85 P),(d86 P),(d87 P),(d88 P),(d89 P),(d90 P),(d91 P),(d92 P),(d93 P),(d94 P),(d95 P),(d96 P),(d97 P),(d98 P),(d99 P),(Ke P),(Kf P),(Kg P),(Kh P),(Ki P),(Kj P)]⟩ 48),⟨[]⟩⟩
def o87(P:Params):Obj:=⟨(vT "dict"),none,(.dict ⟨[(d75 P),(d76 P),(d77 P),(d78 P),(d79 P),(d80 P),(d81 P),(d82 P),(d83 P),(d84 P),(d85 P),(d86 P),(d87 P),(d88 P),(d89 P),(d90 P),(d91 P)]⟩ 17),⟨[]⟩⟩
def o88(P:Params):Obj:=⟨(vT "dict"),none,(.dict ⟨[(d92 P),(d93 P),(d94 P),(d95 P),(d96 P),(d97 P),(d98 P),(d99 P),(Ke P),(Kf P),(Kg P),(Kh P),(Ki P),(Kj P)]⟩ 14),⟨[]⟩⟩
def tr4(P:Params):BT:=(bN (o0 P) (bN (o1 P) (bN (o85 P) (bN o7 (bN o7 (bN o28 (bN o52 bZ bZ) (bN o7 bZ bZ)) (bN o7 (bN o8 bZ bZ) (bN o82 bZ bZ))) (bN o22 (bN o35 (bN o7 bZ bZ) (bN o74 bZ bZ)) (bN o7 (bN o65 bZ bZ) bZ))) (bN (o11 P) (bN o18 (bN o7 (bN o7 bZ bZ) (bN o7 bZ bZ)) (bN o44 (bN o63 bZ bZ) (bN (o88 P) bZ bZ))) (bN o26 (bN o7 (bN o58 bZ bZ) (bN (o78 P) bZ bZ)) (bN o49 (bN o68 bZ bZ) bZ)))) (bN o5 (bN o9 (bN o16 (bN o8 (bN o8 bZ bZ) (bN o71 bZ bZ)) (bN (o43 P) (bN o7 bZ bZ) (bN (o86 P) bZ bZ))) (bN o24 (bN o8 (bN o57 bZ bZ) (bN o76 bZ bZ)) (bN o7 (bN o66 bZ bZ) bZ))) (bN (o13 P) (bN (o20 P) (bN o33 (bN o55 bZ bZ) (bN o73 bZ bZ)) (bN o46 (bN o7 bZ bZ) bZ)) (bN o41 (bN o38 (bN o60 bZ bZ) (bN o80 bZ bZ)) (bN o50 (bN o8 bZ bZ) bZ))))) (bN (o2 P) (bN o4 (bN o8 (bN o15 (bN o7 (bN o7 bZ bZ) (bN o70 bZ bZ)) (bN o42 (bN o61 bZ bZ) (bN o83 bZ bZ))) (bN o23 (bN o7 (bN o8 bZ bZ) (bN o75 bZ bZ)) (bN o48 (bN o7 bZ bZ) bZ))) (bN o12 (bN (o19 P) (bN o32 (bN o54 bZ bZ) (bN o8 bZ bZ)) (bN o45 (bN o64 bZ bZ) bZ)) (bN o7 (bN o37 (bN o59 bZ bZ) (bN o79 bZ bZ)) (bN o7 (bN o7 bZ bZ) bZ)))) (bN o6 (bN o10 (bN o17 (bN o31 (bN o53 bZ bZ) (bN o72 bZ bZ)) (bN o7 (bN o62 bZ bZ) (bN (o87 P) bZ bZ))) (bN o25 (bN o36 (bN o7 bZ bZ) (bN o77 bZ bZ)) (bN o8 (bN o67 bZ bZ) bZ))) (bN o14 (bN o21 (bN o34 (bN o56 bZ bZ) (bN o7 bZ bZ)) (bN o47 (bN o8 bZ bZ) bZ)) (bN o27 (bN o39 (bN o7 bZ bZ) (bN o81 bZ bZ)) (bN o51 (bN o69 bZ bZ) bZ))))))
def gs4:List Stmt:=((T3 pN).drop 54).take 1
theorem tl: ∀w:World,(λos=>zw8 zw1 pN (w.withFollow "special-get-raises" false) 28 (.some (.ref 6)) 1 979 (⟨tr3 w.params,113,lf,#[],dw,530,os⟩:SharedT) (⟨(zw9 gs4 b7).wrap doneF deadEnd id id,cE,⟨123,0,123,11⟩,frB⟩:Thread))=(λos=>some (Flow.next,(⟨tr4 w.params,116,lf,#[],dw,627,os⟩:SharedT),cE,⟨124,0,124,17⟩)):=λw=>by kernel_rfl
theorem v9: ∀w:World,(λos=>zw8 zw1 pN (w.withFollow "special-get-raises" true) 28 (.some (.ref 6)) 1 979 (⟨tr3 w.params,113,lf,#[],dw,530,os⟩:SharedT) (⟨(zw9 gs4 b7).wrap doneF deadEnd id id,cE,⟨123,0,123,11⟩,frB⟩:Thread))=(λos=>some (Flow.next,(⟨tr4 w.params,116,lf,#[],dw,627,os⟩:SharedT),cE,⟨124,0,124,17⟩)):=λw=>by kernel_rfl
theorem RB(w:World):(λos=>zw8 zw1 pN w 28 (.some (.ref 6)) 1 979 (⟨tr3 w.params,113,lf,#[],dw,530,os⟩:SharedT) (⟨(zw9 gs4 b7).wrap doneF deadEnd id id,cE,⟨123,0,123,11⟩,frB⟩:Thread))=(λos=>some (Flow.next,(⟨tr4 w.params,116,lf,#[],dw,627,os⟩:SharedT),cE,⟨124,0,124,17⟩)):=byRow2 "special-get-raises" (P:=λw=>(λos=>zw8 zw1 pN w 28 (.some (.ref 6)) 1 979 (⟨tr3 w.params,113,lf,#[],dw,530,os⟩:SharedT) (⟨(zw9 gs4 b7).wrap doneF deadEnd id id,cE,⟨123,0,123,11⟩,frB⟩:Thread))=(λos=>some (Flow.next,(⟨tr4 w.params,116,lf,#[],dw,627,os⟩:SharedT),cE,⟨124,0,124,17⟩))) tl v9 w
theorem hd4(w:World)(os:OsState):segRunT Vl pN w 28 (.some (.ref 6)) 1 979 (⟨tr3 w.params,113,lf,#[],dw,530,os⟩:SharedT) (Vx gs4 b7 cE ⟨123,0,123,11⟩ frB)=some (Flow.next,(⟨tr4 w.params,116,lf,#[],dw,627,os⟩:SharedT),cE,⟨124,0,124,17⟩):=by unfold Vx;rw[ze10,ze4,ze11];exact congrFun (RB w) os
def Kk(P:Params):=dk P s40 165 (vS dP 627)
def Cx(P:Params):=dk P Jp 666 (vR 120)
def Cy(P:Params):=dk P s66 688 (vR 121)
def Cz(P:Params):=dk P ig 695 (vR 128)
def CA(P:Params):=dk P pJ 697 (vR 129)
def o89(P:Params):Obj:=⟨(vT "dict"),none,(.dict ⟨[(Kk P),(d0 P),(d1 P),(d2 P),(d3 P),(d4 P),(d5 P),(d6 P),(d7 P),(d8 P),(d10 P),(d11 P),(d12 P),(d13 P),(d14 P),(d15 P),(d16 P),(d29 P),(d30 P),(d31 P),(d32 P),(d33 P),(d34 P),(d35 P),(d36 P),(d37 P),(d38 P),(d39 P),(d40 P),(d41 P),(d42 P),(d43 P),(d44 P),(d45 P),(d46 P),(d47 P),(d48 P),(d49 P),(d50 P),(d51 P),(d52 P),(d53 P),(d54 P),(d55 P),(d56 P),(d57 P),(d58 P),(d59 P),(d60 P),(d61 P),(d62 P),(d63 P),(d64 P),(d65 P),(d66 P),(d67 P),(d68 P),(d69 P),(d70 P),(d71 P),(d72 P),(d73 P),(d74 P),(Cx P),(Cy P),(Cz P),(CA P)]⟩ 67),⟨[]⟩⟩
def o90:Obj:=⟨.none,none,(.fields ⟨[(J 2),(J 0),(vR 37),(J 7),(J 0),(vR 45),(J 20),(J 0),(vR 52),(J 128),(J 0),(vR 127)]⟩),⟨[]⟩⟩
noncomputable def o91:Obj:=⟨(vT "list"),none,(.seq ⟨[(vI (i 14) 632),(vI (i 4) 633),(vI (i 0) 634),(vI (i 3) 635),(vI (i 4294967295) 636),(vI (i 6) 637),(vI (i 0) 638),(vI (i 24) 639),(vI (i 9) 640),(vI (i 1) 641),(vI (i 4294967295) 642),(vI (i 13) 643),(vI (i 4) 644),(vI (i 8) 645),(vI (i 14) 646),(vI (i 0) 647),(vI (i 1) 648),(vI (i 16) 649),(vI (i 58) 650),(vI (i 24) 651),(vI (i 9) 652),(vI (i 1) 653),(vI (i 4294967295) 654),(vI (i 13) 655),(vI (i 4) 656),(vI (i 8) 657),(vI (i 14) 658),(vI (i 0) 659),(vI (i 1) 660),(vI (i 6) 661),(vI (i 5) 662),(vI (i 1) 663)]⟩ 0),⟨[]⟩⟩
def o92:Obj:=tu [.none]
def o93:Obj:=tu [(J 14),(J 4),(J 0),(J 3),(J 4294967295),(J 6),(J 0),(J 24),(J 9),(J 1),(J 4294967295),(J 13),(J 4),(J 8),(J 14),(J 0),(J 1),(J 16),(J 58),(J 24),(J 9),(J 1),(J 4294967295),(J 13),(J 4),(J 8),(J 14),(J 0),(J 1),(J 6),(J 5),(J 1)]
def o94:Obj:=⟨(vT "re.Pattern"),none,(.fields ⟨[(vS Rx 630),(vI (i 32) 665),(J 0),.none,.none,(vR 119),(J 0)]⟩),⟨[]⟩⟩
def o95(P:Params):Obj:=⟨(vT "dict"),none,(.dict ⟨[(dk P s62 667 (vS s63 668)),(dk P Oa 669 (vS Ob 670)),(dk P Oc 671 (vS Od 672)),(dk P Oe 673 (vS Of 674)),(dk P Og 675 (vS Oh 676)),(dk P Oi 677 (vS Oj 678)),(dk P Ok 679 (vS Ol 680))]⟩ 7),⟨[]⟩⟩
def o96:Obj:=tu [(vS s37 692)]
def o97:Obj:=fa ig ig ar9 bd9 sc7
def o98:Obj:=co [(vS ig 689),(vS ig 690),(vS aA 691),(J 128),(J 1),(J 0),(J 0),(J 3),(vR 122),(vB true),(J 276),(vR 123),.none,(vR 124),(vR 125),(vR 126),(J 693),(J 128),(vS aA 694)]
def o99:Obj:=fb ig ig ar9 bd9 sc7 .none .none (vS dP 627) (vR 127)
noncomputable def tm:Obj:=⟨(vT "builtin_function_or_method"),none,(.fields ⟨[(vC "re.Pattern.match"),(vR 120)]⟩),⟨[]⟩⟩
def tr5(P:Params):BT:=(bN (o0 P) (bN (o1 P) (bN (o89 P) (bN o7 (bN o7 (bN o28 (bN o52 (bN o98 bZ bZ) bZ) (bN o7 bZ bZ)) (bN o7 (bN o8 bZ bZ) (bN o82 bZ bZ))) (bN o22 (bN o35 (bN o7 bZ bZ) (bN o74 bZ bZ)) (bN o7 (bN o65 bZ bZ) (bN o93 bZ bZ)))) (bN (o11 P) (bN o18 (bN o7 (bN o7 bZ bZ) (bN o7 bZ bZ)) (bN o44 (bN o63 bZ bZ) (bN (o88 P) bZ bZ))) (bN o26 (bN o7 (bN o58 bZ bZ) (bN (o78 P) bZ bZ)) (bN o49 (bN o68 bZ bZ) (bN o8 bZ bZ))))) (bN o5 (bN o9 (bN o16 (bN o8 (bN o8 (bN tm bZ bZ) bZ) (bN o71 bZ bZ)) (bN (o43 P) (bN o7 bZ bZ) (bN (o86 P) bZ bZ))) (bN o24 (bN o8 (bN o57 bZ bZ) (bN o76 bZ bZ)) (bN o7 (bN o66 bZ bZ) (bN (o95 P) bZ bZ)))) (bN (o13 P) (bN (o20 P) (bN o33 (bN o55 bZ bZ) (bN o73 bZ bZ)) (bN o46 (bN o7 bZ bZ) (bN o6 bZ bZ))) (bN o90 (bN o38 (bN o60 bZ bZ) (bN o80 bZ bZ)) (bN o50 (bN o8 bZ bZ) (bN o7 bZ bZ)))))) (bN (o2 P) (bN o4 (bN o8 (bN o15 (bN o7 (bN o7 (bN o99 bZ bZ) bZ) (bN o70 bZ bZ)) (bN o42 (bN o61 bZ bZ) (bN o83 bZ bZ))) (bN o23 (bN o7 (bN o8 bZ bZ) (bN o75 bZ bZ)) (bN o48 (bN o7 bZ bZ) (bN o94 bZ bZ)))) (bN o12 (bN (o19 P) (bN o32 (bN o54 bZ bZ) (bN o8 bZ bZ)) (bN o45 (bN o64 bZ bZ) (bN o91 bZ bZ))) (bN o7 (bN o37 (bN o59 bZ bZ) (bN o79 bZ bZ)) (bN o7 (bN o7 bZ bZ) (bN o96 bZ bZ))))) (bN o6 (bN o10 (bN o17 (bN o31 (bN o53 bZ bZ) (bN o72 bZ bZ)) (bN o7 (bN o62 bZ bZ) (bN (o87 P) bZ bZ))) (bN o25 (bN o36 (bN o7 bZ bZ) (bN o77 bZ bZ)) (bN o8 (bN o67 bZ bZ) (bN o7 bZ bZ)))) (bN o14 (bN o21 (bN o34 (bN o56 bZ bZ) (bN o7 bZ bZ)) (bN o47 (bN o8 bZ bZ) (bN o92 bZ bZ))) (bN o27 (bN o39 (bN o7 bZ bZ) (bN o81 bZ bZ)) (bN o51 (bN o69 bZ bZ) (bN o97 bZ bZ)))))))
def gs5:List Stmt:=((T3 pN).drop 55).take 5
theorem tn: ∀w:World,(λos=>zw8 zw1 pN (w.withFollow "special-get-raises" false) 28 (.some (.ref 6)) 1 262 (⟨tr4 w.params,116,lf,#[],dw,627,os⟩:SharedT) (⟨(zw9 gs5 b7).wrap doneF deadEnd id id,cE,⟨124,0,124,17⟩,frB⟩:Thread))=(λos=>some (Flow.next,(⟨tr5 w.params,130,lf,#[],dw,698,os⟩:SharedT),cE,⟨130,0,130,23⟩)):=λw=>by kernel_rfl
theorem wa: ∀w:World,(λos=>zw8 zw1 pN (w.withFollow "special-get-raises" true) 28 (.some (.ref 6)) 1 262 (⟨tr4 w.params,116,lf,#[],dw,627,os⟩:SharedT) (⟨(zw9 gs5 b7).wrap doneF deadEnd id id,cE,⟨124,0,124,17⟩,frB⟩:Thread))=(λos=>some (Flow.next,(⟨tr5 w.params,130,lf,#[],dw,698,os⟩:SharedT),cE,⟨130,0,130,23⟩)):=λw=>by kernel_rfl
theorem RC(w:World):(λos=>zw8 zw1 pN w 28 (.some (.ref 6)) 1 262 (⟨tr4 w.params,116,lf,#[],dw,627,os⟩:SharedT) (⟨(zw9 gs5 b7).wrap doneF deadEnd id id,cE,⟨124,0,124,17⟩,frB⟩:Thread))=(λos=>some (Flow.next,(⟨tr5 w.params,130,lf,#[],dw,698,os⟩:SharedT),cE,⟨130,0,130,23⟩)):=byRow2 "special-get-raises" (P:=λw=>(λos=>zw8 zw1 pN w 28 (.some (.ref 6)) 1 262 (⟨tr4 w.params,116,lf,#[],dw,627,os⟩:SharedT) (⟨(zw9 gs5 b7).wrap doneF deadEnd id id,cE,⟨124,0,124,17⟩,frB⟩:Thread))=(λos=>some (Flow.next,(⟨tr5 w.params,130,lf,#[],dw,698,os⟩:SharedT),cE,⟨130,0,130,23⟩))) tn wa w
theorem hd5(w:World)(os:OsState):segRunT Vl pN w 28 (.some (.ref 6)) 1 262 (⟨tr4 w.params,116,lf,#[],dw,627,os⟩:SharedT) (Vx gs5 b7 cE ⟨124,0,124,17⟩ frB)=some (Flow.next,(⟨tr5 w.params,130,lf,#[],dw,698,os⟩:SharedT),cE,⟨130,0,130,23⟩):=by unfold Vx;rw[ze10,ze4,ze11];exact congrFun (RC w) os
def Kl(P:Params):=dk P ij 862 (vR 227)
def RD(P:Params):Obj:=⟨(vT "dict"),none,(.dict ⟨[(Kk P),(d0 P),(d1 P),(d2 P),(d3 P),(d4 P),(d5 P),(d6 P),(d7 P),(d8 P),(d10 P),(d11 P),(d12 P),(d13 P),(d14 P),(d15 P),(d16 P),(d29 P),(d30 P),(d31 P),(d32 P),(d33 P),(d34 P),(d35 P),(d36 P),(d37 P),(d38 P),(d39 P),(d40 P),(d41 P),(d42 P),(d43 P),(d44 P),(d45 P),(d46 P),(d47 P),(d48 P),(d49 P),(d50 P),(d51 P),(d52 P),(d53 P),(d54 P),(d55 P),(d56 P),(d57 P),(d58 P),(d59 P),(d60 P),(d61 P),(d62 P),(d63 P),(d64 P),(d65 P),(d66 P),(d67 P),(d68 P),(d69 P),(d70 P),(d71 P),(d72 P),(d73 P),(d74 P),(Cx P),(Cy P),(Cz P),(CA P),(Kl P)]⟩ 68),⟨[]⟩⟩
def RE:Obj:=⟨.none,none,(.fields ⟨[(J 2),(J 0),(vR 37),(J 7),(J 0),(vR 45),(J 20),(J 0),(vR 52),(J 128),(J 0),(vR 127),(J 131),(J 0),(vR 135)]⟩),⟨[]⟩⟩
def Km(P:Params):=dk P vY 705 (vS dP 627)
def Kn(P:Params):=dk P vZ 709 (vI (i 131) 708)
def Ko(P:Params):=dk P jZ 731 (vR 144)
def Kq(P:Params):=dk P s84 741 (vR 152)
def Kr(P:Params):=dk P pO 753 (vR 159)
def Ks(P:Params):=dk P pR 766 (vR 167)
def Kt(P:Params):=dk P s99 774 (vR 174)
def Ku(P:Params):=dk P pL 787 (vR 183)
def Kv(P:Params):=dk P vU 796 (vR 190)
def Kw(P:Params):=dk P pX 806 (vR 197)
def Kx(P:Params):=dk P pK 812 (vR 203)
def Ky(P:Params):=dk P pY 820 (vR 210)
def Kz(P:Params):=dk P vV 828 (vR 217)
def KA(P:Params):=dk P vW 837 (vR 224)
def KB(P:Params):=dk P v5 855 (vR 225)
def CB(P:Params):Obj:=⟨(vT "dict"),none,(.dict ⟨[(Km P),(dk P Kc 707 (vS ij 706)),(Kn P),(Ko P),(Kq P),(Kr P),(Ks P),(Kt P),(Ku P),(Kv P),(Kw P),(Kx P),(Ky P),(Kz P),(KA P),(KB P)]⟩ 16),⟨[]⟩⟩
def CC:Obj:=⟨.none,none,(.fields ⟨[(J 133),(J 4),(vR 143),(J 161),(J 4),(vR 151),(J 166),(J 4),(vR 158),(J 173),(J 4),(vR 166),(J 200),(J 4),(vR 173),(J 204),(J 4),(vR 182),(J 218),(J 4),(vR 189),(J 221),(J 4),(vR 196),(J 234),(J 4),(vR 202),(J 279),(J 4),(vR 209),(J 291),(J 4),(vR 216),(J 294),(J 4),(vR 223)]⟩),⟨[]⟩⟩
def CD:Obj:=co [(vS ij 700),(vS ij 701),(vS aA 702),(J 131),(J 0),(J 0),(J 0),(J 0),(vR 133),(vB false),(J 276),(vR 134),.none,.none,.none,.none,(J 703),(J 131),(vS aA 704)]
def CE:Obj:=⟨(vT "frame"),none,.plain,⟨[(.some (vR 135)),(.some (vR 3)),(.some (vR 132)),none,(.some (vS dP 627)),none,(.some (vR 0))]⟩⟩
def wb(P:Params):Obj:=⟨(vT "dict"),none,(.dict ⟨[(dk P s46 710 (vB false)),(dk P s48 711 (vB false)),(dk P s55 712 (vB false)),(dk P s56 713 .none),(dk P s58 714 .none),(dk P s50 715 .none),(dk P s53 716 .none)]⟩ 7),⟨[]⟩⟩
def wc:Obj:=tu [(vS s11 720),(vS s43 721),(vS s46 722),(vS s48 723),(vS s55 724),(vS s56 725),(vS s58 726),(vS s50 727),(vS s53 728)]
def CF:Obj:=fa jZ Ci KC BQ sc8
def wf:Obj:=co [(vS jZ 717),(vS Ci 718),(vS aA 719),(J 133),(J 2),(J 0),(J 7),(J 3),(vR 138),(vB true),(J 276),(vR 139),.none,(vR 140),(vR 141),(vR 142),(J 729),(J 133),(vS aA 730)]
def wg:Obj:=fb jZ Ci KC BQ sc8 .none (vR 137) (vS dP 627) (vR 143)
def wh:Obj:=tu [(vT "reversed")]
def wj:Obj:=tu [(vS s11 735),(vS s76 736),(vS s75 737),(vS s74 738)]
def CG:Obj:=fa s84 Cj KD Jz sc9
def wm:Obj:=co [(vS s84 732),(vS Cj 733),(vS aA 734),(J 161),(J 3),(J 0),(J 0),(J 35),(vR 146),(vB true),(J 276),(vR 147),.none,(vR 148),(vR 149),(vR 150),(J 739),(J 161),(vS aA 740)]
def wn:Obj:=fb s84 Cj KD Jz sc9 (vR 145) .none (vS dP 627) (vR 151)
def wp:Obj:=tu [(vS s11 745),(vS s79 746),(vS s77 747),(vS s78 748),(vS s82 749),(vS s83 750)]
def CH:Obj:=fa pO Ck KE JA KG
def wq:Obj:=co [(vS pO 742),(vS Ck 743),(vS aA 744),(J 166),(J 2),(J 0),(J 0),(J 3),(vR 153),(vB true),(J 276),(vR 154),.none,(vR 155),(vR 156),(vR 157),(J 751),(J 166),(vS aA 752)]
def wt:Obj:=fb pO Ck KE JA KG .none .none (vS dP 627) (vR 158)
def wu:Obj:=tu [(vS s11 757),(vS s92 758),(vS s82 759),(vS s91 760),(vS s95 761),(vS s96 762),(vS s77 763)]
def CI:Obj:=fa pR Cm KH BR KI
def ww:Obj:=co [(vS pR 754),(vS Cm 755),(vS aA 756),(J 173),(J 3),(J 0),(J 0),(J 3),(vR 161),(vB true),(J 276),(vR 162),.none,(vR 163),(vR 164),(vR 165),(J 764),(J 173),(vS aA 765)]
def wx:Obj:=fb pR Cm KH BR KI (vR 160) .none (vS dP 627) (vR 166)
def wz:Obj:=tu [(vS s11 770),(vS s99 771)]
def CJ:Obj:=fa s99 Cn KJ BS KK
def wA:Obj:=co [(vS s99 767),(vS Cn 768),(vS aA 769),(J 200),(J 2),(J 0),(J 0),(J 3),(vR 168),(vB true),(J 276),(vR 169),.none,(vR 170),(vR 171),(vR 172),(J 772),(J 200),(vS aA 773)]
def wB:Obj:=fb s99 Cn KJ BS KK .none .none (vS dP 627) (vR 173)
def wC:Obj:=⟨(vT "builtin_function_or_method"),none,(.fields ⟨[(vC "str.join"),(vS s94 775)]⟩),⟨[]⟩⟩
def wD:Obj:=tu [(vR 175)]
def wE:Obj:=tu [(vS s11 780),(vS vh 781),(vS s99 782),(vS vi 783),(vS fM 784)]
def CK:Obj:=fa pL Co KL BU KM
def wF:Obj:=co [(vS pL 777),(vS Co 778),(vS aA 779),(J 204),(J 2),(J 0),(J 0),(J 3),(vR 177),(vB true),(J 276),(vR 178),.none,(vR 179),(vR 180),(vR 181),(J 785),(J 204),(vS aA 786)]
def wG:Obj:=fb pL Co KL BU KM (vR 176) .none (vS dP 627) (vR 182)
def wH:Obj:=tu [(vS s11 791),(vS s77 792),(vS s82 793)]
def CL:Obj:=fa vU Cp KO JB KP
def wI:Obj:=co [(vS vU 788),(vS Cp 789),(vS aA 790),(J 218),(J 3),(J 0),(J 0),(J 3),(vR 184),(vB true),(J 276),(vR 185),.none,(vR 186),(vR 187),(vR 188),(J 794),(J 218),(vS aA 795)]
def wJ:Obj:=fb vU Cp KO JB KP .none .none (vS dP 627) (vR 189)
def wK:Obj:=tu [(vS s11 800),(vS s91 801),(vS dM 802),(vS ie 803)]
def CM:Obj:=fa pX Cq KQ BV KR
def wL:Obj:=co [(vS pX 797),(vS Cq 798),(vS aA 799),(J 221),(J 3),(J 0),(J 0),(J 3),(vR 191),(vB true),(J 276),(vR 192),.none,(vR 193),(vR 194),(vR 195),(J 804),(J 221),(vS aA 805)]
def wM:Obj:=fb pX Cq KQ BV KR .none .none (vS dP 627) (vR 196)
def CN:Obj:=fa pK Cr KS BW KT
def wN:Obj:=co [(vS pK 807),(vS Cr 808),(vS aA 809),(J 234),(J 5),(J 0),(J 0),(J 3),(vR 199),(vB true),(J 276),(vR 200),.none,.none,.none,(vR 201),(J 810),(J 234),(vS aA 811)]
def wO:Obj:=fb pK Cr KS BW KT (vR 198) .none (vS dP 627) (vR 202)
def wP:Obj:=tu [(vS s11 816),(vS s91 817)]
def CO:Obj:=fa pY Cs KU BX KV
def wQ:Obj:=co [(vS pY 813),(vS Cs 814),(vS aA 815),(J 279),(J 2),(J 0),(J 0),(J 3),(vR 204),(vB true),(J 276),(vR 205),.none,(vR 206),(vR 207),(vR 208),(J 818),(J 279),(vS aA 819)]
def wR:Obj:=fb pY Cs KU BX KV .none .none (vS dP 627) (vR 209)
def wS:Obj:=tu [(vS s11 824),(vS s37 825)]
def CP:Obj:=fa vV Ct KW JC KX
def wT:Obj:=co [(vS vV 821),(vS Ct 822),(vS aA 823),(J 291),(J 2),(J 0),(J 0),(J 3),(vR 211),(vB true),(J 276),(vR 212),.none,(vR 213),(vR 214),(vR 215),(J 826),(J 291),(vS aA 827)]
def wU:Obj:=fb vV Ct KW JC KX .none .none (vS dP 627) (vR 216)
def wV:Obj:=tu [(vS s11 832),(vS Cu 833),(vS s99 834)]
def CQ:Obj:=fa vW Cv KY JD KZ
def wW:Obj:=co [(vS vW 829),(vS Cv 830),(vS aA 831),(J 294),(J 3),(J 0),(J 0),(J 3),(vR 218),(vB true),(J 276),(vR 219),.none,(vR 220),(vR 221),(vR 222),(J 835),(J 294),(vS aA 836)]
def wX:Obj:=fb vW Cv KY JD KZ .none .none (vS dP 627) (vR 223)
def wY:Obj:=tu [(vS s44 838),(vS s61 839),(vS s49 840),(vS s52 841),(vS s59 842),(vS s73 843),(vS s64 844),(vS s70 845),(vS s68 846),(vS s69 847),(vS s57 848),(vS s54 849),(vS s72 850),(vS s71 851),(vS s47 852),(vS s45 853),(vS s42 854)]
def wZ(P:Params):Obj:=⟨(vT "dict"),none,(.dict ⟨[(Km P),(Kn P),(Ko P),(Kq P),(Kr P),(Ks P),(Kt P),(Ku P),(Kv P),(Kw P),(Kx P),(Ky P),(Kz P),(KA P),(KB P),(dk P lT 857 (vR 228)),(dk P lU 859 (vR 229)),(dk P ng 860 .none)]⟩ 4),⟨[]⟩⟩
def w5:Obj:=⟨(vT "type"),none,(.cls ⟨ij,[(.type "object")],[(.ref 227),(.type "object")],226,ij,true,[],[],false,none,false⟩),⟨[none,none,(.some (vS ij 698)),(.some (vS ij 706)),(.some (vC "object.__new__")),(.some (vB true))]⟩⟩
def w6:Obj:=⟨(vT "getset_descriptor"),none,(.fields ⟨[(vS lT 856),(vR 227),(vC "function.__dict__"),(vC "function.__dict__#set")]⟩),⟨[]⟩⟩
def w7:Obj:=⟨(vT "getset_descriptor"),none,(.fields ⟨[(vS lU 858),(vR 227),(vC "ExceptionGroup.__weakref__"),.none]⟩),⟨[]⟩⟩
noncomputable def CR:Obj:=⟨(vT "super"),none,(.fields ⟨[(vR 227),(vR 227),(vR 227)]⟩),⟨[]⟩⟩
noncomputable def CS:Obj:=⟨(vT "builtin_function_or_method"),none,(.fields ⟨[(vC "object.__init_subclass__"),(vR 227)]⟩),⟨[]⟩⟩
def tr6(P:Params):BT:=(bN (o0 P) (bN (o1 P) (bN (RD P) (bN o7 (bN o7 (bN o28 (bN o52 (bN o98 bZ bZ) (bN o7 bZ bZ)) (bN o7 (bN wt bZ bZ) (bN wW bZ bZ))) (bN o7 (bN o8 (bN wf bZ bZ) (bN o7 bZ bZ)) (bN o82 (bN wC bZ bZ) bZ))) (bN o22 (bN o35 (bN o7 (bN CD bZ bZ) (bN o7 bZ bZ)) (bN o74 (bN wx bZ bZ) (bN CS bZ bZ))) (bN o7 (bN o65 (bN wm bZ bZ) (bN CP bZ bZ)) (bN o93 (bN wG bZ bZ) bZ)))) (bN (o11 P) (bN o18 (bN o7 (bN o7 (bN o42 bZ bZ) (bN CM bZ bZ)) (bN o7 (bN wu bZ bZ) (bN w5 bZ bZ))) (bN o44 (bN o63 (bN o8 bZ bZ) (bN o7 bZ bZ)) (bN (o88 P) (bN wE bZ bZ) bZ))) (bN o26 (bN o7 (bN o58 (bN o8 bZ bZ) (bN wO bZ bZ)) (bN (o78 P) (bN o7 bZ bZ) bZ)) (bN o49 (bN o68 (bN wp bZ bZ) (bN o8 bZ bZ)) (bN o8 (bN o7 bZ bZ) bZ))))) (bN o5 (bN o9 (bN o16 (bN o8 (bN o8 (bN tm bZ bZ) (bN wK bZ bZ)) (bN o71 (bN o7 bZ bZ) (bN wY bZ bZ))) (bN (o43 P) (bN o7 (bN wh bZ bZ) (bN wQ bZ bZ)) (bN (o86 P) (bN o7 bZ bZ) bZ))) (bN o24 (bN o8 (bN o57 (bN (wb P) bZ bZ) (bN CN bZ bZ)) (bN o76 (bN o8 bZ bZ) bZ)) (bN o7 (bN o66 (bN o7 bZ bZ) (bN wU bZ bZ)) (bN (o95 P) (bN o8 bZ bZ) bZ)))) (bN (o13 P) (bN (o20 P) (bN o33 (bN o55 (bN o7 bZ bZ) (bN wM bZ bZ)) (bN o73 (bN CI bZ bZ) (bN w7 bZ bZ))) (bN o46 (bN o7 (bN o7 bZ bZ) (bN wS bZ bZ)) (bN o6 (bN CK bZ bZ) bZ))) (bN RE (bN o38 (bN o60 (bN o7 bZ bZ) (bN o8 bZ bZ)) (bN o80 (bN wA bZ bZ) bZ)) (bN o50 (bN o8 (bN CH bZ bZ) (bN o7 bZ bZ)) (bN o7 (bN wI bZ bZ) bZ)))))) (bN (o2 P) (bN o4 (bN o8 (bN o15 (bN o7 (bN o7 (bN o99 bZ bZ) (bN o8 bZ bZ)) (bN o70 (bN o92 bZ bZ) (bN wX bZ bZ))) (bN o42 (bN o61 (bN wg bZ bZ) (bN CO bZ bZ)) (bN o83 (bN wD bZ bZ) bZ))) (bN o23 (bN o7 (bN o8 (bN CE bZ bZ) (bN o8 bZ bZ)) (bN o75 (bN o7 bZ bZ) bZ)) (bN o48 (bN o7 (bN wn bZ bZ) (bN wT bZ bZ)) (bN o94 (bN o7 bZ bZ) bZ)))) (bN o12 (bN (o19 P) (bN o32 (bN o54 (bN (CB P) bZ bZ) (bN wL bZ bZ)) (bN o8 (bN o7 bZ bZ) (bN w6 bZ bZ))) (bN o45 (bN o64 (bN wj bZ bZ) (bN o8 bZ bZ)) (bN o91 (bN o7 bZ bZ) bZ))) (bN o7 (bN o37 (bN o59 (bN wc bZ bZ) (bN o7 bZ bZ)) (bN o79 (bN CJ bZ bZ) bZ)) (bN o7 (bN o7 (bN o7 bZ bZ) (bN wV bZ bZ)) (bN o96 (bN CL bZ bZ) bZ))))) (bN o6 (bN o10 (bN o17 (bN o31 (bN o53 (bN o7 bZ bZ) (bN o7 bZ bZ)) (bN o72 (bN o8 bZ bZ) (bN (wZ P) bZ bZ))) (bN o7 (bN o62 (bN o7 bZ bZ) (bN wR bZ bZ)) (bN (o87 P) (bN o8 bZ bZ) bZ))) (bN o25 (bN o36 (bN o7 (bN o7 bZ bZ) (bN wN bZ bZ)) (bN o77 (bN wz bZ bZ) bZ)) (bN o8 (bN o67 (bN o8 bZ bZ) (bN o7 bZ bZ)) (bN o7 (bN wH bZ bZ) bZ)))) (bN o14 (bN o21 (bN o34 (bN o56 (bN CC bZ bZ) (bN o92 bZ bZ)) (bN o7 (bN ww bZ bZ) (bN CR bZ bZ))) (bN o47 (bN o8 (bN CG bZ bZ) (bN o7 bZ bZ)) (bN o92 (bN wF bZ bZ) bZ))) (bN o27 (bN o39 (bN o7 (bN CF bZ bZ) (bN wP bZ bZ)) (bN o81 (bN wB bZ bZ) bZ)) (bN o51 (bN o69 (bN wq bZ bZ) (bN CQ bZ bZ)) (bN o97 (bN wJ bZ bZ) bZ)))))))
def gs6:List Stmt:=((T3 pN).drop 60).take 1
theorem RF: ∀w:World,(λos=>zw8 zw1 pN w 28 (.some (.ref 6)) 1 661 (⟨tr5 w.params,130,lf,#[],dw,698,os⟩:SharedT) (⟨(zw9 gs6 b7).wrap doneF deadEnd id id,cE,⟨130,0,130,23⟩,frB⟩:Thread))=(λos=>some (Flow.next,(⟨tr6 w.params,232,lf,#[],dw,863,os⟩:SharedT),cE,⟨131,0,295,16⟩)):=λw=>by kernel_rfl
theorem hd6(w:World)(os:OsState):segRunT Vl pN w 28 (.some (.ref 6)) 1 661 (⟨tr5 w.params,130,lf,#[],dw,698,os⟩:SharedT) (Vx gs6 b7 cE ⟨130,0,130,23⟩ frB)=some (Flow.next,(⟨tr6 w.params,232,lf,#[],dw,863,os⟩:SharedT),cE,⟨131,0,295,16⟩):=by unfold Vx;rw[ze10,ze4,ze11];exact congrFun (RF w) os
def CT(P:Params):Obj:=⟨(vT "dict"),none,(.dict ⟨[(dk P s40 165 (vS jY 877)),(d0 P),(d1 P),(d2 P),(d3 P),(d4 P),(d5 P),(d6 P),(d7 P),(d8 P),(d10 P),(d11 P),(d12 P),(d13 P),(d14 P),(d15 P),(d16 P),(d29 P),(d30 P),(d31 P),(d32 P),(d33 P),(d34 P),(d35 P),(d36 P),(d37 P),(d38 P),(d39 P),(d40 P),(d41 P),(d42 P),(d43 P),(d44 P),(d45 P),(d46 P),(d47 P),(d48 P),(d49 P),(d50 P),(d51 P),(d52 P),(d53 P),(d54 P),(d55 P),(d56 P),(d57 P),(d58 P),(d59 P),(d60 P),(d61 P),(d62 P),(d63 P),(d64 P),(d65 P),(d66 P),(d67 P),(d68 P),(d69 P),(d70 P),(d71 P),(d72 P),(d73 P),(d74 P),(Cx P),(Cy P),(Cz P),(CA P),(Kl P),(dk P f7 869 (vR 238)),(dk P iL 876 (vR 245)),(dk P gf 889 (vR 252)),(dk P iQ 902 (vR 259)),(dk P iN 914 (vR 266)),(dk P iO 927 (vR 273)),(dk P gh 933 (vR 278)),(dk P io 944 (vR 285)),(dk P iS 950 (vR 290)),(dk P nh 956 (vR 295))]⟩ 78),⟨[]⟩⟩
def K0:Obj:=⟨.none,none,(.fields ⟨[(J 2),(J 0),(vR 37),(J 7),(J 0),(vR 45),(J 20),(J 0),(vR 52),(J 128),(J 0),(vR 127),(J 131),(J 0),(vR 135),(J 296),(J 0),(vR 237),(J 309),(J 0),(vR 244),(J 327),(J 0),(vR 251),(J 334),(J 0),(vR 258),(J 348),(J 0),(vR 265),(J 369),(J 0),(vR 272),(J 386),(J 0),(vR 277),(J 394),(J 0),(vR 284),(J 402),(J 0),(vR 289),(J 412),(J 0),(vR 294)]⟩),⟨[]⟩⟩
def CU:Obj:=tu [(vS s37 866)]
def K3:Obj:=fa f7 f7 K2 BY w8
def CV:Obj:=co [(vS f7 863),(vS f7 864),(vS aA 865),(J 296),(J 1),(J 0),(J 0),(J 3),(vR 232),(vB true),(J 276),(vR 233),.none,(vR 234),(vR 235),(vR 236),(J 867),(J 296),(vS aA 868)]
def CW:Obj:=fb f7 f7 K2 BY w8 .none .none (vS dP 627) (vR 237)
def CX:Obj:=tu [(vS s37 873)]
def K5:Obj:=fa iL iL K4 JE w8
def CY:Obj:=co [(vS iL 870),(vS iL 871),(vS aA 872),(J 309),(J 1),(J 0),(J 0),(J 3),(vR 239),(vB true),(J 276),(vR 240),.none,(vR 241),(vR 242),(vR 243),(J 874),(J 309),(vS aA 875)]
def CZ:Obj:=fb iL iL K4 JE w8 .none .none (vS dP 627) (vR 244)
def C2:Obj:=tu [(vS eP 882),(vS dD 883),(vS vy 884),(vS pT 885),(vS aY 886)]
def K8:Obj:=fa gf gf K6 BZ K7
def C3:Obj:=co [(vS gf 879),(vS gf 880),(vS aA 881),(J 327),(J 2),(J 0),(J 0),(J 3),(vR 246),(vB true),(J 276),(vR 247),.none,(vR 248),(vR 249),(vR 250),(J 887),(J 327),(vS aA 888)]
def C4:Obj:=fb gf gf K6 BZ K7 .none .none (vS jY 877) (vR 251)
def C5:Obj:=tu [(vS eP 893),(vS ii 894),(vS aY 895),(vS f8 896),(vS sI 897),(vS pV 898),(vS c7 899)]
def Lb:Obj:=fa iQ iQ K9 B2 La
def C6:Obj:=co [(vS iQ 890),(vS iQ 891),(vS aA 892),(J 334),(J 1),(J 0),(J 0),(J 3),(vR 253),(vB true),(J 276),(vR 254),.none,(vR 255),(vR 256),(vR 257),(J 900),(J 334),(vS aA 901)]
def C7:Obj:=fb iQ iQ K9 B2 La .none .none (vS jY 877) (vR 258)
def C8:Obj:=tu [(vS eD 906),(vS pW 907),(vS lQ 908),(vS aY 909),(vS sK 910),(vS lR 911)]
def Le:Obj:=fa iN iN Lc B3 Ld
def C9:Obj:=co [(vS iN 903),(vS iN 904),(vS aA 905),(J 348),(J 1),(J 0),(J 0),(J 3),(vR 260),(vB true),(J 276),(vR 261),.none,(vR 262),(vR 263),(vR 264),(J 912),(J 348),(vS aA 913)]
def Da:Obj:=fb iN iN Lc B3 Ld .none .none (vS jY 877) (vR 265)
def Db:Obj:=tu [(vS f9 918),(vS eD 919),(vS dj 920),(vS c7 921),(vS sL 922),(vS m8 923),(vS f8 924)]
def Li:Obj:=fa iO iO Lf B4 Lh
def Dc:Obj:=co [(vS iO 915),(vS iO 916),(vS aA 917),(J 369),(J 1),(J 0),(J 0),(J 3),(vR 267),(vB true),(J 276),(vR 268),.none,(vR 269),(vR 270),(vR 271),(J 925),(J 369),(vS aA 926)]
def Dd:Obj:=fb iO iO Lf B4 Lh .none .none (vS jY 877) (vR 272)
def Ll:Obj:=fa gh gh Lj B5 Lk
def De:Obj:=co [(vS gh 928),(vS gh 929),(vS aA 930),(J 386),(J 3),(J 0),(J 0),(J 3),(vR 274),(vB true),(J 276),(vR 275),.none,.none,.none,(vR 276),(J 931),(J 386),(vS aA 932)]
def Df:Obj:=fb gh gh Lj B5 Lk .none .none (vS jY 877) (vR 277)
def Dg:Obj:=tu [(vS im 937),(vS sM 938),(vS sN 939),(vS c7 940),(vS vK 941)]
def Lp:Obj:=fa io io Lm B6 Ln
def Dh:Obj:=co [(vS io 934),(vS io 935),(vS aA 936),(J 394),(J 1),(J 0),(J 0),(J 3),(vR 279),(vB true),(J 276),(vR 280),.none,(vR 281),(vR 282),(vR 283),(J 942),(J 394),(vS aA 943)]
def Di:Obj:=fb io io Lm B6 Ln .none .none (vS jY 877) (vR 284)
def Ls:Obj:=fa iS iS Lq B7 Lr
def Dj:Obj:=co [(vS iS 945),(vS iS 946),(vS aA 947),(J 402),(J 0),(J 0),(J 0),(J 3),(vR 286),(vB true),(J 276),(vR 287),.none,.none,.none,(vR 288),(J 948),(J 402),(vS aA 949)]
def Dk:Obj:=fb iS iS Lq B7 Lr .none .none (vS jY 877) (vR 289)
def Lw:Obj:=fa nh nh Lu dF Lv
def Dl:Obj:=co [(vS nh 951),(vS nh 952),(vS aA 953),(J 412),(J 1),(J 0),(J 0),(J 3),(vR 291),(vB true),(J 276),(vR 292),.none,.none,.none,(vR 293),(J 954),(J 412),(vS aA 955)]
def Dm:Obj:=fb nh nh Lu dF Lv .none .none (vS jY 877) (vR 294)
def tr7(P:Params):BT:=(bN (o0 P) (bN (o1 P) (bN (CT P) (bN o7 (bN o7 (bN o28 (bN o52 (bN o98 (bN C5 bZ bZ) bZ) (bN o7 bZ bZ)) (bN o7 (bN wt (bN o8 bZ bZ) bZ) (bN wW bZ bZ))) (bN o7 (bN o8 (bN wf (bN Li bZ bZ) bZ) (bN o7 bZ bZ)) (bN o82 (bN wC bZ bZ) (bN o7 bZ bZ)))) (bN o22 (bN o35 (bN o7 (bN CD (bN o7 bZ bZ) bZ) (bN o7 bZ bZ)) (bN o74 (bN wx (bN Dm bZ bZ) bZ) (bN CS bZ bZ))) (bN o7 (bN o65 (bN wm (bN o7 bZ bZ) bZ) (bN CP bZ bZ)) (bN o93 (bN wG bZ bZ) (bN o8 bZ bZ))))) (bN (o11 P) (bN o18 (bN o7 (bN o7 (bN o42 (bN C7 bZ bZ) bZ) (bN CM bZ bZ)) (bN o7 (bN wu (bN o7 bZ bZ) bZ) (bN w5 bZ bZ))) (bN o44 (bN o63 (bN o8 (bN o8 bZ bZ) bZ) (bN o7 bZ bZ)) (bN (o88 P) (bN wE bZ bZ) (bN K5 bZ bZ)))) (bN o26 (bN o7 (bN o58 (bN o8 (bN o7 bZ bZ) bZ) (bN wO bZ bZ)) (bN (o78 P) (bN o7 bZ bZ) (bN o7 bZ bZ))) (bN o49 (bN o68 (bN wp (bN Lp bZ bZ) bZ) (bN o8 bZ bZ)) (bN o8 (bN o7 bZ bZ) (bN C3 bZ bZ)))))) (bN o5 (bN o9 (bN o16 (bN o8 (bN o8 (bN tm (bN Lb bZ bZ) bZ) (bN wK bZ bZ)) (bN o71 (bN o7 (bN Dj bZ bZ) bZ) (bN wY bZ bZ))) (bN (o43 P) (bN o7 (bN wh (bN Dd bZ bZ) bZ) (bN wQ bZ bZ)) (bN (o86 P) (bN o7 bZ bZ) (bN CX bZ bZ)))) (bN o24 (bN o8 (bN o57 (bN (wb P) (bN C9 bZ bZ) bZ) (bN CN bZ bZ)) (bN o76 (bN o8 bZ bZ) (bN o8 bZ bZ))) (bN o7 (bN o66 (bN o7 (bN Dg bZ bZ) bZ) (bN wU bZ bZ)) (bN (o95 P) (bN o8 bZ bZ) (bN o7 bZ bZ))))) (bN (o13 P) (bN (o20 P) (bN o33 (bN o55 (bN o7 (bN o8 bZ bZ) bZ) (bN wM bZ bZ)) (bN o73 (bN CI (bN Lw bZ bZ) bZ) (bN w7 bZ bZ))) (bN o46 (bN o7 (bN o7 (bN De bZ bZ) bZ) (bN wS bZ bZ)) (bN o6 (bN CK bZ bZ) (bN CZ bZ bZ)))) (bN K0 (bN o38 (bN o60 (bN o7 (bN Db bZ bZ) bZ) (bN o8 bZ bZ)) (bN o80 (bN wA bZ bZ) (bN CV bZ bZ))) (bN o50 (bN o8 (bN CH (bN Di bZ bZ) bZ) (bN o7 bZ bZ)) (bN o7 (bN wI bZ bZ) (bN o7 bZ bZ))))))) (bN (o2 P) (bN o4 (bN o8 (bN o15 (bN o7 (bN o7 (bN o99 (bN o7 bZ bZ) bZ) (bN o8 bZ bZ)) (bN o70 (bN o92 (bN Ls bZ bZ) bZ) (bN wX bZ bZ))) (bN o42 (bN o61 (bN wg (bN Dc bZ bZ) bZ) (bN CO bZ bZ)) (bN o83 (bN wD bZ bZ) (bN o8 bZ bZ)))) (bN o23 (bN o7 (bN o8 (bN CE (bN Le bZ bZ) bZ) (bN o8 bZ bZ)) (bN o75 (bN o7 bZ bZ) (bN o7 bZ bZ))) (bN o48 (bN o7 (bN wn (bN o8 bZ bZ) bZ) (bN wT bZ bZ)) (bN o94 (bN o7 bZ bZ) (bN C2 bZ bZ))))) (bN o12 (bN (o19 P) (bN o32 (bN o54 (bN (CB P) (bN o7 bZ bZ) bZ) (bN wL bZ bZ)) (bN o8 (bN o7 (bN o8 bZ bZ) bZ) (bN w6 bZ bZ))) (bN o45 (bN o64 (bN wj (bN Ll bZ bZ) bZ) (bN o8 bZ bZ)) (bN o91 (bN o7 bZ bZ) (bN CY bZ bZ)))) (bN o7 (bN o37 (bN o59 (bN wc (bN o8 bZ bZ) bZ) (bN o7 bZ bZ)) (bN o79 (bN CJ bZ bZ) (bN K3 bZ bZ))) (bN o7 (bN o7 (bN o7 (bN Dh bZ bZ) bZ) (bN wV bZ bZ)) (bN o96 (bN CL bZ bZ) (bN C4 bZ bZ)))))) (bN o6 (bN o10 (bN o17 (bN o31 (bN o53 (bN o7 (bN C6 bZ bZ) bZ) (bN o7 bZ bZ)) (bN o72 (bN o8 (bN Dk bZ bZ) bZ) (bN (wZ P) bZ bZ))) (bN o7 (bN o62 (bN o7 (bN o7 bZ bZ) bZ) (bN wR bZ bZ)) (bN (o87 P) (bN o8 bZ bZ) (bN o7 bZ bZ)))) (bN o25 (bN o36 (bN o7 (bN o7 (bN Da bZ bZ) bZ) (bN wN bZ bZ)) (bN o77 (bN wz bZ bZ) (bN CU bZ bZ))) (bN o8 (bN o67 (bN o8 (bN o7 bZ bZ) bZ) (bN o7 bZ bZ)) (bN o7 (bN wH bZ bZ) (bN K8 bZ bZ))))) (bN o14 (bN o21 (bN o34 (bN o56 (bN CC (bN C8 bZ bZ) bZ) (bN o92 bZ bZ)) (bN o7 (bN ww (bN Dl bZ bZ) bZ) (bN CR bZ bZ))) (bN o47 (bN o8 (bN CG (bN Df bZ bZ) bZ) (bN o7 bZ bZ)) (bN o92 (bN wF bZ bZ) (bN o7 bZ bZ)))) (bN o27 (bN o39 (bN o7 (bN CF (bN o7 bZ bZ) bZ) (bN wP bZ bZ)) (bN o81 (bN wB bZ bZ) (bN CW bZ bZ))) (bN o51 (bN o69 (bN wq (bN o7 bZ bZ) bZ) (bN CQ bZ bZ)) (bN o97 (bN wJ bZ bZ) (bN o8 bZ bZ))))))))
def gs7:List Stmt:=((T3 pN).drop 61).take 11
theorem RG: ∀w:World,(λos=>zw8 zw1 pN w 28 (.some (.ref 6)) 1 316 (⟨tr6 w.params,232,lf,#[],dw,863,os⟩:SharedT) (⟨(zw9 gs7 b7).wrap doneF deadEnd id id,cE,⟨131,0,295,16⟩,frB⟩:Thread))=(λos=>some (Flow.next,(⟨tr7 w.params,296,lf,#[],dw,957,os⟩:SharedT),cE,⟨412,0,448,61⟩)):=λw=>by kernel_rfl
theorem hd7(w:World)(os:OsState):segRunT Vl pN w 28 (.some (.ref 6)) 1 316 (⟨tr6 w.params,232,lf,#[],dw,863,os⟩:SharedT) (Vx gs7 b7 cE ⟨131,0,295,16⟩ frB)=some (Flow.next,(⟨tr7 w.params,296,lf,#[],dw,957,os⟩:SharedT),cE,⟨412,0,448,61⟩):=by unfold Vx;rw[ze10,ze4,ze11];exact congrFun (RG w) os
def hpf(P:Params):Heap:=⟨⟨[o0 P,o1 P,o2 P,CT P,o4,o5,o6,o7,o8,o9,o10,o11 P,o12,o13 P,o14,o7,o15,o16,o17,o18,o19 P,o20 P,o21,o22,o23,o24,o25,o26,o7,K0,o27,o28,o7,o8,o31,o7,o32,o33,o34,o35,o7,o8,o36,o7,o37,o38,o39,o7,o42,o43 P,o7,o44,o45,o46,o47,o7,o48,o7,o8,o49,o7,o50,o51,o52,o7,o8,o53,o7,o54,o55,o56,o7,o8,o57,o7,o58,o59,o60,o7,o8,o61,o7,o62,o63,o64,o7,o8,o65,o7,o66,o67,o68,o7,o8,o69,o7,o70,o71,o72,o7,o8,o73,o7,o74,o75,o76,o77,o78 P,o79,o80,o81,o82,o83,o86 P,o87 P,o88 P,o91,o6,o92,o93,o94,o95 P,o7,o8,o96,o7,o97,o98,o99,tm,o7,o42,CB P,o7,CC,CD,CE,wb P,o7,o8,wc,o7,CF,wf,wg,wh,o7,o8,wj,o7,CG,wm,wn,o7,o8,wp,o7,CH,wq,wt,o92,o7,o8,wu,o7,CI,ww,wx,o7,o8,wz,o7,CJ,wA,wB,wC,wD,o7,o8,wE,o7,CK,wF,wG,o7,o8,wH,o7,CL,wI,wJ,o7,o8,wK,o7,CM,wL,wM,o92,o7,o8,CN,wN,wO,o7,o8,wP,o7,CO,wQ,wR,o7,o8,wS,o7,CP,wT,wU,o7,o8,wV,o7,CQ,wW,wX,wY,wZ P,w5,w6,w7,CR,CS,o7,o8,CU,o7,K3,CV,CW,o7,o8,CX,o7,K5,CY,CZ,o7,o8,C2,o7,K8,C3,C4,o7,o8,C5,o7,Lb,C6,C7,o7,o8,C8,o7,Le,C9,Da,o7,o8,Db,o7,Li,Dc,Dd,o7,o8,Ll,De,Df,o7,o8,Dg,o7,Lp,Dh,Di,o7,o8,Ls,Dj,Dk,o7,o8,Lw,Dl,Dm]⟩,lf⟩
theorem Dn: ∀w:World,(λos=>zw12 zw1 pN w 28 (.some (.ref 6)) 2 (SharedT.abs (⟨tr7 w.params,296,lf,#[],dw,957,os⟩:SharedT)) (⟨doneF .next,cE,⟨412,0,448,61⟩,frB⟩:Thread))=λos=>some (⟨hpf w.params,#[],dw,957,os⟩:Shared):=λw=>by kernel_rfl
theorem Lx(w:World)(os:OsState):topRun Vl pN w 28 (.some (.ref 6)) 2 (SharedT.abs (⟨tr7 w.params,296,lf,#[],dw,957,os⟩:SharedT)) (⟨doneF .next,cE,⟨412,0,448,61⟩,frB⟩:Thread)=some (⟨hpf w.params,#[],dw,957,os⟩:Shared):=by rw[ze13,ze4];exact congrFun (Dn w) os
def KN(P:Params):Frag:=[(2,o2 P),(3,CT P),(32,o7),(34,o31),(35,o7),(37,o33),(38,o34),(39,o35),(40,o7),(42,o36),(43,o7),(45,o38),(46,o39),(57,o7),(59,o49),(60,o7),(62,o51),(63,o52),(64,o7),(66,o53),(67,o7),(69,o55),(70,o56),(71,o7),(73,o57),(74,o7),(76,o59),(77,o60),(78,o7),(80,o61),(81,o7),(83,o63),(84,o64),(85,o7),(87,o65),(88,o7),(90,o67),(91,o68),(92,o7),(94,o69),(95,o7),(97,o71),(98,o72),(99,o7),(101,o73),(102,o7),(104,o75),(105,o76),(106,o77),(107,o78 P),(108,o79),(109,o80),(110,o81),(113,o86 P),(119,o93),(120,o94),(121,o95 P),(122,o7),(124,o96),(125,o7),(127,o98),(128,o99),(129,tm),(137,wb P),(138,o7),(140,wc),(141,o7),(143,wf),(144,wg),(145,wh),(146,o7),(148,wj),(149,o7),(151,wm),(152,wn),(153,o7),(155,wp),(156,o7),(158,wq),(159,wt),(160,o92),(161,o7),(163,wu),(164,o7),(166,ww),(167,wx),(168,o7),(170,wz),(171,o7),(173,wA),(174,wB),(175,wC),(176,wD),(177,o7),(179,wE),(180,o7),(182,wF),(183,wG),(184,o7),(186,wH),(187,o7),(189,wI),(190,wJ),(191,o7),(193,wK),(194,o7),(196,wL),(197,wM),(198,o92),(199,o7),(202,wN),(203,wO),(204,o7),(206,wP),(207,o7),(209,wQ),(210,wR),(211,o7),(213,wS),(214,o7),(216,wT),(217,wU),(218,o7),(220,wV),(221,o7),(223,wW),(224,wX),(225,wY),(226,wZ P),(227,w5),(228,w6),(229,w7),(232,o7),(234,CU),(235,o7),(237,CV),(238,CW),(239,o7),(241,CX),(242,o7),(244,CY),(245,CZ),(246,o7),(248,C2),(249,o7),(251,C3),(252,C4),(253,o7),(255,C5),(256,o7),(258,C6),(259,C7),(260,o7),(262,C8),(263,o7),(265,C9),(266,Da),(267,o7),(269,Db),(270,o7),(272,Dc),(273,Dd),(274,o7),(277,De),(278,Df),(279,o7),(281,Dg),(282,o7),(284,Dh),(285,Di),(286,o7),(289,Dj),(290,Dk),(291,o7),(294,Dl),(295,Dm)]
noncomputable def asN:List Addr:=[2,3,32,34,35,37,38,39,40,42,43,45,46,57,59,60,62,63,64,66,67,69,70,71,73,74,76,77,78,80,81,83,84,85,87,88,90,91,92,94,95,97,98,99,101,102,104,105,106,107,108,109,110,113,119,120,121,122,124,125,127,128,129,137,138,140,141,143,144,145,146,148,149,151,152,153,155,156,158,159,160,161,163,164,166,167,168,170,171,173,174,175,176,177,179,180,182,183,184,186,187,189,190,191,193,194,196,197,198,199,202,203,204,206,207,209,210,211,213,214,216,217,218,220,221,223,224,225,226,227,228,229,232,234,235,237,238,239,241,242,244,245,246,248,249,251,252,253,255,256,258,259,260,262,263,265,266,267,269,270,272,273,274,277,278,279,281,282,284,285,286,289,290,291,294,295]
def qN:Program:=view pN [0,72]
def j0:List Str:=[s30,s6,gc,s16,HG,HI,HK,HM,HO,HQ,HS,HU,HW,HY,H0,H5,H7,H9,Ib,Id,Ig,Ij,Il,Io,Iq,It,Iw,Iy,IA,IC,IE,IG,IJ,IL,IN,IP,IR,IT,IV,IX,IZ,I3,I5,I7,I9,Jb,Jd,Jf,Jh,Jj,Jl,Jn,m7,Jp,s66,ig,pJ,ij,f7,iL,gf,iQ,iN,iO,gh,io,iS]
end
def Wf(P:Params)(a:Addr):FnW:=rdW ((KN P).lookup a)
def FnT(a:Addr)(d:FD):Prop:= ∀Γ:Gl,Γ.K=KN Γ.w.params→Γ.g=gD→FnOk Γ a d (Wf Γ.w.params a)
theorem FnX{a:Addr}{d:FD}(rows:List (Nat×List Value))(lk: ∀P,(KN P).lookup a=some ⟨(Wf P a).oc,(Wf P a).od,.func ((Wf P a).fd d),(Wf P a).osl⟩)(fc: ∀P,codeIn (KN P) (.ref d.cd) (Wf P a).qual=true)(fs: ∀P,(!(Wf P a).scope.isCoroutine&&(!(Wf P a).scope.isGenerator&&((Wf P a).scope.kind== .function)))=true)(fn: ∀P,nmB glD d (Wf P a).scope.names=true)(fq: ∀P,(!Nat.beq d.cd gD.lamCd||((Wf P a).qual++".<locals>."==mkS gD.lamQ))=true)(fr:((List.range (d.npos+1)).all (sz d rows))=true)(fb: ∀P,∀p∈rows,yx (KN P) d (Wf P a) p.2 p.1):FnT a d:=λΓ hK hg=>vf rows (by rw[hK];exact lk _) (by rw[hK];exact fc _) (fs _) (by rw[hg];exact fn _) (by rw[hg];exact fq _) fr (by rw[hK];exact fb _)
theorem cM{α:Type}{p:α→Prop}{a:α}{l:List α}(h:p a)(k: ∀x∈l,p x): ∀x∈a::l,p x:=List.forall_mem_cons.mpr ⟨h,k⟩
theorem nM{α:Type}{p:α→Prop}: ∀x∈([]:List α),p x:=λ_ h=>nomatch h
theorem RH:FnT 46 JF:=FnX [(1,[])] (λP=>by kernel_rfl) (λP=>by kernel_rfl) (λP=>by kernel_rfl) (λP=>by kernel_rfl) (λP=>by kernel_rfl) (by kernel_rfl) (λP=>cM (λws S h0=>by obtain⟨_,_,rfl,h1⟩:=bj h0;obtain rfl:=cJ h1;kernel_rfl) nM)
theorem RI:FnT 63 B8:=FnX [(2,[])] (λP=>by kernel_rfl) (λP=>by kernel_rfl) (λP=>by kernel_rfl) (λP=>by kernel_rfl) (λP=>by kernel_rfl) (by kernel_rfl) (λP=>cM (λws S h0=>by obtain⟨_,_,rfl,h1⟩:=bj h0;obtain⟨_,_,rfl,h2⟩:=bj h1;obtain rfl:=cJ h2;kernel_rfl) nM)
theorem RJ:FnT 70 JG:=FnX [(1,[])] (λP=>by kernel_rfl) (λP=>by kernel_rfl) (λP=>by kernel_rfl) (λP=>by kernel_rfl) (λP=>by kernel_rfl) (by kernel_rfl) (λP=>cM (λws S h0=>by obtain⟨_,_,rfl,h1⟩:=bj h0;obtain rfl:=cJ h1;kernel_rfl) nM)
theorem RK:FnT 77 JH:=FnX [(2,[])] (λP=>by kernel_rfl) (λP=>by kernel_rfl) (λP=>by kernel_rfl) (λP=>by kernel_rfl) (λP=>by kernel_rfl) (by kernel_rfl) (λP=>cM (λws S h0=>by obtain⟨_,_,rfl,h1⟩:=bj h0;obtain⟨_,_,rfl,h2⟩:=bj h1;obtain rfl:=cJ h2;kernel_rfl) nM)
theorem RL:FnT 98 B9:=FnX [(2,[])] (λP=>by kernel_rfl) (λP=>by kernel_rfl) (λP=>by kernel_rfl) (λP=>by kernel_rfl) (λP=>by kernel_rfl) (by kernel_rfl) (λP=>cM (λws S h0=>by obtain⟨_,_,rfl,h1⟩:=bj h0;obtain⟨_,_,rfl,h2⟩:=bj h1;obtain rfl:=cJ h2;kernel_rfl) nM)
theorem Ly:FnT 144 yz:=FnX [(2,[(.bool false),(.bool false),(.bool false),.none,.none,.none,.none])] (λP=>by kernel_rfl) (λP=>by kernel_rfl) (λP=>by kernel_rfl) (λP=>by kernel_rfl) (λP=>by kernel_rfl) (by kernel_rfl) (λP=>cM (λws S h0=>by obtain⟨_,_,rfl,h1⟩:=bj h0;obtain⟨_,_,rfl,h2⟩:=bj h1;obtain rfl:=cJ h2;kernel_rfl) nM)
theorem Lz:FnT 167 yA:=FnX [(2,[.none]),(3,[])] (λP=>by kernel_rfl) (λP=>by kernel_rfl) (λP=>by kernel_rfl) (λP=>by kernel_rfl) (λP=>by kernel_rfl) (by kernel_rfl) (λP=>cM (λws S h0=>by obtain⟨_,_,rfl,h1⟩:=bj h0;obtain⟨_,_,rfl,h2⟩:=bj h1;obtain rfl:=cJ h2;kernel_rfl) (cM (λws S h0=>by obtain⟨_,_,rfl,h1⟩:=bj h0;obtain⟨_,_,rfl,h2⟩:=bj h1;obtain⟨_,_,rfl,h3⟩:=bj h2;obtain rfl:=cJ h3;kernel_rfl) nM))
theorem LA:FnT 174 yB:=FnX [(2,[])] (λP=>by kernel_rfl) (λP=>by kernel_rfl) (λP=>by kernel_rfl) (λP=>by kernel_rfl) (λP=>by kernel_rfl) (by kernel_rfl) (λP=>cM (λws S h0=>by obtain⟨_,_,rfl,h1⟩:=bj h0;obtain⟨_,_,rfl,h2⟩:=bj h1;obtain rfl:=cJ h2;kernel_rfl) nM)
theorem LB:FnT 183 yC:=FnX [(1,[(.ref 175)]),(2,[])] (λP=>by kernel_rfl) (λP=>by kernel_rfl) (λP=>by kernel_rfl) (λP=>by kernel_rfl) (λP=>by kernel_rfl) (by kernel_rfl) (λP=>cM (λws S h0=>by obtain⟨_,_,rfl,h1⟩:=bj h0;obtain rfl:=cJ h1;kernel_rfl) (cM (λws S h0=>by obtain⟨_,_,rfl,h1⟩:=bj h0;obtain⟨_,_,rfl,h2⟩:=bj h1;obtain rfl:=cJ h2;kernel_rfl) nM))
theorem LC:FnT 197 yD:=FnX [(3,[])] (λP=>by kernel_rfl) (λP=>by kernel_rfl) (λP=>by kernel_rfl) (λP=>by kernel_rfl) (λP=>by kernel_rfl) (by kernel_rfl) (λP=>cM (λws S h0=>by obtain⟨_,_,rfl,h1⟩:=bj h0;obtain⟨_,_,rfl,h2⟩:=bj h1;obtain⟨_,_,rfl,h3⟩:=bj h2;obtain rfl:=cJ h3;kernel_rfl) nM)
theorem LD:FnT 203 yE:=FnX [(4,[.none]),(5,[])] (λP=>by kernel_rfl) (λP=>by kernel_rfl) (λP=>by kernel_rfl) (λP=>by kernel_rfl) (λP=>by kernel_rfl) (by kernel_rfl) (λP=>cM (λws S h0=>by obtain⟨_,_,rfl,h1⟩:=bj h0;obtain⟨_,_,rfl,h2⟩:=bj h1;obtain⟨_,_,rfl,h3⟩:=bj h2;obtain⟨_,_,rfl,h4⟩:=bj h3;obtain rfl:=cJ h4;kernel_rfl) (cM (λws S h0=>by obtain⟨_,_,rfl,h1⟩:=bj h0;obtain⟨_,_,rfl,h2⟩:=bj h1;obtain⟨_,_,rfl,h3⟩:=bj h2;obtain⟨_,_,rfl,h4⟩:=bj h3;obtain⟨_,_,rfl,h5⟩:=bj h4;obtain rfl:=cJ h5;kernel_rfl) nM))
theorem LE:FnT 210 yF:=FnX [(2,[])] (λP=>by kernel_rfl) (λP=>by kernel_rfl) (λP=>by kernel_rfl) (λP=>by kernel_rfl) (λP=>by kernel_rfl) (by kernel_rfl) (λP=>cM (λws S h0=>by obtain⟨_,_,rfl,h1⟩:=bj h0;obtain⟨_,_,rfl,h2⟩:=bj h1;obtain rfl:=cJ h2;kernel_rfl) nM)
theorem LF:FnT 238 yG:=FnX [(1,[])] (λP=>by kernel_rfl) (λP=>by kernel_rfl) (λP=>by kernel_rfl) (λP=>by kernel_rfl) (λP=>by kernel_rfl) (by kernel_rfl) (λP=>cM (λws S h0=>by obtain⟨_,_,rfl,h1⟩:=bj h0;obtain rfl:=cJ h1;kernel_rfl) nM)
theorem LG:FnT 252 yH:=FnX [(2,[])] (λP=>by kernel_rfl) (λP=>by kernel_rfl) (λP=>by kernel_rfl) (λP=>by kernel_rfl) (λP=>by kernel_rfl) (by kernel_rfl) (λP=>cM (λws S h0=>by obtain⟨_,_,rfl,h1⟩:=bj h0;obtain⟨_,_,rfl,h2⟩:=bj h1;obtain rfl:=cJ h2;kernel_rfl) nM)
theorem LH:FnT 259 sY:=FnX [(1,[])] (λP=>by kernel_rfl) (λP=>by kernel_rfl) (λP=>by kernel_rfl) (λP=>by kernel_rfl) (λP=>by kernel_rfl) (by kernel_rfl) (λP=>cM (λws S h0=>by obtain⟨_,_,rfl,h1⟩:=bj h0;obtain rfl:=cJ h1;kernel_rfl) nM)
theorem LI:FnT 266 sZ:=FnX [(1,[])] (λP=>by kernel_rfl) (λP=>by kernel_rfl) (λP=>by kernel_rfl) (λP=>by kernel_rfl) (λP=>by kernel_rfl) (by kernel_rfl) (λP=>cM (λws S h0=>by obtain⟨_,_,rfl,h1⟩:=bj h0;obtain rfl:=cJ h1;kernel_rfl) nM)
theorem LJ:FnT 273 ta:=FnX [(1,[])] (λP=>by kernel_rfl) (λP=>by kernel_rfl) (λP=>by kernel_rfl) (λP=>by kernel_rfl) (λP=>by kernel_rfl) (by kernel_rfl) (λP=>cM (λws S h0=>by obtain⟨_,_,rfl,h1⟩:=bj h0;obtain rfl:=cJ h1;kernel_rfl) nM)
theorem LK:FnT 278 tb:=FnX [(3,[])] (λP=>by kernel_rfl) (λP=>by kernel_rfl) (λP=>by kernel_rfl) (λP=>by kernel_rfl) (λP=>by kernel_rfl) (by kernel_rfl) (λP=>cM (λws S h0=>by obtain⟨_,_,rfl,h1⟩:=bj h0;obtain⟨_,_,rfl,h2⟩:=bj h1;obtain⟨_,_,rfl,h3⟩:=bj h2;obtain rfl:=cJ h3;kernel_rfl) nM)
theorem LL:FnT 285 tc:=FnX [(1,[])] (λP=>by kernel_rfl) (λP=>by kernel_rfl) (λP=>by kernel_rfl) (λP=>by kernel_rfl) (λP=>by kernel_rfl) (by kernel_rfl) (λP=>cM (λws S h0=>by obtain⟨_,_,rfl,h1⟩:=bj h0;obtain rfl:=cJ h1;kernel_rfl) nM)
theorem LM:FnT 290 td:=FnX [(0,[])] (λP=>by kernel_rfl) (λP=>by kernel_rfl) (λP=>by kernel_rfl) (λP=>by kernel_rfl) (λP=>by kernel_rfl) (by kernel_rfl) (λP=>cM (λws S h0=>by obtain rfl:=cJ h0;kernel_rfl) nM)
theorem yJ:FnT 295 te:=FnX [(1,[])] (λP=>by kernel_rfl) (λP=>by kernel_rfl) (λP=>by kernel_rfl) (λP=>by kernel_rfl) (λP=>by kernel_rfl) (by kernel_rfl) (λP=>cM (λws S h0=>by obtain⟨_,_,rfl,h1⟩:=bj h0;obtain rfl:=cJ h1;kernel_rfl) nM)
def RM:List (V×V):=[((.int (.ofNat 1)),(.str Ar)),((.int (.ofNat 2)),(.str As)),((.int (.ofNat 4)),(.str At)),((.int (.ofNat 8)),(.str Au)),((.int (.ofNat 16)),(.str Av)),((.int (.ofNat 32)),(.str Aw)),((.int (.ofNat 64)),(.str Ax)),((.int (.ofNat 128)),(.str Ay)),((.int (.ofNat 256)),(.str Az)),((.int (.ofNat 512)),(.str AA))]
theorem RN(Γ:Gl)(hK:Γ.K=KN Γ.w.params):DOne Γ 39 RM:= .i (by rw[hK];generalize Γ.w.params=P;kernel_rfl) (by rw[hK];generalize Γ.w.params=P;kernel_rfl) (by intro h;cases h)
def LN:List (V×V):=[((.str AV),(.int (.ofNat 54))),((.str AW),(.int (.ofNat 28))),((.str AX),(.int (.ofNat 24))),((.str AY),(.int (.ofNat 40))),((.str An),(.int (.ofNat 19))),((.str AZ),(.int (.ofNat 41))),((.str A5),(.int (.ofNat 7))),((.str t41),(.int (.ofNat 8))),((.str A6),(.int (.ofNat 16))),((.str A7),(.int (.ofNat 35))),((.str A8),(.int (.ofNat 46))),((.str A9),(.int (.ofNat 38))),((.str Ba),(.int (.ofNat 14))),((.str Bb),(.int (.ofNat 36))),((.str Bc),(.int (.ofNat 12))),((.str Bd),(.int (.ofNat 15))),((.str Be),(.int (.ofNat 37))),((.str Bf),(.int (.ofNat 51))),((.str AF),(.int (.ofNat 23))),((.str Bg),(.int (.ofNat 52))),((.str Bh),(.int (.ofNat 17))),((.str Bi),(.int (.ofNat 47))),((.str Bj),(.int (.ofNat 48))),((.str Bk),(.int (.ofNat 39))),((.str t81),(.int (.ofNat 11))),((.str Bl),(.int (.ofNat 53))),((.str Bm),(.int (.ofNat 13))),((.str Al),(.int (.ofNat 20))),((.str Bn),(.int (.ofNat 33))),((.str Bo),(.int (.ofNat 44))),((.str Bp),(.int (.ofNat 29))),((.str Bq),(.int (.ofNat 22))),((.str Br),(.int (.ofNat 27))),((.str Am),(.int (.ofNat 21))),((.str Bs),(.int (.ofNat 30))),((.str Bt),(.int (.ofNat 34))),((.str Bu),(.int (.ofNat 45))),((.str Bv),(.int (.ofNat 49))),((.str Bw),(.int (.ofNat 50))),((.str Bx),(.int (.ofNat 9))),((.str By),(.int (.ofNat 10))),((.str Bz),(.int (.ofNat 32))),((.str BA),(.int (.ofNat 43))),((.str t85),(.int (.ofNat 25))),((.str BB),(.int (.ofNat 18))),((.str BC),(.int (.ofNat 42))),((.str t86),(.int (.ofNat 26))),((.str BD),(.int (.ofNat 31)))]
theorem LP(Γ:Gl)(hK:Γ.K=KN Γ.w.params):DOne Γ 113 LN:= .s (by rw[hK];generalize Γ.w.params=P;kernel_rfl) (by rw[hK];generalize Γ.w.params=P;kernel_rfl) (by intro h;cases h)
def yK:List (V×V):=[((.str t62),(.str t63)),((.str BE),(.str BF)),((.str BG),(.str BH)),((.str BI),(.str BJ)),((.str BK),(.str BL)),((.str BM),(.str BN)),((.str BO),(.str BP))]
theorem LQ(Γ:Gl)(hK:Γ.K=KN Γ.w.params):DOne Γ 121 yK:= .s (by rw[hK];generalize Γ.w.params=P;kernel_rfl) (by rw[hK];generalize Γ.w.params=P;kernel_rfl) (by intro h;cases h)
theorem gk(P:Params):glB (KN P) glD=true:=by kernel_rfl
theorem ck(P:Params):F9 (KN P) JX=true:=by kernel_rfl
theorem ik(P:Params):iaB (KN P) iaD=true:=by kernel_rfl
theorem jk(P:Params):(KN P).lookup 175=some ⟨.type "builtin_function_or_method",none,.fields #[.builtin "str.join",.str (mkS []) 775],#[]⟩:=by kernel_rfl
theorem RO(Γ:Gl)(hK:Γ.K=KN Γ.w.params)(hg:Γ.g=gD): ∀p∈yI,p.2.gen=false→ ∃w,FnOk Γ p.1 p.2 w:=cM (λ_=>⟨_,RH Γ hK hg⟩) (cM (λ_=>⟨_,RI Γ hK hg⟩) (cM (λ_=>⟨_,RJ Γ hK hg⟩) (cM (λ_=>⟨_,RK Γ hK hg⟩) (cM (λ_=>⟨_,RL Γ hK hg⟩) (cM (λ_=>⟨_,Ly Γ hK hg⟩) (cM (λ_=>⟨_,Lz Γ hK hg⟩) (cM (λ_=>⟨_,LA Γ hK hg⟩) (cM (λ_=>⟨_,LB Γ hK hg⟩) (cM (λ_=>⟨_,LC Γ hK hg⟩) (cM (λ_=>⟨_,LD Γ hK hg⟩) (cM (λ_=>⟨_,LE Γ hK hg⟩) (cM (λ_=>⟨_,LF Γ hK hg⟩) (cM (λ_=>⟨_,LG Γ hK hg⟩) (cM (λ_=>⟨_,LH Γ hK hg⟩) (cM (λ_=>⟨_,LI Γ hK hg⟩) (cM (λ_=>⟨_,LJ Γ hK hg⟩) (cM (λ_=>⟨_,LK Γ hK hg⟩) (cM (λ_=>⟨_,LL Γ hK hg⟩) (cM (λ_=>⟨_,LM Γ hK hg⟩) (cM (λ_=>⟨_,yJ Γ hK hg⟩) nM))))))))))))))))))))
theorem RP(Γ:Gl)(hK:Γ.K=KN Γ.w.params): ∀p∈tf,DOne Γ p.1 p.2:=cM (RN Γ hK) (cM (LP Γ hK) (cM (LQ Γ hK) nM))
theorem Do:T3 pN=gs1++(gs2++(gs3++(gs4++(gs5++(gs6++(gs7++[])))))):=by kernel_rfl
theorem LR(w:World)(os:OsState):topRun Vl pN w 28 (.some (.ref 6)) (12+(1+(220+(520+(406+(979+(262+(661+(316+2))))))))) (⟨hp0 w.params,#[],dw,276,os⟩:Shared) (topStub pN)=some (⟨hpf w.params,#[],dw,957,os⟩:Shared):=by
 refine go_top (Kd w os) ?_
 refine piece_block (v6 w os) ?_
 rw[Do]
 refine piece_app (segRun_of (hd1 w os)) ?_
 refine piece_app (segRun_of (hd2 w os)) ?_
 refine piece_app (segRun_of (hd3 w os)) ?_
 refine piece_app (segRun_of (hd4 w os)) ?_
 refine piece_app (segRun_of (hd5 w os)) ?_
 refine piece_app (segRun_of (hd6 w os)) ?_
 refine piece_app (segRun_of (hd7 w os)) ?_
 exact Lx w os
theorem w9: ∀w:World,((PySem.W.Fast.tw10274390034422433532 PySem.W.Fast.tw14364793385576792824 (opening pN) w 6000 (PySem.W.Fast.tw1435165496053646825 (opening pN)).1 (PySem.W.Fast.tw1435165496053646825 (opening pN)).2).bind (PySem.W.Fast.tw14289696077712309145 pN)).map (λs=>(s.heap,s.gens,s.drawn,s.toks))=some (hp0 w.params,#[],dw,276):=λw=>by kernel_rfl
theorem Dp(w:World):(fencedOpening Vl pN w 6000).map (λs=>(s.heap,s.gens,s.drawn,s.toks))=some (hp0 w.params,#[],dw,276):=by
 unfold fencedOpening
 rw[PySem.W.Fast.te10274390034422433532,PySem.W.Fast.te14364793385576792824,PySem.W.Fast.te1435165496053646825,PySem.W.Fast.te14289696077712309145]
 exact w9 w
theorem Dq: ∀w:World,((hp0 w.params).isNs U1&&(#[]:Array Vw).size==0,(hp0 w.params).objs.size,(hp0 w.params).nsMap U1 "__annotations__")=(true,28,.some (.ref 6)):=λw=>by kernel_rfl
noncomputable abbrev rN:OpenLaw:=PySem.Challenge.rw_ta0137_01
theorem wXa:sreFenced rN.row.prog.main=true:=by kernel_rfl
theorem wXb:namesResolve rN.row.prog=true:=by kernel_rfl
theorem wXc:readsOut rN.row.prog rN.row.prog.main.body "vars"=false:=by kernel_rfl
theorem wXd:readsOut rN.row.prog rN.row.prog.main.body "dir"=false:=by kernel_rfl
theorem wXe:readsOut rN.row.prog rN.row.prog.main.body "locals"=false:=by kernel_rfl
theorem wXf:(["vars","dir","locals"]:List Str).filter (readsOut rN.row.prog rN.row.prog.main.body)=[]:=by simp only[List.filter,wXc,wXd,wXe]
theorem wXg:noRoadLSs {strict:= !(importedModules rN.row.prog.main.body).all cThrough.contains,foot:=none,bare:=[]} rN.row.prog.main.body=true:=by kernel_rfl
theorem wXh:(namesMeet rN.row.prog rN.row.prog.main.body fun _ n=>attrL n)=true:=by kernel_rfl
theorem wXi:rN.row.wellSaid=true:=by
 unfold OpenRow.wellSaid OpenRow.partSaid looksOpen
 repeat' with_reducible refine look_both ?_ ?_
 all_goals first|with_reducible exact wXa|with_reducible exact wXb|with_reducible exact wXh|(rw[wXf];with_reducible exact wXg)|kernel_rfl
theorem wXj:noRoadLSs {strict:=true,foot:=some rN.bound',writes:=rN.writes,may:=rN.may} rN.footing=true:=by kernel_rfl
theorem wXk:(rN.bound'.all fun n=> !builtinNamed n||rN.about==[n]|| !rN.reads n)=true:=by kernel_rfl
theorem Dr:rN.wellSaid=true:=by
 unfold OpenLaw.wellSaid
 repeat' with_reducible refine look_both ?_ ?_
 all_goals first|with_reducible exact wXi|with_reducible exact wXj|with_reducible exact wXk|kernel_rfl
def KF(P:Params):Frag:=KN P++[(200,X.tableObj #[])]
def asF:List Addr:=asN++[200]
theorem LS(P:Params):asF=(KF P).map (·.1):=by kernel_rfl
abbrev xtN(s:Shared):Bool:=xlAt qN [] s&&recOk [] s
abbrev yfN(s:Shared):List (Option Obj):=asF.map s.heap.get?
abbrev yaN(w:World):List (Option Obj):=(KF w.params).map λp=>some p.2
theorem RQ: ∀w:World,(λos=>staticsOk (PySem.W.Fast.tw5923862056798008813 pN.main.body) (hp0 w.params) (hpf w.params)&&namesBound pN (hpf w.params)&&gensDone (⟨hpf w.params,#[],dw,957,os⟩:Shared)&&laidKept (hp0 w.params) (hpf w.params))=λ_:OsState=>true:=λw=>by kernel_rfl
theorem RS: ∀w:World,(λos=>PySem.W.Fast.tw4187177175401517315 qN j0 (PySem.W.Fast.tw5923862056798008813 pN.main.body) xtN true (⟨hpf w.params,#[],dw,957,os⟩:Shared))=λ_:OsState=>openGood qN j0:=λw=>by kernel_rfl
theorem RT: ∀w:World,(λos=>yfN (⟨hpf w.params,#[],dw,957,os⟩:Shared))=λ_:OsState=>yaN w:=λw=>by kernel_rfl
theorem Ds:LeftO pN qN j0 xtN yfN yaN 6000 true:=by
 refine LeftO.of_pieces (M:=12+(1+(220+(520+(406+(979+(262+(661+(316+2))))))))) Dp Dq LR (by decide) λw=> ?_
 funext os
 refine congr (congrArg Prod.mk ?_) (congr (congrArg Prod.mk ?_) ?_)
 · rw[PySem.W.Fast.te5923862056798008813];exact congrFun (RQ w) os
 · rw[PySem.W.Fast.te4187177175401517315,PySem.W.Fast.te5923862056798008813];exact congrFun (RS w) os
 · exact congrFun (RT w) os
theorem xa(hw:rN.row.toRowW.promised){d:DefRec}{kwd:List (Str×Expr)}(hd:defOf qN rN.row.name=some (d,kwd))(hp:rN.row.prog.theDef rN.row.name=some (d.params,d.body,d.scope))(hk:kwWritten? d.params.kwonlyargs d.params.kw_defaults=some kwd)
 (ok:(chainsOk qN&&opensWell rN.row.prog&&(frees rN.row.toRowW&&rN.row.within.isEmpty))=true)(hb:rN.row.prog.bare)
 (call:WalkO qN j0 (XL qN []) (InK KF) rN.row.toRowW d kwd λf vs=>PySem.call f vs):rN.Holds:=
 holds_law Dr λsaid=>holds_open (Xt:=xtN) (XP:=XL qN []) (Yf:=yfN) (Ya:=yaN) (YP:=InK KF) Ds (InK.of LS) InK.keeps (λs e=>xl_of s (Tr.mp e).1) XL.keeps hd hp hk
  (λs e=>recFacts_of (Tr.mp e).2) rfl said ok hb hw call
theorem ni:rN.row.toRowW.promised:=⟨[.list []],by decide+kernel,by decide+kernel⟩
theorem Dt:rN.row.prog.bare:=⟨rfl,rfl,rfl,rfl,rfl,by decide+kernel⟩
theorem RU:(chainsOk qN&&opensWell rN.row.prog&&(frees rN.row.toRowW&&rN.row.within.isEmpty))=true:=by kernel_rfl
theorem oe(P:Params):codeHdIn (KN P) 202 200=true:=by kernel_rfl
theorem Du(P:Params):kdsCode (KN P) (.ref 202)=true:=by kernel_rfl
theorem LU(P:Params):noTabs (KN P)=true:=by kernel_rfl
theorem tq{P:Params}{h:Heap}(X:(KF P).In h):(KN P).In h∧h.get? 200=some (tabObj #[]):=by
 refine⟨λa o e=>X a o ?_,X 200 _ ?_⟩
 · unfold KF
   rw[List.lookup_append,e];rfl
 · unfold KF
   rw[List.lookup_append,show(KN P).lookup 200=none by kernel_rfl];rfl
theorem Dv{P:Params}{h:Heap}(X:(KF P).In h):TabsAt [(202,200)] h:=by
 intro q hq
 rw[TF.mp hq]
 exact⟨codeHd_of_K (tq X).1 (oe P),(tq X).2⟩
def gnW(P:Params):FnW:=rdW ((KN P).lookup gD.genA)
def GN(P:Params):GenW:=⟨(gnW P).name,(gnW P).qual,(gnW P).params,(gnW P).scope,(gnW P).dV,(gnW P).kV,(gnW P).doc,(gnW P).pm,(gnW P).ct,(gnW P).oc,(gnW P).an,(gnW P).od,(gnW P).osl,151,⟨⟨162,12,162,22⟩,⟨162,26,162,35⟩,⟨162,36,162,44⟩,⟨162,26,162,45⟩,⟨163,15,163,25⟩,⟨164,27,164,37⟩,⟨164,16,164,37⟩,⟨164,16,164,37⟩,⟨163,12,164,37⟩,⟨162,8,164,37⟩⟩⟩
theorem gnl(P:Params):(KN P).lookup gD.genA=some ⟨(GN P).oc,(GN P).od,.func (GN P).fd,(GN P).osl⟩:=by kernel_rfl
theorem gnc(P:Params):codeIn (KN P) (.ref (GN P).cd) (GN P).qual=true:=by kernel_rfl
theorem gns(P:Params):(GN P).scope.isCoroutine=false∧(GN P).scope.isGenerator=true∧(GN P).scope.kind= .function:=⟨by kernel_rfl,by kernel_rfl,by kernel_rfl⟩
theorem gnk(P:Params):(GN P).scope.names.lookup (UK "self")=some .local∧(GN P).scope.names.lookup (UK "namespaces")=some .local∧(GN P).scope.names.lookup (UK "ns_stack")=some .local∧(GN P).scope.names.lookup (UK "_reversed")=some .local:=⟨by kernel_rfl,by kernel_rfl,by kernel_rfl,by kernel_rfl⟩
theorem gnn(P:Params):((GN P).scope.names.all λx=>x.2 != .cell)=true:=by kernel_rfl
theorem gnb(P:Params)(v1 v2:Value)(S:Setting):peek (KN P) S (bindArgs (GN P).fd ⟨[v1,v2],[]⟩)=some [(UK "self",v1),(UK "ns_stack",v2),(UK "_reversed",Value.type "reversed")]:=by kernel_rfl
theorem LV(Γ:Gl)(hK:Γ.K=KN Γ.w.params)(hg:Γ.g=gD):GenOk Γ (GN Γ.w.params) where
 lk:=by rw[hK,hg];exact gnl _
 cdi:=by rw[hK];exact gnc _
 co:=(gns _).1
 ge:=(gns _).2.1
 kd:=(gns _).2.2
 k0:=(gnk _).1
 k1:=(gnk _).2.1
 k2:=(gnk _).2.2.1
 k3:=(gnk _).2.2.2
 nc:=λx hx=>by have:=TY.mp (gnn Γ.w.params) x hx;intro e;rw[e]at this;cases this
 bind:=λv1 v2 s X=>by rw[hK]at X;exact kp_binds X λS=>gnb _ v1 v2 S
theorem xb(Γ:Gl)(hK:Γ.K=KN Γ.w.params)(hg:Γ.g=gD):ItemsOk Γ:=by
 have hi:Γ.g.itemsA=121:=by rw[hg];rfl
 refine mY (l:=yK) ?_ ?_ (by kernel_rfl) (Tk (by kernel_rfl))
 · rw[hi,hK];generalize Γ.w.params=P;kernel_rfl
 · rw[hi,hK];generalize Γ.w.params=P;kernel_rfl
def GlN(w:World)(loose:List Str)(mean:ExcName→Option Value)(mg mb:Str→Option Value):Gl where
 prog:=rN.row.prog
 w:=w
 K:=KN w.params
 p:=topProg
 loose:=loose
 mean:=mean
 mg:=mg
 mb:=mb
 lam:=lamR gD
 lamc:=λa b t h=>let ⟨_,vs,tk,h1,h2⟩:=h;⟨vs,_,tk,h1,h2⟩
 lamt:=λa b t h vs q tk e=>by obtain⟨rfl,_⟩:=h;cases e;intro z;cases z
 tabA:=200
 g:=gD
theorem ju(w:World)(loose:List Str)(mean:ExcName→Option Value)(mg mb:Str→Option Value):TopOk (GlN w loose mean mg mb):=by
 have g0:GOk (GlN w loose mean mg mb):=Af (gk _)
 have c0:COk (GlN w loose mean mg mb):=Ai (ck _) (ik _) ⟨_,_,jk _,rfl,rfl⟩
 refine⟨g0,Ag (RP _ rfl),c0,λa d h hg=>RO _ rfl rfl (a,d) (dm h) hg,?_⟩
 exact u6 g0 c0 (xb _ rfl rfl) ⟨Du _,oe _,rfl⟩ (LV _ rfl rfl)
abbrev Iv(k:Nat):V:= .int (.ofNat k)
noncomputable def Dw:List T:=[[79,80,84,73,77,73,90,69,68],[78,69,87,76,79,67,65,76,83],[86,65,82,65,82,71,83],[86,65,82,75,69,89,87,79,82,68,83],[78,69,83,84,69,68],[71,69,78,69,82,65,84,79,82],[78,79,70,82,69,69],[67,79,82,79,85,84,73,78,69],[73,84,69,82,65,66,76,69,95,67,79,82,79,85,84,73,78,69],[65,83,89,78,67,95,71,69,78,69,82,65,84,79,82],[48,120,52,48,48],[48,120,56,48,48],[48,120,49,48,48,48],[48,120,50,48,48,48],[48,120,52,48,48,48],[48,120,56,48,48,48]]
noncomputable def lV:List T:=[[60,114,62,38,108,116,59,38,108,116,59,38,108,116,59,38,108,116,59,38,108,116,59,60,47,114,62],[60,114,62,38,103,116,59,38,108,116,59,38,108,116,59,38,108,116,59,38,108,116,59,60,47,114,62],[60,114,62,60,98,62,60,47,98,62,38,108,116,59,38,108,116,59,38,108,116,59,60,47,114,62],[60,114,62,38,103,116,59,38,103,116,59,38,108,116,59,38,108,116,59,38,108,116,59,60,47,114,62],[60,114,62,38,108,116,59,60,98,62,60,47,98,62,38,108,116,59,38,108,116,59,60,47,114,62],[60,114,62,38,103,116,59,60,98,62,60,47,98,62,38,108,116,59,38,108,116,59,60,47,114,62],[60,114,62,60,98,62,60,47,98,62,38,103,116,59,38,108,116,59,38,108,116,59,60,47,114,62],[60,114,62,38,103,116,59,38,103,116,59,38,103,116,59,38,108,116,59,38,108,116,59,60,47,114,62],[60,114,62,38,108,116,59,38,108,116,59,60,98,62,60,47,98,62,38,108,116,59,60,47,114,62],[60,114,62,38,103,116,59,38,108,116,59,60,98,62,60,47,98,62,38,108,116,59,60,47,114,62],[60,114,62,60,98,62,60,47,98,62,60,98,62,60,47,98,62,38,108,116,59,60,47,114,62],[60,114,62,38,103,116,59,38,103,116,59,60,98,62,60,47,98,62,38,108,116,59,60,47,114,62],[60,114,62,60,98,62,60,98,62,60,47,98,62,60,47,98,62,38,108,116,59,60,47,114,62],[60,114,62,38,103,116,59,60,98,62,60,47,98,62,38,103,116,59,38,108,116,59,60,47,114,62],[60,114,62,60,98,62,60,47,98,62,38,103,116,59,38,103,116,59,38,108,116,59,60,47,114,62],[60,114,62,38,103,116,59,38,103,116,59,38,103,116,59,38,103,116,59,38,108,116,59,60,47,114,62],[60,114,62,38,108,116,59,38,108,116,59,38,108,116,59,60,98,62,60,47,98,62,60,47,114,62],[60,114,62,38,103,116,59,38,108,116,59,38,108,116,59,60,98,62,60,47,98,62,60,47,114,62],[60,114,62,60,98,62,60,47,98,62,38,108,116,59,60,98,62,60,47,98,62,60,47,114,62],[60,114,62,38,103,116,59,38,103,116,59,38,108,116,59,60,98,62,60,47,98,62,60,47,114,62],[60,114,62,38,108,116,59,60,98,62,60,47,98,62,60,98,62,60,47,98,62,60,47,114,62],[60,114,62,38,103,116,59,60,98,62,60,47,98,62,60,98,62,60,47,98,62,60,47,114,62],[60,114,62,60,98,62,60,47,98,62,38,103,116,59,60,98,62,60,47,98,62,60,47,114,62],[60,114,62,38,103,116,59,38,103,116,59,38,103,116,59,60,98,62,60,47,98,62,60,47,114,62],[60,114,62,38,108,116,59,60,98,62,60,98,62,60,47,98,62,60,47,98,62,60,47,114,62],[60,114,62,38,103,116,59,60,98,62,60,98,62,60,47,98,62,60,47,98,62,60,47,114,62],[60,114,62,60,98,62,60,47,98,62,60,98,62,60,47,98,62,38,103,116,59,60,47,114,62],[60,114,62,38,103,116,59,38,103,116,59,60,98,62,60,47,98,62,38,103,116,59,60,47,114,62],[60,114,62,60,98,62,60,98,62,60,47,98,62,60,47,98,62,38,103,116,59,60,47,114,62],[60,114,62,38,103,116,59,60,98,62,60,47,98,62,38,103,116,59,38,103,116,59,60,47,114,62],[60,114,62,60,98,62,60,47,98,62,38,103,116,59,38,103,116,59,38,103,116,59,60,47,114,62],[60,114,62,38,103,116,59,38,103,116,59,38,103,116,59,38,103,116,59,38,103,116,59,60,47,114,62]]
noncomputable def dG:List (List V):=[[.str [114],.str [46],.str [46],.str [46],.str [46],.str [46],.str [47,114]],[.str [114],.str [46],.str [46],.str [46],.str [46],.str [46],.str [47,114]],[.str [114],.str [98],.str [47,98],.str [46],.str [46],.str [46],.str [47,114]],[.str [114],.str [46],.str [46],.str [46],.str [46],.str [46],.str [47,114]],[.str [114],.str [46],.str [98],.str [47,98],.str [46],.str [46],.str [47,114]],[.str [114],.str [46],.str [98],.str [47,98],.str [46],.str [46],.str [47,114]],[.str [114],.str [98],.str [47,98],.str [46],.str [46],.str [46],.str [47,114]],[.str [114],.str [46],.str [46],.str [46],.str [46],.str [46],.str [47,114]],[.str [114],.str [46],.str [46],.str [98],.str [47,98],.str [46],.str [47,114]],[.str [114],.str [46],.str [46],.str [98],.str [47,98],.str [46],.str [47,114]],[.str [114],.str [98],.str [47,98],.str [98],.str [47,98],.str [46],.str [47,114]],[.str [114],.str [46],.str [46],.str [98],.str [47,98],.str [46],.str [47,114]],[.str [114],.str [98],.str [98],.str [47,98],.str [47,98],.str [46],.str [47,114]],[.str [114],.str [46],.str [98],.str [47,98],.str [46],.str [46],.str [47,114]],[.str [114],.str [98],.str [47,98],.str [46],.str [46],.str [46],.str [47,114]],[.str [114],.str [46],.str [46],.str [46],.str [46],.str [46],.str [47,114]],[.str [114],.str [46],.str [46],.str [46],.str [98],.str [47,98],.str [47,114]],[.str [114],.str [46],.str [46],.str [46],.str [98],.str [47,98],.str [47,114]],[.str [114],.str [98],.str [47,98],.str [46],.str [98],.str [47,98],.str [47,114]],[.str [114],.str [46],.str [46],.str [46],.str [98],.str [47,98],.str [47,114]],[.str [114],.str [46],.str [98],.str [47,98],.str [98],.str [47,98],.str [47,114]],[.str [114],.str [46],.str [98],.str [47,98],.str [98],.str [47,98],.str [47,114]],[.str [114],.str [98],.str [47,98],.str [46],.str [98],.str [47,98],.str [47,114]],[.str [114],.str [46],.str [46],.str [46],.str [98],.str [47,98],.str [47,114]],[.str [114],.str [46],.str [98],.str [98],.str [47,98],.str [47,98],.str [47,114]],[.str [114],.str [46],.str [98],.str [98],.str [47,98],.str [47,98],.str [47,114]],[.str [114],.str [98],.str [47,98],.str [98],.str [47,98],.str [46],.str [47,114]],[.str [114],.str [46],.str [46],.str [98],.str [47,98],.str [46],.str [47,114]],[.str [114],.str [98],.str [98],.str [47,98],.str [47,98],.str [46],.str [47,114]],[.str [114],.str [46],.str [98],.str [47,98],.str [46],.str [46],.str [47,114]],[.str [114],.str [98],.str [47,98],.str [46],.str [46],.str [46],.str [47,114]],[.str [114],.str [46],.str [46],.str [46],.str [46],.str [46],.str [47,114]]]
noncomputable def lW:List (List V):=[[(Iv 20),(Iv 20),(Iv 20),(Iv 20),(Iv 20)],[(Iv 21),(Iv 20),(Iv 20),(Iv 20),(Iv 20)],[(Iv 20),(Iv 21),(Iv 20),(Iv 20),(Iv 20)],[(Iv 21),(Iv 21),(Iv 20),(Iv 20),(Iv 20)],[(Iv 20),(Iv 20),(Iv 21),(Iv 20),(Iv 20)],[(Iv 21),(Iv 20),(Iv 21),(Iv 20),(Iv 20)],[(Iv 20),(Iv 21),(Iv 21),(Iv 20),(Iv 20)],[(Iv 21),(Iv 21),(Iv 21),(Iv 20),(Iv 20)],[(Iv 20),(Iv 20),(Iv 20),(Iv 21),(Iv 20)],[(Iv 21),(Iv 20),(Iv 20),(Iv 21),(Iv 20)],[(Iv 20),(Iv 21),(Iv 20),(Iv 21),(Iv 20)],[(Iv 21),(Iv 21),(Iv 20),(Iv 21),(Iv 20)],[(Iv 20),(Iv 20),(Iv 21),(Iv 21),(Iv 20)],[(Iv 21),(Iv 20),(Iv 21),(Iv 21),(Iv 20)],[(Iv 20),(Iv 21),(Iv 21),(Iv 21),(Iv 20)],[(Iv 21),(Iv 21),(Iv 21),(Iv 21),(Iv 20)],[(Iv 20),(Iv 20),(Iv 20),(Iv 20),(Iv 21)],[(Iv 21),(Iv 20),(Iv 20),(Iv 20),(Iv 21)],[(Iv 20),(Iv 21),(Iv 20),(Iv 20),(Iv 21)],[(Iv 21),(Iv 21),(Iv 20),(Iv 20),(Iv 21)],[(Iv 20),(Iv 20),(Iv 21),(Iv 20),(Iv 21)],[(Iv 21),(Iv 20),(Iv 21),(Iv 20),(Iv 21)],[(Iv 20),(Iv 21),(Iv 21),(Iv 20),(Iv 21)],[(Iv 21),(Iv 21),(Iv 21),(Iv 20),(Iv 21)],[(Iv 20),(Iv 20),(Iv 20),(Iv 21),(Iv 21)],[(Iv 21),(Iv 20),(Iv 20),(Iv 21),(Iv 21)],[(Iv 20),(Iv 21),(Iv 20),(Iv 21),(Iv 21)],[(Iv 21),(Iv 21),(Iv 20),(Iv 21),(Iv 21)],[(Iv 20),(Iv 20),(Iv 21),(Iv 21),(Iv 21)],[(Iv 21),(Iv 20),(Iv 21),(Iv 21),(Iv 21)],[(Iv 20),(Iv 21),(Iv 21),(Iv 21),(Iv 21)],[(Iv 21),(Iv 21),(Iv 21),(Iv 21),(Iv 21)]]
noncomputable def ip:List (List V):=[[(Iv 0),(Iv 1),(Iv 3),(Iv 7),(Iv 15),(Iv 31)],[(Iv 0),(Iv 1),(Iv 3),(Iv 7),(Iv 15),(Iv 31)],[(Iv 2),(Iv 6),(Iv 14),(Iv 30)],[(Iv 0),(Iv 1),(Iv 3),(Iv 7),(Iv 15),(Iv 31)],[(Iv 4),(Iv 5),(Iv 13),(Iv 29)],[(Iv 4),(Iv 5),(Iv 13),(Iv 29)],[(Iv 2),(Iv 6),(Iv 14),(Iv 30)],[(Iv 0),(Iv 1),(Iv 3),(Iv 7),(Iv 15),(Iv 31)],[(Iv 8),(Iv 9),(Iv 11),(Iv 27)],[(Iv 8),(Iv 9),(Iv 11),(Iv 27)],[(Iv 10),(Iv 26)],[(Iv 8),(Iv 9),(Iv 11),(Iv 27)],[(Iv 12),(Iv 28)],[(Iv 4),(Iv 5),(Iv 13),(Iv 29)],[(Iv 2),(Iv 6),(Iv 14),(Iv 30)],[(Iv 0),(Iv 1),(Iv 3),(Iv 7),(Iv 15),(Iv 31)],[(Iv 16),(Iv 17),(Iv 19),(Iv 23)],[(Iv 16),(Iv 17),(Iv 19),(Iv 23)],[(Iv 18),(Iv 22)],[(Iv 16),(Iv 17),(Iv 19),(Iv 23)],[(Iv 20),(Iv 21)],[(Iv 20),(Iv 21)],[(Iv 18),(Iv 22)],[(Iv 16),(Iv 17),(Iv 19),(Iv 23)],[(Iv 24),(Iv 25)],[(Iv 24),(Iv 25)],[(Iv 10),(Iv 26)],[(Iv 8),(Iv 9),(Iv 11),(Iv 27)],[(Iv 12),(Iv 28)],[(Iv 4),(Iv 5),(Iv 13),(Iv 29)],[(Iv 2),(Iv 6),(Iv 14),(Iv 30)],[(Iv 0),(Iv 1),(Iv 3),(Iv 7),(Iv 15),(Iv 31)]]
noncomputable def gx:List (List V):=[[(Iv 0),(Iv 1),(Iv 3),(Iv 7),(Iv 15),(Iv 31)],[(Iv 16),(Iv 17),(Iv 19),(Iv 23)],[(Iv 8),(Iv 9),(Iv 11),(Iv 27)],[(Iv 24),(Iv 25)],[(Iv 4),(Iv 5),(Iv 13),(Iv 29)],[(Iv 20),(Iv 21)],[(Iv 12),(Iv 28)],[(Iv 2),(Iv 6),(Iv 14),(Iv 30)],[(Iv 18),(Iv 22)],[(Iv 10),(Iv 26)]]
noncomputable def lX:List T:=[[32,32,32,32,32],[9,32,32,32,32],[32,9,32,32,32],[9,9,32,32,32],[32,32,9,32,32],[9,32,9,32,32],[32,9,9,32,32],[9,9,9,32,32],[32,32,32,9,32],[9,32,32,9,32],[32,9,32,9,32],[9,9,32,9,32],[32,32,9,9,32],[9,32,9,9,32],[32,9,9,9,32],[9,9,9,9,32],[32,32,32,32,9],[9,32,32,32,9],[32,9,32,32,9],[9,9,32,32,9],[32,32,9,32,9],[9,32,9,32,9],[32,9,9,32,9],[9,9,9,32,9],[32,32,32,9,9],[9,32,32,9,9],[32,9,32,9,9],[9,9,32,9,9],[32,32,9,9,9],[9,32,9,9,9],[32,9,9,9,9],[9,9,9,9,9]]
noncomputable def iq:List T:=[[32,32,32,32,32,32],[9,32,32,32,32,32],[32,9,32,32,32,32],[9,9,32,32,32,32],[32,32,9,32,32,32],[9,32,9,32,32,32],[32,9,9,32,32,32],[9,9,9,32,32,32],[32,32,32,9,32,32],[9,32,32,9,32,32],[32,9,32,9,32,32],[9,9,32,9,32,32],[32,32,9,9,32,32],[9,32,9,9,32,32],[32,9,9,9,32,32],[9,9,9,9,32,32],[32,32,32,32,9,32],[9,32,32,32,9,32],[32,9,32,32,9,32],[9,9,32,32,9,32],[32,32,9,32,9,32],[9,32,9,32,9,32],[32,9,9,32,9,32],[9,9,9,32,9,32],[32,32,32,9,9,32],[9,32,32,9,9,32],[32,9,32,9,9,32],[9,9,32,9,9,32],[32,32,9,9,9,32],[9,32,9,9,9,32],[32,9,9,9,9,32],[9,9,9,9,9,32]]
noncomputable def lY:List (List V):=[[(Iv 5),(Iv 5),(Iv 5),(Iv 5),(Iv 5),(Iv 5),(Iv 5)],[(Iv 5),(Iv 6),(Iv 7),(Iv 8),(Iv 9),(Iv 10),(Iv 11)],[(Iv 5),(Iv 5),(Iv 6),(Iv 7),(Iv 8),(Iv 9),(Iv 10)],[(Iv 5),(Iv 7),(Iv 9),(Iv 11),(Iv 13),(Iv 15),(Iv 17)],[(Iv 5),(Iv 6),(Iv 5),(Iv 6),(Iv 7),(Iv 8),(Iv 9)],[(Iv 5),(Iv 6),(Iv 8),(Iv 10),(Iv 12),(Iv 14),(Iv 16)],[(Iv 5),(Iv 6),(Iv 8),(Iv 10),(Iv 12),(Iv 14),(Iv 16)],[(Iv 5),(Iv 8),(Iv 11),(Iv 14),(Iv 17),(Iv 20),(Iv 23)],[(Iv 5),(Iv 5),(Iv 7),(Iv 5),(Iv 6),(Iv 7),(Iv 8)],[(Iv 5),(Iv 7),(Iv 7),(Iv 9),(Iv 11),(Iv 13),(Iv 15)],[(Iv 5),(Iv 5),(Iv 7),(Iv 9),(Iv 11),(Iv 13),(Iv 15)],[(Iv 5),(Iv 7),(Iv 10),(Iv 13),(Iv 16),(Iv 19),(Iv 22)],[(Iv 5),(Iv 7),(Iv 7),(Iv 9),(Iv 11),(Iv 13),(Iv 15)],[(Iv 5),(Iv 7),(Iv 10),(Iv 13),(Iv 16),(Iv 19),(Iv 22)],[(Iv 5),(Iv 7),(Iv 10),(Iv 13),(Iv 16),(Iv 19),(Iv 22)],[(Iv 5),(Iv 9),(Iv 13),(Iv 17),(Iv 21),(Iv 25),(Iv 29)],[(Iv 5),(Iv 6),(Iv 6),(Iv 8),(Iv 5),(Iv 6),(Iv 7)],[(Iv 5),(Iv 6),(Iv 9),(Iv 8),(Iv 10),(Iv 12),(Iv 14)],[(Iv 5),(Iv 6),(Iv 6),(Iv 8),(Iv 10),(Iv 12),(Iv 14)],[(Iv 5),(Iv 8),(Iv 9),(Iv 12),(Iv 15),(Iv 18),(Iv 21)],[(Iv 5),(Iv 6),(Iv 6),(Iv 8),(Iv 10),(Iv 12),(Iv 14)],[(Iv 5),(Iv 6),(Iv 9),(Iv 12),(Iv 15),(Iv 18),(Iv 21)],[(Iv 5),(Iv 6),(Iv 9),(Iv 12),(Iv 15),(Iv 18),(Iv 21)],[(Iv 5),(Iv 8),(Iv 12),(Iv 16),(Iv 20),(Iv 24),(Iv 28)],[(Iv 5),(Iv 6),(Iv 9),(Iv 8),(Iv 10),(Iv 12),(Iv 14)],[(Iv 5),(Iv 8),(Iv 9),(Iv 12),(Iv 15),(Iv 18),(Iv 21)],[(Iv 5),(Iv 6),(Iv 9),(Iv 12),(Iv 15),(Iv 18),(Iv 21)],[(Iv 5),(Iv 8),(Iv 12),(Iv 16),(Iv 20),(Iv 24),(Iv 28)],[(Iv 5),(Iv 8),(Iv 9),(Iv 12),(Iv 15),(Iv 18),(Iv 21)],[(Iv 5),(Iv 8),(Iv 12),(Iv 16),(Iv 20),(Iv 24),(Iv 28)],[(Iv 5),(Iv 8),(Iv 12),(Iv 16),(Iv 20),(Iv 24),(Iv 28)],[(Iv 5),(Iv 10),(Iv 15),(Iv 20),(Iv 25),(Iv 30),(Iv 35)]]
noncomputable def ir:List (List V):=[[(Iv 6),(Iv 6),(Iv 6),(Iv 6),(Iv 6),(Iv 6),(Iv 6)],[(Iv 6),(Iv 7),(Iv 8),(Iv 9),(Iv 10),(Iv 11),(Iv 12)],[(Iv 6),(Iv 6),(Iv 7),(Iv 8),(Iv 9),(Iv 10),(Iv 11)],[(Iv 6),(Iv 8),(Iv 10),(Iv 12),(Iv 14),(Iv 16),(Iv 18)],[(Iv 6),(Iv 7),(Iv 6),(Iv 7),(Iv 8),(Iv 9),(Iv 10)],[(Iv 6),(Iv 7),(Iv 9),(Iv 11),(Iv 13),(Iv 15),(Iv 17)],[(Iv 6),(Iv 7),(Iv 9),(Iv 11),(Iv 13),(Iv 15),(Iv 17)],[(Iv 6),(Iv 9),(Iv 12),(Iv 15),(Iv 18),(Iv 21),(Iv 24)],[(Iv 6),(Iv 6),(Iv 8),(Iv 6),(Iv 7),(Iv 8),(Iv 9)],[(Iv 6),(Iv 8),(Iv 8),(Iv 10),(Iv 12),(Iv 14),(Iv 16)],[(Iv 6),(Iv 6),(Iv 8),(Iv 10),(Iv 12),(Iv 14),(Iv 16)],[(Iv 6),(Iv 8),(Iv 11),(Iv 14),(Iv 17),(Iv 20),(Iv 23)],[(Iv 6),(Iv 8),(Iv 8),(Iv 10),(Iv 12),(Iv 14),(Iv 16)],[(Iv 6),(Iv 8),(Iv 11),(Iv 14),(Iv 17),(Iv 20),(Iv 23)],[(Iv 6),(Iv 8),(Iv 11),(Iv 14),(Iv 17),(Iv 20),(Iv 23)],[(Iv 6),(Iv 10),(Iv 14),(Iv 18),(Iv 22),(Iv 26),(Iv 30)],[(Iv 6),(Iv 7),(Iv 7),(Iv 9),(Iv 6),(Iv 7),(Iv 8)],[(Iv 6),(Iv 7),(Iv 10),(Iv 9),(Iv 11),(Iv 13),(Iv 15)],[(Iv 6),(Iv 7),(Iv 7),(Iv 9),(Iv 11),(Iv 13),(Iv 15)],[(Iv 6),(Iv 9),(Iv 10),(Iv 13),(Iv 16),(Iv 19),(Iv 22)],[(Iv 6),(Iv 7),(Iv 7),(Iv 9),(Iv 11),(Iv 13),(Iv 15)],[(Iv 6),(Iv 7),(Iv 10),(Iv 13),(Iv 16),(Iv 19),(Iv 22)],[(Iv 6),(Iv 7),(Iv 10),(Iv 13),(Iv 16),(Iv 19),(Iv 22)],[(Iv 6),(Iv 9),(Iv 13),(Iv 17),(Iv 21),(Iv 25),(Iv 29)],[(Iv 6),(Iv 7),(Iv 10),(Iv 9),(Iv 11),(Iv 13),(Iv 15)],[(Iv 6),(Iv 9),(Iv 10),(Iv 13),(Iv 16),(Iv 19),(Iv 22)],[(Iv 6),(Iv 7),(Iv 10),(Iv 13),(Iv 16),(Iv 19),(Iv 22)],[(Iv 6),(Iv 9),(Iv 13),(Iv 17),(Iv 21),(Iv 25),(Iv 29)],[(Iv 6),(Iv 9),(Iv 10),(Iv 13),(Iv 16),(Iv 19),(Iv 22)],[(Iv 6),(Iv 9),(Iv 13),(Iv 17),(Iv 21),(Iv 25),(Iv 29)],[(Iv 6),(Iv 9),(Iv 13),(Iv 17),(Iv 21),(Iv 25),(Iv 29)],[(Iv 6),(Iv 11),(Iv 16),(Iv 21),(Iv 26),(Iv 31),(Iv 36)]]
def j4:List T:=app lX iq
noncomputable def tr:List Nat:=[0,1,2,3,4,5,5,6,7,8,9,10,8,10,10,11,12,13,14,15,14,16,16,17,13,15,16,17,15,17,17,18,19,20,21,22,23,24,24,25,26,27,28,29,27,29,29,30,31,32,33,34,33,35,35,36,32,34,35,36,34,36,36,37]
noncomputable def wcT:List (Nat×Nat×List V×Nat×Bool):=[(5,0,[],5,true),(5,1,[(Iv 1)],4,true),(5,1,[(Iv 0),(Iv 1)],3,false),(5,2,[(Iv 2)],3,true),(5,1,[(Iv 0),(Iv 0),(Iv 1)],2,false),(5,2,[(Iv 1),(Iv 1)],2,false),(5,3,[(Iv 3)],2,true),(5,1,[(Iv 0),(Iv 0),(Iv 0),(Iv 1)],1,false),(5,2,[(Iv 1),(Iv 0),(Iv 1)],1,false),(5,2,[(Iv 0),(Iv 2)],1,false),(5,3,[(Iv 2),(Iv 1)],1,false),(5,4,[(Iv 4)],1,true),(5,1,[(Iv 0),(Iv 0),(Iv 0),(Iv 0),(Iv 1)],0,false),(5,2,[(Iv 1),(Iv 0),(Iv 0),(Iv 1)],0,false),(5,2,[(Iv 0),(Iv 1),(Iv 1)],0,false),(5,3,[(Iv 2),(Iv 0),(Iv 1)],0,false),(5,3,[(Iv 1),(Iv 2)],0,false),(5,4,[(Iv 3),(Iv 1)],0,false),(5,5,[(Iv 5)],0,true),(6,0,[],6,true),(6,1,[(Iv 1)],5,true),(6,1,[(Iv 0),(Iv 1)],4,false),(6,2,[(Iv 2)],4,true),(6,1,[(Iv 0),(Iv 0),(Iv 1)],3,false),(6,2,[(Iv 1),(Iv 1)],3,false),(6,3,[(Iv 3)],3,true),(6,1,[(Iv 0),(Iv 0),(Iv 0),(Iv 1)],2,false),(6,2,[(Iv 1),(Iv 0),(Iv 1)],2,false),(6,2,[(Iv 0),(Iv 2)],2,false),(6,3,[(Iv 2),(Iv 1)],2,false),(6,4,[(Iv 4)],2,true),(6,1,[(Iv 0),(Iv 0),(Iv 0),(Iv 0),(Iv 1)],1,false),(6,2,[(Iv 1),(Iv 0),(Iv 0),(Iv 1)],1,false),(6,2,[(Iv 0),(Iv 1),(Iv 1)],1,false),(6,3,[(Iv 2),(Iv 0),(Iv 1)],1,false),(6,3,[(Iv 1),(Iv 2)],1,false),(6,4,[(Iv 3),(Iv 1)],1,false),(6,5,[(Iv 5)],1,true)]
section
open Bool renaming true→Tt,false→Nf
noncomputable def LW:List (List Bool):=[[Nf,Nf,Nf,Nf,Nf,Nf,Nf,Nf,Nf,Nf,Nf,Nf,Nf,Nf,Nf,Nf,Nf,Nf,Nf,Tt,Tt,Tt,Tt,Tt,Tt,Tt,Tt,Tt,Tt,Tt,Tt,Tt,Tt,Tt,Tt,Tt,Tt,Tt],[Nf,Nf,Nf,Nf,Nf,Nf,Nf,Nf,Nf,Nf,Nf,Nf,Nf,Nf,Nf,Nf,Nf,Nf,Nf,Nf,Tt,Nf,Tt,Nf,Tt,Tt,Nf,Tt,Nf,Tt,Tt,Nf,Tt,Nf,Tt,Tt,Tt,Tt],[Nf,Nf,Nf,Nf,Nf,Nf,Nf,Nf,Nf,Nf,Nf,Nf,Nf,Nf,Nf,Nf,Nf,Nf,Nf,Nf,Tt,Tt,Tt,Nf,Tt,Tt,Nf,Tt,Tt,Tt,Tt,Nf,Tt,Tt,Tt,Tt,Tt,Tt],[Nf,Nf,Nf,Nf,Nf,Nf,Nf,Nf,Nf,Nf,Nf,Nf,Nf,Nf,Nf,Nf,Nf,Nf,Nf,Nf,Nf,Nf,Tt,Nf,Nf,Tt,Nf,Nf,Nf,Tt,Tt,Nf,Nf,Nf,Tt,Nf,Tt,Tt],[Nf,Nf,Nf,Nf,Nf,Nf,Nf,Nf,Nf,Nf,Nf,Nf,Nf,Nf,Nf,Nf,Nf,Nf,Nf,Nf,Tt,Nf,Tt,Tt,Tt,Tt,Nf,Tt,Nf,Tt,Tt,Nf,Tt,Tt,Tt,Tt,Tt,Tt],[Nf,Nf,Nf,Nf,Nf,Nf,Nf,Nf,Nf,Nf,Nf,Nf,Nf,Nf,Nf,Nf,Nf,Nf,Nf,Nf,Nf,Nf,Tt,Nf,Tt,Tt,Nf,Nf,Nf,Tt,Tt,Nf,Nf,Nf,Tt,Tt,Tt,Tt],[Nf,Nf,Nf,Nf,Nf,Nf,Nf,Nf,Nf,Nf,Nf,Nf,Nf,Nf,Nf,Nf,Nf,Nf,Nf,Nf,Nf,Nf,Nf,Nf,Nf,Tt,Nf,Nf,Nf,Nf,Tt,Nf,Nf,Nf,Nf,Nf,Tt,Tt],[Nf,Nf,Nf,Nf,Nf,Nf,Nf,Nf,Nf,Nf,Nf,Nf,Nf,Nf,Nf,Nf,Nf,Nf,Nf,Nf,Tt,Nf,Tt,Nf,Tt,Tt,Tt,Tt,Tt,Tt,Tt,Nf,Tt,Nf,Tt,Tt,Tt,Tt],[Nf,Nf,Nf,Nf,Nf,Nf,Nf,Nf,Nf,Nf,Nf,Nf,Nf,Nf,Nf,Nf,Nf,Nf,Nf,Nf,Nf,Nf,Tt,Nf,Nf,Tt,Nf,Tt,Nf,Tt,Tt,Nf,Nf,Nf,Tt,Nf,Tt,Tt],[Nf,Nf,Nf,Nf,Nf,Nf,Nf,Nf,Nf,Nf,Nf,Nf,Nf,Nf,Nf,Nf,Nf,Nf,Nf,Nf,Nf,Nf,Tt,Nf,Tt,Tt,Nf,Tt,Tt,Tt,Tt,Nf,Nf,Nf,Tt,Tt,Tt,Tt],[Nf,Nf,Nf,Nf,Nf,Nf,Nf,Nf,Nf,Nf,Nf,Nf,Nf,Nf,Nf,Nf,Nf,Nf,Nf,Nf,Nf,Nf,Nf,Nf,Nf,Tt,Nf,Nf,Nf,Tt,Tt,Nf,Nf,Nf,Nf,Nf,Tt,Tt],[Nf,Nf,Nf,Nf,Nf,Nf,Nf,Nf,Nf,Nf,Nf,Nf,Nf,Nf,Nf,Nf,Nf,Nf,Nf,Nf,Nf,Nf,Nf,Nf,Nf,Nf,Nf,Nf,Nf,Nf,Tt,Nf,Nf,Nf,Nf,Nf,Nf,Tt],[Nf,Nf,Nf,Nf,Nf,Nf,Nf,Nf,Nf,Nf,Nf,Nf,Nf,Nf,Nf,Nf,Nf,Nf,Nf,Nf,Tt,Nf,Tt,Nf,Tt,Tt,Nf,Tt,Nf,Tt,Tt,Tt,Tt,Tt,Tt,Tt,Tt,Tt],[Nf,Nf,Nf,Nf,Nf,Nf,Nf,Nf,Nf,Nf,Nf,Nf,Nf,Nf,Nf,Nf,Nf,Nf,Nf,Nf,Nf,Nf,Tt,Nf,Nf,Tt,Nf,Nf,Nf,Tt,Tt,Nf,Tt,Nf,Tt,Tt,Tt,Tt],[Nf,Nf,Nf,Nf,Nf,Nf,Nf,Nf,Nf,Nf,Nf,Nf,Nf,Nf,Nf,Nf,Nf,Nf,Nf,Nf,Nf,Nf,Tt,Nf,Tt,Tt,Nf,Tt,Nf,Tt,Tt,Nf,Tt,Tt,Tt,Tt,Tt,Tt],[Nf,Nf,Nf,Nf,Nf,Nf,Nf,Nf,Nf,Nf,Nf,Nf,Nf,Nf,Nf,Nf,Nf,Nf,Nf,Nf,Nf,Nf,Nf,Nf,Nf,Tt,Nf,Nf,Nf,Nf,Tt,Nf,Nf,Nf,Tt,Nf,Tt,Tt],[Nf,Nf,Nf,Nf,Nf,Nf,Nf,Nf,Nf,Nf,Nf,Nf,Nf,Nf,Nf,Nf,Nf,Nf,Nf,Nf,Nf,Nf,Nf,Nf,Nf,Tt,Nf,Nf,Nf,Tt,Tt,Nf,Nf,Nf,Tt,Tt,Tt,Tt],[Nf,Nf,Nf,Nf,Nf,Nf,Nf,Nf,Nf,Nf,Nf,Nf,Nf,Nf,Nf,Nf,Nf,Nf,Nf,Nf,Nf,Nf,Nf,Nf,Nf,Nf,Nf,Nf,Nf,Nf,Tt,Nf,Nf,Nf,Nf,Nf,Tt,Tt],[Nf,Nf,Nf,Nf,Nf,Nf,Nf,Nf,Nf,Nf,Nf,Nf,Nf,Nf,Nf,Nf,Nf,Nf,Nf,Nf,Nf,Nf,Nf,Nf,Nf,Nf,Nf,Nf,Nf,Nf,Nf,Nf,Nf,Nf,Nf,Nf,Nf,Tt],[Nf,Nf,Nf,Nf,Nf,Nf,Nf,Nf,Nf,Nf,Nf,Nf,Nf,Nf,Nf,Nf,Nf,Nf,Nf,Nf,Nf,Nf,Nf,Nf,Nf,Nf,Nf,Nf,Nf,Nf,Nf,Nf,Nf,Nf,Nf,Nf,Nf,Nf],[Nf,Nf,Nf,Nf,Nf,Nf,Nf,Nf,Nf,Nf,Nf,Nf,Nf,Nf,Nf,Nf,Nf,Nf,Nf,Nf,Nf,Nf,Nf,Nf,Nf,Nf,Nf,Nf,Nf,Nf,Nf,Nf,Nf,Nf,Nf,Nf,Nf,Nf],[Nf,Nf,Nf,Nf,Nf,Nf,Nf,Nf,Nf,Nf,Nf,Nf,Nf,Nf,Nf,Nf,Nf,Nf,Nf,Nf,Nf,Nf,Nf,Nf,Nf,Nf,Nf,Nf,Nf,Nf,Nf,Nf,Nf,Nf,Nf,Nf,Nf,Nf],[Nf,Nf,Nf,Nf,Nf,Nf,Nf,Nf,Nf,Nf,Nf,Nf,Nf,Nf,Nf,Nf,Nf,Nf,Nf,Nf,Nf,Nf,Nf,Nf,Nf,Nf,Nf,Nf,Nf,Nf,Nf,Nf,Nf,Nf,Nf,Nf,Nf,Nf],[Nf,Nf,Nf,Nf,Nf,Nf,Nf,Nf,Nf,Nf,Nf,Nf,Nf,Nf,Nf,Nf,Nf,Nf,Nf,Nf,Nf,Nf,Nf,Nf,Nf,Nf,Nf,Nf,Nf,Nf,Nf,Nf,Nf,Nf,Nf,Nf,Nf,Nf],[Nf,Nf,Nf,Nf,Nf,Nf,Nf,Nf,Nf,Nf,Nf,Nf,Nf,Nf,Nf,Nf,Nf,Nf,Nf,Nf,Nf,Nf,Nf,Nf,Nf,Nf,Nf,Nf,Nf,Nf,Nf,Nf,Nf,Nf,Nf,Nf,Nf,Nf],[Nf,Nf,Nf,Nf,Nf,Nf,Nf,Nf,Nf,Nf,Nf,Nf,Nf,Nf,Nf,Nf,Nf,Nf,Nf,Nf,Nf,Nf,Nf,Nf,Nf,Nf,Nf,Nf,Nf,Nf,Nf,Nf,Nf,Nf,Nf,Nf,Nf,Nf],[Nf,Nf,Nf,Nf,Nf,Nf,Nf,Nf,Nf,Nf,Nf,Nf,Nf,Nf,Nf,Nf,Nf,Nf,Nf,Nf,Nf,Nf,Nf,Nf,Nf,Nf,Nf,Nf,Nf,Nf,Nf,Nf,Nf,Nf,Nf,Nf,Nf,Nf],[Nf,Nf,Nf,Nf,Nf,Nf,Nf,Nf,Nf,Nf,Nf,Nf,Nf,Nf,Nf,Nf,Nf,Nf,Nf,Nf,Nf,Nf,Nf,Nf,Nf,Nf,Nf,Nf,Nf,Nf,Nf,Nf,Nf,Nf,Nf,Nf,Nf,Nf],[Nf,Nf,Nf,Nf,Nf,Nf,Nf,Nf,Nf,Nf,Nf,Nf,Nf,Nf,Nf,Nf,Nf,Nf,Nf,Nf,Nf,Nf,Nf,Nf,Nf,Nf,Nf,Nf,Nf,Nf,Nf,Nf,Nf,Nf,Nf,Nf,Nf,Nf],[Nf,Nf,Nf,Nf,Nf,Nf,Nf,Nf,Nf,Nf,Nf,Nf,Nf,Nf,Nf,Nf,Nf,Nf,Nf,Nf,Nf,Nf,Nf,Nf,Nf,Nf,Nf,Nf,Nf,Nf,Nf,Nf,Nf,Nf,Nf,Nf,Nf,Nf],[Nf,Nf,Nf,Nf,Nf,Nf,Nf,Nf,Nf,Nf,Nf,Nf,Nf,Nf,Nf,Nf,Nf,Nf,Nf,Nf,Nf,Nf,Nf,Nf,Nf,Nf,Nf,Nf,Nf,Nf,Nf,Nf,Nf,Nf,Nf,Nf,Nf,Nf],[Nf,Nf,Nf,Nf,Nf,Nf,Nf,Nf,Nf,Nf,Nf,Nf,Nf,Nf,Nf,Nf,Nf,Nf,Nf,Nf,Nf,Nf,Nf,Nf,Nf,Nf,Nf,Nf,Nf,Nf,Nf,Nf,Nf,Nf,Nf,Nf,Nf,Nf],[Nf,Nf,Nf,Nf,Nf,Nf,Nf,Nf,Nf,Nf,Nf,Nf,Nf,Nf,Nf,Nf,Nf,Nf,Nf,Nf,Nf,Nf,Nf,Nf,Nf,Nf,Nf,Nf,Nf,Nf,Nf,Nf,Nf,Nf,Nf,Nf,Nf,Nf],[Nf,Nf,Nf,Nf,Nf,Nf,Nf,Nf,Nf,Nf,Nf,Nf,Nf,Nf,Nf,Nf,Nf,Nf,Nf,Nf,Nf,Nf,Nf,Nf,Nf,Nf,Nf,Nf,Nf,Nf,Nf,Nf,Nf,Nf,Nf,Nf,Nf,Nf],[Nf,Nf,Nf,Nf,Nf,Nf,Nf,Nf,Nf,Nf,Nf,Nf,Nf,Nf,Nf,Nf,Nf,Nf,Nf,Nf,Nf,Nf,Nf,Nf,Nf,Nf,Nf,Nf,Nf,Nf,Nf,Nf,Nf,Nf,Nf,Nf,Nf,Nf],[Nf,Nf,Nf,Nf,Nf,Nf,Nf,Nf,Nf,Nf,Nf,Nf,Nf,Nf,Nf,Nf,Nf,Nf,Nf,Nf,Nf,Nf,Nf,Nf,Nf,Nf,Nf,Nf,Nf,Nf,Nf,Nf,Nf,Nf,Nf,Nf,Nf,Nf],[Nf,Nf,Nf,Nf,Nf,Nf,Nf,Nf,Nf,Nf,Nf,Nf,Nf,Nf,Nf,Nf,Nf,Nf,Nf,Nf,Nf,Nf,Nf,Nf,Nf,Nf,Nf,Nf,Nf,Nf,Nf,Nf,Nf,Nf,Nf,Nf,Nf,Nf],[Nf,Nf,Nf,Nf,Nf,Nf,Nf,Nf,Nf,Nf,Nf,Nf,Nf,Nf,Nf,Nf,Nf,Nf,Nf,Nf,Nf,Nf,Nf,Nf,Nf,Nf,Nf,Nf,Nf,Nf,Nf,Nf,Nf,Nf,Nf,Nf,Nf,Nf]]
end
def onc(l:List Nat)(f:Nat→Option (V×H)):List (Option (V×H)):=mp f l
noncomputable def aQ(n:Nat):List Nat:=[n,n+1,n+2,n+3,n+4,n+5,n+6,n+7]
def ac:List Nat:=az 0 32
noncomputable def yL:H→Nat→List V→Option (V×H):=λZ Z Z=>none
def itA:Ih:=itp gD yL 40
def getL{α:Type}(z:α)(l:List α)(r:Nat):α:= @U9 α (λZ=>α) z (λx=>x) (nth l r)
def ej(r:Nat):T:=getL [] lV r
def iV(r:Nat):List V:=getL [] lW r
def ag(r:Nat):List V:=getL [] dG r
def qh(r:Nat):List V:=getL [] lY r
def jv(r:Nat):List V:=getL [] ir r
def tt(r:Nat):T:=getL [] lX r
def nj(r:Nat):T:=getL [] iq r
def ao(b:Nat):List V:=mp V.str (nz 5 (dropL b Dw))
def oh(h:H):Bool:= @U9 O (λZ=>Bool) false l9 (nth h 0)
def ek{α:Type}(p:α→Bool)(l:List α):Nat→Option Nat:= @Vq α (λZ=>Nat→Option Nat) Za (λa Z ih n=>bc (p a) (some n) (ih (Nat.succ n))) l
def Dx(a b:V):Bool:= @U9 Int (λZ=>Bool) false (λi=> @U9 Int (λZ=>Bool) false (λj=>iEq i j) (ax b)) (ax a)
def Dz(a b:V):Bool:= @U9 T (λZ=>Bool) false (λi=> @U9 T (λZ=>Bool) false (λj=>tEq i j) (aT b)) (aT a)
def qj(e:V→V→Bool)(a:List V):List V→Bool:= @Vq V (λZ=>List V→Bool) (λb=>aV b) (λx Z ih b=> @UO V (λZ=>Bool) b false (λy r=>bc (e x y) (ih r) false)) a
def tv(h:H)(a:Nat)(vs:List V):Option (V×H):=gd (oh h) (bc (Nat.beq a 259) (one vs λv=>ob (eF v) λr=>ob (nth lV r) λp=>some (.str p,h))
 (bc (Nat.beq a 266) (one vs λv=>ob (aH v) λk=>ob (aL h k) λxs=>ob (ek (λrow=>qj Dx row xs) lW 0) λr=>ob (nth lV r) λp=>some (.str p,h))
 (gd (Nat.beq a 273) (one vs λv=>ob (aT v) λs=>ob (ek (λp=>tEq p s) lV 0) λr=>ob (nth lW r) λrow=>ob (nth dG r) λsh=>
  some (.loc (len h),app h [.tup [.loc (Nat.add (len h) 1),.loc (Nat.add (len h) 2)],.list row,.list sh])))))
def itB:Ih:=itp gD tv 40
noncomputable def c0:O:= .cell none
def chO(n:Nat):List O:=app [.list (mp V.loc (az n 10))] (mp O.list gx)
def j6(h:H)(a:Nat)(vs:List V):Option (V×H):= @U9 (V×H) (λZ=>Option (V×H)) (gd (oh h) (bc (Nat.beq a 278) (ob (rj vs) λp=>ob (eF p.1) λr=>ob (rj p.2) λq=>ob (eF q.1) λb=>one q.2 λv=>ob (aH v) λk=>ob (aL h k) λxs=>
 gd (Nat.blt r 32) (gd (Nat.blt b 12) (gd (qj Dz (ao b) xs) (ob (nth dG r) λsh=>some (.loc (len h),app h [.list sh])))))
 (bc (Nat.beq a 285) (one vs λv=>ob (aT v) λs=> @U9 Nat (λZ=>Option (V×H)) (ob (ek (λp=>tEq p s) iq 0) λr=>ob (nth ir r) λl=>some (.loc (len h),app h [.list l])) (λr=>ob (nth lY r) λl=>some (.loc (len h),app h [.list l])) (ek (λp=>tEq p s) lX 0))
 (gd (Nat.beq a 290) (gd (aV vs) (some (.loc (len h),app h (app [.list (mp V.loc (az (Nat.add (len h) 1) 10))] (mp O.list gx)))))))))
 (λr=>some r) (tv h a vs)
def itC:Ih:=itp gD j6 40
noncomputable def hdS(s:S):S:=match s with| .cons a _=>a|_=> .nil
noncomputable def tlS(s:S):S:=match s with| .cons _ r=>r|_=> .nil
def fP(n:Nat)(s:S):S:= @Nat.rec (λZ=>S→S) hdS (λZ ih s=>ih (tlS s)) n s
noncomputable def RV(s:S):S:=match s with| .for_ _ _ b _ _=>b|_=> .nil
def pk(l:List Nat)(s:S):S:= @Vq Nat (λZ=>S) .nil (λn Z r=> .cons (fP n s) r) l
def j7:S:=RV (fP 7 dF)
def q1:S:=pk [2,3,4,5,6] dF
def qA:S:=pk [0] j7
def qB:S:=pk [1,2,3,4,5] j7
def qC:S:=pk [6] j7
def qD:S:=pk [7,8,9,10] j7
def qE:S:=pk [11,12] j7
def q9:S:=pk [8,9,10] dF
def fr(ce:List Nat):Frm:=⟨oa,ce,0,294⟩
def chN(r:Nat):List V:=getL [] ip r
def onS(l:List Nat)(f:Nat→Option R3):List (Option R3):=mp f l
noncomputable def loS(x0 x1 x2 x3 x4 x5 x6 x7:Option V):Lo:=[x0,x1,x2,x3,x4,x5,x6,x7,none,none,none,none,none,none,none,none]
def ca(r:Nat):V:=getL .none (chN r) 0
def LX(a b:V):Bool:= @U9 Nat (λZ=>Bool) false (λi=> @U9 Nat (λZ=>Bool) false (λj=>Nat.beq i j) (aH b)) (aH a)
noncomputable def DA(v:V):Option Bool:= @V.casesOn (λZ=>Option Bool) v none (λb=>some b) Za Za Za Za Za Za Zb
def LY(a b:V):Bool:= @U9 Bool (λZ=>Bool) false (λi=> @U9 Bool (λZ=>Bool) false (λj=>bc i j (bn j)) (DA b)) (DA a)
def eqV(a b:V):Bool:=bc (Dx a b) true (bc (Dz a b) true (bc (LX a b) true (LY a b)))
def DB(a:List (T×V)):List (T×V)→Bool:= @Vq (T×V) (λZ=>List (T×V)→Bool) (λb=>aV b) (λx Z ih b=> @UO (T×V) (λZ=>Bool) b false (λy r=>bc (tEq x.1 y.1) (bc (eqV x.2 y.2) (ih r) false) false)) a
noncomputable def tw:T:=[114,97,119]
noncomputable def k_n:T:=[110]
noncomputable def LZ:T:=[110,116]
noncomputable def np:T:=[110,111,114,109]
noncomputable def lZ:T:=[105,115,95,115,105,109,112,108,101]
def wcN(c:Nat):Nat×Nat×List V×Nat×Bool:=getL (0,0,[],0,true) wcT c
def dQ(c:Nat)(s:T)(t:Nat):List (T×V):=[(tw,.str s),(k_n,.int (.ofNat (wcN c).1)),(LZ,.int (.ofNat (wcN c).2.1)),(np,.loc t),(lZ,.bool (wcN c).2.2.2.2)]
def cb(c t:Nat):List V:=[.loc t,.int (.ofNat (wcN c).2.2.2.1)]
def cc(c:Nat):List V:=(wcN c).2.2.1
def fw(i:Nat):T:=getL [] j4 i
def el(i:Nat):Nat:=getL 0 tr i
def bK(c1 c2:Nat):Bool:=getL false (getL [] LW c1) c2
def hsW(c1:Nat)(s1:T)(c2:Nat)(s2:T):H:=[.ltab,.inst 108 2,.sd (dQ c1 s1 3),.tup (cb c1 4),.tup (cc c1),.inst 108 6,.sd (dQ c2 s2 7),.tup (cb c2 8),.tup (cc c2)]
def tx(h:H)(k:Nat):Option (List V):=ob (nth h k) oq
def DC(h:H)(v:V):Option (List Nat×Nat×T):=ob (aH v) λk=>ob (nth h k) λo=>ob (fR o) λcd=>gd (Nat.beq cd.1 108) (ob (ku h cd.2) λes=>ob (look tw es) λvr=>ob (aT vr) λs=>ob (ek (λp=>tEq p s) j4 0) λi=>ob (nth tr i) λc=>
 ob (look np es) λvn=>ob (aH vn) λt=>gd (DB es (dQ c s t)) (ob (tx h t) λtp=>ob (rj tp) λp=>ob (aH p.1) λq=>gd (qj eqV tp (cb c q)) (ob (tx h q) λcn=>gd (qj eqV cn (cc c)) (some ([k,cd.2,t,q],c,s)))))
def tz(h:H)(a:Nat)(vs:List V):Option (V×H):=gd (oh h) (bc (Nat.beq a 63) (two vs λv u=>ob (aH v) λk=>ob (nth h k) λo=>ob (fR o) λcd=>gd (Nat.beq cd.1 108) (ob (ku h cd.2) λes=>gd (aV es) (ob (aT u) λs=>ob (ek (λp=>tEq p s) j4 0) λi=>ob (nth tr i) λc=>
 some (.none,app (cG (.sd (dQ c s (len h))) h cd.2) [.tup (cb c (Nat.add (len h) 1)),.tup (cc c)]))))
 (gd (Nat.beq a 98) (two vs λv u=>ob (DC h v) λx=>ob (DC h u) λy=>gd (Nat.blt x.2.1 19) (gd (Nat.blt 18 y.2.1) (gd (Nat.blt y.2.1 38) (gd (ndN (0::app x.1 y.1)) (some (.bool (bK x.2.1 y.2.1),h))))))))
def L0(h:H)(a:Nat)(vs:List V):Option (V×H):= @U9 (V×H) (λZ=>Option (V×H)) (tz h a vs) (λr=>some r) (j6 h a vs)
def itD:Ih:=itp gD L0 40
def j8(k r:Nat):Option (V×H):=fu 1 (itA.c [.ltab] 259 [.int (.ofNat r)])
def j9(k r:Nat):Option (V×H):=some (.str (ej r),[.ltab])
theorem DD:onc (aQ 0) (j8 0)=onc (aQ 0) (j9 0):=by kernel_rfl
def kb(k r:Nat):Option (V×H):=fu 2 (itA.c [.ltab,.list (iV r)] 266 [.loc 1])
def ke(k r:Nat):Option (V×H):=some (.str (ej r),[.ltab,.list (iV r)])
theorem DE:onc (aQ 0) (kb 0)=onc (aQ 0) (ke 0):=by kernel_rfl
def kf(k r:Nat):Option (V×H):=fu 1 (itA.c [.ltab] 273 [.str (ej r)])
def kh(k r:Nat):Option (V×H):=some (.loc 1,[.ltab,.tup [.loc 2,.loc 3],.list (iV r),.list (ag r)])
theorem DF:onc (aQ 0) (kf 0)=onc (aQ 0) (kh 0):=by kernel_rfl
theorem DG:onc (aQ 8) (j8 8)=onc (aQ 8) (j9 8):=by kernel_rfl
theorem DH:onc (aQ 8) (kb 8)=onc (aQ 8) (ke 8):=by kernel_rfl
theorem DI:onc (aQ 8) (kf 8)=onc (aQ 8) (kh 8):=by kernel_rfl
theorem xc:onc (aQ 16) (j8 16)=onc (aQ 16) (j9 16):=by kernel_rfl
theorem xd:onc (aQ 16) (kb 16)=onc (aQ 16) (ke 16):=by kernel_rfl
theorem xe:onc (aQ 16) (kf 16)=onc (aQ 16) (kh 16):=by kernel_rfl
theorem xg:onc (aQ 24) (j8 24)=onc (aQ 24) (j9 24):=by kernel_rfl
theorem xi:onc (aQ 24) (kb 24)=onc (aQ 24) (ke 24):=by kernel_rfl
theorem xj:onc (aQ 24) (kf 24)=onc (aQ 24) (kh 24):=by kernel_rfl
def bQ(k r:Nat):Option (V×H):=fu 2 (itB.c [.ltab,.list (ao k)] 278 [.int (.ofNat r),.int (.ofNat k),.loc 1])
def bR(k r:Nat):Option (V×H):=some (.loc 2,[.ltab,.list (ao k),.list (ag r)])
theorem xk:onc ac (bQ 0)=onc ac (bR 0):=by kernel_rfl
theorem xm:onc ac (bQ 1)=onc ac (bR 1):=by kernel_rfl
theorem xn:onc ac (bQ 2)=onc ac (bR 2):=by kernel_rfl
theorem xo:onc ac (bQ 3)=onc ac (bR 3):=by kernel_rfl
theorem xp:onc ac (bQ 4)=onc ac (bR 4):=by kernel_rfl
theorem xq:onc ac (bQ 5)=onc ac (bR 5):=by kernel_rfl
theorem xr:onc ac (bQ 6)=onc ac (bR 6):=by kernel_rfl
theorem xt:onc ac (bQ 7)=onc ac (bR 7):=by kernel_rfl
theorem xu:onc ac (bQ 8)=onc ac (bR 8):=by kernel_rfl
theorem xv:onc ac (bQ 9)=onc ac (bR 9):=by kernel_rfl
theorem tA:onc ac (bQ 10)=onc ac (bR 10):=by kernel_rfl
theorem tB:onc ac (bQ 11)=onc ac (bR 11):=by kernel_rfl
theorem RW:onc ac (λr=>fu 1 (itB.c [.ltab] 285 [.str (tt r)]))=onc ac (λr=>some (.loc 1,[.ltab,.list (qh r)])):=by kernel_rfl
theorem L3:onc ac (λr=>fu 1 (itB.c [.ltab] 285 [.str (nj r)]))=onc ac (λr=>some (.loc 1,[.ltab,.list (jv r)])):=by kernel_rfl
theorem xw:fu 1 (itB.c [.ltab] 290 [])=some (.loc 1,app [.ltab] (chO 2)):=by kernel_rfl
def dJ(l aN:Nat)(k:Nat):Option R3:=ft 7 [0,1,2,3,4,5,6] [] (itD.s (fr [1,2,3,4,5,6]) (loS (some (.top l)) (some (.top aN)) (some (.int (.ofNat k))) none none none none none) [.ltab,c0,c0,c0,c0,c0,c0] q1)
def dK(l aN:Nat)(k:Nat):Option R3:=some (.next,(loS (some (.top l)) (some (.top aN)) (some (.int (.ofNat k))) (some (.loc 7)) (some (.loc 8)) (some (.loc 19)) (some (.loc 20)) none),app [.ltab,c0,c0,c0,c0,c0,c0,.list (ao k)] (app (chO 9) [.list [],.list []]))
theorem L4(l aN:Nat):dJ l aN 0=dK l aN 0:=by kernel_rfl
def xkA(l aN aC aS aF:Nat)(k r:Nat):Option R3:=ft 4 [0,1,2,3,4,5,6] [2] (itD.s (fr [1,2]) (loS (some (.top l)) (some (.top aN)) (some (.int (.ofNat k))) (some (.loc 3)) (some (.top aC)) (some (.top aS)) (some (.top aF)) none) [.ltab,.cell (some (.m32 r)),c0,.list (ao k)] qA)
def ykA(l aN aC aS aF:Nat)(k r:Nat):Option R3:=some (.next,(loS (some (.top l)) (some (.top aN)) (some (.int (.ofNat k))) (some (.loc 3)) (some (.top aC)) (some (.top aS)) (some (.top aF)) none),[.ltab,.cell (some (.m32 r)),.cell (some (.loc 4)),.list (ao k),.list (ag r)])
theorem kA0(l aN aC aS aF:Nat):onS ac (xkA l aN aC aS aF 0)=onS ac (ykA l aN aC aS aF 0):=by kernel_rfl
def xkC(l aN aC aS aF:Nat)(k r:Nat):Option R3:=ft 6 [0,1,2,3,4,5,6,7] [] (itD.s (fr [1,2]) (loS (some (.top l)) (some (.top aN)) (some (.int (.ofNat k))) (some (.loc 4)) (some (.top aC)) (some (.top aS)) (some (.top aF)) (some (.loc 5))) [.ltab,.cell (some (.m32 r)),.cell (some (.loc 3)),.list (ag r),.list (ao k),.list (chN r)] qC)
def ykC(l aN aC aS aF:Nat)(k r:Nat):Option R3:=some (.next,(loS (some (.top l)) (some (.top aN)) (some (.int (.ofNat k))) (some (.loc 4)) (some (.top aC)) (some (.top aS)) (some (.top aF)) (some (.loc 5))),[.ltab,.cell (some (.m32 r)),.cell (some (.loc 3)),.list (ag r),.list (ao k),.list (chN r)])
theorem kC0(l aN aC aS aF:Nat):onS ac (xkC l aN aC aS aF 0)=onS ac (ykC l aN aC aS aF 0):=by kernel_rfl
theorem L5(l aN:Nat):dJ l aN 1=dK l aN 1:=by kernel_rfl
theorem kA1(l aN aC aS aF:Nat):onS ac (xkA l aN aC aS aF 1)=onS ac (ykA l aN aC aS aF 1):=by kernel_rfl
theorem kC1(l aN aC aS aF:Nat):onS ac (xkC l aN aC aS aF 1)=onS ac (ykC l aN aC aS aF 1):=by kernel_rfl
theorem L6(l aN:Nat):dJ l aN 2=dK l aN 2:=by kernel_rfl
theorem kA2(l aN aC aS aF:Nat):onS ac (xkA l aN aC aS aF 2)=onS ac (ykA l aN aC aS aF 2):=by kernel_rfl
theorem kC2(l aN aC aS aF:Nat):onS ac (xkC l aN aC aS aF 2)=onS ac (ykC l aN aC aS aF 2):=by kernel_rfl
theorem L7(l aN:Nat):dJ l aN 3=dK l aN 3:=by kernel_rfl
theorem kA3(l aN aC aS aF:Nat):onS ac (xkA l aN aC aS aF 3)=onS ac (ykA l aN aC aS aF 3):=by kernel_rfl
theorem kC3(l aN aC aS aF:Nat):onS ac (xkC l aN aC aS aF 3)=onS ac (ykC l aN aC aS aF 3):=by kernel_rfl
theorem L8(l aN:Nat):dJ l aN 4=dK l aN 4:=by kernel_rfl
theorem kA4(l aN aC aS aF:Nat):onS ac (xkA l aN aC aS aF 4)=onS ac (ykA l aN aC aS aF 4):=by kernel_rfl
theorem kC4(l aN aC aS aF:Nat):onS ac (xkC l aN aC aS aF 4)=onS ac (ykC l aN aC aS aF 4):=by kernel_rfl
theorem L9(l aN:Nat):dJ l aN 5=dK l aN 5:=by kernel_rfl
theorem kA5(l aN aC aS aF:Nat):onS ac (xkA l aN aC aS aF 5)=onS ac (ykA l aN aC aS aF 5):=by kernel_rfl
theorem kC5(l aN aC aS aF:Nat):onS ac (xkC l aN aC aS aF 5)=onS ac (ykC l aN aC aS aF 5):=by kernel_rfl
theorem Ma(l aN:Nat):dJ l aN 6=dK l aN 6:=by kernel_rfl
theorem kA6(l aN aC aS aF:Nat):onS ac (xkA l aN aC aS aF 6)=onS ac (ykA l aN aC aS aF 6):=by kernel_rfl
theorem kC6(l aN aC aS aF:Nat):onS ac (xkC l aN aC aS aF 6)=onS ac (ykC l aN aC aS aF 6):=by kernel_rfl
theorem Mb(l aN:Nat):dJ l aN 7=dK l aN 7:=by kernel_rfl
theorem kA7(l aN aC aS aF:Nat):onS ac (xkA l aN aC aS aF 7)=onS ac (ykA l aN aC aS aF 7):=by kernel_rfl
theorem kC7(l aN aC aS aF:Nat):onS ac (xkC l aN aC aS aF 7)=onS ac (ykC l aN aC aS aF 7):=by kernel_rfl
theorem Mc(l aN:Nat):dJ l aN 8=dK l aN 8:=by kernel_rfl
theorem kA8(l aN aC aS aF:Nat):onS ac (xkA l aN aC aS aF 8)=onS ac (ykA l aN aC aS aF 8):=by kernel_rfl
theorem kC8(l aN aC aS aF:Nat):onS ac (xkC l aN aC aS aF 8)=onS ac (ykC l aN aC aS aF 8):=by kernel_rfl
theorem Md(l aN:Nat):dJ l aN 9=dK l aN 9:=by kernel_rfl
theorem kA9(l aN aC aS aF:Nat):onS ac (xkA l aN aC aS aF 9)=onS ac (ykA l aN aC aS aF 9):=by kernel_rfl
theorem kC9(l aN aC aS aF:Nat):onS ac (xkC l aN aC aS aF 9)=onS ac (ykC l aN aC aS aF 9):=by kernel_rfl
theorem DJ(l aN:Nat):dJ l aN 10=dK l aN 10:=by kernel_rfl
theorem RX(l aN aC aS aF:Nat):onS ac (xkA l aN aC aS aF 10)=onS ac (ykA l aN aC aS aF 10):=by kernel_rfl
theorem RY(l aN aC aS aF:Nat):onS ac (xkC l aN aC aS aF 10)=onS ac (ykC l aN aC aS aF 10):=by kernel_rfl
theorem DK(l aN:Nat):dJ l aN 11=dK l aN 11:=by kernel_rfl
theorem RZ(l aN aC aS aF:Nat):onS ac (xkA l aN aC aS aF 11)=onS ac (ykA l aN aC aS aF 11):=by kernel_rfl
theorem Sr(l aN aC aS aF:Nat):onS ac (xkC l aN aC aS aF 11)=onS ac (ykC l aN aC aS aF 11):=by kernel_rfl
def xkB(l aN aE aS aF:Nat)(b:Int)(k r:Nat):Option R3:=ft 17 [0,1,2,3,4,5,6,7] [] (itD.s (fr [1,2,3,4]) (loS (some (.top l)) (some (.top aN)) (some (.int b)) (some (.top aE)) (some (.loc 6)) (some (.top aS)) (some (.top aF)) none) (app [.ltab,.cell (some (.m32 r)),.cell (some (.loc 5)),c0,c0,.list (ag r)] (chO 7)) qB)
def ykB(l aN aE aS aF:Nat)(b:Int)(k r:Nat):Option R3:=some (.next,(loS (some (.top l)) (some (.top aN)) (some (.int b)) (some (.top aE)) (some (.loc 6)) (some (.top aS)) (some (.top aF)) (some (.loc 17))),app [.ltab,.cell (some (.m32 r)),.cell (some (.loc 5)),c0,.cell (some (ca r)),.list (ag r)] (app (chO 7) [.list (chN r)]))
theorem kB0(l aN aE aS aF:Nat)(b:Int):onS (aQ 0) (xkB l aN aE aS aF b 0)=onS (aQ 0) (ykB l aN aE aS aF b 0):=by kernel_rfl
theorem kB8(l aN aE aS aF:Nat)(b:Int):onS (aQ 8) (xkB l aN aE aS aF b 8)=onS (aQ 8) (ykB l aN aE aS aF b 8):=by kernel_rfl
theorem Ss(l aN aE aS aF:Nat)(b:Int):onS (aQ 16) (xkB l aN aE aS aF b 16)=onS (aQ 16) (ykB l aN aE aS aF b 16):=by kernel_rfl
theorem St(l aN aE aS aF:Nat)(b:Int):onS (aQ 24) (xkB l aN aE aS aF b 24)=onS (aQ 24) (ykB l aN aE aS aF b 24):=by kernel_rfl
def xkD(l aN aE aC aS aF:Nat)(b:Int)(k:Nat):Option R3:=ft 2 [0,1,2,3,4,5,6,7] [] (itD.s (fr []) (loS (some (.top l)) (some (.top aN)) (some (.int b)) (some (.top aE)) (some (.top aC)) (some (.top aS)) (some (.top aF)) (some (.loc 1))) [.ltab,.list (chN k)] qD)
def ykD(l aN aE aC aS aF:Nat)(b:Int)(k:Nat):Option R3:=some (.next,(loS (some (.top l)) (some (.top aN)) (some (.int b)) (some (.top aE)) (some (.top aC)) (some (.top aS)) (some (.top aF)) (some (.loc 1))),[.ltab,.list (chN k)])
theorem kD0(l aN aE aC aS aF:Nat)(b:Int):xkD l aN aE aC aS aF b 0=ykD l aN aE aC aS aF b 0:=by kernel_rfl
theorem kD2(l aN aE aC aS aF:Nat)(b:Int):xkD l aN aE aC aS aF b 2=ykD l aN aE aC aS aF b 2:=by kernel_rfl
theorem kD4(l aN aE aC aS aF:Nat)(b:Int):xkD l aN aE aC aS aF b 4=ykD l aN aE aC aS aF b 4:=by kernel_rfl
theorem kD8(l aN aE aC aS aF:Nat)(b:Int):xkD l aN aE aC aS aF b 8=ykD l aN aE aC aS aF b 8:=by kernel_rfl
theorem Me(l aN aE aC aS aF:Nat)(b:Int):xkD l aN aE aC aS aF b 10=ykD l aN aE aC aS aF b 10:=by kernel_rfl
theorem Mf(l aN aE aC aS aF:Nat)(b:Int):xkD l aN aE aC aS aF b 12=ykD l aN aE aC aS aF b 12:=by kernel_rfl
theorem xy(l aN aE aC aS aF:Nat)(b:Int):xkD l aN aE aC aS aF b 16=ykD l aN aE aC aS aF b 16:=by kernel_rfl
theorem Mg(l aN aE aC aS aF:Nat)(b:Int):xkD l aN aE aC aS aF b 18=ykD l aN aE aC aS aF b 18:=by kernel_rfl
theorem Mh(l aN aE aC aS aF:Nat)(b:Int):xkD l aN aE aC aS aF b 20=ykD l aN aE aC aS aF b 20:=by kernel_rfl
theorem Mi(l aN aE aC aS aF:Nat)(b:Int):xkD l aN aE aC aS aF b 24=ykD l aN aE aC aS aF b 24:=by kernel_rfl
def iP(l aE aC c2:Nat)(b:Int)(s r:Nat):Option R3:=ft 14 [] [] (itD.s (fr [1,2,3,4,5,6]) (loS (some (.top l)) (some (.loc 7)) (some (.int b)) (some (.top aE)) (some (.top aC)) (some (.loc 8)) (some (.loc 9)) none) [.ltab,c0,c0,c0,c0,c0,c0,.list [.m32 r,.m32 s,.m32 c2],.list [.loc 10,.loc 12],.list [.loc 11,.loc 13],.list (ag r),.list (chN r),.list (ag s),.list (chN s)] q9)
def oP(c2 s r:Nat):Option R3:=some (.ret (.bool true),loS none none none none none none none none,[.ltab,c0,c0,c0,c0,c0,c0,.list [.m32 r,.m32 s,.m32 c2],.list [.loc 10,.loc 12],.list [.loc 11,.loc 13],.list (ag r),.list (chN r),.list (ag s),.list (chN s)])
theorem kP0(l aE aC c2:Nat)(b:Int):onS ac (iP l aE aC c2 b 0)=onS ac (oP c2 0):=by kernel_rfl
theorem kP1(l aE aC c2:Nat)(b:Int):onS ac (iP l aE aC c2 b 1)=onS ac (oP c2 1):=by kernel_rfl
theorem kP2(l aE aC c2:Nat)(b:Int):onS ac (iP l aE aC c2 b 2)=onS ac (oP c2 2):=by kernel_rfl
theorem kP3(l aE aC c2:Nat)(b:Int):onS ac (iP l aE aC c2 b 3)=onS ac (oP c2 3):=by kernel_rfl
theorem kP4(l aE aC c2:Nat)(b:Int):onS ac (iP l aE aC c2 b 4)=onS ac (oP c2 4):=by kernel_rfl
theorem kP5(l aE aC c2:Nat)(b:Int):onS ac (iP l aE aC c2 b 5)=onS ac (oP c2 5):=by kernel_rfl
theorem kP6(l aE aC c2:Nat)(b:Int):onS ac (iP l aE aC c2 b 6)=onS ac (oP c2 6):=by kernel_rfl
theorem kP7(l aE aC c2:Nat)(b:Int):onS ac (iP l aE aC c2 b 7)=onS ac (oP c2 7):=by kernel_rfl
theorem kP8(l aE aC c2:Nat)(b:Int):onS ac (iP l aE aC c2 b 8)=onS ac (oP c2 8):=by kernel_rfl
theorem kP9(l aE aC c2:Nat)(b:Int):onS ac (iP l aE aC c2 b 9)=onS ac (oP c2 9):=by kernel_rfl
theorem Su(l aE aC c2:Nat)(b:Int):onS ac (iP l aE aC c2 b 10)=onS ac (oP c2 10):=by kernel_rfl
theorem Sv(l aE aC c2:Nat)(b:Int):onS ac (iP l aE aC c2 b 11)=onS ac (oP c2 11):=by kernel_rfl
theorem Sw(l aE aC c2:Nat)(b:Int):onS ac (iP l aE aC c2 b 12)=onS ac (oP c2 12):=by kernel_rfl
theorem Sx(l aE aC c2:Nat)(b:Int):onS ac (iP l aE aC c2 b 13)=onS ac (oP c2 13):=by kernel_rfl
theorem Sy(l aE aC c2:Nat)(b:Int):onS ac (iP l aE aC c2 b 14)=onS ac (oP c2 14):=by kernel_rfl
theorem Sz(l aE aC c2:Nat)(b:Int):onS ac (iP l aE aC c2 b 15)=onS ac (oP c2 15):=by kernel_rfl
theorem SA(l aE aC c2:Nat)(b:Int):onS ac (iP l aE aC c2 b 16)=onS ac (oP c2 16):=by kernel_rfl
theorem SD(l aE aC c2:Nat)(b:Int):onS ac (iP l aE aC c2 b 17)=onS ac (oP c2 17):=by kernel_rfl
theorem SF(l aE aC c2:Nat)(b:Int):onS ac (iP l aE aC c2 b 18)=onS ac (oP c2 18):=by kernel_rfl
theorem SG(l aE aC c2:Nat)(b:Int):onS ac (iP l aE aC c2 b 19)=onS ac (oP c2 19):=by kernel_rfl
theorem SH(l aE aC c2:Nat)(b:Int):onS ac (iP l aE aC c2 b 20)=onS ac (oP c2 20):=by kernel_rfl
theorem SI(l aE aC c2:Nat)(b:Int):onS ac (iP l aE aC c2 b 21)=onS ac (oP c2 21):=by kernel_rfl
theorem SJ(l aE aC c2:Nat)(b:Int):onS ac (iP l aE aC c2 b 22)=onS ac (oP c2 22):=by kernel_rfl
theorem SK(l aE aC c2:Nat)(b:Int):onS ac (iP l aE aC c2 b 23)=onS ac (oP c2 23):=by kernel_rfl
theorem SL(l aE aC c2:Nat)(b:Int):onS ac (iP l aE aC c2 b 24)=onS ac (oP c2 24):=by kernel_rfl
theorem SM(l aE aC c2:Nat)(b:Int):onS ac (iP l aE aC c2 b 25)=onS ac (oP c2 25):=by kernel_rfl
theorem SN(l aE aC c2:Nat)(b:Int):onS ac (iP l aE aC c2 b 26)=onS ac (oP c2 26):=by kernel_rfl
theorem SO(l aE aC c2:Nat)(b:Int):onS ac (iP l aE aC c2 b 27)=onS ac (oP c2 27):=by kernel_rfl
theorem SP(l aE aC c2:Nat)(b:Int):onS ac (iP l aE aC c2 b 28)=onS ac (oP c2 28):=by kernel_rfl
theorem SQ(l aE aC c2:Nat)(b:Int):onS ac (iP l aE aC c2 b 29)=onS ac (oP c2 29):=by kernel_rfl
theorem SR(l aE aC c2:Nat)(b:Int):onS ac (iP l aE aC c2 b 30)=onS ac (oP c2 30):=by kernel_rfl
theorem SV(l aE aC c2:Nat)(b:Int):onS ac (iP l aE aC c2 b 31)=onS ac (oP c2 31):=by kernel_rfl
theorem Mj:onc (az 0 64) (λi=>cI 3 [2] (itC.c [.ltab,.inst 108 2,.sd []] 63 [.loc 1,.str (fw i)]))=onc (az 0 64) (λi=>some (.none,[.ltab,.inst 108 2,.sd (dQ (el i) (fw i) 3),.tup (cb (el i) 4),.tup (cc (el i))])):=by kernel_rfl
theorem DL(s1 s2:T):onc (az 19 19) (λj=>cI 9 [] (itC.c (hsW 0 s1 j s2) 98 [.loc 1,.loc 5]))=onc (az 19 19) (λj=>some (.bool (bK 0 j),hsW 0 s1 j s2)):=by kernel_rfl
theorem DM(s1 s2:T):onc (az 19 19) (λj=>cI 9 [] (itC.c (hsW 1 s1 j s2) 98 [.loc 1,.loc 5]))=onc (az 19 19) (λj=>some (.bool (bK 1 j),hsW 1 s1 j s2)):=by kernel_rfl
theorem DN(s1 s2:T):onc (az 19 19) (λj=>cI 9 [] (itC.c (hsW 2 s1 j s2) 98 [.loc 1,.loc 5]))=onc (az 19 19) (λj=>some (.bool (bK 2 j),hsW 2 s1 j s2)):=by kernel_rfl
theorem DO(s1 s2:T):onc (az 19 19) (λj=>cI 9 [] (itC.c (hsW 3 s1 j s2) 98 [.loc 1,.loc 5]))=onc (az 19 19) (λj=>some (.bool (bK 3 j),hsW 3 s1 j s2)):=by kernel_rfl
theorem DP(s1 s2:T):onc (az 19 19) (λj=>cI 9 [] (itC.c (hsW 4 s1 j s2) 98 [.loc 1,.loc 5]))=onc (az 19 19) (λj=>some (.bool (bK 4 j),hsW 4 s1 j s2)):=by kernel_rfl
theorem DQ(s1 s2:T):onc (az 19 19) (λj=>cI 9 [] (itC.c (hsW 5 s1 j s2) 98 [.loc 1,.loc 5]))=onc (az 19 19) (λj=>some (.bool (bK 5 j),hsW 5 s1 j s2)):=by kernel_rfl
theorem DR(s1 s2:T):onc (az 19 19) (λj=>cI 9 [] (itC.c (hsW 6 s1 j s2) 98 [.loc 1,.loc 5]))=onc (az 19 19) (λj=>some (.bool (bK 6 j),hsW 6 s1 j s2)):=by kernel_rfl
theorem DS(s1 s2:T):onc (az 19 19) (λj=>cI 9 [] (itC.c (hsW 7 s1 j s2) 98 [.loc 1,.loc 5]))=onc (az 19 19) (λj=>some (.bool (bK 7 j),hsW 7 s1 j s2)):=by kernel_rfl
theorem DT(s1 s2:T):onc (az 19 19) (λj=>cI 9 [] (itC.c (hsW 8 s1 j s2) 98 [.loc 1,.loc 5]))=onc (az 19 19) (λj=>some (.bool (bK 8 j),hsW 8 s1 j s2)):=by kernel_rfl
theorem DU(s1 s2:T):onc (az 19 19) (λj=>cI 9 [] (itC.c (hsW 9 s1 j s2) 98 [.loc 1,.loc 5]))=onc (az 19 19) (λj=>some (.bool (bK 9 j),hsW 9 s1 j s2)):=by kernel_rfl
theorem xz(s1 s2:T):onc (az 19 19) (λj=>cI 9 [] (itC.c (hsW 10 s1 j s2) 98 [.loc 1,.loc 5]))=onc (az 19 19) (λj=>some (.bool (bK 10 j),hsW 10 s1 j s2)):=by kernel_rfl
theorem xA(s1 s2:T):onc (az 19 19) (λj=>cI 9 [] (itC.c (hsW 11 s1 j s2) 98 [.loc 1,.loc 5]))=onc (az 19 19) (λj=>some (.bool (bK 11 j),hsW 11 s1 j s2)):=by kernel_rfl
theorem xB(s1 s2:T):onc (az 19 19) (λj=>cI 9 [] (itC.c (hsW 12 s1 j s2) 98 [.loc 1,.loc 5]))=onc (az 19 19) (λj=>some (.bool (bK 12 j),hsW 12 s1 j s2)):=by kernel_rfl
theorem xC(s1 s2:T):onc (az 19 19) (λj=>cI 9 [] (itC.c (hsW 13 s1 j s2) 98 [.loc 1,.loc 5]))=onc (az 19 19) (λj=>some (.bool (bK 13 j),hsW 13 s1 j s2)):=by kernel_rfl
theorem xD(s1 s2:T):onc (az 19 19) (λj=>cI 9 [] (itC.c (hsW 14 s1 j s2) 98 [.loc 1,.loc 5]))=onc (az 19 19) (λj=>some (.bool (bK 14 j),hsW 14 s1 j s2)):=by kernel_rfl
theorem xE(s1 s2:T):onc (az 19 19) (λj=>cI 9 [] (itC.c (hsW 15 s1 j s2) 98 [.loc 1,.loc 5]))=onc (az 19 19) (λj=>some (.bool (bK 15 j),hsW 15 s1 j s2)):=by kernel_rfl
theorem xF(s1 s2:T):onc (az 19 19) (λj=>cI 9 [] (itC.c (hsW 16 s1 j s2) 98 [.loc 1,.loc 5]))=onc (az 19 19) (λj=>some (.bool (bK 16 j),hsW 16 s1 j s2)):=by kernel_rfl
theorem xG(s1 s2:T):onc (az 19 19) (λj=>cI 9 [] (itC.c (hsW 17 s1 j s2) 98 [.loc 1,.loc 5]))=onc (az 19 19) (λj=>some (.bool (bK 17 j),hsW 17 s1 j s2)):=by kernel_rfl
theorem xH(s1 s2:T):onc (az 19 19) (λj=>cI 9 [] (itC.c (hsW 18 s1 j s2) 98 [.loc 1,.loc 5]))=onc (az 19 19) (λj=>some (.bool (bK 18 j),hsW 18 s1 j s2)):=by kernel_rfl
section
theorem l0{α:Type}{p:α→Bool}: ∀(l:List α) (n r:Nat),ek p l n=some r→n≤r∧ ∃a,l[r-n]? =some a∧p a=true
 |[],n,r,h=>nomatch h
 |x::l,n,r,h=>by
  have h':bc (p x) (some n) (ek p l (Nat.succ n))=some r:=h
  cases q:p x with
  |true=>
   rw[q,bF]at h'
   obtain rfl:=Ud h'
   exact⟨UY _,x,by simp,q⟩
  |false=>
   rw[q,bL]at h'
   refine el_AEAL (l0 l (n+1) r h') ?_
   intro h1 a h2 h3
   refine⟨by omega,a,?_,h3⟩
   rw[show r-n=(r-(n+1))+1 by omega]
   exact h2
theorem cV{α:Type}{p:α→Bool}{l:List α}{r:Nat}(h:ek p l 0=some r): ∃a,l[r]? =some a∧p a=true:=(l0 l 0 r h).2
theorem bI{α:Type}{x:Option α}{f:α→Bool}(h: @U9 α (λZ=>Bool) false f x=true): ∃a,x=some a∧f a=true:=by
 cases x with
 |none=>exact ff h
 |some a=>exact⟨a,rfl,h⟩
theorem oi{a b:V}(h:Dx a b=true):a=b:=by
 refine el_EAL (bI h) ?_
 intro i h1 h
 refine el_EAL (bI h) ?_
 intro j h2 h
 rw[aq h1,aq h2,eo.mp h]
theorem oj{a b:V}(h:Dz a b=true):a=b:=by
 refine el_EAL (bI h) ?_
 intro i h1 h
 refine el_EAL (bI h) ?_
 intro j h2 h
 rw[ar h1,ar h2,au.mp h]
theorem fy{e:V→V→Bool}(he: ∀a b,e a b=true→a=b): ∀{a b:List V},qj e a b=true→a=b
 |[],b,h=>by
  have h':aV b=true:=h
  rw[bM]at h'
  exact(T4.mp h').symm
 |x::a,[],h=>nomatch h
 |x::a,y::b,h=>by
  have h':bc (e x y) (qj e a b) false=true:=h
  cases q:e x y with
  |true=>rw[q,bF]at h';rw[he _ _ q,fy he h']
  |false=>rw[q]at h';cases h'
theorem be{α:Type}{z a:α}{l:List α}{r:Nat}(h:l[r]? =some a):getL z l r=a:=by
 unfold getL
 rw[ap,h]
theorem cN{α:Type}{l:List α}{r m:Nat}{a:α}(h:l[r]? =some a)(hl:l.length=m):r<m:=by
 rw[S3]at h
 rw[←hl];exact h.1
theorem iu{r:Nat}(h:r<32):r∈aQ 0∨r∈aQ 8∨r∈aQ 16∨r∈aQ 24:=by
 exact(by decide+kernel: ∀r<32,r∈aQ 0∨r∈aQ 8∨r∈aQ 16∨r∈aQ 24) r h
theorem DV{f g:Nat→Option (V×H)}(a:onc (aQ 0) f=onc (aQ 0) g)(b:onc (aQ 8) f=onc (aQ 8) g)(c:onc (aQ 16) f=onc (aQ 16) g)(d:onc (aQ 24) f=onc (aQ 24) g){r:Nat}(h:r<32):f r=g r:=by
 rcases iu h with h|h|h|h
 · exact aI a r h
 · exact aI b r h
 · exact aI c r h
 · exact aI d r h
theorem tC{r:Nat}(h:r<32):fu 1 (itA.c [.ltab] 259 [.int (.ofNat r)])=some (.str (ej r),[.ltab]):=DV (g:=λr=>some (.str (ej r),[.ltab])) DD DG xc xg h
theorem tD{r:Nat}(h:r<32):fu 2 (itA.c [.ltab,.list (iV r)] 266 [.loc 1])=some (.str (ej r),[.ltab,.list (iV r)]):=DV (g:=λr=>some (.str (ej r),[.ltab,.list (iV r)])) DE DH xd xi h
theorem tE{r:Nat}(h:r<32):fu 1 (itA.c [.ltab] 273 [.str (ej r)])=some (.loc 1,[.ltab,.tup [.loc 2,.loc 3],.list (iV r),.list (ag r)]):=DV (g:=λr=>some (.loc 1,[.ltab,.tup [.loc 2,.loc 3],.list (iV r),.list (ag r)])) DF DI xe xj h
theorem iw:lV.length=32∧lW.length=32∧dG.length=32∧lX.length=32∧iq.length=32∧lY.length=32∧ir.length=32∧ip.length=32:=⟨by kernel_rfl,by kernel_rfl,by kernel_rfl,by kernel_rfl,by kernel_rfl,by kernel_rfl,by kernel_rfl,by kernel_rfl⟩
theorem cZ{t:List (List V)}(h:(t.all λl=>l.all iK)=true){r:Nat}{a:List V}(ha:t[r]? =some a):Gnd a:=jV (TY.mp h a (Tq ha))
theorem om:(lW.all λl=>l.all iK)=true:=by kernel_rfl
theorem fQ:(dG.all λl=>l.all iK)=true:=by kernel_rfl
theorem xI:(lY.all λl=>l.all iK)=true:=by kernel_rfl
theorem tF:(ir.all λl=>l.all iK)=true:=by kernel_rfl
theorem eQ{h:H}(e:oh h=true):h[0]? =some .ltab:=by
 refine el_EAL (bI e) ?_
 intro o h1 h2
 rw[ap]at h1
 rw[h1,km h2]
variable{w:World}{loose:List Str}{mean:ExcName→Option Value}{mg mb:Str→Option Value}
theorem xJ(Γ:Gl)(B:Nat):ConOk Γ B yL:=⟨λh a vs r e=>(nomatch e),λc d h a vs ws v h' Q E A F G B' Y ho hg hkp hgk hw e=>(nomatch e)⟩
theorem DW:Snd (GlN w loose mean mg mb) 40 itA:=Snd.itp (ju w loose mean mg mb) (xJ _ 0) 40
theorem f0{a:Addr}{d:FD}(h:atN a gD.funs=some d)(hg:d.gen=false):fnIn (GlN w loose mean mg mb).K a=true:=by
 refine el_EL ((ju w loose mean mg mb).f a d h hg) ?_
 intro W O
 exact yq O
theorem nq:ConOk (GlN w loose mean mg mb) 40 tv:=by
 refine⟨λh a vs r e=> ?_,λc d h a vs ws v h' Q E A F G B' Y ho hg hkp hgk hw e hQ=> ?_⟩
 · refine bf e ?_
   clear e
   intro _ e
   refine bcK e (λq _=> ?_) λ_ e=> ?_
   · rw[Tj q];exact f0 (d:=sY) (by kernel_rfl) rfl
   refine bcK e (λq _=> ?_) λ_ e=> ?_
   · rw[Tj q];exact f0 (d:=sZ) (by kernel_rfl) rfl
   refine bf e ?_
   clear e
   intro q _
   rw[Tj q];exact f0 (d:=ta) (by kernel_rfl) rfl
 · refine bf e ?_
   clear e
   intro g0 e
   have o0:=eQ g0
   refine bcK e (λq e=> ?_) λ_ e=> ?_
   · obtain rfl:=Tj q
     refine el_EAL (aP e) ?_
     rintro v0 rfl e
     refine aR e ?_
     clear e
     intro r e1 p e2 e
     replace hQ:=hQ.so e
     clear e
     rw[ap]at e2
     have hr:=cN e2 iw.1
     have hp:=be (z:=[]) e2
     rw[bS e1]at hw
     refine cU DW A F G B' Y ho hg hkp hgk hw o0 (ks:=[]) (xss:=[]) Uw rfl (λi k hi=>by simp at hi) rfl (new:=[]) (ns:=[]) (tC hr) rfl rfl ?_
     rw[Uh,show ej r=p from hp]
     exact hQ
   refine bcK e (λq e=> ?_) λ_ e=> ?_
   · obtain rfl:=Tj q
     refine el_EAL (aP e) ?_
     rintro v0 rfl e
     refine aB e ?_
     clear e
     intro k e1 xs e2 r e3 hvX
     refine aw hvX ?_
     clear hvX
     intro p e4 e
     replace hQ:=hQ.so e
     clear e
     rw[ap]at e4
     refine el_EAL (cV e3) ?_
     intro row f1 f2
     have f3:=fy (λZ Z=>oi) f2
     subst f3
     have hr:=cN f1 iw.2.1
     have hp:=be (z:=[]) e4
     have hrow:=be (z:=[]) f1
     rw[aj e1]at hw
     have run:=tD hr
     rw[show iV r=row from hrow,show ej r=p from hp]at run
     have k0:k≠0:=λz=>by rw[z]at e2;rw[av e2]at o0;cases o0
     refine cU DW A F G B' Y ho hg hkp hgk hw o0 (ks:=[k]) (xss:=[row]) (by simp) rfl (λi k' hi=> ?_) ?_ (new:=[]) (ns:=[]) run rfl rfl ?_
     · cases i with
       |zero=>cases hi;exact⟨row,rfl,av e2,cZ om f1⟩
       |succ i=>simp at hi
     · show ob (renV (λj=>cB j [0,k]) (.loc k)) (λu=>some [u])=some [.loc 1]
       show ob (ob (cB k [0,k]) λj=>some (V.loc j)) (λu=>some [u])=some [.loc 1]
       rw[bP (i:=1) (by simp;exact Ne.symm k0) rfl]
     · rw[Uh];exact hQ
   · refine bf e ?_
     clear e
     intro q e
     obtain rfl:=Tj q
     refine el_EAL (aP e) ?_
     rintro v0 rfl e
     refine aB e ?_
     clear e
     intro s e1 r e2 row e3 hvX
     refine aw hvX ?_
     clear hvX
     intro sh e4 e
     replace hQ:=hQ.so e
     clear e
     rw[ap]at e3 e4
     refine el_EAL (cV e2) ?_
     intro p f1 f2
     have f3:=au.mp f2
     subst f3
     have hr:=cN f1 iw.1
     have run:=tE hr
     rw[show ej r=p from be f1,show iV r=row from be e3,show ag r=sh from be e4]at run
     rw[ar e1]at hw
     rw[ay,aO]at hQ
     exact cU DW A F G B' Y ho hg hkp hgk hw o0 (ks:=[]) (xss:=[]) Uw rfl (λi k hi=>by simp at hi) rfl (new:=[.tup [.loc 2,.loc 3],.list row,.list sh]) run (aa rfl (aa (ai (cZ om e3) _) (aa (ai (cZ fQ e4) _) rfl))) rfl hQ
end
section
theorem qk{r b:Nat}(hb:b<12)(h:r<32):fu 2 (itB.c [.ltab,.list (ao b)] 278 [.int (.ofNat r),.int (.ofNat b),.loc 1])=some (.loc 2,[.ltab,.list (ao b),.list (ag r)]):=by
 have hm:=af h
 match b,hb with
 |0,_=>exact aI xk r hm
 |1,_=>exact aI xm r hm
 |2,_=>exact aI xn r hm
 |3,_=>exact aI xo r hm
 |4,_=>exact aI xp r hm
 |5,_=>exact aI xq r hm
 |6,_=>exact aI xr r hm
 |7,_=>exact aI xt r hm
 |8,_=>exact aI xu r hm
 |9,_=>exact aI xv r hm
 |10,_=>exact aI tA r hm
 |11,_=>exact aI tB r hm
 |n+12,h=>exact absurd h (by omega)
theorem jw{α:Type}{l:List α}{p:α×List α}(h:rj l=some p):l=p.1::p.2:=by cases l<;>cases h;rfl
theorem cr{σ:Nat→Option Nat}{v u:V}{vs us:List V}(h1:renV σ v=some u)(h2:cC σ vs=some us):cC σ (v::vs)=some (u::us):=by
 show ob (renV σ v) (λu=>ob (cC σ vs) λus=>some (u::us))=_
 rw[h1,h2]
variable{w:World}{loose:List Str}{mean:ExcName→Option Value}{mg mb:Str→Option Value}
theorem xK:Snd (GlN w loose mean mg mb) 80 itB:=Snd.itp (ju w loose mean mg mb) nq 40
theorem ix{h:H}{a:Nat}{vs:List V}{x:V×H}(e:j6 h a vs=some x):tv h a vs=some x∨(h[0]? =some .ltab∧
 ((a=278∧ ∃r b k,vs=[.int (.ofNat r),.int (.ofNat b),.loc k]∧r<32∧b<12∧h[k]? =some (.list (ao b))∧x=(.loc h.length,h++[.list (ag r)])∧Gnd (ag r))∨
  (a=285∧((∃r,vs=[.str (tt r)]∧r<32∧x=(.loc h.length,h++[.list (qh r)])∧Gnd (qh r))∨ ∃r,vs=[.str (nj r)]∧r<32∧x=(.loc h.length,h++[.list (jv r)])∧Gnd (jv r)))∨
  (a=290∧vs=[]∧x=(.loc h.length,h++(O.list (mp V.loc (az (h.length+1) 10))::mp O.list gx))))):=by
 unfold j6 at e
 cases q:tv h a vs with
 |some y=>rw[q]at e;exact .inl e
 |none=>
  rw[q]at e
  refine .inr ?_
  clear q
  refine bf e ?_
  clear e
  intro g0 e
  refine⟨eQ g0,?_⟩
  refine bcK e (λq e=> ?_) λ_ e=> ?_
  · refine .inl ⟨Tj q,?_⟩
    refine aB e ?_
    clear e
    intro p1 e1 r e2 p2 e3 hvX
    refine aw hvX ?_
    clear hvX
    intro b e4 e
    refine el_EAL (aP e) ?_
    intro v e5 e
    refine dn e ?_
    clear e
    intro k e6 xs e7 e8 hvX
    refine aW hvX ?_
    clear hvX
    intro e9 e10 hvX
    refine aw hvX ?_
    clear hvX
    intro sh e11 e
    obtain rfl:=Ud e
    rw[ap]at e11
    refine⟨r,b,k,?_,aX e8,aX e9,?_,?_,?_⟩
    · rw[jw e1,jw e3,e5,bS e2,bS e4,aj e6]
    · rw[fy (λZ Z=>oj) e10];exact av e7
    · rw[ay,aO,show ag r=sh from be e11]
    · rw[show ag r=sh from be e11];exact cZ fQ e11
  refine bcK e (λq e=> ?_) λ_ e=> ?_
  · refine .inr (.inl ⟨Tj q,?_⟩)
    refine el_EAL (aP e) ?_
    rintro v rfl e
    refine aw e ?_
    clear e
    intro s e2 e
    cases q2:ek (λp=>tEq p s) lX 0 with
    |some r=>
     rw[q2]at e
     refine aw (e:ob (nth lY r) (λl=>some (V.loc (len h),app h [.list l]))=some x) ?_
     clear e
     intro l e3 e
     obtain rfl:=Ud e
     rw[ap]at e3
     refine el_EAL (cV q2) ?_
     intro p f1 f2
     have f3:=au.mp f2
     subst f3
     refine .inl ⟨r,by rw[ar e2,show tt r=p from be f1],cN e3 iw.2.2.2.2.2.1,?_,?_⟩
     · rw[ay,aO,show qh r=l from be e3]
     · rw[show qh r=l from be e3];exact cZ xI e3
    |none=>
     rw[q2]at e
     refine aR (e:ob (ek (λp=>tEq p s) iq 0) (λr=>ob (nth ir r) λl=>some (V.loc (len h),app h [.list l]))=some x) ?_
     clear e
     intro r e1 l e3 e
     obtain rfl:=Ud e
     rw[ap]at e3
     refine el_EAL (cV e1) ?_
     intro p f1 f2
     have f3:=au.mp f2
     subst f3
     refine .inr ⟨r,by rw[ar e2,show nj r=p from be f1],cN e3 iw.2.2.2.2.2.2.1,?_,?_⟩
     · rw[ay,aO,show jv r=l from be e3]
     · rw[show jv r=l from be e3];exact cZ tF e3
  · refine aW e ?_
    clear e
    intro q q2 e
    obtain rfl:=Ud e
    rw[bM]at q2
    refine .inr (.inr ⟨Tj q,T4.mp q2,?_⟩)
    rw[ay,aO];rfl
theorem l6(n:Nat): ∃ns,renOs (backN [0] n) (chO 2)=some ns∧ns=O.list (mp V.loc (az (n+1) 10))::mp O.list gx:=⟨_,by kernel_rfl,rfl⟩
theorem nt:ConOk (GlN w loose mean mg mb) 80 j6:=by
 refine⟨λh a vs r e=> ?_,λc d h a vs ws v h' Q E A F G B' Y ho hg hkp hgk hw e hQ=> ?_⟩
 · rcases ix e with e|⟨_,⟨rfl,_⟩|⟨rfl,_⟩|⟨rfl,_⟩⟩
   · exact nq.fk _ _ _ _ e
   · exact f0 (d:=tb) (by kernel_rfl) rfl
   · exact f0 (d:=tc) (by kernel_rfl) rfl
   · exact f0 (d:=td) (by kernel_rfl) rfl
 · rcases ix e with ex|⟨o0,⟨rfl,r,b,k,rfl,hr,hb,hk,ex,gs⟩|⟨rfl,⟨r,rfl,hr,ex,gs⟩|⟨r,rfl,hr,ex,gs⟩⟩|⟨rfl,rfl,ex⟩⟩
   · exact nq.c c d h a vs ws v h' Q E (A.le (by omega)) F G B' Y ho hg hkp hgk hw ex hQ
   · cases ex
     have k0:k≠0:=λz=>by rw[z,o0]at hk;cases hk
     refine cU xK A F G B' Y ho hg hkp hgk hw o0 (ks:=[k]) (xss:=[ao b]) (by simp) rfl (λi k' hi=> ?_) ?_ (new:=[.list (ag r)]) (ns:=[.list (ag r)]) (qk hb hr) (aa (ai gs _) rfl) rfl hQ
     · cases i with
       |zero=>cases hi;exact⟨_,rfl,hk,n4 _⟩
       |succ i=>simp at hi
     · refine cr rfl (cr rfl (cr ?_ rfl))
       show ob (cB k [0,k]) (λj=>some (V.loc j))=some (.loc 1)
       rw[bP (i:=1) (by simp;exact Ne.symm k0) rfl]
   · cases ex
     exact cU xK A F G B' Y ho hg hkp hgk hw o0 (ks:=[]) (xss:=[]) Uw rfl (λi k hi=>by simp at hi) rfl (new:=[.list (qh r)]) (aI RW r (af hr)) (aa (ai gs _) rfl) rfl hQ
   · cases ex
     exact cU xK A F G B' Y ho hg hkp hgk hw o0 (ks:=[]) (xss:=[]) Uw rfl (λi k hi=>by simp at hi) rfl (new:=[.list (jv r)]) (aI L3 r (af hr)) (aa (ai gs _) rfl) rfl hQ
   · cases ex
     refine el_EAL (l6 h.length) ?_
     rintro ns n1 rfl
     exact cU xK A F G B' Y ho hg hkp hgk hw o0 (ks:=[]) (xss:=[]) Uw rfl (λi k hi=>by simp at hi) rfl (new:=chO 2) (by
      show fu 1 (itB.c [.ltab] 290 [])=_
      rw[xw,ay];rfl) n1 rfl hQ
theorem Mk:Snd (GlN w loose mean mg mb) 120 itC:=Snd.itp (ju w loose mean mg mb) nt 40
end
theorem xL{a b:V}(h:LX a b=true):a=b:=by
 refine el_EAL (bI h) ?_
 intro i h1 h
 refine el_EAL (bI h) ?_
 intro j h2 h
 rw[aj h1,aj h2,Tj h]
theorem jx{v:V}{b:Bool}(h:DA v=some b):v= .bool b:=by cases v<;>first|exact nn h|(cases h;rfl)
theorem xM{a b:V}(h:LY a b=true):a=b:=by
 refine el_EAL (bI h) ?_
 intro i h1 h
 refine el_EAL (bI h) ?_
 intro j h2 h
 rw[jx h1,jx h2]
 cases i<;>cases j<;>first|rfl|cases h
theorem bcT{a b:Bool}(h:bc a true b=true):a=true∨b=true:=by cases a;exact .inr h;exact .inl rfl
theorem bcF{a b:Bool}(h:bc a b false=true):a=true∧b=true:=by cases a;cases h;exact⟨rfl,h⟩
theorem nu{a b:V}(h:eqV a b=true):a=b:=by
 rcases bcT h with h|h
 · exact oi h
 rcases bcT h with h|h
 · exact oj h
 rcases bcT h with h|h
 · exact xL h
 · exact xM h
theorem on: ∀{a b:List (T×V)},DB a b=true→a=b
 |[],b,h=>by
  have h':aV b=true:=h
  rw[bM]at h'
  exact(T4.mp h').symm
 |x::a,[],h=>nomatch h
 |x::a,y::b,h=>by
  refine ae (bcF (h:bc (tEq x.1 y.1) (bc (eqV x.2 y.2) (DB a b) false) false=true)) ?_
  intro h1 h2
  refine ae (bcF h2) ?_
  intro h2 h3
  rw[on h3,show x=y from Prod.ext (au.mp h1) (nu h2)]
theorem iy{h:H}{k:Nat}{xs:List V}(e:tx h k=some xs):h[k]? =some (.tup xs):=by
 refine aw e ?_
 clear e
 intro o e1 e2
 rw[ap]at e1
 rw[e1,iX e2]
theorem jy{h:H}{v:V}{l:List Nat}{c:Nat}{s:T}(e:DC h v=some (l,c,s)): ∃k d t q,v= .loc k∧l=[k,d,t,q]∧h[k]? =some (.inst 108 d)∧h[d]? =some (.sd (dQ c s t))∧h[t]? =some (.tup (cb c q))∧h[q]? =some (.tup (cc c)):=by
 refine aB e ?_
 clear e
 intro k e1 o e2 cd e3 hvX
 refine bB hvX ?_
 clear hvX
 intro g1 es e4 hvX
 refine aB hvX ?_
 clear hvX
 intro vr e5 s' e6 i e7 hvX
 refine aB hvX ?_
 clear hvX
 intro c' e8 vn e9 t e10 hvX
 refine bB hvX ?_
 clear hvX
 intro g2 tp e11 hvX
 refine dn hvX ?_
 clear hvX
 intro p e12 q e13 g3 hvX
 refine bJ hvX ?_
 clear hvX
 intro cn e14 g4 e
 cases e
 rw[ap]at e2
 have h1:=cO e3
 rw[Tj g1]at h1
 refine⟨k,cd.2,t,q,aj e1,rfl,by rw[e2,h1],?_,?_,?_⟩
 · rw[bH e4,on g2]
 · rw[iy e11,fy (λZ Z=>nu) g3]
 · rw[iy e14,fy (λZ Z=>nu) g4]
theorem Ml:(wcT.all λp=>p.2.2.1.all iK)=true:=by kernel_rfl
theorem Mm:wcT.length=38∧tr.length=64∧j4.length=64:=⟨by kernel_rfl,by kernel_rfl,by kernel_rfl⟩
theorem Mn:(tr.all λc=>Nat.blt c 38)=true:=by kernel_rfl
theorem tG{c:Nat}(h:c<38):Gnd (cc c):=by
 have hl:c<wcT.length:=by rw[Mm.1];exact h
 have:=S7 hl
 unfold cc wcN
 rw[be this]
 exact jV (TY.mp Ml _ (List.getElem_mem hl))
theorem fA{xs:List V}(g:Gnd xs)(σ:Nat→Option Nat):b9 σ (.tup xs)=some (.tup xs):=by
 show ob (cC σ xs) (λus=>some (O.tup us))=_
 rw[g σ]
theorem dl{σ:Nat→Option Nat}{C d e:Nat}(h:σ d=some e):b9 σ (.inst C d)=some (.inst C e):=by
 show ob (σ d) (λe=>some (O.inst C e))=_
 rw[h]
theorem iz{σ:Nat→Option Nat}{c t u:Nat}{s:T}(h:σ t=some u):b9 σ (.sd (dQ c s t))=some (.sd (dQ c s u)):=by
 show ob (ob (some (V.str s)) λu=>ob (ob (some (V.int (.ofNat (wcN c).1))) λu=>ob (ob (some (V.int (.ofNat (wcN c).2.1))) λu=>ob (ob (ob (σ t) λj=>some (V.loc j)) λu=>ob (some [(lZ,V.bool (wcN c).2.2.2.2)]) λus=>some ((np,u)::us)) λus=>some ((LZ,u)::us)) λus=>some ((k_n,u)::us)) λus=>some ((tw,u)::us)) (λus=>some (O.sd us))=_
 rw[h];rfl
theorem iA{σ:Nat→Option Nat}{c t u:Nat}(h:σ t=some u):b9 σ (.tup (cb c t))=some (.tup (cb c u)):=by
 show ob (ob (ob (σ t) λj=>some (V.loc j)) λu=>ob (some [V.int (.ofNat (wcN c).2.2.2.1)]) λus=>some (u::us)) (λus=>some (O.tup us))=_
 rw[h];rfl
section
variable{w:World}{loose:List Str}{mean:ExcName→Option Value}{mg mb:Str→Option Value}
theorem tH{i:Nat}(h:i<64):cI 3 [2] (itC.c [.ltab,.inst 108 2,.sd []] 63 [.loc 1,.str (fw i)])=some (.none,[.ltab,.inst 108 2,.sd (dQ (el i) (fw i) 3),.tup (cb (el i) 4),.tup (cc (el i))]):=aI Mj i (af h)
theorem DX{j:Nat}(h1:19≤j)(h2:j<38):j∈az 19 19:=by
 have:az 19 19=(az 0 19).map (19+ ·):=by kernel_rfl
 rw[this]
 exact UW.mpr ⟨j-19,af (by omega),by omega⟩
theorem tI{c j:Nat}(hc:c<19)(h1:19≤j)(h2:j<38)(s1 s2:T):cI 9 [] (itC.c (hsW c s1 j s2) 98 [.loc 1,.loc 5])=some (.bool (bK c j),hsW c s1 j s2):=by
 have hj:=DX h1 h2
 match c,hc with
 |0,_=>exact aI (DL s1 s2) j hj
 |1,_=>exact aI (DM s1 s2) j hj
 |2,_=>exact aI (DN s1 s2) j hj
 |3,_=>exact aI (DO s1 s2) j hj
 |4,_=>exact aI (DP s1 s2) j hj
 |5,_=>exact aI (DQ s1 s2) j hj
 |6,_=>exact aI (DR s1 s2) j hj
 |7,_=>exact aI (DS s1 s2) j hj
 |8,_=>exact aI (DT s1 s2) j hj
 |9,_=>exact aI (DU s1 s2) j hj
 |10,_=>exact aI (xz s1 s2) j hj
 |11,_=>exact aI (xA s1 s2) j hj
 |12,_=>exact aI (xB s1 s2) j hj
 |13,_=>exact aI (xC s1 s2) j hj
 |14,_=>exact aI (xD s1 s2) j hj
 |15,_=>exact aI (xE s1 s2) j hj
 |16,_=>exact aI (xF s1 s2) j hj
 |17,_=>exact aI (xG s1 s2) j hj
 |18,_=>exact aI (xH s1 s2) j hj
 |n+19,h=>exact absurd h (by omega)
theorem iB{h:H}{a:Nat}{vs:List V}{x:V×H}(e:tz h a vs=some x):h[0]? =some .ltab∧
 ((a=63∧ ∃k d i,vs=[.loc k,.str (fw i)]∧i<64∧el i<38∧h[k]? =some (.inst 108 d)∧h[d]? =some (.sd [])∧x=(.none,(h.set d (.sd (dQ (el i) (fw i) h.length)))++[.tup (cb (el i) (h.length+1)),.tup (cc (el i))]))∨
  (a=98∧ ∃k d t q c s k' d' t' q' c' s',vs=[.loc k,.loc k']∧c<19∧19≤c'∧c'<38∧(0::[k,d,t,q,k',d',t',q']).Nodup∧h[k]? =some (.inst 108 d)∧h[d]? =some (.sd (dQ c s t))∧h[t]? =some (.tup (cb c q))∧h[q]? =some (.tup (cc c))∧
   h[k']? =some (.inst 108 d')∧h[d']? =some (.sd (dQ c' s' t'))∧h[t']? =some (.tup (cb c' q'))∧h[q']? =some (.tup (cc c'))∧x=(.bool (bK c c'),h))):=by
 refine bf e ?_
 clear e
 intro g0 e
 refine⟨eQ g0,?_⟩
 refine bcK e (λq e=> ?_) λ_ e=> ?_
 · refine .inl ⟨Tj q,?_⟩
   refine el_EEAL (gU e) ?_
   rintro v u rfl e
   refine aB e ?_
   clear e
   intro k e1 o e2 cd e3 hvX
   refine bB hvX ?_
   clear hvX
   intro g1 es e4 hvX
   refine bB hvX ?_
   clear hvX
   intro g2 s e5 hvX
   refine aR hvX ?_
   clear hvX
   intro i e6 c e7 e
   obtain rfl:=Ud e
   rw[ap]at e2 e7
   refine el_EAL (cV e6) ?_
   intro p f1 f2
   have f3:=au.mp f2
   subst f3
   have h1:=cO e3
   rw[Tj g1]at h1
   rw[bM]at g2
   have hes:=T4.mp g2
   have hc:el i=c:=be e7
   have hp:fw i=p:=be f1
   refine⟨k,cd.2,i,by rw[aj e1,ar e5,hp],cN f1 Mm.2.2,?_,by rw[e2,h1],by rw[bH e4,hes],?_⟩
   · rw[hc];exact Vg.mp (TY.mp Mn _ (Tq e7))
   · rw[ay,aO,aU,hc,hp]
 · refine bf e ?_
   clear e
   intro q e
   refine .inr ⟨Tj q,?_⟩
   refine el_EEAL (gU e) ?_
   rintro v u rfl e
   refine oJ e ?_
   clear e
   intro l1 c s e1 hvX
   refine oJ hvX ?_
   clear hvX
   intro l2 c' s' e2 hvX
   refine aW hvX ?_
   clear hvX
   intro g1 g2 hvX
   refine aW hvX ?_
   clear hvX
   intro g3 g4 e
   obtain rfl:=Ud e
   refine el_EEEL (jy e1) ?_
   intro k d t qX
   refine el_EAAL qX ?_
   clear qX
   intro q qX3 qX4 qX
   refine aD qX ?_
   clear qX
   intro a1 a2 a3 a4
   subst qX3
   subst qX4
   refine el_EEEL (jy e2) ?_
   intro k' d' t' qX
   refine el_EAAL qX ?_
   clear qX
   intro q' qX5 qX6 qX
   refine aD qX ?_
   clear qX
   intro b1 b2 b3 b4
   subst qX5
   subst qX6
   exact⟨k,d,t,q,c,s,k',d',t',q',c',s',rfl,aX g1,aX g2,aX g3,mT g4,a1,a2,a3,a4,b1,b2,b3,b4,rfl⟩
theorem tJ:ConOk (GlN w loose mean mg mb) 120 tz:=by
 refine⟨λh a vs r e=> ?_,λc d h a vs ws v h' Q E A F G B' Y ho hg hkp hgk hw e hQ=> ?_⟩
 · rcases iB e with⟨_,⟨rfl,_⟩|⟨rfl,_⟩⟩
   · exact f0 (d:=B8) (by kernel_rfl) rfl
   · exact f0 (d:=B9) (by kernel_rfl) rfl
 · rcases iB e with⟨o0,⟨rfl,k,dd,i,rfl,hi,hc,hk,hd,ex⟩|⟨rfl,k,dd,t,q,c1,s1,k',d',t',q',c2,s2,rfl,hc1,hc2,hc3,nd,a1,a2,a3,a4,b1,b2,b3,b4,ex⟩⟩
   · cases ex
     have k0:0≠k:=λz=>by rw[←z,o0]at hk;cases hk
     have d0:0≠dd:=λz=>by rw[←z,o0]at hd;cases hd
     have kd:k≠dd:=λz=>by rw[z,hd]at hk;cases hk
     have nd:[0,k,dd].Nodup:=by simp[k0,d0,kd]
     refine n6 Mk A F G B' Y ho hg hkp hgk hw (is:=[0,k,dd]) nd rfl rfl (ab o0 rfl (ab hk (dl (bP nd rfl)) (ab hd rfl rfl))) (cr (by
      show ob (cB k [0,k,dd]) (λj=>some (V.loc j))=some (.loc 1)
      rw[bP (i:=1) nd rfl]) rfl) (tH hi) (h3':=[.ltab,.inst 108 dd,.sd (dQ (el i) (fw i) h.length),.tup (cb (el i) (h.length+1)),.tup (cc (el i))])
      (aa rfl (aa (dl rfl) (aa (iz rfl) (aa (iA rfl) (aa (fA (tG hc) _) rfl))))) ?_ rfl hQ
     show _=((h.set 0 .ltab).set k (.inst 108 dd)).set dd (.sd (dQ (el i) (fw i) h.length))++[.tup (cb (el i) (h.length+1)),.tup (cc (el i))]
     rw[br o0,br hk]
   · cases ex
     refine n6 Mk A F G B' Y ho hg hkp hgk hw (is:=0::[k,dd,t,q,k',d',t',q']) nd rfl rfl (hs:=hsW c1 s1 c2 s2) (ab o0 rfl (ab a1 (dl (bP nd rfl)) (ab a2 (iz (bP nd rfl)) (ab a3 (iA (bP nd rfl)) (ab a4 (fA (tG (by omega)) _) (ab b1 (dl (bP nd rfl)) (ab b2 (iz (bP nd rfl)) (ab b3 (iA (bP nd rfl)) (ab b4 (fA (tG hc3) _) rfl)))))))))
      (cr (by
      show ob (cB k _) (λj=>some (V.loc j))=some (.loc 1)
      rw[bP (i:=1) nd rfl]) (cr (by
      show ob (cB k' _) (λj=>some (V.loc j))=some (.loc 5)
      rw[bP (i:=5) nd rfl]) rfl)) (tI hc1 hc2 hc3 s1 s2) (h3':=[.ltab,.inst 108 dd,.sd (dQ c1 s1 t),.tup (cb c1 q),.tup (cc c1),.inst 108 d',.sd (dQ c2 s2 t'),.tup (cb c2 q'),.tup (cc c2)])
      (aa rfl (aa (dl rfl) (aa (iz rfl) (aa (iA rfl) (aa (fA (tG (by omega)) _) (aa (dl rfl) (aa (iz rfl) (aa (iA rfl) (aa (fA (tG hc3) _) rfl))))))))) ?_ rfl hQ
     show h=((((((((h.set 0 .ltab).set k (.inst 108 dd)).set dd (.sd (dQ c1 s1 t))).set t (.tup (cb c1 q))).set q (.tup (cc c1))).set k' (.inst 108 d')).set d' (.sd (dQ c2 s2 t'))).set t' (.tup (cb c2 q'))).set q' (.tup (cc c2))++[]
     rw[Uh,br o0,br a1,br a2,br a3,br a4,br b1,br b2,br b3,br b4]
theorem DY:ConOk (GlN w loose mean mg mb) 120 L0:=by
 refine⟨λh a vs r e=> ?_,λc d h a vs ws v h' Q E A F G B' Y ho hg hkp hgk hw e hQ=> ?_⟩
 · cases q:j6 h a vs with
   |some y=>exact nt.fk _ _ _ _ q
   |none=>
    have e': @U9 (V×H) (λZ=>Option (V×H)) (tz h a vs) (λr=>some r) (j6 h a vs)=some r:=e
    rw[q]at e'
    exact tJ.fk _ _ _ _ e'
 · have e': @U9 (V×H) (λZ=>Option (V×H)) (tz h a vs) (λr=>some r) (j6 h a vs)=some (v,h'):=e
   cases q:j6 h a vs with
   |some y=>
    rw[q]at e'
    cases(e':some y=some (v,h'))
    exact nt.c c d h a vs ws v h' Q E (A.le (by omega)) F G B' Y ho hg hkp hgk hw q hQ
   |none=>
    rw[q]at e'
    exact tJ.c c d h a vs ws v h' Q E A F G B' Y ho hg hkp hgk hw e' hQ
theorem SW:Snd (GlN w loose mean mg mb) 160 itD:=Snd.itp (ju w loose mean mg mb) DY 40
end
section
def Hb(cx csh c3 c4 oN oE:O)(S F:List V)(tail:List O):H:=[.ltab,cx,csh,c3,c4,c0,c0,oN,oE]++(chO 10++(.list S:: .list F::tail))
def loB(l:Nat)(b:Int)(ch:Option V):Lo:=loS (some (.top l)) (some (.loc 7)) (some (.int b)) (some (.loc 8)) (some (.loc 9)) (some (.loc 20)) (some (.loc 21)) ch
theorem iW: ∀x,look x oa≠some .kv:=λx h=>by
 have:=c8 h
 have k:(oa.all λp=>match p.2 with| .kv=>false|_=>true)=true:=by kernel_rfl
 have:=TY.mp k _ this
 cases this
theorem ah{f g:Nat→Option R3}{l:List Nat}(h:onS l f=onS l g){r:Nat}(hr:r∈l):f r=g r:=aI h r hr
theorem Mp{f g:Nat→Option R3}(a:onS (aQ 0) f=onS (aQ 0) g)(b:onS (aQ 8) f=onS (aQ 8) g)(c:onS (aQ 16) f=onS (aQ 16) g)(d:onS (aQ 24) f=onS (aQ 24) g){r:Nat}(h:r<32):f r=g r:=by
 rcases iu h with h|h|h|h
 · exact aI a r h
 · exact aI b r h
 · exact aI c r h
 · exact aI d r h
theorem b8{r:Nat}(h:r<32):Gnd (ag r):=by
 have hl:r<dG.length:=by rw[iw.2.2.1];exact h
 have:=S7 hl
 rw[show ag r=dG[r]from be this]
 exact cZ fQ this
theorem Mq:(ip.all λl=>l.all iK)=true:=by kernel_rfl
theorem gCh{r:Nat}(h:r<32):Gnd (chN r):=by
 have hl:r<ip.length:=by rw[iw.2.2.2.2.2.2.2];exact h
 have:=S7 hl
 rw[show chN r=ip[r]from be this]
 exact cZ Mq this
theorem xN:((az 0 32).all λr=>bo (ax (ca r)))=true:=by kernel_rfl
theorem l7{r:Nat}(h:r<32)(σ:Nat→Option Nat):b9 σ (.cell (some (ca r)))=some (.cell (some (ca r))):=by
 have:=TY.mp xN r (af h)
 refine el_EL (fF this) ?_
 intro i hi
 rw[aq hi];rfl
theorem gEv(b:Nat)(σ:Nat→Option Nat):b9 σ (.list (ao b))=some (.list (ao b)):=ai (n4 _) σ
theorem Mr{r b:Nat}(hb:b<12)(hr:r<32)(l aN aC aS aF:Nat):ft 4 [0,1,2,3,4,5,6] [2] (itD.s (fr [1,2]) (loS (some (.top l)) (some (.top aN)) (some (.int (.ofNat b))) (some (.loc 3)) (some (.top aC)) (some (.top aS)) (some (.top aF)) none) [.ltab,.cell (some (.m32 r)),c0,.list (ao b)] qA)=some (.next,(loS (some (.top l)) (some (.top aN)) (some (.int (.ofNat b))) (some (.loc 3)) (some (.top aC)) (some (.top aS)) (some (.top aF)) none),[.ltab,.cell (some (.m32 r)),.cell (some (.loc 4)),.list (ao b),.list (ag r)]):=by
 have hm:=af hr
 match b,hb with
 |0,_=>exact ah (kA0 l aN aC aS aF) hm
 |1,_=>exact ah (kA1 l aN aC aS aF) hm
 |2,_=>exact ah (kA2 l aN aC aS aF) hm
 |3,_=>exact ah (kA3 l aN aC aS aF) hm
 |4,_=>exact ah (kA4 l aN aC aS aF) hm
 |5,_=>exact ah (kA5 l aN aC aS aF) hm
 |6,_=>exact ah (kA6 l aN aC aS aF) hm
 |7,_=>exact ah (kA7 l aN aC aS aF) hm
 |8,_=>exact ah (kA8 l aN aC aS aF) hm
 |9,_=>exact ah (kA9 l aN aC aS aF) hm
 |10,_=>exact ah (RX l aN aC aS aF) hm
 |11,_=>exact ah (RZ l aN aC aS aF) hm
 |n+12,h=>exact absurd h (by omega)
theorem Ms{r b:Nat}(hb:b<12)(hr:r<32)(l aN aC aS aF:Nat):ft 6 [0,1,2,3,4,5,6,7] [] (itD.s (fr [1,2]) (loS (some (.top l)) (some (.top aN)) (some (.int (.ofNat b))) (some (.loc 4)) (some (.top aC)) (some (.top aS)) (some (.top aF)) (some (.loc 5))) [.ltab,.cell (some (.m32 r)),.cell (some (.loc 3)),.list (ag r),.list (ao b),.list (chN r)] qC)=some (.next,(loS (some (.top l)) (some (.top aN)) (some (.int (.ofNat b))) (some (.loc 4)) (some (.top aC)) (some (.top aS)) (some (.top aF)) (some (.loc 5))),[.ltab,.cell (some (.m32 r)),.cell (some (.loc 3)),.list (ag r),.list (ao b),.list (chN r)]):=by
 have hm:=af hr
 match b,hb with
 |0,_=>exact ah (kC0 l aN aC aS aF) hm
 |1,_=>exact ah (kC1 l aN aC aS aF) hm
 |2,_=>exact ah (kC2 l aN aC aS aF) hm
 |3,_=>exact ah (kC3 l aN aC aS aF) hm
 |4,_=>exact ah (kC4 l aN aC aS aF) hm
 |5,_=>exact ah (kC5 l aN aC aS aF) hm
 |6,_=>exact ah (kC6 l aN aC aS aF) hm
 |7,_=>exact ah (kC7 l aN aC aS aF) hm
 |8,_=>exact ah (kC8 l aN aC aS aF) hm
 |9,_=>exact ah (kC9 l aN aC aS aF) hm
 |10,_=>exact ah (RY l aN aC aS aF) hm
 |11,_=>exact ah (Sr l aN aC aS aF) hm
 |n+12,h=>exact absurd h (by omega)
theorem Mt{r:Nat}(hr:r<32)(l aN aE aS aF:Nat)(b:Int):ft 17 [0,1,2,3,4,5,6,7] [] (itD.s (fr [1,2,3,4]) (loS (some (.top l)) (some (.top aN)) (some (.int b)) (some (.top aE)) (some (.loc 6)) (some (.top aS)) (some (.top aF)) none) (app [.ltab,.cell (some (.m32 r)),.cell (some (.loc 5)),c0,c0,.list (ag r)] (chO 7)) qB)=some (.next,(loS (some (.top l)) (some (.top aN)) (some (.int b)) (some (.top aE)) (some (.loc 6)) (some (.top aS)) (some (.top aF)) (some (.loc 17))),app [.ltab,.cell (some (.m32 r)),.cell (some (.loc 5)),c0,.cell (some (ca r)),.list (ag r)] (app (chO 7) [.list (chN r)])):=
 Mp (g:=λr=>some (.next,(loS (some (.top l)) (some (.top aN)) (some (.int b)) (some (.top aE)) (some (.loc 6)) (some (.top aS)) (some (.top aF)) (some (.loc 17))),app [.ltab,.cell (some (.m32 r)),.cell (some (.loc 5)),c0,.cell (some (ca r)),.list (ag r)] (app (chO 7) [.list (chN r)]))) (kB0 l aN aE aS aF b) (kB8 l aN aE aS aF b) (Ss l aN aE aS aF b) (St l aN aE aS aF b) hr
theorem Mu{r:Nat}(hr:r<32)(l aN aE aC aS aF:Nat)(b:Int):ft 2 [0,1,2,3,4,5,6,7] [] (itD.s (fr []) (loS (some (.top l)) (some (.top aN)) (some (.int b)) (some (.top aE)) (some (.top aC)) (some (.top aS)) (some (.top aF)) (some (.loc 1))) [.ltab,.list (chN r)] qD)=some (.next,(loS (some (.top l)) (some (.top aN)) (some (.int b)) (some (.top aE)) (some (.top aC)) (some (.top aS)) (some (.top aF)) (some (.loc 1))),[.ltab,.list (chN r)]):=by
 match r,hr with
 |0,_=>exact(show chN 0=chN 0 by kernel_rfl)▸kD0 l aN aE aC aS aF b
 |1,_=>exact(show chN 0=chN 1 by kernel_rfl)▸kD0 l aN aE aC aS aF b
 |2,_=>exact(show chN 2=chN 2 by kernel_rfl)▸kD2 l aN aE aC aS aF b
 |3,_=>exact(show chN 0=chN 3 by kernel_rfl)▸kD0 l aN aE aC aS aF b
 |4,_=>exact(show chN 4=chN 4 by kernel_rfl)▸kD4 l aN aE aC aS aF b
 |5,_=>exact(show chN 4=chN 5 by kernel_rfl)▸kD4 l aN aE aC aS aF b
 |6,_=>exact(show chN 2=chN 6 by kernel_rfl)▸kD2 l aN aE aC aS aF b
 |7,_=>exact(show chN 0=chN 7 by kernel_rfl)▸kD0 l aN aE aC aS aF b
 |8,_=>exact(show chN 8=chN 8 by kernel_rfl)▸kD8 l aN aE aC aS aF b
 |9,_=>exact(show chN 8=chN 9 by kernel_rfl)▸kD8 l aN aE aC aS aF b
 |10,_=>exact(show chN 10=chN 10 by kernel_rfl)▸Me l aN aE aC aS aF b
 |11,_=>exact(show chN 8=chN 11 by kernel_rfl)▸kD8 l aN aE aC aS aF b
 |12,_=>exact(show chN 12=chN 12 by kernel_rfl)▸Mf l aN aE aC aS aF b
 |13,_=>exact(show chN 4=chN 13 by kernel_rfl)▸kD4 l aN aE aC aS aF b
 |14,_=>exact(show chN 2=chN 14 by kernel_rfl)▸kD2 l aN aE aC aS aF b
 |15,_=>exact(show chN 0=chN 15 by kernel_rfl)▸kD0 l aN aE aC aS aF b
 |16,_=>exact(show chN 16=chN 16 by kernel_rfl)▸xy l aN aE aC aS aF b
 |17,_=>exact(show chN 16=chN 17 by kernel_rfl)▸xy l aN aE aC aS aF b
 |18,_=>exact(show chN 18=chN 18 by kernel_rfl)▸Mg l aN aE aC aS aF b
 |19,_=>exact(show chN 16=chN 19 by kernel_rfl)▸xy l aN aE aC aS aF b
 |20,_=>exact(show chN 20=chN 20 by kernel_rfl)▸Mh l aN aE aC aS aF b
 |21,_=>exact(show chN 20=chN 21 by kernel_rfl)▸Mh l aN aE aC aS aF b
 |22,_=>exact(show chN 18=chN 22 by kernel_rfl)▸Mg l aN aE aC aS aF b
 |23,_=>exact(show chN 16=chN 23 by kernel_rfl)▸xy l aN aE aC aS aF b
 |24,_=>exact(show chN 24=chN 24 by kernel_rfl)▸Mi l aN aE aC aS aF b
 |25,_=>exact(show chN 24=chN 25 by kernel_rfl)▸Mi l aN aE aC aS aF b
 |26,_=>exact(show chN 10=chN 26 by kernel_rfl)▸Me l aN aE aC aS aF b
 |27,_=>exact(show chN 8=chN 27 by kernel_rfl)▸kD8 l aN aE aC aS aF b
 |28,_=>exact(show chN 12=chN 28 by kernel_rfl)▸Mf l aN aE aC aS aF b
 |29,_=>exact(show chN 4=chN 29 by kernel_rfl)▸kD4 l aN aE aC aS aF b
 |30,_=>exact(show chN 2=chN 30 by kernel_rfl)▸kD2 l aN aE aC aS aF b
 |31,_=>exact(show chN 0=chN 31 by kernel_rfl)▸kD0 l aN aE aC aS aF b
 |n+32,h=>exact absurd h (by omega)
theorem Rel.addr{Γ:Gl}{c:St0}{d:Dy}{f:Frm}{lo:Lo}{h:H}(R:Rel Γ c d f lo h){k:Nat}{o:O}(hk:h[k]? =some o): ∃a,d.ρ[k]? =some a:=by
 have:k<d.ρ.length:=by rw[R.led.len];rw[S3]at hk;exact hk.1
 exact⟨_,S7 this⟩
variable{w:World}{loose:List Str}{mean:ExcName→Option Value}{mg mb:Str→Option Value}
theorem DZ{c:St0}{d:Dy}{n:Nat}(X:Snd (GlN w loose mean mg mb) n itD)(A:AOk c n){l b r:Nat}(hb:b<12)(hr:r<32){oN t0:O}(R0:Rel (GlN w loose mean mg mb) c d (fr [1,2,3,4,5,6]) (loB l (.ofNat b) none) (Hb (.cell (some (.m32 r))) c0 c0 c0 oN (.list (ao b)) [] [] [t0])){Q:Flow→Shared→Prop}{E:Value→Shared→Prop}
 (hQ: ∀ρ' ξ' m' s',Ext d.ρ ρ'→Rel (GlN w loose mean mg mb) c ⟨ρ',ξ',m',s'⟩ (fr [1,2,3,4,5,6]) (loB l (.ofNat b) (some (.loc 24))) (Hb (.cell (some (.m32 r))) (.cell (some (.loc 23))) c0 c0 oN (.list (ao b)) [.loc 23] [.loc 24] [t0,.list (ag r),.list (chN r)])→Q .next s'):wpAny (GlN w loose mean mg mb).M c.A (execs (dB qA++(dB qB++(dB qC++(dB qD++dB qE)))) c.env) Q E d.s:=by
 refine el_EL (R0.addr (k:=7) rfl) ?_
 intro aN haN
 refine el_EL (R0.addr (k:=8) rfl) ?_
 intro aE haE
 refine el_EL (R0.addr (k:=9) rfl) ?_
 intro aC haC
 refine el_EL (R0.addr (k:=20) rfl) ?_
 intro aS haS
 refine el_EL (R0.addr (k:=21) rfl) ?_
 intro aF haF
 refine ba (cy X A R0 (is:=[0,1,2,8]) (ce':=[1,2]) (los:=loS (some (.top l)) (some (.top aN)) (some (.int (.ofNat b))) (some (.loc 3)) (some (.top aC)) (some (.top aS)) (some (.top aF)) none) (lo4:=(loB l (.ofNat b) none)) (h4:=(Hb (.cell (some (.m32 r))) (.cell (some (.loc 23))) c0 c0 oN (.list (ao b)) [] [] [t0,.list (ag r)])) (by decide) (λk hk=> ?_) rfl rfl (ab rfl rfl (ab rfl rfl (ab rfl rfl (ab rfl (gEv b _) rfl)))) iW (λj k' h=> ?_)
  (.ren rfl (.top haN (.ren rfl (.ren rfl (.top haC (.top haS (.top haF (.no (.no (.no (.no (.no (.no (.no (.no (.no .nil)))))))))))))))) (Mr hb hr l aN aC aS aF) (aa rfl (aa rfl (aa rfl (aa (gEv b _) (aa (ai (b8 hr) _) rfl))))) rfl (.ren rfl (.top haN (.ren rfl (.ren rfl (.top haC (.top haS (.top haF (.no (.no (.no (.no (.no (.no (.no (.no (.no .nil)))))))))))))))) (.inl rfl) λρ1 ξ1 m1 s1 fl x1 R1 hf=> ?_)
 · exact Uz.mp hk|>.elim (λe=>by rw[e];exact Tk rfl) λhk=>Uz.mp hk|>.elim (λe=>by rw[e];exact Tk rfl) λhk=>Uz.mp hk|>.elim (λe=>by rw[e];exact Tk rfl) λhk=>by rw[TF.mp hk];exact Tk rfl
 · match j,h with
   |0,h=>cases h;exact⟨1,rfl,rfl⟩
   |1,h=>cases h;exact⟨2,rfl,rfl⟩
   |j+2,h=>simp at h
 cases(hf:fl= .next)
 have haN:=x1.get haN
 have haE:=x1.get haE
 have haC:=x1.get haC
 have haS:=x1.get haS
 have haF:=x1.get haF
 refine ba (cy (d:=⟨ρ1,ξ1,m1,s1⟩) X A R1 (is:=[0,1,2,3,4,23,9,10,11,12,13,14,15,16,17,18,19]) (ce':=[1,2,3,4]) (los:=loS (some (.top l)) (some (.top aN)) (some (.int (.ofNat b))) (some (.top aE)) (some (.loc 6)) (some (.top aS)) (some (.top aF)) none) (lo4:=(loB l (.ofNat b) (some (.loc 24)))) (h4:=(Hb (.cell (some (.m32 r))) (.cell (some (.loc 23))) c0 (.cell (some (ca r))) oN (.list (ao b)) [] [] [t0,.list (ag r),.list (chN r)])) (by decide) (λk hk=> ?_) rfl rfl (ab rfl rfl (ab rfl rfl (ab rfl rfl (ab rfl rfl (ab rfl rfl (ab rfl (ai (b8 hr) _) (show _=some (chO 7)from ?_))))))) iW (λj k' h=> ?_)
  (.ren rfl (.top haN (.ren rfl (.top haE (.ren rfl (.top haS (.top haF (.no (.no (.no (.no (.no (.no (.no (.no (.no .nil)))))))))))))))) (Mt hr l aN aE aS aF (.ofNat b)) (cq (a:=[.ltab,.cell (some (.m32 r)),.cell (some (.loc 5)),c0,.cell (some (ca r)),.list (ag r)]) (aa rfl (aa rfl (aa rfl (aa rfl (aa (l7 hr _) (aa (ai (b8 hr) _) rfl)))))) (cq (a:=chO 7) (a':=chO 10) ?_ (aa (ai (gCh hr) _) rfl))) ?_ (.ren rfl (.top haN (.ren rfl (.top haE (.ren rfl (.top haS (.top haF (.ren rfl (.no (.no (.no (.no (.no (.no (.no (.no .nil)))))))))))))))) (.inl rfl) λρ2 ξ2 m2 s2 fl x2 R2 hf=> ?_)
 · have hk:k≤23:=by simp at hk;omega
   exact TI hk (Tk rfl)
 · kernel_rfl
 · match j,h with
   |0,h=>cases h;exact⟨1,rfl,rfl⟩
   |1,h=>cases h;exact⟨2,rfl,rfl⟩
   |2,h=>cases h;exact⟨3,rfl,rfl⟩
   |3,h=>cases h;exact⟨4,rfl,rfl⟩
   |j+4,h=>simp at h
 · kernel_rfl
 · kernel_rfl
 cases(hf:fl= .next)
 have haN:=x2.get haN
 have haE:=x2.get haE
 have haC:=x2.get haC
 have haS:=x2.get haS
 have haF:=x2.get haF
 refine ba (cy (d:=⟨ρ2,ξ2,m2,s2⟩) X A R2 (is:=[0,1,2,23,8,24]) (ce':=[1,2]) (los:=loS (some (.top l)) (some (.top aN)) (some (.int (.ofNat b))) (some (.loc 4)) (some (.top aC)) (some (.top aS)) (some (.top aF)) (some (.loc 5))) (lo4:=(loB l (.ofNat b) (some (.loc 24)))) (h4:=(Hb (.cell (some (.m32 r))) (.cell (some (.loc 23))) c0 (.cell (some (ca r))) oN (.list (ao b)) [] [] [t0,.list (ag r),.list (chN r)])) (by decide) (λk hk=> ?_) rfl rfl (ab rfl rfl (ab rfl rfl (ab rfl rfl (ab rfl (ai (b8 hr) _) (ab rfl (gEv b _) (ab rfl (ai (gCh hr) _) rfl)))))) iW (λj k' h=> ?_)
  (.ren rfl (.top haN (.ren rfl (.ren rfl (.top haC (.top haS (.top haF (.ren rfl (.no (.no (.no (.no (.no (.no (.no (.no .nil)))))))))))))))) (Ms hb hr l aN aC aS aF) (aa rfl (aa rfl (aa rfl (aa (ai (b8 hr) _) (aa (gEv b _) (aa (ai (gCh hr) _) rfl)))))) rfl (.ren rfl (.top haN (.ren rfl (.ren rfl (.top haC (.top haS (.top haF (.ren rfl (.no (.no (.no (.no (.no (.no (.no (.no .nil)))))))))))))))) (.inl rfl) λρ3 ξ3 m3 s3 fl x3 R3 hf=> ?_)
 · have hk:k≤24:=by simp at hk;omega
   exact TI hk (Tk rfl)
 · match j,h with
   |0,h=>cases h;exact⟨1,rfl,rfl⟩
   |1,h=>cases h;exact⟨2,rfl,rfl⟩
   |j+2,h=>simp at h
 cases(hf:fl= .next)
 have haN:=x3.get haN
 have haE:=x3.get haE
 have haC:=x3.get haC
 have haS:=x3.get haS
 have haF:=x3.get haF
 refine ba (cy (d:=⟨ρ3,ξ3,m3,s3⟩) X A R3 (is:=[0,24]) (ce':=[]) (los:=loS (some (.top l)) (some (.top aN)) (some (.int (.ofNat b))) (some (.top aE)) (some (.top aC)) (some (.top aS)) (some (.top aF)) (some (.loc 1))) (lo4:=(loB l (.ofNat b) (some (.loc 24)))) (h4:=(Hb (.cell (some (.m32 r))) (.cell (some (.loc 23))) c0 (.cell (some (ca r))) oN (.list (ao b)) [] [] [t0,.list (ag r),.list (chN r)])) (by decide) (λk hk=> ?_) rfl rfl (ab rfl rfl (ab rfl (ai (gCh hr) _) rfl)) iW (λj k' h=> ?_)
  (.ren rfl (.top haN (.ren rfl (.top haE (.top haC (.top haS (.top haF (.ren rfl (.no (.no (.no (.no (.no (.no (.no (.no .nil)))))))))))))))) (Mu hr l aN aE aC aS aF (.ofNat b)) (aa rfl (aa (ai (gCh hr) _) rfl)) rfl (.ren rfl (.top haN (.ren rfl (.top haE (.top haC (.top haS (.top haF (.ren rfl (.no (.no (.no (.no (.no (.no (.no (.no .nil)))))))))))))))) (.inl rfl) λρ4 ξ4 m4 s4 fl x4 R4 hf=> ?_)
 · have hk:k≤24:=by simp at hk;omega
   exact TI hk (Tk rfl)
 · simp at h
 cases(hf:fl= .next)
 have hE:itD.s (fr [1,2,3,4,5,6]) (loB l (.ofNat b) (some (.loc 24))) (Hb (.cell (some (.m32 r))) (.cell (some (.loc 23))) c0 (.cell (some (ca r))) oN (.list (ao b)) [] [] [t0,.list (ag r),.list (chN r)]) qE=some (.next,(loB l (.ofNat b) (some (.loc 24))),(Hb (.cell (some (.m32 r))) (.cell (some (.loc 23))) c0 (.cell (some (ca r))) oN (.list (ao b)) [.loc 23] [.loc 24] [t0,.list (ag r),.list (chN r)])):=by kernel_rfl
 refine X.s c ⟨ρ4,ξ4,m4,s4⟩ (fr [1,2,3,4,5,6]) _ _ qE (.next,_,_) Q E A R4 hE λρ5 ξ5 m5 s5 fl x5 R5 hf=> ?_
 cases(hf:fl= .next)
 exact hQ ρ5 ξ5 m5 s5 ((((x1.trans x2).trans x3).trans x4).trans x5) (R5.clear (k:=4) rfl)
theorem D0{c:St0}{d:Dy}{n:Nat}(X:Snd (GlN w loose mean mg mb) n itD)(A:AOk c n){l b r:Nat}(hb:b<12)(hr:r<32){oN t0 t1 t2:O}(R0:Rel (GlN w loose mean mg mb) c d (fr [1,2,3,4,5,6]) (loB l (.ofNat b) (some (.loc 24))) (Hb (.cell (some (.m32 r))) (.cell (some (.loc 23))) c0 c0 oN (.list (ao b)) [.loc 23] [.loc 24] [t0,t1,t2])){Q:Flow→Shared→Prop}{E:Value→Shared→Prop}
 (hQ: ∀ρ' ξ' m' s',Ext d.ρ ρ'→Rel (GlN w loose mean mg mb) c ⟨ρ',ξ',m',s'⟩ (fr [1,2,3,4,5,6]) (loB l (.ofNat b) (some (.loc 26))) (Hb (.cell (some (.m32 r))) (.cell (some (.loc 25))) c0 c0 oN (.list (ao b)) [.loc 23,.loc 25] [.loc 24,.loc 26] [t0,t1,t2,.list (ag r),.list (chN r)])→Q .next s'):wpAny (GlN w loose mean mg mb).M c.A (execs (dB qA++(dB qB++(dB qC++(dB qD++dB qE)))) c.env) Q E d.s:=by
 refine el_EL (R0.addr (k:=7) rfl) ?_
 intro aN haN
 refine el_EL (R0.addr (k:=8) rfl) ?_
 intro aE haE
 refine el_EL (R0.addr (k:=9) rfl) ?_
 intro aC haC
 refine el_EL (R0.addr (k:=20) rfl) ?_
 intro aS haS
 refine el_EL (R0.addr (k:=21) rfl) ?_
 intro aF haF
 refine ba (cy X A R0 (is:=[0,1,2,8]) (ce':=[1,2]) (los:=loS (some (.top l)) (some (.top aN)) (some (.int (.ofNat b))) (some (.loc 3)) (some (.top aC)) (some (.top aS)) (some (.top aF)) none) (lo4:=(loB l (.ofNat b) none)) (h4:=(Hb (.cell (some (.m32 r))) (.cell (some (.loc 25))) c0 c0 oN (.list (ao b)) [.loc 23] [.loc 24] [t0,t1,t2,.list (ag r)])) (by decide) (λk hk=> ?_) rfl rfl (ab rfl rfl (ab rfl rfl (ab rfl rfl (ab rfl (gEv b _) rfl)))) iW (λj k' h=> ?_)
  (.ren rfl (.top haN (.ren rfl (.ren rfl (.top haC (.top haS (.top haF (.no (.no (.no (.no (.no (.no (.no (.no (.no .nil)))))))))))))))) (Mr hb hr l aN aC aS aF) (aa rfl (aa rfl (aa rfl (aa (gEv b _) (aa (ai (b8 hr) _) rfl))))) rfl (.ren rfl (.top haN (.ren rfl (.ren rfl (.top haC (.top haS (.top haF (.no (.no (.no (.no (.no (.no (.no (.no (.no .nil)))))))))))))))) (.inl rfl) λρ1 ξ1 m1 s1 fl x1 R1 hf=> ?_)
 · exact Uz.mp hk|>.elim (λe=>by rw[e];exact Tk rfl) λhk=>Uz.mp hk|>.elim (λe=>by rw[e];exact Tk rfl) λhk=>Uz.mp hk|>.elim (λe=>by rw[e];exact Tk rfl) λhk=>by rw[TF.mp hk];exact Tk rfl
 · match j,h with
   |0,h=>cases h;exact⟨1,rfl,rfl⟩
   |1,h=>cases h;exact⟨2,rfl,rfl⟩
   |j+2,h=>simp at h
 cases(hf:fl= .next)
 have haN:=x1.get haN
 have haE:=x1.get haE
 have haC:=x1.get haC
 have haS:=x1.get haS
 have haF:=x1.get haF
 refine ba (cy (d:=⟨ρ1,ξ1,m1,s1⟩) X A R1 (is:=[0,1,2,3,4,25,9,10,11,12,13,14,15,16,17,18,19]) (ce':=[1,2,3,4]) (los:=loS (some (.top l)) (some (.top aN)) (some (.int (.ofNat b))) (some (.top aE)) (some (.loc 6)) (some (.top aS)) (some (.top aF)) none) (lo4:=(loB l (.ofNat b) (some (.loc 26)))) (h4:=(Hb (.cell (some (.m32 r))) (.cell (some (.loc 25))) c0 (.cell (some (ca r))) oN (.list (ao b)) [.loc 23] [.loc 24] [t0,t1,t2,.list (ag r),.list (chN r)])) (by decide) (λk hk=> ?_) rfl rfl (ab rfl rfl (ab rfl rfl (ab rfl rfl (ab rfl rfl (ab rfl rfl (ab rfl (ai (b8 hr) _) (show _=some (chO 7)from ?_))))))) iW (λj k' h=> ?_)
  (.ren rfl (.top haN (.ren rfl (.top haE (.ren rfl (.top haS (.top haF (.no (.no (.no (.no (.no (.no (.no (.no (.no .nil)))))))))))))))) (Mt hr l aN aE aS aF (.ofNat b)) (cq (a:=[.ltab,.cell (some (.m32 r)),.cell (some (.loc 5)),c0,.cell (some (ca r)),.list (ag r)]) (aa rfl (aa rfl (aa rfl (aa rfl (aa (l7 hr _) (aa (ai (b8 hr) _) rfl)))))) (cq (a:=chO 7) (a':=chO 10) ?_ (aa (ai (gCh hr) _) rfl))) ?_ (.ren rfl (.top haN (.ren rfl (.top haE (.ren rfl (.top haS (.top haF (.ren rfl (.no (.no (.no (.no (.no (.no (.no (.no .nil)))))))))))))))) (.inl rfl) λρ2 ξ2 m2 s2 fl x2 R2 hf=> ?_)
 · have hk:k≤25:=by simp at hk;omega
   exact TI hk (Tk rfl)
 · kernel_rfl
 · match j,h with
   |0,h=>cases h;exact⟨1,rfl,rfl⟩
   |1,h=>cases h;exact⟨2,rfl,rfl⟩
   |2,h=>cases h;exact⟨3,rfl,rfl⟩
   |3,h=>cases h;exact⟨4,rfl,rfl⟩
   |j+4,h=>simp at h
 · kernel_rfl
 · kernel_rfl
 cases(hf:fl= .next)
 have haN:=x2.get haN
 have haE:=x2.get haE
 have haC:=x2.get haC
 have haS:=x2.get haS
 have haF:=x2.get haF
 refine ba (cy (d:=⟨ρ2,ξ2,m2,s2⟩) X A R2 (is:=[0,1,2,25,8,26]) (ce':=[1,2]) (los:=loS (some (.top l)) (some (.top aN)) (some (.int (.ofNat b))) (some (.loc 4)) (some (.top aC)) (some (.top aS)) (some (.top aF)) (some (.loc 5))) (lo4:=(loB l (.ofNat b) (some (.loc 26)))) (h4:=(Hb (.cell (some (.m32 r))) (.cell (some (.loc 25))) c0 (.cell (some (ca r))) oN (.list (ao b)) [.loc 23] [.loc 24] [t0,t1,t2,.list (ag r),.list (chN r)])) (by decide) (λk hk=> ?_) rfl rfl (ab rfl rfl (ab rfl rfl (ab rfl rfl (ab rfl (ai (b8 hr) _) (ab rfl (gEv b _) (ab rfl (ai (gCh hr) _) rfl)))))) iW (λj k' h=> ?_)
  (.ren rfl (.top haN (.ren rfl (.ren rfl (.top haC (.top haS (.top haF (.ren rfl (.no (.no (.no (.no (.no (.no (.no (.no .nil)))))))))))))))) (Ms hb hr l aN aC aS aF) (aa rfl (aa rfl (aa rfl (aa (ai (b8 hr) _) (aa (gEv b _) (aa (ai (gCh hr) _) rfl)))))) rfl (.ren rfl (.top haN (.ren rfl (.ren rfl (.top haC (.top haS (.top haF (.ren rfl (.no (.no (.no (.no (.no (.no (.no (.no .nil)))))))))))))))) (.inl rfl) λρ3 ξ3 m3 s3 fl x3 R3 hf=> ?_)
 · have hk:k≤26:=by simp at hk;omega
   exact TI hk (Tk rfl)
 · match j,h with
   |0,h=>cases h;exact⟨1,rfl,rfl⟩
   |1,h=>cases h;exact⟨2,rfl,rfl⟩
   |j+2,h=>simp at h
 cases(hf:fl= .next)
 have haN:=x3.get haN
 have haE:=x3.get haE
 have haC:=x3.get haC
 have haS:=x3.get haS
 have haF:=x3.get haF
 refine ba (cy (d:=⟨ρ3,ξ3,m3,s3⟩) X A R3 (is:=[0,26]) (ce':=[]) (los:=loS (some (.top l)) (some (.top aN)) (some (.int (.ofNat b))) (some (.top aE)) (some (.top aC)) (some (.top aS)) (some (.top aF)) (some (.loc 1))) (lo4:=(loB l (.ofNat b) (some (.loc 26)))) (h4:=(Hb (.cell (some (.m32 r))) (.cell (some (.loc 25))) c0 (.cell (some (ca r))) oN (.list (ao b)) [.loc 23] [.loc 24] [t0,t1,t2,.list (ag r),.list (chN r)])) (by decide) (λk hk=> ?_) rfl rfl (ab rfl rfl (ab rfl (ai (gCh hr) _) rfl)) iW (λj k' h=> ?_)
  (.ren rfl (.top haN (.ren rfl (.top haE (.top haC (.top haS (.top haF (.ren rfl (.no (.no (.no (.no (.no (.no (.no (.no .nil)))))))))))))))) (Mu hr l aN aE aC aS aF (.ofNat b)) (aa rfl (aa (ai (gCh hr) _) rfl)) rfl (.ren rfl (.top haN (.ren rfl (.top haE (.top haC (.top haS (.top haF (.ren rfl (.no (.no (.no (.no (.no (.no (.no (.no .nil)))))))))))))))) (.inl rfl) λρ4 ξ4 m4 s4 fl x4 R4 hf=> ?_)
 · have hk:k≤26:=by simp at hk;omega
   exact TI hk (Tk rfl)
 · simp at h
 cases(hf:fl= .next)
 have hE:itD.s (fr [1,2,3,4,5,6]) (loB l (.ofNat b) (some (.loc 26))) (Hb (.cell (some (.m32 r))) (.cell (some (.loc 25))) c0 (.cell (some (ca r))) oN (.list (ao b)) [.loc 23] [.loc 24] [t0,t1,t2,.list (ag r),.list (chN r)]) qE=some (.next,(loB l (.ofNat b) (some (.loc 26))),(Hb (.cell (some (.m32 r))) (.cell (some (.loc 25))) c0 (.cell (some (ca r))) oN (.list (ao b)) [.loc 23,.loc 25] [.loc 24,.loc 26] [t0,t1,t2,.list (ag r),.list (chN r)])):=by kernel_rfl
 refine X.s c ⟨ρ4,ξ4,m4,s4⟩ (fr [1,2,3,4,5,6]) _ _ qE (.next,_,_) Q E A R4 hE λρ5 ξ5 m5 s5 fl x5 R5 hf=> ?_
 cases(hf:fl= .next)
 exact hQ ρ5 ξ5 m5 s5 ((((x1.trans x2).trans x3).trans x4).trans x5) (R5.clear (k:=4) rfl)
end
section
noncomputable def D1(s:S):Mine.E:=match s with| .for_ _ i _ _ _=>i|_=> .nil
noncomputable def Mv(s:S):Mine.E:=match s with| .for_ t _ _ _ _=>t|_=> .nil
noncomputable def SX(s:S):Pos:=match s with| .for_ _ _ _ _ p=>p|_=>default
theorem xO:dB dF=(dS (fP 0 dF)).1::(dS (fP 1 dF)).1::(dB q1++((dS (fP 7 dF)).1::dB q9)):=by kernel_rfl
theorem D2:(dS (fP 7 dF)).1= .For (dE (Mv (fP 7 dF))) (dE (D1 (fP 7 dF))) (dB j7) [] (SX (fP 7 dF)):=by kernel_rfl
theorem oo:dB j7=dB qA++(dB qB++(dB qC++(dB qD++dB qE))):=by kernel_rfl
theorem D3{b:Nat}(hb:b<12)(l aN:Nat):ft 7 [0,1,2,3,4,5,6] [] (itD.s (fr [1,2,3,4,5,6]) (loS (some (.top l)) (some (.top aN)) (some (.int (.ofNat b))) none none none none none) [.ltab,c0,c0,c0,c0,c0,c0] q1)=
 some (.next,loS (some (.top l)) (some (.top aN)) (some (.int (.ofNat b))) (some (.loc 7)) (some (.loc 8)) (some (.loc 19)) (some (.loc 20)) none,app [.ltab,c0,c0,c0,c0,c0,c0,.list (ao b)] (app (chO 9) [.list [],.list []])):=by
 match b,hb with
 |0,_=>exact L4 l aN
 |1,_=>exact L5 l aN
 |2,_=>exact L6 l aN
 |3,_=>exact L7 l aN
 |4,_=>exact L8 l aN
 |5,_=>exact L9 l aN
 |6,_=>exact Ma l aN
 |7,_=>exact Mb l aN
 |8,_=>exact Mc l aN
 |9,_=>exact Md l aN
 |10,_=>exact DJ l aN
 |11,_=>exact DK l aN
 |n+12,h=>exact absurd h (by omega)
variable{w:World}{loose:List Str}{mean:ExcName→Option Value}{mg mb:Str→Option Value}
theorem Mw{c:St0}{d:Dy}{n:Nat}(X:Snd (GlN w loose mean mg mb) n itD)(A:AOk c n){l b:Nat}(hb:b<12){oN:O}(R0:Rel (GlN w loose mean mg mb) c d (fr [1,2,3,4,5,6]) (loS (some (.top l)) (some (.loc 7)) (some (.int (.ofNat b))) none none none none none) [.ltab,c0,c0,c0,c0,c0,c0,oN]){Q:Flow→Shared→Prop}{E:Value→Shared→Prop}
 (hQ: ∀ρ' ξ' m' s',Ext d.ρ ρ'→Rel (GlN w loose mean mg mb) c ⟨ρ',ξ',m',s'⟩ (fr [1,2,3,4,5,6]) (loB l (.ofNat b) none) (Hb c0 c0 c0 c0 oN (.list (ao b)) [] [] [])→Q .next s'):wpAny (GlN w loose mean mg mb).M c.A (execs (dB q1) c.env) Q E d.s:=by
 refine el_EL (R0.addr (k:=7) rfl) ?_
 intro aN haN
 refine cy X A R0 (is:=[0,1,2,3,4,5,6]) (ce':=[1,2,3,4,5,6]) (los:=loS (some (.top l)) (some (.top aN)) (some (.int (.ofNat b))) none none none none none) (lo4:=loB l (.ofNat b) none) (h4:=Hb c0 c0 c0 c0 oN (.list (ao b)) [] [] []) (by decide) (λk hk=> ?_) rfl rfl
  (hs:=[.ltab,c0,c0,c0,c0,c0,c0]) (by kernel_rfl) iW (λj k' h=> ?_) (.ren rfl (.top haN (.ren rfl (.no (.no (.no (.no (.no (.no (.no (.no (.no (.no (.no (.no (.no .nil)))))))))))))))) (D3 hb l aN)
  (cq (a:=[.ltab,c0,c0,c0,c0,c0,c0,.list (ao b)]) (a':=[.ltab,c0,c0,c0,c0,c0,c0,.list (ao b)]) (aa rfl (aa rfl (aa rfl (aa rfl (aa rfl (aa rfl (aa rfl (aa (gEv b _) rfl)))))))) (b:=app (chO 9) [.list [],.list []]) (b':=app (chO 10) [.list [],.list []]) ?_) ?_ (.ren rfl (.top haN (.ren rfl (.ren rfl (.ren rfl (.ren rfl (.ren rfl (.no (.no (.no (.no (.no (.no (.no (.no (.no .nil)))))))))))))))) (.inl rfl) λρ1 ξ1 m1 s1 fl x1 R1 hf=> ?_
 · have hk:k≤6:=by simp at hk;omega
   exact TI hk (Tk rfl)
 · exact⟨k',h,by
    match j,h with
    |0,h=>cases h;rfl
    |1,h=>cases h;rfl
    |2,h=>cases h;rfl
    |3,h=>cases h;rfl
    |4,h=>cases h;rfl
    |5,h=>cases h;rfl
    |j+6,h=>simp at h⟩
 · kernel_rfl
 · kernel_rfl
 cases(hf:fl= .next)
 exact hQ ρ1 ξ1 m1 s1 x1 R1
end
section
variable{w:World}{loose:List Str}{mean:ExcName→Option Value}{mg mb:Str→Option Value}
noncomputable def oN(r0 r1 r2:Nat):O:= .list [.m32 r0,.m32 r1,.m32 r2]
noncomputable def oS(r0 r1:Nat):O:= .list [.m32 r0,.m32 r1]
def HA(b r0 r1 r2:Nat):H:=Hb c0 c0 c0 c0 (oN r0 r1 r2) (.list (ao b)) [] [] [oS r0 r1]
def HB(b r0 r1 r2:Nat):H:=Hb (.cell (some (.m32 r0))) (.cell (some (.loc 23))) c0 c0 (oN r0 r1 r2) (.list (ao b)) [.loc 23] [.loc 24] [oS r0 r1,.list (ag r0),.list (chN r0)]
def HC(b r0 r1 r2:Nat):H:=Hb (.cell (some (.m32 r1))) (.cell (some (.loc 25))) c0 c0 (oN r0 r1 r2) (.list (ao b)) [.loc 23,.loc 25] [.loc 24,.loc 26] [oS r0 r1,.list (ag r0),.list (chN r0),.list (ag r1),.list (chN r1)]
def xT:Mine.E:=Mv (fP 7 dF)
theorem D4(l:Nat)(b r0 r1 r2:Nat):itD.e (fr [1,2,3,4,5,6]) (loB l (.ofNat b) none) (Hb c0 c0 c0 c0 (oN r0 r1 r2) (.list (ao b)) [] [] []) (D1 (fP 7 dF))=some (.loc 22,HA b r0 r1 r2):=by kernel_rfl
theorem tK(l:Nat)(b r0 r1 r2:Nat):asg itD (fr [1,2,3,4,5,6]) (loB l (.ofNat b) none) (HA b r0 r1 r2) (.m32 r0) xT=some (loB l (.ofNat b) none,Hb (.cell (some (.m32 r0))) c0 c0 c0 (oN r0 r1 r2) (.list (ao b)) [] [] [oS r0 r1]):=by kernel_rfl
theorem tL(l:Nat)(b r0 r1 r2:Nat):asg itD (fr [1,2,3,4,5,6]) (loB l (.ofNat b) (some (.loc 24))) (HB b r0 r1 r2) (.m32 r1) xT=some (loB l (.ofNat b) (some (.loc 24)),Hb (.cell (some (.m32 r1))) (.cell (some (.loc 23))) c0 c0 (oN r0 r1 r2) (.list (ao b)) [.loc 23] [.loc 24] [oS r0 r1,.list (ag r0),.list (chN r0)]):=by kernel_rfl
theorem l8{Γ:Gl}{c:St0}{n:Nat}{ih:Ih}(X:Snd Γ n ih)(A:AOk c n){f:Frm}{ρ:List Addr}{ξ:List (Addr×Obj)}{mm:Str→Option Value}{s:Shared}{lo lo4 lo5:Lo}{h h4 h5:H}{a:Addr}{o':Obj}{i:Nat}{src:Src}{v:V}{t:Mine.E}{body:List Stmt}
 (R:Rel Γ c ⟨ρ,ξ,mm,s⟩ f lo h)(O:OffA c ⟨ρ,ξ,mm,s⟩ a)(ho:s.heap.get? a=some o')(hi:ItO ρ i o' src)(hn:fC h src i=some (some v))(k1:asg ih f lo h v t=some (lo4,h4))
 (hB: ∀(c':St0) (d':Dy) (Q:Flow→Shared→Prop) (E:Value→Shared→Prop),c'.A=c.A→c'.env=c.env→AOk c' n→Rel Γ c' d' f lo4 h4→(∀ρ' ξ' m' s',Ext d'.ρ ρ'→Rel Γ c' ⟨ρ',ξ',m',s'⟩ f lo5 h5→Q .next s')→wpAny Γ.M c'.A (execs body c'.env) Q E d'.s)
 {N:Shared→Prop}(hN: ∀ρ5 ξ5 m5 s5 o5,Ext ρ ρ5→Rel Γ c ⟨ρ5,ξ5,m5,s5⟩ f lo5 h5→OffA c ⟨ρ5,ξ5,m5,s5⟩ a→s5.heap.get? a=some o5→ItO ρ5 (i+1) o5 src→N s5){E E2 E3 E4:Value→Shared→Prop}{none':Shared→Prop}{K:Flow→Shared→Prop}(hK: ∀s5,N s5→K .next s5):
 wpAny Γ.M c.A (pyNext (.ref a)) (λr s₁=>match r with
  |none=>none' s₁
  |some v=>wpAny Γ.M c.A (letOwnedTupleGo (dE t) (.ref a) v) (λZ s₁'=>wpAny Γ.M c.A (assign (dE t) c.env v) (λZ s₂=>wpAny Γ.M c.A (execs body c.env) K E s₂) E2 s₁') E3 s₁) E4 s:=by
 refine jK A R O ho hi hn (λhr=>by cases hr) λv' hr w s3 o3 v3 R3 ho3 hi3=> ?_
 obtain rfl:=Ud hr
 refine gP ho3 hi3 ?_
 have Rk:=R3.keep ho3 O.b O.l O.r
 refine kT (c:={c with kept:=(a,o3)::c.kept}) (d:=⟨ρ,(a,o3)::ξ,mm,s3⟩) X (A.kept _) Rk v3 k1 λρ4 ξ4 m4 s4 x4 R4=> ?_
 refine hB {c with kept:=(a,o3)::c.kept} ⟨ρ4,ξ4,m4,s4⟩ _ _ rfl rfl (A.kept _) R4 λρ5 ξ5 m5 s5 x5 R5=> ?_
 have kk: ∀p∈c.kept,p.1≠a:=λp hp=>O.x p (R.kp p hp)
 have R6:Rel Γ c ⟨ρ5,ξ5.filter (λp=> !(p.1==a)),m5,s5⟩ f lo5 h5:=R5.unkeep (t:=s5.toks) hi3.nc kk λb ob Z e=>e
 refine aD (R5.led.frz _ (R5.kp _ (.head _))) ?_
 intro f1 f2 f3 f4
 have O6:OffA c ⟨ρ5,ξ5.filter (λp=> !(p.1==a)),m5,s5⟩ a:=⟨f2,f3,f4,λp hp=>by
  refine ae (Ug.mp hp) ?_
  intro _ p2
  intro e;rw[e]at p2;simp at p2⟩
 exact hK _ (hN _ _ _ _ o3 (x4.trans x5) R6 O6 f1 ((hi3.ext x4).ext x5))
theorem D5{c:St0}{d:Dy}{n:Nat}(X:Snd (GlN w loose mean mg mb) n itD)(A:AOk c n){l b r0 r1 r2:Nat}(hb:b<12)(h0:r0<32)(h1:r1<32)(R0:Rel (GlN w loose mean mg mb) c d (fr [1,2,3,4,5,6]) (loB l (.ofNat b) none) (Hb c0 c0 c0 c0 (oN r0 r1 r2) (.list (ao b)) [] [] [])){Q:Flow→Shared→Prop}{E:Value→Shared→Prop}
 (hQ: ∀ρ' ξ' m' s',Ext d.ρ ρ'→Rel (GlN w loose mean mg mb) c ⟨ρ',ξ',m',s'⟩ (fr [1,2,3,4,5,6]) (loB l (.ofNat b) (some (.loc 26))) (HC b r0 r1 r2)→Q .next s'):wpAny (GlN w loose mean mg mb).M c.A (exec (dS (fP 7 dF)).1 c.env) Q E d.s:=by
 rw[D2]
 refine wpAny_For ?_ (λZ=>by kernel_rfl)
 refine X.e c d (fr [1,2,3,4,5,6]) _ _ (D1 (fP 7 dF)) (.loc 22) (HA b r0 r1 r2) _ E A R0 (D4 l b r0 r1 r2) λρ1 ξ1 s1 wv x1 R1 v1=> ?_
 refine mB (d:=⟨ρ1,ξ1,d.m,s1⟩) (src:= .ls 22) R1 v1 rfl λa s2 ob R2 O2 ho2 hi2=> ?_
 refine codeAny_forLoop_any (λk s=>(k=3∧s=s2)∨
  (k=2∧ ∃ρ ξ mm o',Ext ρ1 ρ∧Rel (GlN w loose mean mg mb) c ⟨ρ,ξ,mm,s⟩ (fr [1,2,3,4,5,6]) (loB l (.ofNat b) (some (.loc 24))) (HB b r0 r1 r2)∧OffA c ⟨ρ,ξ,mm,s⟩ a∧s.heap.get? a=some o'∧ItO ρ 1 o' (.ls 22))∨
  (k=1∧ ∃ρ ξ mm o',Ext ρ1 ρ∧Rel (GlN w loose mean mg mb) c ⟨ρ,ξ,mm,s⟩ (fr [1,2,3,4,5,6]) (loB l (.ofNat b) (some (.loc 26))) (HC b r0 r1 r2)∧OffA c ⟨ρ,ξ,mm,s⟩ a∧s.heap.get? a=some o'∧ItO ρ 2 o' (.ls 22))) (λk s hI=> ?_) 3 (.inl ⟨rfl,rfl⟩)
 rcases hI with⟨rfl,rfl⟩|⟨rfl,ρ,ξ,mm,o',x2,R,O,ho,hi⟩|⟨rfl,ρ,ξ,mm,o',x2,R,O,ho,hi⟩
 · refine l8 X A (t:=xT) R2 O2 ho2 hi2 (v:= .m32 r0) rfl (tK l b r0 r1 r2) (body:=dB j7) (lo5:=loB l (.ofNat b) (some (.loc 24))) (h5:=HB b r0 r1 r2) (λc' d' Q' E' eA eE A' R' hQ'=> ?_)
    (N:=λs5=> ∃m,m<3∧((m=3∧s5=s)∨
    (m=2∧ ∃ρ ξ mm o',Ext ρ1 ρ∧Rel (GlN w loose mean mg mb) c ⟨ρ,ξ,mm,s5⟩ (fr [1,2,3,4,5,6]) (loB l (.ofNat b) (some (.loc 24))) (HB b r0 r1 r2)∧OffA c ⟨ρ,ξ,mm,s5⟩ a∧s5.heap.get? a=some o'∧ItO ρ 1 o' (.ls 22))∨
    (m=1∧ ∃ρ ξ mm o',Ext ρ1 ρ∧Rel (GlN w loose mean mg mb) c ⟨ρ,ξ,mm,s5⟩ (fr [1,2,3,4,5,6]) (loB l (.ofNat b) (some (.loc 26))) (HC b r0 r1 r2)∧OffA c ⟨ρ,ξ,mm,s5⟩ a∧s5.heap.get? a=some o'∧ItO ρ 2 o' (.ls 22)))) (λρ5 ξ5 m5 s5 o5 x5 R5 O5 ho5 hi5=>⟨2,by decide,.inr (.inl ⟨rfl,ρ5,ξ5,m5,o5,x5,R5,O5,ho5,hi5⟩)⟩) (λs5 h=>h)
   rw[oo]
   exact DZ X A' hb h0 R' hQ'
 · refine l8 X A (t:=xT) R O ho hi (v:= .m32 r1) rfl (tL l b r0 r1 r2) (body:=dB j7) (lo5:=loB l (.ofNat b) (some (.loc 26))) (h5:=HC b r0 r1 r2) (λc' d' Q' E' eA eE A' R' hQ'=> ?_)
    (N:=λs5=> ∃m,m<2∧((m=3∧s5=s2)∨
    (m=2∧ ∃ρ ξ mm o',Ext ρ1 ρ∧Rel (GlN w loose mean mg mb) c ⟨ρ,ξ,mm,s5⟩ (fr [1,2,3,4,5,6]) (loB l (.ofNat b) (some (.loc 24))) (HB b r0 r1 r2)∧OffA c ⟨ρ,ξ,mm,s5⟩ a∧s5.heap.get? a=some o'∧ItO ρ 1 o' (.ls 22))∨
    (m=1∧ ∃ρ ξ mm o',Ext ρ1 ρ∧Rel (GlN w loose mean mg mb) c ⟨ρ,ξ,mm,s5⟩ (fr [1,2,3,4,5,6]) (loB l (.ofNat b) (some (.loc 26))) (HC b r0 r1 r2)∧OffA c ⟨ρ,ξ,mm,s5⟩ a∧s5.heap.get? a=some o'∧ItO ρ 2 o' (.ls 22)))) (λρ5 ξ5 m5 s5 o5 x5 R5 O5 ho5 hi5=>⟨1,by decide,.inr (.inr ⟨rfl,ρ5,ξ5,m5,o5,x2.trans x5,R5,O5,ho5,hi5⟩)⟩) (λs5 h=>h)
   rw[oo]
   exact D0 X A' hb h1 R' hQ'
 · refine jK A R O ho hi (r:=none) rfl (λhr s3 R3=> ?_) λv hr=>by cases hr
   exact Uo (hQ ρ ξ mm s3 (x1.trans x2) R3)
end
section
theorem SY{r0 r1:Nat}(h0:r0<32)(h1:r1<32)(l aE aC c2:Nat)(b:Int):ft 14 [] [] (itD.s (fr [1,2,3,4,5,6]) (loS (some (.top l)) (some (.loc 7)) (some (.int b)) (some (.top aE)) (some (.top aC)) (some (.loc 8)) (some (.loc 9)) none)
 [.ltab,c0,c0,c0,c0,c0,c0,.list [.m32 r0,.m32 r1,.m32 c2],.list [.loc 10,.loc 12],.list [.loc 11,.loc 13],.list (ag r0),.list (chN r0),.list (ag r1),.list (chN r1)] q9)=
 some (.ret (.bool true),loS none none none none none none none none,[.ltab,c0,c0,c0,c0,c0,c0,.list [.m32 r0,.m32 r1,.m32 c2],.list [.loc 10,.loc 12],.list [.loc 11,.loc 13],.list (ag r0),.list (chN r0),.list (ag r1),.list (chN r1)]):=by
 match r1,h1 with
 |0,_=>exact ah (kP0 l aE aC c2 b) (af h0)
 |1,_=>exact ah (kP1 l aE aC c2 b) (af h0)
 |2,_=>exact ah (kP2 l aE aC c2 b) (af h0)
 |3,_=>exact ah (kP3 l aE aC c2 b) (af h0)
 |4,_=>exact ah (kP4 l aE aC c2 b) (af h0)
 |5,_=>exact ah (kP5 l aE aC c2 b) (af h0)
 |6,_=>exact ah (kP6 l aE aC c2 b) (af h0)
 |7,_=>exact ah (kP7 l aE aC c2 b) (af h0)
 |8,_=>exact ah (kP8 l aE aC c2 b) (af h0)
 |9,_=>exact ah (kP9 l aE aC c2 b) (af h0)
 |10,_=>exact ah (Su l aE aC c2 b) (af h0)
 |11,_=>exact ah (Sv l aE aC c2 b) (af h0)
 |12,_=>exact ah (Sw l aE aC c2 b) (af h0)
 |13,_=>exact ah (Sx l aE aC c2 b) (af h0)
 |14,_=>exact ah (Sy l aE aC c2 b) (af h0)
 |15,_=>exact ah (Sz l aE aC c2 b) (af h0)
 |16,_=>exact ah (SA l aE aC c2 b) (af h0)
 |17,_=>exact ah (SD l aE aC c2 b) (af h0)
 |18,_=>exact ah (SF l aE aC c2 b) (af h0)
 |19,_=>exact ah (SG l aE aC c2 b) (af h0)
 |20,_=>exact ah (SH l aE aC c2 b) (af h0)
 |21,_=>exact ah (SI l aE aC c2 b) (af h0)
 |22,_=>exact ah (SJ l aE aC c2 b) (af h0)
 |23,_=>exact ah (SK l aE aC c2 b) (af h0)
 |24,_=>exact ah (SL l aE aC c2 b) (af h0)
 |25,_=>exact ah (SM l aE aC c2 b) (af h0)
 |26,_=>exact ah (SN l aE aC c2 b) (af h0)
 |27,_=>exact ah (SO l aE aC c2 b) (af h0)
 |28,_=>exact ah (SP l aE aC c2 b) (af h0)
 |29,_=>exact ah (SQ l aE aC c2 b) (af h0)
 |30,_=>exact ah (SR l aE aC c2 b) (af h0)
 |31,_=>exact ah (SV l aE aC c2 b) (af h0)
 |n+32,h=>exact absurd h (by omega)
variable{w:World}{loose:List Str}{mean:ExcName→Option Value}{mg mb:Str→Option Value}
theorem D6{c:St0}{d:Dy}{n:Nat}(X:Snd (GlN w loose mean mg mb) n itD)(A:AOk c n){l b r0 r1 r2:Nat}(h0:r0<32)(h1:r1<32)(R0:Rel (GlN w loose mean mg mb) c d (fr [1,2,3,4,5,6]) (loB l (.ofNat b) (some (.loc 26))) (HC b r0 r1 r2)){Q:Flow→Shared→Prop}{E:Value→Shared→Prop}
 (hQ: ∀ρ' ξ' m' s' lo' h',Rel (GlN w loose mean mg mb) c ⟨ρ',ξ',m',s'⟩ (fr [1,2,3,4,5,6]) lo' h'→h'[0]? =some .ltab→Q (.ret (.bool true)) s'):wpAny (GlN w loose mean mg mb).M c.A (execs (dB q9) c.env) Q E d.s:=by
 have R1:=(R0.clear (k:=1) rfl).clear (k:=2) rfl
 have R2:Rel (GlN w loose mean mg mb) c d (fr [1,2,3,4,5,6]) (loB l (.ofNat b) (some (.loc 26))) (Hb c0 c0 c0 c0 (oN r0 r1 r2) (.list (ao b)) [.loc 23,.loc 25] [.loc 24,.loc 26] [oS r0 r1,.list (ag r0),.list (chN r0),.list (ag r1),.list (chN r1)]):=R1
 refine el_EL (R2.addr (k:=8) rfl) ?_
 intro aE haE
 refine el_EL (R2.addr (k:=9) rfl) ?_
 intro aC haC
 refine cy X A R2 (is:=[0,1,2,3,4,5,6,7,20,21,23,24,25,26]) (ce':=[1,2,3,4,5,6]) (los:=loS (some (.top l)) (some (.loc 7)) (some (.int (.ofNat b))) (some (.top aE)) (some (.top aC)) (some (.loc 8)) (some (.loc 9)) none) (lo4:=loS none none none none none none none none)
  (h4:=Hb c0 c0 c0 c0 (oN r0 r1 r2) (.list (ao b)) [.loc 23,.loc 25] [.loc 24,.loc 26] [oS r0 r1,.list (ag r0),.list (chN r0),.list (ag r1),.list (chN r1)]) (by decide) (λk hk=> ?_) rfl rfl
  (ab rfl rfl (ab rfl rfl (ab rfl rfl (ab rfl rfl (ab rfl rfl (ab rfl rfl (ab rfl rfl (ab rfl rfl (ab rfl rfl (ab rfl rfl (ab rfl (ai (b8 h0) _) (ab rfl (ai (gCh h0) _) (ab rfl (ai (b8 h1) _) (ab rfl (ai (gCh h1) _) rfl)))))))))))))) iW (λj k' h=> ?_)
  (.ren rfl (.ren rfl (.ren rfl (.top haE (.top haC (.ren rfl (.ren rfl (.no (.no (.no (.no (.no (.no (.no (.no (.no .nil)))))))))))))))) (SY h0 h1 l aE aC r2 (.ofNat b))
  (aa rfl (aa rfl (aa rfl (aa rfl (aa rfl (aa rfl (aa rfl (aa rfl (aa rfl (aa rfl (aa (ai (b8 h0) _) (aa (ai (gCh h0) _) (aa (ai (b8 h1) _) (aa (ai (gCh h1) _) rfl)))))))))))))) ?_
  (.no (.no (.no (.no (.no (.no (.no (.no (.no (.no (.no (.no (.no (.no (.no (.no .nil)))))))))))))))) (.inr ⟨true,rfl⟩) λρ1 ξ1 m1 s1 fl x1 R3 hf=> ?_
 · have hk:k≤26:=by simp at hk;omega
   exact TI hk (Tk rfl)
 · exact⟨k',h,by
    match j,h with
    |0,h=>cases h;rfl
    |1,h=>cases h;rfl
    |2,h=>cases h;rfl
    |3,h=>cases h;rfl
    |4,h=>cases h;rfl
    |5,h=>cases h;rfl
    |j+6,h=>simp at h⟩
 · kernel_rfl
 refine el_EAL ((hf: ∃w',fl= .ret w'∧VR ρ1 (.bool true) w')) ?_
 rintro w' rfl hw
 cases(hw:w'= .bool true)
 exact hQ ρ1 ξ1 m1 s1 _ _ R3 rfl
theorem Mx{c:St0}{d:Dy}{n:Nat}(X:Snd (GlN w loose mean mg mb) n itD)(A:AOk c n){l:Nat}(R0:Rel (GlN w loose mean mg mb) c d (fr [1,2,3,4,5,6]) (loS (some (.top l)) none none none none none none none) [.ltab,c0,c0,c0,c0,c0,c0]){vs:List Value}{ns:List Int}(hl:c.h₀.IsList l vs.toArray)(hi:IntsAre vs ns)(hsz:vs.length≤63){Q:Flow→Shared→Prop}{E:Value→Shared→Prop}
 (hQ: ∀ρ' ξ' m' s' lo' h',Rel (GlN w loose mean mg mb) c ⟨ρ',ξ',m',s'⟩ (fr [1,2,3,4,5,6]) lo' h'→h'[0]? =some .ltab→Q (.ret (.bool true)) s'):wpAny (GlN w loose mean mg mb).M c.A (execs (dB dF) c.env) Q E d.s:=by
 have G:=(ju w loose mean mg mb).g
 rw[xO]
 refine Uc ?_
 refine Ab (vs:=vs) (ns:=ns) (l:=l) (lo':=loS (some (.top l)) (some (.loc 7)) none none none none none none) (iv:=1) G R0 (by rfl) (by rfl) hl hi hsz (by rfl) (λo=>by rfl) λa m1 s1 n0 t0 n1 t1 n2 t2 R1 hL=> ?_
 refine Uc ?_
 refine Ad (kx:=7) (a:=a) (n0:=n0) (n1:=n1) (n2:=n2) (lo':=λb=>loS (some (.top l)) (some (.loc 7)) (some (.int (.ofNat b))) none none none none none) G R1 (by rfl) ?_ hL (λb=>by rfl) λm2 s2 b hb R2=> ?_
 · have:d.ρ.length=7:=R0.led.len
   show(d.ρ++[a])[7]? =some a
   rw[←this];simp
 refine ba (Mw X A hb R2 λρ3 ξ3 m3 s3 x3 R3=> ?_)
 refine Uc (D5 (d:=⟨ρ3,ξ3,m3,s3⟩) X A hb (by omega) (by omega) R3 λρ4 ξ4 m4 s4 x4 R4=> ?_)
 exact D6 (d:=⟨ρ4,ξ4,m4,s4⟩) X A (by omega) (by omega) R4 hQ
end
theorem xP{h h':Heap}{c P:Addr}{ps:Array Value}(hT:TabsAt [(c,P)] h)(keep: ∀b o,(ghostOf h [(c,P)]).get? b=some o→h'.get? b=some o)(hP:h'.get? P=some (tabObj ps)):OldK h h':=by
 have kp: ∀b o,b∉[(c,P)].map (·.2)→h.get? b=some o→h'.get? b=some o:=λb o hb e=>keep b o (ghost_ne e hb)
 refine⟨λb o e=> ?_,λb o e=> ?_⟩
 · by_cases hb:b∈[(c,P)].map (·.2)
   · rw[TF.mp hb]at e⊢
     have e2:=(hT _ (.head _)).2
     rw[show h.get? P=some o from e]at e2
     cases e2
     exact .inr (.inl ⟨((hT _ (.head _)).1.tab (hT _ (.head _)).2).isCodeTable,rfl,#[],ps,rfl,by rw[Array.empty_append];exact hP⟩)
   · exact .inl (kp b o hb e)
 · by_cases hb:b∈[(c,P)].map (·.2)
   · rw[TF.mp hb]
     exact⟨_,hP⟩
   · exact⟨o,kp b o hb e⟩
set_option tactic.hygienic true in
theorem SZ:rN.Holds:=by
 refine xa ni rfl (by kernel_rfl) (by kernel_rfl) RU Dt ?_
 intro w s₀ s₁ mg mb G Y fa o pm cd doc dV kV ho hd hcd hD hmg hg args vals as hpre hlay hrd hwl hlo
 have hT:=Dv Y
 have X:=ghost_K hT (tq Y).1 (LU _)
 have T:=ghost_top hT G.T
 have hfa:mg (UK "law")=some (.ref 295):=mg_of X T.g (by kernel_rfl)
 have hfa2:mg (UK "law")=some (.ref fa):=hmg
 rw[hfa]at hfa2
 have hfa3:fa=295:=by cases hfa2;rfl
 clear hD hd ho hcd hmg hfa hfa2
 subst hfa3
 wrow_args hpre hlay hrd hwl hlo
 rename_i ns hs0 hly0 hL1 hr1 hl2 w4 w3 l vs wl hL ra w1 r0 hI hr hc1 hc2
 have hsz:vs.length≤63:=by rw[hI.length];omega
 refine enter_call ?_
 refine pD (Γ:=GlN w _ _ mg mb) (fd:=te) (W:=(Wf w.params 295)) (yJ (GlN w _ _ mg mb) rfl rfl) hT (show 1<200 by decide) X T (AllBare.of_eq hg) (vs:=[.top l]) (us:=[]) (ws:=[.ref l]) (lo:=loS (some (.top l)) none none none none none none none) (ce:=[none,none,none,none,none,none]) (.cons rfl .nil) (show 1≤1 by decide) (by kernel_rfl) (by kernel_rfl) λc d E hc hos hk hgk A R=> ?_
 have R1:Rel (GlN w _ _ mg mb) c d (fr [1,2,3,4,5,6]) (loS (some (.top l)) none none none none none none none) [.ltab,c0,c0,c0,c0,c0,c0]:=R
 refine Mx SW (A.le (by omega)) R1 (by rw[hc];exact ghost_list hT hL) hI hsz λρ' ξ' m' s' lo' h' R' h0=> ?_
 have keep: ∀b o,(ghostOf s₁.heap [(202,200)]).get? b=some o→s'.heap.get? b=some o:=λb o e=>R'.fr.keep b o (by rw[hc];exact e)
 obtain⟨P,ob,hP,hPo,hTb,hor⟩:=R'.led.at h0
 have hPe:P=200:=by rw[hP]at hTb;exact Ud hTb
 have hps: ∃ps,s'.heap.get? 200=some (tabObj ps):=by
  rw[hPe]at hPo
  rcases hor with rfl|⟨p,_,rfl,_⟩
  · exact⟨#[],hPo⟩
  · exact⟨_,hPo⟩
 obtain⟨ps,hps⟩:=hps
 refine⟨.inl ⟨.bool true,.bool true,[],rfl,raisesW_false (by wrow_none_raised),.bool true,postW_of (by wrow_shape) (by wtm_val) (by w_fin),?_⟩,xP hT keep hps,R'.os.trans hos,R'.gens⟩
 exact unshared_nil
end
end Mine
theorem PySem.Challenge.cw_ta0137_01_holds : PySem.Challenge.rw_ta0137_01.Holds :=
  Mine.SZ
