import PyProof.Rows.All
import Wide.All
import OpenK.AllK
import Wide.FinOn
import PyProof.InstEq
import PyProof.NsDelKeeps
import PyProof.ExcStrAll.ValueError
import PyProof.ExcBaseAll.ValueError
import PyProof.ExcStrCall
import PyProof.FString4
import KE.KIntText
import PyProof.ListStr
import PyProof.ListCopy
import PyProof.ListRange
import KE.KNest
import PyProof.WalkInts
import PyProof.StrCalls
import PyProof.SeqI3
import PySem.Challenge.RW_kp0046_07
set_option Elab.async false
set_option linter.all false
set_option tactic.hygienic false
set_option bootstrap.genMatcherCode false
set_option compiler.extract_closed false
set_option genSizeOf false
set_option genInjectivity false
set_option genCtorIdx false
set_option backward.linearNoConfusionType false
section
local macro_rules (kind := Lean.Parser.Command.declaration)
  | s=>do
    unless s.getHeadInfo matches .original .. do Lean.Macro.throwUnsupported
    let s:=s.setHeadInfo .none
    if s[0].getArgs.any (!·.isNone) then return s
    let f i n k:=s.setArg 0 (s[0].setArg i (.node .none `null #[.node .none k #[.atom .none n]]))
    if s[1].isOfKind `Lean.Parser.Command.theorem then return f 2 "private" `Lean.Parser.Command.private
    if s[1].isOfKind `Lean.Parser.Command.definition||s[1].isOfKind `Lean.Parser.Command.abbrev then return f 4 "noncomputable" `Lean.Parser.Command.noncomputable
    return s
open List (Perm all_append all_cons all_eq_true any_eq_true append_assoc append_nil cons_ne_nil drop_eq_getElem_cons drop_left drop_nil drop_zero eq_nil_of_length_eq_zero eq_of_mem_replicate ext_getElem? filter filterMap filterMap_append filterMap_cons filterMap_eq_nil_iff filter_append filter_cons filter_nil find?_cons flatten_cons foldl foldl_cons forIn_cons forIn_nil getD_eq_getElem?_getD getElem?_append_left getElem?_append_right getElem?_drop getElem?_eq_getElem getElem?_eq_none getElem?_map getElem_mem isEmpty_iff isEmpty_nil length length_append length_cons length_drop length_eq_zero_iff length_map length_range length_replicate length_take lookup lookup_cons map map_append map_cons map_nil mem_append mem_append_left mem_append_right mem_cons mem_cons_of_mem mem_cons_self mem_filter mem_map mem_of_getElem? mem_range mem_singleton mem_singleton_self nil_append nodup_append nodup_cons nodup_nil not_mem_nil of_mem_zip prefix_append prefix_refl range range' range_succ replicate replicate_succ size_toArray takeWhile_sublist take_length take_nil take_of_length_le)
open Bool (and_eq_true and_eq_true_iff false_eq_true not_eq_true' or_eq_false_iff or_eq_true)
open PySem.Heap (ExtBut get?_push_of_some get?_push_size get?_some_iff get?_update_other lt_size)
namespace Mi
def aP:=@Nat.zero_le
def aQ:=@Nat.le_trans
def aR:=@Nat.le_refl
def aS:=@Nat.le_of_eq
def aT:=@Option.some.inj
def aU:=@Option.map_eq_some_iff
def aV:=@Option.bind_eq_some_iff
def aW:=@PySem.wpAny_mono
def aX:=@beq_eq_false_iff_ne
def aY:=@of_decide_eq_true
def aZ:=@Nat.lt_trans
def ba:=@Option.isSome_iff_exists
def bc:=@List.getElem?_eq_some_iff
def be:=@Nat.le_antisymm
def bf:=@PySem.wpAny_holding
def bg:=@PySem.wpAny_bind
def bh:=@PySem.wpAny_pure
def bj:=@Nat.lt_irrefl
def bk:=@Nat.min_eq_left
def bl:=@Nat.lt_of_lt_of_le
def bn:=@Bool.false_ne_true
def bo:=@Nat.lt_succ_self
def bp:=@List.getElem?_eq_none_iff
def bq:=@Nat.le_of_lt
def br:=@Nat.not_lt_zero
def bv:=@Nat.lt_of_le_of_lt
def bw:=@Nat.le_add_right
def bx:=@Nat.succ_le_succ
def lnO {V:Type}(f:V->V->V):List V->List V
  | y::x::t=>f x y::t
  | s=>s
def lnF {V:Type}(f:V->V->V)(v:Nat->V)(s:List V)(l:List Nat):List V:=l.foldl (λs k=>cond (Nat.beq k 0) (lnO f s) (v k::s)) s
def lnV (c:List Nat)(k:Nat):Nat:=cond (Nat.beq (k % 2) 0) (c.getD (k / 2 - 1) 0) (k / 2)
def lnX (c:List Nat)(l:List Nat):Nat:=(lnF (λx y=>x+y) (lnV c) [] l).headD 0
def lnE:List Nat->List Nat->Nat
  | a::x,b::c=>a*b+lnE x c
  | _,_=>0
def lnP:List Nat->List Nat->List Nat
  | a::x,b::y=>(a+b)::lnP x y
  | [],y=>y
  | x,[]=>x
def lnQ (k:Nat):List Nat:=cond (Nat.beq (k % 2) 0) (replicate (k / 2 - 1+1) 0++[1]) [k / 2]
def lnY (l:List Nat):List Nat:=(lnF lnP lnQ [] l).headD []
def lnG:List Nat->List Nat->Bool
  | _,[]=>true
  | [],b::y=>Nat.beq b 0&&lnG [] y
  | a::x,b::y=>Nat.ble b a&&lnG x y
def lnS (f:List Nat × List Nat->List Nat)(g:List Nat)(l:List (List Nat × List Nat)):List Nat:=l.foldr (λp s=>lnP (lnY (f p)) s) (lnY g)
def lnH (c:List Nat)(g:List Nat × List Nat)(l:List (List Nat × List Nat)):Prop:=l.foldr (λp P=>lnX c p.1<=lnX c p.2->P) (lnX c g.1<=lnX c g.2)
theorem lnN (x:List Nat):lnE x []=0:=by cases x <;> rfl
theorem Ms:∀ x y c,lnE (lnP x y) c=lnE x c+lnE y c
  | x,y,[]=>by rw [lnN,lnN,lnN]
  | a::x,b::y,d::c=>by
    show (a+b)*d+lnE (lnP x y) c=a*d+lnE x c+(b*d+lnE y c)
    rw [Ms,Nat.add_mul,Nat.add_assoc,Nat.add_assoc,Nat.add_left_comm (b*d)]
  | [],[],_::_=>rfl
  | [],_::_,_::_=>(Nat.zero_add _).symm
  | _::_,[],_::_=>rfl
theorem TO:∀ i c,lnE (replicate i 0++[1]) c=c.getD i 0
  | i,[]=>lnN _
  | 0,x::c=>(congr (congrArg _ (Nat.one_mul x)) rfl).trans (Nat.add_zero x)
  | i+1,x::c=>by
    show 0*x+lnE (replicate i 0++[1]) c=c.getD i 0
    rw [TO,Nat.zero_mul,Nat.zero_add]
theorem Vr {V β:Type}{f:V->V->V}{v:Nat->V}{f':β->β->β}{v':Nat->β}(h:V->β)(hf:∀ a b,h (f a b)=f' (h a) (h b))(hv:∀ k,h (v k)=v' k)(l:List Nat):∀ (s:List V),(lnF f v s l).map h=lnF f' v' (s.map h) l:=by
  induction l with
  | nil=>exact λ_=>rfl
  | cons k l ih=>
    intro s
    refine (ih _).trans (congrArg (lnF f' v' · l) ?_)
    show (cond (Nat.beq k 0) (lnO f s) (v k::s)).map h=cond (Nat.beq k 0) (lnO f' (s.map h)) (v' k::s.map h)
    cases Nat.beq k 0 with
    | true=>
      match s with
      | y::x::t=>exact congrArg (·::t.map h) (hf x y)
      | [y]=>rfl
      | []=>rfl
    | false=>exact congrArg (·::s.map h) (hv k)
theorem lnZ {l:List (List Nat)}{m c:List Nat}(h:l.map (lnE · c)=m):lnE (l.headD []) c=m.headD 0:=by
  subst h
  cases l <;> rfl
theorem Mt (c l:List Nat):lnE (lnY l) (1::c)=lnX c l:=
  lnZ (Vr (s:=[]) (lnE · (1::c)) (λa b=>Ms a b _) (λk=>by
    unfold lnQ lnV
    cases Nat.beq (k % 2) 0 with
    | true=>exact (Nat.zero_add _).trans (TO _ _)
    | false=>exact Nat.mul_one _) l)
theorem OV:∀ x y c,lnG x y=true->lnE y c<=lnE x c
  | _,y,[],_=>by rw [lnN];exact aP _
  | _,[],_::_,_=>aP _
  | [],b::y,d::c,h=>by
    have h:=and_eq_true_iff.mp h
    show b*d+lnE y c<=0
    rw [Nat.eq_of_beq_eq_true h.1,Nat.zero_mul,Nat.zero_add]
    exact aQ (OV [] y c h.2) (aR 0)
  | a::x,b::y,d::c,h=>by
    have h:=and_eq_true_iff.mp h
    exact Nat.add_le_add (Nat.mul_le_mul_right d (Nat.le_of_ble_eq_true h.1)) (OV x y c h.2)
theorem Vs (c:List Nat)(g:List Nat × List Nat)(l:List (List Nat × List Nat)):∀ (A B:Nat),A<=B->B+lnE (lnS Prod.snd g.1 l) (1::c)<=A+lnE (lnS Prod.fst g.2 l) (1::c)->lnH c g l:=by
  induction l with
  | nil=>
    intro A B h k
    have k:B+lnE (lnY g.1) (1::c)<=A+lnE (lnY g.2) (1::c):=k
    rw [Mt,Mt] at k
    exact Nat.le_of_add_le_add_left (aQ k (Nat.add_le_add_right h _))
  | cons p r ih=>
    intro A B h k q
    have k:B+lnE (lnP (lnY p.2) (lnS Prod.snd g.1 r)) (1::c)<=A+lnE (lnP (lnY p.1) (lnS Prod.fst g.2 r)) (1::c):=k
    rw [Ms,Ms,Mt,Mt,<- Nat.add_assoc,<- Nat.add_assoc] at k
    exact ih _ _ (Nat.add_le_add h q) k
theorem la (c:List Nat)(l:List (List Nat × List Nat))(g:List Nat × List Nat)(h:true=lnG (lnS Prod.fst g.2 l) (lnS Prod.snd g.1 l)):lnH c g l:=
  Vs c g l 0 0 (aR _) (Nat.add_le_add_left (OV _ _ (1::c) h.symm) 0)
theorem lcS (a b:Nat):a<=a - b+b:=Nat.sub_le_iff_le_add.mp (aR _)
theorem lcC {a b:Nat}(h:b<=a):a - b+b<=a:=aS (Nat.sub_add_cancel h)
end Mi
nonrec theorem Mi.hideG {G:Prop}(h:∀ P:Prop,(G->P)->P):G:=h G λx=>x
local macro_rules | `(tactic| obtain $p:rcasesPatMed := $e) => do
  if p.raw[0][0][1].getNumArgs<7 then Lean.Macro.throwUnsupported
  `(tactic| (refine Mi.hideG fun P k=>?_;rcases $e:term with $p <;> (refine k ?_;clear k P)))
local macro_rules | `(tactic| cases $e:ident) => do
  let r:=Lean.mkIdent `rfl
  `(tactic| first | (exfalso;injection $e:ident;done) | obtain $r:ident:=$e:ident | (injection $e:ident with a b;cases a <;> cases b) | (injection $e:ident with a;cases a) | cases ($e))
section
open PySem PySem.W PySem.Calls PyProof.Rows
open PySem.Sem (wp)
set_option maxRecDepth 10000
namespace Mh
abbrev Kb {V β:Type}(M:Model)(A:Around)(f:V->Sem β)(Q:β->Shared->Prop)(E:Value->Shared->Prop)(a:V)(s:Shared):Prop:=wpAny M A (f a) Q E s
theorem KbI {V β:Type}{M:Model}{A:Around}{f:V->Sem β}{Q:β->Shared->Prop}{E:Value->Shared->Prop}{a:V}{s:Shared}(h:wpAny M A (f a) Q E s):Kb M A f Q E a s:=h
theorem wbK {V β:Type}{M:Model}{A:Around}{m:Sem V}{f:V->Sem β}{Q:β->Shared->Prop}{E:Value->Shared->Prop}{s:Shared}(h:wpAny M A m (Kb M A f Q E) E s):wpAny M A (m >>= f) Q E s:=wpAny_bind h
structure SX where
 sh:SharedT
 gh:List (Addr × List Str)
inductive Lf where
 | fin (f:PySem.Fin)
 | exc (x:Value)
 | susp (v:Value) (g:Bool) (l:List Value) (k:Resume->Sem PySem.Fin)
def AG (M:Model)(Γ:Ctx)(p:Pos)(t:Sem PySem.Fin)(s:Shared):Lf->Pos->Shared->Prop
 | .fin f,p',s'=>∀ Q E,Q f p' s'->wp M Γ t Q E p s
 | .exc x,p',s'=>∀ Q E,E x p' s'->wp M Γ t Q E p s
 | .susp v g l k,p',s'=>Runs M Γ p t [] s (.susp v g l k Γ.code p' []) s'
inductive Sp where
 | no
 | loop (a:Addr) (it:Value)
 | or (a b:Addr)
 | sub (a b:Addr)
def Io:Value->Option Addr
 | .ref a=>some a
 | _=>none
def spB (n:Nat):List Value->Sp
 | [x,it]=>match Io x with
  | some a=>match Nat.beq n 589010082235415537506245985091020404 with
   | true=>.loop a it
   | false=>match Io it with
    | some b=>match Nat.beq n 128106689474256730729217500516147295079 with
     | true=>.or a b
     | false=>match Nat.beq n 32795229551939066288708134027670812914535 with
      | true=>.sub a b
      | false=>.no
    | none=>.no
  | none=>.no
 | _=>.no
def spOf (c:Code):Sp:=match c with
 | .builtin id args=>match args with
  | ⟨pos,kw⟩=>match kw with
   | []=>spB (code id) pos
   | _=>.no
 | _=>.no
structure Orc where
 add:Ctx->Pos->Addr->Str->Tok->SX->Option (Pos × SX)
 or:Ctx->Pos->Addr->Addr->SX->Option (Value × SX)
 sub:Ctx->Pos->Addr->Addr->SX->Option (Value × SX)
 inv:SX->Prop
def OW (a:Addr):List (Addr × List Str)->Bool
 | []=>false
 | x::r=>match Nat.beq x.1 a with
  | true=>true
  | false=>OW a r
def TP:End->Option Result
 | .ret r=>some r
 | _=>none
def Vt:Lf->Option Code
 | .fin (.again c)=>some c
 | _=>none
def bare:Resume->Bool
 | .send .none=>true
 | _=>false
def aft (ev:GenResult->SX->Option (Lf × Pos × SX))(g:Nat):End × SX->Option (Lf × Pos × SX)
 | (e,⟨⟨T,N,life,gens,drawn,toks,os⟩,gh⟩)=>cond e.quiet (ev e.result ⟨⟨T,N,life,gens.setIfInBounds g e.genState,drawn,toks,os⟩,gh⟩) none
def Vu (M:Model)(rec:Ctx->Pos->SX->Option (End × SX))(ev:Ctx->Pos->Sem PySem.Fin->SX->Option (Lf × Pos × SX))(Γ:Ctx)(p:Pos)(t:Sem PySem.Fin):SX->Option (Lf × Pos × SX)
 | ⟨⟨T,N,life,gens,drawn,toks,os⟩,gh⟩=>match t with
  | .pure f=>some (.fin f,p,⟨⟨T,N,life,gens,drawn,toks,os⟩,gh⟩)
  | .raise x=>some (.exc x,p,⟨⟨T,N,life,gens,drawn,toks,os⟩,gh⟩)
  | .yield v g l k=>some (.susp v g l k,p,⟨⟨T,N,life,gens,drawn,toks,os⟩,gh⟩)
  | .rule _ k=>ev Γ p (k ()) ⟨⟨T,N,life,gens,drawn,toks,os⟩,gh⟩
  | .at p' k=>ev Γ p' (k ()) ⟨⟨T,N,life,gens,drawn,toks,os⟩,gh⟩
  | .load a _ k=>cond (Nat.blt a N) ((T.get a).bind λo=>(alive o).bind λo'=>ev Γ p (k o') ⟨⟨T,N,life,gens,drawn,toks,os⟩,gh⟩) none
  | .update a _ f k=>cond (OW a gh) none (cond (Nat.blt a N) ((T.get a).bind λo=>(alive o).bind λU=>ev Γ p (k ()) ⟨⟨T.set a f,N,life,gens,drawn,toks,os⟩,gh⟩) none)
  | .alloc o k=>match N with
   | 0=>none
   | j+1=>cond ((T.ins (j+1) o).get (j+1)).isSome (ev Γ p (k (j+1)) ⟨⟨T.ins (j+1) o,j+1+1,life,gens,drawn,toks,os⟩,gh⟩) none
  | .loadIfAlive a k=>cond (Nat.blt a N) ((T.get a).bind λo=>ev Γ p (k (alive o)) ⟨⟨T,N,life,gens,drawn,toks,os⟩,gh⟩) (ev Γ p (k none) ⟨⟨T,N,life,gens,drawn,toks,os⟩,gh⟩)
  | .point _ k=>ev Γ p (k ()) ⟨⟨T,N,life,gens,drawn,toks,os⟩,gh⟩
  | .fresh k=>ev Γ p (k toks) ⟨⟨T,N,life,gens,drawn,toks+1,os⟩,gh⟩
  | .ask k=>ev Γ p (k ⟨M.prog,M.w.params⟩) ⟨⟨T,N,life,gens,drawn,toks,os⟩,gh⟩
  | .handled own k=>ev Γ p (k (if own then Γ.own else Γ.handled)) ⟨⟨T,N,life,gens,drawn,toks,os⟩,gh⟩
  | .stack k=>ev Γ p (k ((Γ.code,p)::Γ.below)) ⟨⟨T,N,life,gens,drawn,toks,os⟩,gh⟩
  | .thread k=>ev Γ p (k 0) ⟨⟨T,N,life,gens,drawn,toks,os⟩,gh⟩
  | .genState g k=>gens[g]?.bind λst=>ev Γ p (k st.seen) ⟨⟨T,N,life,gens,drawn,toks,os⟩,gh⟩
  | .newGen c k=>ev Γ p (k gens.size) ⟨⟨T,N,life,gens.push (.fresh c),drawn,toks,os⟩,gh⟩
  | .call c h _ _ k=>(rec (Γ.enter c h p) p ⟨⟨T,N,life,gens,drawn,toks,os⟩,gh⟩).bind λr=>(TP r.1).bind λv=>ev Γ p (k v) r.2
  | .resume g r _ k=>gens[g]?.bind λst=>match st with
   | .fresh c=>cond (bare r) ((rec (Γ.wake c p) p ⟨⟨T,N,life,gens.setIfInBounds g .running,drawn,toks,os⟩,gh⟩).bind (aft (λv=>ev Γ p (k v)) g)) none
   | .suspended X5 _ u5 Y5 fs _=>cond fs.isEmpty ((ev (Γ.wake u5 p) Y5 (X5 r) ⟨⟨T,N,life,gens.setIfInBounds g .running,drawn,toks,os⟩,gh⟩).bind λx=>(Vt x.1).bind λc=>
     cond c.quiet ((rec ((Γ.wake u5 p).goto c) x.2.1 x.2.2).bind (aft (λv=>ev Γ p (k v)) g)) none) none
   | _=>none
  | _=>none
def evW (M:Model)(rec:Ctx->Pos->SX->Option (End × SX)):Nat->Ctx->Pos->Sem PySem.Fin->SX->Option (Lf × Pos × SX)
 | 0=>λU U U U=>none
 | n+1=>Vu M rec (evW M rec n)
def Ip:Option Value->Sem PySem.Fin
 | none=>.pure (.done .next)
 | some v=>.pure (.done (.ret v))
def strOf:Value->Option (Str × Tok)
 | .str x u=>some (x,u)
 | _=>none
def Vv (M:Model)(O:Orc)(rec:Ctx->Pos->SX->Option (End × SX))(ev:Ctx->Pos->Sem PySem.Fin->SX->Option (Lf × Pos × SX))(Γ:Ctx)(p:Pos)(S:SX):Sp->Option (End × SX)
 | .no=>(ev Γ p (M.den Γ.code) S).bind λr=>match r.1 with
  | .fin f=>match f with
   | .done f=>some (.ret (.ok f),r.2.2)
   | .again c=>cond c.quiet (rec (Γ.goto c) r.2.1 r.2.2) none
  | .exc x=>some (.ret (.error x),r.2.2)
  | .susp v g l k=>some (.susp v g l k Γ.code r.2.1 [],r.2.2)
 | .loop a it=>(ev Γ p ((pyNext it).bind Ip) S).bind λr=>match r.1 with
  | .fin f=>match f with
   | .done f=>match f with
    | .next=>some (.ret (.ok (.ret .none)),r.2.2)
    | .ret v=>(strOf v).bind λx=>(O.add Γ r.2.1 a x.1 x.2 r.2.2).bind λq=>cond Γ.code.quiet (rec (Γ.goto Γ.code) q.1 q.2) none
    | _=>none
   | _=>none
  | _=>none
 | .or a b=>(O.or Γ p a b S).bind λr=>some (.ret (.ok (.ret r.1)),r.2)
 | .sub a b=>(O.sub Γ p a b S).bind λr=>some (.ret (.ok (.ret r.1)),r.2)
def evC (M:Model)(O:Orc)(m:Nat):Nat->Ctx->Pos->SX->Option (End × SX)
 | 0=>λU U U=>none
 | d+1=>λΓ p S=>Vv M O (evC M O m d) (evW M (evC M O m d) m) Γ p S (spOf Γ.code)
structure Orc.Ok (O:Orc)(M:Model):Prop where
 up:∀ {T N life gens drawn toks os gh a f},O.inv ⟨⟨T,N,life,gens,drawn,toks,os⟩,gh⟩->OW a gh=false->O.inv ⟨⟨T.set a f,N,life,gens,drawn,toks,os⟩,gh⟩
 new:∀ {T N life gens drawn toks os gh o},O.inv ⟨⟨T,N,life,gens,drawn,toks,os⟩,gh⟩->((T.ins N o).get N).isSome=true->O.inv ⟨⟨T.ins N o,N+1,life,gens,drawn,toks,os⟩,gh⟩
 rest:∀ {T N life gens drawn toks os gh gens' toks'},O.inv ⟨⟨T,N,life,gens,drawn,toks,os⟩,gh⟩->O.inv ⟨⟨T,N,life,gens',drawn,toks',os⟩,gh⟩
 add:∀ {a x u S q S'} (Γ:Ctx) (p:Pos),O.inv S->O.add Γ p a x u S=some (q,S')->(∀ (Q:Bool->Pos->Shared->Prop) E,(∀ b,Q b q S'.sh.abs)->wp M Γ (setAdd a (.str x u)) Q E p S.sh.abs)/\O.inv S'
 or:∀ {a b S v S'} (Γ:Ctx) (p:Pos),O.inv S->Γ.code = .builtin "frozenset.__or__" ⟨[.ref a,.ref b],[]⟩->O.or Γ p a b S=some (v,S')->Runs M Γ p (M.den Γ.code) [] S.sh.abs (.ret (.ok (.ret v))) S'.sh.abs/\O.inv S'
 sub:∀ {a b S v S'} (Γ:Ctx) (p:Pos),O.inv S->Γ.code = .builtin "frozenset.__sub__" ⟨[.ref a,.ref b],[]⟩->O.sub Γ p a b S=some (v,S')->Runs M Γ p (M.den Γ.code) [] S.sh.abs (.ret (.ok (.ret v))) S'.sh.abs/\O.inv S'
 loop:∀ a it,M.den (.builtin "set.update.loop" ⟨[.ref a,it],[]⟩)=Builtin.«set.update.loop» ⟨[.ref a,it],[]⟩
theorem Ge {id:String}{n:Nat}(s:String)(hs:code s=n)(h:Nat.beq (code id) n=true):id=s:=
 code_inj _ _ ((Nat.eq_of_beq_eq_true h).trans hs.symm)
inductive SpIs (c:Code):Sp->Prop
 | no:SpIs c .no
 | loop {a it} (h:c = .builtin "set.update.loop" ⟨[.ref a,it],[]⟩):SpIs c (.loop a it)
 | or {a b} (h:c = .builtin "frozenset.__or__" ⟨[.ref a,.ref b],[]⟩):SpIs c (.or a b)
 | sub {a b} (h:c = .builtin "frozenset.__sub__" ⟨[.ref a,.ref b],[]⟩):SpIs c (.sub a b)
theorem CF {x:Value}{a:Addr}(h:Io x=some a):x = .ref a:=by
 cases x with
 | ref b=>cases h;rfl
 | _=>exact (by cases h)
theorem Ul (id:String)(x it:Value):SpIs (.builtin id ⟨[x,it],[]⟩) (spB (code id) [x,it]):=by
 unfold spB
 dsimp only
 cases hx:Io x with
 | none=>exact .no
 | some a=>
  rw [CF hx]
  dsimp only
  cases h1:Nat.beq (code id) 589010082235415537506245985091020404 with
  | true=>exact .loop (by rw [Ge "set.update.loop" (by decide +kernel) h1])
  | false=>
   cases hi:Io it with
   | none=>exact .no
   | some b=>
    rw [CF hi]
    dsimp only
    cases h2:Nat.beq (code id) 128106689474256730729217500516147295079 with
    | true=>exact .or (by rw [Ge "frozenset.__or__" (by decide +kernel) h2])
    | false=>
     cases h3:Nat.beq (code id) 32795229551939066288708134027670812914535 with
     | true=>exact .sub (by rw [Ge "frozenset.__sub__" (by decide +kernel) h3])
     | false=>exact .no
theorem RO (c:Code):SpIs c (spOf c):=by
 cases c with
 | builtin id args=>
  obtain ⟨pos,kw⟩:=args
  cases kw with
  | cons=>exact .no
  | nil=>
   cases pos with
   | nil=>exact .no
   | cons x r=>
    cases r with
    | nil=>exact .no
    | cons y r=>
     cases r with
     | nil=>exact Ul id x y
     | cons=>exact .no
 | _=>exact .no
theorem Dl {M:Model}{Γ:Ctx}{p:Pos}{t:Sem PySem.Fin}{s:Shared}{r:Result}{s':Shared}
  (h:wp M Γ t (Sem.finPost M Γ (λr' s''=>r'=r/\s''=s')) (λe U s''=>(Except.error e:Result)=r/\s''=s') p s):Runs M Γ p t [] s (.ret r) s':=by
 obtain ⟨r',s'',a,rfl,rfl⟩:=(Sem.wp_iff_runs M Γ t _ p s).mp h
 exact a
variable {M:Model}{Γ:Ctx}{p p':Pos}{s s':Shared}{lf:Lf}
theorem AG.rule {k}{tag}(h:AG M Γ p (k ()) s lf p' s'):AG M Γ p (.rule tag k) s lf p' s':=by
 cases lf with
 | fin f=>exact λQ E q=>h Q E q
 | exc x=>exact λQ E q=>h Q E q
 | susp=>exact Runs.rule h
theorem AG.at {q}{k}(h:AG M Γ q (k ()) s lf p' s'):AG M Γ p (.at q k) s lf p' s':=by
 cases lf with
 | fin f=>exact λQ E q=>h Q E q
 | exc x=>exact λQ E q=>h Q E q
 | susp=>exact Runs.at h
theorem AG.point {l}{k}(h:AG M Γ p (k ()) s lf p' s'):AG M Γ p (.point l k) s lf p' s':=by
 cases lf with
 | fin f=>exact λQ E q=>h Q E q
 | exc x=>exact λQ E q=>h Q E q
 | susp=>exact Runs.point h
theorem AG.load {a part o}{k}(e:s.heap.get? a=some o)(h:AG M Γ p (k o) s lf p' s'):AG M Γ p (.load a part k) s lf p' s':=by
 cases lf with
 | fin f=>exact λQ E q=>⟨o,e,h Q E q⟩
 | exc x=>exact λQ E q=>⟨o,e,h Q E q⟩
 | susp=>exact Runs.load e h
theorem AG.update {a part f}{k}(e:(s.heap.get? a).isSome)(h:AG M Γ p (k ()) { s with heap:=s.heap.update a f } lf p' s'):AG M Γ p (.update a part f k) s lf p' s':=by
 cases lf with
 | fin f=>exact λQ E q=>⟨e,h Q E q⟩
 | exc x=>exact λQ E q=>⟨e,h Q E q⟩
 | susp=>exact Runs.update e h
theorem AG.alloc {o}{k}(h:AG M Γ p (k s.heap.objs.size) { s with heap:=s.heap.push o } lf p' s'):AG M Γ p (.alloc o k) s lf p' s':=by
 cases lf with
 | fin f=>exact λQ E q=>h Q E q
 | exc x=>exact λQ E q=>h Q E q
 | susp=>exact Runs.alloc h
theorem AG.loadIfAlive {a}{k}(h:AG M Γ p (k (s.heap.get? a)) s lf p' s'):AG M Γ p (.loadIfAlive a k) s lf p' s':=by
 cases lf with
 | fin f=>exact λQ E q=>h Q E q
 | exc x=>exact λQ E q=>h Q E q
 | susp=>exact Runs.loadIfAlive h
theorem AG.fresh {k}(h:AG M Γ p (k s.toks) { s with toks:=s.toks+1 } lf p' s'):AG M Γ p (.fresh k) s lf p' s':=by
 cases lf with
 | fin f=>exact λQ E q=>h Q E q
 | exc x=>exact λQ E q=>h Q E q
 | susp=>exact Runs.fresh h
theorem AG.ask {k}(h:AG M Γ p (k ⟨M.prog,M.w.params⟩) s lf p' s'):AG M Γ p (.ask k) s lf p' s':=by
 cases lf with
 | fin f=>exact λQ E q=>h Q E q
 | exc x=>exact λQ E q=>h Q E q
 | susp=>exact Runs.ask h
theorem AG.handled {own}{k}(h:AG M Γ p (k (if own then Γ.own else Γ.handled)) s lf p' s'):AG M Γ p (.handled own k) s lf p' s':=by
 cases lf with
 | fin f=>exact λQ E q=>h Q E q
 | exc x=>exact λQ E q=>h Q E q
 | susp=>exact Runs.handled h
theorem AG.stack {k}(h:AG M Γ p (k ((Γ.code,p)::Γ.below)) s lf p' s'):AG M Γ p (.stack k) s lf p' s':=by
 cases lf with
 | fin f=>exact λQ E q=>h Q E q
 | exc x=>exact λQ E q=>h Q E q
 | susp=>exact Runs.stack h
theorem AG.thread {k}(h:AG M Γ p (k 0) s lf p' s'):AG M Γ p (.thread k) s lf p' s':=by
 cases lf with
 | fin f=>exact λQ E q=>h Q E q
 | exc x=>exact λQ E q=>h Q E q
 | susp=>exact Runs.thread h
theorem AG.genState {g st}{k}(e:s.gens[g]? = some st)(h:AG M Γ p (k st.seen) s lf p' s'):AG M Γ p (.genState g k) s lf p' s':=by
 cases lf with
 | fin f=>exact λQ E q=>⟨st,e,h Q E q⟩
 | exc x=>exact λQ E q=>⟨st,e,h Q E q⟩
 | susp=>exact Runs.genState e h
theorem AG.newGen {c}{k}(h:AG M Γ p (k s.gens.size) { s with gens:=s.gens.push (.fresh c) } lf p' s'):AG M Γ p (.newGen c k) s lf p' s':=by
 cases lf with
 | fin f=>exact λQ E q=>h Q E q
 | exc x=>exact λQ E q=>h Q E q
 | susp=>exact Runs.newGen h
theorem AG.call {c h g l r c0}{k}(x:Runs M (Γ.enter c h p) p (M.den c) [] s (.ret r) c0)(y:AG M Γ p (k r) c0 lf p' s'):AG M Γ p (.call c h g l k) s lf p' s':=by
 cases lf with
 | fin f=>exact λQ E q=>⟨r,c0,x,y Q E q⟩
 | exc e=>exact λQ E q=>⟨r,c0,x,y Q E q⟩
 | susp=>exact Runs.call x y
theorem AG.resumeF {g l c y0 c0}{k}(e:s.gens[g]? = some (.fresh c))(x:Runs M (Γ.wake c p) p (M.den c) [] (s.setGen g .running) y0 c0)(q:End.quiet y0=true)
  (y:AG M Γ p (k y0.result) (c0.setGen g y0.genState) lf p' s'):AG M Γ p (.resume g (.send .none) l k) s lf p' s':=by
 have W:Wakes M Γ p g (.send .none) s y0.result (c0.setGen g y0.genState):=by
  unfold Wakes;rw [e];exact ⟨y0,c0,x,q,rfl,rfl⟩
 cases lf with
 | fin f=>exact λQ E q=>⟨_,_,W,y Q E q⟩
 | exc e=>exact λQ E q=>⟨_,_,W,y Q E q⟩
 | susp=>exact Runs.resumeFresh e x q y
theorem AG.resumeS {g r l X5 r7 u5 Y5 cl y0 c0}{k}(e:s.gens[g]? = some (.suspended X5 r7 u5 Y5 [] cl))(x:Runs M (Γ.wake u5 p) Y5 (X5 r) [] (s.setGen g .running) y0 c0)(q:End.quiet y0=true)
  (y:AG M Γ p (k y0.result) (c0.setGen g y0.genState) lf p' s'):AG M Γ p (.resume g r l k) s lf p' s':=by
 have W:Wakes M Γ p g r s y0.result (c0.setGen g y0.genState):=by
  unfold Wakes;rw [e];exact ⟨y0,c0,x,q,rfl,rfl⟩
 cases lf with
 | fin f=>exact λQ E q=>⟨_,_,W,y Q E q⟩
 | exc e=>exact λQ E q=>⟨_,_,W,y Q E q⟩
 | susp=>exact Runs.resumeSuspended e x q y
theorem Eh {t:Sem PySem.Fin}{c:Code}{p' s' e s''}(h:AG M Γ p t s (.fin (.again c)) p' s')(hq:c.quiet=true)
  (y:Runs M (Γ.goto c) p' (M.den c) [] s' e s''):Runs M Γ p t [] s e s'':=by
 have w:wp M (Γ.over []) t (λa q z=>a = .again c/\q=p'/\z=s') (λU U U=>False) p s:=h _ _ ⟨rfl,rfl,rfl⟩
 obtain ⟨y0,z,a,b⟩:=runs_wrap_of_wp (Γ:=Γ) (fs:=[]) (Φ:=λx z=>x=e/\z=s'') (λa=>.pure a) .raise id id t w
  (λa q z ⟨e1,e2,e3⟩=>by subst e1 e2 e3;exact ⟨e,s'',.again hq y,rfl,rfl⟩) (λU U U h=>h.elim)
 obtain ⟨rfl,rfl⟩:=b
 have:t.wrap (λa=>(.pure a:Sem PySem.Fin)) .raise id id=t:=by
  rw [<- Sem.bind_eq_wrap]
  have:=bind_pure (m:=Sem) t
  exact this
 rwa [this] at a
theorem EH {V β:Type}{a a':V}{b b':β}{C:Prop}(h:some (a,b)=some (a',b'))(k:a'=a->b'=b->C):C:=k (congrArg Prod.fst (Option.some.inj h)).symm (congrArg Prod.snd (Option.some.inj h)).symm
theorem OX {V β γ:Type}{a a':V}{b b':β}{c c':γ}{C:Prop}(h:some (a,b,c)=some (a',b',c'))(k:a'=a->b'=b->c'=c->C):C:=
 k (congrArg Prod.fst (Option.some.inj h)).symm (congrArg (λx=>x.2.1) (Option.some.inj h)).symm (congrArg (λx=>x.2.2) (Option.some.inj h)).symm
theorem Bb {V β:Type}{o:Option V}{f:V->Option β}{b:β}{C:Prop}(h:o.bind f=some b)(k:∀ a,o=some a->f a=some b->C):C:=by
 cases o with
 | none=>cases h
 | some a=>exact k a rfl h
theorem Ca {β:Type}{c:Bool}{x:Option β}{b:β}{C:Prop}(h:cond c x none=some b)(k:c=true->x=some b->C):C:=by
 cases c with
 | false=>cases h
 | true=>exact k rfl h
theorem OY {β:Type}{c:Bool}{x:Option β}{b:β}{C:Prop}(h:cond c none x=some b)(k:c=false->x=some b->C):C:=by
 cases c with
 | false=>exact k rfl h
 | true=>cases h
theorem retOf_some {e:End}{r:Result}(h:TP e=some r):e = .ret r:=by
 cases e with
 | ret=>cases h;rfl
 | _=>cases h
theorem agOf_some {l:Lf}{c:Code}(h:Vt l=some c):l = .fin (.again c):=by
 cases l with
 | fin f=>cases f with
  | again=>cases h;rfl
  | done=>cases h
 | _=>cases h
theorem bare_is {r:Resume}(h:bare r=true):r = .send .none:=by
 cases r with
 | throw=>cases h
 | send v=>cases v with
  | none=>rfl
  | _=>cases h
def RP (M:Model)(O:Orc)(ev:Ctx->Pos->Sem PySem.Fin->SX->Option (Lf × Pos × SX)):Prop:=∀ (Γ:Ctx) (p:Pos) (t:Sem PySem.Fin) (S:SX) (lf:Lf) (p':Pos) (S':SX),O.inv S->ev Γ p t S=some (lf,p',S') ->
   AG M Γ p t S.sh.abs lf p' S'.sh.abs/\O.inv S'
def OZ (M:Model)(O:Orc)(rec:Ctx->Pos->SX->Option (End × SX)):Prop:=∀ (Γ:Ctx) (p:Pos) (S:SX) (e:End) (S':SX),O.inv S->rec Γ p S=some (e,S')->Runs M Γ p (M.den Γ.code) [] S.sh.abs e S'.sh.abs/\O.inv S'
section
variable {O:Orc}{rec:Ctx->Pos->SX->Option (End × SX)}{ev:Ctx->Pos->Sem PySem.Fin->SX->Option (Lf × Pos × SX)}
theorem O0 (hO:O.Ok M)(ih:RP M O ev){k:GenResult->Sem PySem.Fin}{g:Nat}{e:End}{Y4:SX}{lf:Lf}{S':SX}(hi:O.inv Y4)(h:aft (λv=>ev Γ p (k v)) g (e,Y4)=some (lf,p',S')) :
  e.quiet=true/\AG M Γ p (k e.result) (Y4.sh.abs.setGen g e.genState) lf p' S'.sh.abs/\O.inv S':=by
 obtain ⟨⟨T,N,life,gens,drawn,toks,os⟩,gh⟩:=Y4
 exact Ca h λq h=>⟨q,ih _ _ _ _ _ _ _ (hO.rest hi) h⟩
theorem RQ (hO:O.Ok M)(hrec:OZ M O rec)(ih:RP M O ev):RP M O (Vu M rec ev):=by
 intro Γ p t S lf p' S' hi h
 obtain ⟨⟨T,N,life,gens,drawn,toks,os⟩,gh⟩:=S
 have nx:∀ {q r x S l},O.inv S->ev q r x S=some (l,p',S')->AG M q r x S.sh.abs l p' S'.sh.abs/\O.inv S':=λi h=>ih _ _ _ _ _ _ _ i h
 cases t with
 | pure f=>exact OX h λe1 e2 e3=>by subst e1 e2 e3;exact ⟨λQ E q=>q,hi⟩
 | raise x=>exact OX h λe1 e2 e3=>by subst e1 e2 e3;exact ⟨λQ E q=>q,hi⟩
 | «yield» v g l k=>exact OX h λe1 e2 e3=>by subst e1 e2 e3;exact ⟨Runs.yield,hi⟩
 | unsupported | finish | register | fork | await | choose | os=>cases h
 | rule tag k=>exact (nx hi h).imp AG.rule id
 | «at» q k=>exact (nx hi h).imp AG.at id
 | point l k=>exact (nx hi h).imp AG.point id
 | ask k=>exact (nx hi h).imp AG.ask id
 | handled own k=>exact (nx hi h).imp AG.handled id
 | stack k=>exact (nx hi h).imp AG.stack id
 | thread k=>exact (nx hi h).imp AG.thread id
 | fresh k=>exact (nx (hO.rest hi) h).imp AG.fresh id
 | newGen c k=>exact (nx (hO.rest hi) h).imp AG.newGen id
 | genState g k=>exact Bb h λst e h=>(nx hi h).imp (AG.genState e) id
 | load a q k=>exact Ca h λe h=>Bb h λo g h=>Bb h λo' al h=>(nx hi h).imp (AG.load ((abs_get (Nat.le_of_ble_eq_true e) g).trans al)) id
 | update a q f k=>
  refine OY h λz h=>Ca h λe h=>Bb h λo g h=>Bb h λo' al h=>?_
  have y:=nx (hO.up hi z) h
  refine y.imp (λy=>AG.update (by show ((absHeap T N life).get? _).isSome;rw [abs_get (Nat.le_of_ble_eq_true e) g,al];rfl) ?_) id
  show AG M Γ p (k ()) ⟨(absHeap T N life).update _ f,gens,drawn,toks,os⟩ _ _ _
  rw [<- absHeap_set g];exact y
 | alloc o k=>
  cases N with
  | zero=>cases h
  | succ N=>
   refine Ca h λe h=>?_
   refine (nx (hO.new hi e) h).imp (λy=>AG.alloc ?_) id
   show AG M Γ p (k (absHeap T (N+1) life).objs.size) ⟨(absHeap T (N+1) life).push o,gens,drawn,toks,os⟩ _ _ _
   rw [<- absHeap_ins e,absHeap_size];exact y
 | loadIfAlive a k=>
  have go:∀ x,(absHeap T N life).get? a=x->ev Γ p (k x) ⟨⟨T,N,life,gens,drawn,toks,os⟩,gh⟩=some (lf,p',S')->AG M Γ p (.loadIfAlive a k) (absHeap T N life |> λhp=>⟨hp,gens,drawn,toks,os⟩) lf p' S'.sh.abs/\O.inv S':=λx e h=>by
   subst e
   exact (nx hi h).imp AG.loadIfAlive id
  cases e:Nat.blt a N with
  | false=>
   have h:cond (Nat.blt a N) _ _=_:=h
   rw [e] at h
   exact go _ (abs_get_none λq=>by rw [show Nat.blt a N=true from Nat.ble_eq_true_of_le q] at e;cases e) h
  | true=>
   have h:cond (Nat.blt a N) _ _=_:=h
   rw [e] at h
   exact Bb h λo g h=>go _ (abs_get (Nat.le_of_ble_eq_true e) g) h
 | call c hd g l k=>
  refine Bb h λr e h=>Bb h λv ev h=>?_
  obtain ⟨en,S⟩:=r
  cases retOf_some ev
  obtain ⟨x,hi'⟩:=hrec _ _ _ _ _ hi e
  exact (nx hi' h).imp (AG.call x) id
 | resume g r l k=>
  refine Bb h λst e h=>?_
  cases st with
  | running=>cases h
  | finished=>cases h
  | fresh c=>
   refine Ca h λeb h1=>Bb h1 λen e1 h2=>?_
   cases bare_is eb
   obtain ⟨x,hi'⟩:=hrec _ _ _ _ _ (hO.rest hi) e1
   obtain ⟨eq,a,b⟩:=O0 hO ih hi' h2
   exact ⟨AG.resumeF e x eq a,b⟩
  | suspended X5 r7 u5 Y5 fs cl=>
   refine Ca h λeb h1=>Bb h1 λy e1 h2=>Bb h2 λc ec h3=>Ca h3 λhq h4=>Bb h4 λen e2 h5=>?_
   cases fs with
   | cons=>cases eb
   | nil=>
    obtain ⟨lf',q',S''⟩:=y
    cases agOf_some ec
    obtain ⟨x1,i1⟩:=ih _ _ _ _ _ _ _ (hO.rest hi) e1
    obtain ⟨x2,i2⟩:=hrec _ _ _ _ _ i1 e2
    obtain ⟨eq,a,b⟩:=O0 hO ih i2 h5
    exact ⟨AG.resumeS e (Eh x1 hq x2) eq a,b⟩
theorem O1 (hO:O.Ok M)(hrec:OZ M O rec)(n:Nat):RP M O (evW M rec n):=by
 induction n with
 | zero=>intro _ _ _ _ _ _ _ _ h;cases h
 | succ n ih=>exact RQ hO hrec ih
end
theorem O2 {t:Sem PySem.Fin}{f:Flow}(h:AG M Γ p t s (.fin (.done f)) p' s'):Runs M Γ p t [] s (.ret (.ok f)) s':=
 Dl (h _ _ ⟨rfl,rfl⟩)
theorem O3 {t:Sem PySem.Fin}{x:Value}(h:AG M Γ p t s (.exc x) p' s'):Runs M Γ p t [] s (.ret (.error x)) s':=
 Dl (h _ _ ⟨rfl,rfl⟩)
theorem O4 {m:Sem (Option Value)}{f:Flow}(h:AG M Γ p (m.bind Ip) s (.fin (.done f)) p' s')(Q:Option Value->Pos->Shared->Prop)(E)
  (hQ:∀ o,Ip o = .pure (.done f)->Q o p' s'):wp M Γ m Q E p s:=by
 have w:=h (λa q z=>a = .done f/\q=p'/\z=s') (λU U U=>False) ⟨rfl,rfl,rfl⟩
 rw [Sem.wp_bind] at w
 refine Sem.wp_mono _ _ _ (λo q z hz=>?_) (λU U U h=>h.elim) _ _ w
 cases o with
 | none=>obtain ⟨e1,rfl,rfl⟩:=(show PySem.Fin.done .next = .done f/\q=p'/\z=s' from hz);exact hQ _ (by rw [<- e1];rfl)
 | some v=>obtain ⟨e1,rfl,rfl⟩:=(show PySem.Fin.done (.ret v) = .done f/\q=p'/\z=s' from hz);exact hQ _ (by rw [<- e1];rfl)
theorem strOf_some {v:Value}{x:Str × Tok}(h:strOf v=some x):v = .str x.1 x.2:=by
 cases v with
 | str=>cases h;rfl
 | _=>cases h
theorem Um {O:Orc}(hO:O.Ok M)(m:Nat)(d:Nat):OZ M O (evC M O m d):=by
 induction d with
 | zero=>intro _ _ _ _ _ _ h;cases h
 | succ d ih=>
  intro Γ p S e S' hi h
  have w:=O1 hO ih m
  have h:Vv M O (evC M O m d) (evW M (evC M O m d) m) Γ p S (spOf Γ.code)=some (e,S'):=h
  have is:=RO Γ.code
  generalize evW M (evC M O m d) m=ev at h w
  generalize evC M O m d=rec at h ih
  generalize spOf Γ.code=sp at h is
  cases is with
  | no=>
   refine Bb h λr e1 h=>?_
   obtain ⟨lf,p',Y4⟩:=r
   obtain ⟨x,i1⟩:=w _ _ _ _ _ _ _ hi e1
   cases lf with
   | exc x'=>exact EH h λa1 a2=>by subst a1 a2;exact ⟨O3 x,i1⟩
   | susp v g l k=>exact EH h λa1 a2=>by subst a1 a2;exact ⟨x,i1⟩
   | fin f=>
    cases f with
    | done f=>exact EH h λa1 a2=>by subst a1 a2;exact ⟨O2 x,i1⟩
    | again c=>exact Ca h λhq h=>(ih _ _ _ _ _ i1 h).imp (Eh x hq) id
  | or hc=>
   refine Bb h λr e1 h=>EH h λa1 a2=>?_
   subst a1 a2
   exact hO.or Γ p hi hc e1
  | sub hc=>
   refine Bb h λr e1 h=>EH h λa1 a2=>?_
   subst a1 a2
   exact hO.sub Γ p hi hc e1
  | @loop a it hc=>
   have hden:M.den Γ.code=Builtin.«set.update.loop» ⟨[.ref a,it],[]⟩:=by rw [hc];exact hO.loop a it
   refine Bb h λr e1 h=>?_
   obtain ⟨lf,p',Y4⟩:=r
   obtain ⟨x,i1⟩:=w _ _ _ _ _ _ _ hi e1
   rw [hden]
   cases lf with
   | exc x'=>cases h
   | susp v g l k=>cases h
   | fin f=>
    cases f with
    | again c=>cases h
    | done f=>
     cases f with
     | brk=>cases h
     | cont=>cases h
     | next=>
      refine EH h λa1 a2=>?_
      subst a1 a2
      refine ⟨Dl ?_,i1⟩
      show wp M Γ ((pyNext it).bind _) _ _ p _
      rw [Sem.wp_bind]
      refine O4 x _ _ λo ho=>?_
      cases o with
      | none=>exact ⟨rfl,rfl⟩
      | some v=>cases ho
     | ret v=>
      refine Bb h λy ey h1=>Bb h1 λq2 e2 h2=>Ca h2 λhq h3=>?_
      obtain ⟨y,u⟩:=y
      cases strOf_some ey
      obtain ⟨ha,i2⟩:=hO.add Γ p' i1 e2
      refine (ih _ _ _ _ _ i2 h3).imp (λy'=>Eh (c:=Γ.code) (p':=q2.1) (s':=q2.2.sh.abs) ?_ hq y') id
      intro Q E hQ
      show wp M Γ ((pyNext it).bind _) _ _ p _
      rw [Sem.wp_bind]
      refine O4 x _ _ λo ho=>?_
      cases o with
      | none=>cases ho
      | some v=>
       cases ho
       show wp M Γ ((holding [.str y u] (setAdd a (.str y u))).bind _) _ _ p' _
       rw [Sem.wp_bind,Sem.wp_holding]
       refine ha _ _ λb=>?_
       rw [hc] at hQ
       exact hQ
def nx (m i:Nat):Nat:=(i*5+1) % m
def orb (m:Nat):Nat->Nat->Nat
 | 0,i=>i
 | n+1,i=>orb m n (nx m i)
theorem Iq (m a:Nat):∀ (b i:Nat),orb m (a+b) i=orb m b (orb m a i):=by
 induction a with
 | zero=>intro b i;rw [Nat.zero_add];rfl
 | succ a ih=>intro b i;rw [show a+1+b=(a+b)+1 by exact Nat.le_antisymm (Mi.la [_,_] [] ([2,3,0,4,0],[2,4,0,3,0]) rfl) (Mi.la [_,_] [] ([2,4,0,3,0],[2,3,0,4,0]) rfl)];show orb m (a+b) (nx m i)=_;rw [ih b];rfl
def Dm (m:Nat):Bool:=Nat.beq (orb m m 0) 0&&(range m).all λj=>(range m).any λn=>Nat.beq (orb m n 0) j
theorem RS {m:Nat}(h:Dm m=true)(i j:Nat)(hi:i<m)(hj:j<m):∃ n,n<m/\orb m n i=j:=by
 simp only [Dm,and_eq_true,Nat.beq_eq,all_eq_true,any_eq_true,mem_range] at h
 obtain ⟨h0,h⟩:=h
 obtain ⟨a,ha,ea⟩:=h i hi
 obtain ⟨b,hb,eb⟩:=h j hj
 rcases Nat.lt_or_ge b a with q | q
 ·refine ⟨m - a+b,by exact Mi.la [_,_,_,_] [([2,3,0],[4]),([6,4,0],[8])] ([6,2,0,3,0],[8]) rfl q (Mi.lcC (Mi.la [_,_] [([2,3,0],[4])] ([2],[4]) rfl ha)),?_⟩
  rw [<- ea,<- Iq,show a+(m - a+b)=m+b by exact Nat.le_antisymm (Mi.la [_,_,_,_] [([2,4,0],[6])] ([4,2,8,0,0],[6,8,0]) rfl (Mi.lcC (Mi.la [_,_] [([2,3,0],[4])] ([2],[4]) rfl ha))) (Mi.la [_,_,_,_] [([2],[4,6,0])] ([2,8,0],[6,4,8,0,0]) rfl (Mi.lcS _ _)),Iq,h0,eb]
 ·refine ⟨b - a,by exact Mi.la [_,_,_,_] [([2,3,0],[4]),([6,8,0],[2])] ([6,3,0],[4]) rfl hb (Mi.lcC (Mi.la [_,_] [([2],[4])] ([2],[4]) rfl q)),?_⟩
  rw [<- ea,<- Iq,show a+(b - a)=b by exact Nat.le_antisymm (Mi.la [_,_,_] [([2,4,0],[6])] ([4,2,0],[6]) rfl (Mi.lcC (Mi.la [_,_] [([2],[4])] ([2],[4]) rfl q))) (Mi.la [_,_,_] [([2],[4,6,0])] ([2],[6,4,0]) rfl (Mi.lcS _ _)),eb]
theorem RT:Dm 8=true:=by decide +kernel
theorem Nf:Dm 128=true:=by decide +kernel
theorem HN (mask i:Nat):i<=SetTable.runEnd mask i:=by unfold SetTable.runEnd;split <;> lia
theorem Ng {mask i:Nat}(h:i<=mask):SetTable.runEnd mask i<=mask:=by unfold SetTable.runEnd;split <;> lia
abbrev fnd (mask:Nat)(owner:Array (Option Nat))(i:Nat):Option Nat:=(range (SetTable.runEnd mask i+1 - i)).find? λk=>(owner.getD (i+k) (some 0)).isNone
theorem Ff {mask fuel i p:Nat}{owner:Array (Option Nat)}:SetTable.layClean.free mask owner (fuel+1) i p=(fnd mask owner i).elim (SetTable.layClean.free mask owner fuel ((i*5+1+p / 32) % (mask+1)) (p / 32)) λk=>some (i+k):=by kernel_rfl
theorem Nh {mask:Nat}{owner:Array (Option Nat)}{fuel:Nat}:∀ {i p j:Nat},i<=mask->SetTable.layClean.free mask owner fuel i p=some j->j<=mask/\(owner.getD j (some 0))=none:=by
 induction fuel with
 | zero=>intro i p j _ h;injection h
 | succ fuel ih=>
  intro i p j hi h
  rw [Ff] at h
  cases hk:fnd mask owner i with
  | some k=>
   rw [hk] at h
   obtain rfl:=Option.some.inj h
   have h1:=List.find?_some hk
   have h2:=List.mem_of_find?_eq_some hk
   rw [mem_range] at h2
   have:=Ng hi
   have:=HN mask i
   exact ⟨by lia,by simpa using h1⟩
  | none=>
   rw [hk] at h
   exact ih (by show (i*5+1+p / 32) % (mask+1)<=mask;have:=Nat.mod_lt (i*5+1+p / 32) (show 0<mask+1 by exact Mi.la [_] [] ([1,3,0],[2,3,0]) rfl);exact Mi.la [_,_] [([2,3,0],[4,3,0])] ([2],[4]) rfl this) h
theorem Ni {mask:Nat}{owner:Array (Option Nat)}{fuel:Nat}:∀ {i:Nat} (n:Nat),n<fuel->(owner.getD (orb (mask+1) n i) (some 0))=none->(SetTable.layClean.free mask owner fuel i 0).isSome=true:=by
 induction fuel with
 | zero=>intro i n h _;exact absurd h (Nat.not_lt_zero _)
 | succ fuel ih=>
  intro i n h e
  rw [Ff]
  cases hk:fnd mask owner i with
  | some k=>rfl
  | none=>
   cases n with
   | zero=>
    exfalso
    have:=List.find?_eq_none.mp hk 0 (by rw [mem_range];have:=HN mask i;exact Mi.la [_,_,_] [([2],[4]),([4,3,0],[6,2,0])] ([1,3,0],[6]) rfl this (Mi.lcS _ _))
    apply this
    show (owner.getD (i+0) (some 0)).isNone=true
    rw [Nat.add_zero,show owner.getD i (some 0)=none from e];rfl
   | succ n=>
    show (SetTable.layClean.free mask owner fuel ((i*5+1+0 / 32) % (mask+1)) (0 / 32)).isSome=true
    have z:(0:Nat) / 32=0:=by decide
    rw [z,Nat.add_zero]
    exact ih n (Nat.lt_of_succ_lt_succ h) e
theorem O5 {mask:Nat}{owner:Array (Option Nat)}{fuel:Nat}(h:∀ i,i<=mask->(SetTable.layClean.free mask owner fuel i 0).isSome=true) :
  ∀ (c i p:Nat),i<=mask->p<32 ^ c->(SetTable.layClean.free mask owner (c+fuel) i p).isSome=true:=by
 intro c
 induction c with
 | zero=>
  intro i p hi hp
  obtain rfl:p=0:=by simpa using hp
  rw [Nat.zero_add];exact h i hi
 | succ c ih=>
  intro i p hi hp
  rw [show c+1+fuel=(c+fuel)+1 by exact Nat.le_antisymm (Mi.la [_,_] [] ([2,3,0,4,0],[2,4,0,3,0]) rfl) (Mi.la [_,_] [] ([2,4,0,3,0],[2,3,0,4,0]) rfl),Ff]
  cases fnd mask owner i with
  | some k=>rfl
  | none=>
   exact ih _ _ (by have:=Nat.mod_lt (i*5+1+p / 32) (show 0<mask+1 by exact Mi.la [_] [] ([1,3,0],[2,3,0]) rfl);exact Mi.la [_,_] [([2,3,0],[4,3,0])] ([2],[4]) rfl this) (by rw [Nat.div_lt_iff_lt_mul (by exact Mi.la [] [] ([1,3,0],[65]) rfl)];rw [Nat.pow_succ] at hp;exact hp)
theorem RU (h:Int):SetTable.bits h<32 ^ 13:=by
 unfold SetTable.bits
 have h1:=Int.emod_nonneg h (show (2 ^ 64:Int)≠0 by decide)
 have h2:=Int.emod_lt_of_pos h (show (0:Int)<2 ^ 64 by decide)
 have:((2:Int) ^ 64)=18446744073709551616:=by decide
 have:(32:Nat) ^ 13=36893488147419103232:=by decide
 lia
theorem Jm {mask:Nat}(ho:Dm (mask+1)=true){owner:Array (Option Nat)}(j:Nat)(hj:j<=mask)(e:owner.getD j (some 0)=none)(h:Int) :
  (SetTable.layClean.free mask owner (SetTable.turns mask) (SetTable.bits h % (mask+1)) (SetTable.bits h)).isSome=true:=by
 have q:SetTable.turns mask=13+(mask+2):=by unfold SetTable.turns;exact Nat.le_antisymm (Mi.la [_] [] ([2,31,0],[27,2,5,0,0]) rfl) (Mi.la [_] [] ([27,2,5,0,0],[2,31,0]) rfl)
 rw [q]
 refine O5 (λi hi=>?_) 13 _ _ (by have:=Nat.mod_lt (SetTable.bits h) (show 0<mask+1 by exact Mi.la [_] [] ([1,3,0],[2,3,0]) rfl);exact Mi.la [_,_] [([2,3,0],[4,3,0])] ([2],[4]) rfl this) (RU h)
 obtain ⟨n,hn,en⟩:=RS ho i j (by exact Mi.la [_,_] [([2],[4])] ([2,3,0],[4,3,0]) rfl hi) (by exact Mi.la [_,_] [([2],[4])] ([2,3,0],[4,3,0]) rfl hj)
 exact Ni n (by exact Mi.la [_,_] [([2,3,0],[4,3,0])] ([2,3,0],[4,5,0]) rfl hn) (by rw [en];exact e)
def Jn (mask:Nat)(owner:Array (Option Nat))(n:Nat):Prop:=owner.size=mask+1/\(owner.toList.filterMap id).Perm (range n)
theorem Fg (l:List (Option Nat)):∀ (j k:Nat),l[j]? = some none->((l.set j (some k)).filterMap id).Perm (k::l.filterMap id):=by
 induction l with
 | nil=>intro j k h;simp at h
 | cons x l ih=>
  intro j k h
  cases j with
  | zero=>
   obtain rfl:x=none:=by simpa using h
   simp
  | succ j=>
  have ih:=ih j k (by simpa using h)
  rw [List.set_cons_succ]
  cases x with
  | none=>simpa using ih
  | some y=>
   rw [List.filterMap_cons_some (by rfl),List.filterMap_cons_some (by rfl)]
   exact (ih.cons y).trans (Perm.swap ..)
theorem Jo (l:List (Option Nat)):(l.filterMap id).length<l.length->∃ j:Nat,l[j]? = some none:=by
 induction l with
 | nil=>intro h;simp at h
 | cons x l ih=>
  intro h
  cases x with
  | none=>exact ⟨0,rfl⟩
  | some y=>
   obtain ⟨j,hj⟩:=ih (by simpa using h)
   exact ⟨j+1,by simpa using hj⟩
theorem Jp {mask:Nat}(ho:Dm (mask+1)=true)(l:List Int):∀ (owner:Array (Option Nat)) (k:Nat),Jn mask owner k->k+l.length<=mask ->
  ∃ owner',(l.foldl (init:=some (owner,k)) λacc h=>do
   let (owner,k) <- acc
   let j <- SetTable.layClean.free mask owner (SetTable.turns mask) (SetTable.bits h % (mask+1)) (SetTable.bits h)
   pure (owner.setIfInBounds j (some k),k+1))=some (owner',k+l.length)/\Jn mask owner' (k+l.length):=by
 induction l with
 | nil=>exact λowner k t U=>⟨owner,rfl,t⟩
 | cons h l ih=>
  intro owner k t hk
  obtain ⟨t1,t2⟩:=t
  have hlen:(owner.toList.filterMap id).length=k:=by rw [t2.length_eq,length_range]
  obtain ⟨j0,hj0⟩:=Jo owner.toList (by rw [hlen,Array.length_toList,t1];simp only [length_cons] at hk;exact Mi.la [_,_,_] [([2,4,3,0,0],[6])] ([2,3,0],[6,3,0]) rfl hk)
  have hj0':j0<=mask:=by
   have:j0<owner.toList.length:=by
    rcases Nat.lt_or_ge j0 owner.toList.length with q | q
    ·exact q
    ·rw [getElem?_eq_none q] at hj0;cases hj0
   rw [Array.length_toList,t1] at this;exact Mi.la [_,_] [([2,3,0],[4,3,0])] ([2],[4]) rfl this
  have gd:∀ j,j<=mask->owner.getD j (some 0)=(owner.toList[j]?).getD (some 0):=λj hj=>by
   rw [Array.getElem?_toList]
   have:j<owner.size:=by exact Mi.la [_,_,_] [([2,3,0],[4]),([6],[2])] ([6,3,0],[4]) rfl (Nat.le_of_eq t1.symm) hj
   simp [Array.getD,this]
  have s:=Jm ho j0 hj0' (by rw [gd j0 hj0',hj0];rfl) h
  obtain ⟨j,hj⟩:=Option.isSome_iff_exists.mp s
  obtain ⟨j1,j2⟩:=Nh (by have:=Nat.mod_lt (SetTable.bits h) (show 0<mask+1 by exact Mi.la [_] [] ([1,3,0],[2,3,0]) rfl);exact Mi.la [_,_] [([2,3,0],[4,3,0])] ([2],[4]) rfl this) hj
  have j3:owner.toList[j]? = some none:=by
   have lt:j<owner.toList.length:=by rw [Array.length_toList,t1];exact Mi.la [_,_] [([2],[4])] ([2,3,0],[4,3,0]) rfl j1
   have:=gd j j1
   rw [j2,getElem?_eq_getElem lt] at this
   rw [getElem?_eq_getElem lt]
   exact congrArg some this.symm
  have T':Jn mask (owner.setIfInBounds j (some k)) (k+1):=by
   refine ⟨by rw [Array.size_setIfInBounds,t1],?_⟩
   rw [Array.toList_setIfInBounds]
   refine (Fg _ _ _ j3).trans ?_
   rw [range_succ]
   exact (t2.cons k).trans (List.perm_append_comm (l₁:=[k]))
  obtain ⟨o',e,T⟩:=ih _ (k+1) T' (by simp only [length_cons] at hk;exact Mi.la [_,_,_] [([2,4,3,0,0],[6])] ([2,3,0,4,0],[6]) rfl hk)
  refine ⟨o',?_,?_⟩
  ·rw [foldl_cons]
   show (l.foldl (init:=((SetTable.layClean.free mask owner (SetTable.turns mask) (SetTable.bits h % (mask+1)) (SetTable.bits h)).bind λj=>some (owner.setIfInBounds j (some k),k+1))) _)=_
   rw [hj]
   show (l.foldl (init:=some (owner.setIfInBounds j (some k),k+1)) _)=_
   rw [e]
   simp only [length_cons]
   rw [show k+1+l.length=k+(l.length+1) by exact Nat.le_antisymm (Mi.la [_,_] [] ([2,3,0,4,0],[2,4,3,0,0]) rfl) (Mi.la [_,_] [] ([2,4,3,0,0],[2,3,0,4,0]) rfl)]
  ·simp only [length_cons]
   rw [show k+(l.length+1)=k+1+l.length by exact Nat.le_antisymm (Mi.la [_,_] [] ([2,4,3,0,0],[2,3,0,4,0]) rfl) (Mi.la [_,_] [] ([2,3,0,4,0],[2,4,3,0,0]) rfl)]
   exact T
theorem Jq {mask:Nat}(ho:Dm (mask+1)=true)(hs:Array Int)(h:hs.size<=mask):∃ owner,SetTable.layClean mask hs=some owner/\Jn mask owner hs.size:=by
 have T0:Jn mask (Array.replicate (mask+1) none) 0:=by
  refine ⟨by simp,?_⟩
  rw [Array.toList_replicate]
  have:(replicate (mask+1) (none:Option Nat)).filterMap id=[]:=by
   rw [filterMap_eq_nil_iff]
   intro a ha
   obtain ⟨_,rfl⟩:=List.mem_replicate.mp ha
   rfl
  rw [this];exact Perm.refl _
 obtain ⟨o,e,T⟩:=Jp ho hs.toList _ 0 T0 (by rw [Array.length_toList];exact Mi.la [_,_] [([2],[4])] ([1,2,0],[4]) rfl h)
 rw [Nat.zero_add,Array.length_toList] at T
 refine ⟨o,?_,T⟩
 unfold SetTable.layClean
 rw [<- Array.foldl_toList]
 have e':=congrArg (Option.map (·.1)) e
 exact e'
theorem Nj (l:List (Option Nat))(n:Nat):n<=l.length->((range n).filterMap λj=>((l[j]?).getD none).map λy=>(j,y)).map (·.2)=(l.take n).filterMap id:=by
 induction n with
 | zero=>intro _;simp
 | succ n ih=>
  intro h
  have ih:=ih (by exact Mi.la [_,_] [([2,3,0],[4])] ([2],[4]) rfl h)
  have lt:n<l.length:=by exact Mi.la [_,_] [([2,3,0],[4])] ([2,3,0],[4]) rfl h
  rw [range_succ,filterMap_append,map_append,ih,List.take_add_one,filterMap_append]
  congr 1
  have e0:l[n]? = some l[n]:=getElem?_eq_getElem lt
  rw [e0]
  rw [filterMap_cons,e0]
  cases hx:l[n] <;> simp
theorem Ir {V β:Type}{f g:V->Option β}{l:List V}:(∀ a∈l,f a=g a)->l.filterMap f=l.filterMap g:=by
 induction l with
 | nil=>exact λU=>rfl
 | cons a l ih=>
  intro h
  rw [filterMap_cons,filterMap_cons,h a mem_cons_self,ih λx hx=>h x (mem_cons_of_mem _ hx)]
theorem Nk (l:List (Option Nat))(n:Nat)(h:l.length=n):((range n).filterMap λj=>((l[j]?).getD none).map λy=>(j,y)).map (·.2)=l.filterMap id:=by
 subst h
 rw [Nj l _ (Nat.le_refl _),take_length]
theorem RV {mask:Nat}(ho:Dm (mask+1)=true)(hs:Array Int)(h:hs.size<=mask)(finger moves:Nat)(led plain:Bool) :
  ∃ t order,SetTable.laid mask finger moves led plain hs=some (t,order)/\order.toList.Perm (range hs.size)/\t.place.size=hs.size/\t.dummies = #[]/\t.mask=mask:=by
 obtain ⟨o,e,t1,t2⟩:=Jq ho hs h
 refine ⟨_,_,by unfold SetTable.laid;rw [e];rfl,?_⟩
 have lp:=Nk o.toList (mask+1) (by rw [Array.length_toList,t1])
 have gd:((range (mask+1)).filterMap λj=>(o.getD j none).map λy=>(j,y))=(range (mask+1)).filterMap λj=>((o.toList[j]?).getD none).map λy=>(j,y):=by
  refine Ir λj hj=>?_
  rw [mem_range] at hj
  have:j<o.size:=by exact Mi.la [_,_,_] [([2,3,0],[4]),([6,3,0],[2,3,0])] ([6,3,0],[4]) rfl (Nat.le_of_eq t1.symm) hj
  rw [Array.getElem?_toList]
  simp [Array.getD,this]
 refine ⟨?_,?_,rfl,rfl⟩
 ·rw [List.toList_toArray,gd,lp];exact t2
 ·rw [size_toArray,length_map,gd,<- length_map (f:=λx:Nat × Nat=>x.2),lp,t2.length_eq,length_range]
def Ap (es:Array (Int × Value))(ep:Nat)(t:SetTable):Obj:={ cls:=.type "frozenset",data:=.set es ep t }
def hset (h:Heap)(a:Addr)(o:Obj):Heap:=h.update a (λU=>o)
theorem FO {h:Heap}{a:Addr}{o:Obj}(e:h.get? a=some o):h.objs[a]? = some o:=(get?_some_iff.mp e).1
theorem Iu {V:Type}{xs:Array V}{i:Nat}{f g:V->V}{x:V}(e:xs[i]? = some x)(h:f x=g x):xs.modify i f=xs.modify i g:=by
 apply Array.ext_getElem?
 intro j
 rw [Array.getElem?_modify,Array.getElem?_modify]
 by_cases q:i=j
 ·subst q;simp [e,h]
 ·simp [q]
theorem DU {h:Heap}{a:Addr}{o:Obj}{f g:Obj->Obj}(e:h.get? a=some o)(q:f o=g o):h.update a f=h.update a g:=by
 obtain ⟨objs,l⟩:=h
 show Heap.mk _ _=Heap.mk _ _
 rw [Iu (FO e) q]
theorem Jr {h:Heap}{a:Addr}{o:Obj}{es ep t}(e:h.get? a=some o):(hset h a (Ap es ep t)).get? a=some (Ap es ep t):=by
 refine get?_some_iff.mpr ⟨?_,rfl⟩
 show (h.objs.modify a λU=>Ap es ep t)[a]? = _
 rw [Array.getElem?_modify,if_pos rfl,FO e];rfl
theorem RW {h:Heap}{a b:Addr}{o:Obj}(q:b≠a):(hset h a o).get? b=h.get? b:=Heap.get?_update_ne h b a _ q
theorem Fh {h:Heap}{a:Addr}{o o':Obj}:hset (hset h a o) a o'=hset h a o':=by
 obtain ⟨objs,l⟩:=h
 show Heap.mk _ _=Heap.mk _ _
 congr 1
 apply Array.ext_getElem?
 intro j
 rw [Array.getElem?_modify,Array.getElem?_modify,Array.getElem?_modify]
 by_cases q:a=j
 ·simp only [q,if_true,Option.map_map];cases objs[j]? <;> rfl
 ·simp [q]
theorem Cb {h:Heap}{a:Addr}{es ep t es' t'}(e:h.get? a=some (Ap es ep t)):h.update a (Obj.putSet es' t')=hset h a (Ap es' (ep+1) t'):=
 DU e (putSet_of es' t' rfl)
def keyS (e:Int × Value):Str:=match e.2 with
 | .str x _=>x
 | _=>default
structure SetIs (w:World)(l:List Str)(es:Array (Int × Value))(t:SetTable):Prop where
 el:∀ e∈es.toList,∃ x u,e=(hashStr w x,.str x u)
 perm:(es.toList.map keyS).Perm l
 nd:l.Nodup
 fit:t.fits es.size=true
 lt:l.length<1000
section
variable {prog:Program}{w:World}{A:Around}{E:Value->Shared->Prop}{s:Shared}{l l':List Str}{es es':Array (Int × Value)}{t t':SetTable}{ep ep':Nat}{a b:Addr}{x:Str}{u:Tok}
theorem SetIs.elems (S:SetIs w l es t):ElemsOf (strKind prog w) es.toList:=λe he=>by
 obtain ⟨x,u,rfl⟩:=S.el e he
 exact ⟨⟨x,strKind_is prog w x u,rfl⟩,rfl⟩
theorem SetIs.size (S:SetIs w l es t):es.size=l.length:=by
 have:=S.perm.length_eq
 rwa [length_map,Array.length_toList] at this
theorem KN {e:Int × Value}(h:∃ x u,e=(hashStr w x,Value.str x u))(k:Str):(strKind prog w).is k e.2=true↔k=keyS e:=by
 obtain ⟨x,u,rfl⟩:=h
 show (strKind prog w).is k (.str x u)=true↔k=x
 exact ⟨λq=>(strKind prog w).inj _ _ _ q (strKind_is prog w x u),λq=>by subst q;exact strKind_is prog w _ u⟩
theorem SetIs.mem (S:SetIs w l es t)(k:Str):k∈l↔∃ e∈es.toList,(strKind prog w).is k e.2=true:=by
 rw [<- S.perm.mem_iff,mem_map]
 exact ⟨λ⟨e,he,q⟩=>⟨e,he,(KN (S.el e he) k).mpr q.symm⟩,λ⟨e,he,q⟩=>⟨e,he,((KN (S.el e he) k).mp q).symm⟩⟩
theorem SetIs.bound (S:SetIs w l es t):es.size<scanBound:=by
 have h1:scanBound=4096:=rfl
 have:=S.lt
 rw [S.size];lia
theorem SetIs.reperm (S:SetIs w l es t)(p:es'.toList.Perm es.toList)(f:t'.fits es'.size=true):SetIs w l es' t':=
 ⟨λe he=>S.el e (p.mem_iff.mp he),(p.map keyS).trans S.perm,S.nd,f,S.lt⟩
theorem SetIs.froz (S:SetIs w l es t){h:Heap}(e:h.get? a=some (Ap es ep t)):FrozAt (strKind prog w) h a (λk=>decide (k∈l)) l.length:=
 ⟨es,ep,t,e,S.elems,λk=>by rw [decide_eq_true_eq];exact S.mem k,S.size,S.fit⟩
theorem Nl (S:SetIs w l es t)(hx:x∉l):es.toList.findIdx? (λe=>(strKind prog w).is x e.2)=none:=by
 rw [List.findIdx?_eq_none_iff]
 intro e he
 cases q:(strKind prog w).is x e.2 with
 | false=>rfl
 | true=>exact absurd ((S.mem (prog:=prog) x).mpr ⟨e,he,q⟩) hx
theorem Vw (S:SetIs w l es t)(hx:x∉l)(hl:l.length+1<1000)(e:s.heap.get? a=some (Ap es ep t)){Q:Bool->Shared->Prop}
  (h:∀ es' ep' t',SetIs w (x::l) es' t'->Q true { s with heap:=hset s.heap a (Ap es' ep' t') }):wpAny (model prog w) A (setAddHashed a (.str x u) (hashStr w x)) Q E s:=by
 unfold setAddHashed setAddHashedIn
 refine wpAny_holding (wbK (wpAny_setState_of e rfl S.fit ?_))
 dsimp only
 refine KbI ?_
 rw [byScan_of rfl S.bound (S.elems (prog:=prog))]
 first | rw [if_pos rfl] | simp only [↓reduceIte]
 unfold setAddByScan
 refine wbK (wbK (wpAny_rule ?_))
 refine wbK (wpAny_setScan_of (knd:=strKind prog w) (k:=x) (strKind_is prog w x u) e rfl S.fit S.elems ?_)
 rw [Nl S hx]
 dsimp only
 have hgw:∀ (b:Bool) {c0:Shared} {Q':Unit->Shared->Prop},Q' () c0->wpAny (model prog w) A (match b with | true=>rule "set.scan.the-table-gave-way" | false=>pure ()) Q' E c0:=
  λb c0 Q' hq=>by cases b <;> first | exact wpAny_pure hq | exact wpAny_rule hq
 have hperm:=layNew_perm t es (hashStr w x) (.str x u)
 have hfits:=layNew_fits t es (hashStr w x) (.str x u)
 have key:∀ es1 t1,Perm es1.toList (es.push (hashStr w x,.str x u)).toList->t1.fits es1.size=true->SetIs w (x::l) es1 t1:=by
  intro es1 t1 p f
  rw [Array.toList_push] at p
  refine ⟨λe he=>?_,?_,nodup_cons.mpr ⟨hx,S.nd⟩,f,by simpa using hl⟩
  ·rcases mem_append.mp (p.mem_iff.mp he) with q | q
   ·exact S.el e q
   ·rw [mem_singleton] at q;exact ⟨x,u,q⟩
  ·refine (p.map keyS).trans ?_
   rw [map_append]
   exact List.perm_append_comm.trans (S.perm.cons x)
 show wpAny (model prog w) A (match layNew t es (hashStr w x) (.str x u) with | (es,t,wasDummy,gave)=>_) _ _ _
 generalize layNew t es (hashStr w x) (.str x u)=L at hperm hfits ⊢
 obtain ⟨es1,t1,wasDummy,gave⟩:=L
 dsimp only at hperm hfits ⊢
 refine wbK (hgw _ ?_)
 have tail:∀ t2:SetTable,t2.fits es1.size=true->wpAny (model prog w) A (do
    storeSet a es1 t2
    if (!wasDummy&&t2.tooFull)=true then do
      (match (relayAll t2 es1 (SetTable.grown es1.size)).2.2 with | true=>rule "set.scan.the-table-gave-way" | false=>pure ())
      storeSet a (relayAll t2 es1 (SetTable.grown es1.size)).1 (relayAll t2 es1 (SetTable.grown es1.size)).2.1
      pure (some true)
     else pure (some true)) (λr s'=>wpAny (model prog w) A (match r with | some added=>pure added | none=>setAddHashedIn a (.str x u) (hashStr w x) 99999) Q E s') E s:=by
  intro t2 f2
  have S1:=key es1 t2 hperm f2
  refine wbK (wpAny_storeSet_of e rfl ?_ (fits_of_scanBound S1.bound))
  rw [Cb e]
  have e1:(hset s.heap a (Ap es1 (ep+1) t2)).get? a=some (Ap es1 (ep+1) t2):=Jr e
  split
  ·have hp:=relayAll_perm t2 es1 (SetTable.grown es1.size)
   have hf:=relayAll_fits t2 es1 (SetTable.grown es1.size)
   refine wbK (hgw _ ?_)
   have S2:=S1.reperm hp hf
   refine wbK (wpAny_storeSet_of (s:={ s with heap:=hset s.heap a (Ap es1 (ep+1) t2) }) e1 rfl ?_ (fits_of_scanBound S2.bound))
   rw [Cb (h:=hset s.heap a (Ap es1 (ep+1) t2)) e1]
   refine wpAny_pure (wpAny_pure ?_)
   show Q true { s with heap:=hset (hset s.heap a _) a _ }
   rw [Fh]
   exact h _ _ _ S2
  ·exact wpAny_pure (wpAny_pure (h _ _ _ S1))
 split
 ·refine wbK ?_
  rw [hashByValue_scannable 8 (x:=.str x u) rfl]
  refine wpAny_pure ?_
  refine tail _ ?_
  split
  ·exact hfits
  ·exact SetTable.fits_plain_off hfits
 ·refine wbK (wpAny_pure ?_)
  refine KbI ?_
  first | rw [if_pos rfl] | simp only [↓reduceIte]
  exact tail _ hfits
end
section
variable {prog:Program}{w:World}{A:Around}{E:Value->Shared->Prop}{s:Shared}{l l':List Str}{es es':Array (Int × Value)}{t t':SetTable}{ep ep':Nat}{a b r o:Addr}{x:Str}{u:Tok}{led:Bool}
theorem O6 (S:SetIs w l es t)(hx:x∉l)(hl:l.length+1<1000)(e:s.heap.get? a=some (Ap es ep t)){Q:Bool->Shared->Prop}
  (h:∀ es' ep' t',SetIs w (x::l) es' t'->Q true { s with heap:=hset s.heap a (Ap es' ep' t'),toks:=s.toks+1 }):wpAny (model prog w) A (setAdd a (.str x u)) Q E s:=by
 unfold setAdd
 refine wpAny_holding (wbK (wpAny_pyHash_str ?_))
 exact Vw (s:={ s with toks:=s.toks+1 }) S hx hl e h
def BZ (n:Nat):Nat:=if n*5≥21 then 127 else 7
def okN (n:Nat):Bool:=decide (n≠0)&&decide (n<=BZ n)&&(decide (n*5<21)||decide (SetTable.sizeAbove (n*2)=128))
theorem KO (n:Nat):Dm (BZ n+1)=true:=by
 unfold BZ
 split
 ·exact Nf
 ·exact RT
theorem Gx:(SetTable.fresh 0 0 led).fits 0=true:=by cases led <;> decide
theorem Iv {es:Array (Int × Value)}{order:Array Nat}(p:order.toList.Perm (range es.size)):(order.filterMap (es[·]?)).toList.Perm es.toList:=by
 rw [Array.toList_filterMap]
 refine (p.filterMap _).trans ?_
 rw [filterMap_getElem?_range]
theorem Mu {t:SetTable}{n:Nat}(h1:t.place.size=n)(h2:t.dummies = #[])(h3:n<=t.mask):t.fits n=true:=by
 unfold SetTable.fits SetTable.fill
 rw [h1,h2]
 simp
 exact h3
theorem EI {es:Array (Int × Value)}{t':SetTable}{order:Array Nat}{lo:Option (SetTable × Array Nat)}(e:lo=some (t',order))(p:order.toList.Perm (range es.size)){Q:Array (Int × Value) × SetTable->Shared->Prop}
  (h:∀ es',es'.toList.Perm es.toList->Q (es',t') s):wpAny (model prog w) A (do
   let some (t,order):=lo | unsupported "internal:set-table-without-room"
   let es':=order.filterMap (es[·]?)
   if es'.size != es.size then unsupported "internal:set-table-lost-an-element"
   pure (es',t)) Q E s:=by
 subst e
 have rp:=Iv p
 have sz:(order.filterMap (es[·]?)).size=es.size:=by rw [<- Array.length_toList,rp.length_eq,Array.length_toList]
 dsimp only
 rw [sz]
 first | rw [if_neg (by rw [bne_self_eq_false];decide)] | simp only [bne_self_eq_false,false_eq_true,↓reduceIte]
 exact wpAny_pure (h _ rp)
theorem Iw {led:Bool}{wanted:Nat}:∃ order,(SetTable.fresh 0 0 led).relaid ((#[]:Array (Int × Value)).map (·.1)) wanted=some ({ mask:=SetTable.sizeAbove wanted - 1,place:=#[],dummies:=#[],finger:=0,led:=led,moves:=(SetTable.fresh 0 0 led).movedTo (SetTable.sizeAbove wanted - 1),plain:=true },order)/\order = #[]:=by
 unfold SetTable.relaid SetTable.laid
 have e:SetTable.layClean (SetTable.sizeAbove wanted - 1) ((#[]:Array (Int × Value)).map (·.1))=some (Array.replicate (SetTable.sizeAbove wanted - 1+1) none):=by simp [SetTable.layClean]
 rw [e]
 have z:((range (SetTable.sizeAbove wanted - 1+1)).filterMap λj=>((Array.replicate (SetTable.sizeAbove wanted - 1+1) (none:Option Nat)).getD j none).map λy=>(j,y))=[]:=by
  rw [filterMap_eq_nil_iff]
  intro j hj
  rw [mem_range] at hj
  simp [Array.getD,hj]
 refine ⟨#[],?_,rfl⟩
 show some (({ mask:=_,place:=(map _ _).toArray,dummies:=#[],finger:=_,led:=_,moves:=_,plain:=_ }:SetTable),(map _ _).toArray)=_
 rw [z]
 rfl
set_option tactic.hygienic true in
theorem KP (S:SetIs w l es t)(hr:s.heap.get? r=some (Ap #[] 0 (.fresh 0 0 led)))(ho:s.heap.get? o=some (Ap es ep t))(ne:r≠o)(hc:okN l.length=true){Q:Unit->Shared->Prop}
  (h:∀ es' ep' t',SetIs w l es' t'->t'.dummies = #[]->t'.mask=BZ l.length->Q () { s with heap:=hset s.heap r (Ap es' ep' t') }):wpAny (model prog w) A (setMerge r o) Q E s:=by
 simp only [okN,and_eq_true,or_eq_true,decide_eq_true_eq] at hc
 obtain ⟨⟨c1,c2⟩,c3⟩:=hc
 have hs:=S.size
 unfold setMerge
 have hb:(r==o)=false:=beq_eq_false_iff_ne.mpr ne
 rw [hb]
 first | rw [if_neg (by decide)] | simp only [Bool.not_true,false_eq_true,↓reduceIte]
 refine wbK (wpAny_setState_of ho rfl S.fit ?_)
 dsimp only
 have he:es.isEmpty=false:=by rw [Array.isEmpty_eq_false_iff];intro q;subst q;simp at hs;exact (Nat.not_succ_le_zero _ (Mi.la [_] [([3],[2]),([2],[1])] ([3],[1]) rfl (Nat.pos_of_ne_zero c1) (Nat.le_of_eq hs.symm)))
 refine KbI ?_
 rw [he]
 first | rw [if_neg (by decide)] | simp only [Bool.not_true,false_eq_true,↓reduceIte]
 -- room
 have room:∀ {Q':Unit->Shared->Prop},(∀ ep' t1,t1.dummies = #[]->t1.place = #[]->t1.mask=BZ l.length->Q' () { s with heap:=hset s.heap r (Ap #[] ep' t1) })->wpAny (model prog w) A (setRoomFor r es.size) Q' E s:=by
  intro Q' hQ
  unfold setRoomFor
  refine wbK (wpAny_setState_of hr rfl Gx ?_)
  refine KbI ?_
  dsimp only
  have rf:(SetTable.fresh 0 0 led).roomFor es.size=if (0+es.size)*5≥7*3 then some ((0+es.size)*2) else none:=rfl
  rw [rf,Nat.zero_add,hs]
  by_cases q:l.length*5≥7*3
  ·rw [if_pos q]
   dsimp only
   have c3':SetTable.sizeAbove (l.length*2)=128:=by rcases c3 with z | z;lia;exact z
   unfold setRelay
   refine wbK (wpAny_setState_of hr rfl Gx ?_)
   dsimp only
   refine KbI ?_
   rw [c3',if_neg (by rw [sizeLine_eq];lia)]
   obtain ⟨order,e1,e2⟩:=Iw (led:=led) (wanted:=l.length*2)
   rw [c3'] at e1
   refine wbK (EI e1 (by subst e2;exact Perm.refl _) λes' p=>?_)
   obtain rfl:es' = #[]:=by
    have:es'.toList=[]:=Perm.eq_nil p
    exact Array.toList_eq_nil_iff.mp this
   refine wpAny_storeSet_of hr rfl ?_ (by simp)
   rw [Cb hr]
   refine hQ _ _ rfl rfl ?_
   show 128 - 1=BZ l.length
   unfold BZ;rw [if_pos (by lia)]
  ·rw [if_neg q]
   dsimp only
   refine wpAny_pure ?_
   have e0:s.heap=hset s.heap r (Ap #[] 0 (.fresh 0 0 led)):=by
    have:=DU hr (f:=id) (g:=λU=>Ap #[] 0 (.fresh 0 0 led)) rfl
    show s.heap=s.heap.update r _
    rw [<- this]
    obtain ⟨⟨objs,lf⟩,g,d,tk,os⟩:=s
    show Heap.mk _ _=Heap.mk _ _
    congr 1
    apply Array.ext_getElem?
    intro j
    rw [Array.getElem?_modify]
    by_cases z:r=j
    ·simp [z]
    ·simp [z]
   have:=hQ 0 (.fresh 0 0 led) rfl rfl (by unfold BZ;rw [if_neg (by lia)];rfl)
   rw [<- e0] at this
   exact this
 refine wbK (room λep1 t1 d1 p1 m1=>?_)
 have hr1:(hset s.heap r (Ap #[] ep1 t1)).get? r=some (Ap #[] ep1 t1):=Jr hr
 refine wbK (wpAny_setState_of (s:={ s with heap:=hset s.heap r (Ap #[] ep1 t1) }) hr1 rfl (Mu (by rw [p1];rfl) d1 (Nat.zero_le _)) ?_)
 dsimp only
 have f0:t1.fill=0:=by unfold SetTable.fill;rw [p1,d1];rfl
 refine KbI ?_
 dsimp only
 cases hroad:t1.road t with
 | oneByOne=>
  exfalso
  unfold SetTable.road at hroad
  rw [f0] at hroad
  simp only [bne_self_eq_false,false_eq_true,↓reduceIte] at hroad
  split at hroad <;> cases hroad
 | slotForSlot=>
  dsimp only
  have q:t1.mask=t.mask/\t.dummies = #[]:=by
   unfold SetTable.road at hroad
   rw [f0] at hroad
   simp only [bne_self_eq_false,false_eq_true,↓reduceIte] at hroad
   split at hroad
   ·rename_i z
    simp only [and_eq_true,beq_iff_eq,Array.isEmpty_iff] at z
    exact z
   ·cases hroad
  refine wpAny_storeSet_of (s:={ s with heap:=hset s.heap r (Ap #[] ep1 t1) }) hr1 rfl ?_ (fits_of_scanBound S.bound)
  rw [Cb (h:=hset s.heap r (Ap #[] ep1 t1)) hr1]
  show Q () { s with heap:=hset (hset s.heap r _) r _ }
  rw [Fh]
  refine h _ _ _ (S.reperm (Perm.refl _) ?_) q.2 (by rw [<- q.1] at *;exact q.1▸m1)
  exact S.fit
 | clean=>
  dsimp only
  have hsz:(es.map (·.1)).size<=t1.mask:=by rw [Array.size_map,hs,m1];exact c2
  obtain ⟨t2,order,e1,e2,e3,e4,e5⟩:=RV (mask:=t1.mask) (by rw [m1];exact KO _) (es.map (·.1)) hsz t1.finger t1.moves (t1.led&&t.led) (t1.plain&&t.plain)
  rw [Array.size_map] at e2 e3
  refine wbK (EI e1 e2 λes' p=>?_)
  have sz:es'.size=es.size:=by rw [<- Array.length_toList,p.length_eq,Array.length_toList]
  have S2:SetIs w l es' t2:=S.reperm p (Mu (by rw [e3,sz]) e4 (by rw [sz,hs,e5,m1];exact c2))
  refine KbI ?_
  dsimp only
  refine wpAny_storeSet_of (s:={ s with heap:=hset s.heap r (Ap #[] ep1 t1) }) hr1 rfl ?_ (fits_of_scanBound S2.bound)
  rw [Cb (h:=hset s.heap r (Ap #[] ep1 t1)) hr1]
  show Q () { s with heap:=hset (hset s.heap r _) r _ }
  rw [Fh]
  exact h _ _ _ S2 e4 (e5.trans m1)
end
end Mh
end
section
open PySem PySem.W PySem.Calls PyProof.Rows
open PySem.Sem (wp)
open PySem.Builtin.Frozenset
set_option maxRecDepth 10000
namespace Mh
theorem Vx (a b:Addr):Builtin.«frozenset.__or__» ⟨[.ref a,.ref b],[]⟩=(do
  if !(<- (isAnySet (.ref a) <&&> isAnySet (.ref b))) then do rule s!"frozenset.{"__or__"}.declined";return <- ret .notImplemented
  ret (<- (do
   let result <- copyOf (<- addrOf (.ref a))
   if (Value.ref b) != .ref (<- addrOf (.ref a)) then holding [result] (updateFrom s!"frozenset.{"__or__"}" (<- addrOf result) (.ref b))
   return result))):=rfl
theorem Un (a b:Addr):Builtin.«frozenset.__sub__» ⟨[.ref a,.ref b],[]⟩=(do
  if !(<- (isAnySet (.ref a) <&&> isAnySet (.ref b))) then do rule s!"frozenset.{"__sub__"}.declined";return <- ret .notImplemented
  ret (<- difference s!"frozenset.{"__sub__"}" (<- addrOf (.ref a)) (.ref b))):=rfl
theorem KQ (a:Addr):setWalk a=(do
 let (es,epoch,t) <- setState a
 if <- setsByText then return pickOrder ((<- ask).params.setOrder a epoch) es
 if (!t.plain&&decide (es.size>1))=true then return (<- drawOrder es.size es.toList).toArray
 (if (!t.led&&decide (es.size>1))=true then unsupported "set:maker-not-led" else pure ())
 return es):=rfl
theorem Gy:isSubtype (.type "frozenset") (.type "set")=pure false:=by rw [isSubtype_type];kernel_rfl
theorem Nm:isSubtype (.type "frozenset") (.type "frozenset")=pure true:=by rw [isSubtype_type];kernel_rfl
theorem Nn {V:Type}{next:Nat->Nat}{fuel k:Nat}{left:List V}{out:Array V}:pickOrder.go next (fuel+1) k left out=(left[next k % left.length]?).elim out λx=>pickOrder.go next fuel (k+1) (left.eraseIdx (next k % left.length)) (out.push x):=by kernel_rfl
theorem RX {V:Type}(next:Nat->Nat)(fuel:Nat):∀ (k:Nat) (left:List V) (out:Array V),left.length<=fuel->(pickOrder.go next fuel k left out).toList.Perm (out.toList++left):=by
 induction fuel with
 | zero=>
  intro k left out h
  obtain rfl:left=[]:=length_eq_zero_iff.mp (by exact Nat.le_antisymm (Mi.la [_] [([2],[1])] ([2],[1]) rfl h) (Mi.la [_] [] ([1],[2]) rfl))
  rw [append_nil];exact Perm.refl _
 | succ fuel ih=>
  intro k left out h
  rw [Nn]
  cases e:left[next k % left.length]? with
  | none=>
   have:left=[]:=by
    cases left with
    | nil=>rfl
    | cons y ys=>
     have lt:=Nat.mod_lt (next k) (show 0<(y::ys).length by simp)
     rw [getElem?_eq_getElem lt] at e;cases e
   subst this
   rw [append_nil]
   exact Perm.refl _
  | some x=>
   have lt:next k % left.length<left.length:=by
    rcases Nat.lt_or_ge (next k % left.length) left.length with q | q
    ·exact q
    ·rw [getElem?_eq_none q] at e;cases e
   have ex:left[next k % left.length]=x:=by rw [getElem?_eq_getElem lt] at e;exact Option.some.inj e
   have ih:=ih (k+1) (left.eraseIdx (next k % left.length)) (out.push x) (by rw [List.length_eraseIdx_of_lt lt];exact Mi.la [_,_,_] [([2],[4,3,0]),([6,3,0],[2])] ([6],[4]) rfl h (Mi.lcC (Mi.la [_,_] [([2,3,0],[4])] ([3],[4]) rfl lt)))
   refine ih.trans ?_
   rw [Array.toList_push,append_assoc]
   refine Perm.append_left _ ?_
   have q:∀ (l:List V) (i:Nat) (hi:i<l.length),(l[i]::l.eraseIdx i).Perm l:=by
    intro l
    induction l with
    | nil=>intro i hi;simp at hi
    | cons y ys ih=>
     intro i hi
     cases i with
     | zero=>exact Perm.refl _
     | succ i=>exact (Perm.swap ..).trans ((ih i (by simpa using hi)).cons y)
   have:=q left _ lt
   rw [ex] at this
   exact this
theorem No {V:Type}(next:Nat->Nat)(xs:Array V):(pickOrder next xs).toList.Perm xs.toList:=by
 have:=RX next xs.size 0 xs.toList #[] (by rw [Array.length_toList];exact Nat.le_refl _)
 rw [nil_append] at this
 exact this
section
variable {prog:Program}{w:World}{A:Around}{E:Value->Shared->Prop}{s:Shared}{l l':List Str}{es es':Array (Int × Value)}{t t':SetTable}{ep ep':Nat}{a b r o:Addr}{x:Str}{u:Tok}{led:Bool}
theorem typ (e:s.heap.get? a=some (Ap es ep t)):s.TypeIs (.ref a) "frozenset":=⟨_,e,rfl⟩
theorem Js (e:s.heap.get? a=some (Ap es ep t)){Q:Bool->Shared->Prop}(h:Q true s):wpAny (model prog w) A (isAnySet (.ref a)) Q E s:=by
 unfold isAnySet
 refine wbK (wpAny_isInstance (typ e) Gy ?_)
 exact wpAny_isInstance (typ e) Nm h
theorem O7 (ea:s.heap.get? a=some (Ap es ep t))(eb:s.heap.get? b=some (Ap es' ep' t')){Q:Bool->Shared->Prop}(h:Q true s):wpAny (model prog w) A (isAnySet (.ref a) <&&> isAnySet (.ref b)) Q E s:=by
 refine wbK (Js ea ?_)
 exact Js eb h
theorem Uo {Q:Bool->Shared->Prop}(h:∀ c,Q c s):wpAny (model prog w) A setsByText Q E s:=by
 unfold setsByText
 exact wbK (wpAny_askSetting (wpAny_pure (h _)))
theorem O8 (S:SetIs w l es t)(e:s.heap.get? a=some (Ap es ep t))(c:Bool)(hc:(c||(t.led&&t.plain)||decide (es.size<=1))=true){Q:Array (Int × Value)->Shared->Prop}(h:∀ es',es'.toList.Perm es.toList->Q es' s)(hb:c=w.params.followText "set-order") :
  wpAny (model prog w) A (setWalk a) Q E s:=by
 rw [KQ]
 refine wbK (wpAny_setState_of e rfl S.fit ?_)
 dsimp only
 refine wbK ?_
 unfold setsByText
 refine wbK (wpAny_askSetting (wpAny_pure ?_))
 show wpAny (model prog w) A (if (w.params.followText "set-order")=true then _ else _) _ _ _
 rw [<- hb]
 cases c with
 | true=>exact wbK (wpAny_askSetting (wpAny_pure (h _ (No _ _))))
 | false=>
  first | rw [if_neg (by decide)] | simp only [Bool.not_true,false_eq_true,↓reduceIte]
  have h1:(!t.plain&&decide (es.size>1))=false:=by
   revert hc
   cases t.plain <;> simp
   try (intro q _;lia)
  have h2:(!t.led&&decide (es.size>1))=false:=by
   revert hc
   cases t.led <;> simp
   try (intro q;lia)
  rw [h1,h2]
  first | rw [if_neg (by decide)] | simp only [Bool.not_true,false_eq_true,↓reduceIte]
  exact wbK (wpAny_pure (wpAny_pure (h _ (Perm.refl _))))
theorem Jt (S:SetIs w l es t)(e:s.heap.get? a=some (Ap es ep t))(h1:es.size<=1){others:List Addr}{f:Option Addr}{Q:Array (Int × Value)->Shared->Prop}(h:∀ es',es'.toList.Perm es.toList->Q es' s) :
  wpAny (model prog w) A (setWalkUnseen a others f) Q E s:=by
 unfold setWalkUnseen
 refine wbK (wpAny_setState_of e rfl S.fit ?_)
 dsimp only
 unfold setsByText
 refine wbK (wbK (wpAny_askSetting (wpAny_pure ?_)))
 show wpAny (model prog w) A (if (w.params.followText "set-order"||_||_)=true then _ else _) _ _ _
 rw [if_pos (by simp [h1])]
 exact O8 S e _ (by simp [h1]) h rfl
end
section
variable {prog:Program}{w:World}{A:Around}{E:Value->Shared->Prop}{s:Shared}{l l':List Str}{es es':Array (Int × Value)}{t t':SetTable}{ep ep':Nat}{a b r o:Addr}{x:Str}{u:Tok}{led:Bool}{n:Nat}
theorem Fj {h:Heap}{o o':Obj}:hset (h.push o) h.objs.size o'=h.push o':=by
 obtain ⟨objs,lf⟩:=h
 show Heap.mk _ _=Heap.mk _ _
 congr 1
 apply Array.ext_getElem?
 intro j
 rw [Array.getElem?_modify,Array.getElem?_push,Array.getElem?_push]
 by_cases q:objs.size=j
 ·subst q;simp
 ·have:j≠objs.size:=λe=>q e.symm
  simp [q,this]
theorem V4 {Q:Value->Shared->Prop}(h:∀ led,Q (.ref s.heap.objs.size) { s with heap:=s.heap.push (Ap #[] 0 (.fresh 0 0 led)) }):wpAny (model prog w) A (newSet (.type "frozenset")) Q E s:=by
 unfold newSet
 refine wbK (Uo λc=>?_)
 dsimp only
 unfold newObj
 refine wbK ?_
 exact wpAny_alloc (wpAny_pure (h _))
theorem TQ (S:SetIs w l es t)(e:s.heap.get? a=some (Ap es ep t))(hc:okN l.length=true){Q:Value->Shared->Prop}
  (h:∀ es' ep' t',SetIs w l es' t'->t'.dummies = #[]->t'.mask=BZ l.length->Q (.ref s.heap.objs.size) { s with heap:=s.heap.push (Ap es' ep' t') }):wpAny (model prog w) A (copyOf a) Q E s:=by
 unfold copyOf
 refine wbK ?_
 unfold baseOf
 refine wbK (wpAny_isInstance (typ e) Gy (wpAny_pure ?_))
 first | rw [if_neg (by decide)] | simp only [Bool.not_true,false_eq_true,↓reduceIte]
 refine wbK (V4 λled=>?_)
 refine wbK (wpAny_pure ?_)
 have lt:=lt_size e
 refine wbK (KP (s:={ s with heap:=s.heap.push (Ap #[] 0 (.fresh 0 0 led)) }) S (r:=s.heap.objs.size) (led:=led) (get?_push_size _ rfl) (get?_push_of_some _ e) (Nat.ne_of_gt lt) hc λes' ep' t' S' d m=>wpAny_pure ?_)
 show Q _ { s with heap:=hset (s.heap.push _) s.heap.objs.size _ }
 rw [Fj]
 exact h _ _ _ S' d m
theorem O9 (S:SetIs w l es t)(S':SetIs w [x] es' t')(er:s.heap.get? r=some (Ap es ep t))(eo:s.heap.get? o=some (Ap es' ep' t'))(ne:r≠o)(hx:x∉l)(hl:l.length+1<1000)(h0:l≠[])
  (hd:t.dummies = #[]) (hm:(l.length+1)*5<t.mask*3) {each:Sem Unit} (he:∀ (s':Shared) (Q:Unit->Shared->Prop),s'.heap.get? o=some (Ap es' ep' t')->Q () s'->wpAny (model prog w) A each Q E s') {Q:Unit->Shared->Prop}
  (h:∀ es' ep' t',SetIs w (x::l) es' t'->Q () { s with heap:=hset s.heap r (Ap es' ep' t') }):wpAny (model prog w) A (setMerge r o each) Q E s:=by
 have z':es'.size=1:=S'.size
 unfold setMerge
 rw [beq_eq_false_iff_ne.mpr ne]
 first | rw [if_neg (by decide)] | simp only [Bool.not_true,false_eq_true,↓reduceIte]
 refine wbK (wpAny_setState_of eo rfl S'.fit ?_)
 dsimp only
 have:es'.isEmpty=false:=by rw [Array.isEmpty_eq_false_iff];intro q;subst q;simp at z'
 refine KbI ?_
 rw [this]
 first | rw [if_neg (by decide)] | simp only [Bool.not_true,false_eq_true,↓reduceIte]
 have pl:t.place.size=l.length:=by
  have f:=S.fit
  simp only [SetTable.fits,and_eq_true,beq_iff_eq] at f
  rw [f.1,S.size]
 have fl:t.fill=l.length:=by unfold SetTable.fill;rw [hd,pl];rfl
 refine wbK ?_
 unfold setRoomFor
 refine wbK (wpAny_setState_of er rfl S.fit ?_)
 dsimp only
 have rf:t.roomFor es'.size=none:=by unfold SetTable.roomFor;rw [fl,z',if_neg (by lia)]
 refine KbI ?_
 rw [rf]
 refine wpAny_pure ?_
 refine wbK (wpAny_setState_of er rfl S.fit ?_)
 refine KbI ?_
 dsimp only
 have rd:t.road t' = .oneByOne:=by
  unfold SetTable.road
  rw [fl,if_pos]
  simp only [bne_iff_ne,ne_eq]
  intro q;exact h0 (length_eq_zero_iff.mp q)
 rw [rd]
 dsimp only
 refine wbK (Jt S' eo (by exact Mi.la [_] [([2],[3])] ([2],[3]) rfl (Nat.le_of_eq z')) λes2 p=>?_)
 obtain ⟨e1,he1⟩:∃ e1,es'.toList=[e1]:=List.length_eq_one_iff.mp (by rw [Array.length_toList];exact z')
 have he2:es2.toList=[e1]:=by rw [he1] at p;exact Perm.eq_singleton p
 obtain ⟨y,u,rfl⟩:=S'.el e1 (by rw [he1];exact mem_singleton_self _)
 have:y=x:=by
  have:=S'.perm
  rw [he1] at this
  exact List.singleton_inj.mp (Perm.eq_singleton this)
 subst this
 refine wbK (wpAny_forIn_array' _ (λrest U s'=>(rest=[(hashStr w y,.str y u)]/\s'=s)\/(rest=[]/\∃ es' ep' t',SetIs w (y::l) es' t'/\s' = { s with heap:=hset s.heap r (Ap es' ep' t') })) _ ?_ ?_ es2 _ (.inl ⟨he2,rfl⟩))
 ·rintro ⟨hh,v⟩ rest _ s' (⟨q,rfl⟩ | ⟨q,_⟩)
  ·cases q
   refine wbK (wpAny_holding (Vw S hx hl er λes3 ep3 t3 S3=>?_))
   have eo':(hset s'.heap r (Ap es3 ep3 t3)).get? o=some (Ap es' ep' t'):=by rw [RW (Ne.symm ne)];exact eo
   refine wbK (he _ _ eo' ?_)
   refine wbK (wpAny_setState_of (s:={ s' with heap:=hset s'.heap r (Ap es3 ep3 t3) }) eo' rfl S'.fit ?_)
   refine KbI ?_
   first | rw [if_neg (by rw [bne_self_eq_false];decide)] | simp only [bne_self_eq_false,false_eq_true,↓reduceIte]
   exact wpAny_pure (.inr ⟨by trivial,_,_,_,S3,rfl⟩)
  ·cases q
 ·rintro _ s' (⟨q,_⟩ | ⟨_,es3,ep3,t3,S3,rfl⟩)
  ·cases q
  ·exact wpAny_pure (h _ _ _ S3)
theorem FP (a:Addr){Q:Addr->Shared->Prop}(h:Q a s):wpAny (model prog w) A (addrOf (.ref a)) Q E s:=wpAny_pure h
theorem Up (S:SetIs w l es t)(S':SetIs w [x] es' t')(ea:s.heap.get? a=some (Ap es ep t))(eb:s.heap.get? b=some (Ap es' ep' t'))(ne:a≠b)(hx:x∉l)(hl:l.length+1<1000)(hc:okN l.length=true)
  (hm:(l.length+1)*5<BZ l.length*3) {Q:PySem.Fin->Shared->Prop} (h:∀ es' ep' t',SetIs w (x::l) es' t'->Q (.done (.ret (.ref s.heap.objs.size))) { s with heap:=s.heap.push (Ap es' ep' t') }) :
  wpAny (model prog w) A (Builtin.«frozenset.__or__» ⟨[.ref a,.ref b],[]⟩) Q E s:=by
 rw [Vx]
 have h0:l≠[]:=by rintro rfl;simp [okN] at hc
 refine wbK (O7 ea eb ?_)
 first | rw [if_neg (by decide)] | simp only [Bool.not_true,false_eq_true,↓reduceIte]
 refine wbK ?_
 refine wbK (FP a ?_)
 refine wbK (TQ S ea hc λes1 ep1 t1 S1 d1 m1=>?_)
 refine wbK (FP a ?_)
 have nb:((Value.ref b) != .ref a)=true:=by
  rw [bne_iff_ne];intro q;cases q;exact ne rfl
 refine KbI ?_
 rw [nb]
 first | rw [if_pos rfl] | simp only [↓reduceIte]
 have lb:=lt_size eb
 have er:(s.heap.push (Ap es1 ep1 t1)).get? s.heap.objs.size=some (Ap es1 ep1 t1):=get?_push_size _ rfl
 have eb':(s.heap.push (Ap es1 ep1 t1)).get? b=some (Ap es' ep' t'):=get?_push_of_some _ eb
 refine wbK (FP _ ?_)
 refine wbK (wpAny_holding ?_)
 unfold updateFrom
 refine wbK (Js (s:={ s with heap:=s.heap.push (Ap es1 ep1 t1) }) eb' ?_)
 first | rw [if_pos rfl] | simp only [↓reduceIte]
 refine wbK (FP b ?_)
 unfold merge
 refine wbK (wpAny_setEpoch_of (s:={ s with heap:=s.heap.push (Ap es1 ep1 t1) }) eb' rfl S'.fit ?_)
 refine O9 (s:={ s with heap:=s.heap.push (Ap es1 ep1 t1) }) S1 S' er eb' (Nat.ne_of_gt lb) hx hl h0 d1 (by rw [m1];exact hm) (λs' Q' e' q=>?_) λes2 ep2 t2 S2=>?_
 ·unfold unchanged
  refine wbK (wpAny_setEpoch_of e' rfl S'.fit ?_)
  refine KbI ?_
  first | rw [if_neg (by rw [bne_self_eq_false];decide)] | simp only [bne_self_eq_false,false_eq_true,↓reduceIte]
  exact wpAny_pure q
 ·show wpAny _ _ _ _ _ { s with heap:=hset (s.heap.push _) s.heap.objs.size _ }
  rw [Fj]
  exact wpAny_pure (wpAny_pure (h _ _ _ S2))
theorem Np (S:SetIs w l es t)(e:s.heap.get? a=some (Ap es ep t)){Q:Option Nat->Shared->Prop}(h:∀ r,es.toList.findIdx? (λe=>(strKind prog w).is x e.2)=r->Q r s) :
  wpAny (model prog w) A (setFind a (.str x u) (hashStr w x)) Q E s:=by
 unfold setFind setFindIn
 refine wbK (wpAny_setState_of e rfl S.fit ?_)
 dsimp only
 refine KbI ?_
 rw [byScan_of rfl S.bound (S.elems (prog:=prog))]
 first | rw [if_pos rfl] | simp only [↓reduceIte]
 refine wbK (wpAny_rule ?_)
 refine wbK (wpAny_setScan_of (knd:=strKind prog w) (k:=x) (strKind_is prog w x u) e rfl S.fit S.elems ?_)
 cases hr:es.toList.findIdx? (λe=>(strKind prog w).is x e.2) with
 | none=>exact wpAny_pure (h _ hr)
 | some j=>exact wpAny_pure (by rw [Nat.zero_add];exact h _ hr)
theorem EJ {V:Type}(xs:Array V)(p:Nat)(hp:p<xs.size):(SetTable.eraseAt xs p).toList=xs.toList.eraseIdx p:=by
 unfold SetTable.eraseAt
 rw [Array.toList_append,Array.toList_extract,Array.toList_extract,List.eraseIdx_eq_take_drop_succ]
 simp only [List.extract_eq_take_drop,drop_zero,Nat.sub_zero]
 congr 1
 rw [take_of_length_le]
 simp
theorem RY {t:SetTable}{n:Nat}(h1:t.place.size=n)(h2:t.place.size+t.dummies.size<=t.mask):t.fits n=true:=by
 unfold SetTable.fits SetTable.fill
 simp [h1]
 rw [<- h1];exact h2
theorem RZ (S:SetIs w l es t)(hd:t.dummies.size<=n)(e:s.heap.get? a=some (Ap es ep t)){Q:Bool->Shared->Prop}
  (h:∀ c es' ep' t',SetIs w (l.filter (λy=>decide (y≠x))) es' t'->t'.dummies.size<=n+1->t'.mask=t.mask->Q c { s with heap:=hset s.heap a (Ap es' ep' t') }):wpAny (model prog w) A (setDiscardHashed a (.str x u) (hashStr w x)) Q E s:=by
 unfold setDiscardHashed
 refine wbK (Np S e λr hr=>?_)
 cases r with
 | none=>
  have hx:x∉l:=by
   rw [S.mem (prog:=prog)]
   rintro ⟨y,hy,q⟩
   have:=List.findIdx?_eq_none_iff.mp hr y hy
   rw [q] at this;cases this
  have fl:l.filter (λy=>decide (y≠x))=l:=List.filter_eq_self.mpr λy hy=>by rw [decide_eq_true_eq];rintro rfl;exact hx hy
  have e0:s.heap=hset s.heap a (Ap es ep t):=by
   show s.heap=s.heap.update a _
   rw [<- DU e (f:=id) (g:=λU=>Ap es ep t) rfl]
   obtain ⟨⟨objs,lf⟩,g,d,tk,os⟩:=s
   show Heap.mk _ _=Heap.mk _ _
   congr 1
   apply Array.ext_getElem?
   intro j
   rw [Array.getElem?_modify]
   by_cases z:a=j
   ·simp [z]
   ·simp [z]
  have:=h false es ep t (by rw [fl];exact S) (by exact Mi.la [_,_] [([2],[4])] ([2],[4,3,0]) rfl hd) rfl
  rw [<- e0] at this
  exact wpAny_pure this
 | some i=>
  dsimp only
  obtain ⟨hi,hp,_⟩:=List.findIdx?_eq_some_iff_getElem.mp hr
  have hi':i<es.size:=by rwa [Array.length_toList] at hi
  refine wbK (wpAny_setState_of e rfl S.fit ?_)
  refine KbI ?_
  dsimp only
  have el:=EJ es i hi'
  have hk:keyS es.toList[i]=x:=((KN (S.el _ (getElem_mem hi)) x).mp hp).symm
  have pe:((es.toList.eraseIdx i).map keyS).Perm (l.filter (λy=>decide (y≠x))):=by
   have p1:(x::(es.toList.eraseIdx i).map keyS).Perm l:=by
    have q:∀ (l:List (Int × Value)) (i:Nat) (hi:i<l.length),(l[i]::l.eraseIdx i).Perm l:=by
     intro l
     induction l with
     | nil=>intro i hi;simp at hi
     | cons y ys ih=>
      intro i hi
      cases i with
      | zero=>exact Perm.refl _
      | succ i=>exact (Perm.swap ..).trans ((ih i (by simpa using hi)).cons y)
    have:=(q es.toList i hi).map keyS
    rw [map_cons,hk] at this
    exact this.trans S.perm
   have p2:=p1.filter (λy=>decide (y≠x))
   have nd:(x::(es.toList.eraseIdx i).map keyS).Nodup:=p1.symm.nodup S.nd
   rw [nodup_cons] at nd
   rw [List.filter_cons_of_neg (by simp)] at p2
   rwa [List.filter_eq_self.mpr λy hy=>by rw [decide_eq_true_eq];rintro rfl;exact nd.1 hy] at p2
  have f:=S.fit
  simp only [SetTable.fits,and_eq_true,beq_iff_eq,decide_eq_true_eq] at f
  have ip:i<t.place.size:=by rw [f.1];exact hi'
  have dr:t.drop i = { t with place:=SetTable.eraseAt t.place i,dummies:=SetTable.insertAt t.dummies (SetTable.below t.dummies t.place[i]) t.place[i] }:=by
   unfold SetTable.drop
   rw [Array.getElem?_eq_getElem ip]
  have szp:(SetTable.eraseAt t.place i).size=t.place.size - 1:=by
   rw [<- Array.length_toList,EJ _ _ ip,List.length_eraseIdx_of_lt (by rw [Array.length_toList];exact ip),Array.length_toList]
  have szd:(SetTable.insertAt t.dummies (SetTable.below t.dummies t.place[i]) t.place[i]).size=t.dummies.size+1:=by
   rw [<- Array.length_toList,(SetTable.insertAt_perm ..).length_eq,Array.toList_push,length_append,Array.length_toList];rfl
  have sze:(SetTable.eraseAt es i).size=es.size - 1:=by
   rw [<- Array.length_toList,el,List.length_eraseIdx_of_lt hi,Array.length_toList]
  have S2:SetIs w (l.filter (λy=>decide (y≠x))) (SetTable.eraseAt es i) (t.drop i):=by
   refine ⟨λy hy=>?_,by rw [el];exact pe,S.nd.filter _,?_,Nat.lt_of_le_of_lt (List.length_filter_le ..) S.lt⟩
   ·rw [el] at hy
    exact S.el y (List.mem_of_mem_eraseIdx hy)
   ·rw [dr]
    have:=f.2
    unfold SetTable.fill at this
    refine RY (by show (SetTable.eraseAt t.place i).size=_;rw [szp,sze];exact Nat.le_antisymm (Mi.la [_,_,_,_] [([2],[4]),([6,3,0],[2]),([4],[8,3,0])] ([6],[8]) rfl (Nat.le_of_eq f.1) (Mi.lcC (Mi.la [_,_] [([2,3,0],[4])] ([3],[4]) rfl ip)) (Mi.lcS _ _)) (Mi.la [_,_,_,_] [([2],[4]),([6,3,0],[2]),([4],[8,3,0])] ([6],[8]) rfl (Nat.le_of_eq f.1.symm) (Mi.lcC (Mi.la [_,_] [([2,3,0],[4])] ([3],[4]) rfl hi')) (Mi.lcS _ _))) ?_
    show (SetTable.eraseAt t.place i).size+(SetTable.insertAt ..).size<=t.mask
    rw [szp,szd]
    exact Mi.la [_,_,_,_] [([2,4,0],[6]),([8,3,0],[2])] ([8,4,3,0,0],[6]) rfl this (Mi.lcC (Mi.la [_,_] [([2,3,0],[4])] ([3],[4]) rfl ip))
  refine wbK (wpAny_storeSet_of e rfl ?_ (fits_of_scanBound S2.bound))
  rw [Cb e]
  refine wbK (wpAny_point ?_)
  exact wpAny_pure (h true _ _ _ S2 (by rw [dr];show (SetTable.insertAt ..).size<=_;rw [szd];exact Mi.la [_,_] [([2],[4])] ([2,3,0],[4,3,0]) rfl hd) (by rw [dr]))
end
def eqL:List Nat->List Nat->Bool
 | [],m=>m.isEmpty
 | a::l,m=>match m with
  | []=>false
  | b::m=>match Nat.beq a b with
   | true=>eqL l m
   | false=>false
theorem eqL_iff:∀ (a b:List Nat),eqL a b=true↔a=b:=by
 intro a
 induction a with
 | nil=>exact λb=>isEmpty_iff.trans eq_comm
 | cons a l ih=>
  intro b
  cases b with
  | nil=>exact ⟨λh=>by injection h,λh=>by injection h⟩
  | cons b m=>
   show (match Nat.beq a b with
    | true=>eqL l m
    | false=>false)=true↔_
   cases q:Nat.beq a b with
   | true=>
    obtain rfl:=Nat.eq_of_beq_eq_true q
    exact (ih m).trans ⟨λh=>by rw [h],λh=>(List.cons.inj h).2⟩
   | false=>exact ⟨λh=>by injection h,λh=>by rw [(List.cons.inj h).1,Nat.beq_refl] at q;injection q⟩
def Hu (x:Str):List Str->Bool
 | []=>false
 | y::l=>match eqL x.cps.toList y.cps.toList with
  | true=>true
  | false=>Hu x l
theorem Ju (x:Str)(l:List Str):Hu x l=true↔x∈l:=by
 induction l with
 | nil=>simp [Hu]
 | cons y l ih=>
  unfold Hu
  cases q:eqL x.cps.toList y.cps.toList with
  | true=>
   have:x=y:=by
    have:=(eqL_iff _ _).mp q
    obtain ⟨⟨a⟩⟩:=x;obtain ⟨⟨b⟩⟩:=y
    simp only at this;subst this;rfl
   simp [this]
  | false=>
   have:x≠y:=by rintro rfl;rw [(eqL_iff _ _).mpr rfl] at q;cases q
   rw [mem_cons,ih];simp [this]
theorem Ei {x:Str}{l}(h:Hu x l=false):x∉l:=λq=>by rw [(Ju x l).mpr q] at h;cases h
def Gz (l l':List Str):List Str:=match l with
 | []=>[]
 | y::r=>match Hu y l' with
  | true=>Gz r l'
  | false=>y::Gz r l'
theorem R7 (l l':List Str):Gz l l'=l.filter λy=>decide (y∉l'):=by
 induction l with
 | nil=>rfl
 | cons y r ih=>
  unfold Gz
  cases q:Hu y l' with
  | true=>rw [List.filter_cons_of_neg (by simpa using (Ju y l').mp q)];exact ih
  | false=>rw [List.filter_cons_of_pos (by simpa using Ei q)];dsimp only;rw [ih]
section
variable {prog:Program}{w:World}{A:Around}{E:Value->Shared->Prop}{s:Shared}{l l':List Str}{es es':Array (Int × Value)}{t t':SetTable}{ep ep':Nat}{a b r o:Addr}{x:Str}{u:Tok}{led:Bool}{n:Nat}
theorem Uq (S:SetIs w l es t)(S':SetIs w l' es' t')(ea:s.heap.get? a=some (Ap es ep t))(eb:s.heap.get? b=some (Ap es' ep' t')){Q:Bool->Shared->Prop}(h:Q true s):wpAny (model prog w) A (setsQuiet [a,b]) Q E s:=by
 unfold setsQuiet
 refine wbK (wpAny_forIn_list _ (λrest r s'=>r.1=none/\s'=s/\∀ c∈rest,c=a\/c=b) _ ?_ ?_ _ _ ⟨rfl,rfl,λc hc=>by simpa using hc⟩)
 ·rintro c rest r s' ⟨hr,rfl,hc⟩
  have hs:∃ l₁ s6 s7 y6,SetIs w l₁ s6 y6/\s'.heap.get? c=some (Ap s6 s7 y6):=by
   rcases hc c mem_cons_self with rfl | rfl
   ·exact ⟨_,_,_,_,S,ea⟩
   ·exact ⟨_,_,_,_,S',eb⟩
  obtain ⟨l₁,s6,s7,y6,Y4,y0⟩:=hs
  unfold setEntries
  refine wbK (wbK (wpAny_setState_of y0 rfl Y4.fit (wpAny_pure ?_)))
  refine wbK (wpAny_forIn_array' _ (λrest r s''=>r.1=none/\s''=s'/\∀ e∈rest,e∈s6.toList) _ ?_ ?_ _ _ ⟨rfl,rfl,λe he=>he⟩)
  ·rintro ⟨hh,v⟩ rest' r' s'' ⟨hr',rfl,he⟩
   obtain ⟨y,u,q⟩:=Y4.el _ (he _ mem_cons_self)
   cases q
   exact wpAny_pure ⟨rfl,rfl,λe q=>he e (mem_cons_of_mem _ q)⟩
  ·rintro ⟨r1,r2⟩ s'' ⟨hr',rfl,_⟩
   simp only at hr'
   subst hr'
   exact wpAny_pure ⟨rfl,rfl,λc q=>hc c (mem_cons_of_mem _ q)⟩
 ·rintro ⟨r1,r2⟩ s' ⟨hr,rfl,_⟩
  simp only at hr
  subst hr
  exact wpAny_pure h
theorem Jv (S:SetIs w l es t)(S':SetIs w l' es' t')(ea:s.heap.get? a=some (Ap es ep t))(eb:s.heap.get? b=some (Ap es' ep' t')){Q:Array (Int × Value)->Shared->Prop}(h:∀ es2,es2.toList.Perm es.toList->Q es2 s) :
  wpAny (model prog w) A (setWalkUnseen a [b] none) Q E s:=by
 unfold setWalkUnseen
 refine wbK (wpAny_setState_of ea rfl S.fit ?_)
 dsimp only
 unfold setsByText
 refine wbK (wbK (wpAny_askSetting (wpAny_pure ?_)))
 show wpAny (model prog w) A (if (w.params.followText "set-order"||_||_)=true then _ else _) _ _ _
 by_cases q:(w.params.followText "set-order"||t.led&&t.plain||decide (es.size<=1))=true
 ·rw [if_pos q]
  exact O8 S ea _ q h rfl
 ·rw [if_neg q]
  refine wbK (Uq S S' ea eb ?_)
  first | rw [if_neg (by decide)] | simp only [Bool.not_true,false_eq_true,↓reduceIte]
  refine wbK (wpAny_rule ?_)
  exact wpAny_pure (h _ (Perm.refl _))
theorem Mv (S:SetIs w l es t)(ea:s.heap.get? a=some (Ap es ep t)){Q:Nat->Shared->Prop}(h:Q l.length s):wpAny (model prog w) A (Builtin.Frozenset.sizeOf a) Q E s:=by
 unfold Builtin.Frozenset.sizeOf setEntries
 exact wbK (wbK (wpAny_setState_of ea rfl S.fit (wpAny_pure (wpAny_pure (by rw [S.size];exact h)))))
theorem R8 (S:SetIs w l es t)(S':SetIs w l' es' t')(ea:s.heap.get? a=some (Ap es ep t))(eb:s.heap.get? b=some (Ap es' ep' t'))(hc:okN l.length=true)(hq:l.length / 4>l'.length)
  (h8:¬ l'.length / 8>l.length) (hm:l'.length<=BZ l.length / 4) {Q:PySem.Fin->Shared->Prop} (h:∀ es' ep' t',SetIs w (Gz l l') es' t'->Q (.done (.ret (.ref s.heap.objs.size))) { s with heap:=s.heap.push (Ap es' ep' t') }) :
  wpAny (model prog w) A (Builtin.«frozenset.__sub__» ⟨[.ref a,.ref b],[]⟩) Q E s:=by
 rw [Un]
 refine wbK (O7 ea eb ?_)
 refine KbI ?_
 rw [if_neg (by decide)]
 refine wbK (FP a ?_)
 refine wbK ?_
 unfold difference
 refine wbK (Js eb ?_)
 refine KbI ?_
 rw [if_neg (by decide)]
 refine wbK (FP b ?_)
 refine wbK (Mv S' eb ?_)
 refine wbK (Mv S ea ?_)
 refine KbI ?_
 rw [if_pos hq]
 refine wbK (wpAny_rule ?_)
 refine wbK (TQ S ea hc λes1 ep1 t1 S1 d1 m1=>?_)
 have lb:=lt_size eb
 have er:(s.heap.push (Ap es1 ep1 t1)).get? s.heap.objs.size=some (Ap es1 ep1 t1):=get?_push_size _ rfl
 have eb':(s.heap.push (Ap es1 ep1 t1)).get? b=some (Ap es' ep' t'):=get?_push_of_some _ eb
 refine wbK (FP _ ?_)
 refine wbK (wpAny_holding ?_)
 unfold differenceUpdate
 have nb:((Value.ref b)==.ref s.heap.objs.size)=false:=by
  rw [beq_eq_false_iff_ne];intro q;cases q;exact Nat.lt_irrefl _ lb
 rw [nb]
 rw [if_neg (by decide)]
 refine wbK (Js (s:={ s with heap:=s.heap.push (Ap es1 ep1 t1) }) eb' ?_)
 refine KbI ?_
 rw [if_pos rfl]
 refine wbK (FP b ?_)
 refine wbK (Mv (s:={ s with heap:=s.heap.push (Ap es1 ep1 t1) }) S' eb' ?_)
 refine wbK (Mv (s:={ s with heap:=s.heap.push (Ap es1 ep1 t1) }) S1 er ?_)
 refine KbI ?_
 rw [if_neg h8]
 refine wbK (wpAny_setEpoch_of (s:={ s with heap:=s.heap.push (Ap es1 ep1 t1) }) eb' rfl S'.fit ?_)
 refine wbK (wpAny_holding ?_)
 refine wbK (Jv (s:={ s with heap:=s.heap.push (Ap es1 ep1 t1) }) S' S1 eb' er λes2 p2=>?_)
 refine wbK (wpAny_forIn_array' _ (λrest U s'=>∃ done es3 ep3 t3,done++rest.map keyS=es2.toList.map keyS/\(∀ e∈rest,e∈es2.toList)/\SetIs w (l.filter λy=>decide (y∉done)) es3 t3/\t3.dummies.size<=done.length/\t3.mask=BZ l.length /\
  s' = { s with heap:=s.heap.push (Ap es3 ep3 t3) }) _ ?_ ?_ es2 _ ⟨[],es1,ep1,t1,rfl,λe he=>he,?_,by rw [d1];exact Nat.zero_le _,m1,rfl⟩)
 ·rintro ⟨hh,v⟩ rest _ s' ⟨done,es3,ep3,t3,hd,hin,S3,d3,m3,rfl⟩
  obtain ⟨y,u,q⟩:=S'.el _ (p2.mem_iff.mp (hin _ mem_cons_self))
  cases q
  have er3:(s.heap.push (Ap es3 ep3 t3)).get? s.heap.objs.size=some (Ap es3 ep3 t3):=get?_push_size _ rfl
  refine wbK (wpAny_holding (RZ (s:={ s with heap:=s.heap.push (Ap es3 ep3 t3) }) (n:=done.length) S3 d3 er3 λc es4 ep4 t4 S4 d4 m4=>?_))
  have eb4:(s.heap.push (Ap es4 ep4 t4)).get? b=some (Ap es' ep' t'):=get?_push_of_some _ eb
  show wpAny (model prog w) A _ _ _ { s with heap:=hset (s.heap.push _) s.heap.objs.size _ }
  rw [Fj]
  unfold unchanged
  refine wbK (wbK (wpAny_setEpoch_of (s:={ s with heap:=s.heap.push (Ap es4 ep4 t4) }) eb4 rfl S'.fit ?_))
  refine KbI ?_
  rw [if_neg (by rw [bne_self_eq_false];decide)]
  refine wpAny_pure (wpAny_pure ⟨done++[y],es4,ep4,t4,?_,λe q=>hin e (mem_cons_of_mem _ q),?_,by simpa using d4,m4.trans m3,rfl⟩)
  ·rw [<- hd];simp [keyS]
  ·have:(l.filter λz=>decide (z∉done++[y]))=(l.filter λz=>decide (z∉done)).filter λz=>decide (z≠y):=by
    rw [List.filter_filter]
    congr 1
    funext z
    by_cases q1:z∈done <;> by_cases q2:z=y <;> simp [q1,q2]
   rw [this];exact S4
 ·rintro _ s' ⟨done,es3,ep3,t3,hd,_,S3,d3,m3,rfl⟩
  have er3:(s.heap.push (Ap es3 ep3 t3)).get? s.heap.objs.size=some (Ap es3 ep3 t3):=get?_push_size _ rfl
  have hp:done.Perm l':=by
   rw [map_nil,append_nil] at hd
   rw [hd]
   exact (p2.map keyS).trans S'.perm
  have e3:(l.filter λz=>decide (z∉done))=Gz l l':=by
   rw [R7]
   congr 1
   funext z
   simp only [hp.mem_iff]
  rw [e3] at S3
  have hl:=hp.length_eq
  refine wpAny_pure ?_
  unfold setTidy
  refine wbK (wpAny_setState_of (s:={ s with heap:=s.heap.push (Ap es3 ep3 t3) }) er3 rfl S3.fit ?_)
  dsimp only
  have nt:t3.tooManyDummies=false:=by
   unfold SetTable.tooManyDummies
   rw [m3,decide_eq_false_iff_not]
   exact Nat.not_lt.mpr (Mi.la [_,_,_,_] [([2],[4]),([6],[8]),([8],[2])] ([6],[4]) rfl hm d3 (Nat.le_of_eq hl))
  refine KbI ?_
  rw [nt]
  rw [if_neg (by decide)]
  refine wpAny_pure (wpAny_pure (wpAny_pure (h _ _ _ S3)))
 ·have:(l.filter λy=>decide (y∉([]:List Str)))=l:=List.filter_eq_self.mpr λy U=>by simp
  rw [this];exact S1
end
theorem Mw {V:Type}{M:Model}{Γ:Ctx}(m:Sem V):∀ {Q:V->Pos->Shared->Prop} {p:Pos} {s:Shared},wp M Γ m Q (λU U U=>False) p s ->
  ∃ a p' s',Q a p' s'/\∀ (Q':V->Pos->Shared->Prop) E',Q' a p' s'->wp M Γ m Q' E' p s:=by
 induction m with
 | pure a=>intro Q p s h;exact ⟨a,p,s,h,λQ' E' q=>q⟩
 | raise e=>intro Q p s h;exact h.elim
 | unsupported | finish | register | «yield» | fork | await=>intro Q p s h;exact h.elim
 | rule tag k ih=>intro Q p s h;exact ih () h
 | «at» q k ih=>intro Q p s h;exact ih () h
 | load a part k ih=>
  intro Q p s h
  obtain ⟨o,ho,h⟩:=h
  obtain ⟨a,p',s',h1,h2⟩:=ih o h
  exact ⟨a,p',s',h1,λQ' E' q=>⟨o,ho,h2 Q' E' q⟩⟩
 | update a part f k ih=>
  intro Q p s h
  obtain ⟨ho,h⟩:=h
  obtain ⟨a,p',s',h1,h2⟩:=ih () h
  exact ⟨a,p',s',h1,λQ' E' q=>⟨ho,h2 Q' E' q⟩⟩
 | alloc o k ih=>intro Q p s h;exact ih _ h
 | loadIfAlive a k ih=>intro Q p s h;exact ih _ h
 | point l k ih=>intro Q p s h;exact ih () h
 | fresh k ih=>intro Q p s h;exact ih _ h
 | ask k ih=>intro Q p s h;exact ih _ h
 | choose src n k ih=>
  intro Q p s h
  obtain ⟨ho,h⟩:=h
  obtain ⟨a,p',s',h1,h2⟩:=ih _ h
  exact ⟨a,p',s',h1,λQ' E' q=>⟨ho,h2 Q' E' q⟩⟩
 | os q l k ih=>intro Q p s h;exact ih _ h
 | call c hd g l k ih=>
  intro Q p s h
  obtain ⟨r,c0,hr,h⟩:=h
  obtain ⟨a,p',s',h1,h2⟩:=ih r h
  exact ⟨a,p',s',h1,λQ' E' q=>⟨r,c0,hr,h2 Q' E' q⟩⟩
 | handled own k ih=>intro Q p s h;exact ih _ h
 | genState g k ih=>
  intro Q p s h
  obtain ⟨st,ho,h⟩:=h
  obtain ⟨a,p',s',h1,h2⟩:=ih _ h
  exact ⟨a,p',s',h1,λQ' E' q=>⟨st,ho,h2 Q' E' q⟩⟩
 | newGen c k ih=>intro Q p s h;exact ih _ h
 | resume g r l k ih=>
  intro Q p s h
  obtain ⟨res,c0,hr,h⟩:=h
  obtain ⟨a,p',s',h1,h2⟩:=ih res h
  exact ⟨a,p',s',h1,λQ' E' q=>⟨res,c0,hr,h2 Q' E' q⟩⟩
 | stack k ih=>intro Q p s h;exact ih _ h
 | thread k ih=>intro Q p s h;exact ih _ h
def Γin (Γ:Ctx):Around:=⟨Γ.handled,frameCount Γ.below+Γ.code.weight,none,none,Γ.units⟩
theorem Ur (Γ:Ctx):Γ.In (Γin Γ):=⟨rfl,Nat.le_refl _,λU h=>by (cases h),λU h=>by (cases h),Nat.le_refl _⟩
theorem HO {V:Type}{M:Model}{Γ:Ctx}{m:Sem V}{Q:V->Shared->Prop}{p:Pos}{s:Shared}(h:∀ A,wpAny M A m Q (λU U=>False) s):wp M Γ m (λa U s'=>Q a s') (λU U U=>False) p s:=
 h (Γin Γ) Γ p (Ur Γ)
def setData (es:Array (Int × Value))(ep:Nat)(t:SetTable)(o:Obj):Obj:={ o with data:=.set es ep t }
def D5 (a:Addr):List (Addr × List Str)->Option (List Str)
 | []=>none
 | x::r=>match Nat.beq x.1 a with
  | true=>some x.2
  | false=>D5 a r
def Jw (a:Addr)(l:List Str):List (Addr × List Str)->List (Addr × List Str)
 | []=>[(a,l)]
 | x::r=>match Nat.beq x.1 a with
  | true=>(a,l)::r
  | false=>x::Jw a l r
theorem CG (b:Addr)(x:Addr × List Str)(r):D5 b (x::r)=match Nat.beq x.1 b with
  | true=>some x.2
  | false=>D5 b r:=rfl
theorem C9 {a b:Nat}(h:Nat.beq a b=false):a≠b:=by rintro rfl;rw [Nat.beq_refl] at h;cases h
theorem Pa (a:Addr)(l:List Str)(b:Addr)(gh:List (Addr × List Str)):D5 b (Jw a l gh)=if b=a then some l else D5 b gh:=by
 induction gh with
 | nil=>
  show D5 b [(a,l)]=_
  rw [CG]
  dsimp only
  cases q:Nat.beq a b with
  | true=>have:=Nat.eq_of_beq_eq_true q;subst this;simp
  | false=>have:=C9 q;simp [Ne.symm this,D5]
 | cons x r ih=>
  unfold Jw
  cases q:Nat.beq x.1 a with
  | true=>
   have e:=Nat.eq_of_beq_eq_true q
   rw [CG,CG,e]
   dsimp only
   cases q2:Nat.beq a b with
   | true=>have:=Nat.eq_of_beq_eq_true q2;subst this;simp
   | false=>have:=C9 q2;simp [Ne.symm this]
  | false=>
   dsimp only
   rw [CG,CG,ih]
   cases q2:Nat.beq x.1 b with
   | true=>
    have e2:=Nat.eq_of_beq_eq_true q2
    have:b≠a:=by rw [<- e2];exact C9 q
    simp [this]
   | false=>rfl
theorem Nq {a:Addr}{gh:List (Addr × List Str)}:OW a gh=false->D5 a gh=none:=by
 induction gh with
 | nil=>exact λU=>rfl
 | cons x r ih=>
  intro h
  unfold OW at h
  unfold D5
  cases q:Nat.beq x.1 a with
  | true=>rw [q] at h;cases h
  | false=>rw [q] at h;exact ih h
def Us:Value->Option String
 | .type c=>some c
 | _=>none
theorem Nr {v:Value}{c:String}(h:Us v=some c):v = .type c:=by cases v <;> first | (injection h;done) | (injection h with h;rw [h])
def Pb:Data->Option (Array (Int × Value) × Nat × SetTable)
 | .set es ep t=>some (es,ep,t)
 | _=>none
theorem KR {d:Data}{x:Array (Int × Value) × Nat × SetTable}(h:Pb d=some x):d = .set x.1 x.2.1 x.2.2:=by cases d <;> first | (injection h;done) | (injection h with h;rw [<- h])
def TR (o:Obj):Bool:=cond o.dict.isNone (cond o.slots.toList.isEmpty (match Us o.cls with
 | some c=>match Pb o.data with
  | some x=>cond x.1.toList.isEmpty (Nat.beq (code c) 2165651704799132939111&&x.2.2.fits 0) false
  | none=>false
 | none=>false) false) false
def FQ (a:Addr)(T:BT)(gh:List (Addr × List Str)):Option (List Str):=match D5 a gh with
 | some l=>some l
 | none=>match T.get a with
  | some o=>match TR o with
   | true=>some []
   | false=>none
  | none=>none
def Inv (w:World)(S:SX):Prop:=∀ a l,D5 a S.gh=some l->a<S.sh.n/\∃ es ep t,S.sh.tree.get a=some (Ap es ep t)/\SetIs w l es t
theorem Ix {a b:Bool}(h:cond a b false=true):a=true/\b=true:=by
 cases a with
 | true=>exact ⟨rfl,h⟩
 | false=>injection h
theorem Pc {o:Obj}(h:TR o=true):∃ ep t,o=Ap #[] ep t/\t.fits 0=true:=by
 obtain ⟨cls,dict,data,slots⟩:=o
 obtain ⟨h1,h⟩:=Ix h
 obtain ⟨h2,h⟩:=Ix h
 obtain rfl:=Option.isNone_iff_eq_none.mp h1
 obtain rfl:slots = #[]:=Array.toList_eq_nil_iff.mp (isEmpty_iff.mp h2)
 dsimp only at h
 cases h3:Us cls with
 | none=>rw [h3] at h;injection h
 | some c=>
  cases h4:Pb data with
  | none=>rw [h3,h4] at h;injection h
  | some x=>
   rw [h3,h4] at h
   obtain ⟨h5,h⟩:=Ix h
   have h:=(and_eq_true _ _).mp h
   have h6:x.1 = #[]:=Array.toList_eq_nil_iff.mp (isEmpty_iff.mp h5)
   rw [Nr h3,KR h4,h6,Ge "frozenset" (by decide +kernel) h.1]
   exact ⟨_,_,rfl,h.2⟩
set_option tactic.hygienic true in
theorem Da {w:World}{a:Addr}{S:SX}(hi:Inv w S)(hn:a<S.sh.n){l:List Str}(h:FQ a S.sh.tree S.gh=some l):∃ es ep t,S.sh.tree.get a=some (Ap es ep t)/\SetIs w l es t:=by
 unfold FQ at h
 split at h
 ·rename_i l' e
  cases h
  exact (hi a _ e).2
 ·split at h
  ·rename_i o e
   split at h
   ·rename_i q
    cases h
    obtain ⟨ep,t,rfl,f⟩:=Pc q
    exact ⟨_,_,_,e,⟨λe he=>by simp at he,Perm.refl _,nodup_nil,f,by decide⟩⟩
   ·cases h
  ·cases h
theorem Db {S:SX}{a:Addr}{es ep t}(hn:a<S.sh.n)(e:S.sh.tree.get a=some (Ap es ep t)):S.sh.abs.heap.get? a=some (Ap es ep t):=by
 show (absHeap S.sh.tree S.sh.n S.sh.life).get? a=_
 rw [abs_get hn e];rfl
set_option tactic.hygienic true in
theorem Jx {o o':Obj}{T:BT}:∀ {n:Nat},((T.ins n o).get n).isSome=true->((T.ins n o').get n).isSome=true:=by
 induction T with
 | nil=>
  intro n h
  have e:∀ o,BT.nil.ins n o=BT.node o .nil .nil:=λU=>rfl
  rw [e,BT.get_node] at h ⊢
  split at h <;> rename_i q
  ·rw [if_pos q];rfl
  ·split at h <;> cases h
 | node v l r ihl ihr=>
  intro n h
  rw [BT.ins_node] at h ⊢
  by_cases q:n=0
  ·rw [if_pos q] at h ⊢;rw [BT.get_node,if_pos q];rfl
  ·rw [if_neg q] at h ⊢
   by_cases q2:n % 2=1
   ·rw [if_pos q2] at h ⊢;rw [BT.get_node,if_neg q,if_pos q2] at h ⊢;exact ihl h
   ·rw [if_neg q2] at h ⊢;rw [BT.get_node,if_neg q,if_neg q2] at h ⊢;exact ihr h
def TS (S:SX)(a:Addr)(l:List Str)(es:Array (Int × Value))(ep:Nat)(t:SetTable):SX:=match S with
 | ⟨⟨T,N,life,gens,drawn,toks,os⟩,gh⟩=>⟨⟨T.set a (setData es ep t),N,life,gens,drawn,toks+1,os⟩,Jw a l gh⟩
structure Pk where
 es:Array (Int × Value)
 ep:Nat
 t:SetTable
 p:Pos
noncomputable instance:Nonempty Pk:=⟨⟨#[],0,default,default⟩⟩
def Pd (prog:Program)(w:World)(Γ:Ctx)(p:Pos)(a:Addr)(x:Str)(u:Tok)(l:List Str)(S:SX)(k:Pk):Prop:=
 (∀ (Q:Bool->Pos->Shared->Prop) E,(∀ b,Q b k.p (TS S a (x::l) k.es k.ep k.t).sh.abs)->wp (model prog w) Γ (setAdd a (.str x u)) Q E p S.sh.abs)/\SetIs w (x::l) k.es k.t
def pkA (prog:Program)(w:World)(Γ:Ctx)(p:Pos)(a:Addr)(x:Str)(u:Tok)(l:List Str)(S:SX):Pk:=Classical.epsilon (Pd prog w Γ p a x u l S)
theorem Vy {prog:Program}{w:World}{Γ:Ctx}{p:Pos}{a:Addr}{x:Str}{u:Tok}{l:List Str}{S:SX}(hi:Inv w S)(hn:a<S.sh.n)(hl:FQ a S.sh.tree S.gh=some l)(hx:Hu x l=false)(hb:l.length+1<1000) :
  Pd prog w Γ p a x u l S (pkA prog w Γ p a x u l S):=by
 refine Classical.epsilon_spec (p:=Pd prog w Γ p a x u l S) ?_
 obtain ⟨es,ep,t,e,Z⟩:=Da hi hn hl
 have e':=Db hn e
 have W:=HO (M:=model prog w) (Γ:=Γ) (p:=p) (m:=setAdd a (.str x u)) (s:=S.sh.abs)
  (Q:=λb s'=>∃ es' ep' t',SetIs w (x::l) es' t'/\s' = { S.sh.abs with heap:=hset S.sh.abs.heap a (Ap es' ep' t'),toks:=S.sh.abs.toks+1 })
  (λA=>O6 Z (Ei hx) hb e' λes' ep' t' Z'=>⟨_,_,_,Z',rfl⟩)
 obtain ⟨b,p',s',⟨es',ep',t',Z',rfl⟩,h2⟩:=Mw _ W
 refine ⟨⟨es',ep',t',p'⟩,λQ E hQ=>h2 Q E ?_,Z'⟩
 have:=hQ b
 obtain ⟨⟨T,N,life,gens,drawn,toks,os⟩,gh⟩:=S
 have hh:(absHeap (T.set a (setData es' ep' t')) N life)=hset (absHeap T N life) a (Ap es' ep' t'):=by
  rw [absHeap_set e]
  exact DU (f:=setData es' ep' t') (g:=λU=>Ap es' ep' t') e' rfl
 show Q b p' ⟨hset (absHeap T N life) a (Ap es' ep' t'),gens,drawn,toks+1,os⟩
 rw [<- hh]
 exact this
def Iy (S:SX)(l:List Str)(es:Array (Int × Value))(ep:Nat)(t:SetTable):SX:=match S with
 | ⟨⟨T,N,life,gens,drawn,toks,os⟩,gh⟩=>⟨⟨T.ins N (Ap es ep t),N+1,life,gens,drawn,toks,os⟩,(N,l)::gh⟩
def Pe (prog:Program)(w:World)(Γ:Ctx)(p:Pos)(l:List Str)(S:SX)(k:Pk):Prop:=
 Runs (model prog w) Γ p ((model prog w).den Γ.code) [] S.sh.abs (.ret (.ok (.ret (.ref S.sh.n)))) (Iy S l k.es k.ep k.t).sh.abs/\SetIs w l k.es k.t
def pkN (prog:Program)(w:World)(Γ:Ctx)(p:Pos)(l:List Str)(S:SX):Pk:=Classical.epsilon (Pe prog w Γ p l S)
theorem TT {prog:Program}{w:World}{Γ:Ctx}{p:Pos}{l:List Str}{S:SX}{id:String}{args:Args}{b:Builtin}(hc:Γ.code = .builtin id args)(hb:entryFor table id=some b)(hins:((S.sh.tree.ins S.sh.n default).get S.sh.n).isSome=true)
  (h:∀ A:Around,wpAny (model prog w) A (b args) (λf s'=>∃ es ep t,SetIs w l es t/\f = .done (.ret (.ref S.sh.n))/\s' = { S.sh.abs with heap:=S.sh.abs.heap.push (Ap es ep t) }) (λU U=>False) S.sh.abs) :
  Pe prog w Γ p l S (pkN prog w Γ p l S):=by
 refine Classical.epsilon_spec (p:=Pe prog w Γ p l S) ?_
 have hd:(model prog w).den Γ.code=b args:=by
  rw [hc]
  show (match entryFor table id with | some b=>b args | none=>unsupported ((withoutEnding? id "#data").getD id))=_
  rw [hb]
 obtain ⟨f,p',s',⟨es,ep,t,Z,rfl,rfl⟩,h2⟩:=Mw _ (HO (M:=model prog w) (Γ:=Γ) (p:=p) h)
 refine ⟨⟨es,ep,t,default⟩,?_,Z⟩
 rw [hd]
 refine Dl (h2 _ _ ?_)
 obtain ⟨⟨T,N,life,gens,drawn,toks,os⟩,gh⟩:=S
 refine ⟨rfl,?_⟩
 have hh:absHeap (T.ins N (Ap es ep t)) (N+1) life=(absHeap T N life).push (Ap es ep t):=absHeap_ins (Jx (o:=default) hins)
 show (⟨(absHeap T N life).push (Ap es ep t),gens,drawn,toks,os⟩:Shared)=⟨absHeap (T.ins N (Ap es ep t)) (N+1) life,gens,drawn,toks,os⟩
 rw [hh]
def Ut (a b:Addr)(x:Str)(l:List Str)(S:SX):Bool:=
 Nat.blt a S.sh.n&&Nat.blt b S.sh.n&&!Nat.beq a b&&!Hu x l&&Nat.blt (l.length+1) 1000&&okN l.length&&Nat.blt ((l.length+1)*5) (BZ l.length*3)&&((S.sh.tree.ins S.sh.n default).get S.sh.n).isSome
def R9 (a b:Addr)(l l':List Str)(S:SX):Bool:=
 Nat.blt a S.sh.n&&Nat.blt b S.sh.n&&okN l.length&&Nat.blt l'.length (l.length / 4)&&!Nat.blt l.length (l'.length / 8)&&Nat.ble l'.length (BZ l.length / 4)&&((S.sh.tree.ins S.sh.n default).get S.sh.n).isSome
def Vz:List Str->Option Str
 | [x]=>some x
 | _=>none
theorem Sa {l:List Str}{x:Str}(h:Vz l=some x):l=[x]:=by
 cases l with
 | nil=>cases h
 | cons y r=>
  cases r with
  | nil=>cases h;rfl
  | cons=>cases h
theorem Fk {a b:Bool}{C:Prop}(h:(a&&b)=true)(k:a=true->b=true->C):C:=k (and_eq_true_iff.mp h).1 (and_eq_true_iff.mp h).2
theorem VA {b:Bool}(h:(!b)=true):b=false:=by
 cases b with
 | false=>rfl
 | true=>cases h
def TU (prog:Program)(w:World):Orc where
 add Γ p a x u S:=cond (Nat.blt a S.sh.n) ((FQ a S.sh.tree S.gh).bind λl=>cond (Hu x l) none (cond (Nat.blt (l.length+1) 1000)
  (some ((pkA prog w Γ p a x u l S).p,TS S a (x::l) (pkA prog w Γ p a x u l S).es (pkA prog w Γ p a x u l S).ep (pkA prog w Γ p a x u l S).t)) none)) none
 or Γ p a b S:=(FQ a S.sh.tree S.gh).bind λl=>(FQ b S.sh.tree S.gh).bind λm=>(Vz m).bind λx=>cond (Ut a b x l S)
  (some (.ref S.sh.n,Iy S (x::l) (pkN prog w Γ p (x::l) S).es (pkN prog w Γ p (x::l) S).ep (pkN prog w Γ p (x::l) S).t)) none
 sub Γ p a b S:=(FQ a S.sh.tree S.gh).bind λl=>(FQ b S.sh.tree S.gh).bind λl'=>cond (R9 a b l l' S)
  (some (.ref S.sh.n,Iy S (Gz l l') (pkN prog w Γ p (Gz l l') S).es (pkN prog w Γ p (Gz l l') S).ep (pkN prog w Γ p (Gz l l') S).t)) none
 inv:=Inv w
theorem BW {a b:Nat}(h:Nat.blt a b=true):a<b:=Nat.le_of_ble_eq_true h
theorem Pf:entryFor table "frozenset.__or__" = some Builtin.«frozenset.__or__»:=entryFor_of_tree (by kernel_rfl)
theorem Nt:entryFor table "frozenset.__sub__" = some Builtin.«frozenset.__sub__»:=entryFor_of_tree (by kernel_rfl)
theorem KS:entryFor table "set.update.loop" = some Builtin.«set.update.loop»:=entryFor_of_tree (by kernel_rfl)
theorem Jy {prog:Program}{w:World}{id:String}{b:Builtin}(hb:entryFor table id=some b)(args:Args):(model prog w).den (.builtin id args)=b args:=by
 have key:∀ (o:Option Builtin) (t:Sem PySem.Fin),o=some b->(match o with | some b=>b args | none=>t)=b args:=by
  intro o t h;subst h;rfl
 exact key (entryFor table id) _ hb
theorem Pg (prog:Program)(w:World)(args:Args):(model prog w).den (.builtin "set.update.loop" args)=Builtin.«set.update.loop» args:=Jy KS args
theorem Jz {w:World}{S:SX}(hi:Inv w S){l es ep t}(Z:SetIs w l es t)(hins:((S.sh.tree.ins S.sh.n default).get S.sh.n).isSome=true):Inv w (Iy S l es ep t):=by
 obtain ⟨⟨T,N,life,gens,drawn,toks,os⟩,gh⟩:=S
 intro b l' h
 have hg:=BT.get_ins (Ap es ep t) T N (Jx hins)
 have h':D5 b ((N,l)::gh)=some l':=h
 rw [CG] at h'
 show b<N+1/\∃ es' ep' t',(T.ins N (Ap es ep t)).get b=some (Ap es' ep' t')/\SetIs w l' es' t'
 rw [hg b]
 dsimp only at h'
 cases q:Nat.beq N b with
 | true=>
  have e:=Nat.eq_of_beq_eq_true q
  subst e
  rw [q] at h'
  cases h'
  exact ⟨Nat.lt_succ_self _,_,_,_,if_pos rfl,Z⟩
 | false=>
  rw [q] at h'
  obtain ⟨h1,h2⟩:=hi b l' h'
  rw [if_neg (Ne.symm (C9 q))]
  exact ⟨Nat.lt_succ_of_lt h1,h2⟩
theorem Ph (prog:Program)(w:World):(TU prog w).Ok (model prog w) where
 up:=by
  intro T N life gens drawn toks os gh a f hi hg b l h
  obtain ⟨h1,es,ep,t,e,Z⟩:=hi b l h
  have ne:b≠a:=by
   rintro rfl
   have:=Nq hg
   have h':D5 b gh=some l:=h
   rw [this] at h';cases h'
  refine ⟨h1,es,ep,t,?_,Z⟩
  show (T.set a f).get b=_
  rw [BT.get_set,if_neg ne]
  exact e
 new:=by
  intro T N life gens drawn toks os gh o hi hs b l h
  obtain ⟨h1,es,ep,t,e,Z⟩:=hi b l h
  refine ⟨Nat.lt_succ_of_lt h1,es,ep,t,?_,Z⟩
  show (T.ins N o).get b=_
  rw [BT.get_ins o T N hs b,if_neg (Nat.ne_of_lt h1)]
  exact e
 rest:=λhi=>hi
 add:=by
  intro a x u S q S' Γ p hi h
  refine Ca h λq1 h1=>Bb h1 λl q2 h2=>OY h2 λq3 h3=>Ca h3 λq4 h4=>EH h4 λa1 a2=>?_
  subst a1 a2
  obtain ⟨k1,k2⟩:=Vy (prog:=prog) (u:=u) (Γ:=Γ) (p:=p) hi (BW q1) q2 q3 (BW q4)
  refine ⟨k1,?_⟩
  obtain ⟨⟨T,N,life,gens,drawn,toks,os⟩,gh⟩:=S
  intro b l' hb
  obtain ⟨es,ep,t,e,_⟩:=Da hi (BW q1) q2
  have hb':D5 b (Jw a (x::l) gh)=some l':=hb
  rw [Pa] at hb'
  by_cases z:b=a
  ·subst z
   rw [if_pos rfl] at hb'
   cases hb'
   refine ⟨BW q1,_,(pkA prog w Γ p b x u l ⟨⟨T,N,life,gens,drawn,toks,os⟩,gh⟩).ep,_,?_,k2⟩
   show (T.set b _).get b=_
   rw [BT.get_set,if_pos rfl,show T.get b=_ from e]
   rfl
  ·rw [if_neg z] at hb'
   obtain ⟨h1,es',ep',t',e',Z⟩:=hi b l' hb'
   refine ⟨h1,es',ep',t',?_,Z⟩
   show (T.set a _).get b=_
   rw [BT.get_set,if_neg z]
   exact e'
 or:=by
  intro a b S v S' Γ p hi hc h
  refine Bb h λl q1 h1=>Bb h1 λm q2 h2=>Bb h2 λx qx h3=>Ca h3 λq3 h4=>EH h4 λa1 a2=>?_
  subst a1 a2
  rw [Sa qx] at q2
  refine Fk q3 λq c8=>Fk q λq c7=>Fk q λq c6=>Fk q λq c5=>Fk q λq c4=>Fk q λq c3=>Fk q λc1 c2=>?_
  obtain ⟨es,ep,t,e,Z⟩:=Da hi (BW c1) q1
  obtain ⟨es',ep',t',e',Z'⟩:=Da hi (BW c2) q2
  have sz:S.sh.abs.heap.objs.size=S.sh.n:=absHeap_size ..
  have K:=TT (prog:=prog) (w:=w) (l:=x::l) (S:=S) (p:=p) hc Pf c8 λA=>Up Z Z' (Db (BW c1) e) (Db (BW c2) e') (C9 (VA c3)) (Ei (VA c4)) (BW c5) c6 (BW c7)
   λes2 ep2 t2 Z2=>⟨es2,ep2,t2,Z2,by rw [sz],rfl⟩
  exact ⟨K.1,Jz hi K.2 c8⟩
 sub:=by
  intro a b S v S' Γ p hi hc h
  refine Bb h λl q1 h1=>Bb h1 λl' q2 h2=>Ca h2 λq3 h3=>EH h3 λa1 a2=>?_
  subst a1 a2
  refine Fk q3 λq c8=>Fk q λq c6=>Fk q λq c5=>Fk q λq c4=>Fk q λq c3=>Fk q λc1 c2=>?_
  obtain ⟨es,ep,t,e,Z⟩:=Da hi (BW c1) q1
  obtain ⟨es',ep',t',e',Z'⟩:=Da hi (BW c2) q2
  have sz:S.sh.abs.heap.objs.size=S.sh.n:=absHeap_size ..
  have K:=TT (prog:=prog) (w:=w) (l:=Gz l l') (S:=S) (p:=p) hc Nt c8 λA=>R8 Z Z' (Db (BW c1) e) (Db (BW c2) e') c3 (BW c4)
   (λz=>by rw [show Nat.blt l.length (l'.length / 8)=true from Nat.ble_eq_true_of_le z] at c5;cases c5) (Nat.le_of_ble_eq_true c6)
   λes2 ep2 t2 Z2=>⟨es2,ep2,t2,Z2,by rw [sz],rfl⟩
  exact ⟨K.1,Jz hi K.2 c8⟩
 loop:=λa it=>Pg prog w _
end Mh
end
section
open PySem PySem.W PySem.Calls PyProof.Rows
open PySem.Sem (wp)
set_option maxRecDepth 10000
namespace Mh
def mo (p:Program)(w:World):Model:=⟨denote treeTable,p,w⟩
theorem Pi (p:Program)(w:World):mo p w=model p w:=by unfold mo;rw [<- table_eq_tree];rfl
def z6:Ctx:=⟨.builtin "claim.caller" {},none,none,[],none⟩
def bt (l:List Obj):BT:=(l.foldl (λ(x:BT × Nat) o=>(x.1.ins x.2 o,x.2+1)) (BT.nil,0)).1
def i5 (w:World)(os:OsState):SX:=⟨⟨bt (boot_heap w.params).objs.toList,11,(boot_heap w.params).life,#[],boot_drawn,boot_toks,os⟩,[]⟩
def Ej (p:Program)(w:World)(os:OsState):Option (Lf × Pos × SX):=
 evW (mo p w) (evC (mo p w) (TU p w) 100000 1000) 100000 z6 default (topStub p).cur (i5 w os)
theorem KU (w:World)(os:OsState):(i5 w os).sh.abs=⟨boot_heap w.params,#[],boot_drawn,boot_toks,os⟩:=by kernel_rfl
def Sb {V:Type}(T:BT):Nat->List Obj->(List Obj->V)->Option V
 | 0,acc,k=>some (k acc)
 | n+1,acc,k=>match T.get n with
  | some ⟨c,d,dt,sl⟩=>Sb T n (⟨c,d,dt,sl⟩::acc) k
  | none=>none
set_option tactic.hygienic true in
theorem Sc {V:Type}(T:BT)(k:List Obj->V)(n:Nat):∀ (acc:List Obj) (a:V),Sb T n acc k=some a->a=k ((range n).map (λi=>(T.get i).getD default)++acc):=by
 induction n with
 | zero=>intro acc a h;cases h;rfl
 | succ n ih=>
  intro acc a h
  unfold Sb at h
  split at h
  ·rename_i c d dt sl e
   have:=ih _ _ h
   rw [this,range_succ,map_append,append_assoc]
   simp [e]
  ·cases h
def Mx:Lf->Bool
 | .fin (.done (.ret .none))=>true
 | _=>false
theorem KV {l:Lf}(h:Mx l=true):l = .fin (.done (.ret .none)):=by
 cases l with
 | fin f=>
  cases f with
  | again=>cases h
  | done f=>
   cases f with
   | ret v=>
    cases v with
    | none=>rfl
    | _=>cases h
   | _=>cases h
 | _=>cases h
def V5 {V:Type}(k:Shared->V)(g:List (Addr × List Str)->Bool):SX->Option V
 | ⟨⟨T,N,life,gens,drawn,toks,os⟩,gh⟩=>cond (g gh) (Sb T N [] λl=>k ⟨⟨⟨l⟩,life⟩,gens,drawn,toks,os⟩) none
def Dn {V:Type}(r:Option (Lf × Pos × SX))(k:Shared->V)(g:List (Addr × List Str)->Bool):Option V:=r.bind λx=>cond (Mx x.1) (V5 k g x.2.2) none
theorem KW {V:Type}{r:Option (Lf × Pos × SX)}{k:Shared->V}{g:List (Addr × List Str)->Bool}{a:V}(h:Dn r k g=some a) :
  ∃ q S,r=some (.fin (.done (.ret .none)),q,S)/\a=k S.sh.abs/\g S.gh=true:=by
 refine Bb h λx e h=>Ca h λe1 h=>?_
 obtain ⟨l,q,S⟩:=x
 obtain ⟨⟨T,N,life,gens,drawn,toks,os⟩,gh⟩:=S
 rw [show l=_ from KV e1] at e
 refine Ca h λe2 h=>⟨q,_,e,?_,e2⟩
 have:=Sc T _ N [] a h
 rw [append_nil] at this
 exact this
def Vq (g:GenState):Bool:=match g with
 | .finished=>true
 | _=>false
theorem Ek {g:GenState}(h:g.forget = .finished):g = .finished:=by cases g <;> first | rfl | cases h
theorem JA {σ s:Shared}(h:σ.forget=s.forget)(hg:∀ g∈s.gens,match g with | .finished=>True | _=>False):σ=s:=by
 obtain ⟨h1,g1,d1,t1,o1⟩:=σ
 obtain ⟨h2,g2,d2,t2,o2⟩:=s
 simp only [Shared.forget,Shared.mk.injEq] at h
 obtain ⟨rfl,hm,rfl,rfl,rfl⟩:=h
 have:g1=g2:=by
  have sz:g1.size=g2.size:=by have:=congrArg Array.size hm;simpa using this
  apply Array.ext sz
  intro i hi1 hi2
  have e:(g1.map GenState.forget)[i]'(by simpa using hi1)=(g2.map GenState.forget)[i]'(by simpa using hi2):=by simp only [hm]
  rw [Array.getElem_map,Array.getElem_map] at e
  have hf:=hg g2[i] (Array.getElem_mem hi2)
  have e2:g2[i] = .finished:=by revert hf;cases g2[i] <;> simp
  rw [e2] at e ⊢
  exact Ek e
 rw [this]
theorem Pj {p:Program}{w:World}{os:OsState}{q:Pos}{S:SX}(h:Ej p w os=some (.fin (.done (.ret .none)),q,S))(hz:(i5 w os).sh.abs.asleep)
  (hg:∀ g∈S.sh.gens,match g with | .finished=>True | _=>False) :
  (∃ n t,schedN (denote table) p w n (.single (i5 w os).sh.abs (topStub p)) = .running (.single S.sh.abs t)/\through t=true)/\Inv w S:=by
 have hi:Inv w (i5 w os):=λa l e=>by cases e
 obtain ⟨L,hI⟩:=O1 (M:=mo p w) (by rw [Pi];exact Ph p w) (λΓ p' S e S' hi h=>Um (by rw [Pi];exact Ph p w) _ _ _ _ _ _ _ hi h) _ _ _ _ _ _ _ _ hi h
 refine ⟨?_,hI⟩
 rw [Pi] at L
 have L':∀ (R:Result->Shared->Prop),R (.ok (.ret .none)) S.sh.abs->wp (model p w) z6 (topStub p).cur (Sem.finPost (model p w) z6 R) (λe U s'=>R (.error e) s') default (i5 w os).sh.abs:=
  λR hR=>L _ _ hR
 obtain ⟨n,r,s',c',p',hn,rfl,rfl⟩:=wp_runN (M:=model p w) (base:=[]) (c:=.builtin "claim.caller" {}) (L' (λr s'=>r = .ok (.ret .none)/\s'=S.sh.abs) ⟨rfl,rfl⟩)
 have hlc:leftWithCleanup S.sh.abs.gens=false:=leftWithCleanup_false_of_bare λx hx=>by
  have:=hg x hx
  revert this
  cases x <;> simp [GenState.bare]
 obtain ⟨N,r2,s2,hN,_⟩:=(wp_iff_halts (M:=model p w) (c:=.builtin "claim.caller" {}) (topStub p).cur (λr s'=>r = .ok (.ret .none)/\s'=S.sh.abs) default (i5 w os).sh.abs).mp
  (L' (λr s'=>(r = .ok (.ret .none)/\s'=S.sh.abs)/\leftWithCleanup s'.gens=false) ⟨⟨rfl,rfl⟩,hlc⟩)
 have hend:(outcomeOf r2).ends=true:=outcomeOf_ends r2
 obtain ⟨s3,hr3,_,hcalm⟩:=runNI_real _ _ _ hN hend
 have hne:∀ k z0,runN (model p w).den (model p w).prog (model p w).w k (i5 w os).sh.abs ⟨(topStub p).cur,.builtin "claim.caller" {},default,[]⟩≠.halted (.unsupported "lifetime:generator-with-cleanup-left-suspended") z0:=by
  intro k z0 hk
  have a:=runN_mono _ _ _ _ k _ _ _ _ hr3
  have b:=runN_mono _ _ _ k N _ _ _ _ hk
  rw [Nat.add_comm,b] at a
  injection a with a1 _
  rw [<- a1] at hend;exact absurd hend (by simp [Outcome.ends])
 obtain ⟨σ,tau,hr,hσ,htau⟩:=runNI_running_real hn
 have hsch:=(schedN_eq_runN _ _ _ _ _ hz ⟨hcalm,hne⟩ n).trans (congrArg Run.lift hr)
 obtain rfl:σ=S.sh.abs:=JA hσ hg
 obtain ⟨cur,code,pos,stack⟩:=tau
 simp only [Thread.forget,Thread.mk.injEq,forgetAll] at htau
 obtain ⟨rfl,rfl,rfl,e5⟩:=htau
 have hst:stack=[]:=by cases stack with | nil=>rfl | cons x xs=>simp at e5
 subst hst
 exact ⟨n,_,hsch,rfl⟩
def TV (h:Heap):List (Option Obj):=(range 11).map λb=>match Nat.beq b 3||Nat.beq b 2 with
 | true=>none
 | false=>h.objs[b]?
abbrev look {V:Type}(p q:Program)(loose:List Str)(w:World)(Yf:Shared->V)(s:Shared):=
 ((staticsOk (importedModules p.main.body) (boot_heap w.params) s.heap&&namesBound p s.heap&&gensDone s&&laidKept (boot_heap w.params) s.heap),
  openSeen q loose (importedModules p.main.body) (λU=>true) false s,TV s.heap,s.heap.life,s.os,Yf s)
abbrev KX {V:Type}(q:Program)(loose:List Str)(w:World)(os:OsState)(Ya:V):=(true,openGood q loose,TV (boot_heap w.params),(boot_heap w.params).life,os,Ya)
theorem KY {P:World->Prop}(r1 r2:String)(h:∀ (b1 b2:Bool) (w:World),P ((w.withFollow r1 b1).withFollow r2 b2)):∀ w,P w:=λw=>by
 have:=h (w.params.followText r1) (w.params.followText r2) w
 rw [World.withFollow_self,World.withFollow_self] at this
 exact this
theorem Nu (P:Params):(boot_heap P).objs.size=11:=by kernel_rfl
def My {V:Type}(p q:Program)(loose:List Str)(Yf:Shared->V)(Ya:World->V)(g:List (Addr × List Str)->Bool)(w:World):Prop:=
 (∃ s,AfterRun (opening p) w s)/\∀ s,AfterRun (opening p) w s->∃ W2,fenceModules? p s=some W2/\W2.gens = #[]/\∃ S:SX,Inv w S/\g S.gh=true/\Yf S.sh.abs=Ya w/\TopRan p w W2 S.sh.abs/\S.sh.abs.asleep/\leftWithCleanup S.sh.abs.gens=false /\
  S.sh.abs.heap.isNs mainGlobals=true/\Ground q loose [] (λU U=>True) w S.sh.abs (S.sh.abs.heap.nsMap mainGlobals) (S.sh.abs.heap.nsMap builtinsNs) S.sh.abs.heap
theorem Uu {V:Type}{p q:Program}{loose:List Str}{Yf:Shared->V}{Ya:World->V}{g:List (Addr × List Str)->Bool}{w:World}(hopen:opening p=plainProg p.main.scope.names)(hf:∀ s,fenceModules? p s=some s)(hch:chainsOk q=true)
  (run:∀ os:OsState,Dn (Ej p w os) (look p q loose w Yf) g=some (KX q loose w os (Ya w))):My p q loose Yf Ya g w:=by
 have hb:=boot_open hopen (N:=600) (by decide) hf w
 rw [<- table_eq_tree] at hb
 obtain ⟨W2,h2,hv⟩:=Option.map_eq_some_iff.mp hb
 obtain ⟨s,h4,h5⟩:=Option.bind_eq_some_iff.mp h2
 have A:=AfterImport.of_importEnds h4
 refine ⟨⟨s,A⟩,λs' hs'=>?_⟩
 obtain rfl:s'=s:=AfterImport.unique hs' A
 have z:W2.asleep:=Shared.asleep_of_life (fence_lifeW h5) A.life
 obtain ⟨h,gs,d,k,os⟩:=W2
 obtain ⟨rfl,rfl,rfl,rfl⟩:h=boot_heap w.params/\gs = #[]/\d=boot_drawn/\k=boot_toks:=by simpa using hv
 rw [<- KU] at z
 obtain ⟨qp,S,hr,hk,hg⟩:=KW (run os)
 simp only [look,KX,Prod.mk.injEq] at hk
 obtain ⟨k1,k2,k3,k4,k5,k6⟩:=hk
 simp only [eq_comm (a:=true),and_eq_true] at k1
 obtain ⟨⟨⟨a1,a2⟩,a3⟩,a4⟩:=k1
 have hfin:=gens_of_done a3
 obtain ⟨⟨n,t,hs,ht⟩,hI⟩:=Pj hr z hfin
 rw [KU] at hs
 have hlc:leftWithCleanup S.sh.abs.gens=false:=leftWithCleanup_false_of_bare λx hx=>by
  have:=hfin x hx
  revert this
  cases x <;> simp [GenState.bare]
 obtain ⟨G,_,g1,g2,g3,g4,g5⟩:=ground_of_open (w:=w) (s:=S.sh.abs) (XP:=λU U=>True) (λU U=>trivial) hch k2.symm
 rw [KU] at z
 refine ⟨⟨boot_heap w.params,#[],boot_drawn,boot_toks,os⟩,h5,rfl,S,hI,hg,k6.symm,⟨⟨n,t,hs,ht⟩,k4.symm,Shared.rest_eq k5.symm,λb o hb hn=>?_,g2,statics_of_ok a1,g3,g4,g5,hfin,names_of_bound a2,laid_of_kept a4⟩,Shared.asleep_of_life k4.symm z,hlc,g1,G⟩
 have lt:b<11:=by have:=lt_size hb;rw [Nu] at this;exact this
 have e:=List.map_inj_left.mp k3 b (mem_range.mpr lt)
 have n3:b≠3:=λq=>hn (.inl q)
 have n2:b≠2:=λq=>hn (.inr (.inl q))
 have bb:(Nat.beq b 3||Nat.beq b 2)=false:=by
  rw [BT.beq_eq,BT.beq_eq];simp [n3,n2]
 simp only [bb] at e
 unfold Heap.get? at hb ⊢
 rw [<- e]
 exact hb
end Mh
end
section
open PySem PySem.W PyProof.Rows
set_option maxRecDepth 10000
namespace Mi
abbrev Txt:=List Nat
set_option genCtorIdx true in
inductive PV where
 | none
 | bool (b:Bool)
 | int (i:Int)
 | str (s:Txt)
 | tup (l:List PV)
 | lst (i:Nat)
 | ints (l:List Int)
 | rng (a b c:Int)
 | dct (ks vs:List PV)
 | fn (k:Nat)
 | fset (k:Nat)
 | mp
 deriving Inhabited
set_option genCtorIdx true in
inductive PX where
 | std (n:String)
 | toml (m:Txt)
 deriving Inhabited,DecidableEq
structure PS where
 loc:Nat->Option PV
 st:List (List PV)
set_option genCtorIdx true in
inductive R (V:Type) where
 | ok (a:V) (s:PS)
 | ex (e:PX) (s:PS)
 | stuck
abbrev M (V:Type):=PS->R V
def ae {V:Type}(a:V):M V:=λs=>.ok a s
def ac {V β:Type}(m:M V)(f:V->M β):M β:=λs=>match m s with
 | .ok a s'=>f a s'
 | .ex e s'=>.ex e s'
 | .stuck=>.stuck
def aq {V:Type}:M V:=λU=>.stuck
def aK {V:Type}(e:PX):M V:=λs=>.ex e s
def aI {V:Type}(hd:Bool)(n:String):M V:=λs=>if hd then .stuck else .ex (.std n) s
def af (i:Nat):M PV:=λs=>match s.loc i with
 | some v=>.ok v s
 | none=>.stuck
def ah (i:Nat)(v:PV):M Unit:=λs=>.ok () { s with loc:=λj=>if j=i then some v else s.loc j }
def aw {V:Type}(o:Option V):M V:=λs=>match o with
 | some a=>.ok a s
 | none=>.stuck
def am {V:Type}(c:Bool)(m:M V):M V:=λs=>if c then m s else .stuck
def txt (s:Txt):Str:=⟨s.toArray⟩
def ctl (c:Nat):Bool:=(c<32||c==127)
def hexd (c:Nat):Bool:=(48<=c&&c<=57)||(97<=c&&c<=102)||(65<=c&&c<=70)
def AQ:Nat->Nat->Bool
 | 0,c=>ctl c&&c != 9
 | 1,c=>ctl c&&c != 9&&c != 10
 | 2,c=>c==32||c==9
 | 3,c=>c==32||c==9||c==10
 | 4,c=>hexd c
 | _,c=>(48<=c&&c<=57)||(97<=c&&c<=122)||(65<=c&&c<=90)||c==45||c==95
def JB (k:Nat):Txt->Bool
 | [c]=>AQ k c
 | _=>false
def Fl (k:Nat)(x:Str):Bool:=JB k x.cps.toList
def DV:List (Txt × Txt):=[([92,98],[8]),([92,116],[9]),([92,110],[10]),([92,102],[12]),([92,114],[13]),([92,34],[34]),([92,92],[92])]
def escT (x:Txt):Option Txt:=DV.lookup x
structure Hd where
 prog:Program
 w:World
 mg:Str->Option Value
 mb:Str->Option Value
 fnv:Nat->Addr
 setv:Nat->Option Addr
 mpv:Addr
 toml:Addr
 tabPos:Pos
 tabQ:Str
 tabP:Addr
def Bk:List Str:=["len", "chr", "ord", "abs", "str", "int", "list", "range", "sum", "min", "max", "IndexError", "ValueError", "KeyError"]
def Nv:List Value:=[.type "ValueError",.type "Exception",.type "BaseException",.type "object"]
structure ClsAt (C:Addr)(h:Heap):Prop where
 at_:∃ nm q N bs hdct sn sub ab col dd k0 k1 k2 k3 k5 mN,h.get? C=some (excClassObj nm q C N bs Nv hdct sn sub ab col dd k0 k1 k2 k3 k5 "ValueError.__new__")/\h.Ns N mN /\
  ∀ x∈(["__init__", "__getattribute__", "__getattr__", "args", "__str__", "__repr__", "__new__"]:List Str),mN x=none
theorem ClsAt.keeps {C:Addr}{h h':Heap}(x:ClsAt C h)(k:∀ b o,h.get? b=some o->h'.get? b=some o):ClsAt C h':=by
 obtain ⟨nm,q,N,bs,hdct,sn,sub,ab,col,dd,k0,k1,k2,k3,k5,mN,h1,h2,h3⟩:=x.at_
 exact ⟨nm,q,N,bs,hdct,sn,sub,ab,col,dd,k0,k1,k2,k3,k5,mN,k _ _ h1,h2.keeps k,h3⟩
structure Hd.At (H:Hd)(h:Heap):Prop where
 g:h.Ns mainGlobals H.mg
 b:h.Ns builtinsNs H.mb
 lim:h.NoLimit
 sysm:(h.get? sysModules).isSome=true
 bu:∀ x:Str,x≠"__name__"->H.mb x=bootBuiltins x
 free:∀ x∈Bk,H.mg x=none
 toml:H.mg "TOMLDecodeError" = some (.ref H.toml)
 tomlC:ClsAt H.toml h
 bmain:∃ bm ob,H.mg "__builtins__" = some (.ref bm)/\bm≠builtinsNs/\h.get? bm=some ob/\ob.cls = .type "module"/\ob.dict=some builtinsNs/\ob.data = .plain
 sets:∀ k a,H.setv k=some a->∃ n,FrozAt (strKind H.prog H.w) h a (Fl k) n/\n<4096
 mp:∃ o d f,h.get? H.mpv=some o/\o.cls = .type "mappingproxy"/\o.data = .fields #[.ref d]/\(d==sysModules)=false/\h.MapOf (strKind H.prog H.w) d f /\
  ∀ x:Txt,(escT x=none->f (txt x)=none)/\∀ t,escT x=some t->∃ tk,f (txt x)=some (.str (txt t) tk)
mutual
inductive RepV (H:Hd)(h₀:Heap)(av V:List Addr)(h:Heap):PV->Value->Prop
 | none:RepV H h₀ av V h .none .none
 | bool (b:Bool):RepV H h₀ av V h (.bool b) (.bool b)
 | int (i:Int) (t:Tok):RepV H h₀ av V h (.int i) (.int i t)
 | str (s:Txt) (t:Tok):RepV H h₀ av V h (.str s) (.str (txt s) t)
 | tup {l:List PV} {a:Addr} {vs:List Value} (ha:a∉av) (hi:IsTup h a vs.toArray) (r:RepL H h₀ av V h l vs):RepV H h₀ av V h (.tup l) (.ref a)
 | lst {i:Nat} {a:Addr} (hi:V[i]? = some a):RepV H h₀ av V h (.lst i) (.ref a)
 | ints {l:List Int} {a:Addr} {vs:Array Value} (hi:h₀.IsList a vs) (hv:IntsAre vs.toList l):RepV H h₀ av V h (.ints l) (.ref a)
 | fn (k:Nat):RepV H h₀ av V h (.fn k) (.ref (H.fnv k))
 | fset (k:Nat) {a:Addr} (e:H.setv k=some a):RepV H h₀ av V h (.fset k) (.ref a)
 | mp:RepV H h₀ av V h .mp (.ref H.mpv)
 | dct {ks vs:List PV} {a:Addr} {o:Obj} {es:Array DictEntry} {ep:Nat} (ha:a∉av/\(a==sysModules)=false) (ho:h.get? a=some o) (hx:o.ExactDict) (hd:o.data = .dict es ep) (hk:KeysOf (strKind H.prog H.w) es\/KeysOf (intKind H.prog H.w) es)
   (rk:RepL H h₀ av V h ks (es.toList.map (·.key))) (rv:RepL H h₀ av V h vs (es.toList.map (·.val))):RepV H h₀ av V h (.dct ks vs) (.ref a)
inductive RepL (H:Hd)(h₀:Heap)(av V:List Addr)(h:Heap):List PV->List Value->Prop
 | nil:RepL H h₀ av V h [] []
 | cons {p:PV} {v:Value} {l:List PV} {vs:List Value} (r:RepV H h₀ av V h p v) (rs:RepL H h₀ av V h l vs):RepL H h₀ av V h (p::l) (v::vs)
end
section
variable {H:Hd}{h₀:Heap}{av V:List Addr}{h:Heap}
theorem RepL.ind {P:List PV->List Value->Prop}(h0:P [] [])(h1:∀ p v l vs,RepV H h₀ av V h p v->RepL H h₀ av V h l vs->P l vs->P (p::l) (v::vs)){l:List PV}{vs:List Value}(r:RepL H h₀ av V h l vs):P l vs:=
 RepL.rec (motive_1:=λU U U=>True) (motive_2:=λl vs U=>P l vs) trivial (λU=>trivial) (λU U=>trivial) (λU U=>trivial) (λU U U U=>trivial) (λU=>trivial) (λU U=>trivial) (λU=>trivial) (λU U U=>trivial) trivial
  (λU U U U U U U U U=>trivial) h0 (λr rs U ih=>h1 _ _ _ _ r rs ih) r
theorem RepL.length {l:List PV}{vs:List Value}(r:RepL H h₀ av V h l vs):l.length=vs.length:=
 r.ind (P:=λl vs=>l.length=vs.length) rfl λU U U U U U ih=>congrArg (·+1) ih
theorem RepL.get {l:List PV}{vs:List Value}(r:RepL H h₀ av V h l vs):∀ (i:Nat) p,l[i]? = some p->∃ v,vs[i]? = some v/\RepV H h₀ av V h p v:=
 r.ind (P:=λl vs=>∀ (i:Nat) p,l[i]? = some p->∃ v,vs[i]? = some v/\RepV H h₀ av V h p v) (λi p e=>nomatch (show none=some p from e)) λq w U U r' U ih i=>Nat.casesOn (motive:=λi=>∀ p,(q::_)[i]? = some p->∃ v,(w::_)[i]? = some v/\RepV H h₀ av V h p v) i (λp e=>⟨w,rfl,aT e▸r'⟩) λj p e=>ih j p e
theorem RepL.append {l:List PV}{vs:List Value}{l':List PV}{vs':List Value}(r:RepL H h₀ av V h l vs)(r':RepL H h₀ av V h l' vs'):RepL H h₀ av V h (l++l') (vs++vs'):=
 r.ind (P:=λl vs=>RepL H h₀ av V h (l++l') (vs++vs')) r' λU U U U q U ih=>.cons q ih
def Uv (H:Hd)(h₀:Heap)(av V:List Addr)(h:Heap):PV->Value->Prop
 | .none,v=>v = .none
 | .bool b,v=>v = .bool b
 | .int i,v=>∃ t,v = .int i t
 | .str s,v=>∃ t,v = .str (txt s) t
 | .tup l,v=>∃ a vs,v = .ref a/\a∉av/\IsTup h a vs.toArray/\RepL H h₀ av V h l vs
 | .lst i,v=>∃ a,v = .ref a/\V[i]? = some a
 | .ints l,v=>∃ a vs,v = .ref a/\h₀.IsList a vs/\IntsAre vs.toList l
 | .fn k,v=>v = .ref (H.fnv k)
 | .fset k,v=>∃ a,v = .ref a/\H.setv k=some a
 | .mp,v=>v = .ref H.mpv
 | .dct ks vs,v=>∃ a o es ep,v = .ref a/\(a∉av/\(a==sysModules)=false)/\h.get? a=some o/\o.ExactDict/\o.data = .dict es ep/\(KeysOf (strKind H.prog H.w) es\/KeysOf (intKind H.prog H.w) es)/\RepL H h₀ av V h ks (es.toList.map (·.key))/\RepL H h₀ av V h vs (es.toList.map (·.val))
 | .rng _ _ _,_=>False
theorem RepV.inv {p:PV}{v:Value}(r:RepV H h₀ av V h p v):Uv H h₀ av V h p v:=by
 cases r
 ·exact rfl
 ·exact rfl
 ·exact ⟨_,rfl⟩
 ·exact ⟨_,rfl⟩
 ·exact ⟨_,_,rfl,‹_›,‹_›,‹_›⟩
 ·exact ⟨_,rfl,‹_›⟩
 ·exact ⟨_,_,rfl,‹_›,‹_›⟩
 ·exact rfl
 ·exact ⟨_,rfl,‹_›⟩
 ·exact rfl
 ·exact ⟨_,_,_,_,rfl,‹_›,‹_›,‹_›,‹_›,‹_›,‹_›,‹_›⟩
def Mz (H:Hd)(h₀:Heap)(av V:List Addr)(h:Heap):List PV->List Value->Prop
 | [],vs=>vs=[]
 | p::l,vs=>∃ v ws,vs=v::ws/\RepV H h₀ av V h p v/\RepL H h₀ av V h l ws
theorem RepL.inv {l:List PV}{vs:List Value}(r:RepL H h₀ av V h l vs):Mz H h₀ av V h l vs:=
 r.ind (P:=Mz H h₀ av V h) rfl λU U U U q qs U=>⟨_,_,rfl,q,qs⟩
theorem DW {av' α':List Addr}{h':Heap}(ft:∀ a vs,a∉av->IsTup h a vs->a∉av'/\IsTup h' a vs)(fl:∀ (i:Nat) a,V[i]? = some a->α'[i]? = some a)(fd:∀ a o es ep,a∉av->h.get? a=some o->o.ExactDict->o.data = .dict es ep->a∉av'/\h'.get? a=some o) :
  (∀ {p:PV} {v:Value},RepV H h₀ av V h p v->RepV H h₀ av' α' h' p v)/\∀ {l:List PV} {vs:List Value},RepL H h₀ av V h l vs->RepL H h₀ av' α' h' l vs:=by
 have m1:∀ (l:List PV) (a:Addr) (vs:List Value),a∉av->IsTup h a vs.toArray->RepL H h₀ av' α' h' l vs->RepV H h₀ av' α' h' (.tup l) (.ref a):=λl a vs ha hi r=>.tup (ft a _ ha hi).1 (ft a _ ha hi).2 r
 have m2:∀ (ks vs:List PV) (a:Addr) (o:Obj) (es:Array DictEntry) (ep:Nat),(a∉av/\(a==sysModules)=false)->h.get? a=some o->o.ExactDict->o.data = .dict es ep->(KeysOf (strKind H.prog H.w) es\/KeysOf (intKind H.prog H.w) es)->RepL H h₀ av' α' h' ks (es.toList.map (·.key))->RepL H h₀ av' α' h' vs (es.toList.map (·.val))->RepV H h₀ av' α' h' (.dct ks vs) (.ref a):=
  λks vs a o es ep ha ho hx hd hk rk rv=>.dct ⟨(fd a o es ep ha.1 ho hx hd).1,ha.2⟩ (fd a o es ep ha.1 ho hx hd).2 hx hd hk rk rv
 exact ⟨λr=>RepV.rec (motive_1:=λp v U=>RepV H h₀ av' α' h' p v) (motive_2:=λl vs U=>RepL H h₀ av' α' h' l vs) .none .bool .int .str (λha hi U ih=>m1 _ _ _ ha hi ih) (λhi=>.lst (fl _ _ hi)) (λhi hv=>.ints hi hv) .fn (λk U e=>.fset k e) .mp (λha ho hx hd hk U U rk rv=>m2 _ _ _ _ _ _ ha ho hx hd hk rk rv) .nil (λU U a b=>.cons a b) r,
  λr=>RepL.rec (motive_1:=λp v U=>RepV H h₀ av' α' h' p v) (motive_2:=λl vs U=>RepL H h₀ av' α' h' l vs) .none .bool .int .str (λha hi U ih=>m1 _ _ _ ha hi ih) (λhi=>.lst (fl _ _ hi)) (λhi hv=>.ints hi hv) .fn (λk U e=>.fset k e) .mp (λha ho hx hd hk U U rk rv=>m2 _ _ _ _ _ _ ha ho hx hd hk rk rv) .nil (λU U a b=>.cons a b) r⟩
end
structure Fm where
 env:Env
 stk:List Env
 av:List Addr
 own0:List Addr
 tab:List Addr
 sc:List (Str × NameKind × Nat)
 hdl:Option Value
def Fm.own (fm:Fm):List Addr:=fm.tab++fm.own0
def Cr (H:Hd)(h:Heap)(P:Addr):Prop:=
 ∃ ps,h.get? P=some { cls:=.none,data:=.fields ps }/\(ps = #[]\/∃ c oc vs t,ps = #[rawInt H.tabPos.line,rawInt H.tabPos.col,.ref c]/\h.get? c=some oc/\oc.cls = .type "code"/\oc.data = .fields vs/\vs[1]? = some (.str H.tabQ t))
theorem Cr.keeps {H:Hd}{h h':Heap}{P:Addr}(x:Cr H h P)(k:∀ b o,h.get? b=some o->h'.get? b=some o):Cr H h' P:=by
 obtain ⟨ps,e,q⟩:=x
 refine ⟨ps,k _ _ e,?_⟩
 rcases q with q | ⟨c,oc,vs,t,q1,q2,q3⟩
 ·exact .inl q
 ·exact .inr ⟨c,oc,vs,t,q1,k _ _ q2,q3⟩
theorem Cr.same {H:Hd}{h h':Heap}{P a:Addr}(x:Cr H h P)(S:Heap.SameBut a h h')(n:∀ o vs,h.get? a=some o->o.data≠.fields vs):Cr H h' P:=by
 obtain ⟨ps,e,q⟩:=x
 refine ⟨ps,(S.2 P λz=>n _ ps (z▸e) rfl).trans e,?_⟩
 rcases q with q | ⟨c,oc,vs,t,q1,q2,q3,q4,q5⟩
 ·exact .inl q
 ·exact .inr ⟨c,oc,vs,t,q1,(S.2 c λz=>n oc vs (z▸q2) q4).trans q2,q3,q4,q5⟩
def frs (stk:List Env):List Addr:=stk.filterMap (·.frame)
structure Rel (stk:List Env)(own V:List Addr)(h h':Heap):Prop where
 keep:∀ b o,h.get? b=some o->b∉frs stk->b∉own->b∉V->h'.get? b=some o
 slot:∀ b o,h.get? b=some o->b∈frs stk->b∉own->b∉V->∃ sl,h'.get? b=some { o with slots:=sl }
 live:∀ b,h'.get? b=none->h.get? b=none
theorem Rel.refl (stk:List Env)(own V:List Addr)(h:Heap):Rel stk own V h h:=⟨λU U e U U U=>e,λU o e U U U=>⟨o.slots,e⟩,λU e=>e⟩
theorem Rel.of_keeps {stk:List Env}{own V:List Addr}{h h':Heap}(k:∀ b o,h.get? b=some o->h'.get? b=some o):Rel stk own V h h':=
 ⟨λb o e U U U=>k b o e,λb o e U U U=>⟨o.slots,k b o e⟩,λb e=>by
  cases q:h.get? b with
  | none=>rfl
  | some o=>rw [k b o q] at e;cases e⟩
theorem Rel.mono {stk:List Env}{own own' V:List Addr}{h h':Heap}(x:Rel stk own V h h')(k:∀ b∈own,b∈own'):Rel stk own' V h h':=
 ⟨λb o e h1 h2 h3=>x.keep b o e h1 (λq=>h2 (k b q)) h3,λb o e h1 h2 h3=>x.slot b o e h1 (λq=>h2 (k b q)) h3,x.live⟩
theorem Rel.trans {stk:List Env}{own V α':List Addr}{h₁ w2 v3:Heap}(x:Rel stk own V h₁ w2)(y:Rel stk own α' w2 v3)(n:∀ a∈α',a∉V->h₁.get? a=none):Rel stk own V h₁ v3:=by
 have q:∀ b o,h₁.get? b=some o->b∉V->b∉α':=λb o e h1 h2=>by rw [n b h2 h1] at e;cases e
 refine ⟨λb o e h1 h2 h3=>y.keep b o (x.keep b o e h1 h2 h3) h1 h2 (q b o e h3),λb o e h1 h2 h3=>?_,λb e=>x.live b (y.live b e)⟩
 obtain ⟨sl,W1⟩:=x.slot b o e h1 h2 h3
 obtain ⟨sl',Y3⟩:=y.slot b _ W1 h1 h2 (q b o e h3)
 exact ⟨sl',Y3⟩
structure Grow (V α':List Addr)(h:Heap):Prop where
 pre:V <+: α'
 new:∀ a∈α',a∉V->h.get? a=none
theorem Grow.refl (V:List Addr)(h:Heap):Grow V V h:=⟨prefix_refl _,λa h1 h2=>absurd h1 h2⟩
theorem Grow.trans {V α' α'':List Addr}{h h':Heap}{stk:List Env}{own:List Addr}(x:Grow V α' h)(y:Grow α' α'' h')(r:Rel stk own V h h'):Grow V α'' h:=
 ⟨x.pre.trans y.pre,λa h1 h2=>by
  by_cases q:a∈α'
  ·exact x.new a q h2
  ·exact r.live a (y.new a h1 q)⟩
inductive OptRep (H:Hd)(h₀:Heap)(av V:List Addr)(h:Heap):Option PV->Option Value->Prop
 | none:OptRep H h₀ av V h none none
 | some {p:PV} {v:Value} (r:RepV H h₀ av V h p v):OptRep H h₀ av V h (some p) (some v)
structure ListsAt (H:Hd)(h₀:Heap)(av V:List Addr)(st:List (List PV))(h:Heap):Prop where
 len:V.length=st.length
 at_:∀ (i:Nat) (l:List PV),st[i]? = some l->∃ a vs,V[i]? = some a/\h.PlainList a vs.toArray/\RepL H h₀ av V h l vs
 nodup:V.Nodup
 fresh:∀ a∈V,h₀.get? a=none
 apart:∀ a∈V,a∉av
structure Inv (H:Hd)(h₀:Heap)(fm:Fm)(V:List Addr)(ps:PS)(h:Heap):Prop where
 base:∀ b o,h₀.get? b=some o->h.get? b=some o
 loc:∃ m,h.Ns fm.env.locals m/\∀ x i,(x,NameKind.local,i)∈fm.sc->OptRep H h₀ fm.av V h (ps.loc i) (m x)
 cel:∀ x k i,(x,k,i)∈fm.sc->(k = .cell\/k = .free)->∃ c v,fm.env.cells.lookup x=some c/\c∈fm.av/\c≠fm.env.locals/\h.IsCell c v/\OptRep H h₀ fm.av V h (ps.loc i) v
 lists:ListsAt H h₀ fm.av V ps.st h
 live:∀ a∈fm.av,(h.get? a).isSome=true
 frames:h.FunFrames ⟨#[],{}⟩ fm.stk
 tabs:∀ P∈fm.tab,Cr H h P
structure FmOk (h₀:Heap)(fm:Fm):Prop where
 kind:fm.env.scope.kind = .function
 glob:fm.env.globals=mainGlobals
 bi:fm.env.builtins=builtinsNs
 locAv:fm.env.locals∈fm.av
 locOwn:fm.env.locals∈fm.own
 ownAv:∀ a∈fm.own,a∈fm.av
 frsAv:∀ a∈frs fm.stk,a∈fm.av
 fresh:∀ a∈fm.av,h₀.get? a=none
 kinds:∀ x k i,(x,k,i)∈fm.sc->fm.env.kindOf x=some k\/(k = .free/\fm.env.kindOf x=some .cell)
 once:∀ x k i y k' j,(x,k,i)∈fm.sc->(y,k',j)∈fm.sc->(i=j↔x=y)
 cellOwn:∀ x i c,(x,NameKind.cell,i)∈fm.sc->fm.env.cells.lookup x=some c->c∈fm.own
 cellApart:∀ x k i y k' j c,(x,k,i)∈fm.sc->(y,k',j)∈fm.sc->fm.env.cells.lookup x=some c->fm.env.cells.lookup y=some c->x=y
 frame:∃ e r,fm.stk=e::r/\e.frame=fm.env.frame/\fm.env.frame.isSome=true
theorem FmOk.tabAv {h₀:Heap}{fm:Fm}(F:FmOk h₀ fm):∀ b∈fm.tab,b∈fm.av:=λb m=>F.ownAv b (mem_append_left _ m)
theorem FmOk.kindX {h₀:Heap}{fm:Fm}(F:FmOk h₀ fm){x:Str}{k:NameKind}{i:Nat}(h:(x,k,i)∈fm.sc)(n:k≠.free):fm.env.kindOf x=some k:=by
 rcases F.kinds x k i h with q | q
 ·exact q
 ·exact absurd q.1 n
theorem Fn {h:Heap}{a:Addr}{vs ws:Array Value}(x:IsTup h a vs)(y:h.IsList a ws):False:=by
 obtain ⟨o,h1,h2,_⟩:=x
 obtain ⟨o',h1',h2',_⟩:=y
 rw [h1] at h1';cases h1'
 rw [h2] at h2';exact absurd h2' (by decide)
section
variable {H:Hd}{h₀ h h':Heap}{fm:Fm}{V α':List Addr}{own:List Addr}
theorem ListsAt.isList {av:List Addr}{st:List (List PV)}(x:ListsAt H h₀ av V st h){a:Addr}(m:a∈V):∃ vs,h.IsList a vs:=by
 obtain ⟨i,hi,e⟩:=List.getElem_of_mem m
 obtain ⟨a',vs,h1,h2,_⟩:=x.at_ i _ (getElem?_eq_getElem (x.len▸hi))
 rw [getElem?_eq_getElem hi,e] at h1
 cases h1
 exact ⟨_,h2.isList⟩
theorem HP {av:List Addr}{st:List (List PV)}{stk:List Env}(L:ListsAt H h₀ av V st h)(r:Rel stk own V h h')(g:V <+: α')(hf:∀ b∈frs stk,b∈av)(ho':∀ b∈own,b∈av) :
  (∀ {p:PV} {v:Value},RepV H h₀ av V h p v->RepV H h₀ av α' h' p v)/\∀ {l:List PV} {vs:List Value},RepL H h₀ av V h l vs->RepL H h₀ av α' h' l vs:=by
 refine DW (λa vs ha hi=>⟨ha,?_⟩) (λi a hi=>?_) λa o es ep ha ho hx hd=>⟨ha,r.keep _ _ ho (λq=>ha (hf _ q)) (λq=>ha (ho' _ q)) λq=>?_⟩
 ·obtain ⟨o,e1,e2,e3⟩:=hi
  refine ⟨o,r.keep _ _ e1 (λq=>ha (hf _ q)) (λq=>ha (ho' _ q)) (λq=>?_),e2,e3⟩
  obtain ⟨ws,hl⟩:=L.isList q
  exact Fn ⟨o,e1,e2,e3⟩ hl
 ·obtain ⟨t,rfl⟩:=g
  rw [getElem?_append_left (List.getElem?_eq_some_iff.mp hi).1];exact hi
 ·obtain ⟨ws,o',e1,e2,_⟩:=L.isList q
  rw [ho] at e1;cases e1
  rw [hx.1] at e2;exact absurd e2 (by decide)
theorem RepV.stays {av:List Addr}{st:List (List PV)}{stk:List Env}(L:ListsAt H h₀ av V st h)(r:Rel stk own V h h')(g:V <+: α')(hf:∀ b∈frs stk,b∈av)(ho':∀ b∈own,b∈av){p:PV}{v:Value}(x:RepV H h₀ av V h p v):RepV H h₀ av α' h' p v:=(HP L r g hf ho').1 x
theorem RepL.stays {av:List Addr}{st:List (List PV)}{stk:List Env}(L:ListsAt H h₀ av V st h)(r:Rel stk own V h h')(g:V <+: α')(hf:∀ b∈frs stk,b∈av)(ho':∀ b∈own,b∈av){l:List PV}{vs:List Value}(x:RepL H h₀ av V h l vs):RepL H h₀ av α' h' l vs:=(HP L r g hf ho').2 x
theorem OptRep.map {av av' V α':List Addr}{h h':Heap}(f:∀ {p v},RepV H h₀ av V h p v->RepV H h₀ av' α' h' p v){p:Option PV}{v:Option Value}(r:OptRep H h₀ av V h p v):OptRep H h₀ av' α' h' p v:=by
 cases r with
 | none=>exact .none
 | some q=>exact .some (f q)
theorem OptRep.stays {av:List Addr}{st:List (List PV)}{stk:List Env}(L:ListsAt H h₀ av V st h)(r:Rel stk own V h h')(g:V <+: α')(hf:∀ b∈frs stk,b∈av)(ho:∀ b∈own,b∈av)
  {p:Option PV} {v:Option Value} (x:OptRep H h₀ av V h p v):OptRep H h₀ av α' h' p v:=x.map λq=>q.stays L r g hf ho
end
end Mi
end
set_option backward.match.sparseCases false
section
open PySem PySem.W PyProof.Rows
namespace Mi
set_option genCtorIdx true in
inductive PFlow where
 | next | brk | cont
 | ret (v:PV)
 deriving Inhabited
def big:Nat:=16777216
def ao (l:List PV):M PV:=λs=>if l.length<=big then .ok (.lst s.st.length) { s with st:=s.st++[l] } else .stuck
def ar (i:Nat):M (List PV):=λs=>match s.st[i]? with
 | some l=>.ok l s
 | none=>.stuck
def au (t:Txt):M PV:=λs=>if t.length<=big then .ok (.str t) s else .stuck
def ag:List (M PV)->M (List PV)
 | []=>ae []
 | m::r=>ac m λv=>ac (ag r) λvs=>ae (v::vs)
def idx (i:Int)(n:Nat):Option Nat:=
 if 0<=i then (if i.toNat<n then some i.toNat else none) else if 0<=i+n then some (i+n).toNat else none
def bnd (i:Int)(n:Nat):Nat:=if 0<=i then min i.toNat n else (i+n).toNat
def slc {V:Type}(l:List V)(a b:Option Int):List V:=
 let lo:=match a with | some i=>bnd i l.length | none=>0
 let hi:=match b with | some i=>bnd i l.length | none=>l.length
 (l.take hi).drop lo
def Ag (i:Int):Bool:=i.natAbs<1073741824
def asI:PV->Option Int
 | .int i=>some i
 | _=>none
def asS:PV->Option Txt
 | .str s=>some s
 | _=>none
def asL:PV->Option Nat
 | .lst i=>some i
 | _=>none
theorem AR {p:PV}{i:Int}(h:asI p=some i):p = .int i:=by cases p <;> first | (injection h;done) | (injection h with h;rw [h])
theorem A8 {p:PV}{i:Txt}(h:asS p=some i):p = .str i:=by cases p <;> first | (injection h;done) | (injection h with h;rw [h])
theorem KZ {p:PV}{i:Nat}(h:asL p=some i):p = .lst i:=by cases p <;> first | (injection h;done) | (injection h with h;rw [h])
def ap {V β:Type}:Option V->(V->M β)->M β
 | some a,f=>f a
 | none,_=>aq
theorem A2 {V β:Type}{o:Option V}{f:V->M β}{ps:PS}(ns:ap o f ps≠.stuck):∃ a,o=some a:=by
 cases o with
 | none=>exact absurd rfl ns
 | some a=>exact ⟨a,rfl⟩
theorem Pl {V β:Type}{o:Option V}{f:V->M β}{ps ps':PS}{r:β}(e:ap o f ps = .ok r ps'):∃ a,o=some a:=A2 λq=>by rw [q] at e;injection e
def un {β:Type}:List PV->(PV->List PV->Option β)->Option β
 | [],_=>none
 | p::r,f=>f p r
theorem EK {β:Type}{l:List PV}{f:PV->List PV->Option β}{b:β}(h:un l f=some b):∃ p r,l=p::r/\f p r=some b:=by
 cases l with
 | nil=>injection h
 | cons p r=>exact ⟨p,r,rfl,h⟩
def aH {β:Type}(l:List PV)(f:PV->M β):M β:=match l with
 | []=>aq
 | p::r=>match r with
  | []=>f p
  | _::_=>aq
theorem Iz {β:Type}{l:List PV}{f:PV->M β}{ps:PS}(ns:aH l f ps≠.stuck):∃ p,l=[p]:=by
 cases l with
 | nil=>exact absurd rfl ns
 | cons p r=>
  cases r with
  | nil=>exact ⟨p,rfl⟩
  | cons=>exact absurd rfl ns
def one:Txt->Option Nat
 | []=>none
 | c::r=>cond r.isEmpty (some c) none
theorem Fo {β γ:Type}{r:List β}{x y:γ}(h:cond r.isEmpty (some x) none=some y):r=[]/\x=y:=by
 cases r with
 | nil=>exact ⟨rfl,aT h⟩
 | cons=>injection h
theorem EL {x:Txt}{c:Nat}(h:one x=some c):x=[c]:=by
 cases x with
 | nil=>injection h
 | cons d r=>obtain ⟨e1,e2⟩:=Fo h;rw [e1,e2]
def BO (f:Int->Int->M PV)(a b:PV):M PV:=ap (asI a) λi=>ap (asI b) (f i)
theorem MA {V β γ:Type}{o:Option V}{q:Option β}{f:V->β->M γ}{ps:PS}(ns:ap o (λi=>ap q (f i)) ps≠.stuck):∃ i j,o=some i/\q=some j:=by
 obtain ⟨i,e⟩:=A2 ns
 rw [e] at ns
 obtain ⟨j,e'⟩:=A2 (o:=q) (f:=f i) ns
 exact ⟨i,j,e,e'⟩
theorem BP {f:Int->Int->M PV}{a b:PV}{ps:PS}(ns:BO f a b ps≠.stuck):∃ i j,a = .int i/\b = .int j:=by
 obtain ⟨i,j,e,e'⟩:=MA ns
 exact ⟨i,j,AR e,AR e'⟩
def aL {V β:Type}(o:Option V)(f:V->M β)(g:M β):M β:=match o with
 | some a=>f a
 | none=>g
def Sd (a b:PV):M PV:=aL (asI a) (λi=>ap (asI b) λj=>ae (.int (i+j))) <| aL (asS a) (λs=>ap (asS b) λt=>au (s++t)) <| ap (asL a) λi=>ap (asL b) λj=>ac (ar i) λx=>ac (ar j) λy=>ao (x++y)
theorem IA {V β γ δ α' β' γ':Type}{o:Option V}{q:Option β}{r:Option γ}{o':Option α'}{q':Option β'}{r':Option γ'}{f:V->α'->M δ}{g:β->β'->M δ}{k:γ->γ'->M δ}{ps:PS}
  (ns:aL o (λi=>ap o' (f i)) (aL q (λi=>ap q' (g i)) (ap r λi=>ap r' (k i))) ps≠.stuck):(∃ i j,o=some i/\o'=some j)\/(∃ i j,q=some i/\q'=some j)\/∃ i j,r=some i/\r'=some j:=by
 cases o with
 | some i=>obtain ⟨j,e⟩:=A2 (f:=f i) ns;exact .inl ⟨i,j,rfl,e⟩
 | none=>
  cases q with
  | some i=>obtain ⟨j,e⟩:=A2 (f:=g i) ns;exact .inr (.inl ⟨i,j,rfl,e⟩)
  | none=>exact .inr (.inr (MA ns))
theorem Se {a b:PV}{ps:PS}(ns:Sd a b ps≠.stuck):(∃ i j,a = .int i/\b = .int j)\/(∃ i j,a = .str i/\b = .str j)\/∃ i j,a = .lst i/\b = .lst j:=by
 rcases IA ns with ⟨i,j,e,e'⟩ | ⟨i,j,e,e'⟩ | ⟨i,j,e,e'⟩
 ·exact .inl ⟨i,j,AR e,AR e'⟩
 ·exact .inr (.inl ⟨i,j,A8 e,A8 e'⟩)
 ·exact .inr (.inr ⟨i,j,KZ e,KZ e'⟩)
def V6:PV->PV->M PV:=BO λa b=>ae (.int (a - b))
def Sf (a b:PV):M PV:=aL (asI a) (λa=>ap (asI b) λb=>am (Ag a||Ag b) (ae (.int (a*b)))) <| aL (asS a) (λa=>ap (asI b) λk=>am (Ag k) (au (replicate k.toNat a).flatten)) <| ap (asL a) λa=>ap (asI b) λk=>ac (ar a) λx=>am (Ag k) (ao (replicate k.toNat x).flatten)
theorem Sg {a b:PV}{ps:PS}(ns:Sf a b ps≠.stuck):(∃ i j,a = .int i/\b = .int j)\/(∃ i j,a = .str i/\b = .int j)\/∃ i j,a = .lst i/\b = .int j:=by
 rcases IA ns with ⟨i,j,e,e'⟩ | ⟨i,j,e,e'⟩ | ⟨i,j,e,e'⟩
 ·exact .inl ⟨i,j,AR e,AR e'⟩
 ·exact .inr (.inl ⟨i,j,A8 e,AR e'⟩)
 ·exact .inr (.inr ⟨i,j,KZ e,AR e'⟩)
def V7:PV->PV->M PV:=BO λa b=>am (b != 0&&Ag b) (ae (.int (a.fdiv b)))
def V8:PV->PV->M PV:=BO λa b=>am (b != 0&&Ag b) (ae (.int (a.fmod b)))
def V9:PV->PV->M PV:=BO λa b=>am (2<=a&&a<=16&&0<=b&&b<=16) (ae (.int (a ^ b.toNat)))
def Ai:Operator->PV->PV->M PV
 | .Add=>Sd
 | .Sub=>V6
 | .Mult=>Sf
 | .FloorDiv=>V7
 | .Mod=>V8
 | .Pow=>V9
 | _=>λU U=>aq
def truP:PV->Option Bool
 | .bool b=>some b
 | _=>none
mutual
noncomputable def toD (st:List (List PV)):Nat->PV->Option PyData
 | 0,_=>none
 | _+1,.none=>some .none
 | _+1,.bool b=>some (.bool b)
 | _+1,.int i=>some (.int i)
 | _+1,.str s=>some (.str (txt s))
 | n+1,.tup l=>(Dy st n l).map .tuple
 | n+1,.lst i=>match st[i]? with
  | some l=>(Dy st n l).map .list
  | none=>none
 | _+1,_=>none
noncomputable def Dy (st:List (List PV)):Nat->List PV->Option (List PyData)
 | 0,_=>none
 | _+1,[]=>some []
 | n+1,p::r=>match toD st n p,Dy st n r with
  | some d,some ds=>some (d::ds)
  | _,_=>none
end
def GA (a b:Txt):Bool:=(range (b.length+1)).any λi=>(b.drop i).take a.length==a
def opE {V β:Type}(o:Option V)(f:V->β)(g:β):β:=match o with
 | some a=>f a
 | none=>g
def eqT (a b:PV):Option Bool:=opE (asS a) (λs=>opE (asS b) (λt=>some (s==t)) ((asI b).map λU=>false)) <| (asI a).bind λi=>opE (asI b) (λj=>some (i==j)) ((asS b).map λU=>false)
theorem Pm {a b:PV}{r:Bool}(h:eqT a b=some r):(∃ s t,a = .str s/\b = .str t/\(s==t)=r)\/(∃ i j,a = .int i/\b = .int j/\(i==j)=r)\/(∃ i t,a = .int i/\b = .str t/\false=r)\/∃ s j,a = .str s/\b = .int j/\false=r:=by
 have h:opE (asS a) (λs=>opE (asS b) (λt=>some (s==t)) ((asI b).map λU=>false)) ((asI a).bind λi=>opE (asI b) (λj=>some (i==j)) ((asS b).map λU=>false))=some r:=h
 cases ea:asS a with
 | some s=>
  rw [ea] at h
  cases eb:asS b with
  | some t=>rw [eb] at h;exact .inl ⟨s,t,A8 ea,A8 eb,aT h⟩
  | none=>
   rw [eb] at h
   obtain ⟨j,e,q⟩:=aU.mp h
   exact .inr (.inr (.inr ⟨s,j,A8 ea,AR e,q⟩))
 | none=>
  rw [ea] at h
  obtain ⟨i,e,h⟩:=aV.mp h
  cases eb:asI b with
  | some j=>rw [eb] at h;exact .inr (.inl ⟨i,j,AR e,AR eb,aT h⟩)
  | none=>
   rw [eb] at h
   obtain ⟨t,e',q⟩:=aU.mp h
   exact .inr (.inr (.inl ⟨i,t,AR e,A8 e',q⟩))
def eqP (a b:PV):M Bool:=λs=>match eqT a b with
 | some r=>.ok r s
 | none=>match toD s.st 64 a,toD s.st 64 b with
  | some x,some y=>if SeqAt.shaped x&&SeqAt.shaped y then .ok (PyData.eqv x y) s else .stuck
  | _,_=>.stuck
def eqI (a b:PV):Option Bool:=opE (asS a) (λs=>(asS b).map (s==·)) <| (asI a).bind λi=>(asI b).map (i==·)
theorem Pn {a b:PV}{r:Bool}(h:eqI a b=some r):(∃ s t,a = .str s/\b = .str t/\(s==t)=r)\/∃ i j,a = .int i/\b = .int j/\(i==j)=r:=by
 have h:opE (asS a) (λs=>(asS b).map (s==·)) ((asI a).bind λi=>(asI b).map (i==·))=some r:=h
 cases ea:asS a with
 | some s=>
  rw [ea] at h
  obtain ⟨t,e,q⟩:=aU.mp h
  exact .inl ⟨s,t,A8 ea,A8 e,q⟩
 | none=>
  rw [ea] at h
  obtain ⟨i,e,h⟩:=aV.mp h
  obtain ⟨j,e',q⟩:=aU.mp h
  exact .inr ⟨i,j,AR e,AR e',q⟩
def inL (x:PV):List PV->Option Bool
 | []=>some false
 | y::r=>match eqI y x,inL x r with
  | some a,some b=>some (a||b)
  | _,_=>none
def CU (ks vs:List PV)(x:PV):Option (Option PV):=match ks,vs with
 | [],_=>some none
 | k::ks,v::vs=>match eqI k x with
  | some true=>some (some v)
  | some false=>CU ks vs x
  | none=>none
 | _,_=>none
def Dc (ks vs:List PV)(x:PV):Option (Option PV):=if ks.isEmpty then none else CU ks vs x
def inP (x y:PV):M Bool:=match y with
 | .str b=>ap (asS x) λa=>ae (GA a b)
 | .fset k=>ap (asS x) λa=>ae (JB k a)
 | .lst i=>ac (ar i) λl=>aw (inL x l)
 | .tup l=>aw (inL x l)
 | .dct ks vs=>aw ((Dc ks vs x).map (·.isSome))
 | _=>aq
def IC:PV->Bool
 | .none=>true
 | _=>false
def isP (g:PV->Bool):PV->PV->M PV
 | a,.none=>ae (.bool (g a))
 | _,_=>aq
def Ao:CmpOp->PV->PV->M PV
 | .Eq=>λa b=>ac (eqP a b) λr=>ae (.bool r)
 | .NotEq=>λa b=>ac (eqP a b) λr=>ae (.bool !r)
 | .Lt=>BO λa b=>ae (.bool (decide (a<b)))
 | .LtE=>BO λa b=>ae (.bool (decide (a<=b)))
 | .Gt=>BO λa b=>ae (.bool (decide (a>b)))
 | .GtE=>BO λa b=>ae (.bool (decide (a≥b)))
 | .In=>λa b=>ac (inP a b) λr=>ae (.bool r)
 | .NotIn=>λa b=>ac (inP a b) λr=>ae (.bool !r)
 | .Is=>isP IC
 | .IsNot=>isP λa=>!IC a
def Au (hd:Bool)(a b:PV):M PV:=match a with
 | .str s=>ap (asI b) λi=>am (Ag i) (match idx i s.length with
  | some j=>ae (.str [s.getD j 0])
  | none=>aI hd "IndexError")
 | .lst a=>ap (asI b) λi=>am (Ag i) (ac (ar a) λl=>aw ((idx i l.length).bind (l[·]?)))
 | .tup l=>ap (asI b) λi=>am (Ag i) (aw ((idx i l.length).bind (l[·]?)))
 | .dct ks vs=>aw ((Dc ks vs b).bind id)
 | .mp=>ap (asS b) λs=>match escT s with
  | some t=>ae (.str t)
  | none=>aI hd "KeyError"
 | _=>aq
def Bj (a b:Option Int):PV->M PV
 | .str s=>au (slc s a b)
 | .lst i=>ac (ar i) λl=>am (l.length<=big) (ao (slc l a b))
 | _=>aq
def Sh (a b:PV):M PV:=aL (asI a) (λi=>ap (asI b) λj=>ae (.int (i+j))) <| ap (asS a) λs=>ap (asS b) λt=>au (s++t)
theorem Sj {a b:PV}{ps:PS}(ns:Sh a b ps≠.stuck):(∃ i j,a = .int i/\b = .int j)\/∃ i j,a = .str i/\b = .str j:=by
 rcases IA (o:=none (α:=Int)) (o':=none (α:=Int)) (f:=λU U=>aq) ns with ⟨_,_,e,_⟩ | ⟨i,j,e,e'⟩ | ⟨i,j,e,e'⟩
 ·injection e
 ·exact .inl ⟨i,j,AR e,AR e'⟩
 ·exact .inr ⟨i,j,A8 e,A8 e'⟩
def Do:Operator->PV->PV->M PV
 | .Add=>Sh
 | .Sub=>BO λa b=>ae (.int (a - b))
 | .FloorDiv=>BO λa b=>am (b != 0&&Ag b) (ae (.int (a.fdiv b)))
 | _=>λU U=>aq
def aj (m:M PFlow)(r:M PFlow):M PFlow:=ac m λf=>match f with
 | .next=>r
 | f=>ae f
def aN:List (M PFlow)->M PFlow
 | []=>ae .next
 | [m]=>m
 | m::r=>aj m (aN r)
def aC (t:M Bool)(b:M PFlow):Nat->M PFlow
 | 0=>aq
 | k+1=>ac t λc=>if c then ac b λf=>match f with
   | .next=>aC t b k
   | .cont=>aC t b k
   | .brk=>ae .next
   | .ret v=>ae (.ret v)
  else ae .next
def B0:PV->Nat->M (Option PV)
 | .lst i,k=>ac (ar i) λl=>ae l[k]?
 | .str s,k=>ae ((s[k]?).map λc=>.str [c])
 | .ints l,k=>ae ((l[k]?).map .int)
 | _,_=>aq
def Dx:PV->M (Nat->M (Option PV))
 | .lst i=>ae (B0 (.lst i))
 | .str s=>ae (B0 (.str s))
 | .ints l=>ae (B0 (.ints l))
 | _=>aq
def BA (a b:Int)(k:Nat):M (Option PV):=ae (if (k:Int)<b - a then some (.int (a+k)) else none)
def Uw (l:List PV):Option (Option Int × Int):=un l λp r=>(asI p).bind λi=>match r with
 | []=>some (none,i)
 | q::r=>(asI q).bind λj=>cond r.isEmpty (some (some i,j)) none
theorem MB {l:List PV}{x:Option Int × Int}(h:Uw l=some x):(l=[.int x.2]/\x.1=none)\/∃ a,l=[.int a,.int x.2]/\x.1=some a:=by
 obtain ⟨p,r,rfl,h⟩:=EK h
 obtain ⟨i,e,h⟩:=aV.mp h
 rw [AR e]
 cases r with
 | nil=>obtain rfl:=aT h;exact .inl ⟨rfl,rfl⟩
 | cons q r=>
  obtain ⟨j,e',h⟩:=aV.mp h
  obtain ⟨e1,rfl⟩:=Fo h
  rw [AR e',e1]
  exact .inr ⟨i,rfl,rfl⟩
def Cc (l:List PV):M (Nat->M (Option PV)):=ap (Uw l) λx=>match x.1 with
 | none=>am (Ag x.2) (ae (BA 0 x.2))
 | some a=>am (Ag a&&Ag x.2) (ae (BA a x.2))
def aF:List (PV->M Unit)->List PV->M Unit
 | [],[]=>ae ()
 | f::fs,v::vs=>ac (f v) λU=>aF fs vs
 | _,_=>aq
def aE (fs:List (PV->M Unit)):PV->M Unit
 | .tup l=>am (l.length==fs.length) (aF fs l)
 | .lst i=>ac (ar i) λl=>am (l.length==fs.length) (aF fs l)
 | _=>aq
def aG (get:Nat->M (Option PV))(t:PV->M Unit)(b:M PFlow):Nat->Nat->M PFlow
 | 0,_=>aq
 | f+1,k=>ac (get k) λo=>match o with
  | none=>ae .next
  | some p=>ac (t p) λU=>ac b λfl=>match fl with
   | .next=>aG get t b f (k+1)
   | .cont=>aG get t b f (k+1)
   | .brk=>ae .next
   | .ret v=>ae (.ret v)
def EM (l:List PV):M PV:=am (l.length<=big) (ae (.tup l))
def BM (i:Int):Txt:=(Str.ofString (toString i)).cps.toList
def Wa:PV->M PV
 | .str s=>am (s.length<=big) (ae (.int s.length))
 | .lst i=>ac (ar i) λl=>am (l.length<=big) (ae (.int l.length))
 | .ints l=>am (l.length<=big) (ae (.int l.length))
 | _=>aq
def A7 (l:List PV):M PV:=aH l Wa
def D6 (l:List PV):M PV:=aH l λp=>ap (asI p) λi=>am (0<=i&&i<=1114111) (ae (.str [i.toNat]))
def Ux (l:List PV):M PV:=aH l λp=>ap (asS p) λs=>ap (one s) λc=>ae (.int c)
def Sk (l:List PV):M PV:=aH l λp=>ap (asI p) λi=>ae (.int (if i<0 then -i else i))
def Po (l:List PV):M PV:=aH l λp=>ap (asI p) λi=>am (Ag i) (ae (.str (BM i)))
def Ba:Option (M PV)->M (Option Int)
 | none=>ae none
 | some m=>ac m λv=>match v with
  | .int i=>ae (some i)
  | _=>aq
def Pp:PFlow->PV
 | .ret v=>v
 | _=>.none
def ak (m:M PFlow)(l:List PV):M PV:=λs=>match m ⟨λi=>l[i]?,s.st⟩ with
 | .ok f s'=>.ok (Pp f) ⟨s.loc,s'.st⟩
 | .ex e s'=>.ex e ⟨s.loc,s'.st⟩
 | .stuck=>.stuck
def aD (X:PX->Option (M PFlow))(m:M PFlow):M PFlow:=λs=>match m s with
 | .ok f s'=>.ok f s'
 | .ex e s'=>match X e with
  | some h=>h s'
  | none=>.stuck
 | .stuck=>.stuck
def HQ (n:String)(h:M PFlow):PX->Option (M PFlow)
 | .std m=>if m=n then some h else none
 | _=>none
def Pq (h:Txt->M PFlow):PX->Option (M PFlow)
 | .toml t=>some (h t)
 | _=>none
def aJ (m:M PFlow):M PFlow:=λs=>match m s with
 | .ok f s'=>.ok f s'
 | _=>.stuck
def D7:PV->M PV
 | .str s=>au s
 | .int i=>am (Ag i) (ae (.str (BM i)))
 | _=>aq
def A3 (s:Txt):Txt:=(reprText (txt s)).cps.toList
def GB:PV->M PV
 | .str s=>au (A3 s)
 | _=>aq
def az:List (M PV)->Txt->M PV
 | [],acc=>au acc
 | m::r,acc=>ac m λv=>match v with
  | .str t=>am ((acc++t).length<=big) (az r (acc++t))
  | _=>aq
end Mi
end
section
open PySem PySem.W PyProof.Rows
set_option maxRecDepth 10000
namespace Mi
structure Wd where
 H:Hd
 h₀:Heap
 gens:Array GenState
 os:OsState
def Wd.cls (W:Wd):PX->Value
 | .std n=>.type n
 | .toml _=>.ref W.H.toml
abbrev Wd.rep (W:Wd)(fm:Fm)(V:List Addr)(h:Heap)(p:PV)(v:Value):Prop:=RepV W.H W.h₀ fm.av V h p v
structure InvS (W:Wd)(fm:Fm)(V:List Addr)(ps:PS)(s:Shared):Prop where
 inv:Inv W.H W.h₀ fm V ps s.heap
 gens:s.gens=W.gens
 os:s.os=W.os
def EN (start h:Heap)(e:PX)(v:Option Value):Prop:=match e with
 | .std n=>n≠"code"
 | .toml m=>∃ t tk,v=some (.ref t)/\start.get? t=none/\IsTup h t #[.str (txt m) tk]
def C3 (o:Obj):Prop:=o.cls≠.none/\o.cls≠.type "code"
inductive HasTb (start h:Heap)(a:Addr)(v:Option Value):Prop
 | mk (T:Addr) (oT:Obj) (ts:Array Value) (k1:v=some (.ref T)) (k2:T≠a) (k3:h.get? T=some oT) (k4:oT.data = .fields ts) (k5:3<ts.size) (k6:start.get? T=none) (k7:C3 oT):HasTb start h a v
def Sl (start h:Heap)(a:Addr)(v:Option Value):Prop:=v=some .none\/HasTb start h a v
def TW (e:PX)(v:Option Value):Prop:=match e with
 | .std _=>v=some .none
 | .toml _=>True
inductive Raised (W:Wd)(start h:Heap)(e:PX)(x:Value):Prop
 | mk (a:Addr) (oe:Obj) (vs:Array Value) (k1:x = .ref a) (k2:h.get? a=some oe) (k3:oe.cls=W.cls e) (k4:oe.data = .fields vs) (k5:5<vs.size) (k6:start.get? a=none) (k7:EN start h e vs[0]?) (k8:Sl start h a vs[1]?) (k9:TW e vs[2]?):Raised W start h e x
inductive RaisedN (W:Wd)(start h:Heap)(e:PX)(x:Value):Prop
 | mk (a:Addr) (oe:Obj) (vs:Array Value) (k1:x = .ref a) (k2:h.get? a=some oe) (k3:oe.cls=W.cls e) (k4:oe.data = .fields vs) (k5:5<vs.size) (k6:start.get? a=none) (k7:EN start h e vs[0]?) (k8:HasTb start h a vs[1]?) (k9:TW e vs[2]?):RaisedN W start h e x
theorem RaisedN.raised {W:Wd}{start h:Heap}{e:PX}{x:Value}(r:RaisedN W start h e x):Raised W start h e x:=by
 obtain ⟨a,oe,vs,h1,h2,h3,h4,h5,h6,h7,h8,h9⟩:=r
 exact ⟨a,oe,vs,h1,h2,h3,h4,h5,h6,h7,.inr h8,h9⟩
inductive OkE (W:Wd)(fm:Fm)(V:List Addr)(h:Heap)(r:R PV)(v:Value)(s':Shared):Prop
 | mk (p:PV) (ps':PS) (α':List Addr) (k1:r = .ok p ps') (k2:InvS W fm α' ps' s') (k3:Grow V α' h) (k4:Rel fm.stk fm.tab V h s'.heap) (k5:W.rep fm α' s'.heap p v):OkE W fm V h r v s'
inductive ExE (W:Wd)(fm:Fm)(V:List Addr)(h:Heap){β:Type}(r:R β)(x:Value)(s':Shared):Prop
 | mk (e:PX) (ps':PS) (α':List Addr) (k1:r = .ex e ps') (k2:InvS W fm α' ps' s') (k3:Grow V α' h) (k4:Rel fm.stk fm.tab V h s'.heap) (k5:Raised W h s'.heap e x):ExE W fm V h r x s'
inductive FlowRep (W:Wd)(fm:Fm)(V:List Addr)(h:Heap):PFlow->Flow->Prop
 | next:FlowRep W fm V h .next .next
 | brk:FlowRep W fm V h .brk .brk
 | cont:FlowRep W fm V h .cont .cont
 | ret {p:PV} {v:Value} (r:W.rep fm V h p v):FlowRep W fm V h (.ret p) (.ret v)
inductive OkS (W:Wd)(fm:Fm)(V:List Addr)(h:Heap)(r:R PFlow)(f:Flow)(s':Shared):Prop
 | mk (p:PFlow) (ps':PS) (α':List Addr) (k1:r = .ok p ps') (k2:InvS W fm α' ps' s') (k3:Grow V α' h) (k4:Rel fm.stk fm.own V h s'.heap) (k5:FlowRep W fm α' s'.heap p f):OkS W fm V h r f s'
inductive ExS (W:Wd)(fm:Fm)(V:List Addr)(h:Heap){β:Type}(r:R β)(x:Value)(s':Shared):Prop
 | mk (e:PX) (ps':PS) (α':List Addr) (k1:r = .ex e ps') (k2:InvS W fm α' ps' s') (k3:Grow V α' h) (k4:Rel fm.stk fm.own V h s'.heap) (k5:Raised W h s'.heap e x):ExS W fm V h r x s'
structure Ctx (W:Wd)(fm:Fm)(n:Nat)(A:Around):Prop where
 frames:A.frames=some fm.stk
 depth:A.depth+n<990
 units:A.units+20*n+1000<cLine
 hdl:A.handled=fm.hdl
 tab:fm.tab=[W.H.tabP]
 fm:FmOk W.h₀ fm
 hd:W.H.At W.h₀
abbrev Wd.m (W:Wd):Model:=model W.H.prog W.H.w
def Am (W:Wd)(fm:Fm)(A:Around)(V:List Addr)(ps:PS)(s:Shared)(t:Sem Value)(m:M PV):Prop:=
 wpAny W.m A t (OkE W fm V s.heap (m ps)) (ExE W fm V s.heap (m ps)) s
abbrev SimE.T (W:Wd)(n:Nat)(fm:Fm)(e:Expr)(m:M PV):Prop:=∀ A V ps s,Ctx W fm n A->InvS W fm V ps s->m ps≠.stuck->Am W fm A V ps s (eval e fm.env) m
structure SimE (W:Wd)(n:Nat)(fm:Fm)(e:Expr)(m:M PV):Prop where
 go:SimE.T W n fm e m
noncomputable instance {W:Wd} {n:Nat} {fm:Fm} {e:Expr} {m:M PV}:CoeFun (SimE W n fm e m) (λU=>SimE.T W n fm e m):=⟨SimE.go⟩
abbrev SimS.T (W:Wd)(n:Nat)(fm:Fm)(b:List Stmt)(m:M PFlow):Prop:=∀ A V ps s,Ctx W fm n A->InvS W fm V ps s->m ps≠.stuck->wpAny W.m A (execs b fm.env) (OkS W fm V s.heap (m ps)) (ExS W fm V s.heap (m ps)) s
structure SimS (W:Wd)(n:Nat)(fm:Fm)(b:List Stmt)(m:M PFlow):Prop where
 go:SimS.T W n fm b m
noncomputable instance {W:Wd} {n:Nat} {fm:Fm} {b:List Stmt} {m:M PFlow}:CoeFun (SimS W n fm b m) (λU=>SimS.T W n fm b m):=⟨SimS.go⟩
abbrev SimT.T (W:Wd)(n:Nat)(fm:Fm)(st:Stmt)(m:M PFlow):Prop:=∀ A V ps s,Ctx W fm n A->InvS W fm V ps s->m ps≠.stuck->wpAny W.m A (exec st fm.env) (OkS W fm V s.heap (m ps)) (ExS W fm V s.heap (m ps)) s
structure SimT (W:Wd)(n:Nat)(fm:Fm)(st:Stmt)(m:M PFlow):Prop where
 go:SimT.T W n fm st m
noncomputable instance {W:Wd} {n:Nat} {fm:Fm} {st:Stmt} {m:M PFlow}:CoeFun (SimT W n fm st m) (λU=>SimT.T W n fm st m):=⟨SimT.go⟩
section
variable {W:Wd}{fm:Fm}{V α' α₁:List Addr}{h h₁:Heap}{n:Nat}{A:Around}{ps ps':PS}{s s':Shared}
theorem EN.start {e:PX}{v:Option Value}(x:EN h₁ h e v)(l:∀ b,h₁.get? b=none->h'.get? b=none):EN h' h e v:=by
 cases e with
 | std n=>exact x
 | toml m=>obtain ⟨t,tk,h1,h2,h3⟩:=x;exact ⟨t,tk,h1,l t h2,h3⟩
theorem Raised.start {e:PX}{x:Value}(r:Raised W h₁ h e x)(l:∀ b,h₁.get? b=none->h'.get? b=none):Raised W h' h e x:=by
 obtain ⟨a,oe,vs,h1,h2,h3,h4,h5,h6,h7,h8,h9⟩:=r
 refine ⟨a,oe,vs,h1,h2,h3,h4,h5,l a h6,h7.start l,?_,h9⟩
 rcases h8 with q | ⟨T,oT,ts,q1,q2,q3,q4,q5,q6,q7⟩
 ·exact .inl q
 ·exact .inr ⟨T,oT,ts,q1,q2,q3,q4,q5,l T q6,q7⟩
theorem OkE.after {r:R PV}{v:Value}(q:OkE W fm α₁ h₁ r v s')(g:Grow V α₁ h)(x:Rel fm.stk fm.tab V h h₁):OkE W fm V h r v s':=by
 obtain ⟨p,ps',α',e,I,g',x',rv⟩:=q
 exact ⟨p,ps',α',e,I,g.trans g' x,x.trans x' g.new,rv⟩
theorem ExE.after {β:Type}{r:R β}{v:Value}(q:ExE W fm α₁ h₁ r v s')(g:Grow V α₁ h)(x:Rel fm.stk fm.tab V h h₁):ExE W fm V h r v s':=by
 obtain ⟨p,ps',α',e,I,g',x',rv⟩:=q
 exact ⟨p,ps',α',e,I,g.trans g' x,x.trans x' g.new,rv.start x.live⟩
theorem OkS.after {r:R PFlow}{v:Flow}(q:OkS W fm α₁ h₁ r v s')(g:Grow V α₁ h)(x:Rel fm.stk fm.own V h h₁):OkS W fm V h r v s':=by
 obtain ⟨p,ps',α',e,I,g',x',rv⟩:=q
 exact ⟨p,ps',α',e,I,g.trans g' x,x.trans x' g.new,rv⟩
theorem ExS.after {β:Type}{r:R β}{v:Value}(q:ExS W fm α₁ h₁ r v s')(g:Grow V α₁ h)(x:Rel fm.stk fm.own V h h₁):ExS W fm V h r v s':=by
 obtain ⟨p,ps',α',e,I,g',x',rv⟩:=q
 exact ⟨p,ps',α',e,I,g.trans g' x,x.trans x' g.new,rv.start x.live⟩
theorem ExE.toS {β:Type}{r:R β}{v:Value}(q:ExE W fm V h r v s'):ExS W fm V h r v s':=by
 obtain ⟨p,ps',α',e,I,g',x',rv⟩:=q
 exact ⟨p,ps',α',e,I,g',x'.mono (λU h=>mem_append_left _ h),rv⟩
theorem InvS.tok (I:InvS W fm V ps s)(t:Nat):InvS W fm V ps { s with toks:=t }:=⟨I.inv,I.gens,I.os⟩
theorem OkE.same {p:PV}{v:Value}{t:Nat}(I:InvS W fm V ps s)(r:W.rep fm V s.heap p v):OkE W fm V s.heap (.ok p ps) v { s with toks:=t }:=
 ⟨p,ps,V,rfl,I.tok t,.refl ..,.refl ..,r⟩
theorem OkE.same' {p:PV}{v:Value}(I:InvS W fm V ps s)(r:W.rep fm V s.heap p v):OkE W fm V s.heap (.ok p ps) v s:=
 ⟨p,ps,V,rfl,I,.refl ..,.refl ..,r⟩
theorem Ad {β γ:Type}{m:M β}{f:β->M γ}(h:ac m f ps≠.stuck):m ps≠.stuck:=by
 intro e;unfold ac at h;rw [e] at h;exact h rfl
theorem Ac {β γ:Type}{m:M β}{f:β->M γ}{a:β}(e:m ps = .ok a ps'):ac m f ps=f a ps':=by
 unfold ac;rw [e]
theorem Gf {β γ:Type}{m:M β}{f:β->M γ}{a:PX}(e:m ps = .ex a ps'):ac m f ps = .ex a ps':=by
 unfold ac;rw [e]
theorem ExE.bind {β γ:Type}{m:M β}{f:β->M γ}{x:Value}(q:ExE W fm V h (m ps) x s'):ExE W fm V h (ac m f ps) x s':=by
 obtain ⟨p,o0,α₁,e,I,g,x,r⟩:=q
 exact ⟨p,o0,α₁,Gf e,I,g,x,r⟩
theorem ExS.bind {β γ:Type}{m:M β}{f:β->M γ}{x:Value}(q:ExS W fm V h (m ps) x s'):ExS W fm V h (ac m f ps) x s':=by
 obtain ⟨p,o0,α₁,e,I,g,x,r⟩:=q
 exact ⟨p,o0,α₁,Gf e,I,g,x,r⟩
theorem Am.seq {t:Sem Value}{m:M PV}{T:Value->Shared->Prop}{E:Value->Shared->Prop}(c:Am W fm A V ps s t m)
  (hk:∀ p v α₁ o0 c0,InvS W fm α₁ o0 c0->Grow V α₁ s.heap->Rel fm.stk fm.tab V s.heap c0.heap->W.rep fm α₁ c0.heap p v->m ps = .ok p o0->T v c0)
  (hx:∀ x c0,ExE W fm V s.heap (m ps) x c0->E x c0):wpAny W.m A t T E s:=
 aW c (λv c0 ⟨p,o0,α₁,e,I,g,x,r⟩=>hk p v α₁ o0 c0 I g x r e) hx
theorem InvS.stays (C:Ctx W fm n A)(I:InvS W fm V ps s)(x:Rel fm.stk fm.tab V s.heap h₁)(g:Grow V α₁ s.heap){p:PV}{v:Value}(r:W.rep fm V s.heap p v):W.rep fm α₁ h₁ p v:=
 r.stays I.inv.lists x g.pre C.fm.frsAv C.fm.tabAv
theorem Ab {i:Int}{k:Nat}{pos:Pos}:SimE W n fm (.Constant (.int i) k pos) (ae (.int i)):=.mk λA V ps s C I ns=>
 wpAny_Constant_int (OkE.same I (.int i _))
end
section
variable {W:Wd}{fm:Fm}{V α' α₁:List Addr}{h h₁:Heap}{n:Nat}{A:Around}{ps ps':PS}{s s':Shared}{hd:Bool}
theorem BH:big=sizeLine:=by decide
theorem AC (x:Txt):(txt x).length=x.length:=by simp [txt,Str.length]
theorem DX (x y:Txt):txt x++txt y=txt (x++y):=by
 apply Str.ext'
 simp [txt,Str.cps_append]
theorem Bn (x:Str):txt x.cps.toList=x:=by
 apply Str.ext';simp [txt]
theorem ID {x y:Txt}(e:txt x=txt y):x=y:=by
 have:=congrArg (λz=>z.cps.toList) e
 simpa [txt] using this
theorem MC (x y:Txt):(txt x==txt y)=(x==y):=by
 by_cases e:x=y
 ·subst e
  have:(txt x==txt x)=true:=beq_iff_eq.mpr rfl
  rw [this];simp
 ·have h1:(txt x==txt y)=false:=aX.mpr λq=>e (ID q)
  rw [h1];simp [e]
theorem Am.same {t:Sem Value}{p:PV}(I:InvS W fm V ps s)(h:∀ Q:Value->Shared->Prop,∀ E,(∀ v tk,W.rep fm V s.heap p v->Q v { s with toks:=tk })->wpAny W.m A t Q E s):Am W fm A V ps s t (ae p):=
 h _ _ λv tk r=>OkE.same I r
abbrev OpOk.T (W:Wd)(n:Nat)(fm:Fm)(t:Value->Value->Sem Value)(f:PV->PV->M PV):Prop:=∀ A V ps s a b va vb,Ctx W fm n A->InvS W fm V ps s->W.rep fm V s.heap a va->W.rep fm V s.heap b vb->f a b ps≠.stuck->Am W fm A V ps s (t va vb) (f a b)
structure OpOk (W:Wd)(n:Nat)(fm:Fm)(t:Value->Value->Sem Value)(f:PV->PV->M PV):Prop where
 go:OpOk.T W n fm t f
noncomputable instance {W:Wd} {n:Nat} {fm:Fm} {t:Value->Value->Sem Value} {f:PV->PV->M PV}:CoeFun (OpOk W n fm t f) (λU=>OpOk.T W n fm t f):=⟨OpOk.go⟩
theorem Am.orStuck {t:Sem Value}{c:Bool}{m:M PV}(ns:am c m ps≠.stuck)(h:c=true->m ps≠.stuck->Am W fm A V ps s t m):Am W fm A V ps s t (am c m):=by
 unfold am at ns ⊢
 cases c with
 | false=>exact absurd rfl ns
 | true=>exact h rfl ns
theorem EO {a b:Int}(h:Ag b=true):Builtin.divisionGoesByPylong a b=false:=PyProof.noPylong_small (aY h)
theorem El {x:Int}(h:Ag x=true):Builtin.Int.intBits x<=64:=
 intBits_le (aZ (aY h) (by decide))
theorem Nw {a b:Int}(h:(Ag a||Ag b)=true):IntMulOk a b:=by
 rcases Bool.or_eq_true_iff.mp h with q | q
 ·exact .of_left (El q)
 ·exact .of_right (El q)
theorem K0 {a b:Int}{t u:Tok}(I:InvS W fm V ps s):Am W fm A V ps s (binaryOp .Add (.int a t) (.int b u)) (ae (.int (a+b))):=
 .same I λQ E h=>PySem.P.add_int (h _ _ (.int _ _))
theorem K4 {a b:Int}{t u:Tok}(I:InvS W fm V ps s):Am W fm A V ps s (binaryOp .Sub (.int a t) (.int b u)) (ae (.int (a - b))):=
 .same I λQ E h=>PySem.P.sub_int (h _ _ (.int _ _))
theorem K5 {a b:Int}{t u:Tok}(I:InvS W fm V ps s)(hm:(Ag a||Ag b)=true):Am W fm A V ps s (binaryOp .Mult (.int a t) (.int b u)) (ae (.int (a*b))):=
 .same I λQ E h=>PySem.P.mul_int (h _ _ (.int _ _)) (Nw hm)
theorem K6 {a b:Int}{t u:Tok}(I:InvS W fm V ps s)(hb:(b != 0&&Ag b)=true):Am W fm A V ps s (binaryOp .FloorDiv (.int a t) (.int b u)) (ae (.int (a.fdiv b))):=
 have hb:=and_eq_true_iff.mp hb
 .same I λQ E h=>floordiv_int (by simpa using hb.1) (h _ _ (.int _ _)) (.inl (EO hb.2))
theorem K7 {a b:Int}{t u:Tok}(I:InvS W fm V ps s)(hb:(b != 0&&Ag b)=true):Am W fm A V ps s (binaryOp .Mod (.int a t) (.int b u)) (ae (.int (a.fmod b))):=
 have hb:=and_eq_true_iff.mp hb
 .same I λQ E h=>mod_int' (by simpa using hb.1) (h _ _ (.int _ _))
theorem Am.str {t:Sem Value}{x:Txt}(I:InvS W fm V ps s)(ns:au x ps≠.stuck)
  (h:x.length<=sizeLine->∀ Q:Value->Shared->Prop,∀ E,(∀ tk u,Q (.str (txt x) u) { s with toks:=tk })->wpAny W.m A t Q E s):Am W fm A V ps s t (au x):=by
 unfold au at ns
 by_cases q:x.length<=big
 ·have:au x ps=ae (.str x) ps:=by unfold au;rw [if_pos q];rfl
  unfold Am
  rw [this]
  exact h (BH▸q) _ _ λtk u=>OkE.same I (.str _ _)
 ·rw [if_neg q] at ns;exact absurd rfl ns
theorem K8 {a b:Txt}{t u:Tok}(I:InvS W fm V ps s)(ns:au (a++b) ps≠.stuck):Am W fm A V ps s (binaryOp .Add (.str (txt a) t) (.str (txt b) u)) (au (a++b)):=
 .str I ns λhl Q E h=>PyProof.Rows.add_str (λt' tk=>DX a b▸h tk t') (by rw [AC,AC,<- length_append];exact hl)
end
section
variable {W:Wd}{fm:Fm}{V α' α₁:List Addr}{h h' h₁:Heap}{n:Nat}{A:Around}{ps ps':PS}{s s':Shared}{hd:Bool}{H:Hd}{h₀:Heap}
theorem HR {av:List Addr}(k:∀ b o,h.get? b=some o->h'.get? b=some o)(g:V <+: α') :
  (∀ {p:PV} {v:Value},RepV H h₀ av V h p v->RepV H h₀ av α' h' p v)/\∀ {l:List PV} {vs:List Value},RepL H h₀ av V h l vs->RepL H h₀ av α' h' l vs:=by
 refine DW (λa vs ha hi=>⟨ha,?_⟩) (λi a hi=>?_) λa o es ep ha ho hx hd=>⟨ha,k _ _ ho⟩
 ·obtain ⟨o,e1,e2,e3⟩:=hi;exact ⟨o,k _ _ e1,e2,e3⟩
 ·obtain ⟨t,rfl⟩:=g
  rw [getElem?_append_left (List.getElem?_eq_some_iff.mp hi).1];exact hi
theorem RepV.keeps {av:List Addr}(k:∀ b o,h.get? b=some o->h'.get? b=some o)(g:V <+: α'){p:PV}{v:Value}(x:RepV H h₀ av V h p v):RepV H h₀ av α' h' p v:=(HR k g).1 x
theorem RepL.keeps {av:List Addr}(k:∀ b o,h.get? b=some o->h'.get? b=some o)(g:V <+: α'){l:List PV}{vs:List Value}(x:RepL H h₀ av V h l vs):RepL H h₀ av α' h' l vs:=(HR k g).2 x
theorem OptRep.keeps {av:List Addr}(k:∀ b o,h.get? b=Option.some o->h'.get? b=Option.some o)(g:V <+: α'){p:Option PV}{v:Option Value}(x:OptRep H h₀ av V h p v):OptRep H h₀ av α' h' p v:=x.map λr=>r.keeps k g
theorem IE {a:Addr}{vs:Array Value}(k:∀ b o,h.get? b=some o->h'.get? b=some o)(x:h.IsList a vs):h'.IsList a vs:=by
 obtain ⟨o,e1,e2,e3⟩:=x;exact ⟨o,k _ _ e1,e2,e3⟩
theorem Inv.keeps (I:Inv H h₀ fm V ps h)(k:∀ b o,h.get? b=some o->h'.get? b=some o):Inv H h₀ fm V ps h':=by
 obtain ⟨b,⟨m,n1,n2⟩,c,⟨l1,l2,l3,l4,l5⟩,lv,fr,tb⟩:=I
 refine ⟨λx o e=>k x o (b x o e),⟨m,n1.keeps k,λx i hx=>(n2 x i hx).keeps k (prefix_refl _)⟩,λx kk i hx hk=>?_,⟨l1,λi l e=>?_,l3,l4,l5⟩,λa ha=>?_,fr.of_keeps λx o e U=>⟨o,k x o e,rfl⟩,λP hP=>(tb P hP).keeps k⟩
 ·obtain ⟨cc,v,q1,q2,q3,q4,q5⟩:=c x kk i hx hk
  exact ⟨cc,v,q1,q2,q3,q4.keeps k,q5.keeps k (prefix_refl _)⟩
 ·obtain ⟨a,vs,q1,q2,q3⟩:=l2 i l e
  exact ⟨a,vs,q1,q2.at (k _),q3.keeps k (prefix_refl _)⟩
 ·obtain ⟨o,e⟩:=ba.mp (lv a ha)
  rw [k a o e];rfl
theorem Inv.newLst (C:FmOk h₀ fm)(I:Inv H h₀ fm V ps h){l:List PV}{vs:List Value}{a:Addr}(rl:RepL H h₀ fm.av V h l vs)(k:∀ b o,h.get? b=some o->h'.get? b=some o)(ha:h.get? a=none)(hl:h'.PlainList a vs.toArray) :
  Inv H h₀ fm (V++[a]) { ps with st:=ps.st++[l] } h':=by
 obtain ⟨b,⟨m,n1,n2⟩,c,⟨l1,l2,l3,l4,l5⟩,lv,fr,tb⟩:=I.keeps k
 have pre:V <+: V++[a]:=prefix_append _ _
 have na:a∉V:=λq=>by
  obtain ⟨ws,o,e,_⟩:=I.lists.isList q
  rw [ha] at e;cases e
 have kk:∀ b o,h'.get? b=some o->h'.get? b=some o:=λU U e=>e
 refine ⟨b,⟨m,n1,λx i hx=>(n2 x i hx).keeps kk pre⟩,λx kd i hx hk=>?_,⟨by simp [l1],λi l' e=>?_,?_,λx hx=>?_,λx hx q=>?_⟩,lv,fr,tb⟩
 ·obtain ⟨cc,v,q1,q2,q3,q4,q5⟩:=c x kd i hx hk
  exact ⟨cc,v,q1,q2,q3,q4,q5.keeps kk pre⟩
 ·by_cases hi:i<ps.st.length
  ·rw [getElem?_append_left hi] at e
   obtain ⟨a',ws,q1,q2,q3⟩:=l2 i l' e
   exact ⟨a',ws,by rw [getElem?_append_left (by rw [l1];exact hi)];exact q1,q2,q3.keeps kk pre⟩
  ·have:i=ps.st.length:=by
    have:=(bc.mp e).1
    simp at this;exact be (la [_,_] [([2,3,0],[4,3,0])] ([2],[4]) rfl this) (la [_,_] [([2],[4])] ([2],[4]) rfl (Nat.not_lt.mp hi))
   subst this
   rw [getElem?_append_right (Nat.le_refl _)] at e
   simp at e
   subst e
   exact ⟨a,vs,by rw [<- l1,getElem?_append_right (Nat.le_refl _)];simp,hl,(rl.keeps k (prefix_refl _)).keeps kk pre⟩
 ·rw [nodup_append]
  exact ⟨l3,by simp,λx hx y hy=>by simp at hy;subst hy;exact λe=>na (e▸hx)⟩
 ·rcases mem_append.mp hx with q | q
  ·exact l4 x q
  ·simp at q;subst q
   cases e:h₀.get? x with
   | none=>rfl
   | some o=>have:=I.base x o e;rw [ha] at this;cases this
 ·rcases mem_append.mp hx with p | p
  ·exact l5 x p q
  ·simp at p;subst p
   have:=I.live x q
   rw [ha] at this;cases this
theorem OkE.newLst (C:Ctx W fm n A)(I:InvS W fm V ps s){l:List PV}{vs:List Value}{a:Addr}{tk:Nat}(hb:l.length<=big)(rl:RepL W.H W.h₀ fm.av V s.heap l vs)(k:∀ b o,s.heap.get? b=some o->h'.get? b=some o)(ha:s.heap.get? a=none)(hl:h'.PlainList a vs.toArray) :
  OkE W fm V s.heap (ao l ps) (.ref a) { s with heap:=h',toks:=tk }:=by
 refine ⟨.lst ps.st.length,{ ps with st:=ps.st++[l] },V++[a],by unfold ao;rw [if_pos hb],⟨I.inv.newLst C.fm rl k ha hl,I.gens,I.os⟩,⟨prefix_append _ _,λx hx nx=>?_⟩,.of_keeps k,.lst ?_⟩
 ·rcases mem_append.mp hx with q | q
  ·exact absurd q nx
  ·simp at q;subst q;exact ha
 ·rw [<- I.inv.lists.len,getElem?_append_right (Nat.le_refl _)];simp
theorem Dd {l:List PV}(ns:ao l ps≠.stuck):l.length<=big:=by
 unfold ao at ns
 by_cases q:l.length<=big
 ·exact q
 ·rw [if_neg q] at ns;exact absurd rfl ns
theorem Bl {i:Nat}(ns:ar i ps≠.stuck):∃ l,ps.st[i]? = some l/\ar i ps = .ok l ps:=by
 unfold ar at ns ⊢
 cases e:ps.st[i]? with
 | none=>rw [e] at ns;exact absurd rfl ns
 | some l=>exact ⟨l,rfl,rfl⟩
theorem Am.newLst {t:Sem Value}{l:List PV}{vs:List Value}(C:Ctx W fm n A)(I:InvS W fm V ps s)(rl:RepL W.H W.h₀ fm.av V s.heap l vs)(ns:ao l ps≠.stuck)
  (h:vs.length<=sizeLine->∀ Q:Value->Shared->Prop,∀ E,Q (.ref s.heap.objs.size) { s with heap:=s.heap.push { cls:=.type "list",data:=.seq vs.toArray } }->wpAny W.m A t Q E s) :
  Am W fm A V ps s t (ao l):=by
 have hb:=Dd ns
 refine h (by rw [<- rl.length];exact BH▸hb) _ _ ?_
 exact OkE.newLst (tk:=s.toks) C I hb rl (λb o e=>get?_push_of_some _ e) (Heap.get?_none_of_le (aR _)) ⟨_,get?_push_size _ rfl⟩
theorem K9 {x y:List PV}{vs ws:List Value}{a b:Addr}(C:Ctx W fm n A)(I:InvS W fm V ps s)(ha:s.heap.IsList a vs.toArray)(hb:s.heap.IsList b ws.toArray)
  (rx:RepL W.H W.h₀ fm.av V s.heap x vs) (ry:RepL W.H W.h₀ fm.av V s.heap y ws) (ns:ao (x++y) ps≠.stuck) :
  Am W fm A V ps s (binaryOp .Add (.ref a) (.ref b)) (ao (x++y)):=by
 refine .newLst C I (rx.append ry) ns λhl Q E hq=>?_
 obtain ⟨⟨cls,dd,data,sl⟩,ho,hc,k,hd⟩:=id ha
 obtain ⟨⟨cls2,dd2,data2,sl2⟩,ho2,hc2,k2,hd2⟩:=id hb
 simp only at hc hd hc2 hd2
 subst hc hd hc2 hd2
 have e:vs.toArray++ws.toArray=(vs++ws).toArray:=by simp
 refine concat_meets ⟨_,ho,rfl⟩ ⟨_,ho2,rfl⟩ noFill_list_add seq_list_add PySem.F.slot_list_add PySem.F.entry_list_add (PySem.F.args_list_add_2 _ _) (list_addW a b vs.toArray ws.toArray k k2 dd dd2 sl sl2 (by simpa using hl)) ⟨ho,ho2,?_⟩
 rw [e]
 exact hq
theorem DB (I:InvS W fm V ps s){i:Nat}{v:Value}{l:List PV}(r:W.rep fm V s.heap (.lst i) v)(e:ps.st[i]? = some l):∃ a vs,v = .ref a/\s.heap.IsList a vs.toArray/\RepL W.H W.h₀ fm.av V s.heap l vs:=by
 obtain ⟨a,vs,h1,h2,h3⟩:=I.inv.lists.at_ i l e
 obtain ⟨b,rfl,hi⟩:=r.inv
 obtain rfl:=aT (h1.symm.trans hi)
 exact ⟨_,_,rfl,h2.isList,h3⟩
theorem Sm (I:InvS W fm V ps s){i:Nat}{v:Value}{l:List PV}(r:W.rep fm V s.heap (.lst i) v)(e:ps.st[i]? = some l):∃ a vs,v = .ref a/\V[i]? = some a/\s.heap.PlainList a vs.toArray/\RepL W.H W.h₀ fm.av V s.heap l vs:=by
 obtain ⟨a,vs,h1,h2,h3⟩:=I.inv.lists.at_ i l e
 obtain ⟨b,rfl,hi⟩:=r.inv
 obtain rfl:=aT (h1.symm.trans hi)
 exact ⟨_,_,rfl,h1,h2,h3⟩
theorem CV {i:Nat}{l:List PV}{β:Type}{f:List PV->M β}(e:ps.st[i]? = some l):ac (ar i) f ps=f l ps:=by
 unfold ac ar;rw [e]
theorem Am.congr {t:Sem Value}{m m':M PV}(e:m ps=m' ps)(c:Am W fm A V ps s t m'):Am W fm A V ps s t m:=by
 unfold Am at c ⊢;rw [e];exact c
theorem La {a:Txt}{k:Int}{t u:Tok}(I:InvS W fm V ps s)(hk:Ag k=true)(ns:au (replicate k.toNat a).flatten ps≠.stuck) :
  Am W fm A V ps s (binaryOp .Mult (.str (txt a) t) (.int k u)) (au (replicate k.toNat a).flatten):=by
 refine .str I ns λhl Q E h=>?_
 have hk:k.natAbs<1073741824:=aY hk
 have hlen:(replicate k.toNat a).flatten.length=k.toNat*a.length:=by simp
 have key:∀ x:Str,x=txt (replicate k.toNat a).flatten->∀ tk v,Q (.str x v) { s with toks:=tk }:=λx e tk v=>e▸h tk v
 refine PySem.P.mul_str ?_ (λh1 h2=>?_) (λh1 h2=>?_) ?_
 ·have h1:¬ k < -(2 ^ 63):=by lia
  have h2:¬ k≥2 ^ 63:=by lia
  rw [decide_eq_false h1,decide_eq_false h2];rfl
 ·have hp:0<k:=by lia
  have h3:a.length<=sizeLine:=by
   rw [hlen] at hl
   have:a.length<=k.toNat*a.length:=Nat.le_mul_of_pos_left _ (by lia)
   lia
  rw [AC]
  have h4:(16777216:Int)<=(2 ^ 63 - 1) / k:=by
   rw [Int.le_ediv_iff_mul_le hp];lia
  have h5:sizeLine=16777216:=by decide
  lia
 ·unfold Builtin.Str.tooLong
  rw [AC,Nat.mul_comm,<- hlen]
  exact decide_eq_false (by lia)
 ·by_cases h1:k<1
  ·rw [if_pos h1]
   have:k.toNat=0:=by lia
   exact ⟨by decide,key _ (by rw [this];rfl) _ _⟩
  ·rw [if_neg h1]
   by_cases h2:(k==1||(txt a).length==0)=true
   ·rw [if_pos h2]
    refine key _ ?_ s.toks _
    rcases Bool.or_eq_true_iff.mp h2 with q | q
    ·have:k=1:=by simpa using q
     subst this
     simp
    ·rw [AC] at q
     have:a=[]:=eq_nil_of_length_eq_zero (by simpa using q)
     subst this
     congr 1
     simp
   ·rw [if_neg h2]
    have e:(⟨(replicate k.toNat (txt a).cps).foldl (·++·) #[]⟩:Str)=txt (replicate k.toNat a).flatten:=by
     apply Str.ext'
     have:∀ (n:Nat) (acc:Array Nat),((replicate n (txt a).cps).foldl (·++·) acc)=acc++(replicate n a).flatten.toArray:=by
      intro n
      induction n with
      | zero=>intro acc;simp
      | succ n ih=>intro acc;rw [replicate_succ,foldl_cons,ih];simp [txt,replicate_succ]
     rw [this];simp [txt]
    refine ⟨?_,key _ e _ _⟩
    rw [e,AC];exact hl
theorem Lb {a b:Int}{t u:Tok}(I:InvS W fm V ps s)(hb:(2<=a&&a<=16&&0<=b&&b<=16)=true):Am W fm A V ps s (binaryOp .Pow (.int a t) (.int b u)) (ae (.int (a ^ b.toNat))):=by
 simp only [and_eq_true,decide_eq_true_eq] at hb
 obtain ⟨⟨⟨h1,h2⟩,h3⟩,h4⟩:=hb
 refine .same I λQ E h=>?_
 by_cases h0:b=0
 ·subst h0
  have e:a ^ Int.toNat 0=1:=by simp
  rw [e] at h
  exact AutoIntOps.pow_0 (by lia) (by decide) (h _ _ (.int _ _))
 ·refine AutoIntOps.pow_4 h3 (by simpa using h0) ?_ ?_ ?_ (h _ _ (.int _ _))
  ·simp;lia
  ·simp;lia
  ·have hs:Builtin.Int.intBits a<=64:=El (by unfold Ag;exact decide_eq_true (by lia))
   have:((Builtin.Int.intBits a:Nat):Int)*b<=64*16:=Int.mul_le_mul (by lia) h4 h3 (by decide)
   unfold Builtin.Int.intTooBig
   simp only [decide_eq_true_eq]
   have:(1024:Int)<((bitsLine:Nat):Int):=by decide
   lia
theorem Lc {i:Nat}{x:List PV}{k:Int}{v:Value}{u:Tok}(C:Ctx W fm n A)(I:InvS W fm V ps s)(ra:W.rep fm V s.heap (.lst i) v)(ex:ps.st[i]? = some x)(hk:Ag k=true)(ns:ao (replicate k.toNat x).flatten ps≠.stuck) :
  Am W fm A V ps s (binaryOp .Mult v (.int k u)) (ao (replicate k.toNat x).flatten):=by
 obtain ⟨a,vs,rfl,_,hl,rl⟩:=Sm I ra ex
 have hk:k.natAbs<1073741824:=aY hk
 have rr:RepL W.H W.h₀ fm.av V s.heap (replicate k.toNat x).flatten (replicate k.toNat vs).flatten:=by
  induction k.toNat with
  | zero=>exact .nil
  | succ m ih=>rw [replicate_succ,replicate_succ,flatten_cons,flatten_cons];exact rl.append ih
 refine .newLst C I rr ns λhl' Q E hq=>?_
 obtain ⟨kk,ho⟩:=hl
 have hz:∀ m:Nat,foldl (λx1 x2:Array Value=>x1++x2) #[] (replicate m vs.toArray)=(replicate m vs).flatten.toArray:=λm=>by
  have go:∀ (m:Nat) (acc:Array Value),foldl (λx1 x2:Array Value=>x1++x2) acc (replicate m vs.toArray)=acc++(replicate m vs).flatten.toArray:=by
   intro m
   induction m with
   | zero=>intro acc;simp
   | succ m ih=>intro acc;rw [replicate_succ,foldl_cons,ih,replicate_succ,flatten_cons];simp
  rw [go];simp
 have hsz:vs.toArray.size*k.toNat<=2 ^ 24:=by
  have:(replicate k.toNat vs).flatten.length=k.toNat*vs.length:=by simp
  rw [this] at hl'
  rw [size_toArray,Nat.mul_comm]
  exact hl'
 have he:(if vs.toArray.isEmpty=true then 0 else k.toNat)=k.toNat\/vs=[]:=by
  cases vs with
  | nil=>exact .inr rfl
  | cons a r=>exact .inl rfl
 refine wpAny_binaryOp_repeat_ref (T:="list") (U:="int") (by decide) ⟨_,ho,rfl⟩ (λs'=>typeIs_int s' k u) noFill_list_mul F.fills_int_mul F.slot_int_rmul repeat_list F.slot_int_index.lookup
  (call_meets F.slot_int_rmul (typeIs_int s k u) F.entry_int_rmul (F.args_int_rmul_2 _ _) (int___rmul___int_list k u a vs.toArray kk)
   ⟨ho,rfl,⟨_,ho,rfl⟩,call_meets F.slot_list_mul ⟨_,ho,rfl⟩ F.entry_list_mul (F.args_list_mul_2 _ _)
    (AutoListH.list___mul___list_int_3 a vs.toArray kk k u (by simp [Builtin.List.listFitsIndex];lia) (by lia) (by simp [Builtin.List.listTooLong,sizeLine] at hsz ⊢;lia))
    ⟨ho,?_⟩⟩)
 rcases he with he | rfl
 ·rw [he,hz];exact hq
 ·have e0:(replicate k.toNat ([]:List Value)).flatten=[]:=by simp
  rw [e0] at hq
  exact hq
theorem Uy (op:Operator):OpOk W n fm (binaryOp op) (Ai op):=by
 refine .mk ?_
 intro A V ps s a b va vb C I ra rb ns
 cases op
 case Add=>
  have ns':Sd a b ps≠.stuck:=ns
  show Am W fm A V ps s _ (Sd a b)
  rcases Se ns' with ⟨i,j,rfl,rfl⟩ | ⟨i,j,rfl,rfl⟩ | ⟨i,j,rfl,rfl⟩
  ·obtain ⟨_,rfl⟩:=ra.inv;obtain ⟨_,rfl⟩:=rb.inv;exact K0 I
  ·obtain ⟨_,rfl⟩:=ra.inv;obtain ⟨_,rfl⟩:=rb.inv;exact K8 I ns'
  ·have ns':ac (ar i) (λx=>ac (ar j) λy=>ao (x++y)) ps≠.stuck:=ns'
   obtain ⟨x,ex,e1⟩:=Bl (Ad ns')
   have e2:=CV (f:=λx=>ac (ar j) λy=>ao (x++y)) ex
   rw [e2] at ns'
   obtain ⟨y,ey,e3⟩:=Bl (Ad ns')
   rw [CV ey] at ns'
   obtain ⟨aa,vs,rfl,l1,r1⟩:=DB I ra ex
   obtain ⟨bb,ws,rfl,l2,r2⟩:=DB I rb ey
   exact .congr (e2.trans (CV ey)) (K9 C I l1 l2 r1 r2 ns')
 case Sub=>
  obtain ⟨i,j,rfl,rfl⟩:=BP (show BO _ a b ps≠.stuck from ns)
  obtain ⟨_,rfl⟩:=ra.inv;obtain ⟨_,rfl⟩:=rb.inv;exact K4 I
 case Mult=>
  have ns':Sf a b ps≠.stuck:=ns
  show Am W fm A V ps s _ (Sf a b)
  rcases Sg ns' with ⟨i,j,rfl,rfl⟩ | ⟨i,j,rfl,rfl⟩ | ⟨i,j,rfl,rfl⟩
  ·obtain ⟨_,rfl⟩:=ra.inv;obtain ⟨_,rfl⟩:=rb.inv;exact .orStuck ns' λhc U=>K5 I hc
  ·obtain ⟨_,rfl⟩:=ra.inv;obtain ⟨_,rfl⟩:=rb.inv;exact .orStuck ns' λhc ns=>La I hc ns
  ·obtain ⟨_,rfl⟩:=rb.inv
   have ns':ac (ar i) (λx=>am (Ag j) (ao (replicate j.toNat x).flatten)) ps≠.stuck:=ns'
   obtain ⟨x,ex,e1⟩:=Bl (Ad ns')
   rw [CV ex] at ns'
   exact .congr (CV ex) (.orStuck ns' λhc ns=>Lc C I ra ex hc ns)
 case FloorDiv=>
  obtain ⟨i,j,rfl,rfl⟩:=BP (show BO _ a b ps≠.stuck from ns)
  obtain ⟨_,rfl⟩:=ra.inv;obtain ⟨_,rfl⟩:=rb.inv;exact .orStuck ns λhc U=>K6 I hc
 case Mod=>
  obtain ⟨i,j,rfl,rfl⟩:=BP (show BO _ a b ps≠.stuck from ns)
  obtain ⟨_,rfl⟩:=ra.inv;obtain ⟨_,rfl⟩:=rb.inv;exact .orStuck ns λhc U=>K7 I hc
 case Pow=>
  obtain ⟨i,j,rfl,rfl⟩:=BP (show BO _ a b ps≠.stuck from ns)
  obtain ⟨_,rfl⟩:=ra.inv;obtain ⟨_,rfl⟩:=rb.inv;exact .orStuck ns λhc U=>Lb I hc
 all_goals exact absurd rfl ns
theorem Ld {st:List (List PV)}{av:List Addr}(L:ListsAt H h₀ av V st h)(k:Nat):(∀ (p:PV) (v:Value) (d:PyData),toD st k p=some d->RepV H h₀ av V h p v->∃ as,Reads h v d as) /\
  ∀ (l:List PV) (vs:List Value) (ds:List PyData),Dy st k l=some ds->RepL H h₀ av V h l vs->∃ as,ReadsAll h vs ds as:=by
 induction k with
 | zero=>exact ⟨λU U U e=>(by cases e),λU U U e=>(by cases e)⟩
 | succ k ih=>
  refine ⟨λp v d e r=>?_,λl vs ds e r=>?_⟩
  ·cases p with
   | none=>cases (show _=_ from r.inv);cases e;exact ⟨_,.none⟩
   | bool b=>cases (show _=_ from r.inv);cases e;exact ⟨_,.bool b⟩
   | int i=>obtain ⟨_,rfl⟩:=r.inv;cases e;exact ⟨_,.int i _⟩
   | str x=>obtain ⟨_,rfl⟩:=r.inv;cases e;exact ⟨_,.str _ _⟩
   | tup l=>
    obtain ⟨_,_,rfl,ha,hi,rs⟩:=r.inv
    obtain ⟨ds,e1,rfl⟩:=aU.mp (show (Dy st k l).map _=some _ from e)
    obtain ⟨as,q⟩:=ih.2 l _ ds e1 rs
    obtain ⟨o,o1,o2,m,o3⟩:=hi
    exact ⟨as,.tuple o1 o2 o3 (by simpa using q)⟩
   | lst i=>
    obtain ⟨_,rfl,hi⟩:=r.inv
    obtain ⟨l,q,e⟩:∃ l,st[i]? = some l/\(Dy st k l).map PyData.list=some _:=by
     have e:(match st[i]? with | some l=>(Dy st k l).map PyData.list | none=>none)=some _:=e
     cases q:st[i]? with
     | none=>rw [q] at e;cases e
     | some l=>rw [q] at e;exact ⟨l,rfl,e⟩
    obtain ⟨ds,e1,rfl⟩:=aU.mp (show (Dy st k l).map _=some _ from e)
    obtain ⟨a',vs,h1,h2,h3⟩:=L.at_ i l q
    rw [hi] at h1;cases h1
    obtain ⟨as,q⟩:=ih.2 l _ ds e1 h3
    obtain ⟨o,o1,o2,m,o3⟩:=h2.isList
    exact ⟨_,.list o1 o2 o3 (by simpa using q)⟩
   | _=>cases e
  ·cases r with
   | nil=>obtain rfl:=aT (show some []=some _ from e);exact ⟨_,.nil⟩
   | @cons p v l vs r rs=>
    have e:(match toD st k p,Dy st k l with
     | some d,some ds=>some (d::ds)
     | _,_=>none)=some _:=e
    cases q:toD st k p with
    | none=>rw [q] at e;cases e
    | some d=>
     cases q':Dy st k l with
     | none=>rw [q,q'] at e;cases e
     | some ds'=>
      rw [q,q'] at e;cases e
      obtain ⟨as,x⟩:=ih.1 p _ d q r
      obtain ⟨bs,y⟩:=ih.2 l _ ds' q' rs
      exact ⟨_,.cons x y⟩
theorem EP {st:List (List PV)}{av:List Addr}(L:ListsAt H h₀ av V st h)(k:Nat)(p:PV)(v:Value)(d:PyData)(e:toD st k p=some d)(r:RepV H h₀ av V h p v):∃ as,Reads h v d as:=(Ld L k).1 p v d e r
theorem EQ (x y:Txt):((txt x).cps.toList==(txt y).cps.toList)=(x==y):=by simp [txt]
theorem Ctx.u64 (C:Ctx W fm n A):A.units+64<cLine:=by have:=C.units;lia
theorem Pr {a b:PV}(ns:eqP a b ps≠.stuck):∃ r,eqP a b ps = .ok r ps/\(eqT a b=some r\/(eqT a b=none/\∃ x y,toD ps.st 64 a=some x/\toD ps.st 64 b=some y/\SeqAt.shaped x=true/\SeqAt.shaped y=true/\r=PyData.eqv x y)):=by
 unfold eqP at ns ⊢
 cases e:eqT a b with
 | some r=>exact ⟨r,rfl,.inl rfl⟩
 | none=>
  rw [e] at ns
  cases ex:toD ps.st 64 a with
  | none=>rw [ex] at ns;exact absurd rfl ns
  | some x=>
   cases ey:toD ps.st 64 b with
   | none=>rw [ex,ey] at ns;exact absurd rfl ns
   | some y=>
    rw [ex,ey] at ns
    by_cases q:(SeqAt.shaped x&&SeqAt.shaped y)=true
    ·have q':=and_eq_true_iff.mp q
     refine ⟨PyData.eqv x y,by simp only [q,if_true],.inr ⟨rfl,x,y,rfl,rfl,q'.1,q'.2,rfl⟩⟩
    ·simp only [q,if_false] at ns;exact absurd rfl ns
theorem Uz {a b:PV}{va vb:Value}(C:Ctx W fm n A)(I:InvS W fm V ps s)(ra:W.rep fm V s.heap a va)(rb:W.rep fm V s.heap b vb)(ns:eqP a b ps≠.stuck)
  {Q:Value->Shared->Prop} {E:Value->Shared->Prop} (h:∀ r,eqP a b ps = .ok r ps->Q (.bool r) s):wpAny W.m A (compareOp .Eq va vb) Q E s:=by
 obtain ⟨r,e,q⟩:=Pr ns
 rcases q with q | ⟨_,x,y,ex,ey,sx,sy,rfl⟩
 ·have h:=h r e
  clear e ns
  rcases Pm q with ⟨_,_,rfl,rfl,rfl⟩ | ⟨_,_,rfl,rfl,rfl⟩ | ⟨_,_,rfl,rfl,rfl⟩ | ⟨_,_,rfl,rfl,rfl⟩
  ·obtain ⟨_,rfl⟩:=ra.inv;obtain ⟨_,rfl⟩:=rb.inv;exact PySem.P.eq_str (by rw [EQ];exact h)
  ·obtain ⟨_,rfl⟩:=ra.inv;obtain ⟨_,rfl⟩:=rb.inv;exact PySem.P.eq_int h
  ·obtain ⟨_,rfl⟩:=ra.inv;obtain ⟨_,rfl⟩:=rb.inv;exact EqMixed.eq_int_str h
  ·obtain ⟨_,rfl⟩:=ra.inv;obtain ⟨_,rfl⟩:=rb.inv;exact EqMixed.eq_str_int h
 ·obtain ⟨as,x1⟩:=EP I.inv.lists _ _ _ _ ex ra
  obtain ⟨bs,x2⟩:=EP I.inv.lists _ _ _ _ ey rb
  exact SeqAt.compareEq_shaped x1 x2 sx sy C.u64 (h _ e)
theorem UA {a b:PV}{va vb:Value}(C:Ctx W fm n A)(I:InvS W fm V ps s)(ra:W.rep fm V s.heap a va)(rb:W.rep fm V s.heap b vb)(ns:eqP a b ps≠.stuck)
  {Q:Value->Shared->Prop} {E:Value->Shared->Prop} (h:∀ r,eqP a b ps = .ok r ps->Q (.bool (!r)) s):wpAny W.m A (compareOp .NotEq va vb) Q E s:=by
 obtain ⟨r,e,q⟩:=Pr ns
 rcases q with q | ⟨_,x,y,ex,ey,sx,sy,rfl⟩
 ·have h:=h r e
  clear e ns
  rcases Pm q with ⟨_,_,rfl,rfl,rfl⟩ | ⟨_,_,rfl,rfl,rfl⟩ | ⟨_,_,rfl,rfl,rfl⟩ | ⟨_,_,rfl,rfl,rfl⟩
  ·obtain ⟨_,rfl⟩:=ra.inv;obtain ⟨_,rfl⟩:=rb.inv;exact PySem.P.ne_str (by rw [bne,EQ];exact h)
  ·obtain ⟨_,rfl⟩:=ra.inv;obtain ⟨_,rfl⟩:=rb.inv;exact PySem.P.ne_int (by rw [bne];exact h)
  ·obtain ⟨_,rfl⟩:=ra.inv;obtain ⟨_,rfl⟩:=rb.inv;exact EqMixed.ne_int_str h
  ·obtain ⟨_,rfl⟩:=ra.inv;obtain ⟨_,rfl⟩:=rb.inv;exact EqMixed.ne_str_int h
 ·obtain ⟨as,x1⟩:=EP I.inv.lists _ _ _ _ ex ra
  obtain ⟨bs,x2⟩:=EP I.inv.lists _ _ _ _ ey rb
  exact SeqAt.compareNe_shaped x1 x2 sx sy C.u64 (h _ e)
theorem Sn {a b:PV}{va vb:Value}{r:Bool}(e:eqI a b=some r)(ra:W.rep fm V s.heap a va)(rb:W.rep fm V s.heap b vb):SeqAt.EqAt A s va vb r:=by
 rcases Pn e with ⟨_,_,rfl,rfl,rfl⟩ | ⟨_,_,rfl,rfl,rfl⟩
 ·obtain ⟨_,rfl⟩:=ra.inv;obtain ⟨_,rfl⟩:=rb.inv;rw [<- MC];exact (eqGives_str _ _ _ _).at A s
 ·obtain ⟨_,rfl⟩:=ra.inv;obtain ⟨_,rfl⟩:=rb.inv;exact (MeetsSeq.EqGives.int _ _ _ _).at A s
def JC:Value->Value->Bool
 | .str y _,.str x _=>y==x
 | .int y _,.int x _=>y==x
 | _,_=>false
theorem Ps {a b:PV}{va vb:Value}{r:Bool}(e:eqI a b=some r)(ra:W.rep fm V s.heap a va)(rb:W.rep fm V s.heap b vb):JC va vb=r:=by
 rcases Pn e with ⟨_,_,rfl,rfl,rfl⟩ | ⟨_,_,rfl,rfl,rfl⟩
 ·obtain ⟨_,rfl⟩:=ra.inv;obtain ⟨_,rfl⟩:=rb.inv;exact MC _ _
 ·obtain ⟨_,rfl⟩:=ra.inv;obtain ⟨_,rfl⟩:=rb.inv;rfl
theorem MD {x:PV}{vx:Value}{l:List PV}{vs:List Value}{r:Bool}(e:inL x l=some r)(rx:W.rep fm V s.heap x vx)(rl:RepL W.H W.h₀ fm.av V s.heap l vs):(∀ y∈vs,∀ A,SeqAt.EqAt A s y vx (JC y vx))/\vs.any (JC · vx)=r:=by
 revert r
 refine rl.ind (P:=λl vs=>∀ {r:Bool},inL x l=some r->(∀ y∈vs,∀ A,SeqAt.EqAt A s y vx (JC y vx))/\vs.any (JC · vx)=r) (λe=>?_) λy v l vs q qs ih r e=>?_
 ·obtain rfl:=aT e
  exact ⟨λU h=>(by cases h),rfl⟩
 ·have e:(match eqI y x,inL x l with
   | some a,some b=>some (a||b)
   | _,_=>none)=some r:=e
  cases e1:eqI y x with
  | none=>rw [e1] at e;cases e
  | some a=>
   cases e2:inL x l with
   | none=>rw [e1,e2] at e;cases e
   | some b=>
    rw [e1,e2] at e
    obtain rfl:=aT e
    obtain ⟨h1,h2⟩:=ih e2
    have h3:=Ps e1 q rx
    refine ⟨λz hz A=>?_,by rw [List.any_cons,h2,h3]⟩
    rcases mem_cons.mp hz with rfl | hz
    ·rw [h3];exact Sn e1 q rx
    ·exact h1 z hz A
theorem ME (x y:Txt):(!(Builtin.Str.occurrences (txt x) (txt y) 0 (txt x).length 1).isEmpty)=GA y x:=by
 rw [Bool.eq_iff_iff]
 rw [StrLaws.found_iff]
 unfold GA
 simp only [any_eq_true,mem_range,AC]
 constructor
 ·rintro ⟨i,h1,h2⟩
  refine ⟨i,by exact la [_,_,_] [([2,4,0],[6])] ([2,3,0],[6,3,0]) rfl h1,?_⟩
  rw [StrLaws.subAt_eq] at h2
  simpa [txt,Str.length] using h2
 ·rintro ⟨i,h1,h2⟩
  have h3:(x.drop i).take y.length=y:=by simpa using h2
  have h4:((x.drop i).take y.length).length=y.length:=by rw [h3]
  rw [length_take,length_drop] at h4
  refine ⟨i,by exact la [_,_,_,_,_] [([2],[4]),([4],[6]),([6,8,0],[10])] ([8,2,0],[10]) rfl (aS h4.symm) (Nat.min_le_right _ _) (Mi.lcC (la [_,_] [([2,3,0],[4,3,0])] ([2],[4]) rfl h1)),?_⟩
  rw [StrLaws.subAt_eq]
  simpa [txt,Str.length] using h2
theorem DC {β:Type}{o:Option β}(ns:aw o ps≠.stuck):∃ a,o=some a/\aw o ps = .ok a ps:=by
 unfold aw at ns ⊢
 cases o with
 | none=>exact absurd rfl ns
 | some a=>exact ⟨a,rfl,rfl⟩
theorem JD {p:PV}{v:Value}(r:W.rep fm V h p v):plainIs v .none=true/\(v==.none)=IC p:=by
 cases r <;> exact ⟨rfl,rfl⟩
theorem ER (k:Nat)(x:Txt):Fl k (txt x)=JB k x:=by simp [Fl,txt]
theorem Hd.At.set {H:Hd}(X:H.At h₀)(b:∀ b o,h₀.get? b=some o->h.get? b=some o)(k:Nat){a:Addr}(e:H.setv k=some a):∃ n,FrozAt (strKind H.prog H.w) h a (Fl k) n/\n<4096:=by
 obtain ⟨n,⟨es,ep,t,h1,r⟩,h2⟩:=X.sets k a e
 exact ⟨n,⟨es,ep,t,b _ _ h1,r⟩,h2⟩
theorem IF {prog:Program}{w:World}{a:Addr}{S:Str->Bool}{m:Nat}{x:Str}{t:Tok}{Q:Bool->Shared->Prop}{E:Value->Shared->Prop}(hS:FrozAt (strKind prog w) s.heap a S m)(hm:m<4096)
  (h:Q (S x) { s with toks:=s.toks+1 }):wpAny (model prog w) A (setContains a (.str x t)) Q E s:=by
 obtain ⟨es,ep,tt,ho,hel,hmem,hn,hf⟩:=hS
 have hkey:(strKind prog w).is x (.str x t)=true:=strKind_is prog w x t
 unfold setContains
 refine bf ?_
 refine bg ((strKind prog w).pyHash hkey ?_)
 refine bg (setFind_any (s:={ s with toks:=s.toks+1 }) hkey rfl ho rfl hel hmem (by rw [hn];exact hm) hf λr hr=>?_)
 refine bh ?_
 rw [hr];exact h
theorem Pt {prog:Program}{w:World}{a:Addr}{S:Str->Bool}{m:Nat}{x:Str}{t:Tok}{Q:Bool->Shared->Prop}{E:Value->Shared->Prop}(hS:FrozAt (strKind prog w) s.heap a S m)(hm:m<4096)
  (h:Q (S x) { s with toks:=s.toks+1 }):wpAny (model prog w) A (contains (.ref a) (.str x t)) Q E s:=by
 have hT:s.TypeIs (.ref a) "frozenset":=by obtain ⟨es,ep,tt,ho,_⟩:=hS;exact ⟨_,ho,rfl⟩
 unfold contains
 try with_reducible refine bf ?_
 refine bg (wpAny_specialOf hT FB.slot_frozenset_contains.lookup ?_)
 show wpAny _ _ (if (some (Value.builtin "frozenset.__contains__")==some Value.none)=true then _ else _) _ E s
 rw [if_neg (by rw [beq_builtin_none];exact Bool.false_ne_true)]
 refine bg (wpAny_callSpecialUnlessNone?_slot (name:=Str.ofString "__contains__") hT FB.slot_frozenset_contains
  (wpAny_call_entry FB.slot_frozenset_contains hT FB.entry_frozenset_contains ?_ (FB.args_frozenset_contains_2 _ _)))
 unfold Builtin.«frozenset.__contains__» Builtin.Frozenset.oneOther
 simp only [isEmpty_nil,bind_assoc]
 unfold Builtin.Frozenset.addrOf Builtin.Frozenset.withSetAsKey
 refine bg (bh ?_)
 try dsimp only
 refine bg (bh ?_)
 try dsimp only
 refine bg (wpAny_tryCatch ?_)
 refine IF hS hm ?_
 show wpAny _ _ (ret (Value.bool (S x))) _ _ _
 exact bh ⟨_,rfl,wpAny_truthy_bool h⟩
theorem RepL.inv' {H:Hd}{h₀:Heap}{av V:List Addr}{h:Heap}{l:List PV}{v:Value}{vs:List Value}(r:RepL H h₀ av V h l (v::vs)):∃ p l',l=p::l'/\RepV H h₀ av V h p v/\RepL H h₀ av V h l' vs:=by
 cases r with
 | cons r rs=>exact ⟨_,_,rfl,r,rs⟩
theorem RepL.nil' {H:Hd}{h₀:Heap}{av V:List Addr}{h:Heap}{l:List PV}(r:RepL H h₀ av V h l []):l=[]:=by
 cases r
 rfl
theorem GC {K:Type}[DecidableEq K]{prog:Program}{w:World}{knd:KeyKind prog w K}(enc:K->PV)(he:∀ a b,eqI (enc a) (enc b)=some (decide (a=b)))(hw:∀ {k:K} {v:Value},W.rep fm V h (enc k) v->knd.is k v=true)
  (hi:∀ {p:PV} {v:Value} {k:K},W.rep fm V h p v->knd.is k v=true->p=enc k) :
  ∀ {es:List DictEntry} {ks vs:List PV} {x:K} {r:Option PV},RepL W.H W.h₀ fm.av V h ks (es.map (·.key))->RepL W.H W.h₀ fm.av V h vs (es.map (·.val))->(∀ e∈es,∃ k,knd.is k e.key=true)->CU ks vs (enc x)=some r ->
   match r with
   | none=>es.find? (λe=>knd.is x e.key)=none
   | some p=>∃ e,es.find? (λe=>knd.is x e.key)=some e/\W.rep fm V h p e.val:=by
 intro es
 induction es with
 | nil=>
  intro ks vs x r r1 _ _ e
  obtain rfl:=r1.nil'
  obtain rfl:=aT e
  rfl
 | cons d es ih=>
  intro ks vs x r r1 r2 hk e
  obtain ⟨p,ks,rfl,r1,rs1⟩:=RepL.inv' (v:=d.key) (vs:=es.map (·.key)) r1
  obtain ⟨u,vs,rfl,r2,rs2⟩:=RepL.inv' (v:=d.val) (vs:=es.map (·.val)) r2
  obtain ⟨k,hk0⟩:=hk d mem_cons_self
  obtain rfl:p=enc k:=hi r1 hk0
  have e:(match eqI (enc k) (enc x) with
   | some true=>some (some u)
   | some false=>CU ks vs (enc x)
   | none=>none)=some r:=e
  rw [he] at e
  by_cases q:k=x
  ·subst q
   rw [decide_eq_true rfl] at e
   obtain rfl:=aT e
   exact ⟨d,by rw [find?_cons,hk0],r2⟩
  ·rw [decide_eq_false q] at e
   have:knd.is x d.key=false:=by
    cases z:knd.is x d.key with
    | false=>rfl
    | true=>exact absurd (knd.inj _ _ _ hk0 z) q
   have ih:=ih rs1 rs2 (λe he=>hk e (mem_cons_of_mem _ he)) e
   rw [find?_cons,this]
   exact ih
theorem RepV.atom {p:PV}{v:Value}(r:W.rep fm V h p v):(∃ a,v = .ref a)\/(∃ i t,p = .int i/\v = .int i t)\/(∃ s t,p = .str s/\v = .str (txt s) t)\/v = .none\/∃ b,v = .bool b:=by
 cases r
 ·exact .inr (.inr (.inr (.inl rfl)))
 ·exact .inr (.inr (.inr (.inr ⟨_,rfl⟩)))
 ·exact .inr (.inl ⟨_,_,rfl,rfl⟩)
 ·exact .inr (.inr (.inl ⟨_,_,rfl,rfl⟩))
 all_goals exact .inl ⟨_,rfl⟩
theorem GD {k:Str}{p:PV}{v:Value}(r:W.rep fm V h p v)(hk:Value.isStrOf k v=true):p = .str k.cps.toList:=by
 obtain ⟨t,e⟩:=Value.isStrOf_shape hk
 rcases RepV.atom r with ⟨_,z⟩ | ⟨_,_,_,z⟩ | ⟨s,_,rfl,z⟩ | z | ⟨_,z⟩ <;> rw [z] at e <;> injection e
 subst k
 rfl
theorem GE {k:Int}{p:PV}{v:Value}(r:W.rep fm V h p v)(hk:Value.isInt k v=true):p = .int k:=by
 obtain ⟨t,e⟩:=Value.isInt_shape hk
 rcases RepV.atom r with ⟨_,z⟩ | ⟨i,_,rfl,z⟩ | ⟨_,_,_,z⟩ | z | ⟨_,z⟩ <;> rw [z] at e <;> injection e
 subst k
 rfl
theorem GF {a:Addr}{vs:Array Value}(x:IsTup h a vs):h.IsTuple a vs:=x
theorem MF {K:Type}[DecidableEq K]{prog:Program}{w:World}{knd:KeyKind prog w K}{a:Addr}{o:Obj}{es:Array DictEntry}{ep:Nat}{k:K}{key:Value}{Q:Value->Shared->Prop}{E:Value->Shared->Prop}{op:CmpOp}(hop:op = .In\/op = .NotIn){r:Bool}
  (hs:(a==sysModules)=false) (ho:s.heap.get? a=some o) (hx:o.ExactDict) (hd:o.data = .dict es ep) (hk:KeysOf knd es) (hkey:knd.is k key=true) (hr:(es.toList.find? (λe=>knd.is k e.key)).isSome=r)
  (h:Q (.bool (if op = .In then r else !r)) { s with toks:=s.toks+1 }):wpAny (model prog w) A (compareOp op key (.ref a)) Q E s:=by
 have hm:s.heap.MapOf knd a (λk=>findBy knd.is es k):=⟨o,es,ep,ho,hx,hd,hk,λU=>rfl⟩
 have e:(findBy knd.is es k).isSome=r:=by
  rw [<- hr];unfold findBy;rw [Option.isSome_map]
  obtain ⟨l⟩:=es
  simp
 rcases hop with rfl | rfl
 ·exact wpAny_in_of hkey hs hm (by rw [e];exact h)
 ·exact wpAny_notIn_of hkey hs hm (by rw [e];exact h)
theorem HS {K:Type}[DecidableEq K]{prog:Program}{w:World}{knd:KeyKind prog w K}{es:Array DictEntry}(hk:KeysOf knd es):∀ e∈es.toList,∃ k,knd.is k e.key=true:=
 λe he=>let ⟨k,h1,_⟩:=hk e (Array.mem_toList_iff.mp he);⟨k,h1⟩
theorem GG {ks vs:List PV}{es:Array DictEntry}{x:Txt}{r:Option PV}(hk:KeysOf (strKind W.H.prog W.H.w) es)
   (rk:RepL W.H W.h₀ fm.av V h ks (es.toList.map (·.key))) (rv:RepL W.H W.h₀ fm.av V h vs (es.toList.map (·.val))) (e:CU ks vs (.str x)=some r) :
   match (generalizing:=false) r with
   | none=>es.toList.find? (λe=>(strKind W.H.prog W.H.w).is (txt x) e.key)=none
   | some p=>∃ e,es.toList.find? (λe=>(strKind W.H.prog W.H.w).is (txt x) e.key)=some e/\W.rep fm V h p e.val:=by
 refine GC (W:=W) (fm:=fm) (V:=V) (h:=h) (knd:=strKind W.H.prog W.H.w) (λk=>.str k.cps.toList) (λa b=>?_) (λ{k v} r=>?_) (λr q=>GD r q) rk rv (HS hk) (x:=txt x) (by simpa [txt] using e)
 ·show some (a.cps.toList==b.cps.toList)=_
  rw [SeqAt.str_beq]
  by_cases q:a=b
  ·subst q;simp [beq_iff_eq.mpr rfl]
  ·rw [beq_eq_false_iff_ne.mpr q];simp [q]
 ·obtain ⟨t,e⟩:=r.inv
  rw [e,Bn]
  exact strKind_is _ _ _ _
theorem GH {ks vs:List PV}{es:Array DictEntry}{x:Int}{r:Option PV}(hk:KeysOf (intKind W.H.prog W.H.w) es)
   (rk:RepL W.H W.h₀ fm.av V h ks (es.toList.map (·.key))) (rv:RepL W.H W.h₀ fm.av V h vs (es.toList.map (·.val))) (e:CU ks vs (.int x)=some r) :
   match (generalizing:=false) r with
   | none=>es.toList.find? (λe=>(intKind W.H.prog W.H.w).is x e.key)=none
   | some p=>∃ e,es.toList.find? (λe=>(intKind W.H.prog W.H.w).is x e.key)=some e/\W.rep fm V h p e.val:=by
 refine GC (W:=W) (fm:=fm) (V:=V) (h:=h) (knd:=intKind W.H.prog W.H.w) (λk=>.int k) (λa b=>?_) (λ{k v} r=>?_) (λr q=>GE r q) rk rv (HS hk) e
 ·show some (a==b)=_
  congr 1
 ·obtain ⟨_,rfl⟩:=r.inv
  exact intKind_is _ _ _ _
theorem FR {K:Type}[DecidableEq K]{knd:KeyKind W.H.prog W.H.w K}(enc:K->PV)(hs:∀ {q:PV} {v:Value} {k:K},W.rep fm V h q v->knd.is k v=true->q=enc k){ks vs:List PV}{es:Array DictEntry}{p:PV}{r:Option PV}(hk:KeysOf knd es)(rk:RepL W.H W.h₀ fm.av V h ks (es.toList.map (·.key)))(e:Dc ks vs p=some r) :
  ∃ k r,eqI (enc k) p=some r:=by
 cases ks with
 | nil=>injection e
 | cons k ks=>
  cases hl:es.toList with
  | nil=>rw [hl] at rk;cases rk
  | cons d l=>
   rw [hl] at rk
   obtain ⟨_,_,ez,q,qs⟩:=rk.inv
   obtain ⟨kk,h1,_⟩:=hk d (Array.mem_toList_iff.mp (by rw [hl];exact mem_cons_self))
   rw [<- (List.cons.inj ez).1] at q
   obtain rfl:=hs q h1
   refine ⟨kk,?_⟩
   cases z:eqI (enc kk) p with
   | some r=>exact ⟨r,rfl⟩
   | none=>
    cases vs with
    | nil=>injection e
    | cons w vs=>
     have e:(match eqI (enc kk) p with
      | some true=>some (some w)
      | some false=>CU ks vs p
      | none=>none)=some r:=e
     rw [z] at e;injection e
theorem Em {ks vs:List PV}{es:Array DictEntry}{p:PV}{v:Value}{r:Option PV}(hk:KeysOf (strKind W.H.prog W.H.w) es)(rk:RepL W.H W.h₀ fm.av V h ks (es.toList.map (·.key)))(rp:W.rep fm V h p v)(e:Dc ks vs p=some r) :
  ∃ x,p = .str x:=by
 obtain ⟨k,_,e⟩:=FR (λk:Str=>.str k.cps.toList) (λq e=>GD q e) hk rk e
 obtain ⟨t,e,_⟩:=aU.mp (show (asS p).map _=_ from e)
 exact ⟨t,A8 e⟩
theorem DD {ks vs:List PV}{es:Array DictEntry}{p:PV}{v:Value}{r:Option PV}(hk:KeysOf (intKind W.H.prog W.H.w) es)(rk:RepL W.H W.h₀ fm.av V h ks (es.toList.map (·.key)))(rp:W.rep fm V h p v)(e:Dc ks vs p=some r) :
  ∃ x,p = .int x:=by
 obtain ⟨k,_,e⟩:=FR (λk:Int=>.int k) (λq e=>GE q e) hk rk e
 obtain ⟨t,e,_⟩:=aU.mp (show (asI p).map _=_ from e)
 exact ⟨t,AR e⟩
theorem JE {x:PV}{y:PV}(ns:inP x y ps≠.stuck):∃ r,inP x y ps = .ok r ps:=by
 cases y with
 | str b=>obtain ⟨a,e⟩:=A2 ns;rw [A8 e];exact ⟨_,rfl⟩
 | fset k=>obtain ⟨a,e⟩:=A2 ns;rw [A8 e];exact ⟨_,rfl⟩
 | lst i=>
  obtain ⟨l,e,e'⟩:=Bl (Ad ns)
  have ns:ac (ar i) (λl=>aw (inL x l)) ps≠.stuck:=ns
  rw [CV e] at ns
  obtain ⟨a,_,q⟩:=DC ns
  exact ⟨a,(CV e).trans q⟩
 | tup l=>obtain ⟨a,_,q⟩:=DC ns;exact ⟨a,q⟩
 | dct ks vs=>obtain ⟨a,_,q⟩:=DC ns;exact ⟨a,q⟩
 | _=>exact absurd rfl ns
theorem Cd {ks vs:List PV}{p:PV}{r:Option PV}(e:Dc ks vs p=some r):CU ks vs p=some r:=by
 unfold Dc at e
 split at e
 ·cases e
 ·exact e
def inR (op:CmpOp)(r:Bool):Bool:=if op = .In then r else !r
theorem Pu {op:CmpOp}(hop:op = .In\/op = .NotIn){a b:PV}{va vb:Value}(C:Ctx W fm n A)(I:InvS W fm V ps s)(ra:W.rep fm V s.heap a va)(rb:W.rep fm V s.heap b vb){r:Bool}(e:inP a b ps = .ok r ps)
  {Q:Value->Shared->Prop} {E:Value->Shared->Prop} (h:∀ tk,Q (.bool (inR op r)) { s with toks:=tk }):wpAny W.m A (compareOp op va vb) Q E s:=by
 have h0:Q (.bool (inR op r)) s:=h s.toks
 cases b with
 | str b=>
  obtain ⟨x,ea⟩:=Pl e
  obtain rfl:=A8 ea
  cases e;obtain ⟨_,rfl⟩:=ra.inv;obtain ⟨_,rfl⟩:=rb.inv
  rcases hop with rfl | rfl
  ·exact PySem.P.in_str (by rw [ME];exact h0)
  ·exact PySem.P.notIn_str (by rw [ME];exact h0)
 | fset k=>
  obtain ⟨x,ea⟩:=Pl e
  obtain rfl:=A8 ea
  cases e;obtain ⟨tk,rfl⟩:=ra.inv;obtain ⟨a,rfl,hka⟩:=rb.inv
  obtain ⟨m,hS,hm⟩:=C.hd.set I.inv.base k hka
  rcases hop with rfl | rfl
  ·show wpAny _ _ (do return Value.bool (<- contains (.ref a) (.str (txt x) tk))) _ _ s
   exact bg (Pt hS hm (bh (by rw [ER];exact h _)))
  ·show wpAny _ _ (do return Value.bool (!(<- contains (.ref a) (.str (txt x) tk)))) _ _ s
   exact bg (Pt hS hm (bh (by rw [ER];exact h _)))
 | lst i=>
  have e:ac (ar i) (λl=>aw (inL a l)) ps = .ok r ps:=e
  have ns:ar i ps≠.stuck:=by
   intro q;unfold ac at e;rw [q] at e;cases e
  obtain ⟨l,el,_⟩:=Bl ns
  rw [CV el] at e
  obtain ⟨aa,vs,rfl,hl,rl⟩:=DB I rb el
  have:inL a l=some r:=by
   have e:aw (inL a l) ps = .ok r ps:=e
   unfold aw at e
   cases q:inL a l with
   | none=>rw [q] at e;cases e
   | some z=>rw [q] at e;cases e;rfl
  obtain ⟨k1,k2⟩:=MD this ra rl
  rcases hop with rfl | rfl
  ·exact SeqAt.in_listAt _ hl (λy hy=>k1 y (by simpa using hy) _) (by simpa [k2,inR] using h0)
  ·exact SeqAt.notIn_listAt _ hl (λy hy=>k1 y (by simpa using hy) _) (by simpa [k2,inR] using h0)
 | tup l=>
  obtain ⟨_,_,rfl,hna,hi,rl⟩:=rb.inv
  have:inL a l=some r:=by
   have e:aw (inL a l) ps = .ok r ps:=e
   unfold aw at e
   cases q:inL a l with
   | none=>rw [q] at e;cases e
   | some z=>rw [q] at e;cases e;rfl
  obtain ⟨k1,k2⟩:=MD this ra rl
  rcases hop with rfl | rfl
  ·exact SeqAt.in_tupleAt _ (GF hi) (λy hy=>k1 y (by simpa using hy) _) (by simpa [k2,inR] using h0)
  ·exact SeqAt.notIn_tupleAt _ (GF hi) (λy hy=>k1 y (by simpa using hy) _) (by simpa [k2,inR] using h0)
 | dct ks vs=>
  have:∃ z,Dc ks vs a=some z/\z.isSome=r:=by
   have e:aw ((Dc ks vs a).map (·.isSome)) ps = .ok r ps:=e
   unfold aw at e
   cases q:Dc ks vs a with
   | none=>rw [q] at e;cases e
   | some z=>rw [q] at e;cases e;exact ⟨z,rfl,rfl⟩
  obtain ⟨z,ez,rfl⟩:=this
  obtain ⟨_,o,es,ep,rfl,hna,ho,hx,hd,hk,rk,rv⟩:=rb.inv
  rcases hk with hk | hk
  ·obtain ⟨x,rfl⟩:=Em hk rk ra ez
   ·obtain ⟨_,rfl⟩:=ra.inv
    refine MF hop hna.2 ho hx hd hk (strKind_is _ _ _ _) ?_ (h _)
    have:=GG hk rk rv (Cd ez)
    cases z with
    | none=>simp only at this;rw [this];rfl
    | some p=>obtain ⟨e,e1,_⟩:=this;rw [e1];rfl
  ·obtain ⟨x,rfl⟩:=DD hk rk ra ez
   ·obtain ⟨_,rfl⟩:=ra.inv
    refine MF hop hna.2 ho hx hd hk (intKind_is _ _ _ _) ?_ (h _)
    have:=GH hk rk rv (Cd ez)
    cases z with
    | none=>simp only at this;rw [this];rfl
    | some p=>obtain ⟨e,e1,_⟩:=this;rw [e1];rfl
 | _=>injection e
theorem IG (op:CmpOp):OpOk W n fm (compareOp op) (Ao op):=by
 refine .mk ?_
 intro A V ps s a b va vb C I ra rb ns
 have key:∀ {m:M Bool} {f:Bool->M PV} {r:Bool},m ps = .ok r ps->(∀ r,f r=ae (PV.bool (inR op r)))->∀ tk,OkE W fm V s.heap (ac m f ps) (.bool (inR op r)) { s with toks:=tk }:=λe hf tk=>by
  rw [Ac e,hf];exact .same I (.bool _)
 cases op with
 | Eq=>
  have ns':ac (eqP a b) (λr=>ae (PV.bool r)) ps≠.stuck:=ns
  exact Uz C I ra rb (Ad ns') λr e=>by
   show OkE W fm V s.heap (ac (eqP a b) (λr=>ae (PV.bool r)) ps) _ _
   rw [Ac e];exact .same' I (.bool _)
 | NotEq=>
  have ns':ac (eqP a b) (λr=>ae (PV.bool !r)) ps≠.stuck:=ns
  exact UA C I ra rb (Ad ns') λr e=>by
   show OkE W fm V s.heap (ac (eqP a b) (λr=>ae (PV.bool !r)) ps) _ _
   rw [Ac e];exact .same' I (.bool _)
 | In=>
  have ns':ac (inP a b) (λr=>ae (PV.bool r)) ps≠.stuck:=ns
  obtain ⟨r,e⟩:=JE (Ad ns')
  exact Pu (.inl rfl) C I ra rb e λtk=>key e (λU=>rfl) tk
 | NotIn=>
  have ns':ac (inP a b) (λr=>ae (PV.bool !r)) ps≠.stuck:=ns
  obtain ⟨r,e⟩:=JE (Ad ns')
  exact Pu (.inr rfl) C I ra rb e λtk=>key e (λU=>rfl) tk
 | Lt=>
  obtain ⟨i,j,rfl,rfl⟩:=BP (show BO _ a b ps≠.stuck from ns)
  obtain ⟨_,rfl⟩:=ra.inv;obtain ⟨_,rfl⟩:=rb.inv
  exact PySem.P.lt_int (.same' I (.bool _))
 | LtE=>
  obtain ⟨i,j,rfl,rfl⟩:=BP (show BO _ a b ps≠.stuck from ns)
  obtain ⟨_,rfl⟩:=ra.inv;obtain ⟨_,rfl⟩:=rb.inv
  exact PySem.P.le_int (.same' I (.bool _))
 | Gt=>
  obtain ⟨i,j,rfl,rfl⟩:=BP (show BO _ a b ps≠.stuck from ns)
  obtain ⟨_,rfl⟩:=ra.inv;obtain ⟨_,rfl⟩:=rb.inv
  exact PySem.P.gt_int (.same' I (.bool _))
 | GtE=>
  obtain ⟨i,j,rfl,rfl⟩:=BP (show BO _ a b ps≠.stuck from ns)
  obtain ⟨_,rfl⟩:=ra.inv;obtain ⟨_,rfl⟩:=rb.inv
  exact PySem.P.ge_int (.same' I (.bool _))
 | Is=>
  cases b <;> (try exact absurd rfl ns)
  obtain ⟨h1,h2⟩:=JD ra
  cases (show _=_ from rb.inv)
  exact wpAny_is_plain h1 (by rw [h2];exact .same' I (.bool _))
 | IsNot=>
  cases b <;> (try exact absurd rfl ns)
  obtain ⟨h1,h2⟩:=JD ra
  cases (show _=_ from rb.inv)
  refine wpAny_isNot_plain h1 ?_
  rw [h2]
  exact .same' I (.bool _)
theorem Gg {x:Str}{k:Nat}{pos:Pos}:SimE W n fm (.Constant (.str x) k pos) (ae (.str x.cps.toList)):=.mk λA V ps s C I ns=>
 show wpAny _ _ (mkText x) _ _ _ from wpAny_mkText (OkE.same I (by
  have:=RepV.str (H:=W.H) (h₀:=W.h₀) (av:=fm.av) (V:=V) (h:=s.heap) x.cps.toList s.toks
  rwa [Bn] at this))
theorem B1 {b:Bool}{k:Nat}{pos:Pos}:SimE W n fm (.Constant (.bool b) k pos) (ae (.bool b)):=.mk λA V ps s C I ns=>
 show wpAny _ _ (pure (Value.bool b)) _ _ _ from bh (.same' I (.bool b))
theorem IH {i:Nat}(ns:af i ps≠.stuck):∃ v,ps.loc i=some v/\af i ps = .ok v ps:=by
 unfold af at ns ⊢
 cases e:ps.loc i with
 | none=>rw [e] at ns;exact absurd rfl ns
 | some v=>exact ⟨v,rfl,rfl⟩
theorem GI {x:Str}{k:NameKind}{i:Nat}(C:Ctx W fm n A)(I:InvS W fm V ps s)(hm:(x,k,i)∈fm.sc)(hk:k = .local\/k = .cell\/k = .free)(hc:(x==("__classdict__":Str))=false){p:PV}(e:ps.loc i=some p)
  {Q:Value->Shared->Prop} {E:Value->Shared->Prop} (h:∀ v,W.rep fm V s.heap p v->Q v s):wpAny W.m A (loadName fm.env x) Q E s:=by
 have kd:=C.fm.kinds x k i hm
 rcases hk with rfl | hk
 ·have kd:=C.fm.kindX hm (by decide)
  obtain ⟨m,n1,n2⟩:=I.inv.loc
  have q:=n2 x i hm
  rw [e] at q
  cases hv:m x with
  | none=>rw [hv] at q;cases q
  | some v=>
   rw [hv] at q
   cases q with
   | some r=>exact wpAny_loadName_local C.fm.kind kd n1 hv (h v r)
 ·obtain ⟨c,v,h1,h2,h3,h4,h5⟩:=I.inv.cel x k i hm hk
  rw [e] at h5
  cases h5 with
  | some r=>
   rcases hk with rfl | rfl
   ·exact wpAny_loadName_cell C.fm.kind (C.fm.kindX hm (by decide)) h1 h4 (h _ r)
   ·rcases kd with kd | ⟨_,kd⟩
    ·exact wpAny_loadName_free C.fm.kind kd h1 h4 (h _ r) hc
    ·exact wpAny_loadName_cell C.fm.kind kd h1 h4 (h _ r)
theorem Gh {x:Str}{k:NameKind}{i:Nat}{pos:Pos}(hm:(x,k,i)∈fm.sc)(hk:k = .local\/k = .cell\/k = .free)(hc:(x==("__classdict__":Str))=false)(hd:(x==("__debug__":Str))=false) :
  SimE W n fm (.Name x pos) (af i):=.mk λA V ps s C I ns=>by
 obtain ⟨p,e,e'⟩:=IH ns
 unfold Am
 rw [e']
 exact wpAny_Name (GI C I hm hk hc e λv r=>.same' I r) hd
theorem GJ {x:Str}{i:Nat}{pos:Pos}{p:PV}{v:Value}(hm:(x,NameKind.globalImplicit,i)∈fm.sc)(hv:W.H.mg x=some v)(hr:∀ V h,W.rep fm V h p v)(hd:(x==("__debug__":Str))=false) :
  SimE W n fm (.Name x pos) (ae p):=.mk λA V ps s C I ns=>
 Calls.Name_function_global C.fm.kind (C.fm.kindX hm (by decide)) (Calls.loadGlobal_global (env:=fm.env) (by rw [C.fm.glob];exact C.hd.g.keeps I.inv.base) hv (.same' I (hr _ _))) hd
theorem Ae {l r:Expr}{op:Operator}{pos:Pos}{ml mr:M PV}(hl:SimE W n fm l ml)(hr:SimE W n fm r mr) :
  SimE W n fm (.BinOp l op r pos) (ac ml λa=>ac mr λb=>Ai op a b):=.mk λA V ps s C I ns=>by
 refine wpAny_BinOp (Am.seq (hl A V ps s C I (Ad ns)) (λa va α₁ o0 c0 w0 d0 u0 ra y0=>?_) λx c0 q=>q.bind)
 rw [Ac y0] at ns ⊢
 refine Am.seq (hr A α₁ o0 c0 C w0 (Ad ns)) (λb vb X0 Z1 z0 Y1 Y0 Z0 rb W1=>?_) λx c0 q=>q.bind.after d0 u0
 rw [Ac W1] at ns ⊢
 exact aW (Uy op A X0 Z1 z0 a b va vb C Y1 (w0.stays C Z0 Y0 ra) rb ns) (λU U q=>(q.after Y0 Z0).after d0 u0) (λU U q=>(q.after Y0 Z0).after d0 u0)
theorem So {l r:Expr}{op:CmpOp}{pos:Pos}{ml mr:M PV}(hl:SimE W n fm l ml)(hr:SimE W n fm r mr)(hm:behindInMarks op r=false) :
  SimE W n fm (.Compare l [op] [r] pos) (ac ml λa=>ac mr λb=>Ao op a b):=.mk λA V ps s C I ns=>by
 refine wpAny_Compare1 (Am.seq (hl A V ps s C I (Ad ns)) (λa va α₁ o0 c0 w0 d0 u0 ra y0=>?_) λx c0 q=>q.bind) hm
 rw [Ac y0] at ns ⊢
 refine Am.seq (hr A α₁ o0 c0 C w0 (Ad ns)) (λb vb X0 Z1 z0 Y1 Y0 Z0 rb W1=>?_) λx c0 q=>q.bind.after d0 u0
 rw [Ac W1] at ns ⊢
 exact aW (IG op A X0 Z1 z0 a b va vb C Y1 (w0.stays C Z0 Y0 ra) rb ns) (λU U q=>(q.after Y0 Z0).after d0 u0) (λU U q=>(q.after Y0 Z0).after d0 u0)
end
inductive All2 {V β:Type}(P:V->β->Prop):List V->List β->Prop
 | nil:All2 P [] []
 | cons {a:V} {b:β} {l:List V} {l':List β} (h:P a b) (t:All2 P l l'):All2 P (a::l) (b::l')
section
variable {W:Wd}{fm:Fm}{V α' α₁:List Addr}{h h' h₁:Heap}{n:Nat}{A:Around}{ps ps':PS}{s s':Shared}{hd:Bool}{H:Hd}{h₀:Heap}
inductive OkB (W:Wd)(fm:Fm)(V:List Addr)(h:Heap)(r:R Bool)(v:Bool)(s':Shared):Prop
 | mk (ps':PS) (α':List Addr) (k1:r = .ok v ps') (k2:InvS W fm α' ps' s') (k3:Grow V α' h) (k4:Rel fm.stk fm.tab V h s'.heap):OkB W fm V h r v s'
abbrev SimB.T (W:Wd)(n:Nat)(fm:Fm)(e:Expr)(m:M Bool):Prop:=∀ A V ps s,Ctx W fm n A->InvS W fm V ps s->m ps≠.stuck->wpAny W.m A (isTrue e fm.env (eval e fm.env)) (OkB W fm V s.heap (m ps)) (ExE W fm V s.heap (m ps)) s
structure SimB (W:Wd)(n:Nat)(fm:Fm)(e:Expr)(m:M Bool):Prop where
 go:SimB.T W n fm e m
noncomputable instance {W:Wd} {n:Nat} {fm:Fm} {e:Expr} {m:M Bool}:CoeFun (SimB W n fm e m) (λU=>SimB.T W n fm e m):=⟨SimB.go⟩
theorem OkB.after {r:R Bool}{v:Bool}(q:OkB W fm α₁ h₁ r v s')(g:Grow V α₁ h)(x:Rel fm.stk fm.tab V h h₁):OkB W fm V h r v s':=by
 obtain ⟨ps',α',e,I,g',x'⟩:=q
 exact ⟨ps',α',e,I,g.trans g' x,x.trans x' g.new⟩
theorem OkB.same (I:InvS W fm V ps s){b:Bool}:OkB W fm V s.heap (.ok b ps) b s:=⟨ps,V,rfl,I,.refl ..,.refl ..⟩
def tst (v:PV):M Bool:=aw (truP v)
theorem En {p:PV}{v:Value}{b:Bool}(r:W.rep fm V h p v)(e:truP p=some b):v = .bool b:=by
 cases p <;> cases e
 exact r.inv
theorem Le {p:PV}(ns:tst p ps≠.stuck):∃ b,truP p=some b/\tst p ps = .ok b ps:=DC ns
theorem HT {p:PV}{v:Value}(I:InvS W fm V ps s)(r:W.rep fm V s.heap p v)(ns:tst p ps≠.stuck){E:Value->Shared->Prop}:wpAny W.m A (truthy v) (OkB W fm V s.heap (tst p ps)) E s:=by
 obtain ⟨b,e,e'⟩:=Le ns
 rw [e',En r e]
 exact wpAny_truthy_bool (.same I)
theorem Pv {l r:Expr}{op:CmpOp}{pos:Pos}{ml mr:M PV}(hl:SimE W n fm l ml)(hr:SimE W n fm r mr)(hm:behindInMarks op r=false) :
  SimB W n fm (.Compare l [op] [r] pos) (ac ml λa=>ac mr λb=>ac (Ao op a b) tst):=.mk λA V ps s C I ns=>by
 refine wpAny_isTrue_Compare1 (Am.seq (hl A V ps s C I (Ad ns)) (λa va α₁ o0 c0 w0 d0 u0 ra y0=>?_) λx c0 q=>q.bind) hm
 rw [Ac y0] at ns ⊢
 refine Am.seq (hr A α₁ o0 c0 C w0 (Ad ns)) (λb vb X0 Z1 z0 Y1 Y0 Z0 rb W1=>?_) λx c0 q=>q.bind.after d0 u0
 rw [Ac W1] at ns ⊢
 refine Am.seq (IG op A X0 Z1 z0 a b va vb C Y1 (w0.stays C Z0 Y0 ra) rb (Ad ns)) (λc vc j5 y4 u3 Y2 W3 Z3 rc Y3=>?_) λx c0 q=>(q.bind.after Y0 Z0).after d0 u0
 rw [Ac Y3] at ns ⊢
 exact aW (HT Y2 rc ns) (λU U q=>((q.after W3 Z3).after Y0 Z0).after d0 u0) (λU U q=>q)
theorem BB {e:Expr}{m:M PV}(he:SimE W n fm e m)(hv:∀ env whole,isTrue e env whole=(do let v <- whole;standAt e.pos;holding [v] (truthy v))):SimB W n fm e (ac m tst):=.mk λA V ps s C I ns=>by
 rw [hv]
 refine bg (Am.seq (he A V ps s C I (Ad ns)) (λa va α₁ o0 c0 w0 d0 u0 ra y0=>?_) λx c0 q=>q.bind)
 rw [Ac y0] at ns ⊢
 exact bg (wpAny_standAt (bf (aW (HT w0 ra ns) (λU U q=>q.after d0 u0) (λU U q=>q))))
theorem ES {e:Expr}{pos:Pos}{m:M Bool}(he:SimB W n fm e m):SimB W n fm (.UnaryOp .Not e pos) (ac m λb=>ae !b):=.mk λA V ps s C I ns=>by
 rw [arm_isTrue_UnaryOp]
 refine bg (aW (he A V ps s C I (Ad ns)) (λb c0 q=>?_) (λU U q=>q.bind))
 obtain ⟨o0,α₁,y0,w0,d0,u0⟩:=q
 rw [Ac y0]
 exact bh ⟨o0,α₁,rfl,w0,d0,u0⟩
def GK:BoolOp->Bool->Bool
 | .And,b=>!b
 | .Or,b=>b
def AM (op:BoolOp):List (M Bool)->M Bool
 | []=>ae (op==.And)
 | m::r=>ac m λb=>if GK op b then ae b else AM op r
set_option backward.match.sparseCases true in
theorem II {op:BoolOp}{e:Expr}{es:List Expr}{env:Env}:allTrue op (e::es) env=(do match op,<- isTrue e env (eval e env) with | .And,false=>pure false | .Or,true=>pure true | _,_=>allTrue op es env):=rfl
theorem Pw {op:BoolOp}:∀ {es:List Expr} {ms:List (M Bool)},All2 (SimB W n fm) es ms->∀ A V ps s,Ctx W fm n A->InvS W fm V ps s->AM op ms ps≠.stuck->wpAny W.m A (allTrue op es fm.env) (OkB W fm V s.heap (AM op ms ps)) (ExE W fm V s.heap (AM op ms ps)) s:=by
 intro _ _ hS
 induction hS with
 | nil=>
  intro A V ps s C I ns
  exact bh (.same I)
 | @cons e m es ms q qs ih=>
  intro A V ps s C I ns
  rw [II]
  unfold AM at ns ⊢
  refine bg (aW (q A V ps s C I (Ad ns)) (λb c0 z=>?_) (λU U z=>z.bind))
  obtain ⟨o0,α₁,y0,w0,d0,u0⟩:=z
  rw [Ac y0] at ns ⊢
  have rest:AM op ms o0≠.stuck->wpAny W.m A (allTrue op es fm.env) (OkB W fm V s.heap (AM op ms o0)) (ExE W fm V s.heap (AM op ms o0)) c0:=λz=>
   aW (ih A α₁ o0 c0 C w0 z) (λU U q=>q.after d0 u0) (λU U q=>q.after d0 u0)
  cases op <;> cases b
  ·exact bh ⟨o0,α₁,rfl,w0,d0,u0⟩
  ·exact rest ns
  ·exact rest ns
  ·exact bh ⟨o0,α₁,rfl,w0,d0,u0⟩
theorem A6 {op:BoolOp}{es:List Expr}{pos:Pos}{ms:List (M Bool)}(hs:All2 (SimB W n fm) es ms):SimB W n fm (.BoolOp op es pos) (AM op ms):=.mk λA V ps s C I ns=>by
 rw [arm_isTrue_BoolOp];exact Pw hs A V ps s C I ns
theorem BC {t b o:Expr}{pos:Pos}{mt:M Bool}{mb mo:M PV}(ht:SimB W n fm t mt)(hb:SimE W n fm b mb)(ho:SimE W n fm o mo):SimE W n fm (.IfExp t b o pos) (ac mt λc=>if c then mb else mo):=.mk λA V ps s C I ns=>by
 show wpAny _ _ (do if <- isTrue t fm.env (eval t fm.env) then eval b fm.env else eval o fm.env) _ _ _
 refine bg (aW (ht A V ps s C I (Ad ns)) (λc c0 z=>?_) (λU U z=>z.bind))
 obtain ⟨o0,α₁,y0,w0,d0,u0⟩:=z
 rw [Ac y0] at ns ⊢
 cases c
 ·exact aW (ho A α₁ o0 c0 C w0 ns) (λU U q=>q.after d0 u0) (λU U q=>q.after d0 u0)
 ·exact aW (hb A α₁ o0 c0 C w0 ns) (λU U q=>q.after d0 u0) (λU U q=>q.after d0 u0)
def BK (op:BoolOp):List (M PV)->M PV
 | []=>aq
 | [m]=>m
 | m::r=>ac m λv=>ac (tst v) λb=>if GK op b then ae v else BK op r
set_option backward.match.sparseCases true in
theorem JF {pos:Pos}{op:BoolOp}{x y:Sem Value}{r:List (Sem Value)}:boolOp pos op (x::y::r)=(do
  let v <- x
  standAt pos
  let t <- holding [v] (truthy v)
  match op,t with
  | .And,false | .Or,true=>pure v
  | _,_=>boolOp pos op (y::r)):=rfl
theorem Lg {op:BoolOp}{m m':M PV}{r:List (M PV)}:BK op (m::m'::r)=ac m λv=>ac (tst v) λb=>if GK op b then ae v else BK op (m'::r):=rfl
theorem Hv {e:Expr}{es:List Expr}{env:Env}:evalEach (e::es) env=eval e env::evalEach es env:=rfl
theorem Hw {op:BoolOp}{pos:Pos}{es:List Expr}{ms:List (M PV)}(qs:All2 (SimE W n fm) es ms):∀ {e:Expr} {m:M PV},SimE W n fm e m->∀ A V ps s,Ctx W fm n A->InvS W fm V ps s->BK op (m::ms) ps≠.stuck->Am W fm A V ps s (boolOp pos op (eval e fm.env::evalEach es fm.env)) (BK op (m::ms)):=by
 induction qs with
 | nil=>intro e m q A V ps s C I ns;exact q A V ps s C I ns
 | @cons e' m' es ms q' qs ih=>
  intro e m q A V ps s C I ns
  unfold Am
  rw [Lg] at ns ⊢
  rw [Hv,JF]
  refine bg (Am.seq (q A V ps s C I (Ad ns)) (λv va α₁ o0 c0 w0 d0 u0 ra y0=>?_) λx c0 q=>q.bind)
  rw [Ac y0] at ns ⊢
  refine bg (wpAny_standAt (bg (bf ?_)))
  obtain ⟨b,tb,eb⟩:=Le (Ad ns)
  rw [Ac eb] at ns ⊢
  have hv:=En ra tb
  subst hv
  refine wpAny_truthy_bool ?_
  have rest:BK op (m'::ms) o0≠.stuck->wpAny W.m A (boolOp pos op (eval e' fm.env::evalEach es fm.env)) (OkE W fm V s.heap (BK op (m'::ms) o0)) (ExE W fm V s.heap (BK op (m'::ms) o0)) c0:=λz=>
   aW (ih q' A α₁ o0 c0 C w0 z) (λU U q=>q.after d0 u0) (λU U q=>q.after d0 u0)
  have done:OkE W fm V s.heap (ae v o0) (.bool b) c0:=⟨v,o0,α₁,rfl,w0,d0,u0,ra⟩
  cases op <;> cases b
  ·exact bh done
  ·exact rest ns
  ·exact rest ns
  ·exact bh done
theorem Fp {op:BoolOp}{es:List Expr}{pos:Pos}{ms:List (M PV)}(hs:All2 (SimE W n fm) es ms):SimE W n fm (.BoolOp op es pos) (BK op ms):=.mk λA V ps s C I ns=>
 by cases hs with
 | nil=>exact absurd rfl ns
 | cons q qs=>exact Hw qs q A V ps s C I ns
end
section
variable {W:Wd}{fm:Fm}{V α' α₁:List Addr}{h h' h₁:Heap}{n:Nat}{A:Around}{ps ps':PS}{s s':Shared}{H:Hd}{h₀:Heap}
theorem AJ (h:Heap):h.get? h.objs.size=none:=by
 cases q:h.get? h.objs.size with
 | none=>rfl
 | some o=>exact absurd (lt_size q) (bj _)
theorem Fq {e:Addr}{cls:String}{tk:Nat}(I:InvS W fm V ps s)(x:Heap.NewExc s.heap h' e cls){β:Type}(hc:cls≠"code":=by decide):ExE W fm V s.heap (.ex (.std cls) ps:R β) (.ref e) { s with heap:=h',toks:=tk }:=by
 obtain ⟨ob,t,h1,h2,h3⟩:=x.there
 refine ⟨.std cls,ps,V,rfl,⟨I.inv.keeps x.keeps,I.gens,I.os⟩,.refl ..,.of_keeps x.keeps,e,ob,_,rfl,h1,h2,h3,by simp,x.new,hc,.inl rfl,rfl⟩
theorem Fr {β:Type}{hd:Bool}{nm:String}(ns:(aI hd nm:M β) ps≠.stuck):hd=false/\(aI hd nm:M β) ps = .ex (.std nm) ps:=by
 unfold aI at ns ⊢
 cases hd
 ·exact ⟨rfl,rfl⟩
 ·exact absurd rfl ns
theorem Aj {β:Type}{c:Bool}{m:M β}(ns:am c m ps≠.stuck):c=true/\am c m ps=m ps:=by
 unfold am at ns ⊢
 cases c
 ·exact absurd rfl ns
 ·exact ⟨rfl,rfl⟩
theorem IJ (i:Int)(n:Nat):seqIndex? i n=idx i n:=by
 unfold seqIndex? idx
 by_cases h0:0<=i
 ·have:¬ i<0:=by lia
  simp only [this,if_false,h0,if_true,decide_true,Bool.true_and]
  by_cases h1:i.toNat<n
  ·have:i<n:=by lia
   simp [h1,this]
  ·have:¬ i<n:=by lia
   simp [h1,this]
 ·have:i<0:=by lia
  simp only [this,if_true,h0,if_false]
  by_cases h1:0<=i+n
  ·have:i+n<n:=by lia
   simp [h1,this]
  ·simp [h1]
theorem UB {i:Int}{n j:Nat}(h:idx i n=some j):j<n:=by
 unfold idx at h
 split at h <;> split at h <;> cases h <;> lia
theorem GL {i:Int}(h:Ag i=true):-(2 ^ 63:Int)<=i/\i<2 ^ 63:=by
 unfold Ag at h
 rw [decide_eq_true_eq] at h
 have:((2:Int) ^ 63)=9223372036854775808:=by decide
 omega
theorem HU {i:Int}(h:Ag i=true):(decide (i < -(2 ^ 63:Int))||decide (i≥2 ^ 63))=false:=by
 have:=GL h
 simp only [or_eq_false_iff,decide_eq_false_iff_not]
 lia
theorem ET {value slice:Expr}{o i:Value}{T id:String}{m:M PV}(hT:s.TypeIs o T)(hl:typeLookup (.type T) "__getitem__" = pure (some (.builtin id)))(hs:∀ o i,∃ ops,subscripted slice false o i=operate ops (getItem o i))
  (g:Am W fm A V ps s (getItem o i) m):Am W fm A V ps s (subscriptTail value slice o i) m:=by
 obtain ⟨ops,e⟩:=hs o i
 exact tail_any hT hl g e
theorem IK:Slot "mappingproxy" "__getitem__" "mappingproxy.__getitem__":=
 .of (owner:="mappingproxy") (n:="__getitem__") (by rw [typeLookup_type,builtinLookup_eq_fast];kernel_rfl) (by decide +kernel) (by decide +kernel) (by decide +kernel)
  (by first | exact .inl (by decide +kernel) | exact .inr (by decide +kernel)) (by rw [isSubtype_type];kernel_rfl)
theorem Px:entryFor table "mappingproxy.__getitem__" = some Builtin.«mappingproxy.__getitem__»:=entryFor_of_tree (by kernel_rfl)
theorem Nx (hd:Bool)(x:Txt)(i:Int):Au hd (.str x) (.int i)=am (Ag i) (match idx i x.length with
  | some j=>ae (.str [x.getD j 0])
  | none=>aI hd "IndexError"):=rfl
theorem HV (hd:Bool)(k:Nat)(i:Int):Au hd (.lst k) (.int i)=am (Ag i) (ac (ar k) λl=>aw ((idx i l.length).bind (l[·]?))):=rfl
theorem Ny (hd:Bool)(l:List PV)(i:Int):Au hd (.tup l) (.int i)=am (Ag i) (aw ((idx i l.length).bind (l[·]?))):=rfl
theorem Nz (hd:Bool)(ks vs:List PV)(x:PV):Au hd (.dct ks vs) x=aw ((Dc ks vs x).bind id):=rfl
theorem Py (hd:Bool)(x:Txt):Au hd .mp (.str x)=match escT x with
  | some t=>ae (.str t)
  | none=>aI hd "KeyError":=rfl
theorem Pz {x:Txt}{i:Int}{t u:Tok}(hA:A.handled=fm.hdl)(I:InvS W fm V ps s)(ns:Au fm.hdl.isSome (.str x) (.int i) ps≠.stuck) :
  Am W fm A V ps s (getItem (.str (txt x) t) (.int i u)) (Au fm.hdl.isSome (.str x) (.int i)):=by
 rw [Nx] at ns ⊢
 obtain ⟨hs,e⟩:=Aj ns
 rw [e] at ns
 refine Am.congr e ?_
 cases q:idx i x.length with
 | some j=>
  have lt:=UB q
  refine PySem.P.getItem_str (c:=x.getD j 0) (HU hs) ?_ ?_
  ·rw [IJ,AC,q]
   show (txt x).cps[j]? = _
   simp [txt,lt]
  ·exact OkE.same I (.str [x.getD j 0] _)
 | none=>
  simp only [q] at ns
  obtain ⟨h1,h2⟩:=Fr ns
  have hh:A.handled=none:=by rw [hA];exact Option.isNone_iff_eq_none.mp (by cases hq:fm.hdl <;> simp_all)
  refine Am.congr (m':=λps=>.ex (.std "IndexError") ps) h2 ?_
  exact getItem_meets (typeIs_str s (txt x) t) (by decide) F.slot_str_getitem F.entry_str_getitem (F.args_str_getitem_2 _ (.int i u))
   (raises_str_getitem (txt x) i t u (HU hs) (by rw [IJ,AC,q];rfl)) ⟨hh,λh' tk e x=>Fq I x⟩
set_option tactic.hygienic true in
theorem PA {v:Value}{k:Nat}{i:Int}{u:Tok}(I:InvS W fm V ps s)(r:W.rep fm V s.heap (.lst k) v)(ns:Au fm.hdl.isSome (.lst k) (.int i) ps≠.stuck) :
  Am W fm A V ps s (getItem v (.int i u)) (Au fm.hdl.isSome (.lst k) (.int i)):=by
 rw [HV] at ns ⊢
 obtain ⟨hs,e⟩:=Aj ns
 rw [e] at ns
 refine Am.congr e ?_
 obtain ⟨l,e1,e2⟩:=Bl (Ad ns)
 rw [Ac e2] at ns
 refine Am.congr (Ac e2) ?_
 obtain ⟨p,e3,e4⟩:=DC ns
 obtain ⟨a,vs,rfl,hl,rl⟩:=DB I r e1
 refine Am.congr (m':=ae p) e4 ?_
 cases q:idx i l.length with
 | none=>rw [q] at e3;cases e3
 | some j=>
  rw [q] at e3
  obtain ⟨v,hv,rv⟩:=rl.get j p e3
  have len:=rl.length
  have b:=GL hs
  unfold idx at q
  by_cases h0:0<=i
  ·rw [if_pos h0] at q
   split at q <;> cases q
   exact wpAny_getItem_list hl h0 b.2 (by simpa using hv) (OkE.same' I rv)
  ·rw [if_neg h0] at q
   split at q <;> cases q
   rename_i h1
   refine wpAny_getItem_list_neg hl (by lia) (by rw [size_toArray,<- len];lia) b.1 ?_ (OkE.same' I rv)
   rw [size_toArray,<- len]
   simpa using hv
theorem PB {v:Value}{l:List PV}{i:Int}{u:Tok}(I:InvS W fm V ps s)(r:W.rep fm V s.heap (.tup l) v)(ns:Au fm.hdl.isSome (.tup l) (.int i) ps≠.stuck) :
  Am W fm A V ps s (getItem v (.int i u)) (Au fm.hdl.isSome (.tup l) (.int i)):=by
 rw [Ny] at ns ⊢
 obtain ⟨hs,e⟩:=Aj ns
 rw [e] at ns
 refine Am.congr e ?_
 obtain ⟨p,e3,e4⟩:=DC ns
 refine Am.congr (m':=ae p) e4 ?_
 obtain ⟨a,vs,rfl,ha,hi,rl⟩:=r.inv
 ·cases q:idx i l.length with
  | none=>rw [q] at e3;cases e3
  | some j=>
   rw [q] at e3
   obtain ⟨v,hv,rv⟩:=rl.get j p e3
   have b:=GL hs
   exact getItem_tuple (j:=j) hi b.1 b.2 (by rw [size_toArray,<- rl.length,IJ];exact q) (by simpa using hv) (OkE.same' I rv)
theorem PC {v vx:Value}{ks vs:List PV}{x:PV}(I:InvS W fm V ps s)(r:W.rep fm V s.heap (.dct ks vs) v)(rx:W.rep fm V s.heap x vx)(ns:Au fm.hdl.isSome (.dct ks vs) x ps≠.stuck) :
  Am W fm A V ps s (getItem v vx) (Au fm.hdl.isSome (.dct ks vs) x):=by
 rw [Nz] at ns ⊢
 obtain ⟨p,e3,e4⟩:=DC ns
 refine Am.congr (m':=ae p) e4 ?_
 have e6:Dc ks vs x=some (some p):=by
  cases q:Dc ks vs x with
  | none=>rw [q] at e3;cases e3
  | some r=>rw [q] at e3;exact congrArg some e3
 obtain ⟨a,o,es,ep,rfl,ha,ho,hx,hd,hk,rk,rv⟩:=r.inv
 rcases hk with hk | hk
 ·obtain ⟨y,rfl⟩:=Em hk rk rx e6
  obtain ⟨_,rfl⟩:=rx.inv
  obtain ⟨d,f1,f2⟩:=GG hk rk rv (Cd e6)
  have hm:s.heap.MapOf (strKind W.H.prog W.H.w) _ (λk=>findBy (strKind W.H.prog W.H.w).is _ k):=⟨_,_,_,ho,hx,hd,hk,λU=>rfl⟩
  refine wpAny_getItem_of (strKind_is _ _ _ _) hm (v:=d.val) ?_ (OkE.same I f2)
  unfold findBy
  obtain ⟨l⟩:=es
  simp only at f1
  simp [f1]
 ·obtain ⟨y,rfl⟩:=DD hk rk rx e6
  obtain ⟨_,rfl⟩:=rx.inv
  obtain ⟨d,f1,f2⟩:=GH hk rk rv (Cd e6)
  have hm:s.heap.MapOf (intKind W.H.prog W.H.w) _ (λk=>findBy (intKind W.H.prog W.H.w).is _ k):=⟨_,_,_,ho,hx,hd,hk,λU=>rfl⟩
  refine wpAny_getItem_of (intKind_is _ _ _ _) hm (v:=d.val) ?_ (OkE.same I f2)
  unfold findBy
  obtain ⟨l⟩:=es
  simp only at f1
  simp [f1]
theorem Sq {v:Value}{x:Txt}{u:Tok}(C:Ctx W fm n A)(I:InvS W fm V ps s)(r:W.rep fm V s.heap .mp v)(ns:Au fm.hdl.isSome .mp (.str x) ps≠.stuck) :
  Am W fm A V ps s (getItem v (.str (txt x) u)) (Au fm.hdl.isSome .mp (.str x)):=by
 rw [Py] at ns ⊢
 obtain rfl:_=_:=r.inv
 obtain ⟨o,d,f,ho,hc,hd,hlo,hm,hf⟩:=C.hd.mp
 have ho:=I.inv.base _ _ ho
 have hm:s.heap.MapOf (strKind W.H.prog W.H.w) d f:=by
  obtain ⟨o',es,ep,q1,q2⟩:=hm
  exact ⟨o',es,ep,I.inv.base _ _ q1,q2⟩
 have hT:s.TypeIs (.ref W.H.mpv) "mappingproxy":=⟨o,ho,hc⟩
 have go:∀ {Q:Value->Shared->Prop} {E:Value->Shared->Prop},wpAny W.m A.in1 (getItem (.ref d) (.str (txt x) u)) Q E s->wpAny W.m A (getItem (.ref W.H.mpv) (.str (txt x) u)) Q E s:=λ{Q E} h=>
  wpAny_getItem_slot hT (by decide) IK (wpAny_call_entry IK hT Px (by
   show wpAny _ _ (do let m <- field (.ref W.H.mpv) 0;let v <- getItem m (.str (txt x) u);ret v) _ _ _
   exact bg (wpAny_field ho hd rfl (bg (aW h (λv s' q=>bh ⟨v,rfl,q⟩) λU U q=>q)))) (by unfold argsOk;kernel_rfl))
 cases q:escT x with
 | some t=>
  obtain ⟨tk,e⟩:=(hf x).2 t q
  exact go (wpAny_getItem_of (strKind_is _ _ _ _) hm e (OkE.same I (.str t tk)))
 | none=>
  simp only [q] at ns
  obtain ⟨h1,h2⟩:=Fr ns
  have hh:A.in1.handled=none:=by
   show A.handled=none
   rw [C.hdl];exact Option.isNone_iff_eq_none.mp (by cases hq:fm.hdl <;> simp_all)
  refine Am.congr (m':=λps=>.ex (.std "KeyError") ps) h2 ?_
  exact go (wpAny_getItem_missing_of (strKind_is _ _ _ _) hlo hh hm ((hf x).1 q) λh' e x=>Fq I x)
theorem Sr {a b:PV}{va vb:Value}{value slice:Expr}(C:Ctx W fm n A)(I:InvS W fm V ps s)(ra:W.rep fm V s.heap a va)(rb:W.rep fm V s.heap b vb)(hs:∀ o i,∃ ops,subscripted slice false o i=operate ops (getItem o i))
  (ns:Au fm.hdl.isSome a b ps≠.stuck):Am W fm A V ps s (subscriptTail value slice va vb) (Au fm.hdl.isSome a b):=by
 cases a with
 | str x=>
  obtain ⟨i,eb⟩:=A2 ns
  obtain rfl:=AR eb
  obtain ⟨_,rfl⟩:=ra.inv;obtain ⟨_,rfl⟩:=rb.inv
  exact ET (T:="str") rfl F.slot_str_getitem.lookup hs (Pz C.hdl I ns)
 | lst k=>
  obtain ⟨i,eb⟩:=A2 ns
  obtain rfl:=AR eb
  obtain ⟨_,rfl⟩:=rb.inv
  have ns':=ns
  rw [HV] at ns'
  obtain ⟨hq,e⟩:=Aj ns'
  rw [e] at ns'
  obtain ⟨l,e1,e2⟩:=Bl (Ad ns')
  obtain ⟨a,vs,rfl,hl,rl⟩:=DB I ra e1
  exact ET hl.typeIs slot_list_getitem.lookup hs (PA I ra ns)
 | tup l=>
  obtain ⟨i,eb⟩:=A2 ns
  obtain rfl:=AR eb
  obtain ⟨_,rfl⟩:=rb.inv
  have g:=λ(u:Tok)=>PB (A:=A) (u:=u) I ra ns
  obtain ⟨_,_,rfl,ha,hi,rl⟩:=ra.inv
  exact ET hi.typeIs slot_tuple_getitem.lookup hs (g _)
 | dct ks vs=>
  have g:=PC (A:=A) I ra rb ns
  obtain ⟨_,o,es,ep,rfl,hna,ho,hx,_⟩:=ra.inv
  exact ET ⟨_,ho,hx.1⟩ slot_dict_getitem.lookup hs g
 | mp=>
  obtain ⟨x,eb⟩:=A2 ns
  obtain rfl:=A8 eb
  obtain ⟨_,rfl⟩:=rb.inv
  have g:=λ(u:Tok)=>Sq (u:=u) C I ra ns
  obtain rfl:_=_:=ra.inv
  obtain ⟨o,d,f,ho,hc,_⟩:=C.hd.mp
  exact ET ⟨o,I.inv.base _ _ ho,hc⟩ IK.lookup hs (g _)
 | _=>exact absurd rfl ns
theorem PD {e i:Expr}{pos:Pos}{me mi:M PV}{hd:Bool}(hh:fm.hdl.isSome=hd)(he:SimE W n fm e me)(hi:SimE W n fm i mi)(hs:∀ o v,∃ ops,subscripted i false o v=operate ops (getItem o v)) :
  SimE W n fm (.Subscript e i pos) (ac me λa=>ac mi λb=>Au hd a b):=.mk λA V ps s C I ns=>by
 subst hh
 refine Subscript_ (Am.seq (he A V ps s C I (Ad ns)) (λa va α₁ o0 c0 w0 d0 u0 ra y0=>?_) λx c0 q=>q.bind)
 rw [Ac y0] at ns ⊢
 refine Am.seq (hi A α₁ o0 c0 C w0 (Ad ns)) (λb vb X0 Z1 z0 Y1 Y0 Z0 rb W1=>?_) λx c0 q=>q.bind.after d0 u0
 rw [Ac W1] at ns ⊢
 exact aW (Sr C Y1 (w0.stays C Z0 Y0 ra) rb hs ns) (λU U q=>(q.after Y0 Z0).after d0 u0) (λU U q=>(q.after Y0 Z0).after d0 u0)
theorem GM {β:Type}(l:List β)(lo hi:Nat)(hh:hi<=l.length):((range (hi - lo)).map (λk=>lo+k)).filterMap (l[·]?)=(l.take hi).drop lo:=by
 rw [List.filterMap_map]
 apply ext_getElem?
 intro i
 have e:(range (hi - lo)).filterMap ((λx=>l[x]?)∘λk=>lo+k)=(l.take hi).drop lo:=by
  generalize hd:hi - lo=d
  induction d generalizing hi with
  | zero=>
   rw [List.drop_of_length_le (by rw [length_take];exact la [_,_,_,_] [([2],[1]),([4],[6]),([6],[2,8,0])] ([4],[8]) rfl (Nat.le_of_eq hd) (Nat.min_le_left _ _) (Mi.lcS _ _))];rfl
  | succ d ih=>
   obtain ⟨k,rfl⟩:∃ k,hi=k+1:=⟨hi - 1,by omega⟩
   have e1:=ih k (by exact la [_,_] [([2,3,0],[4])] ([2],[4]) rfl hh) (by omega)
   have lt:k<l.length:=by exact la [_,_] [([2,3,0],[4])] ([2,3,0],[4]) rfl hh
   have e2:l.take (k+1)=l.take k++[l[k]]:=by
    rw [List.take_add_one,getElem?_eq_getElem lt];rfl
   rw [range_succ,filterMap_append,e1,e2,List.drop_append_of_le_length (by rw [length_take];omega)]
   congr 1
   have:lo+d=k:=by omega
   simp [this,getElem?_eq_getElem lt]
 rw [e]
theorem JG (i:Int)(n:Nat):max 0 (min (if i<0 then i+n else i) n)=(bnd i n:Int):=by
 have max0:∀ m:Nat,max 0 (min (m:Int) n)=((min m n:Nat):Int):=λm=>by lia
 unfold bnd
 by_cases h:0<=i
 ·rw [if_neg (Int.not_lt.mpr h),if_pos h]
  obtain ⟨m,rfl⟩:=Int.eq_ofNat_of_zero_le h
  exact max0 m
 ·have lt:=Int.not_le.mp h
  rw [if_pos lt,if_neg h]
  by_cases g:0<=i+n
  ·obtain ⟨m,e⟩:=Int.eq_ofNat_of_zero_le g
   have le:m<=n:=by lia
   rw [e]
   exact (max0 m).trans (congrArg Nat.cast (bk le))
  ·have g:=Int.le_of_lt (Int.not_le.mp g)
   rw [Int.toNat_of_nonpos g]
   exact Int.max_eq_left (Int.le_trans (Int.min_le_left ..) g)
theorem bnd_le (i:Int)(n:Nat):bnd i n<=n:=by
 unfold bnd;split <;> lia
theorem FS (lo hi:Nat):sliceRange (lo:Int) (hi:Int) 1=(range (hi - lo)).map (λk=>lo+k):=by
 unfold sliceRange
 simp only [show (1:Int)>0 by decide,if_true]
 by_cases q:lo<hi
 ·rw [if_pos (by lia)]
  have:(((hi:Int) - lo+1 - 1) / 1).toNat=hi - lo:=by rw [Int.ediv_one];lia
  rw [this]
  refine List.map_congr_left λk U=>?_
  lia
 ·rw [if_neg (by lia),show hi - lo=0 by lia];rfl
def loB (a:Option Int)(n:Nat):Nat:=match a with | some i=>bnd i n | none=>0
def hiB (b:Option Int)(n:Nat):Nat:=match b with | some i=>bnd i n | none=>n
theorem Lh (b:Option Int)(n:Nat):hiB b n<=n:=by cases b <;> simp [hiB,bnd_le]
theorem GN {β:Type}(l:List β)(a b:Option Int):slc l a b=(l.take (hiB b l.length)).drop (loB a l.length):=rfl
theorem PE (a b:Option Int)(n:Nat):Builtin.Str.strSliceIndices a b 1 n=(range (hiB b n - loB a n)).map (λk=>loB a n+k):=by
 rw [<- FS]
 unfold Builtin.Str.strSliceIndices
 cases a <;> cases b <;> simp only [show (1:Int)>0 by decide,if_true,loB,hiB,JG] <;> rfl
theorem UC (a b:Option Int)(n:Nat):sliceRange (sliceBounds a b none n).1 (sliceBounds a b none n).2.1 (sliceBounds a b none n).2.2=(range (hiB b n - loB a n)).map (λk=>loB a n+k):=by
 rw [<- FS]
 unfold sliceBounds
 cases a <;> cases b <;> simp only [Option.getD_none,show (1:Int)>0 by decide,if_true,loB,hiB,JG] <;> rfl
set_option tactic.hygienic true in
theorem NA (x:Txt)(a b:Option Int):(if ((1:Int)==1&&(Builtin.Str.strSliceIndices a b 1 (txt x).length).length==(txt x).length)=true then txt x else ⟨((Builtin.Str.strSliceIndices a b 1 (txt x).length).filterMap ((txt x).cps[·]?)).toArray⟩)=txt (slc x a b):=by
 have e:((Builtin.Str.strSliceIndices a b 1 (txt x).length).filterMap ((txt x).cps[·]?))=slc x a b:=by
  rw [PE,GN,AC]
  have:=GM x (loB a x.length) (hiB b x.length) (Lh _ _)
  rw [<- this]
  refine congrFun (congrArg _ (funext λk=>?_)) _
  simp [txt]
 split
 ·rename_i q
  simp only [and_eq_true,beq_iff_eq] at q
  obtain ⟨_,q⟩:=q
  rw [PE,length_map,length_range,AC] at q
  have h1:=Lh b x.length
  have:slc x a b=x:=by
   rw [GN]
   have e1:hiB b x.length=x.length:=by exact be (la [_,_] [([2],[4])] ([2],[4]) rfl h1) (la [_,_,_] [([2],[4]),([4],[6])] ([2],[6]) rfl (aS q.symm) (Nat.sub_le _ _))
   have e2:loB a x.length=0\/x.length=0:=by lia
   rw [e1,take_length]
   rcases e2 with e2 | e2
   ·rw [e2];rfl
   ·rw [length_eq_zero_iff.mp e2];simp
  rw [this]
 ·rw [e];rfl
theorem PF (vs:List Value)(a b:Option Int):(slicePick vs.toArray a b none).toList=slc vs a b:=by
 unfold slicePick
 rw [List.toList_toArray,UC,size_toArray,GN]
 have:=GM vs (loB a vs.length) (hiB b vs.length) (Lh _ _)
 rw [<- this]
 refine congrFun (congrArg _ (funext λk=>?_)) _
 simp
theorem RepL.take {av:List Addr}{l:List PV}{vs:List Value}(k:Nat)(r:RepL H h₀ av V h l vs):RepL H h₀ av V h (l.take k) (vs.take k):=by
 revert k
 refine r.ind (P:=λl vs=>∀ k,RepL H h₀ av V h (l.take k) (vs.take k)) (λk=>by rw [take_nil,take_nil];exact .nil) λp v l vs q U ih k=>?_
 cases k with
 | zero=>exact .nil
 | succ k=>exact .cons q (ih k)
theorem RepL.drop {av:List Addr}{l:List PV}{vs:List Value}(k:Nat)(r:RepL H h₀ av V h l vs):RepL H h₀ av V h (l.drop k) (vs.drop k):=by
 revert k
 refine r.ind (P:=λl vs=>∀ k,RepL H h₀ av V h (l.drop k) (vs.drop k)) (λk=>by rw [drop_nil,drop_nil];exact .nil) λp v l vs q qs ih k=>?_
 cases k with
 | zero=>exact .cons q qs
 | succ k=>exact ih k
theorem RepL.slc {av:List Addr}{l:List PV}{vs:List Value}(a b:Option Int)(r:RepL H h₀ av V h l vs):RepL H h₀ av V h (slc l a b) (slc vs a b):=by
 rw [GN,GN,<- r.length];exact (r.take _).drop _
inductive SimO (W:Wd)(n:Nat)(fm:Fm):Option Expr->Option (M PV)->Prop
 | none:SimO W n fm none none
 | some {e:Expr} {m:M PV} (x:SimE W n fm e m):SimO W n fm (some e) (some m)
def OkP (W:Wd)(fm:Fm)(V:List Addr)(h:Heap)(r:R (Option Int))(v:Value)(s':Shared):Prop:=
 ∃ a ps' α',r = .ok a ps'/\InvS W fm α' ps' s'/\Grow V α' h/\Rel fm.stk fm.tab V h s'.heap/\∃ p:Option (Int × Tok),v=partValue p/\p.map (·.1)=a
set_option tactic.hygienic true in
theorem MG {oe:Option Expr}{om:Option (M PV)}(q:SimO W n fm oe om)(C:Ctx W fm n A)(I:InvS W fm V ps s)(ns:Ba om ps≠.stuck) :
  wpAny W.m A (evalPart oe fm.env) (OkP W fm V s.heap (Ba om ps)) (ExE W fm V s.heap (Ba om ps)) s:=by
 cases q with
 | none=>exact bh ⟨none,ps,V,rfl,I,.refl ..,.refl ..,none,rfl,rfl⟩
 | @some e m x=>
  rw [evalPart_some]
  have ns':ac m (λv=>match v with
   | .int i=>ae (some i)
   | _=>aq) ps≠.stuck:=ns
  refine Am.seq (x A V ps s C I (Ad ns')) (λp v α₁ o0 c0 w0 d0 u0 W0 y0=>?_) λx c0 q=>?_
  ·rw [Ac y0] at ns'
   cases p <;> (try exact absurd rfl ns')
   rename_i i
   obtain ⟨t,rfl⟩:=W0.inv
   exact ⟨some i,o0,α₁,(Ac y0).trans rfl,w0,d0,u0,some (i,t),rfl,rfl⟩
  ·exact q.bind
theorem MH (a:Option (Int × Tok)):IsPart (partValue a) (a.map (·.1)):=by
 cases a with
 | none=>exact .none
 | some x=>exact .int x.1 x.2
theorem PG {p:PV}{v:Value}{a b:Option (Int × Tok)}{value slice:Expr}(C:Ctx W fm n A)(I:InvS W fm V ps s)(r:W.rep fm V s.heap p v)(hs:∀ o i,∃ ops,subscripted slice false o i=operate ops (getItem o i))
  (ns:Bj (a.map (·.1)) (b.map (·.1)) p ps≠.stuck):wpAny W.m A (subscriptTail value slice v (.ref s.heap.objs.size)) (OkE W fm V s.heap (Bj (a.map (·.1)) (b.map (·.1)) p ps)) (ExE W fm V s.heap (Bj (a.map (·.1)) (b.map (·.1)) p ps))
   { s with heap:=s.heap.push { cls:=.type "slice",data:=.fields #[partValue a,partValue b,.none] } }:=by
 have k:∀ c o,s.heap.get? c=some o->(s.heap.push { cls:=.type "slice",data:=.fields #[partValue a,partValue b,.none] }).get? c=some o:=λc o e=>get?_push_of_some _ e
 have I':InvS W fm V ps { s with heap:=s.heap.push { cls:=.type "slice",data:=.fields #[partValue a,partValue b,.none] } }:=⟨I.inv.keeps k,I.gens,I.os⟩
 obtain ⟨ops,e⟩:=hs v (.ref s.heap.objs.size)
 cases p with
 | str x=>
  have ns':au (slc x (a.map (·.1)) (b.map (·.1))) ps≠.stuck:=ns
  have hb:(slc x (a.map (·.1)) (b.map (·.1))).length<=big:=by
   unfold au at ns'
   split at ns'
   ·assumption
   ·exact absurd rfl ns'
  have e1:Bj (a.map (·.1)) (b.map (·.1)) (.str x) ps = .ok (.str (slc x (a.map (·.1)) (b.map (·.1)))) ps:=by
   show au _ ps=_
   unfold au;rw [if_pos hb]
  rw [e1]
  obtain ⟨t,rfl⟩:=r.inv
  refine tail_any (T:="str") (typeIs_str _ _ _) F.slot_str_getitem.lookup (wpAny_getItem_str_slice (l:=a) (u:=b) (st:=none) ⟨_,get?_push_size _ rfl,rfl,rfl⟩ rfl ?_) e
  refine post_val_or_str ?_
  have st:=NA x (a.map (·.1)) (b.map (·.1))
  refine ⟨?_,λt' tk=>?_⟩
  ·show (if ((1:Int)==1&&(Builtin.Str.strSliceIndices (a.map (·.1)) (b.map (·.1)) 1 (txt x).length).length==(txt x).length)=true then txt x else ⟨((Builtin.Str.strSliceIndices (a.map (·.1)) (b.map (·.1)) 1 (txt x).length).filterMap ((txt x).cps[·]?)).toArray⟩).length<=sizeLine
   rw [st,AC,<- BH];exact hb
  ·show OkE W fm V s.heap (.ok _ ps) (.str (if ((1:Int)==1&&(Builtin.Str.strSliceIndices (a.map (·.1)) (b.map (·.1)) 1 (txt x).length).length==(txt x).length)=true then txt x else ⟨((Builtin.Str.strSliceIndices (a.map (·.1)) (b.map (·.1)) 1 (txt x).length).filterMap ((txt x).cps[·]?)).toArray⟩) t') _
   rw [st]
   exact ⟨_,ps,V,rfl,I'.tok tk,.refl ..,.of_keeps k,.str _ _⟩
 | lst i=>
  have ns':ac (ar i) (λl=>am (l.length<=big) (ao (slc l (a.map (·.1)) (b.map (·.1))))) ps≠.stuck:=ns
  obtain ⟨l,e1,e2⟩:=Bl (Ad ns')
  rw [Ac e2] at ns'
  obtain ⟨c,e3⟩:=Aj ns'
  rw [e3] at ns'
  have e4:Bj (a.map (·.1)) (b.map (·.1)) (.lst i) ps=ao (slc l (a.map (·.1)) (b.map (·.1))) ps:=(Ac e2).trans e3
  rw [e4]
  obtain ⟨ad,vs,rfl,hl,rl⟩:=DB I r e1
  have hl':=IE k hl
  have rl':=RepL.keeps k (prefix_refl _) rl
  rw [decide_eq_true_eq] at c
  refine tail_any hl'.typeIs slot_list_getitem.lookup (wpAny_getItem_list_slice hl' ⟨_,get?_push_size _ rfl,rfl,rfl⟩ (MH a) (MH b) .none (by simp) ?_ (by rw [size_toArray,<- rl.length,<- BH];exact c)) e
  have hlb:(slc l (a.map (·.1)) (b.map (·.1))).length<=big:=Dd ns'
  have k2:∀ c o,s.heap.get? c=some o->((s.heap.push { cls:=.type "slice",data:=.fields #[partValue a,partValue b,.none] }).push { cls:=.type "list",data:=.seq (slicePick vs.toArray (a.map (·.1)) (b.map (·.1)) none) }).get? c=some o:=
   λc o e=>get?_push_of_some _ (k c o e)
  refine OkE.newLst (a:=(s.heap.push { cls:=.type "slice",data:=.fields #[partValue a,partValue b,.none] }).objs.size) C I hlb (RepL.slc (a.map (·.1)) (b.map (·.1)) rl) k2 ?_ ⟨0,?_⟩
  ·cases q:s.heap.get? (s.heap.push { cls:=.type "slice",data:=.fields #[partValue a,partValue b,.none] }).objs.size with
   | none=>rfl
   | some o=>have:=lt_size q;rw [Heap.size_push] at this;exact absurd this (Nat.not_lt_of_le (Nat.le_succ _))
  ·have:=PF vs (a.map (·.1)) (b.map (·.1))
   rw [<- this]
   exact get?_push_size _ rfl
 | _=>exact absurd rfl ns
theorem Bv {e:Expr}{l u:Option Expr}{p pos:Pos}{me:M PV}{ml mu:Option (M PV)}(he:SimE W n fm e me)(hl:SimO W n fm l ml)(hu:SimO W n fm u mu) :
  SimE W n fm (.Subscript e (.Slice l u none p) pos) (ac me λv=>ac (Ba ml) λa=>ac (Ba mu) λb=>Bj a b v):=.mk λA V ps s C I ns=>by
 refine Subscript_ (Am.seq (he A V ps s C I (Ad ns)) (λv va α₁ o0 c0 w0 d0 u0 ra y0=>?_) λx c0 q=>q.bind)
 rw [Ac y0] at ns ⊢
 refine wpAny_Slice (aW (MG hl C w0 (Ad ns)) (λvl z0 q=>?_) λx z0 q=>q.bind.after d0 u0)
 obtain ⟨a,Z1,X0,W1,Y1,Y0,Z0,pa,rfl,rfl⟩:=q
 rw [Ac W1] at ns ⊢
 refine aW (MG hu C Y1 (Ad ns)) (λvu u3 q=>?_) λx u3 q=>(q.bind.after Y0 Z0).after d0 u0
 obtain ⟨b,y4,j5,Y3,Y2,W3,Z3,pb,rfl,rfl⟩:=q
 rw [Ac Y3] at ns ⊢
 refine bh ?_
 exact aW (PG C Y2 (Y1.stays C Z3 W3 (w0.stays C Z0 Y0 ra)) (λo i=>⟨_,rfl⟩) ns) (λU U q=>((q.after W3 Z3).after Y0 Z0).after d0 u0) (λU U q=>((q.after W3 Z3).after Y0 Z0).after d0 u0)
end
inductive SimL (W:Wd)(n:Nat)(fm:Fm):List Expr->List (M PV)->Prop
 | nil:SimL W n fm [] []
 | cons {e:Expr} {m:M PV} {es:List Expr} {ms:List (M PV)} (x:SimE W n fm e m) (hs:∀ rest env,starEach (e::rest) env=(false,eval e env)::starEach rest env) (t:SimL W n fm es ms):SimL W n fm (e::es) (m::ms)
section
variable {W:Wd}{fm:Fm}{V α' α₁:List Addr}{h h' h₁:Heap}{n:Nat}{A:Around}{ps ps':PS}{s s':Shared}{H:Hd}{h₀:Heap}
inductive OkL (W:Wd)(fm:Fm)(V:List Addr)(h:Heap)(r:R (List PV))(vs:List Value)(s':Shared):Prop
 | mk (l:List PV) (ps':PS) (α':List Addr) (k1:r = .ok l ps') (k2:InvS W fm α' ps' s') (k3:Grow V α' h) (k4:Rel fm.stk fm.tab V h s'.heap) (k5:RepL W.H W.h₀ fm.av α' s'.heap l vs):OkL W fm V h r vs s'
theorem InvS.staysL (C:Ctx W fm n A)(I:InvS W fm V ps s)(x:Rel fm.stk fm.tab V s.heap h₁)(g:Grow V α₁ s.heap){p:List PV}{v:List Value}(r:RepL W.H W.h₀ fm.av V s.heap p v):RepL W.H W.h₀ fm.av α₁ h₁ p v:=
 RepL.stays I.inv.lists x g.pre C.fm.frsAv C.fm.tabAv r
theorem CM {pos:Pos}:∀ {es:List Expr} {ms:List (M PV)},SimL W n fm es ms->∀ A V ps s,Ctx W fm n A->InvS W fm V ps s->ag ms ps≠.stuck ->
  wpAny W.m A (spliced (backTo pos (starEach es fm.env))) (OkL W fm V s.heap (ag ms ps)) (ExE W fm V s.heap (ag ms ps)) s:=by
 intro _ _ hS
 induction hS with
 | nil=>
  intro A V ps s C I ns
  exact Calls.spliced_nil ⟨[],ps,V,rfl,I,.refl ..,.refl ..,.nil⟩
 | @cons e m es ms q hs qs ih=>
  intro A V ps s C I ns
  rw [hs]
  have ns':ac m (λv=>ac (ag ms) λvs=>ae (v::vs)) ps≠.stuck:=ns
  show wpAny W.m A (spliced ((false,eval e fm.env)::backTo pos (starEach es fm.env))) (OkL W fm V s.heap (ac m (λv=>ac (ag ms) λvs=>ae (v::vs)) ps)) (ExE W fm V s.heap (ac m (λv=>ac (ag ms) λvs=>ae (v::vs)) ps)) s
  refine Calls.spliced_cons (Am.seq (q A V ps s C I (Ad ns')) (λp v α₁ o0 c0 w0 d0 u0 W0 y0=>?_) λx c0 q=>q.bind)
  rw [Ac y0] at ns' ⊢
  refine aW (ih A α₁ o0 c0 C w0 (Ad ns')) (λvs z0 q=>?_) λx z0 q=>q.bind.after d0 u0
  obtain ⟨l,Z1,X0,W1,Y1,Y0,Z0,i4⟩:=q
  rw [Ac W1]
  exact ⟨p::l,Z1,X0,rfl,Y1,d0.trans Y0 u0,u0.trans Z0 d0.new,.cons (w0.stays C Z0 Y0 W0) i4⟩
theorem SimL.plain {pos:Pos}:∀ {es:List Expr} {ms:List (M PV)},SimL W n fm es ms->∀ env,(backTo pos (starEach es env)).any (·.1)=false:=by
 intro _ _ hS
 induction hS with
 | nil=>
  intro _
  exact rfl
 | @cons e m es ms q hs qs ih=>
  intro env
  rw [hs];exact ih env
theorem AK {es:List Expr}{ms:List (M PV)}{pos:Pos}(q:SimL W n fm es ms):SimE W n fm (.List es pos) (ac (ag ms) ao):=.mk λA V ps s C I ns=>by
 refine wpAny_List_spliced (aW (CM q A V ps s C I (Ad ns)) (λvs c0 z=>?_) λx c0 z=>z.bind)
 obtain ⟨l,o0,α₁,y0,w0,d0,u0,W0⟩:=z
 rw [Ac y0] at ns ⊢
 have hb:=Dd ns
 refine ⟨by rw [<- BH,<- W0.length];exact hb,?_⟩
 exact (OkE.newLst C w0 hb W0 (λU U e=>get?_push_of_some _ e) (AJ _) ⟨0,get?_push_size _ rfl⟩).after d0 u0
theorem Bh (I:InvS W fm V ps s){a:Addr}(e:s.heap.get? a=none):a∉fm.av:=λm=>by
 have:=I.inv.live a m
 rw [e] at this;cases this
theorem Bw {es:List Expr}{ms:List (M PV)}{k:Nat}{pos:Pos}(q:SimL W n fm es ms):SimE W n fm (.Tuple es k pos) (ac (ag ms) EM):=.mk λA V ps s C I ns=>by
 refine wpAny_Tuple_spliced (aW (CM q A V ps s C I (Ad ns)) (λvs c0 z=>?_) λx c0 z=>z.bind)
 obtain ⟨l,o0,α₁,y0,w0,d0,u0,W0⟩:=z
 rw [Ac y0] at ns ⊢
 obtain ⟨c,e⟩:=Aj ns
 rw [decide_eq_true_eq] at c
 refine ⟨by rw [<- BH,<- W0.length];exact c,?_⟩
 show OkE W fm V s.heap (am _ _ o0) _ _
 rw [e]
 have k:=λb o (e:c0.heap.get? b=some o)=>get?_push_of_some ({ cls:=.type "tuple",data:=.seq vs.toArray }:Obj) e
 have hn:c0.heap.get? c0.heap.objs.size=none:=AJ _
 exact OkE.after (α₁:=α₁) (h₁:=c0.heap) ⟨.tup l,o0,α₁,rfl,⟨w0.inv.keeps k,w0.gens,w0.os⟩,.refl ..,.of_keeps k,.tup (Bh w0 hn) ⟨_,get?_push_size _ rfl,rfl,0,rfl⟩ (W0.keeps k (prefix_refl _))⟩ d0 u0
abbrev OpCall.T (W:Wd)(n:Nat)(fm:Fm)(f:Value)(g:List PV->M PV):Prop:=∀ A V ps s l vs,Ctx W fm n A->InvS W fm V ps s->RepL W.H W.h₀ fm.av V s.heap l vs->g l ps≠.stuck->Am W fm A V ps s (call f vs) (g l)
structure OpCall (W:Wd)(n:Nat)(fm:Fm)(f:Value)(g:List PV->M PV):Prop where
 go:OpCall.T W n fm f g
noncomputable instance {W:Wd} {n:Nat} {fm:Fm} {f:Value} {g:List PV->M PV}:CoeFun (OpCall W n fm f g) (λU=>OpCall.T W n fm f g):=⟨OpCall.go⟩
theorem AT {f:Value}{args:List (Bool × Sem Value)}{Q:Args->Shared->Prop}{E:Value->Shared->Prop}(hp:args.any (·.1)=false)(h:wpAny W.m A (spliced args) (λvs s'=>Q ⟨vs,[]⟩ s') E s):wpAny W.m A (evalArgs f true args []) Q E s:=by
 cases args with
 | nil=>
  unfold evalArgs
  show wpAny W.m A (spliced [] >>= _) Q E s
  refine bg (aW h (λvs s' h'=>bg (bh ?_)) λU U x=>x)
  refine bf ?_
  exact bg (bh (bg (bh (bh h'))))
 | cons a r=>
  obtain ⟨b,x⟩:=a
  have:b=false:=by simpa using (List.any_eq_false.mp hp (b,x) mem_cons_self)
  subst this
  exact Calls.evalArgs_plain h
theorem Bo {x:Str}{i:Nat}{v:Value}(C:Ctx W fm n A)(I:InvS W fm V ps s)(hf:x∈Bk)(hn:x≠"__name__")(hb:bootBuiltins x=some v){Q:Value->Shared->Prop}{E:Value->Shared->Prop}(hm:(x,NameKind.globalImplicit,i)∈fm.sc){pos:Pos}(hd:(x==("__debug__":Str))=false)
  (h:Q v s):wpAny W.m A (eval (.Name x pos) fm.env) Q E s:=
 Calls.Name_function_global C.fm.kind (C.fm.kindX hm (by decide)) (Calls.loadGlobal_builtin (env:=fm.env) (by rw [C.fm.glob];exact C.hd.g.keeps I.inv.base) (C.hd.free x hf) (by rw [C.fm.bi];exact C.hd.b.keeps I.inv.base) ((C.hd.bu x hn).trans hb) h) hd
theorem Li {x:Str}{i:Nat}{id:String}{np pos:Pos}{es:List Expr}{ms:List (M PV)}{g:List PV->M PV}(hm:(x,NameKind.globalImplicit,i)∈fm.sc)(hf:x∈Bk)(hn:x≠"__name__")(hd:(x==("__debug__":Str))=false)(hb:bootBuiltins x=some (.builtin id))
  (q:SimL W n fm es ms) (op:OpCall W n fm (.builtin id) g):SimE W n fm (.Call (.Name x np) es [] pos) (ac (ag ms) g):=.mk λA V ps s C I ns=>by
 show wpAny W.m A (do callWith pos (<- eval (.Name x np) fm.env) [] (backTo pos (starEach es fm.env)) (backToKw pos (keywordEach [] fm.env))) _ _ s
 refine bg (Bo C I hf hn hb hm hd ?_)
 refine Calls.callWith_builtin (q.plain _) (AT (q.plain _) (aW (CM q A V ps s C I (Ad ns)) (λvs c0 z=>?_) λx c0 z=>z.bind))
 obtain ⟨l,o0,α₁,y0,w0,d0,u0,W0⟩:=z
 rw [Ac y0] at ns ⊢
 exact aW (op A α₁ o0 c0 l vs C w0 W0 ns) (λU U q=>q.after d0 u0) (λU U q=>q.after d0 u0)
theorem Lj {x:Str}{i:Nat}{T:String}{np pos:Pos}{es:List Expr}{ms:List (M PV)}{g:List PV->M PV}(hm:(x,NameKind.globalImplicit,i)∈fm.sc)(hf:x∈Bk)(hn:x≠"__name__")(hd:(x==("__debug__":Str))=false)(hb:bootBuiltins x=some (.type T))
  (q:SimL W n fm es ms) (op:OpCall W n fm (.type T) g):SimE W n fm (.Call (.Name x np) es [] pos) (ac (ag ms) g):=.mk λA V ps s C I ns=>by
 show wpAny W.m A (do callWith pos (<- eval (.Name x np) fm.env) [] (backTo pos (starEach es fm.env)) (backToKw pos (keywordEach [] fm.env))) _ _ s
 refine bg (Bo C I hf hn hb hm hd ?_)
 refine PySem.callWith_type (q.plain _) (AT (q.plain _) (aW (CM q A V ps s C I (Ad ns)) (λvs c0 z=>?_) λx c0 z=>z.bind))
 obtain ⟨l,o0,α₁,y0,w0,d0,u0,W0⟩:=z
 rw [Ac y0] at ns ⊢
 exact aW (op A α₁ o0 c0 l vs C w0 W0 ns) (λU U q=>q.after d0 u0) (λU U q=>q.after d0 u0)
theorem Lk {k:Nat}(h:k<=big):(k:Int)<2 ^ 63:=by
 have:big=16777216:=rfl
 have:((2:Int) ^ 63)=9223372036854775808:=by decide
 lia
theorem EU {β:Type}{f:PV->M β}{l:List PV}{vs:List Value}(r:RepL W.H W.h₀ fm.av V h l vs)(ns:aH l f ps≠.stuck):∃ p v,l=[p]/\vs=[v]/\W.rep fm V h p v/\f p ps≠.stuck:=by
 obtain ⟨p,rfl⟩:=Iz ns
 obtain ⟨v,ws,rfl,r1,r2⟩:=r.inv
 obtain rfl:ws=[]:=r2.inv
 exact ⟨p,v,rfl,rfl,r1,ns⟩
set_option tactic.hygienic true in
theorem Av:OpCall W n fm (.builtin "len") A7:=by
 refine .mk ?_
 intro A V ps s l vs C I r0 ns
 obtain ⟨p,v,rfl,rfl,r,nq⟩:=EU r0 ns
 clear r0
 cases p <;> (try exact absurd rfl ns)
 ·rename_i x
  obtain ⟨t,rfl⟩:=r.inv
  have ns':am (x.length<=big) (ae (PV.int x.length)) ps≠.stuck:=ns
  obtain ⟨c,e⟩:=Aj ns'
  rw [decide_eq_true_eq] at c
  refine Am.congr (m':=ae (PV.int x.length)) e ?_
  have:=Lk c
  refine PySem.P.len_str (by rw [AC];lia) ?_
  rw [AC]
  exact OkE.same I (.int _ _)
 ·rename_i i
  have ns':ac (ar i) (λl=>am (l.length<=big) (ae (PV.int l.length))) ps≠.stuck:=ns
  obtain ⟨l,e1,e2⟩:=Bl (Ad ns')
  rw [Ac e2] at ns'
  obtain ⟨c,e⟩:=Aj ns'
  rw [decide_eq_true_eq] at c
  refine Am.congr (m':=ae (PV.int l.length)) ((Ac e2).trans e) ?_
  obtain ⟨a,vs,rfl,hl,rl⟩:=DB I r e1
  have sz:vs.toArray.size=l.length:=by rw [size_toArray,rl.length]
  refine Calls.call_len_list hl (by rw [sz];exact Lk c) ?_
  rw [sz]
  exact OkE.same I (.int _ _)
 ·rename_i xs
  obtain ⟨a,vs,rfl,hi,hv⟩:=r.inv
  have ns':am (xs.length<=big) (ae (PV.int xs.length)) ps≠.stuck:=ns
  obtain ⟨c,e⟩:=Aj ns'
  rw [decide_eq_true_eq] at c
  refine Am.congr (m':=ae (PV.int xs.length)) e ?_
  obtain ⟨o,e1,e2⟩:=hi
  have sz:=IntsAre.length hv
  rw [Array.length_toList] at sz
  refine Calls.call_len_list ⟨o,I.inv.base _ _ e1,e2⟩ (by rw [sz];exact Lk c) ?_
  rw [sz]
  exact OkE.same I (.int _ _)
theorem BD:OpCall W n fm (.builtin "chr") D6:=by
 refine .mk ?_
 intro A V ps s l vs C I r0 ns
 obtain ⟨p,v,rfl,rfl,r,nq⟩:=EU r0 ns
 clear r0
 obtain ⟨i,e⟩:=A2 nq
 obtain rfl:=AR e
 obtain ⟨t,rfl⟩:=r.inv
 have ns':am (0<=i&&i<=1114111) (ae (PV.str [i.toNat])) ps≠.stuck:=ns
 obtain ⟨c,e⟩:=Aj ns'
 simp only [and_eq_true,decide_eq_true_eq] at c
 refine Am.congr (m':=ae (PV.str [i.toNat])) e ?_
 refine PySem.P.chr_of_int (by simp only [or_eq_false_iff,decide_eq_false_iff_not];lia) ?_
 exact OkE.same I (.str [i.toNat] _)
theorem PH:OpCall W n fm (.builtin "ord") Ux:=by
 refine .mk ?_
 intro A V ps s l vs C I r0 ns
 obtain ⟨p,v,rfl,rfl,r,nq⟩:=EU r0 ns
 clear r0
 obtain ⟨x,e⟩:=A2 nq
 obtain rfl:=A8 e
 obtain ⟨t,rfl⟩:=r.inv
 obtain ⟨c,e⟩:=A2 (o:=one x) nq
 obtain rfl:=EL e
 exact PySem.P.ord_of_char (OkE.same I (.int (c:Int) _))
theorem JH:OpCall W n fm (.builtin "abs") Sk:=by
 refine .mk ?_
 intro A V ps s l vs C I r0 ns
 obtain ⟨p,v,rfl,rfl,r,nq⟩:=EU r0 ns
 clear r0
 obtain ⟨i,e⟩:=A2 nq
 obtain rfl:=AR e
 obtain ⟨t,rfl⟩:=r.inv
 exact PyProof.Rows.call_abs_int λu tk=>OkE.same I (.int _ u)
theorem JI:OpCall W n fm (.type "str") Po:=by
 refine .mk ?_
 intro A V ps s l vs C I r0 ns
 obtain ⟨p,v,rfl,rfl,r,nq⟩:=EU r0 ns
 clear r0
 obtain ⟨i,e⟩:=A2 nq
 obtain rfl:=AR e
 obtain ⟨t,rfl⟩:=r.inv
 have ns':am (Ag i) (ae (PV.str (BM i))) ps≠.stuck:=ns
 obtain ⟨c,e⟩:=Aj ns'
 refine Am.congr (m':=ae (PV.str (BM i))) e ?_
 refine PySem.P.str_of_int ?_ ?_
 ·unfold Ag at c
  rw [decide_eq_true_eq] at c
  by_cases q:i.natAbs=0
  ·rw [q];decide
  ·exact bl ((Nat.log2_lt q).mpr (bl c (by decide:1073741824<=2 ^ 30))) (by decide)
 ·have q:=RepV.str (H:=W.H) (h₀:=W.h₀) (av:=fm.av) (V:=V) (h:=s.heap) (BM i) s.toks
  have e:txt (BM i)=Str.ofString (toString i):=Bn _
  rw [e] at q
  exact OkE.same I q
end
def cutH (h:Heap)(l:List Addr):Heap:=⟨h.objs.mapIdx λi o=>if i∈l then { o with data:=.freed } else o,h.life⟩
theorem PJ {h:Heap}{l:List Addr}{b:Addr}(m:b∈l):(cutH h l).get? b=none:=by
 cases q:(cutH h l).get? b with
 | none=>rfl
 | some o=>
  obtain ⟨e,f⟩:=get?_some_iff.mp q
  have e:(h.objs.mapIdx λi o=>if i∈l then { o with data:=.freed } else o)[b]? = some o:=e
  rw [Array.getElem?_mapIdx] at e
  obtain ⟨o',_,rfl⟩:=aU.mp e
  rw [if_pos m] at f
  injection f
theorem MI {h:Heap}{l:List Addr}{b:Addr}(m:b∉l):(cutH h l).get? b=h.get? b:=by
 have same:∀ x:Option Obj,x.map (λo=>if b∈l then { o with data:=.freed } else o)=x:=λx=>by
  cases x with
  | none=>rfl
  | some o=>exact congrArg some (if_neg m)
 have e:(cutH h l).objs[b]? = h.objs[b]?:=by
  show (h.objs.mapIdx λi o=>if i∈l then { o with data:=.freed } else o)[b]? = _
  rw [Array.getElem?_mapIdx];exact same _
 exact Option.ext λo=>by rw [get?_some_iff,get?_some_iff,e]
theorem HW (h:Heap)(l:List Addr):∀ b o,(cutH h l).get? b=some o->h.get? b=some o:=λb o e=>by
 by_cases m:b∈l
 ·rw [PJ m] at e;cases e
 ·rwa [MI m] at e
section
variable {W:Wd}{fm:Fm}{V α' α₁:List Addr}{h h' h₁ start:Heap}{n:Nat}{A:Around}{ps ps':PS}{s s':Shared}{H:Hd}{h₀:Heap}{own:List Addr}
structure Turn0 (stk:List Env)(c:List Addr)(h h':Heap):Prop where
 keep:∀ b o,h.get? b=some o->b∉frs stk->b∉c->h'.get? b=some o
 slot:∀ b o,h.get? b=some o->b∈frs stk->b∉c->∃ sl,h'.get? b=some { o with slots:=sl }
 frames:h'.FunFrames ⟨#[],{}⟩ stk
 flds:∀ b∈c,∃ o vs,h.get? b=some o/\o.data = .fields vs/\C3 o
structure Turn (stk:List Env)(c:List Addr)(h h':Heap):Prop extends Turn0 stk c h h' where
 live:∀ b∈c,(h'.get? b).isSome=true
theorem Turn0.at (T:Turn0 fm.stk c h h'){b:Addr}{o:Obj}(e:h.get? b=some o)(nf:∀ vs,o.data≠.fields vs):∃ sl,h'.get? b=some { o with slots:=sl }:=by
 have nc:b∉c:=λm=>by obtain ⟨o',vs,e',d,_⟩:=T.flds b m;rw [e] at e';cases e';exact nf vs d
 by_cases m:b∈frs fm.stk
 ·exact T.slot b o e m nc
 ·exact ⟨o.slots,T.keep b o e m nc⟩
theorem Turn0.keep' (T:Turn0 fm.stk c h h'){b:Addr}{o:Obj}(e:h.get? b=some o)(nf:∀ vs,o.data≠.fields vs)(m:b∉frs fm.stk):h'.get? b=some o:=
 T.keep b o e m λm=>by obtain ⟨o',vs,e',d,_⟩:=T.flds b m;rw [e] at e';cases e';exact nf vs d
theorem JJ (T:Turn0 fm.stk c h h')(hf:∀ b∈frs fm.stk,b∈fm.av):(∀ {p:PV} {v:Value},RepV H h₀ fm.av V h p v->RepV H h₀ fm.av V h' p v)/\∀ {l:List PV} {vs:List Value},RepL H h₀ fm.av V h l vs->RepL H h₀ fm.av V h' l vs:=by
 refine DW (λa vs ha hi=>⟨ha,?_⟩) (λi a hi=>hi) λa o es ep ha ho hx hd=>⟨ha,T.keep' ho (λws q=>by rw [hd] at q;cases q) λq=>ha (hf _ q)⟩
 obtain ⟨o,e1,e2,k,e3⟩:=hi
 exact ⟨o,T.keep' e1 (λws q=>by rw [e3] at q;cases q) (λq=>ha (hf _ q)),e2,k,e3⟩
theorem RepV.turn (T:Turn0 fm.stk c h h')(hf:∀ b∈frs fm.stk,b∈fm.av){p:PV}{v:Value}(x:RepV H h₀ fm.av V h p v):RepV H h₀ fm.av V h' p v:=(JJ T hf).1 x
theorem RepL.turn (T:Turn0 fm.stk c h h')(hf:∀ b∈frs fm.stk,b∈fm.av){l:List PV}{vs:List Value}(x:RepL H h₀ fm.av V h l vs):RepL H h₀ fm.av V h' l vs:=(JJ T hf).2 x
theorem OptRep.turn (T:Turn0 fm.stk c h h')(hf:∀ b∈frs fm.stk,b∈fm.av){p:Option PV}{v:Option Value}(x:OptRep H h₀ fm.av V h p v):OptRep H h₀ fm.av V h' p v:=x.map λr=>r.turn T hf
theorem Cr.turn {P:Addr}(x:Cr H h P)(F:h.FunFrames ⟨#[],{}⟩ fm.stk)(T:Turn0 fm.stk c h h'):Cr H h' P:=by
 have nfr:∀ b o vs,h.get? b=some o->o.data = .fields vs->b∉frs fm.stk:=λb o vs e d m=>by
  obtain ⟨_,o',ho,nf⟩:=Heap.FunFrames.mem F m
  rw [e] at ho;cases ho;exact nf vs d
 obtain ⟨ps,e,q⟩:=x
 refine ⟨ps,T.keep P _ e (nfr _ _ _ e rfl) (λm=>?_),?_⟩
 ·obtain ⟨o,vs,e1,_,p⟩:=T.flds P m
  rw [e] at e1;cases e1;exact p.1 rfl
 ·rcases q with q | ⟨k,oc,vs,t,q1,q2,q3,q4,q5⟩
  ·exact .inl q
  ·refine .inr ⟨k,oc,vs,t,q1,T.keep k _ q2 (nfr _ _ _ q2 q4) (λm=>?_),q3,q4,q5⟩
   obtain ⟨o,vs,e1,_,p⟩:=T.flds k m
   rw [q2] at e1;cases e1;exact p.2 q3
theorem Inv.turn0 (F:FmOk h₀ fm)(I:Inv H h₀ fm V ps h)(T:Turn0 fm.stk c h h')(live:∀ b∈c,b∈fm.av->(h'.get? b).isSome=true)(hc:∀ b∈c,h₀.get? b=none):Inv H h₀ fm V ps h':=by
 have rep:=λ{p v}=>OptRep.turn (H:=H) (h₀:=h₀) (V:=V) (p:=p) (v:=v) T F.frsAv
 refine ⟨λb o e=>?_,?_,?_,?_,?_,T.frames,λP hP=>(I.tabs P hP).turn I.frames T⟩
 ·refine T.keep b o (I.base b o e) (λm=>?_) (λm=>?_)
  ·rw [F.fresh b (F.frsAv b m)] at e;cases e
  ·rw [hc b m] at e;cases e
 ·obtain ⟨m,⟨o,es,ep,h1,h2,h3⟩,k⟩:=I.loc
  obtain ⟨sl,e⟩:=T.at h1 λvs q=>by rw [h2] at q;cases q
  exact ⟨m,⟨_,es,ep,e,h2,h3⟩,λx i hm=>rep (k x i hm)⟩
 ·intro x k i hm hk
  obtain ⟨cc,v,h1,h2,h3,h4,h5⟩:=I.cel x k i hm hk
  refine ⟨cc,v,h1,h2,h3,?_,rep h5⟩
  obtain ⟨o,e1,e2⟩:=h4
  obtain ⟨sl,e⟩:=T.at e1 λvs q=>by rw [e2] at q;cases q
  exact ⟨_,e,e2⟩
 ·refine ⟨I.lists.len,λi l e=>?_,I.lists.nodup,I.lists.fresh,I.lists.apart⟩
  obtain ⟨a,vs,h1,h2,h3⟩:=I.lists.at_ i l e
  refine ⟨a,vs,h1,?_,RepL.turn T F.frsAv h3⟩
  obtain ⟨k,e1⟩:=h2
  exact ⟨k,T.keep' e1 (λws q=>by cases q) (λq=>I.lists.apart a (mem_of_getElem? h1) (F.frsAv _ q))⟩
 ·intro a ha
  have:=I.live a ha
  cases q:h.get? a with
  | none=>rw [q] at this;cases this
  | some o=>
   by_cases m:a∈c
   ·exact live a m ha
   ·by_cases m2:a∈frs fm.stk
    ·obtain ⟨sl,e⟩:=T.slot a o q m2 m;rw [e];rfl
    ·rw [T.keep a o q m2 m];rfl
theorem Inv.turn (F:FmOk h₀ fm)(I:Inv H h₀ fm V ps h)(T:Turn fm.stk c h h')(hc:∀ b∈c,h₀.get? b=none):Inv H h₀ fm V ps h':=I.turn0 F T.toTurn0 (λb m U=>T.live b m) hc
theorem Rel.turn0 (R:Rel fm.stk own V start h)(T:Turn0 fm.stk c h h')(hc:∀ b∈c,start.get? b=none):Rel fm.stk own V start h':=by
 refine ⟨λb o e h1 h2 h3=>T.keep b o (R.keep b o e h1 h2 h3) h1 (λm=>by rw [hc b m] at e;cases e),λb o e h1 h2 h3=>?_,λb e=>?_⟩
 ·obtain ⟨sl,e1⟩:=R.slot b o e h1 h2 h3
  obtain ⟨sl',e2⟩:=T.slot b _ e1 h1 λm=>by rw [hc b m] at e;cases e
  exact ⟨sl',e2⟩
 ·cases q:start.get? b with
  | none=>rfl
  | some o=>
   cases q2:h.get? b with
   | none=>rw [R.live b q2] at q;cases q
   | some o2=>
    by_cases m:b∈c
    ·rw [hc b m] at q;cases q
    ·by_cases m2:b∈frs fm.stk
     ·obtain ⟨sl,e2⟩:=T.slot b o2 q2 m2 m;rw [e2] at e;cases e
     ·rw [T.keep b o2 q2 m2 m] at e;cases e
theorem Rel.turn (R:Rel fm.stk own V start h)(T:Turn fm.stk c h h')(hc:∀ b∈c,start.get? b=none):Rel fm.stk own V start h':=R.turn0 T.toTurn0 hc
end
section
variable {W:Wd}{fm:Fm}{V α' α₁ w1:List Addr}{h h' h₁ start:Heap}{n:Nat}{A:Around}{ps ps':PS}{s s':Shared}{H:Hd}{h₀:Heap}{own:List Addr}{e:PX}{x:Value}
theorem Turn.set (F:h.FunFrames ⟨#[],{}⟩ fm.stk){a:Addr}{o:Obj}{vs:Array Value}(ha:h.get? a=some o)(hd:o.data = .fields vs)(pf:C3 o)(f:Array Value->Array Value):Turn fm.stk [a] h (h.update a (Obj.mapFields f)) /\
  (h.update a (Obj.mapFields f)).get? a=some (o.mapFields f)/\(o.mapFields f).data = .fields (f vs):=by
 have hd':=Obj.data_mapFields hd f
 have e1:=Heap.get?_update_self (Obj.mapFields f) ha (Obj.isFreed_of_fields hd')
 have ne:∀ b,b≠a->(h.update a (Obj.mapFields f)).get? b=h.get? b:=λb q=>get?_update_other _ _ (Ne.symm q)
 refine ⟨⟨⟨λb o' e' U m=>by rw [ne b (λq=>m (by rw [q];exact mem_singleton_self _))];exact e',λb o' e' U m=>⟨o'.slots,by rw [ne b (λq=>m (by rw [q];exact mem_singleton_self _))];exact e'⟩,F.of_keeps λb o' e' nf=>?_,λb m=>?_⟩,λb m=>?_⟩,e1,hd'⟩
 ·have:b≠a:=λq=>by rw [q,ha] at e';cases e';exact nf vs hd
  exact ⟨o',(ne b this).trans e',rfl⟩
 ·rw [mem_singleton.mp m];exact ⟨o,vs,ha,hd,pf⟩
 ·rw [mem_singleton.mp m,e1];rfl
theorem Turn.trans {stk:List Env}{c c':List Addr}(T:Turn stk c h h₁)(T':Turn stk c' h₁ h')(hc:∀ b∈c,b∈c'->True)(hs:∀ b∈c',b∈c\/∃ o vs,h.get? b=some o/\o.data = .fields vs/\C3 o)(hl:∀ b∈c,(h'.get? b).isSome=true):Turn stk (c++c') h h':=by
 refine ⟨⟨λb o e1 m1 m2=>?_,λb o e1 m1 m2=>?_,T'.frames,λb m=>?_⟩,λb m=>?_⟩
 ·exact T'.keep b o (T.keep b o e1 m1 λq=>m2 (mem_append_left _ q)) m1 λq=>m2 (mem_append_right _ q)
 ·obtain ⟨sl,e2⟩:=T.slot b o e1 m1 λq=>m2 (mem_append_left _ q)
  obtain ⟨sl',e3⟩:=T'.slot b _ e2 m1 λq=>m2 (mem_append_right _ q)
  exact ⟨sl',e3⟩
 ·rcases mem_append.mp m with q | q
  ·exact T.flds b q
  ·rcases hs b q with q | q
   ·exact T.flds b q
   ·exact q
 ·rcases mem_append.mp m with q | q
  ·exact hl b q
  ·exact T'.live b q
theorem Turn.push {stk:List Env}(F:h.FunFrames ⟨#[],{}⟩ stk)(o:Obj):Turn stk [] h (h.push o):=
 ⟨⟨λb o' e' U U=>get?_push_of_some _ e',λb o' e' U U=>⟨o'.slots,get?_push_of_some _ e'⟩,F.of_keeps λb o' e' U=>⟨o',get?_push_of_some _ e',rfl⟩,λb m=>(by cases m)⟩,λb m=>(by cases m)⟩
theorem Turn.slots {stk:List Env}(F:h.FunFrames ⟨#[],{}⟩ stk)(S:Heap.SlotsOnly (frs stk) h h'):Turn stk [] h h':=
 ⟨⟨λb o e m U=>(S.2.1 b m).trans e,λb o e U U=>S.2.2 b o e,F.of_keeps λb o e U=>by obtain ⟨sl,q⟩:=S.2.2 b o e;exact ⟨_,q,rfl⟩,λb m=>(by cases m)⟩,λb m=>(by cases m)⟩
theorem Ll {M:Model}{base:Heap}{e env:Env}{outer:List Env}{L:Addr}{Q:Value->Shared->Prop}{E:Value->Shared->Prop}(hfr:A.frames=some (e::outer))(hl:s.heap.FunFrames base (e::outer))(he:e.frame=env.frame)
  (hf:env.frame=some L) (h:∀ h',Heap.SlotsOnly ((e::outer).filterMap (·.frame)) s.heap h'->Q (.ref L) { s with heap:=h' }):wpAny M A (PySem.frameOf env) Q E s:=by
 unfold PySem.frameOf
 refine bg (wpAny_frameEnvs hfr ?_)
 have hdw:((e::outer).dropWhile λx=>x.frame != env.frame)=e::outer:=by simp [List.dropWhile,he]
 rw [hdw]
 unfold frameObject
 refine bg (bg (wpAny_readyFrames_fun hl λh₁ j4=>bh ?_))
 rw [he,hf]
 exact bh (h h₁ j4)
theorem JK {a L:Addr}{oe:Obj}{vs:Array Value}{head:Value}{hn:Bool}(hfr:A.frames=some fm.stk)(F:s.heap.FunFrames ⟨#[],{}⟩ fm.stk)(hst:∃ e r,fm.stk=e::r/\e.frame=fm.env.frame)(hf:fm.env.frame=some L)
  (ha:s.heap.get? a=some oe) (hd:oe.data = .fields vs) (pf:C3 oe) (hsz:1<vs.size) {Q:Unit->Shared->Prop} {E:Value->Shared->Prop}
  (hQ:∀ h' T oT ts,Turn fm.stk [a] s.heap h'->h'.get? a=some (oe.mapFields (·.setIfInBounds 1 (.ref T)))->(oe.mapFields (·.setIfInBounds 1 (.ref T))).data = .fields (vs.setIfInBounds 1 (.ref T))->s.heap.get? T=none->T≠a->h'.get? T=some oT->oT.data = .fields ts->3<ts.size->C3 oT->Q () { s with heap:=h' }) :
  wpAny W.m A (do let f <- frameOf fm.env;let pl <- entryPlaceOf L hn;let b <- EntryCells.newEntry head f .none (rawInt L) .none pl;setField (.ref a) 1 b) Q E s:=by
 obtain ⟨er,r,hr,her⟩:=hst
 have F':s.heap.FunFrames ⟨#[],{}⟩ (er::r):=hr▸F
 refine bg (Ll (hfr.trans (congrArg some hr)) F' her hf λh₁ j4=>?_)
 refine bg (wpAny_entryPlaceOf λpl hpl=>?_)
 unfold EntryCells.newEntry newFields
 refine bg (wpAny_newObj_type ?_ (hpl.sizeOk5 _ _ _ _ _))
 rw [<- hr] at j4
 have T1:Turn fm.stk [] s.heap h₁:=Turn.slots F j4
 have na:a∉frs fm.stk:=λm=>by
  obtain ⟨_,o,ho,nf⟩:=Heap.FunFrames.mem F m
  rw [ha] at ho;cases ho;exact nf vs hd
 have t7:h₁.get? a=some oe:=(j4.2.1 a na).trans ha
 have T2:=Turn.push T1.frames { cls:=.type "traceback",dict:=none,data:=.fields ([head,.ref L,.none,rawInt L,.none]++(if pl.isEmpty then replicate 6 Value.none else pl)).toArray }
 have u7:=get?_push_of_some { cls:=.type "traceback",dict:=none,data:=.fields ([head,.ref L,.none,rawInt L,.none]++(if pl.isEmpty then replicate 6 Value.none else pl)).toArray } t7
 refine wpAny_setField u7 hd hsz ?_
 obtain ⟨T3,e3,d3⟩:=Turn.set (fm:=fm) T2.frames u7 hd pf (·.setIfInBounds 1 (.ref h₁.objs.size))
 have T12:Turn fm.stk ([]++[]) s.heap _:=T1.trans T2 (λU U U=>trivial) (λb m=>(by cases m)) (λb m=>(by cases m))
 have T123:Turn fm.stk ([]++[]++[a]) s.heap _:=T12.trans T3 (λU U U=>trivial) (λb m=>.inr (by rw [mem_singleton.mp m];exact ⟨oe,vs,ha,hd,pf⟩)) (λb m=>(by cases m))
 have nT:h₁.objs.size≠a:=Nat.ne_of_gt (lt_size t7)
 have fresh:s.heap.get? h₁.objs.size=none:=by rw [j4.1];exact AJ _
 refine hQ _ h₁.objs.size _ _ T123 e3 d3 fresh nT ((get?_update_other _ _ (Ne.symm nT)).trans (get?_push_size _ rfl)) rfl ?_ ⟨(λq=>(by cases q)),λq=>absurd (Value.type.inj q) (by decide)⟩
 simp
theorem Lm {c:List Addr}{a:Addr}{vs:Array Value}(x:IsTup h a vs)(T:Turn0 fm.stk c h h'):IsTup h' a vs:=by
 obtain ⟨o,e1,e2,k,e3⟩:=x
 obtain ⟨sl,e⟩:=T.at e1 λws q=>by rw [e3] at q;cases q
 exact ⟨_,e,e2,k,e3⟩
theorem EN.turn {c:List Addr}{v:Option Value}(x:EN start h e v)(T:Turn fm.stk c h h'):EN start h' e v:=by
 cases e with
 | std n=>exact x
 | toml m=>obtain ⟨t,tk,h1,h2,h3⟩:=x;exact ⟨t,tk,h1,h2,Lm h3 T.toTurn0⟩
theorem PK {oe:Obj}{v:Option Value}(hc:oe.cls=W.cls e)(x:EN start h e v):C3 oe:=by
 unfold C3
 rw [hc]
 cases e with
 | std n=>exact ⟨(λq=>(by cases q)),λq=>x (Value.type.inj q)⟩
 | toml m=>exact ⟨(λq=>(by cases q)),λq=>(by cases q)⟩
theorem Gi (C:Ctx W fm n A)(I:InvS W fm V ps s)(R:Rel fm.stk own w1 start s.heap)(hs0:∀ b,start.get? b=none->W.h₀.get? b=none)(X:Raised W start s.heap e x){Q:Unit->Shared->Prop}{E:Value->Shared->Prop}
  (h:∀ h',InvS W fm V ps { s with heap:=h' }->Rel fm.stk own w1 start h'->RaisedN W start h' e x->Q () { s with heap:=h' }):wpAny W.m A (noteFrame x fm.env) Q E s:=by
 obtain ⟨a,oe,vs,rfl,ha,hc,hd,hsz,hna,harg,htb,hctx⟩:=X
 obtain ⟨fe,fr,hst,hfe,hsome⟩:=C.fm.frame
 obtain ⟨L,hf⟩:=ba.mp hsome
 have hst':∃ e r,fm.stk=e::r/\e.frame=fm.env.frame:=⟨fe,fr,hst,hfe⟩
 have F:=I.inv.frames
 have h1v:vs[1]? = some (vs[1]'(by exact la [_] [([11,3,0],[2])] ([3,3,0],[2]) rfl hsz)):=Array.getElem?_eq_getElem _
 unfold noteFrame
 simp only [hf]
 refine bg (wpAny_field ha hd h1v ?_)
 have pf:=PK hc harg
 rcases htb with q | ⟨T,oT,ts,q,nTa,hT,hdT,h3,nT,pT⟩
 ·rw [h1v] at q
  rw [Option.some.inj q]
  rw [if_neg (by decide)]
  refine JK C.frames F hst' hf ha hd pf (by exact la [_] [([11,3,0],[2])] ([3,3,0],[2]) rfl hsz) λh' T oT ts Tn e1 d1 f1 f2 f3 f4 f5 f6=>?_
  have hc0:∀ b∈[a],start.get? b=none:=λb m=>by rw [mem_singleton.mp m];exact hna
  refine h h' ⟨I.inv.turn C.fm Tn λb m=>hs0 b (hc0 b m),I.gens,I.os⟩ (R.turn Tn hc0) ⟨a,_,_,rfl,e1,(Obj.cls_mapFields _ _).trans hc,d1,by simpa using hsz,hna,?_,?_,?_⟩
  ·rw [Array.getElem?_setIfInBounds_ne (by decide)];exact harg.turn Tn
  ·exact ⟨T,oT,ts,(by simp [show 1<vs.size by exact la [_] [([11,3,0],[2])] ([3,3,0],[2]) rfl hsz]:(vs.setIfInBounds 1 (Value.ref T))[1]? = some (Value.ref T)),f2,f3,f4,f5,R.live T f1,f6⟩
  ·rw [Array.getElem?_setIfInBounds_ne (by decide)];exact hctx
 ·rw [h1v] at q
  rw [Option.some.inj q]
  rw [if_pos (show (Value.ref T != Value.none)=true from by simp)]
  have h3v:ts[3]? = some (ts[3]'h3):=Array.getElem?_eq_getElem _
  refine bg (wpAny_field hT hdT h3v ?_)
  by_cases z:(ts[3]'h3==rawInt L)=true
  ·rw [if_pos z]
   refine bh ?_
   exact h s.heap I R ⟨a,oe,vs,rfl,ha,hc,hd,hsz,hna,harg,⟨T,oT,ts,h1v.trans q,nTa,hT,hdT,h3,nT,pT⟩,hctx⟩
  ·rw [if_neg z]
   refine bg (wpAny_setField hT hdT h3 ?_)
   obtain ⟨T1,e1,d1⟩:=Turn.set (fm:=fm) F hT hdT pT (·.setIfInBounds 3 .none)
   have ha1:(s.heap.update T (Obj.mapFields (·.setIfInBounds 3 .none))).get? a=some oe:=(get?_update_other _ _ nTa).trans ha
   refine JK (s:={ s with heap:=s.heap.update T (Obj.mapFields (·.setIfInBounds 3 .none)) }) C.frames T1.frames hst' hf ha1 hd pf (by exact la [_] [([11,3,0],[2])] ([3,3,0],[2]) rfl hsz) λh' T' oT' ts' Tn e2 d2 f1 f2 f3 f4 f5 f6=>?_
   have T12:Turn fm.stk ([T]++[a]) s.heap h':=T1.trans Tn (λU U U=>trivial) (λb m=>.inr (by rw [mem_singleton.mp m];exact ⟨oe,vs,ha,hd,pf⟩)) (λb m=>by
    rw [mem_singleton.mp m]
    have na:T∉frs fm.stk:=λm=>by
     obtain ⟨_,o,ho,nf⟩:=Heap.FunFrames.mem F m
     rw [hT] at ho;cases ho;exact nf ts hdT
    rw [Tn.keep T _ e1 na λq=>nTa (mem_singleton.mp q)];rfl)
   have hc0:∀ b∈[T]++[a],start.get? b=none:=λb m=>by
    rcases mem_append.mp m with q | q
    ·rw [mem_singleton.mp q];exact nT
    ·rw [mem_singleton.mp q];exact hna
   have live1:∀ b,(s.heap.update T (Obj.mapFields (·.setIfInBounds 3 .none))).get? b=none->s.heap.get? b=none:=λb q=>by
    by_cases z:b=T
    ·rw [z,e1] at q;cases q
    ·rwa [get?_update_other _ _ (Ne.symm z)] at q
   refine h h' ⟨I.inv.turn C.fm T12 λb m=>hs0 b (hc0 b m),I.gens,I.os⟩ (R.turn T12 hc0) ⟨a,_,_,rfl,e2,(Obj.cls_mapFields _ _).trans hc,d2,by simpa using hsz,hna,?_,?_,?_⟩
   ·rw [Array.getElem?_setIfInBounds_ne (by decide)];exact harg.turn T12
   ·exact ⟨T',oT',ts',(by simp [show 1<vs.size by exact la [_] [([11,3,0],[2])] ([3,3,0],[2]) rfl hsz]:(vs.setIfInBounds 1 (Value.ref T'))[1]? = some (Value.ref T')),f2,f3,f4,f5,R.live T' (live1 T' f1),f6⟩
   ·rw [Array.getElem?_setIfInBounds_ne (by decide)];exact hctx
theorem CJ (C:Ctx W fm n A)(I:InvS W fm V ps s)(R:Rel fm.stk own w1 start s.heap)(hs0:∀ b,start.get? b=none->W.h₀.get? b=none)(X:RaisedN W start s.heap e x)(fl:Option Addr){Q:Unit->Shared->Prop}{E:Value->Shared->Prop}
  (h:∀ h',InvS W fm V ps { s with heap:=h' }->Rel fm.stk own w1 start h'->RaisedN W start h' e x->Q () { s with heap:=h' }):wpAny W.m A (setFlight x fl) Q E s:=by
 obtain ⟨a,oe,vs,rfl,ha,hc,hd,hsz,hna,harg,⟨T,oT,ts,q,nTa,hT,hdT,h3,nT,pT⟩,hctx⟩:=X
 have F:=I.inv.frames
 unfold setFlight
 refine bg (wpAny_field ha hd q ?_)
 rw [if_pos (show (Value.ref T != Value.none)=true from by simp)]
 refine wpAny_setField hT hdT h3 ?_
 obtain ⟨T1,e1,d1⟩:=Turn.set (fm:=fm) F hT hdT pT (·.setIfInBounds 3 (fl.elim Value.none λf=>rawInt f))
 have hc0:∀ b∈[T],start.get? b=none:=λb m=>by rw [mem_singleton.mp m];exact nT
 refine h _ ⟨I.inv.turn C.fm T1 λb m=>hs0 b (hc0 b m),I.gens,I.os⟩ (R.turn T1 hc0) ⟨a,oe,vs,rfl,(get?_update_other _ _ nTa).trans ha,hc,hd,hsz,hna,harg.turn T1,?_,hctx⟩
 exact ⟨T,_,_,q,nTa,e1,d1,by simpa using h3,nT,by unfold C3;rw [Obj.cls_mapFields];exact pT⟩
theorem SameBut.rel {a:Addr}(S:Heap.SameBut a h h')(ha:(h'.get? a).isSome=true)(m:a∈own)(stk:List Env)(V:List Addr):Rel stk own V h h':=
 ⟨λb o e U h2 U=>(S.2 b λq=>h2 (q▸m)).trans e,λb o e U h2 U=>⟨o.slots,(S.2 b λq=>h2 (q▸m)).trans e⟩,λb e=>by
  by_cases q:b=a
  ·rw [q] at e;rw [e] at ha;cases ha
  ·rw [<- S.2 b q];exact e⟩
theorem JL {a:Addr}(S:Heap.SameBut a h h')(ha:a∈fm.av)(hα:∀ b∈V,b≠a):(∀ {p:PV} {v:Value},RepV H h₀ fm.av V h p v->RepV H h₀ fm.av V h' p v)/\∀ {l:List PV} {vs:List Value},RepL H h₀ fm.av V h l vs->RepL H h₀ fm.av V h' l vs:=by
 refine DW (λb vs hn hi=>⟨hn,?_⟩) (λi a hi=>hi) λb o es ep hn ho hx hd=>⟨hn,(S.2 _ λq=>hn (by rw [q];exact ha)).trans ho⟩
 obtain ⟨o,e1,e2⟩:=hi
 exact ⟨o,(S.2 _ λq=>hn (by rw [q];exact ha)).trans e1,e2⟩
theorem RepV.same {a:Addr}(S:Heap.SameBut a h h')(ha:a∈fm.av)(hα:∀ b∈V,b≠a){p:PV}{v:Value}(x:RepV H h₀ fm.av V h p v):RepV H h₀ fm.av V h' p v:=(JL S ha hα).1 x
theorem RepL.same {a:Addr}(S:Heap.SameBut a h h')(ha:a∈fm.av)(hα:∀ b∈V,b≠a){l:List PV}{vs:List Value}(x:RepL H h₀ fm.av V h l vs):RepL H h₀ fm.av V h' l vs:=(JL S ha hα).2 x
theorem OptRep.same {a:Addr}(S:Heap.SameBut a h h')(ha:a∈fm.av)(hα:∀ b∈V,b≠a){p:Option PV}{v:Option Value}(x:OptRep H h₀ fm.av V h p v):OptRep H h₀ fm.av V h' p v:=x.map λr=>r.same S ha hα
theorem Inv.mine (F:FmOk h₀ fm)(I:Inv H h₀ fm V ps h){a:Addr}(S:Heap.SameBut a h h')(ha:a∈fm.av)(hs:(h'.get? a).isSome=true)(nf:∀ o,h.get? a=some o->(∀ vs,o.data≠.fields vs)/\∃ o',h'.get? a=some o'/\∀ vs,o'.data≠.fields vs){ps':PS}(hst:ps'.st=ps.st)
  (loc:∃ m,h'.Ns fm.env.locals m/\∀ x i,(x,NameKind.local,i)∈fm.sc->OptRep H h₀ fm.av V h' (ps'.loc i) (m x))
  (cel:∀ x k i,(x,k,i)∈fm.sc->(k = .cell\/k = .free)->∃ c v,fm.env.cells.lookup x=some c/\c∈fm.av/\c≠fm.env.locals/\h'.IsCell c v/\OptRep H h₀ fm.av V h' (ps'.loc i) v):Inv H h₀ fm V ps' h':=by
 have hα:∀ b∈V,b≠a:=λb m q=>I.lists.apart b m (q▸ha)
 refine ⟨λb o e=>(S.2 b λq=>?_).trans (I.base b o e),loc,cel,⟨by rw [hst];exact I.lists.len,λi l e=>?_,I.lists.nodup,I.lists.fresh,I.lists.apart⟩,λb m=>?_,?_,λP hP=>(I.tabs P hP).same S λo vs e=>(nf o e).1 vs⟩
 ·rw [q,F.fresh a ha] at e;cases e
 ·rw [hst] at e
  obtain ⟨b,vs,h1,h2,h3⟩:=I.lists.at_ i l e
  obtain ⟨k,e1⟩:=h2
  exact ⟨b,vs,h1,⟨k,(S.2 b (hα b (mem_of_getElem? h1))).trans e1⟩,RepL.same S ha hα h3⟩
 ·by_cases q:b=a
  ·rw [q];exact hs
  ·rw [S.2 b q];exact I.live b m
 ·have go:∀ l:List Env,h.FunFrames ⟨#[],{}⟩ l->h'.FunFrames ⟨#[],{}⟩ l:=by
   intro l
   induction l with
   | nil=>exact λU=>trivial
   | cons env rest ih=>
    rintro ⟨h1,⟨L,o,h2,h3,h4,h5⟩,h6⟩
    refine ⟨h1,?_,ih h6⟩
    by_cases q:L=a
    ·obtain ⟨_,o',e1,e2⟩:=nf o (q▸h4)
     exact ⟨L,o',h2,h3,by rw [q];exact e1,e2⟩
    ·exact ⟨L,o,h2,h3,(S.2 L q).trans h4,h5⟩
  exact go _ I.frames
theorem DE {x:Str}{k:NameKind}{i:Nat}(C:Ctx W fm n A)(I:InvS W fm V ps s)(hm:(x,k,i)∈fm.sc)(hk:k = .local\/k = .cell){p:PV}{v:Value}(r:W.rep fm V s.heap p v){Q:Unit->Shared->Prop}{E:Value->Shared->Prop}
  (h:∀ s',InvS W fm V { ps with loc:=λj=>if j=i then some p else ps.loc j } s'->Rel fm.stk fm.own V s.heap s'.heap->Q () s'):wpAny W.m A (storeName fm.env x v) Q E s:=by
 have kd:=C.fm.kindX hm (by rcases hk with rfl | rfl <;> decide)
 rcases hk with rfl | rfl
 ·obtain ⟨m,n1,n2⟩:=I.inv.loc
  refine wpAny_storeName_local kd n1 (λh' hn S=>?_) (by simp [C.fm.kind])
  have hα:∀ b∈V,b≠fm.env.locals:=λb m q=>I.inv.lists.apart b m (q▸C.fm.locAv)
  obtain ⟨o',es,ep,e1,e2,e3⟩:=id hn
  have live:(h'.get? fm.env.locals).isSome=true:=by rw [e1];rfl
  refine h _ ⟨I.inv.mine C.fm S C.fm.locAv live (λo eo=>⟨(λvs q=>by obtain ⟨oo,_,_,f1,f2,_⟩:=n1;rw [eo] at f1;cases f1;rw [f2] at q;cases q),o',e1,λvs q=>by rw [e2] at q;cases q⟩) rfl ⟨_,hn,λy j hy=>?_⟩ λy kk j hy hkk=>?_,I.gens,I.os⟩ (SameBut.rel S live C.fm.locOwn _ _)
  ·by_cases q:y=x
   ·have:=(C.fm.once _ _ _ _ _ _ hy hm).mpr q
    subst q this
    simp only [if_true]
    exact .some (r.same S C.fm.locAv hα)
   ·have:j≠i:=λz=>q ((C.fm.once _ _ _ _ _ _ hy hm).mp z)
    simp only [if_neg q,if_neg this]
    exact (n2 y j hy).same S C.fm.locAv hα
  ·obtain ⟨c,v,q1,q2,q3,⟨o,q4,q4'⟩,q5⟩:=I.inv.cel y kk j hy hkk
   refine ⟨c,v,q1,q2,q3,⟨o,(S.2 c q3).trans q4,q4'⟩,?_⟩
   have:j≠i:=λz=>by
    have:=(C.fm.once _ _ _ _ _ _ hy hm).mp z
    subst this
    have k1:=C.fm.kinds _ _ _ hy
    rw [kd] at k1
    rcases k1 with k1 | ⟨_,k1⟩
    ·cases k1
     rcases hkk with q | q <;> cases q
    ·cases k1
   simp only [if_neg this]
   exact q5.same S C.fm.locAv hα
 ·obtain ⟨c,v0,q1,q2,q3,q4,q5⟩:=I.inv.cel x .cell i hm (.inl rfl)
  refine wpAny_storeName_cell C.fm.kind kd q1 q4 λh' hc S=>?_
  have hα:∀ b∈V,b≠c:=λb m q=>I.inv.lists.apart b m (q▸q2)
  obtain ⟨o',e1,e2⟩:=id hc
  have live:(h'.get? c).isSome=true:=by rw [e1];rfl
  refine h _ ⟨I.inv.mine C.fm S q2 live (λo eo=>⟨(λvs q=>by obtain ⟨oo,f1,f2⟩:=q4;rw [eo] at f1;cases f1;rw [f2] at q;cases q),o',e1,λvs q=>by rw [e2] at q;cases q⟩) rfl ?_ λy kk j hy hkk=>?_,I.gens,I.os⟩ (SameBut.rel S live (C.fm.cellOwn x i c hm q1) _ _)
  ·obtain ⟨m,⟨o,es,ep,n1,n2,n3⟩,n4⟩:=I.inv.loc
   refine ⟨m,⟨o,es,ep,(S.2 _ (Ne.symm q3)).trans n1,n2,n3⟩,λy j hy=>?_⟩
   have:j≠i:=λz=>by
    have:=(C.fm.once _ _ _ _ _ _ hy hm).mp z
    subst this
    have k1:=C.fm.kindX hy (by decide)
    rw [kd] at k1
    cases k1
   simp only [if_neg this]
   exact (n4 y j hy).same S q2 hα
  ·obtain ⟨c',v',r1,r2,r3,⟨o,r4,r4'⟩,r5⟩:=I.inv.cel y kk j hy hkk
   by_cases q:c'=c
   ·subst q
    have:=C.fm.cellApart _ _ _ _ _ _ _ hy hm r1 q1
    subst this
    have:=(C.fm.once _ _ _ _ _ _ hy hm).mpr rfl
    subst this
    exact ⟨c',some v,r1,r2,r3,hc,by simp only [if_true];exact .some (r.same S q2 hα)⟩
   ·have:j≠i:=λz=>by
     have:=(C.fm.once _ _ _ _ _ _ hy hm).mp z
     subst this
     rw [q1] at r1;exact q (aT r1).symm
    refine ⟨c',v',r1,r2,r3,⟨o,(S.2 c' q).trans r4,r4'⟩,?_⟩
    simp only [if_neg this]
    exact r5.same S q2 hα
theorem Rel.up (r:Rel fm.stk fm.tab V h h'):Rel fm.stk fm.own V h h':=r.mono λU q=>mem_append_left _ q
theorem UE (op:Operator){a b:PV}{va vb:Value}(C:Ctx W fm n A)(I:InvS W fm V ps s)(ra:W.rep fm V s.heap a va)(rb:W.rep fm V s.heap b vb)(ns:Do op a b ps≠.stuck):Am W fm A V ps s (inplaceOp op va vb) (Do op a b):=by
 cases op with
 | Add=>
  have ns':Sh a b ps≠.stuck:=ns
  show Am W fm A V ps s _ (Sh a b)
  rcases Sj ns' with ⟨_,_,rfl,rfl⟩ | ⟨_,_,rfl,rfl⟩
  ·obtain ⟨_,rfl⟩:=ra.inv;obtain ⟨_,rfl⟩:=rb.inv;exact AutoIntOps.iadd_0 (OkE.same I (.int _ _))
  ·obtain ⟨_,rfl⟩:=ra.inv;obtain ⟨_,rfl⟩:=rb.inv
   exact Am.str I ns' λhl Q E h=>SB.iadd (λt' k=>DX _ _▸h k t') (by rw [AC,AC,<- length_append];exact hl)
 | Sub=>
  obtain ⟨i,j,rfl,rfl⟩:=BP (show BO _ a b ps≠.stuck from ns)
  obtain ⟨_,rfl⟩:=ra.inv;obtain ⟨_,rfl⟩:=rb.inv
  exact AutoIntOps.isub_0 (OkE.same I (.int _ _))
 | FloorDiv=>
  obtain ⟨i,j,rfl,rfl⟩:=BP (show BO _ a b ps≠.stuck from ns)
  obtain ⟨_,rfl⟩:=ra.inv;obtain ⟨_,rfl⟩:=rb.inv
  have ns':am (j != 0&&Ag j) (ae (PV.int (i.fdiv j))) ps≠.stuck:=ns
  obtain ⟨c,e⟩:=Aj ns'
  refine Am.congr (m':=ae (PV.int (i.fdiv j))) e ?_
  rw [and_eq_true] at c
  exact AutoIntOps.ifloordiv_1 (by simpa using c.1) (by rw [EO c.2];exact bn) (OkE.same I (.int _ _))
 | _=>exact absurd rfl ns
theorem JM {x:Str}{k:NameKind}{i:Nat}{p pos:Pos}{v:Expr}{m:M PV}(hm:(x,k,i)∈fm.sc)(hk:k = .local\/k = .cell)(hv:SimE W n fm v m)(hs:∀ env,swapsWith v (some (.Name x p)) pos.line env=pure false) :
  SimT W n fm (.Assign [.Name x p] v pos) (ac m λa=>ac (ah i a) λU=>ae .next):=.mk λA V ps s C I ns=>by
 refine wpAny_Assign_Name (Am.seq (hv A V ps s C I (Ad ns)) (λa va α₁ o0 c0 w0 d0 u0 ra y0=>?_) λx c0 q=>q.toS.bind) (hs _)
 rw [Ac y0]
 refine DE C w0 hm hk ra λs' I' R'=>?_
 exact OkS.after ⟨.next,_,α₁,rfl,I',.refl ..,R',.next⟩ d0 u0.up
theorem PL {x:Str}{k:NameKind}{i:Nat}{p pos:Pos}{op:Operator}{v:Expr}{m:M PV}(hm:(x,k,i)∈fm.sc)(hk:k = .local\/k = .cell)(hc:(x==("__classdict__":Str))=false)(hv:SimE W n fm v m) :
  SimT W n fm (.AugAssign (.Name x p) op v pos) (ac (af i) λa=>ac m λb=>ac (Do op a b) λr=>ac (ah i r) λU=>ae .next):=.mk λA V ps s C I ns=>by
 obtain ⟨a,ea,ea'⟩:=IH (Ad ns)
 rw [Ac ea'] at ns ⊢
 refine wpAny_AugAssign_Name (GI C I hm (by rcases hk with q | q <;> simp [q]) hc ea λva ra=>?_)
 refine Am.seq (hv A V ps s C I (Ad ns)) (λb vb α₁ o0 c0 w0 d0 u0 rb y0=>?_) λx c0 q=>q.toS.bind
 rw [Ac y0] at ns ⊢
 refine Am.seq (UE op C w0 (I.stays C u0 d0 ra) rb (Ad ns)) (λr vr X0 Z1 z0 Y1 Y0 Z0 rr W1=>?_) λx c0 q=>(q.bind.after d0 u0).toS
 rw [Ac W1]
 refine DE C Y1 hm hk rr λs' I' R'=>?_
 exact (OkS.after ⟨.next,_,X0,rfl,I',.refl ..,R',.next⟩ Y0 Z0.up).after d0 u0.up
theorem Aq {v:Expr}{pos:Pos}{m:M PV}(hv:SimE W n fm v m):SimT W n fm (.Return (some v) pos) (ac m λa=>ae (.ret a)):=.mk λA V ps s C I ns=>by
 refine wpAny_Return_some (Am.seq (hv A V ps s C I (Ad ns)) (λa va α₁ o0 c0 w0 d0 u0 ra y0=>?_) λx c0 q=>q.toS.bind)
 rw [Ac y0]
 exact ⟨.ret a,o0,α₁,rfl,w0,d0,u0.up,.ret ra⟩
theorem HX {pos:Pos}:SimT W n fm (.Continue pos) (ae .cont):=.mk λA V ps s C I ns=>wpAny_Continue ⟨.cont,ps,V,rfl,I,.refl ..,.refl ..,.cont⟩
theorem Ar:SimS W n fm [] (ae .next):=.mk λA V ps s C I ns=>wpAny_execs_nil ⟨.next,ps,V,rfl,I,.refl ..,.refl ..,.next⟩
theorem Aa {st:Stmt}{b:List Stmt}{m r:M PFlow}(hm:SimT W n fm st m)(hr:SimS W n fm b r):SimS W n fm (st::b) (aj m r):=.mk λA V ps s C I ns=>by
 unfold aj at ns ⊢
 refine wpAny_execs_cons (aW (hm A V ps s C I (Ad ns)) (λf c0 q=>?_) λx c0 q=>q.bind)
 obtain ⟨f,o0,α₁,y0,w0,d0,u0,rf⟩:=q
 rw [Ac y0] at ns ⊢
 cases rf with
 | next=>exact aW (hr A α₁ o0 c0 C w0 ns) (λU U q=>q.after d0 u0) λU U q=>q.after d0 u0
 | brk=>exact ⟨.brk,o0,α₁,rfl,w0,d0,u0,.brk⟩
 | cont=>exact ⟨.cont,o0,α₁,rfl,w0,d0,u0,.cont⟩
 | ret r=>exact ⟨.ret _,o0,α₁,rfl,w0,d0,u0,.ret r⟩
theorem Ln (m:M PFlow):aj m (ae .next)=m:=by
 funext ps
 unfold aj ac
 cases m ps with
 | ok f s=>cases f <;> rfl
 | ex e s=>rfl
 | stuck=>rfl
theorem Af {st:Stmt}{m:M PFlow}(hm:SimT W n fm st m):SimS W n fm [st] m:=by
 have:=Aa hm (Ar (W:=W) (n:=n) (fm:=fm))
 rwa [Ln] at this
theorem Ax {t:Expr}{b o:List Stmt}{pos:Pos}{mt:M Bool}{mb mo:M PFlow}(ht:SimB W n fm t mt)(hb:SimS W n fm b mb)(ho:SimS W n fm o mo):SimT W n fm (.If t b o pos) (ac mt λc=>if c then mb else mo):=.mk λA V ps s C I ns=>by
 refine wpAny_If (aW (ht A V ps s C I (Ad ns)) (λc c0 z=>?_) λx c0 z=>z.toS.bind)
 obtain ⟨o0,α₁,y0,w0,d0,u0⟩:=z
 rw [Ac y0] at ns ⊢
 cases c
 ·exact aW (ho A α₁ o0 c0 C w0 ns) (λU U q=>q.after d0 u0.up) λU U q=>q.after d0 u0.up
 ·exact aW (hb A α₁ o0 c0 C w0 ns) (λU U q=>q.after d0 u0.up) λU U q=>q.after d0 u0.up
inductive ExN (W:Wd)(fm:Fm)(V:List Addr)(h:Heap)(r:R PFlow)(x:Value)(s':Shared):Prop
 | mk (e:PX) (ps':PS) (α':List Addr) (k1:r = .ex e ps') (k2:InvS W fm α' ps' s') (k3:Grow V α' h) (k4:Rel fm.stk fm.own V h s'.heap) (k5:RaisedN W h s'.heap e x):ExN W fm V h r x s'
def IL (W:Wd)(fm:Fm)(V:List Addr)(h:Heap)(r:R PFlow):Result->Shared->Prop
 | .ok f,s'=>OkS W fm V h r f s'
 | .error x,s'=>ExN W fm V h r x s'
theorem InvS.none (I:InvS W fm V ps s):∀ b,s.heap.get? b=none->W.h₀.get? b=none:=λb q=>by
 cases z:W.h₀.get? b with
 | none=>rfl
 | some o=>rw [I.inv.base b o z] at q;cases q
theorem EV {r:R PFlow}(C:Ctx W fm n A)(hs0:∀ b,h.get? b=none->W.h₀.get? b=none)(q:ExS W fm V h r x s):notedBy W.m A fm.env (λe s'=>IL W fm V h r (.error e) s') x s:=by
 obtain ⟨e,ps',α',er,I,g,R,X⟩:=q
 unfold notedBy
 exact Gi C I R hs0 X λh' I' R' X'=>⟨e,ps',α',er,I',g,R',X'⟩
theorem Gj {r:R PFlow}(C:Ctx W fm n A)(hs0:∀ b,h.get? b=none->W.h₀.get? b=none)(q:IL W fm V h r (.error x) s):cameBackBy W.m A fm.env (ExS W fm V h r) x s:=by
 obtain ⟨e,ps',α',er,I,g,R,X⟩:=q
 have X':=X
 obtain ⟨a,oe,vs,rfl,ha,hc,hd,hsz,hna,harg,⟨T,oT,ts,q,nTa,hT,hdT,h3,nT,pT⟩,hctx⟩:=X'
 unfold cameBackBy
 refine bg (wpAny_field ha hd q ?_)
 rw [if_neg (show ¬ ((Value.ref T==Value.none)=true) from by simp)]
 refine CJ C I R hs0 X _ λh' I' R' X'=>?_
 exact ⟨e,ps',α',er,I',g,R',X'.raised⟩
theorem GO {t:Expr}{b:List Stmt}{pos:Pos}{mt:M Bool}{mb:M PFlow}(ht:SimB W n fm t mt)(hb:SimS W n fm b mb)(K:Nat):SimT W n fm (.While t b [] pos) (aC mt mb K):=.mk λA V ps s C I ns=>by
 have hs0:=I.none
 refine wpAny_While (codeAny_mono (R:=IL W fm V s.heap (aC mt mb K ps)) ?_ λr s' q=>?_)
 ·refine codeAny_whileLoop (λk s'=>∃ ps' α',aC mt mb K ps=aC mt mb k ps'/\InvS W fm α' ps' s'/\Grow V α' s.heap/\Rel fm.stk fm.own V s.heap s'.heap) ?_ K ⟨ps,V,rfl,I,.refl ..,.refl ..⟩
  rintro k c0 ⟨o0,α₁,y0,w0,d0,u0⟩
  rw [y0] at ns ⊢
  cases k with
  | zero=>exact absurd rfl ns
  | succ k=>
   have ns':ac mt (λc=>if c then ac mb λf=>match f with
    | .next=>aC mt mb k
    | .cont=>aC mt mb k
    | .brk=>ae .next
    | .ret v=>ae (.ret v)
    else ae .next) o0≠.stuck:=ns
   have eq:aC mt mb (k+1) o0=ac mt (λc=>if c then ac mb λf=>match f with
    | .next=>aC mt mb k
    | .cont=>aC mt mb k
    | .brk=>ae .next
    | .ret v=>ae (.ret v)
    else ae .next) o0:=rfl
   refine aW (ht A α₁ o0 c0 C w0 (Ad ns')) (λc z0 z=>?_) λx z0 z=>EV C hs0 (by rw [eq];exact ExS.after z.toS.bind d0 u0)
   obtain ⟨Z1,X0,W1,Y1,Y0,Z0⟩:=z
   rw [Ac W1] at ns' eq
   have g12:=d0.trans Y0 u0
   have x12:=u0.trans Z0.up d0.new
   cases c with
   | false=>
    simp only [false_eq_true,if_false] at eq ⊢
    rw [eq]
    exact wpAny_execs_nil ⟨.next,Z1,X0,rfl,Y1,g12,x12,.next⟩
   | true=>
    simp only [if_true] at eq ns' ⊢
    refine aW (hb A X0 Z1 z0 C Y1 (Ad ns')) (λf u3 z=>?_) λx u3 z=>EV C hs0 (by rw [eq];exact ExS.after z.bind g12 x12)
    obtain ⟨f,y4,j5,Y3,Y2,W3,Z3,rf⟩:=z
    rw [Ac Y3] at ns' eq
    have g123:=g12.trans W3 x12
    have x123:=x12.trans Z3 g12.new
    cases rf with
    | next=>exact ⟨k,bo k,y4,j5,eq,Y2,g123,x123⟩
    | cont=>exact ⟨k,bo k,y4,j5,eq,Y2,g123,x123⟩
    | brk=>rw [eq];exact ⟨.next,y4,j5,rfl,Y2,g123,x123,.next⟩
    | ret r=>rw [eq];exact ⟨.ret _,y4,j5,rfl,Y2,g123,x123,.ret r⟩
 ·cases r with
  | ok f=>exact q
  | error x=>exact Gj C hs0 q
end
def Cl:List String:=["list_iterator", "str_ascii_iterator", "str_iterator", "range_iterator"]
structure ItOk (W:Wd)(fm:Fm)(w1:List Addr)(I:Addr)(get:Nat->M (Option PV))(St:Nat->Heap->Prop):Prop where
 self:∀ (A:Around) s k (Q:Value->Shared->Prop) (E:Value->Shared->Prop),St k s.heap->Q (.ref I) s->wpAny W.m A (pyIter (.ref I)) Q E s
 stay:∀ k h h',St k h->(∀ o,h.get? I=some o->h'.get? I=some o)->St k h'
 flds:∀ k h,St k h->∃ o vs,h.get? I=some o/\o.data = .fields vs/\∃ c,o.cls = .type c/\c∈Cl
 next:∀ (fm:Fm) (A:Around) V ps s k (Q:Option Value->Shared->Prop) (E:Value->Shared->Prop),A.handled=none->w1 <+: V->FmOk W.h₀ fm->InvS W fm V ps s->St k s.heap->get k ps≠.stuck ->
  (∀ o r h' tk,get k ps = .ok o ps->(∀ b ob,b≠I->s.heap.get? b=some ob->h'.get? b=some ob)->(match (generalizing:=false) o,r with
   | none,none=>True
   | some p,some v=>W.rep fm V h' p v/\St (k+1) h'
   | _,_=>False)->Q r { s with heap:=h',toks:=tk })->wpAny W.m A (pyNext (.ref I)) Q E s
theorem ItOk.to {W:Wd}{fm:Fm}{w1:List Addr}{I:Addr}{get:Nat->M (Option PV)}{St:Nat->Heap->Prop}(x:ItOk W fm w1 I get St)(fm':Fm):ItOk W fm' w1 I get St:=⟨x.self,x.stay,x.flds,x.next⟩
inductive ItRes (W:Wd)(fm:Fm)(V:List Addr)(h:Heap)(r:R (Nat->M (Option PV)))(it:Value)(z0:Shared):Prop
 | mk (get:Nat->M (Option PV)) (ps':PS) (α':List Addr) (I:Addr) (St:Nat->Heap->Prop) (k1:r = .ok get ps') (k2:it = .ref I) (k3:InvS W fm α' ps' z0) (k4:Grow V α' h) (k5:Rel fm.stk fm.tab V h z0.heap) (k6:h.get? I=none) (k7:I∉fm.av) (k8:ItOk W fm α' I get St) (k9:St 0 z0.heap):ItRes W fm V h r it z0
abbrev SimI.T (W:Wd)(n:Nat)(fm:Fm)(e:Expr)(mi:M (Nat->M (Option PV))):Prop:=∀ A V ps s,Ctx W fm n A->InvS W fm V ps s->mi ps≠.stuck->wpAny W.m A (eval e fm.env) (λx c0=>wpAny W.m A (pyIter x) (λit z0=>
  ItRes W fm V s.heap (mi ps) it z0) (ExE W fm V s.heap (mi ps)) c0) (ExE W fm V s.heap (mi ps)) s
structure SimI (W:Wd)(n:Nat)(fm:Fm)(e:Expr)(mi:M (Nat->M (Option PV))):Prop where
 go:SimI.T W n fm e mi
noncomputable instance {W:Wd} {n:Nat} {fm:Fm} {e:Expr} {mi:M (Nat->M (Option PV))}:CoeFun (SimI W n fm e mi) (λU=>SimI.T W n fm e mi):=⟨SimI.go⟩
section
variable {W:Wd}{fm:Fm}{V α' α₁ w1:List Addr}{h h' h₁ start:Heap}{n:Nat}{A:Around}{ps ps':PS}{s s':Shared}{H:Hd}{h₀:Heap}{own:List Addr}{e:PX}{x:Value}{I:Addr}
theorem Turn0.one (F:h.FunFrames ⟨#[],{}⟩ fm.stk)(hI:∃ o vs,h.get? I=some o/\o.data = .fields vs/\∃ c,o.cls = .type c/\c∈Cl)(k:∀ b o,b≠I->h.get? b=some o->h'.get? b=some o):Turn0 fm.stk [I] h h':=by
 obtain ⟨oI,vs,eI,dI,ci,hci,hw⟩:=hI
 have nf:∀ b o,h.get? b=some o->(∀ vs,o.data≠.fields vs)->h'.get? b=some o:=λb o e q=>k b o (λz=>by rw [z,eI] at e;cases e;exact q vs dI) e
 exact ⟨λb o e U m=>k b o (λz=>m (by rw [z];exact mem_singleton_self _)) e,λb o e U m=>⟨o.slots,k b o (λz=>m (by rw [z];exact mem_singleton_self _)) e⟩,
  F.of_keeps λb o e q=>⟨o,nf b o e q,rfl⟩,λb m=>by rw [mem_singleton.mp m];exact ⟨oI,vs,eI,dI,by unfold C3;rw [hci];exact ⟨(λq=>(by cases q)),λq=>absurd (Value.type.inj q▸hw) (by decide)⟩⟩⟩
theorem ItOk.list {i:Nat}{ax:Addr}(hi:V[i]? = some ax)(hne:ax≠I):ItOk W fm V I (B0 (.lst i)) (λk h=>h.IsListIter I ax k) where
 self:=λA s k Q E st h=>wpAny_pyIter_listiter st h
 stay:=λk h h' st q=>by obtain ⟨o,e,r⟩:=st;exact ⟨o,q o e,r⟩
 flds:=λk h st=>by obtain ⟨o,e,c,d⟩:=st;exact ⟨o,_,e,d,_,c,by simp [Cl]⟩
 next:=by
  intro fm A α' ps s k Q E hh hp F J st ns hQ
  have ns':ac (ar i) (λl=>ae l[k]?) ps≠.stuck:=ns
  obtain ⟨l,e1,e2⟩:=Bl (Ad ns')
  have e3:B0 (.lst i) k ps = .ok l[k]? ps:=Ac e2
  obtain ⟨a,vs,h1,h2',h3⟩:=J.inv.lists.at_ i l e1
  have h2:=h2'.isList
  have:a=ax:=by
   obtain ⟨t,rfl⟩:=hp
   rw [getElem?_append_left (List.getElem?_eq_some_iff.mp hi).1,hi] at h1
   exact (aT h1).symm
  subst this
  obtain ⟨oI,eI,cI,dI⟩:=id st
  cases q:l[k]? with
  | none=>
   refine wpAny_pyNext_list_end hh st h2 ?_ λh' S=>?_
   ·rw [List.getElem?_toArray,List.getElem?_eq_none_iff,<- h3.length];exact bp.mp q
   ·exact hQ none none h' _ (by rw [e3,q]) S trivial
  | some p=>
   obtain ⟨v,hv,r⟩:=h3.get k p q
   refine wpAny_pyNext_list_item st h2 (x:=v) (by simpa using hv) λh' st' S=>?_
   have kk:∀ b o,b≠I->s.heap.get? b=some o->h'.get? b=some o:=λb o z e=>(S.2 b z).trans e
   exact hQ (some p) (some v) h' _ (by rw [e3,q]) kk ⟨RepV.turn (Turn0.one J.inv.frames ⟨oI,_,eI,dI,_,cI,by simp [Cl]⟩ kk) F.frsAv r,st'⟩
theorem ItOk.ints {l:List Int}{a:Addr}{vs:Array Value}(hl:W.h₀.IsList a vs)(hv:IntsAre vs.toList l)(hne:a≠I):ItOk W fm V I (B0 (.ints l)) (λk h=>h.IsListIter I a k) where
 self:=λA s k Q E st h=>wpAny_pyIter_listiter st h
 stay:=λk h h' st q=>by obtain ⟨o,e,r⟩:=st;exact ⟨o,q o e,r⟩
 flds:=λk h st=>by obtain ⟨o,e,c,d⟩:=st;exact ⟨o,_,e,d,_,c,by simp [Cl]⟩
 next:=by
  intro fm A α' ps s k Q E hh hp F J st ns hQ
  have hl':s.heap.IsList a vs:=by obtain ⟨o,e,r⟩:=hl;exact ⟨o,J.inv.base _ _ e,r⟩
  have len:vs.size=l.length:=by rw [<- Array.length_toList];exact hv.length
  cases q:l[k]? with
  | none=>
   refine wpAny_pyNext_list_end hh st hl' ?_ λh' S=>?_
   ·rw [Array.getElem?_eq_none_iff,len];exact bp.mp q
   ·exact hQ none none h' _ (by show R.ok ((l[k]?).map PV.int) ps=_;rw [q];rfl) S trivial
  | some i=>
   obtain ⟨t,ht⟩:=hv.get k _ q
   refine wpAny_pyNext_list_item st hl' (x:=.int i t) (by rw [<- Array.getElem?_toList];exact ht) λh' st' S=>?_
   exact hQ (some (.int i)) (some (.int i t)) h' _ (by show R.ok ((l[k]?).map PV.int) ps=_;rw [q];rfl) (λb o z e=>(S.2 b z).trans e) ⟨.int i t,st'⟩
theorem ItOk.strA {x:Txt}{t:Tok}:ItOk W fm V I (B0 (.str x)) (λk h=>h.IsStrIter I "str_ascii_iterator" (txt x) t k) where
 self:=λA s k Q E st h=>wpAny_pyIter_striter_ascii st h
 stay:=λk h h' st q=>by obtain ⟨o,e,r⟩:=st;exact ⟨o,q o e,r⟩
 flds:=λk h st=>by obtain ⟨o,e,c,d⟩:=st;exact ⟨o,_,e,d,_,c,by simp [Cl]⟩
 next:=by
  intro fm A α' ps s k Q E hh hp F J st ns hQ
  cases q:x[k]? with
  | none=>
   refine wpAny_pyNext_ascii_end hh st (by simp [txt];exact bp.mp q) λh' S=>?_
   exact hQ none none h' _ (by show R.ok ((x[k]?).map _) ps=_;rw [q];rfl) S trivial
  | some c=>
   refine wpAny_pyNext_ascii_item st (c:=c) (by simp [txt,q]) λh' st' S=>?_
   exact hQ (some (.str [c])) (some _) h' _ (by show R.ok ((x[k]?).map _) ps=_;rw [q];rfl) (λb o z e=>(S.2 b z).trans e) ⟨.str [c] _,st'⟩
theorem ItOk.strW {x:Txt}{t:Tok}:ItOk W fm V I (B0 (.str x)) (λk h=>h.IsStrIter I "str_iterator" (txt x) t k) where
 self:=λA s k Q E st h=>wpAny_pyIter_striter_wide st h
 stay:=λk h h' st q=>by obtain ⟨o,e,r⟩:=st;exact ⟨o,q o e,r⟩
 flds:=λk h st=>by obtain ⟨o,e,c,d⟩:=st;exact ⟨o,_,e,d,_,c,by simp [Cl]⟩
 next:=by
  intro fm A α' ps s k Q E hh hp F J st ns hQ
  cases q:x[k]? with
  | none=>
   refine wpAny_pyNext_wide_end hh st (by simp [txt];exact bp.mp q) λh' S=>?_
   exact hQ none none h' _ (by show R.ok ((x[k]?).map _) ps=_;rw [q];rfl) S trivial
  | some c=>
   refine wpAny_pyNext_wide_item st (c:=c) (by simp [txt,q]) λh' st' S=>?_
   exact hQ (some (.str [c])) (some _) h' _ (by show R.ok ((x[k]?).map _) ps=_;rw [q];rfl) (λb o z e=>(S.2 b z).trans e) ⟨.str [c] _,st'⟩
theorem ItOk.rng {a b:Int}:ItOk W fm V I (BA a b) (λk h=>IsRangeIter h I (a+k) ((if a<b then b - a else 0) - k) 1) where
 self:=λA s k Q E st h=>wpAny_pyIter_rangeiter st h
 stay:=λk h h' e q=>q _ e
 flds:=λk h e=>⟨_,_,e,rfl,_,rfl,by simp [Cl]⟩
 next:=by
  intro fm A α' ps s k Q E hh hp F J st ns hQ
  by_cases q:(k:Int)<b - a
  ·have hab:a<b:=by lia
   rw [if_pos hab] at st
   refine wpAny_pyNext_range_item st (by lia) λh' st' S=>?_
   refine hQ (some (.int (a+k))) (some _) h' _ (by show R.ok (if _ then _ else _) ps=_;rw [if_pos q]) (λb o z e=>(S.2 b z).trans e) ⟨.int _ _,?_⟩
   show IsRangeIter h' I (a+((k+1:Nat):Int)) ((if a<b then b - a else 0) - ((k+1:Nat):Int)) 1
   rw [if_pos hab,show a+((k+1:Nat):Int)=a+k+1 by lia,show (b - a - ((k+1:Nat):Int))=b - a - k - 1 by lia]
   exact st'
  ·refine wpAny_pyNext_range_end hh st (by split <;> lia) λh' S=>?_
   exact hQ none none h' _ (by show R.ok (if _ then _ else _) ps=_;rw [if_neg q]) S trivial
theorem Bs (I:InvS W fm V ps s)(o:Obj):InvS W fm V ps { s with heap:=s.heap.push o }:=⟨I.inv.keeps λU U e=>get?_push_of_some o e,I.gens,I.os⟩
theorem BQ (r:Rel fm.stk own V start s.heap)(o:Obj):Rel fm.stk own V start (s.heap.push o):=r.trans (.of_keeps (V:=V) λU U e=>get?_push_of_some o e) λa m q=>absurd m q
set_option tactic.hygienic true in
theorem De {e:Expr}{m:M PV}(he:SimE W n fm e m):SimI W n fm e (ac m Dx):=.mk λA V ps s C I ns=>by
 refine Am.seq (he A V ps s C I (Ad ns)) (λp v α₁ o0 c0 w0 d0 u0 W0 y0=>?_) λx c0 q=>q.bind
 rw [Ac y0] at ns
 have fresh:s.heap.get? c0.heap.objs.size=none:=u0.live _ (AJ _)
 have nav:c0.heap.objs.size∉fm.av:=Bh w0 (AJ _)
 have ne:∀ a o,c0.heap.get? a=some o->a≠c0.heap.objs.size:=λa o q z=>by rw [z,AJ] at q;cases q
 cases p <;> (try exact absurd rfl ns)
 ·rename_i t
  obtain ⟨tk,rfl⟩:=W0.inv
  cases ha:(txt t).cps.all (· < 128)
  ·exact wpAny_pyIter_wide ha ⟨_,o0,α₁,c0.heap.objs.size,_,(Ac y0).trans rfl,rfl,Bs w0 _,d0,BQ u0 _,fresh,nav,ItOk.strW,⟨_,get?_push_size _ rfl,rfl,rfl⟩⟩
  ·exact wpAny_pyIter_ascii ha ⟨_,o0,α₁,c0.heap.objs.size,_,(Ac y0).trans rfl,rfl,Bs w0 _,d0,BQ u0 _,fresh,nav,ItOk.strA,⟨_,get?_push_size _ rfl,rfl,rfl⟩⟩
 ·rename_i i
  obtain ⟨a,rfl,hi⟩:=W0.inv
  ·have hl:∃ vs,c0.heap.IsList a vs:=w0.inv.lists.isList (mem_of_getElem? hi)
   obtain ⟨vs,hl⟩:=hl
   have nI:a≠c0.heap.objs.size:=by obtain ⟨o,q,_⟩:=hl;exact ne a o q
   exact wpAny_pyIter_list hl ⟨_,o0,α₁,c0.heap.objs.size,_,(Ac y0).trans rfl,rfl,Bs w0 _,d0,BQ u0 _,fresh,nav,ItOk.list hi nI,⟨_,get?_push_size _ rfl,rfl,rfl⟩⟩
 ·rename_i l
  obtain ⟨a,vs,rfl,hl,hv⟩:=W0.inv
  ·have hl':c0.heap.IsList a vs:=by obtain ⟨o,q,r⟩:=hl;exact ⟨o,w0.inv.base _ _ q,r⟩
   have nI:a≠c0.heap.objs.size:=by obtain ⟨o,q,_⟩:=hl';exact ne a o q
   exact wpAny_pyIter_list hl' ⟨_,o0,α₁,c0.heap.objs.size,_,(Ac y0).trans rfl,rfl,Bs w0 _,d0,BQ u0 _,fresh,nav,ItOk.ints hl hv nI,⟨_,get?_push_size _ rfl,rfl,rfl⟩⟩
theorem EW {i:Int}(h:Ag i=true):-(2 ^ 62:Int)<=i/\i<2 ^ 62:=by
 unfold Ag at h
 rw [decide_eq_true_eq] at h
 have:((2:Int) ^ 62)=4611686018427387904:=by decide
 omega
theorem NB {l:List PV}(ns:Cc l ps≠.stuck):(∃ b,l=[.int b])\/∃ a b,l=[.int a,.int b]:=by
 obtain ⟨x,e⟩:=A2 ns
 rcases MB e with ⟨e,_⟩ | ⟨a,e,_⟩
 ·exact .inl ⟨_,e⟩
 ·exact .inr ⟨_,_,e⟩
theorem Dp {x:Str}{i:Nat}{np pos:Pos}{es:List Expr}{ms:List (M PV)}(hm:(x,NameKind.globalImplicit,i)∈fm.sc)(hf:x∈Bk)(hn:x≠"__name__")(hd:(x==("__debug__":Str))=false)(hb:bootBuiltins x=some (.type "range"))
  (q:SimL W n fm es ms):SimI W n fm (.Call (.Name x np) es [] pos) (ac (ag ms) Cc):=.mk λA V ps s C I ns=>by
 show wpAny W.m A (do callWith pos (<- eval (.Name x np) fm.env) [] (backTo pos (starEach es fm.env)) (backToKw pos (keywordEach [] fm.env))) _ _ s
 refine bg (Bo C I hf hn hb hm hd ?_)
 refine PySem.callWith_type (q.plain _) (AT (q.plain _) (aW (CM q A V ps s C I (Ad ns)) (λvs c0 z=>?_) λx c0 z=>z.bind))
 obtain ⟨l,o0,α₁,y0,w0,d0,u0,W0⟩:=z
 rw [Ac y0] at ns
 have fin:∀ (o:Obj) (a b:Int) (t u v:Tok) tk,o = { cls:=.type "range",data:=.fields #[.int a t,.int b u,.int 1 v] }->Ag a=true->Ag b=true->Cc l o0 = .ok (BA a b) o0 ->
   wpAny W.m A (pyIter (.ref c0.heap.objs.size)) (λit z0=>ItRes W fm V s.heap (ac (ag ms) Cc ps) it z0)
    (ExE W fm V s.heap (ac (ag ms) Cc ps)) { c0 with heap:=c0.heap.push o,toks:=tk }:=by
  rintro o a b t u v tk rfl ha hb' er
  have a62:=EW ha
  have b62:=EW hb'
  have I2:=(Bs w0 { cls:=.type "range",data:=.fields #[.int a t,.int b u,.int 1 v] }).tok tk
  refine wpAny_pyIter_range (s:={ c0 with heap:=c0.heap.push { cls:=.type "range",data:=.fields #[.int a t,.int b u,.int 1 v] },toks:=tk }) (IsRange.new ..) (small_one a62.1 a62.2 b62.1 b62.2) ?_
  refine ⟨BA a b,o0,α₁,_,_,(Ac y0).trans er,rfl,Bs I2 _,d0,BQ (s:={ c0 with heap:=c0.heap.push _,toks:=tk }) (BQ u0 _) _,?_,Bh I2 (AJ _),ItOk.rng (a:=a) (b:=b),?_⟩
  ·exact (BQ u0 { cls:=.type "range",data:=.fields #[.int a t,.int b u,.int 1 v] }).live _ (AJ _)
  ·show IsRangeIter _ _ (a+((0:Nat):Int)) _ _
   rw [show a+((0:Nat):Int)=a by lia,show ((if a<b then b - a else 0) - ((0:Nat):Int))=Builtin.Range.rangeSize a b 1 by rw [rangeSize_one];lia]
   exact get?_push_size _ rfl
 have ns1:Cc l o0≠.stuck:=ns
 rcases NB ns1 with ⟨b,rfl⟩ | ⟨a,b,rfl⟩
 ·obtain ⟨_,_,rfl,r,rs⟩:=W0.inv
  obtain ⟨t,rfl⟩:=r.inv
  obtain rfl:=rs.inv
  have ns':am (Ag b) (ae (BA 0 b)) o0≠.stuck:=ns
  obtain ⟨c,e⟩:=Aj ns'
  exact call_range_1 (fin _ 0 b _ _ _ _ rfl (by decide) c e)
 ·obtain ⟨_,_,rfl,r,rs⟩:=W0.inv
  obtain ⟨_,_,rfl,r',rs2⟩:=rs.inv
  obtain rfl:=rs2.inv
  obtain ⟨t,rfl⟩:=r.inv
  obtain ⟨u,rfl⟩:=r'.inv
  have ns':am (Ag a&&Ag b) (ae (BA a b)) o0≠.stuck:=ns
  obtain ⟨c,e⟩:=Aj ns'
  rw [and_eq_true] at c
  exact call_range_2 (fin _ a b _ _ _ _ rfl c.1 c.2 e)
end
section
variable {prog:Program}{w:World}{A:Around}{E:Value->Shared->Prop}{s:Shared}
theorem NC {it t:Addr}{items:Array Value}(hne:t≠it):∀ (n i:Nat) (s:Shared) (Q:List Value->Shared->Prop),s.heap.IsListIter it t i->s.heap.IsList t items->i+n<=items.size ->
  (∀ h',h'.IsListIter it t (i+n)->Heap.SameBut it s.heap h'->Q ((items.toList.drop i).take n) { s with heap:=h' })->wpAny (model prog w) A (draw (.ref it) n) Q E s:=by
 intro n
 induction n with
 | zero=>
  intro i s Q hit _ _ hQ
  show wpAny _ _ (pure []) Q E s
  exact bh (by simpa using hQ s.heap hit (Heap.SameBut.refl ..))
 | succ n ih=>
  intro i s Q hit ht hle hQ
  have hlt:i<items.size:=by exact la [_,_,_] [([2,4,3,0,0],[6])] ([2,3,0],[6]) rfl hle
  show wpAny _ _ (pyNext (.ref it) >>= _) Q E s
  refine bg (wpAny_pyNext_list_item hit ht (x:=items[i]) (by simp [hlt]) λh₁ W6 j4=>?_)
  refine bg (bf (ih (i+1) _ _ W6 (ht.extBut j4.extBut hne) (by exact la [_,_,_] [([2,4,3,0,0],[6])] ([2,3,0,4,0],[6]) rfl hle) λw2 f8 X6=>bh ?_))
  have hd:items.toList.drop i=items[i]::items.toList.drop (i+1):=by simp [drop_eq_getElem_cons,hlt]
  have:=hQ w2 (by rw [show i+(n+1)=i+1+n by exact Nat.le_antisymm (la [_,_] [] ([2,4,3,0,0],[2,3,0,4,0]) rfl) (la [_,_] [] ([2,3,0,4,0],[2,4,3,0,0]) rfl)];exact f8) (j4.trans X6)
  rw [hd,List.take_succ_cons] at this
  exact this
theorem Fs {t:Addr}{items:Array Value}{Q:List Value->Shared->Prop}(hh:A.handled=none)(ht:s.heap.IsList t items)
  (hQ:∀ h',ExtBut s.heap.objs.size s.heap h'->Q items.toList { s with heap:=h' }):wpAny (model prog w) A (unpackItems (.ref t) items.size none) Q E s:=by
 have hlt:t≠s.heap.objs.size:=by obtain ⟨o,ho,_⟩:=ht;exact Nat.ne_of_lt (lt_size ho)
 unfold unpackItems
 refine bg ?_
 ·unfold notIterableAtAll
  refine bg (wpAny_specialOf ht.typeIs slot_list_iter.lookup ?_)
  refine bh ?_
  simp only [false_eq_true,if_false]
  refine bg (bf (wpAny_pyIter_list ht ?_))
  refine bg (bf (NC hlt items.size 0 _ _ ⟨_,get?_push_size _ rfl,rfl,rfl⟩ (ht.push _) (by exact la [_] [] ([1,2,0],[2]) rfl) λh₁ W6 j4=>?_))
  have hall:List.take items.size (List.drop 0 items.toList)=items.toList:=by
   rw [drop_zero];exact take_of_length_le (by simp)
  rw [hall]
  rw [if_neg (by simp)]
  have i8:h₁.IsList t items:=(ht.push _).extBut j4.extBut hlt
  refine bg (bf (wpAny_pyNext_list_end hh W6 i8 (by simp) λw2 j8=>?_))
  simp only [Option.isSome_none,false_eq_true,if_false]
  refine bh (hQ w2 λb o hb e=>j8 b o hb (j4.extBut b o hb (get?_push_of_some _ e)))
end
inductive OkG (W:Wd)(fm:Fm)(V:List Addr)(h:Heap)(r:R Unit)(s':Shared):Prop
 | mk (ps':PS) (k1:r = .ok () ps') (k2:InvS W fm V ps' s') (k3:Rel fm.stk fm.own V h s'.heap):OkG W fm V h r s'
abbrev SimG.T (W:Wd)(n:Nat)(fm:Fm)(t:Expr)(f:PV->M Unit):Prop:=∀ A V ps s p v,Ctx W fm n A->InvS W fm V ps s->W.rep fm V s.heap p v->f p ps≠.stuck->wpAny W.m A (assign t fm.env v) (λU s'=>OkG W fm V s.heap (f p ps) s') (λU U=>False) s
structure SimG (W:Wd)(n:Nat)(fm:Fm)(t:Expr)(f:PV->M Unit):Prop where
 go:SimG.T W n fm t f
noncomputable instance {W:Wd} {n:Nat} {fm:Fm} {t:Expr} {f:PV->M Unit}:CoeFun (SimG W n fm t f) (λU=>SimG.T W n fm t f):=⟨SimG.go⟩
inductive SimGs (W:Wd)(n:Nat)(fm:Fm):List Expr->List (PV->M Unit)->Prop
 | nil:SimGs W n fm [] []
 | cons {t:Expr} {f:PV->M Unit} {ts:List Expr} {fs:List (PV->M Unit)} (x:SimG W n fm t f) (hs:∀ rest env,assignEach (t::rest) env=(false,assign t env)::assignEach rest env) (r:SimGs W n fm ts fs):SimGs W n fm (t::ts) (f::fs)
section
variable {W:Wd}{fm:Fm}{V α' α₁ w1:List Addr}{h h' h₁ start:Heap}{n:Nat}{A:Around}{ps ps':PS}{s s':Shared}{H:Hd}{h₀:Heap}{own:List Addr}{e:PX}{x:Value}{I:Addr}
theorem ND {x:Str}{k:NameKind}{i:Nat}{p:Pos}(hm:(x,k,i)∈fm.sc)(hk:k = .local\/k = .cell):SimG W n fm (.Name x p) (ah i):=.mk λA V ps s q v C J r ns=>
 wpAny_assign_Name (DE C J hm hk r λs' J' R'=>⟨_,rfl,J',R'⟩)
theorem SimGs.plain:∀ {ts:List Expr} {fs:List (PV->M Unit)},SimGs W n fm ts fs->∀ env,(assignEach ts env).length=fs.length/\(assignEach ts env).findIdx? (·.1)=none:=by
 intro _ _ hS
 induction hS with
 | nil=>
  intro env
  exact ⟨rfl,rfl⟩
 | @cons t f ts fs x hs r ih=>
  intro env
  obtain ⟨h1,h2⟩:=ih env
  rw [hs]
  exact ⟨by simp [h1],by simp [List.findIdx?_cons,h2]⟩
set_option tactic.hygienic true in
theorem Ss (C:Ctx W fm n A):∀ {ts:List Expr} {fs:List (PV->M Unit)},SimGs W n fm ts fs->∀ (l:List PV) (vs:List Value) (ps:PS) (s:Shared),InvS W fm V ps s->RepL W.H W.h₀ fm.av V s.heap l vs->aF fs l ps≠.stuck ->
  wpAny W.m A (assignInOrder ((assignEach ts fm.env).map (·.2)) vs) (λU s'=>OkG W fm V s.heap (aF fs l ps) s') (λU U=>False) s:=by
 intro _ _ hS
 induction hS with
 | nil=>
  intro l vs ps s J r ns
  cases r with
  | nil=>exact assignInOrder_nil ⟨ps,rfl,J,.refl ..⟩
  | cons r rs=>exact absurd rfl ns
 | @cons t f ts fs x hs q ih=>
  intro l vs ps s J r ns
  cases r with
  | nil=>exact absurd rfl ns
  | cons r rs=>
   rename_i p v l vs
   have ns':ac (f p) (λU=>aF fs l) ps≠.stuck:=ns
   have eq:aF (f::fs) (p::l) ps=ac (f p) (λU=>aF fs l) ps:=rfl
   rw [hs,eq]
   refine assignInOrder_cons (aW (x A V ps s p v C J r (Ad ns')) (λU c0 z=>?_) λU U z=>z.elim)
   obtain ⟨o0,y0,w4,w3⟩:=z
   rw [Ac y0] at ns' ⊢
   refine aW (ih l vs o0 c0 w4 (RepL.stays J.inv.lists w3 (prefix_refl _) C.fm.frsAv C.fm.ownAv rs) ns') (λU z0 z=>?_) λU U z=>z
   obtain ⟨Z1,W1,W4,u4⟩:=z
   exact ⟨Z1,W1,W4,w3.trans u4 λa m q=>absurd m q⟩
theorem UF {l:List PV}{v:Value}(r:W.rep fm V h (.tup l) v):∃ a vs,v = .ref a/\IsTup h a vs.toArray/\RepL W.H W.h₀ fm.av V h l vs:=by
 obtain ⟨_,_,rfl,_,hi,rs⟩:=r.inv
 exact ⟨_,_,rfl,hi,rs⟩
theorem Inv.extBut (J:InvS W fm V ps s)(he:ExtBut s.heap.objs.size s.heap h'):InvS W fm V ps { s with heap:=h' }/\∀ b o,s.heap.get? b=some o->h'.get? b=some o:=by
 have k:∀ b o,s.heap.get? b=some o->h'.get? b=some o:=λb o e=>he b o (λq=>by rw [q,AJ] at e;cases e) e
 exact ⟨⟨J.inv.keeps k,J.gens,J.os⟩,k⟩
set_option tactic.hygienic true in
theorem GP {fs:List (PV->M Unit)}{p:PV}{v:Value}(C:Ctx W fm n A)(hh:fm.hdl=none)(J:InvS W fm V ps s)(r:W.rep fm V s.heap p v)(ns:aE fs p ps≠.stuck){Q:List Value->Shared->Prop}{E:Value->Shared->Prop}
  (hQ:∀ l vs h',aE fs p ps=aF fs l ps->l.length=fs.length->InvS W fm V ps { s with heap:=h' }->(∀ b o,s.heap.get? b=some o->h'.get? b=some o)->RepL W.H W.h₀ fm.av V h' l vs->Q vs { s with heap:=h' }):wpAny W.m A (unpackItems v fs.length none) Q E s:=by
 have hA:A.handled=none:=C.hdl.trans hh
 cases p <;> (try exact absurd rfl ns)
 ·rename_i l
  have ns':am (l.length==fs.length) (aF fs l) ps≠.stuck:=ns
  obtain ⟨c,e⟩:=Aj ns'
  have c':l.length=fs.length:=by simpa using c
  obtain ⟨a,vs,rfl,hi,rs⟩:=UF r
  have:fs.length=vs.toArray.size:=by rw [size_toArray,<- rs.length,c']
  rw [this]
  refine unpackItems_tuple hA hi λh' he=>?_
  obtain ⟨J',k⟩:=Inv.extBut J he
  exact hQ l vs h' e c' J' k (rs.keeps k (prefix_refl _))
 ·rename_i i
  have ns':ac (ar i) (λl=>am (l.length==fs.length) (aF fs l)) ps≠.stuck:=ns
  obtain ⟨l,e1,e2⟩:=Bl (Ad ns')
  have e3:aE fs (.lst i) ps=am (l.length==fs.length) (aF fs l) ps:=Ac e2
  rw [Ac e2] at ns'
  obtain ⟨c,e⟩:=Aj ns'
  have c':l.length=fs.length:=by simpa using c
  obtain ⟨a,vs,rfl,hl,rs⟩:=DB J r e1
  have:fs.length=vs.toArray.size:=by rw [size_toArray,<- rs.length,c']
  rw [this]
  refine Fs hA hl λh' he=>?_
  obtain ⟨J',k⟩:=Inv.extBut J he
  exact hQ l vs h' (e3.trans e) c' J' k (rs.keeps k (prefix_refl _))
theorem Eo {ts:List Expr}{fs:List (PV->M Unit)}{k:Nat}{pos:Pos}(hh:fm.hdl=none)(q:SimGs W n fm ts fs):SimG W n fm (.Tuple ts k pos) (aE fs):=.mk λA V ps s p v C J r ns=>by
 obtain ⟨p1,p2⟩:=q.plain fm.env
 rw [PyProof.Rows.assign_Tuple]
 refine bg (wpAny_standAt ?_)
 unfold unpack
 rw [p1,p2]
 refine bg (bf (GP C hh J r ns λl vs h' e c J' k rs=>?_))
 rw [e] at ns ⊢
 refine aW (Ss C q l vs ps _ J' rs ns) (λU c0 z=>?_) λU U z=>z
 obtain ⟨o0,y0,w4,w3⟩:=z
 exact ⟨o0,y0,w4,(Rel.of_keeps k).trans w3 λa m q=>absurd m q⟩
theorem CW {ts:List Expr}{fs:List (PV->M Unit)}{k:Nat}{tpos pos:Pos}{v:Expr}{m:M PV}(hh:fm.hdl=none)(q:SimGs W n fm ts fs)(hv:SimE W n fm v m)
  (hs:∀ env,swapsWithSole [.Tuple ts k tpos] v pos.line env=pure false) (hw:∀ env,swappedStores [.Tuple ts k tpos] v env=pure none) :
  SimT W n fm (.Assign [.Tuple ts k tpos] v pos) (ac m λa=>ac (aE fs a) λU=>ae .next):=.mk λA V ps s C J ns=>by
 refine Assign_Tuple (Am.seq (hv A V ps s C J (Ad ns)) (λa va α₁ o0 c0 w4 d0 u0 ra y0=>?_) λx c0 q=>q.toS.bind) (hs _) (hw _)
 rw [Ac y0] at ns ⊢
 refine aW (Eo hh q A α₁ o0 c0 a va C w4 ra (Ad ns)) (λU z0 z=>?_) λU U z=>z.elim
 obtain ⟨Z1,W1,W4,u4⟩:=z
 rw [Ac W1]
 exact OkS.after ⟨.next,Z1,α₁,rfl,W4,.refl ..,u4,.next⟩ d0 u0.up
set_option backward.match.sparseCases true in
theorem HY {t:Expr}{I:Addr}{v:Value}{o:Obj}{vs:Array Value}{c:String}(ho:s.heap.get? I=some o)(hd:o.data = .fields vs)(hc:o.cls = .type c)(hw:c∈Cl){Q:Unit->Shared->Prop}{E:Value->Shared->Prop}(h:Q () s):wpAny W.m A (letOwnedTupleGo t (.ref I) v) Q E s:=by
 have key:∀ a,(["enumerate", "zip", "dict_itemiterator", "dict_reverseitemiterator", "odict_iterator", "itertools.zip_longest", "itertools.pairwise"].contains c&&vs[0]?==some (rawInt a))=false:=λa=>by
  have:["enumerate", "zip", "dict_itemiterator", "dict_reverseitemiterator", "odict_iterator", "itertools.zip_longest", "itertools.pairwise"].contains c=false:=by
   simp only [Cl,mem_cons,not_mem_nil,or_false] at hw
   rcases hw with rfl | rfl | rfl | rfl <;> decide
  rw [this];rfl
 have go:∀ a,wpAny W.m A (do
   let o <- load I
   match o.cls,o.data with
   | .type n,.fields vs=>
    if ["enumerate", "zip", "dict_itemiterator", "dict_reverseitemiterator", "odict_iterator", "itertools.zip_longest", "itertools.pairwise"].contains n&&vs[0]?==some (rawInt a) then do
     rule "for.unpacks-the-owned-tuple"
     updateField I 0 .none
    else pure ()
   | _,_=>pure ():Sem Unit) Q E s:=λa=>by
  refine bg (wpAny_load ho ?_)
  rw [hc,hd]
  dsimp only
  rw [if_neg (by rw [key a];exact Bool.false_ne_true)]
  exact bh h
 have two:wpAny W.m A (letOwnedTupleGo (.Tuple [] default default) (.ref I) v) Q E s:=by cases v <;> first | exact bh h | exact go _
 cases t <;> first | exact bh h | exact two
theorem ItOk.notMem {get:Nat->M (Option PV)}{St:Nat->Heap->Prop}{k:Nat}(q:ItOk W fm V I get St)(F:FmOk W.h₀ fm)(J:InvS W fm α₁ ps s)(st:St k s.heap)(nav:I∉fm.av):I∉frs fm.stk/\I∉fm.own/\I∉α₁:=by
 refine ⟨λm=>nav (F.frsAv _ m),λm=>nav (F.ownAv _ m),λm=>?_⟩
 obtain ⟨o,vs,e,d,_⟩:=q.flds _ _ st
 obtain ⟨ws,o',e',_,k,d'⟩:=J.inv.lists.isList m
 rw [e] at e';cases e'
 rw [d] at d';cases d'
theorem ItOk.kept {get:Nat->M (Option PV)}{St:Nat->Heap->Prop}{k:Nat}(q:ItOk W fm w1 I get St)(F:FmOk W.h₀ fm)(J:InvS W fm α₁ ps s)(st:St k s.heap)(nav:I∉fm.av){own:List Addr}(ho:∀ b∈own,b∈fm.own)(R:Rel fm.stk own α₁ s.heap h'):St k h':=by
 obtain ⟨n1,n2,n3⟩:=q.notMem F J st nav
 exact q.stay k _ _ st λo e=>R.keep I o e n1 (λm=>n2 (ho _ m)) n3
theorem ItOk.turned {get:Nat->M (Option PV)}{St:Nat->Heap->Prop}{k:Nat}(q:ItOk W fm w1 I get St)(F:FmOk W.h₀ fm)(J:InvS W fm α₁ ps s)(st:St k s.heap)(nav:I∉fm.av)(nb:W.h₀.get? I=none)
  {tk:Nat} (kk:∀ b ob,b≠I->s.heap.get? b=some ob->h'.get? b=some ob):InvS W fm α₁ ps { s with heap:=h',toks:=tk }:=by
 obtain ⟨o,vs,e,d,hc⟩:=q.flds _ _ st
 refine ⟨J.inv.turn0 F (Turn0.one J.inv.frames ⟨o,vs,e,d,hc⟩ kk) (λb m mm=>?_) (λb m=>?_),J.gens,J.os⟩
 ·rw [mem_singleton.mp m] at mm;exact absurd mm nav
 ·rw [mem_singleton.mp m];exact nb
theorem EX {t it:Expr}{b:List Stmt}{pos:Pos}{mi:M (Nat->M (Option PV))}{mt:PV->M Unit}{mb:M PFlow}(hh:fm.hdl=none)(hi:SimI W n fm it mi)(hg:SimG W n fm t mt)(hb:SimS W n fm b mb)(hs:∀ env x,foldedSetIterable it env x=pure x)(K:Nat) :
  SimT W n fm (.For t it b [] pos) (ac mi λget=>aG get mt mb K 0):=.mk λA V ps s C J ns=>by
 have hs0:=J.none
 have hA:A.handled=none:=C.hdl.trans hh
 refine wpAny_For (aW (hi A V ps s C J (Ad ns)) (λx c0 z=>aW z (λiv z0 z=>?_) λx z0 z=>z.toS.bind) λx z0 z=>z.toS.bind) (hs _)
 obtain ⟨get,Z1,X0,I,St,W1,rfl,W4,Y0,Z0,fresh,nav,it,st⟩:=z
 have nb:W.h₀.get? I=none:=hs0 _ fresh
 rw [Ac W1] at ns ⊢
 generalize hR:aG get mt mb K 0 Z1=R0 at ns ⊢
 refine codeAny_mono (R:=IL W fm V s.heap R0) ?_ λr s' q=>?_
 ·refine codeAny_forLoop_any (λk s'=>∃ j ps' α',R0=aG get mt mb k j ps'/\InvS W fm α' ps' s'/\Grow V α' s.heap/\Rel fm.stk fm.own V s.heap s'.heap/\X0 <+: α'/\St j s'.heap) ?_ K ⟨0,Z1,X0,hR.symm,W4,Y0,Z0.up,prefix_refl _,st⟩
  rintro k c0 ⟨j,o0,α₁,y0,w4,d0,u0,Y6,Z6⟩
  cases k with
  | zero=>exact absurd y0 ns
  | succ k=>
   have eq:R0=ac (get j) (λo=>match o with
    | none=>ae .next
    | some p=>ac (mt p) λU=>ac mb λfl=>match fl with
     | .next=>aG get mt mb k (j+1)
     | .cont=>aG get mt mb k (j+1)
     | .brk=>ae .next
     | .ret v=>ae (.ret v)) o0:=y0
   refine it.next fm A α₁ o0 c0 j _ _ hA Y6 C.fm w4 Z6 (Ad (eq▸ns)) λo r h' tk eo kk rr=>?_
   rw [Ac eo] at eq
   have J1':InvS W fm α₁ o0 { c0 with heap:=h',toks:=tk }:=it.turned C.fm w4 Z6 nav nb kk
   have x1':Rel fm.stk fm.own V s.heap h':=by
    obtain ⟨ob,vs,eI,dI,hcl⟩:=it.flds _ _ Z6
    exact u0.turn0 (Turn0.one w4.inv.frames ⟨ob,vs,eI,dI,hcl⟩ kk) λb m=>by rw [mem_singleton.mp m];exact fresh
   cases o with
   | none=>
    cases r with
    | some _=>exact rr.elim
    | none=>exact wpAny_execs_nil ⟨.next,o0,α₁,eq,J1',d0,x1',.next⟩
   | some p=>
    cases r with
    | none=>exact rr.elim
    | some v=>
    obtain ⟨rp,st2⟩:=rr
    obtain ⟨ob,vs,eI,dI,c,hc,hw⟩:=it.flds _ _ st2
    refine HY (s:={ c0 with heap:=h',toks:=tk }) eI dI hc hw ?_
    have eq2:R0=ac (mt p) (λU=>ac mb λfl=>match fl with
     | .next=>aG get mt mb k (j+1)
     | .cont=>aG get mt mb k (j+1)
     | .brk=>ae .next
     | .ret v=>ae (.ret v)) o0:=eq
    refine aW (hg A α₁ o0 { c0 with heap:=h',toks:=tk } p v C J1' rp (Ad (eq2▸ns))) (λU u3 z=>?_) λU U z=>z.elim
    obtain ⟨y4,Y3,v7,v4⟩:=z
    rw [Ac Y3] at eq2
    have st3:St (j+1) u3.heap:=it.kept C.fm J1' st2 nav (λU q=>q) v4
    have x3:Rel fm.stk fm.own V s.heap u3.heap:=x1'.trans v4 d0.new
    refine aW (hb A α₁ y4 u3 C v7 (Ad (eq2▸ns))) (λf X4 z=>?_) λx X4 z=>EV C hs0 (ExS.after (eq2▸z.bind) d0 x3)
    obtain ⟨f,v5,w5,b7,u6,o5,y5,rf⟩:=z
    rw [Ac b7] at eq2
    have g4:=d0.trans o5 x3
    have x4:=x3.trans y5 d0.new
    have st4:St (j+1) X4.heap:=it.kept C.fm v7 st3 nav (λU q=>q) y5
    cases rf with
    | next=>exact ⟨k,bo k,j+1,v5,w5,eq2,u6,g4,x4,Y6.trans o5.pre,st4⟩
    | cont=>exact ⟨k,bo k,j+1,v5,w5,eq2,u6,g4,x4,Y6.trans o5.pre,st4⟩
    | brk=>exact ⟨.next,v5,w5,eq2,u6,g4,x4,.next⟩
    | ret r=>exact ⟨.ret _,v5,w5,eq2,u6,g4,x4,.ret r⟩
 ·cases r with
  | ok f=>exact q
  | error x=>exact Gj C hs0 q
end
structure Fi where
 scope:Scope
 body:List Stmt
 params:List Str
 sc:List (Str × NameKind × Nat)
structure Fi.Ok (fi:Fi):Prop where
 kind:fi.scope.kind = .function
 co:fi.scope.isCoroutine=false
 gen:fi.scope.isGenerator=false
 kinds:∀ x k i,(x,k,i)∈fi.sc->fi.scope.names.lookup x=some k
 once:∀ x k i y k' j,(x,k,i)∈fi.sc->(y,k',j)∈fi.sc->(i=j↔x=y)
 nodup:fi.params.Nodup
 parK:∀ p∈fi.params,fi.scope.names.lookup p=some .local\/fi.scope.names.lookup p=some .cell
 parI:∀ x k i,(x,k,i)∈fi.sc->k = .local\/k = .cell->∀ j,fi.params[j]? = some x↔(i=j/\j<fi.params.length)
 noFree:∀ x k i,(x,k,i)∈fi.sc->k≠.free
structure FnAt (h:Heap)(a:Addr)(fd:FuncData)(fi:Fi):Prop where
 obj:∃ o,h.get? a=some o/\o.data = .func fd
 scope:fd.scope=fi.scope
 body:fd.body = .stmts fi.body
 clo:fd.closure=[]
 glob:fd.globals=mainGlobals
 bi:fd.builtins=builtinsNs
 code:h.CodeRec fd.code fd.qualname
section
variable {W:Wd}{fm:Fm}{V α' α₁ w1:List Addr}{h h' h₁ start:Heap}{n:Nat}{A:Around}{ps ps':PS}{s s':Shared}{H:Hd}{h₀:Heap}{own av av':List Addr}{e:PX}{x:Value}{I:Addr}
theorem JN (k:∀ a∈av,a∈av'):(∀ {p:PV} {v:Value},RepV H h₀ av' V h p v->RepV H h₀ av V h p v)/\∀ {l:List PV} {vs:List Value},RepL H h₀ av' V h l vs->RepL H h₀ av V h l vs:=
 DW (λa vs ha hi=>⟨λq=>ha (k _ q),hi⟩) (λi a hi=>hi) λa o es ep ha ho hx hd=>⟨λq=>ha (k _ q),ho⟩
theorem RepV.weak (k:∀ a∈av,a∈av'){p:PV}{v:Value}(x:RepV H h₀ av' V h p v):RepV H h₀ av V h p v:=(JN k).1 x
theorem RepL.weak (k:∀ a∈av,a∈av'){l:List PV}{vs:List Value}(x:RepL H h₀ av' V h l vs):RepL H h₀ av V h l vs:=(JN k).2 x
theorem GQ (k:∀ a∈av',a∈av\/h.get? a=Option.none):(∀ {p:PV} {v:Value},RepV H h₀ av V h p v->RepV H h₀ av' V h p v)/\∀ {l:List PV} {vs:List Value},RepL H h₀ av V h l vs->RepL H h₀ av' V h l vs:=by
 have k':∀ a o,a∉av->h.get? a=some o->a∉av':=λa o ha e q=>(k a q).elim ha λz=>nomatch z.symm.trans e
 exact DW (λa vs ha hi=>⟨k' a _ ha hi.choose_spec.1,hi⟩) (λi a hi=>hi) λa o es ep ha ho hx hd=>⟨k' a o ha ho,ho⟩
theorem RepV.strong (k:∀ a∈av',a∈av\/h.get? a=Option.none){p:PV}{v:Value}(x:RepV H h₀ av V h p v):RepV H h₀ av' V h p v:=(GQ k).1 x
theorem RepL.strong (k:∀ a∈av',a∈av\/h.get? a=none){l:List PV}{vs:List Value}(x:RepL H h₀ av V h l vs):RepL H h₀ av' V h l vs:=(GQ k).2 x
theorem Inv.carry (F:FmOk h₀ fm)(I:Inv H h₀ fm V ps h)(R:Rel fm.stk fm.tab V h h'){st':List (List PV)}(L':ListsAt H h₀ fm.av α' st' h')(g:Grow V α' h)(fr:h'.FunFrames ⟨#[],{}⟩ fm.stk)(tb:∀ P∈fm.tab,Cr H h' P):Inv H h₀ fm α' ⟨ps.loc,st'⟩ h':=by
 have rep:=λ{p v}=>OptRep.stays (H:=H) (h₀:=h₀) (p:=p) (v:=v) I.lists R g.pre F.frsAv F.tabAv
 have at_:∀ b o,b∈fm.av->b∉fm.tab->h.get? b=some o->∃ sl,h'.get? b=some { o with slots:=sl }:=λb o m nt e=>by
  by_cases q:b∈frs fm.stk
  ·exact R.slot b o e q nt λz=>I.lists.apart b z m
  ·exact ⟨o.slots,R.keep b o e q nt λz=>I.lists.apart b z m⟩
 have nt:∀ b o,h.get? b=some o->(∀ vs,o.data≠.fields vs)->b∉fm.tab:=λb o e n m=>by
  obtain ⟨ps,e',_⟩:=I.tabs b m
  rw [e] at e';cases e';exact n ps rfl
 refine ⟨λb o e=>R.keep b o (I.base b o e) (λm=>?_) (λm=>?_) (λm=>?_),?_,?_,L',?_,fr,tb⟩
 ·rw [F.fresh b (F.frsAv b m)] at e;cases e
 ·rw [F.fresh b (F.tabAv b m)] at e;cases e
 ·rw [I.lists.fresh b m] at e;cases e
 ·obtain ⟨m,⟨o,es,ep,h1,h2,h3⟩,k⟩:=I.loc
  obtain ⟨sl,e⟩:=at_ _ _ F.locAv (nt _ _ h1 λvs q=>by rw [h2] at q;cases q) h1
  exact ⟨m,⟨_,es,ep,e,h2,h3⟩,λx i hm=>rep (k x i hm)⟩
 ·intro x k i hm hk
  obtain ⟨cc,v,h1,h2,h3,⟨o,e1,e2⟩,h5⟩:=I.cel x k i hm hk
  obtain ⟨sl,e⟩:=at_ _ _ h2 (nt _ _ e1 λvs q=>by rw [e2] at q;cases q) e1
  exact ⟨cc,v,h1,h2,h3,⟨_,e,e2⟩,rep h5⟩
 ·intro a ha
  have:=I.live a ha
  cases q:h.get? a with
  | none=>rw [q] at this;cases this
  | some o=>
   by_cases z:a∈fm.tab
   ·obtain ⟨ps,e,_⟩:=tb a z
    rw [e];rfl
   ·obtain ⟨sl,e⟩:=at_ a o ha z q;rw [e];rfl
theorem JO {B:List (Str × Value)->(Str->Option Value)->Str->Option Value}{x:Str}(h0:∀ m,B [] m x=m x)(h1:∀ p v r m,∃ m',B ((p,v)::r) m x=B r m' x/\m' x=if p=x then some v else m x):∀ (ps:List Str) (vs:List Value) (m:Str->Option Value),ps.Nodup->ps.length=vs.length->∀ (i:Nat) (b:Bool),(∀ j,ps[j]? = some x↔(i=j/\b=true)) ->
  B (ps.zip vs) m x=if b then vs[i]? else m x:=by
 intro ps
 induction ps with
 | nil=>
  intro vs m _ _ i b hi
  cases b with
  | false=>exact h0 m
  | true=>have:=(hi i).mpr ⟨rfl,rfl⟩;injection this
 | cons p ps ih=>
  intro vs m nd hl i b hi
  cases vs with
  | nil=>injection hl
  | cons v vs=>
   have nd':=nodup_cons.mp nd
   have hl:=Nat.succ.inj hl
   obtain ⟨m',e,em⟩:=h1 p v (ps.zip vs) m
   refine Eq.trans e ?_
   by_cases q:p=x
   ·subst q
    obtain ⟨rfl,rfl⟩:=(hi 0).mp rfl
    rw [ih vs m' nd'.2 hl 0 false λj=>⟨λe=>absurd (mem_of_getElem? e) nd'.1,λe=>(by have:=e.2;cases this)⟩]
    exact em.trans (if_pos rfl)
   ·rw [if_neg q] at em
    cases b with
    | false=>
     rw [ih vs m' nd'.2 hl i false λj=>⟨λe=>(by have:=((hi (j+1)).mp e).2;cases this),λe=>(by have:=e.2;cases this)⟩]
     exact em
    | true=>
     cases i with
     | zero=>exact absurd (aT ((hi 0).mpr ⟨rfl,rfl⟩)) q
     | succ i=>exact ih vs m' nd'.2 hl i true λj=>⟨λe=>⟨Nat.succ.inj ((hi (j+1)).mp e).1,rfl⟩,λe=>(hi (j+1)).mpr ⟨congrArg Nat.succ e.1,rfl⟩⟩
theorem NE (kindOf:Str->Option NameKind){x:Str}(hx:kindOf x=some .local):∀ (ps:List Str) (vs:List Value) (m:Str->Option Value),ps.Nodup->ps.length=vs.length->∀ (i:Nat) (b:Bool),(∀ j,ps[j]? = some x↔(i=j/\b=true)) ->
  bindL kindOf (ps.zip vs) m x=if b then vs[i]? else m x:=
 JO (B:=bindL kindOf) (λU=>rfl) λp v r m=>⟨_,rfl,by
  by_cases q:p=x
  ·subst q;rw [if_pos hx,if_pos rfl]
  ·rw [if_neg q];split
   ·exact if_neg (Ne.symm q)
   ·rfl⟩
theorem NF (kindOf:Str->Option NameKind){x:Str}(hx:kindOf x≠some .local):∀ (ps:List Str) (vs:List Value) (m:Str->Option Value),ps.Nodup->ps.length=vs.length->∀ (i:Nat) (b:Bool),(∀ j,ps[j]? = some x↔(i=j/\b=true)) ->
  bindC kindOf (ps.zip vs) m x=if b then vs[i]? else m x:=
 JO (B:=bindC kindOf) (λU=>rfl) λp v r m=>⟨_,rfl,by
  by_cases q:p=x
  ·subst q;rw [if_neg hx,if_pos rfl]
  ·rw [if_neg q];split
   ·rfl
   ·exact if_neg (Ne.symm q)⟩
set_option tactic.hygienic true in
theorem Cm {x:Str}(names:List (Str × NameKind)):∀ (k:Nat) (acc:List (Str × Addr)),names.lookup x=some .cell\/(acc.lookup x).isSome=true->((cellsFrom k names acc).lookup x).isSome=true:=by
 induction names with
 | nil=>
  intro k acc h
  rcases h with h | h
  ·cases h
  ·exact h
 | cons p r ih=>
  obtain ⟨y,kd⟩:=p
  intro k acc h
  unfold cellsFrom
  split
  ·refine ih _ _ ?_
   by_cases q:x=y
   ·subst q;right;simp
   ·rcases h with h | h
    ·left;rw [lookup_cons,show (x==y)=false from by simpa using q] at h;exact h
    ·right;rw [lookup_cons,show (x==y)=false from by simpa using q];exact h
  ·rename_i nk
   refine ih _ _ ?_
   by_cases q:x=y
   ·subst q
    rcases h with h | h
    ·simp at h;exact absurd (by rw [h];rfl) nk
    ·exact .inr h
   ·rcases h with h | h
    ·left;rw [lookup_cons,show (x==y)=false from by simpa using q] at h;exact h
    ·exact .inr h
end
def Bm (fd:FuncData)(fi:Fi)(L a:Addr):Env:=newEnv fi.scope L mainGlobals (cellsFrom (L+1) fi.scope.names []) (fd.qualname++".<locals>.") (some a) fd.code none builtinsNs
def DY (cs:List (Str × Addr)):List Addr:=cs.filterMap λp=>cs.lookup p.1
theorem Cn {cs:List (Str × Addr)}{c:Addr}:c∈DY cs↔∃ y,cs.lookup y=some c:=by
 unfold DY
 rw [List.mem_filterMap]
 constructor
 ·rintro ⟨p,_,e⟩;exact ⟨p.1,e⟩
 ·rintro ⟨y,e⟩;exact ⟨(y,c),mem_of_lookup e,e⟩
def AU (fm:Fm)(fd:FuncData)(fi:Fi)(L a:Addr):Fm:=
 { env:=Bm fd fi L a,stk:=Bm fd fi L a::fm.stk,av:=L::DY (cellsFrom (L+1) fi.scope.names [])++fm.av,own0:=L::DY (cellsFrom (L+1) fi.scope.names []),tab:=fm.tab,sc:=fi.sc,hdl:=fm.hdl }
section
variable {W:Wd}{fm:Fm}{V α' α₁ w1:List Addr}{h h' h₁ start:Heap}{n:Nat}{A:Around}{ps ps':PS}{s s' c0:Shared}{H:Hd}{h₀:Heap}{own av av':List Addr}{e:PX}{x:Value}{fd:FuncData}{fi:Fi}{a:Addr}{vs:List Value}{l:List PV}
theorem InvS.free (I:InvS W fm V ps s){c:Addr}(hc:s.heap.objs.size<=c):s.heap.get? c=Option.none/\W.h₀.get? c=Option.none/\c∉fm.av:=by
 have h1:s.heap.get? c=Option.none:=Heap.get?_none_of_le hc
 refine ⟨h1,I.none c h1,λm=>?_⟩
 have:=I.inv.live c m
 rw [h1] at this;cases this
theorem Ft (X:InCallC s s.heap.objs.size m (cellsFrom (s.heap.objs.size+1) fi.scope.names []) cm c0):∀ b∈(AU fm fd fi s.heap.objs.size a).own0,s.heap.objs.size<=b:=by
 intro b hb
 rcases mem_cons.mp hb with q | q
 ·rw [q];exact aR _
 ·obtain ⟨y,hy⟩:=Cn.mp q
  exact bq (X.above y b (mem_of_lookup hy))
theorem GR (t1:∀ b∈fm.tab,b∈fm.av)(t2:∀ b∈frs fm.stk,b∈fm.av)(t3:∀ b∈fm.av,W.h₀.get? b=none)(I:InvS W fm V ps s)(ok:fi.Ok)
  (X:InCallC s s.heap.objs.size m (cellsFrom (s.heap.objs.size+1) fi.scope.names []) cm c0):FmOk W.h₀ (AU fm fd fi s.heap.objs.size a) where
 kind:=ok.kind
 glob:=rfl
 bi:=rfl
 locAv:=mem_cons_self ..
 locOwn:=mem_append_right _ (mem_cons_self ..)
 ownAv:=λb m=>by
  rcases mem_append.mp m with m | m
  ·exact mem_append_right _ (t1 b m)
  ·exact mem_append_left _ m
 frsAv:=λb m=>by
  rcases mem_cons.mp (show b∈s.heap.objs.size::frs fm.stk from m) with q | q
  ·rw [q];exact mem_append_left _ (mem_cons_self ..)
  ·exact mem_append_right _ (t2 b q)
 fresh:=λb m=>by
  rcases mem_append.mp m with q | q
  ·exact (I.free (Ft (fm:=fm) (fd:=fd) (a:=a) X b q)).2.1
  ·exact t3 b q
 kinds:=λx k i h=>.inl (ok.kinds x k i h)
 once:=ok.once
 cellOwn:=λx i c hm hc=>mem_append_right _ (mem_cons_of_mem _ (Cn.mpr ⟨x,hc⟩))
 cellApart:=λx k i y k' j c h1 h2 h3 h4=>name_of_addr X.apart (mem_of_lookup h3) (mem_of_lookup h4)
 frame:=⟨_,_,rfl,rfl,rfl⟩
theorem HZ (F:FmOk W.h₀ fm)(I:InvS W fm V ps s)(ok:fi.Ok)
  (X:InCallC s s.heap.objs.size m (cellsFrom (s.heap.objs.size+1) fi.scope.names []) cm c0):FmOk W.h₀ (AU fm fd fi s.heap.objs.size a):=GR F.tabAv F.frsAv F.fresh I ok X
theorem Ep (I:InvS W fm V ps s)(ok:fi.Ok)(hl:fi.params.length=vs.length)(rl:RepL W.H W.h₀ fm.av V s.heap l vs)
  (X:InCallC s s.heap.objs.size (bindL (Bm fd fi s.heap.objs.size a).kindOf (fi.params.zip vs) λU=>none) (cellsFrom (s.heap.objs.size+1) fi.scope.names []) (bindC (Bm fd fi s.heap.objs.size a).kindOf (fi.params.zip vs) λU=>none) c0) :
  InvS W (AU fm fd fi s.heap.objs.size a) V ⟨λi=>l[i]?,ps.st⟩ c0:=by
 have kp:=X.toInCall.keep
 obtain ⟨w2,tk,rfl⟩:=X.toInCall.same
 have fr:∀ b∈(AU fm fd fi s.heap.objs.size a).av,b∈fm.av\/s.heap.get? b=none:=λb m=>by
  rcases mem_append.mp m with q | q
  ·exact .inr (I.free (Ft (fm:=fm) (fd:=fd) (a:=a) X b q)).1
  ·exact .inl q
 have rl':RepL W.H W.h₀ (AU fm fd fi s.heap.objs.size a).av V w2 l vs:=(rl.strong fr).keeps kp (prefix_refl _)
 have arg:∀ i:Nat,OptRep W.H W.h₀ (AU fm fd fi s.heap.objs.size a).av V w2 (l[i]?) (vs[i]?):=λ(i:Nat)=>by
  cases q:(l[i]?) with
  | none=>
   rw [List.getElem?_eq_none_iff] at q
   rw [List.getElem?_eq_none_iff.mpr (by rw [<- rl.length];exact q)];exact .none
  | some p=>obtain ⟨v,hv,r⟩:=rl'.get i p q;rw [hv];exact .some r
 have argN:∀ i:Nat,¬ i<fi.params.length->l[i]? = none:=λ(i:Nat) q=>bp.mpr (by rw [rl.length,<- hl];exact la [_,_] [([2],[4])] ([2],[4]) rfl (Nat.not_lt.mp q))
 have par:∀ x k i,(x,k,i)∈fi.sc->k = .local\/k = .cell->∀ j,fi.params[j]? = some x↔(i=j/\decide (i<fi.params.length)=true):=λx k i hm hk j=>by
  rw [ok.parI x k i hm hk j]
  constructor
  ·rintro ⟨rfl,q⟩;exact ⟨rfl,by simpa using q⟩
  ·rintro ⟨rfl,q⟩;exact ⟨rfl,by simpa using q⟩
 refine ⟨⟨λb o e=>kp b o (I.inv.base b o e),⟨_,X.toInCall.ns,λx i hm=>?_⟩,λx k i hm hk=>?_,⟨I.inv.lists.len,λi li e=>?_,I.inv.lists.nodup,I.inv.lists.fresh,λb m q=>?_⟩,λb m=>?_,?_,λP hP=>(I.inv.tabs P hP).keeps kp⟩,I.gens,I.os⟩
 ·rw [NE _ (ok.kinds x _ i hm) _ _ _ ok.nodup hl i (decide (i<fi.params.length)) (par x _ i hm (.inl rfl))]
  show OptRep _ _ _ _ _ l[i]? _
  by_cases q:i<fi.params.length
  ·simp only [q,decide_true,if_true];exact arg i
  ·simp only [q,decide_false,false_eq_true,if_false];rw [argN i q];exact .none
 ·have hk:k = .cell:=hk.resolve_right (ok.noFree x k i hm)
  subst hk
  obtain ⟨c,hc⟩:=ba.mp (Cm (x:=x) fi.scope.names (s.heap.objs.size+1) [] (.inl (ok.kinds x _ i hm)))
  have kd:(Bm fd fi s.heap.objs.size a).kindOf x≠some .local:=by
   show fi.scope.names.lookup x≠_
   rw [ok.kinds x _ i hm];decide
  refine ⟨c,_,hc,mem_append_left _ (mem_cons_of_mem _ (Cn.mpr ⟨x,hc⟩)),Nat.ne_of_gt (X.above x c (mem_of_lookup hc)),X.cell x c hc,?_⟩
  rw [NF _ kd _ _ _ ok.nodup hl i (decide (i<fi.params.length)) (par x _ i hm (.inr rfl))]
  show OptRep _ _ _ _ _ l[i]? _
  by_cases q:i<fi.params.length
  ·simp only [q,decide_true,if_true];exact arg i
  ·simp only [q,decide_false,false_eq_true,if_false];rw [argN i q];exact .none
 ·obtain ⟨b,ws,h1,⟨k,e1⟩,h3⟩:=I.inv.lists.at_ i li e
  exact ⟨b,ws,h1,⟨k,kp _ _ e1⟩,(h3.strong fr).keeps kp (prefix_refl _)⟩
 ·obtain ⟨ws,o,e1,_⟩:=I.inv.lists.isList m
  rcases fr b q with z | z
  ·exact I.inv.lists.apart b m z
  ·rw [z] at e1;cases e1
 ·rcases mem_append.mp m with q | q
  ·rcases mem_cons.mp q with q | q
   ·obtain ⟨o,es,ep,e1,_⟩:=X.toInCall.ns
    rw [q,e1];rfl
   ·obtain ⟨y,hy⟩:=Cn.mp q
    obtain ⟨o,e1,_⟩:=X.cell y b hy
    rw [e1];rfl
  ·have:=I.inv.live b q
   cases z:s.heap.get? b with
   | none=>rw [z] at this;cases this
   | some o=>rw [kp b o z];rfl
 ·obtain ⟨o,es,ep,e1,e2,_⟩:=X.toInCall.ns
  refine ⟨by show fi.scope.kind≠_;rw [ok.kind];decide,⟨_,o,rfl,rfl,e1,λvs q=>by rw [e2] at q;cases q⟩,?_⟩
  exact I.inv.frames.of_keeps λb o e U=>⟨o,kp b o e,rfl⟩
theorem CX (F:FmOk W.h₀ fm)(I:InvS W fm V ps s)(X:InCallC s s.heap.objs.size m (cellsFrom (s.heap.objs.size+1) fi.scope.names []) cm c0)
  (I1:InvS W (AU fm fd fi s.heap.objs.size a) α' ps' s') (g:Grow V α' c0.heap) (R:Rel (AU fm fd fi s.heap.objs.size a).stk (AU fm fd fi s.heap.objs.size a).own V c0.heap s'.heap) :
  InvS W fm α' ⟨ps.loc,ps'.st⟩ s'/\Grow V α' s.heap/\Rel fm.stk fm.tab V s.heap s'.heap:=by
 have kp:=X.toInCall.keep
 have av:∀ b,b∈fm.av->b∈(AU fm fd fi s.heap.objs.size a).av:=λb m=>mem_append_right _ m
 have nown:∀ b o,s.heap.get? b=some o->b∉fm.tab->b∉(AU fm fd fi s.heap.objs.size a).own:=λb o e nt m=>by
  have m:=(mem_append.mp m).resolve_left nt
  have:=(I.free (Ft (fm:=fm) (fd:=fd) (a:=a) X b m)).1
  rw [this] at e;cases e
 have none':∀ b,c0.heap.get? b=none->s.heap.get? b=none:=λb e=>by
  cases q:s.heap.get? b with
  | none=>rfl
  | some o=>rw [kp b o q] at e;cases e
 have nL:∀ b o,s.heap.get? b=some o->b≠s.heap.objs.size:=λb o e q=>by rw [q,AJ] at e;cases e
 have Rr:Rel fm.stk fm.tab V s.heap s'.heap:=by
  refine ⟨λb o e h1 h2 h3=>R.keep b o (kp b o e) (λm=>?_) (nown b o e h2) h3,λb o e h1 h2 h3=>R.slot b o (kp b o e) (mem_cons_of_mem _ h1) (nown b o e h2) h3,λb e=>none' b (R.live b e)⟩
  rcases mem_cons.mp (show b∈s.heap.objs.size::frs fm.stk from m) with q | q
  ·exact nL b o e q
  ·exact h1 q
 have g':Grow V α' s.heap:=⟨g.pre,λb m q=>none' b (g.new b m q)⟩
 refine ⟨⟨I.inv.carry F Rr ⟨I1.inv.lists.len,λi li e=>?_,I1.inv.lists.nodup,I1.inv.lists.fresh,λb m q=>I1.inv.lists.apart b m (av b q)⟩ g' I1.inv.frames.2.2 I1.inv.tabs,I1.gens,I1.os⟩,g',Rr⟩
 obtain ⟨b,ws,h1,h2,h3⟩:=I1.inv.lists.at_ i li e
 exact ⟨b,ws,h1,h2,h3.weak av⟩
theorem Su {m:M PFlow}(h:m ⟨λi=>l[i]?,ps.st⟩ = .ok f ps'):ak m l ps = .ok (Pp f) ⟨ps.loc,ps'.st⟩:=by
 unfold ak;rw [h]
theorem Sv {m:M PFlow}(h:m ⟨λi=>l[i]?,ps.st⟩ = .ex e ps'):ak m l ps = .ex e ⟨ps.loc,ps'.st⟩:=by
 unfold ak;rw [h]
theorem Sw {m:M PFlow}(h:ak m l ps≠.stuck):m ⟨λi=>l[i]?,ps.st⟩≠.stuck:=by
 intro e;unfold ak at h;rw [e] at h;exact h rfl
theorem IM {m:M PFlow}{pos:List Value}{kw:List (Str × Value)}(C:Ctx W fm (n+1) A)(I:InvS W fm V ps s)(Fa:FnAt s.heap a fd fi)(ok:fi.Ok)(hb:BindsTo s fd ⟨pos,kw⟩ (fi.params.zip vs))(hl:fi.params.length=vs.length)
  (rl:RepL W.H W.h₀ fm.av V s.heap l vs) (body:∀ fm':Fm,fm'.sc=fi.sc->fm'.env.scope=fi.scope->fm'.hdl=fm.hdl->SimS W n fm' fi.body m) (ns:ak m l ps≠.stuck) :
  Am W fm A V ps s (call (.ref a) pos kw) (ak m l):=by
 obtain ⟨⟨o,ho,hd⟩,hscope,hbody,hclo,hglob,hbi,hcode⟩:=Fa
 have lim:s.heap.NoLimit:=C.hd.lim.keeps I.inv.base
 have hdep:=C.depth
 refine wpAny_call (codeAny_call_function (by show A.depth<1000;exact la [_,_] [([2,4,3,0,0,3,0],[1981])] ([2,3,0],[2001]) rfl hdep) ho hd (by rw [hscope];exact ok.co) (by rw [hscope];exact ok.gen) hbody hcode (hb _ _ _ _ ?_))
 rw [hscope,hglob,hclo,hbi]
 refine wpAny_newFunctionEnv_cells ok.kind (λp hp=>?_) λenv he c0 X=>?_
 ·have hm:p.1∈fi.params:=(of_mem_zip (show (p.1,p.2)∈fi.params.zip vs from hp)).1
  rcases ok.parK p.1 hm with q | q
  ·exact .inl q
  ·exact .inr ⟨q,Cm _ _ _ (.inl q)⟩
 ·have he':env=Bm fd fi s.heap.objs.size a:=he
  subst he'
  refine ⟨lim.keeps X.toInCall.keep,codeAny_func ?_⟩
  have F':=HZ (fd:=fd) (a:=a) C.fm I ok X
  have I':=Ep (fd:=fd) (a:=a) (ps:=ps) I ok hl rl X
  have C':Ctx W (AU fm fd fi s.heap.objs.size a) n (A.deeper (Bm fd fi s.heap.objs.size a)):=by
   refine ⟨Around.frames_deeper C.frames,?_,?_,C.hdl,C.tab,F',C.hd⟩
   ·show A.depth+1+n<990;exact la [_,_] [([2,4,3,0,0,3,0],[1981])] ([2,3,0,4,0,3,0],[1981]) rfl hdep
   ·have:=C.units
    show A.units+3+20*n+1000<cLine;lia
  have ns':=Sw ns
  refine aW (body (AU fm fd fi s.heap.objs.size a) rfl rfl rfl _ V _ c0 C' I' ns') (λf s' z=>?_) λx s' z=>?_
  ·obtain ⟨p,o0,α₁,y0,w0,d0,w3,rf⟩:=z
   obtain ⟨J,g,R⟩:=CX C.fm I X w0 d0 w3
   refine ⟨Pp p,_,α₁,Su y0,J,g,R,?_⟩
   have av:∀ b,b∈fm.av->b∈(AU fm fd fi s.heap.objs.size a).av:=λb m=>mem_append_right _ m
   cases rf with
   | next=>exact .none
   | brk=>exact .none
   | cont=>exact .none
   | ret r=>exact RepV.weak av r
  ·obtain ⟨e,o0,α₁,y0,w0,d0,w3,Z5⟩:=z
   have hs0:=I'.none
   unfold leaving
   refine bg (Gi C' w0 w3 hs0 Z5 λw2 Y1 u4 i6=>CJ C' Y1 u4 hs0 i6 _ λv3 Y2 v4 Z4=>?_)
   obtain ⟨J,g,R⟩:=CX C.fm I X Y2 d0 v4
   refine ⟨e,_,α₁,Sv y0,J,g,R,Z4.raised.start λb q=>?_⟩
   cases z:s.heap.get? b with
   | none=>rfl
   | some o=>rw [X.toInCall.keep b o z] at q;cases q
end
inductive SimKw (W:Wd)(n:Nat)(fm:Fm):List Keyword->List (M PV)->Prop
 | nil:SimKw W n fm [] []
 | cons {nm:Str} {e:Expr} {p:Pos} {m:M PV} {ks:List Keyword} {ms:List (M PV)} (x:SimE W n fm e m) (t:SimKw W n fm ks ms):SimKw W n fm (⟨some nm,e,p⟩::ks) (m::ms)
def Dq (ks:List Keyword):List Str:=ks.filterMap (·.arg)
section
variable {W:Wd}{fm:Fm}{V α' α₁ w1:List Addr}{h h' h₁ start:Heap}{n:Nat}{A:Around}{ps ps':PS}{s s' c0:Shared}{H:Hd}{h₀:Heap}{own av av':List Addr}{e:PX}{x:Value}{fd:FuncData}{fi:Fi}{a:Addr}{vs:List Value}{l:List PV}
theorem FnAt.keeps (F:FnAt h a fd fi)(k:∀ b o,h.get? b=some o->h'.get? b=some o):FnAt h' a fd fi:=
 ⟨let ⟨o,e,d⟩:=F.obj;⟨o,k _ _ e,d⟩,F.scope,F.body,F.clo,F.glob,F.bi,F.code.keeps k⟩
theorem EY:∀ {ms:List (M PV)} {ps:PS} {l:List PV} {ps':PS},ag ms ps = .ok l ps'->l.length=ms.length:=by
 intro ms
 induction ms with
 | nil=>
  intro ps l ps' e
  have:R.ok ([]:List PV) ps = .ok l ps':=e
  cases this;rfl
 | cons m ms ih=>
  intro ps l ps' e
  have e':ac m (λv=>ac (ag ms) λvs=>ae (v::vs)) ps = .ok l ps':=e
  unfold ac at e'
  cases q:m ps with
  | ok v p1=>
   rw [q] at e'
   simp only at e'
   cases q2:ag ms p1 with
   | ok vs p2=>
    rw [q2] at e'
    have:R.ok (v::vs) p2 = .ok l ps':=e'
    cases this
    simp [ih q2]
   | ex e p2=>rw [q2] at e';cases e'
   | stuck=>rw [q2] at e';cases e'
  | ex e p1=>rw [q] at e';cases e'
  | stuck=>rw [q] at e';cases e'
theorem SimKw.some:∀ {ks:List Keyword} {ms:List (M PV)},SimKw W n fm ks ms->∀ pos env,(backToKw pos (keywordEach ks env)).all (·.1.isSome)=true/\(backToKw pos (keywordEach ks env)).filterMap (·.1)=Dq ks/\ks.length=ms.length/\(Dq ks).length=ms.length:=by
 intro _ _ hS
 induction hS with
 | nil=>
  intro pos env
  exact ⟨rfl,rfl,rfl,rfl⟩
 | @cons nm e p m ks ms x t ih=>
  intro pos env
  obtain ⟨h1,h2,h3,h4⟩:=ih pos env
  refine ⟨?_,?_,by simp [h3],by simp [Dq] at h4 ⊢;exact h4⟩
  ·show ((_::backToKw pos (keywordEach ks env)).all _)=true
   rw [all_cons,h1];rfl
  ·show filterMap _ (_::backToKw pos (keywordEach ks env))=_
   rw [filterMap_cons,h2];rfl
theorem Lo {pos:Pos}:∀ {ks:List Keyword} {ms:List (M PV)},SimKw W n fm ks ms->∀ A V ps s,Ctx W fm n A->InvS W fm V ps s->ag ms ps≠.stuck ->
  wpAny W.m A (evalAll ((backToKw pos (keywordEach ks fm.env)).map (·.2))) (OkL W fm V s.heap (ag ms ps)) (ExE W fm V s.heap (ag ms ps)) s:=by
 intro _ _ hS
 induction hS with
 | nil=>
  intro A V ps s C I ns
  exact wpAny_evalAll_nil ⟨[],ps,V,rfl,I,.refl ..,.refl ..,.nil⟩
 | @cons nm e p m ks ms q qs ih=>
  intro A V ps s C I ns
  have ns':ac m (λv=>ac (ag ms) λvs=>ae (v::vs)) ps≠.stuck:=ns
  have eq:ag (m::ms) ps=ac m (λv=>ac (ag ms) λvs=>ae (v::vs)) ps:=rfl
  rw [eq]
  refine wpAny_evalAll_cons (bg ?_)
  refine Am.seq (q A V ps s C I (Ad ns')) (λp v α₁ o0 c0 w0 d0 u0 W0 y0=>bg (wpAny_standAt (bh ?_))) λx c0 q=>q.bind
  rw [Ac y0] at ns' ⊢
  refine aW (ih A α₁ o0 c0 C w0 (Ad ns')) (λvs z0 q=>?_) λx z0 q=>q.bind.after d0 u0
  obtain ⟨l,Z1,X0,W1,Y1,Y0,Z0,i4⟩:=q
  rw [Ac W1]
  exact ⟨p::l,Z1,X0,rfl,Y1,d0.trans Y0 u0,u0.trans Z0 d0.new,.cons (w0.stays C Z0 Y0 W0) i4⟩
def Eb (W:Wd)(fd:FuncData)(fi:Fi)(np:Nat)(kws:List Str)(ext:List Value):Prop:=
 fi.params.length=np+kws.length+ext.length/\∀ s vs ks,(∀ b o,W.h₀.get? b=some o->s.heap.get? b=some o)->vs.length=np->ks.length=kws.length->BindsTo s fd ⟨vs,kws.zip ks⟩ (fi.params.zip (vs++(ks++ext)))
theorem FT {es:List Expr}{ms:List (M PV)}{pos:Pos}{m:M PFlow}{ext:List PV}{extv:List Value}(C:Ctx W fm (n+1) A)(I:InvS W fm V ps s)(q:SimL W (n+1) fm es ms)(Fa:FnAt W.h₀ a fd fi)(ok:fi.Ok)(hb:Eb W fd fi ms.length [] extv)
  (hx:∀ av V h,RepL W.H W.h₀ av V h ext extv) (body:∀ fm':Fm,fm'.sc=fi.sc->fm'.env.scope=fi.scope->fm'.hdl=fm.hdl->SimS W n fm' fi.body m) (ns:ac (ag ms) (λl=>ak m (l++ext)) ps≠.stuck) :
  Am W fm A V ps s (callWith pos (.ref a) [] (backTo pos (starEach es fm.env)) (backToKw pos (keywordEach [] fm.env))) (ac (ag ms) λl=>ak m (l++ext)):=by
 obtain ⟨o,ho,hd⟩:=Fa.obj
 refine callWith_function_kw (o:=o) (fd:=fd) (AT (q.plain _) (aW (CM q A V ps s C I (Ad ns)) (λvs c0 z=>?_) λx c0 z=>z.bind))
 obtain ⟨l,o0,α₁,y0,w0,d0,u0,W0⟩:=z
 rw [Ac y0] at ns ⊢
 refine ⟨⟨w0.inv.base _ _ ho,hd⟩,?_⟩
 have hlen:vs.length=ms.length:=by rw [<- W0.length,EY y0]
 have b:=hb.2 c0 vs [] w0.inv.base hlen rfl
 refine aW (IM (l:=l++ext) (vs:=vs++extv) C w0 (Fa.keeps w0.inv.base) ok b (by rw [hb.1,length_append,hlen];simp) (W0.append (hx _ _ _)) body ns) (λU U q=>q.after d0 u0) (λU U q=>q.after d0 u0)
theorem PM {e:Expr}{es:List Expr}{ks:List Keyword}{ms mks:List (M PV)}{pos:Pos}{m:M PFlow}(C:Ctx W fm (n+1) A)(I:InvS W fm V ps s)(q:SimL W (n+1) fm (e::es) ms)(qk:SimKw W (n+1) fm ks mks)(Fa:FnAt W.h₀ a fd fi)(ok:fi.Ok)(hb:Eb W fd fi ms.length (Dq ks) [])
  (body:∀ fm':Fm,fm'.sc=fi.sc->fm'.env.scope=fi.scope->fm'.hdl=fm.hdl->SimS W n fm' fi.body m) (ns:ac (ag ms) (λl=>ac (ag mks) λlk=>ak m (l++lk)) ps≠.stuck) :
  Am W fm A V ps s (callWith pos (.ref a) [] (backTo pos (starEach (e::es) fm.env)) (backToKw pos (keywordEach ks fm.env))) (ac (ag ms) λl=>ac (ag mks) λlk=>ak m (l++lk)):=by
 obtain ⟨o,ho,hd⟩:=Fa.obj
 obtain ⟨k1,k2,k3,k4⟩:=qk.some pos fm.env
 have sq:=CM (pos:=pos) q A V ps s C I (Ad ns)
 cases q with
 | @cons _ m0 _ ms0 q0 hs qs=>
  rw [hs] at sq ⊢
  refine callWith_function_kw (o:=o) (fd:=fd) (evalArgs_kw k1 (aW sq (λvs c0 z=>?_) λx c0 z=>z.bind))
  obtain ⟨l,o0,α₁,y0,w0,d0,u0,W0⟩:=z
  rw [Ac y0] at ns ⊢
  refine aW (Lo qk A α₁ o0 c0 C w0 (Ad ns)) (λvk z0 z=>?_) λx z0 z=>z.bind.after d0 u0
  obtain ⟨lk,Z1,X0,W1,Y1,Y0,Z0,i4⟩:=z
  rw [Ac W1] at ns ⊢
  refine ⟨⟨Y1.inv.base _ _ ho,hd⟩,?_⟩
  rw [k2]
  have hlen:vs.length=(m0::ms0).length:=by rw [<- W0.length,EY y0]
  have hlen2:vk.length=(Dq ks).length:=by rw [<- i4.length,EY W1,k4]
  have b:=hb.2 z0 vs vk Y1.inv.base hlen hlen2
  rw [append_nil] at b
  refine aW (IM (l:=l++lk) (vs:=vs++vk) C Y1 (Fa.keeps Y1.inv.base) ok b (by rw [hb.1,length_append,hlen,hlen2];simp) ((w0.staysL C Z0 Y0 W0).append i4) body ns) (λU U q=>(q.after Y0 Z0).after d0 u0) (λU U q=>(q.after Y0 Z0).after d0 u0)
theorem Gk {x:Str}{i:Nat}{v:Value}(C:Ctx W fm n A)(I:InvS W fm V ps s)(hv:W.H.mg x=some v){Q:Value->Shared->Prop}{E:Value->Shared->Prop}(hm:(x,NameKind.globalImplicit,i)∈fm.sc){pos:Pos}(hd:(x==("__debug__":Str))=false)
  (h:Q v s):wpAny W.m A (eval (.Name x pos) fm.env) Q E s:=
 Calls.Name_function_global C.fm.kind (C.fm.kindX hm (by decide)) (Calls.loadGlobal_global (env:=fm.env) (by rw [C.fm.glob];exact C.hd.g.keeps I.inv.base) hv h) hd
theorem NG {x:Str}{i:Nat}{np pos:Pos}{es:List Expr}{ms:List (M PV)}{m:M PFlow}(hm:(x,NameKind.globalImplicit,i)∈fm.sc)(hd:(x==("__debug__":Str))=false)(hv:W.H.mg x=some (.ref a))(q:SimL W (n+1) fm es ms)(Fa:FnAt W.h₀ a fd fi)(ok:fi.Ok)(hb:Eb W fd fi ms.length [] [])
  (body:∀ fm':Fm,fm'.sc=fi.sc->fm'.env.scope=fi.scope->fm'.hdl=fm.hdl->SimS W n fm' fi.body m):SimE W (n+1) fm (.Call (.Name x np) es [] pos) (ac (ag ms) (ak m)):=.mk λA V ps s C I ns=>by
 rw [arm_eval_Call_Name']
 refine bg (Gk C I hv hm hd ?_)
 have e:(λl=>ak m (l++[]))=ak m:=funext λl=>by rw [append_nil]
 have:=FT (ext:=[]) (extv:=[]) (pos:=pos) C I q Fa ok hb (λU U U=>.nil) body (by rw [e];exact ns)
 rw [e] at this
 exact this
theorem IN {x:Str}{i:Nat}{np pos:Pos}{e:Expr}{es:List Expr}{ks:List Keyword}{ms mks:List (M PV)}{m:M PFlow}(hm:(x,NameKind.globalImplicit,i)∈fm.sc)(hd:(x==("__debug__":Str))=false)(hv:W.H.mg x=some (.ref a))(q:SimL W (n+1) fm (e::es) ms)(qk:SimKw W (n+1) fm ks mks)
  (Fa:FnAt W.h₀ a fd fi) (ok:fi.Ok) (hb:Eb W fd fi ms.length (Dq ks) []) (body:∀ fm':Fm,fm'.sc=fi.sc->fm'.env.scope=fi.scope->fm'.hdl=fm.hdl->SimS W n fm' fi.body m) :
  SimE W (n+1) fm (.Call (.Name x np) (e::es) ks pos) (ac (ag ms) λl=>ac (ag mks) λlk=>ak m (l++lk)):=.mk λA V ps s C I ns=>by
 rw [arm_eval_Call_Name']
 refine bg (Gk C I hv hm hd ?_)
 exact PM (pos:=pos) C I q qk Fa ok hb body ns
end
structure StdX (T:String):Prop where
 exc:isSubtype (.type T) (.type "BaseException")=pure true
 nt:isSubtype (.type ((Manifest.find? T).elim "type" λx=>x.metatype)) (.type "tuple")=pure false
 self:isSubtype (.type T) (.type T)=pure true
theorem Lp:StdX "IndexError":=⟨by rw [isSubtype_type];kernel_rfl,by rw [isSubtype_type];kernel_rfl,by rw [isSubtype_type];kernel_rfl⟩
theorem Lq:StdX "ValueError":=⟨by rw [isSubtype_type];kernel_rfl,by rw [isSubtype_type];kernel_rfl,by rw [isSubtype_type];kernel_rfl⟩
theorem PO:StdX "KeyError":=⟨by rw [isSubtype_type];kernel_rfl,by rw [isSubtype_type];kernel_rfl,by rw [isSubtype_type];kernel_rfl⟩
def Fm.mark (fm:Fm)(x:Value):Fm:={ fm with hdl:=some x }
section
variable {W:Wd}{fm:Fm}{V α' α₁ w1:List Addr}{h h' h₁ start:Heap}{n:Nat}{A:Around}{ps ps':PS}{s s' c0:Shared}{H:Hd}{h₀:Heap}{own av av':List Addr}{e:PX}{x y:Value}
theorem InvS.mark (I:InvS W fm V ps s):InvS W (fm.mark y) V ps s:=⟨⟨I.inv.base,I.inv.loc,I.inv.cel,I.inv.lists,I.inv.live,I.inv.frames,I.inv.tabs⟩,I.gens,I.os⟩
theorem InvS.unmark (I:InvS W (fm.mark y) V ps s):InvS W fm V ps s:=⟨⟨I.inv.base,I.inv.loc,I.inv.cel,I.inv.lists,I.inv.live,I.inv.frames,I.inv.tabs⟩,I.gens,I.os⟩
theorem FmOk.mark (F:FmOk h₀ fm):FmOk h₀ (fm.mark y):=⟨F.kind,F.glob,F.bi,F.locAv,F.locOwn,F.ownAv,F.frsAv,F.fresh,F.kinds,F.once,F.cellOwn,F.cellApart,F.frame⟩
theorem Ctx.mark (C:Ctx W fm n A):Ctx W (fm.mark y) n (A.mark (some y)):=⟨C.frames,C.depth,C.units,rfl,C.tab,C.fm.mark,C.hd⟩
theorem OkS.unmark {r:R PFlow}{f:Flow}(q:OkS W (fm.mark y) V h r f s):OkS W fm V h r f s:=by
 obtain ⟨p,ps',α',e,I,g,R,rf⟩:=q
 exact ⟨p,ps',α',e,I.unmark,g,R,by cases rf with
  | next=>exact .next
  | brk=>exact .brk
  | cont=>exact .cont
  | ret r=>exact .ret r⟩
theorem IL.unmark {r:R PFlow}{f:Result}(q:IL W (fm.mark y) V h r f s):IL W fm V h r f s:=by
 cases f with
 | ok f=>exact OkS.unmark (y:=y) q
 | error x=>
  obtain ⟨e,ps',α',er,I,g,R,X⟩:=q
  exact ⟨e,ps',α',er,I.unmark,g,R,X⟩
theorem Lr {r:R PFlow}(C:Ctx W fm n A)(hs0:∀ b,h.get? b=none->W.h₀.get? b=none)(q:ExS W (fm.mark y) V h r x s) :
  notedBy W.m (A.mark (some y)) fm.env (cameBackBy W.m A fm.env (ExS W fm V h r)) x s:=by
 have:=EV C.mark hs0 q
 unfold notedBy at this ⊢
 exact aW this (λU U z=>Gj C hs0 (IL.unmark z)) λU U z=>Gj C hs0 (IL.unmark z)
theorem Sx {X:PX->Option (M PFlow)}{m:M PFlow}{f:PFlow}(q:m ps = .ok f ps'):aD X m ps = .ok f ps':=by unfold aD;rw [q]
theorem Sy {X:PX->Option (M PFlow)}{m:M PFlow}{e:PX}(q:m ps = .ex e ps')(ns:aD X m ps≠.stuck):∃ hm,X e=some hm/\aD X m ps=hm ps':=by
 unfold aD at ns ⊢
 rw [q] at ns ⊢
 dsimp only at ns ⊢
 cases z:X e with
 | none=>rw [z] at ns;exact absurd rfl ns
 | some hm=>exact ⟨hm,rfl,rfl⟩
theorem Sz {X:PX->Option (M PFlow)}{m:M PFlow}(ns:aD X m ps≠.stuck):m ps≠.stuck:=by
 intro q;unfold aD at ns;rw [q] at ns;exact ns rfl
theorem H0 {b:List Stmt}{hd:ExceptHandler}{pos:Pos}{m:M PFlow}{X:PX->Option (M PFlow)}(hb:SimS W n fm b m)
  (hh:∀ A V ps s e x hm (w1:List Addr) (start:Heap),Ctx W fm n A->(∀ b,start.get? b=none->W.h₀.get? b=none)->(∀ b∈fm.av,(start.get? b).isSome=true)->InvS W fm V ps s->Grow w1 V start->Rel fm.stk fm.own w1 start s.heap->RaisedN W start s.heap e x->X e=some hm->hm ps≠.stuck ->
   wpAny W.m A (handleBy x fm.env [hd]) (OkS W fm w1 start (hm ps)) (ExS W fm w1 start (hm ps)) s) :
  SimT W n fm (.Try b [hd] [] [] pos) (aD X m):=.mk λA V ps s C I ns=>by
 have hs0:=I.none
 refine wpAny_Try_except (aW (hb A V ps s C I (Sz ns)) (λf c0 z=>?_) λx c0 z=>?_)
 ·obtain ⟨p,o0,α₁,y0,w0,d0,w3,rf⟩:=z
  rw [Sx y0]
  cases rf with
  | next=>exact wpAny_execs_nil ⟨.next,o0,α₁,rfl,w0,d0,w3,.next⟩
  | brk=>exact ⟨.brk,o0,α₁,rfl,w0,d0,w3,.brk⟩
  | cont=>exact ⟨.cont,o0,α₁,rfl,w0,d0,w3,.cont⟩
  | ret r=>exact ⟨.ret _,o0,α₁,rfl,w0,d0,w3,.ret r⟩
 ·obtain ⟨e,o0,α₁,y0,w0,d0,w3,Z5⟩:=z
  obtain ⟨hm,hX,eq⟩:=Sy y0 ns
  rw [eq] at ns ⊢
  exact Gi C w0 w3 hs0 Z5 λw2 Y1 u4 i6=>CJ C Y1 u4 hs0 i6 _ λv3 Y2 v4 Z4=>hh A α₁ o0 _ e x hm V s.heap C hs0 I.inv.live Y2 d0 v4 Z4 hX ns
end
end Mi
end
section
open PySem PySem.W PyProof.Rows
set_option maxRecDepth 100000
namespace Mi
inductive TomlObj (C:Addr)(h:Heap)(a:Addr)(t:Txt):Prop
 | mk (o:Obj) (vs:Array Value) (T:Addr) (tk:Tok) (k1:h.get? a=some o) (k2:o.cls = .ref C) (k3:o.data = .fields vs) (k4:vs[0]? = some (.ref T)) (k5:IsTup h T #[.str (txt t) tk]):TomlObj C h a t
section
variable {prog:Program}{w:World}{A:Around}{E:Value->Shared->Prop}{h:Heap}{g:Array GenState}{d:Drawn}{t:Nat}{os:OsState}{C e:Addr}{m:Txt}
theorem NH:mroOf (.type "ValueError")=pure Nv:=PySem.F.excBase_ValueError.mroIs
theorem Fu {M:Model}{x:Addr}{nm q:Str}{N:Addr}{bs bm:List Value}{hdct:Bool}{sn:List Str}{sub:List Value}{ab:Bool}{col:Option Bool}{dd:Option Addr}{k0 k1 k2 k3 k5:Option Value}{B newId:String}{mN:Str->Option Value}
  {o:Obj} {name:Str} {id:String} {args:List Value} {Q:Option Value->Shared->Prop} (hx:h.get? x=some o) (hc:o.cls = .ref C)
  (hC:h.get? C=some (excClassObj nm q C N bs bm hdct sn sub ab col dd k0 k1 k2 k3 k5 newId)) (hn:h.Ns N mN) (hno:mN name=none) (hbm:mroOf (.type B)=pure bm) (S:Slot B name id)
  (hcall:wpAny M A (call (.builtin id) (.ref x::args)) (λv=>Q (some v)) E ⟨h,g,d,t,os⟩):wpAny M A (callSpecial? (.ref x) name args) Q E ⟨h,g,d,t,os⟩:=by
 simp only [callSpecial?]
 refine bg (wpAny_specialOf_inst hx hc hC hn hno hbm S.lookup ?_)
 simp only [S.bind]
 exact bf (bg (bh (bg (aW hcall (λv s' h'=>bh h') λU U h'=>h'))))
theorem IO {M:Model}{s:Shared}{o:Obj}{vs:Array Value}{T:Addr}{tk:Tok}{x:Str}{Q:Value × List Value->Shared->Prop}(ho:s.heap.get? e=some o)(hd:o.data = .fields vs)(h0:vs[0]? = some (.ref T))(hT:IsTup s.heap T #[.str x tk])(hq:Q (.ref T,[.str x tk]) s) :
  wpAny M A (Builtin.BaseException.bexcArgs (.ref e)) Q E s:=by
 obtain ⟨ot,hto,_,k,htd⟩:=hT
 unfold Builtin.BaseException.bexcArgs
 refine bg (wpAny_field ho hd h0 (bg (wpAny_seqItems hto htd ?_)))
 exact bh hq
theorem JP {s:Shared}{o:Obj}{vs:Array Value}{T:Addr}{tk:Tok}{x:Str}{Q:Fin->Shared->Prop}(ho:s.heap.get? e=some o)(hd:o.data = .fields vs)(h0:vs[0]? = some (.ref T))(hT:IsTup s.heap T #[.str x tk])(hq:Q (.done (.ret (.str x tk))) s) :
  wpAny (model prog w) A (Builtin.«BaseException.__str__» ⟨[.ref e],[]⟩) Q E s:=by
 unfold Builtin.«BaseException.__str__»
 repeat (first | with_reducible refine IO ho hd h0 hT ?_ | wp_step)
 exact hq
theorem NI:builtinKind "BaseException.__str__" = some .slot:=by decide +kernel
theorem Ls:splitId "BaseException.__str__" = some ("BaseException", "__str__"):=by decide +kernel
theorem MJ:Nv.contains (.type "BaseException")=true:=by decide +kernel
theorem Hx {id owner n:String}{b:Builtin}{bm:List Value}(h1:builtinKind id=some .slot)(h2:splitId id=some (owner,n))(ha:argsOk id ⟨[.ref e],[]⟩)(hp:plainId id=true)(he:entryFor table id=some b)(hm:bm.contains (.type owner)=true)
  {o:Obj} {Q:Value->Shared->Prop} {nm q:Str} {N:Addr} {bs:List Value} {hdct:Bool} {sn:List Str} {sub:List Value} {ab:Bool} {col:Option Bool} {dd:Option Addr} {k0 k1 k2 k3 k5:Option Value} {newId:String} (ho:h.get? e=some o) (hc:o.cls = .ref C)
  (hC:h.get? C=some (excClassObj nm q C N bs bm hdct sn sub ab col dd k0 k1 k2 k3 k5 newId))
  (hb:wpAny (model prog w) A.in1 (b ⟨[.ref e],[]⟩) (λfin s'=>∃ v,fin = .done (.ret v)/\Q v s') E ⟨h,g,d,t,os⟩) :
  wpAny (model prog w) A (call (.builtin id) [.ref e]) Q E ⟨h,g,d,t,os⟩:=by
 refine wpAny_call (codeAny_call_builtin hp he (wpAny_check_slot_inst h1 h2 ha hm ho hc hC ?_))
 refine aW hb (λfin s' h'=>?_) λU U z=>z
 obtain ⟨v,rfl,hv⟩:=h';exact hv
theorem NJ (K:ClsAt C h){o:Obj}{vs:Array Value}{T:Addr}{tk:Tok}(ho:h.get? e=some o)(hc:o.cls = .ref C)(hd:o.data = .fields vs)(h0:vs[0]? = some (.ref T))(hT:IsTup h T #[.str (txt m) tk]){Q:Value->Shared->Prop}(hq:Q (.str (txt m) tk) ⟨h,g,d,t,os⟩) :
  wpAny (model prog w) A (call (.builtin "BaseException.__str__") [.ref e]) Q E ⟨h,g,d,t,os⟩:=by
 have b:wpAny (model prog w) A.in1 (Builtin.«BaseException.__str__» ⟨[.ref e],[]⟩) (λfin s'=>∃ v,fin = .done (.ret v)/\Q v s') E ⟨h,g,d,t,os⟩:=JP (s:=⟨h,g,d,t,os⟩) ho hd h0 hT ⟨_,rfl,hq⟩
 obtain ⟨nm,q,N,bs,hdct,sn,sub,ab,col,dd,k0,k1,k2,k3,k5,mN,hC,hN,hno⟩:=K.at_
 exact Hx NI Ls (PySem.F.args_bexc_str _) PySem.F.excStr_ValueError.str.plain PySem.F.entry_bexc_str MJ ho hc hC b
theorem Lu (hu:A.units<cLine)(K:ClsAt C h){o:Obj}{vs:Array Value}{T:Addr}{tk:Tok}(ho:h.get? e=some o)(hc:o.cls = .ref C)(hd:o.data = .fields vs)(h0:vs[0]? = some (.ref T))(hT:IsTup h T #[.str (txt m) tk]){Q:Value->Shared->Prop}(hq:Q (.str (txt m) tk) ⟨h,g,d,t,os⟩) :
  wpAny (model prog w) A (Builtin.Str.strOf (.ref e)) Q E ⟨h,g,d,t,os⟩:=by
 have hcall:∀ Q:Value->Shared->Prop,Q (.str (txt m) tk) ⟨h,g,d,t,os⟩->wpAny (model prog w) A (call (.builtin "BaseException.__str__") [.ref e]) Q E ⟨h,g,d,t,os⟩:=λQ hq=>NJ K ho hc hd h0 hT hq
 obtain ⟨nm,q,N,bs,hdct,sn,sub,ab,col,dd,k0,k1,k2,k3,k5,mN,hC,hN,hno⟩:=K.at_
 have hn:mN (Str.ofString "__str__")=none:=hno _ (by decide +kernel)
 unfold Builtin.Str.strOf
 rw [show Builtin.Str.isExactStr (.ref e)=false from rfl]
 rw [if_neg Bool.false_ne_true]
 refine bg (wpAny_cRoomFor hu ?_)
 refine bg (m:=callSpecial? (.ref e) (Str.ofString "__str__")) (Fu ho hc hC hN hn NH PySem.F.excStr_ValueError.str (hcall _ ?_))
 exact bh hq
theorem JQ (hu:A.units+2<cLine)(K:ClsAt C h)(X:TomlObj C h e m){Q:Value->Shared->Prop}(hq:∀ tk,Q (.str (txt m) tk) ⟨h,g,d,t,os⟩) :
  wpAny (model prog w) A (call (.type "str") [.ref e]) Q E ⟨h,g,d,t,os⟩:=by
 obtain ⟨o,vs,T,tk,ho,hc,hd,h0,hT⟩:=X
 exact callType_new PySem.F.called_str (by decide) (PySem.F.typeCall_str_1 _) (PySem.F.newCall_str_1 _) (λobj=>PySem.F.args_object_init_2 obj _) PySem.F.entry_str_new
  (meets_str_new (S:=λA' R s'=>A'.units+1<cLine/\s'=⟨h,g,d,t,os⟩/\R (.ok (.ret (.str (txt m) tk))) s')
   λU U A' U U hq=>by obtain ⟨h1,h2,h3⟩:=hq;subst h2;exact Lu (A:=A'.in1) h1 K ho hc hd h0 hT h3)
  ⟨(show A.units+1+1<cLine from hu),rfl,typeIs_str _ _ _,hq tk⟩
end
end Mi
end
section
open PySem PySem.W PyProof.Rows
set_option maxRecDepth 10000
namespace Mi
inductive ErrAt (W:Wd)(fm:Fm)(h:Heap)(x:Str)(t:Txt):Prop
 | mk (m:Str->Option Value) (a:Addr) (o:Obj) (vs:Array Value) (T:Addr) (tk:Tok) (k1:h.Ns fm.env.locals m) (k2:m x=some (.ref a)) (k3:h.get? a=some o) (k4:o.cls = .ref W.H.toml) (k5:o.data = .fields vs) (k6:vs[0]? = some (.ref T)) (k7:T∉fm.av) (k8:IsTup h T #[.str (txt t) tk]):ErrAt W fm h x t
section
variable {M:Model}{A:Around}{E:Value->Shared->Prop}{s:Shared}{env:Env}
theorem PP {n:Str}{pos:Pos}{m:Str->Option Value}{Q:Unit->Shared->Prop}(hl:env.kindOf n=some .local)(hn:s.heap.Ns env.locals m)
  (hp:(env.scope.kind==.class||(env.scope.kind==.module&&env.locals != env.globals))=false)
  (h:∀ h' v,h'.Ns env.locals (λy=>if y=n then v else m y)->Heap.SameBut env.locals s.heap h'->Q () { s with heap:=h',toks:=s.toks+1 }) :
  wpAny M A (do bindName env n .none;unbindBehindTheSuite env n pos) Q E s:=by
 refine bg (wpAny_bindName (wpAny_storeName_local hl hn (λh₁ m8 j4=>?_) hp))
 unfold unbindBehindTheSuite
 refine wpAny_onRaise ?_
 unfold unbindName
 refine bg (wpAny_point (bg ?_))
 unfold deleteName
 simp only [hl,hp]
 rw [if_neg (by decide)]
 refine bg (wpAny_nsDel_keeps m8 λw2 v j6 X6=>?_)
 simp only [if_true,Option.isSome_some,Bool.not_true,false_eq_true,if_false]
 refine bh (wpAny_point (h w2 v ?_ (j4.trans X6)))
 have:(λx=>if x=n then v else if x=n then some Value.none else m x)=λy=>if y=n then v else m y:=funext λy=>by by_cases q:y=n <;> simp [q]
 rw [this] at j6
 exact j6
end
section
variable {W:Wd}{fm:Fm}{V α' α₁ w1:List Addr}{h h' h₁ start:Heap}{n:Nat}{A:Around}{ps ps':PS}{s s' c0:Shared}{H:Hd}{h₀:Heap}{own av av':List Addr}{e:PX}{y:Value}{x:Str}{t:Txt}
abbrev SimEx.T (W:Wd)(n:Nat)(fm:Fm)(x:Str)(t:Txt)(e:Expr)(m:M PV):Prop:=∀ A V ps s,Ctx W fm n A->InvS W fm V ps s->ErrAt W fm s.heap x t->m ps≠.stuck->Am W fm A V ps s (eval e fm.env) m
structure SimEx (W:Wd)(n:Nat)(fm:Fm)(x:Str)(t:Txt)(e:Expr)(m:M PV):Prop where
 go:SimEx.T W n fm x t e m
noncomputable instance {W:Wd} {n:Nat} {fm:Fm} {x:Str} {t:Txt} {e:Expr} {m:M PV}:CoeFun (SimEx W n fm x t e m) (λU=>SimEx.T W n fm x t e m):=⟨SimEx.go⟩
abbrev SimSx.T (W:Wd)(n:Nat)(fm:Fm)(x:Str)(t:Txt)(b:List Stmt)(m:M PFlow):Prop:=∀ A V ps s,Ctx W fm n A->InvS W fm V ps s->ErrAt W fm s.heap x t->m ps≠.stuck->wpAny W.m A (execs b fm.env) (OkS W fm V s.heap (m ps)) (ExS W fm V s.heap (m ps)) s
structure SimSx (W:Wd)(n:Nat)(fm:Fm)(x:Str)(t:Txt)(b:List Stmt)(m:M PFlow):Prop where
 go:SimSx.T W n fm x t b m
noncomputable instance {W:Wd} {n:Nat} {fm:Fm} {x:Str} {t:Txt} {b:List Stmt} {m:M PFlow}:CoeFun (SimSx W n fm x t b m) (λU=>SimSx.T W n fm x t b m):=⟨SimSx.go⟩
theorem PQ {i:Nat}{np xp pos:Pos}(hk:fm.env.kindOf x=some .local)(hd:(x==("__debug__":Str))=false)(hm:(("str":Str),NameKind.globalImplicit,i)∈fm.sc) :
  SimEx W n fm x t (.Call (.Name "str" np) [.Name x xp] [] pos) (ae (.str t)):=.mk λA V ps s C I X ns=>by
 show wpAny W.m A (do callWith pos (<- eval (.Name "str" np) fm.env) [] (backTo pos (starEach [.Name x xp] fm.env)) (backToKw pos (keywordEach [] fm.env))) _ _ s
 refine bg (Bo (v:=.type "str") C I (by decide +kernel) (by decide +kernel) (by kernel_rfl) hm (by decide +kernel) ?_)
 obtain ⟨m,a,o,vs,T,tk,hns,hmx,ho,hc,hdd,h0,hT,hI⟩:=X
 refine PySem.callWith_type rfl (AT rfl (Calls.spliced_cons (wpAny_Name (wpAny_loadName_local C.fm.kind hk hns hmx (Calls.spliced_nil ?_)) hd)))
 have hu:A.units+2<cLine:=by have:=C.units;lia
 obtain ⟨hp,g,d,tk',os⟩:=s
 exact JQ hu (C.hd.tomlC.keeps I.inv.base) ⟨o,vs,T,tk,ho,hc,hdd,h0,hI⟩ λtk=>OkE.same' I (.str _ _)
theorem NK {v:Expr}{pos:Pos}{m:M PV}(hv:SimEx W n fm x t v m):SimSx W n fm x t [.Return (some v) pos] (ac m λa=>ae (.ret a)):=.mk λA V ps s C I X ns=>by
 refine wpAny_execs_cons (wpAny_Return_some (Am.seq (hv A V ps s C I X (Ad ns)) (λa va α₁ o0 c0 w0 d0 u0 ra y0=>?_) λx c0 q=>q.toS.bind))
 rw [Ac y0]
 exact ⟨.ret a,o0,α₁,rfl,w0,d0,u0.up,.ret ra⟩
theorem SA {m:M PFlow}(ns:aJ m ps≠.stuck):∃ f ps',m ps = .ok f ps'/\aJ m ps = .ok f ps':=by
 unfold aJ at ns ⊢
 cases q:m ps with
 | ok f p=>exact ⟨f,p,rfl,rfl⟩
 | ex e p=>rw [q] at ns;exact absurd rfl ns
 | stuck=>rw [q] at ns;exact absurd rfl ns
theorem GS (F:FmOk W.h₀ fm)(I:InvS W fm V ps s)(hx:∀ k i,(x,k,i)∉fm.sc){m:Str->Option Value}{v:Option Value}{tk:Nat}(hns:s.heap.Ns fm.env.locals m)(hn:h'.Ns fm.env.locals (λy=>if y=x then v else m y))(S:Heap.SameBut fm.env.locals s.heap h') :
  InvS W fm V ps { s with heap:=h',toks:=tk }/\Rel fm.stk fm.own V s.heap h':=by
 obtain ⟨o',es,ep,e1,e2,e3⟩:=id hn
 have live:(h'.get? fm.env.locals).isSome=true:=by rw [e1];rfl
 have hα:∀ b∈V,b≠fm.env.locals:=λb m q=>I.inv.lists.apart b m (q▸F.locAv)
 refine ⟨⟨I.inv.mine F S F.locAv live (λo eo=>⟨(λvs q=>by obtain ⟨oo,_,_,f1,f2,_⟩:=hns;rw [eo] at f1;cases f1;rw [f2] at q;cases q),o',e1,λvs q=>by rw [e2] at q;cases q⟩) rfl ?_ λz k i hz hk=>?_,I.gens,I.os⟩,SameBut.rel S live F.locOwn _ _⟩
 ·obtain ⟨m',n1,n2⟩:=I.inv.loc
  have:m'=m:=funext λz=>by
   obtain ⟨o1,es1,ep1,a1,a2,a3,a4⟩:=n1
   obtain ⟨o2,es2,ep2,b1,b2,b3,b4⟩:=hns
   rw [a1] at b1;cases b1;rw [a2] at b2;cases b2
   rw [<- a4,<- b4]
  subst this
  refine ⟨_,hn,λz i hz=>?_⟩
  have:z≠x:=λq=>hx _ _ (q▸hz)
  simp only [if_neg this]
  exact (n2 z i hz).same S F.locAv hα
 ·obtain ⟨c,v',q1,q2,q3,⟨o,q4,q4'⟩,q5⟩:=I.inv.cel z k i hz hk
  exact ⟨c,v',q1,q2,q3,⟨o,(S.2 c q3).trans q4,q4'⟩,q5.same S F.locAv hα⟩
theorem H1 {i:Nat}(C:Ctx W fm n A)(I:InvS W fm V ps s){Q:Value->Shared->Prop}{E:Value->Shared->Prop}(hm:(("TOMLDecodeError":Str),NameKind.globalImplicit,i)∈fm.sc){pos:Pos}
  (h:Q (.ref W.H.toml) s):wpAny W.m A (eval (.Name "TOMLDecodeError" pos) fm.env) Q E s:=Gk C I C.hd.toml hm (by decide +kernel) h
theorem IP {a:Addr}{o:Obj}(K:ClsAt W.H.toml s.heap)(ho:s.heap.get? a=some o)(hc:o.cls = .ref W.H.toml){Q:Bool->Shared->Prop}{E:Value->Shared->Prop}(h:Q true s):wpAny W.m A (excMatches (.ref a) (.ref W.H.toml)) Q E s:=by
 obtain ⟨nm,q,N,bs,hdct,sn,sub,ab,col,dd,k0,k1,k2,k3,k5,mN,hC,_⟩:=K.at_
 obtain ⟨hp,g,d,tk',os⟩:=s
 exact wpAny_excMatches_sub_self hC ho hc MJ h
theorem Lv {i:Nat}{tp hp pos:Pos}{b:List Stmt}{b0:Stmt}{suite:List Stmt}{m:M PFlow}{hm:Txt->M PFlow}(ht:(("TOMLDecodeError":Str),NameKind.globalImplicit,i)∈fm.sc)(hx:∀ k i,(x,k,i)∉fm.sc)(hk:fm.env.kindOf x=some .local)
  (hb:SimS W n fm b m) (hh:∀ y t,SimSx W n (fm.mark y) x t (b0::suite) (hm t)):SimT W n fm (.Try b [.ExceptHandler (some (.Name "TOMLDecodeError" tp)) (some x) (b0::suite) hp] [] [] pos) (aD (Pq λt=>aJ (hm t)) m):=by
 refine H0 hb λA V ps s e xv hm' w1 start C hs0 hlive I g R X hX ns=>?_
 cases e with
 | std c=>exact (by cases hX)
 | toml t=>
  obtain rfl:=aT (show some (aJ (hm t))=some hm' from hX)
  obtain ⟨fl,o0,ef,ec⟩:=SA ns
  have X':=X
  obtain ⟨a,oe,vs,rfl,ha,hcl,hrest⟩:=X
  refine wpAny_handleBy_cons (codeAny_handlers_test (H1 (C.mark (y:=.ref a)) I.mark ht ?_)) (by intro q;cases q)
  refine IP (C.hd.tomlC.keeps I.inv.base) ha hcl ?_
  refine codeAny_handlers_suite_as ?_
  refine CJ (C.mark (y:=.ref a)) I.mark R hs0 X' _ λv3 Y2 v4 Z4=>?_
  obtain ⟨mL,hns,hloc⟩:=Y2.inv.loc
  refine wpAny_storeName_local hk hns (λo8 w7 f7=>?_) (by simp [C.fm.kind])
  obtain ⟨l6,i7⟩:=GS (tk:=_) C.fm Y2.unmark hx hns w7 f7
  have R04:=v4.trans i7 g.new
  obtain ⟨a',oe',vs',ea,ha',hc',hd',hsz',hna',⟨T,tk,h0',hTn,hT'⟩,_⟩:=Z4
  cases ea
  have hTav:T∉fm.av:=λq=>by have:=hlive T q;rw [hTn] at this;cases this
  have nea:a≠fm.env.locals:=λq=>by have:=hlive _ C.fm.locAv;rw [<- q,hna'] at this;cases this
  have neT:T≠fm.env.locals:=λq=>hTav (q▸C.fm.locAv)
  have err:ErrAt W (fm.mark (.ref a)) o8 x t:=by
   obtain ⟨oT,t1,t2⟩:=hT'
   exact ⟨_,a,oe',vs',T,tk,w7,by simp,(f7.2 a nea).trans ha',hc',hd',h0',hTav,oT,(f7.2 T neT).trans t1,t2⟩
  refine aW (hh (.ref a) t _ V ps _ C.mark l6.mark err (by rw [ef];exact λz=>(by cases z))) (λf m6 z=>?_) λy m6 z=>?_
  ·obtain ⟨p,q8,y7,r6,j7,r8,s8,rf⟩:=z
   rw [ef] at r6
   cases r6
   obtain ⟨m5,hns5,_⟩:=j7.inv.loc
   refine PP hk hns5 (by simp [C.fm.kind]) λz8 v t8 z7=>?_
   obtain ⟨u8,v8⟩:=GS (tk:=m6.toks+1) C.fm j7.unmark hx hns5 t8 z7
   have g5:=g.trans r8 R04
   rw [ec]
   refine ⟨fl,o0,y7,rfl,u8,g5,(R04.trans s8 g.new).trans v8 g5.new,?_⟩
   cases rf with
   | next=>exact .next
   | brk=>exact .brk
   | cont=>exact .cont
   | ret r=>
    exact .ret (r.same z7 C.fm.locAv λb m q=>j7.inv.lists.apart b m (q▸C.fm.locAv))
  ·obtain ⟨e,q8,y7,r6,_⟩:=z
   rw [ef] at r6;cases r6
end
end Mi
end
section
open PySem PySem.W PyProof.Rows
set_option maxRecDepth 100000
namespace Mi
inductive MadeAt (C:Addr)(h:Heap)(e:Addr)(m:Txt):Prop
 | mk (o:Obj) (vs:Array Value) (T:Addr) (tk:Tok) (k1:h.get? e=some o) (k2:o.cls = .ref C) (k3:o.data = .fields vs) (k4:5<vs.size) (k5:vs[0]? = some (.ref T)) (k6:vs[1]? = some .none) (k7:IsTup h T #[.str (txt m) tk]):MadeAt C h e m
section
variable {M:Model}{A:Around}{E:Value->Shared->Prop}{s:Shared}{C e:Addr}
theorem H3 {o:Obj}(K:ClsAt C s.heap)(he:s.heap.get? e=some o)(hc:o.cls = .ref C){vs:Array Value}(hd:o.data = .fields vs){c:String}{Q:Value->Shared->Prop}(h:Q (.ref e) s):wpAny M A (excFromValue (.ref e) c) Q E s:=by
 obtain ⟨nm,q,N,bs,hdct,sn,sub,ab,col,dd,k0,k1,k2,k3,k5,mN,hC,_⟩:=K.at_
 obtain ⟨hp,g,d,tk,os⟩:=s
 obtain ⟨cls,dct,data,sl⟩:=o
 simp only at hc hd
 subst hc hd
 have hcB:(Value.ref C::Nv).contains (.type "BaseException")=true:=by rw [List.contains_cons,show Nv.contains (.type "BaseException")=true from by decide +kernel,Bool.or_true]
 unfold excFromValue isExcClass
 repeat (first | with_reducible refine wpAny_loadPart_at he ?_ | with_reducible refine wpAny_loadPart_at hC ?_ | (with_reducible refine wpAny_isSubtype_exc hC ?_;rw [hcB]) | wp_step)
 exact h
theorem SD {o:Obj}(K:ClsAt C s.heap)(he:s.heap.get? e=some o)(hc:o.cls = .ref C){vs:Array Value}(hd:o.data = .fields vs){Q:Value->Shared->Prop}(h:Q (.ref e) s):wpAny M A (raisedInstance (.ref e)) Q E s:=by
 obtain ⟨nm,q,N,bs,hdct,sn,sub,ab,col,dd,k0,k1,k2,k3,k5,mN,hC,_⟩:=K.at_
 obtain ⟨hp,g,d,tk,os⟩:=s
 obtain ⟨cls,dct,data,sl⟩:=o
 simp only at hc hd
 subst hc hd
 unfold raisedInstance
 repeat (first | with_reducible refine wpAny_loadPart_at he ?_ | with_reducible refine wpAny_loadPart_at hC ?_ | wp_step)
 exact h
theorem SE {o:Obj}(K:ClsAt C s.heap)(he:s.heap.get? e=some o)(hc:o.cls = .ref C){vs:Array Value}(hd:o.data = .fields vs){Q:Bool->Shared->Prop}(h:Q false s):wpAny M A (isType (.ref e)) Q E s:=by
 obtain ⟨nm,q,N,bs,hdct,sn,sub,ab,col,dd,k0,k1,k2,k3,k5,mN,hC,_⟩:=K.at_
 obtain ⟨hp,g,d,tk,os⟩:=s
 obtain ⟨cls,dct,data,sl⟩:=o
 simp only at hc hd
 subst hc hd
 unfold isType
 repeat (first | with_reducible refine wpAny_loadPart_at he ?_ | with_reducible refine wpAny_loadPart_at hC ?_ | wp_step)
 exact h
end
def AX (h:Heap)(e:Addr)(k:Nat)(x:Value):Heap:=h.update e (Obj.mapFields (·.setIfInBounds k x))
theorem MadeAt.set {C e:Addr}{h:Heap}{m:Txt}(X:MadeAt C h e m){k:Nat}{x:Value}(h0:k≠0)(h1:k≠1):MadeAt C (AX h e k x) e m:=by
 obtain ⟨o,vs,T,tk,he,hc,hd,hsz,v0,v1,oT,t1,t2,kk,t3⟩:=X
 have hd':=Obj.data_mapFields hd (·.setIfInBounds k x)
 have nT:T≠e:=λq=>by rw [q,he] at t1;cases t1;rw [hd] at t3;cases t3
 refine ⟨_,_,T,tk,Heap.get?_update_self (Obj.mapFields (·.setIfInBounds k x)) he (Obj.isFreed_of_fields hd'),(Obj.cls_mapFields _ _).trans hc,hd',by simpa using hsz,?_,?_,oT,(get?_update_other _ _ (Ne.symm nT)).trans t1,t2,kk,t3⟩
 ·rw [Array.getElem?_setIfInBounds_ne h0];exact v0
 ·rw [Array.getElem?_setIfInBounds_ne h1];exact v1
section
variable {prog:Program}{w:World}{A:Around}{E:Value->Shared->Prop}{s:Shared}{C e:Addr}{m:Txt}
theorem C4 {k:Nat}{x:Value}{Q:Unit->Shared->Prop}(X:MadeAt C s.heap e m)(hk:k<=5)(h:Q () { s with heap:=AX s.heap e k x }):wpAny (model prog w) A (setField (.ref e) k x) Q E s:=by
 obtain ⟨o,vs,T,tk,he,hc,hd,hsz,v0,v1,hT⟩:=X
 exact wpAny_setField he hd (by exact la [_,_] [([2],[11]),([11,3,0],[4])] ([2,3,0],[4]) rfl hk hsz) h
theorem GT {fl:Option Addr}{Q:Unit->Shared->Prop}(X:MadeAt C s.heap e m)(h:Q () s):wpAny (model prog w) A (setFlight (.ref e) fl) Q E s:=by
 obtain ⟨o,vs,T,tk,he,hc,hd,hsz,v0,v1,hT⟩:=X
 unfold setFlight
 refine bg (wpAny_field he hd v1 ?_)
 rw [if_neg (by decide)]
 exact bh h
theorem Hy:entryFor table "proto.unchain" = some Builtin.«proto.unchain»:=entryFor_of_tree (by kernel_rfl)
theorem Hz {V:Type}{Q:V->Shared->Prop}(X:MadeAt C s.heap e m)
  (h:(A.handled=none/\E (.ref e) s)\/∃ a o vs,A.handled=some (.ref a)/\a≠e/\s.heap.get? a=some o/\o.data = .fields vs/\vs[2]? = some .none/\E (.ref e) { s with heap:=AX s.heap e 2 (.ref a) }):wpAny (model prog w) A (raiseNew (.ref e):Sem V) Q E s:=by
 rcases h with ⟨hh,h⟩ | ⟨a,o,vs,hh,ne,ho,hd,h2,h⟩
 ·exact wpAny_raiseNew_none hh h
 ·unfold raiseNew
  refine bg (wpAny_handled ?_)
  rw [hh]
  dsimp only
  rw [if_pos (show (Value.ref a != Value.ref e)=true from by simpa using ne)]
  have un:wpAny (model prog w) A (runValue (.builtin "proto.unchain" ⟨[.ref e,.ref a,.ref a,.bool false],[]⟩)) (λU s'=>s'=s) E s:=by
   refine wpAny_runValue (codeAny_builtin Hy ?_)
   unfold Builtin.«proto.unchain»
   show wpAny _ _ (field (.ref a) 2 >>= _) _ _ s
   refine bg (wpAny_field ho hd h2 ?_)
   rw [if_pos (by rfl)]
   exact bh rfl
  refine bg (bf (aW un (λU s' q=>?_) λU U z=>z))
  subst q
  exact bg (C4 X (by exact la [] [] ([5],[11]) rfl) (wpAny_throw h))
end
section
variable {prog:Program}{w:World}{A:Around}{E:Value->Shared->Prop}{s:Shared}{C e:Addr}{m:Txt}{env:Env}
def IQ (A:Around)(h:Heap)(e:Addr)(E:Heap->Prop):Prop:=
 (A.handled=none/\E h)\/∃ a o vs,A.handled=some (.ref a)/\a≠e/\h.get? a=some o/\o.data = .fields vs/\vs[2]? = some .none/\E (AX h e 2 (.ref a))
theorem H4 {Q:Flow->Shared->Prop}(K:ClsAt C s.heap)(X:MadeAt C s.heap e m)(h:IQ A s.heap e λh'=>E (.ref e) { s with heap:=h' }) :
  wpAny (model prog w) A (do
   let e <- if <- isType (.ref e) then holding [.ref e] (raisedFor (.ref e) (.ref e)) else raisedInstance (.ref e)
   setFlight e none
   raiseNew e:Sem Flow) Q E s:=by
 obtain ⟨o,vs,T,tk,he,hc,hd,hsz,v0,v1,hT⟩:=id X
 refine bg (SE K he hc hd ?_)
 simp only [false_eq_true,if_false]
 refine bg (SD K he hc hd ?_)
 refine bg (GT X ?_)
 refine Hz X ?_
 rcases h with ⟨h1,h2⟩ | ⟨a,oa,va,h1,h2,h3,h4,h5,h6⟩
 ·exact .inl ⟨h1,h2⟩
 ·exact .inr ⟨a,oa,va,h1,h2,h3,h4,h5,h6⟩
theorem H5 {k:Nat}{x:Value}(K:ClsAt C s.heap)(X:MadeAt C s.heap e m):ClsAt C (AX s.heap e k x):=by
 obtain ⟨nm,q,N,bs,hdct,sn,sub,ab,col,dd,k0,k1,k2,k3,k5,mN,hC,⟨oN,es,ep,n1,n2,n3⟩,hno⟩:=K.at_
 obtain ⟨o,vs,T,tk,he,hc,hd,_⟩:=X
 have nC:C≠e:=λq=>by rw [q,he] at hC;cases hC;cases hd
 have nN:N≠e:=λq=>by rw [q,he] at n1;cases n1;rw [hd] at n2;cases n2
 exact ⟨nm,q,N,bs,hdct,sn,sub,ab,col,dd,k0,k1,k2,k3,k5,mN,(get?_update_other _ _ (Ne.symm nC)).trans hC,⟨oN,es,ep,(get?_update_other _ _ (Ne.symm nN)).trans n1,n2,n3⟩,hno⟩
theorem F2 {x:Sem Value}{Q:Flow->Shared->Prop}
  (h:wpAny (model prog w) A x (λv c0=>∃ e m,v = .ref e/\ClsAt C c0.heap/\MadeAt C c0.heap e m/\IQ A c0.heap e λh'=>E (.ref e) { c0 with heap:=h' }) E s):wpAny (model prog w) A (raiseStmt env (some x) none) Q E s:=by
 unfold raiseStmt
 refine bg (aW h (λv c0 z=>?_) λU U z=>z)
 obtain ⟨e,m,rfl,K,X,R⟩:=z
 obtain ⟨o,vs,T,tk,he,hc,hd,_⟩:=id X
 refine bg (bh (bg (bf (H3 K he hc hd ?_))))
 exact H4 K X R
theorem GU {x:Sem Value}{pos:Pos}{k:Nat}{Q:Flow->Shared->Prop}
  (h:wpAny (model prog w) A x (λv c0=>∃ e m,v = .ref e/\ClsAt C c0.heap/\MadeAt C c0.heap e m/\IQ A (AX (AX c0.heap e 3 .none) e 4 (.bool true)) e λh'=>E (.ref e) { c0 with heap:=h' }) E s) (c:Sem Value) (hc0:∀ (s:Shared) (Q:Value->Shared->Prop),Q .none s->wpAny (model prog w) A c Q E s) :
  wpAny (model prog w) A (raiseStmt env (some x) (some c)) Q E s:=by
 unfold raiseStmt
 refine bg (aW h (λv c0 z=>?_) λU U z=>z)
 obtain ⟨e,m,rfl,K,X,R⟩:=z
 obtain ⟨o,vs,T,tk,he,hc,hd,_⟩:=id X
 refine bg (bf (hc0 _ _ ?_))
 refine bg (bh ?_)
 refine bg (bf (H3 K he hc hd ?_))
 dsimp only
 rw [if_pos (show (Value.none==Value.none)=true from rfl)]
 refine bg (bh ?_)
 refine bg (C4 X (by exact la [] [] ([7],[11]) rfl) ?_)
 refine bg (C4 (s:={ c0 with heap:=AX c0.heap e 3 .none }) (X.set (by decide) (by decide)) (by exact la [] [] ([9],[11]) rfl) ?_)
 exact H4 (s:={ c0 with heap:=AX (AX c0.heap e 3 .none) e 4 (.bool true) }) (H5 (s:={ c0 with heap:=AX c0.heap e 3 .none }) (H5 K X) (X.set (by decide) (by decide))) ((X.set (by decide) (by decide)).set (by decide) (by decide)) R
end
inductive NewExc (C:Addr)(start h:Heap)(e:Addr)(m:Txt):Prop
 | mk (k1:start.get? e=none) (o:Obj) (vs:Array Value) (T:Addr) (tk:Tok) (k2:h.get? e=some o) (k3:o.cls = .ref C) (k4:o.data = .fields vs) (k5:5<vs.size) (k6:vs[0]? = some (.ref T)) (k7:vs[1]? = some .none) (k8:IsTup h T #[.str (txt m) tk]) (k9:start.get? T=none):NewExc C start h e m
section
variable {W:Wd}{fm:Fm}{V α' α₁ w1:List Addr}{h h' h₁ start:Heap}{n:Nat}{A:Around}{ps ps':PS}{s s' c0:Shared}{H:Hd}{h₀:Heap}{own av av':List Addr}{y:Value}{x:Str}{t m:Txt}{C e:Addr}
theorem NewExc.made (X:NewExc C start h e m):MadeAt C h e m:=by
 obtain ⟨_,o,vs,T,tk,h1,h2,h3,h4,h5,h6,h7,_⟩:=X
 exact ⟨o,vs,T,tk,h1,h2,h3,h4,h5,h6,h7⟩
theorem NewExc.set (X:NewExc C start h e m){k:Nat}{x:Value}(k0:k≠0)(k1:k≠1):NewExc C start (AX h e k x) e m:=by
 obtain ⟨hn,o,vs,T,tk,he,hc,hd,hsz,v0,v1,⟨oT,t1,t2,kk,t3⟩,hT⟩:=X
 have hd':=Obj.data_mapFields hd (·.setIfInBounds k x)
 have nT:T≠e:=λq=>by rw [q,he] at t1;cases t1;rw [hd] at t3;cases t3
 refine ⟨hn,_,_,T,tk,Heap.get?_update_self (Obj.mapFields (·.setIfInBounds k x)) he (Obj.isFreed_of_fields hd'),(Obj.cls_mapFields _ _).trans hc,hd',by simpa using hsz,?_,?_,⟨oT,(get?_update_other _ _ (Ne.symm nT)).trans t1,t2,kk,t3⟩,hT⟩
 ·rw [Array.getElem?_setIfInBounds_ne k0];exact v0
 ·rw [Array.getElem?_setIfInBounds_ne k1];exact v1
theorem NewExc.raised (X:NewExc W.H.toml start h e m):Raised W start h (.toml m) (.ref e):=by
 obtain ⟨hn,o,vs,T,tk,he,hc,hd,hsz,v0,v1,hI,hT⟩:=X
 exact ⟨e,o,vs,rfl,he,hc,hd,hsz,hn,⟨T,tk,v0,hT,hI⟩,.inl v1,trivial⟩
theorem NewExc.turn (X:NewExc C start h e m)(F:h.FunFrames ⟨#[],{}⟩ fm.stk)(k:Nat)(x:Value):Turn fm.stk [e] h (AX h e k x):=by
 obtain ⟨hn,o,vs,T,tk,he,hc,hd,_⟩:=X
 exact (Turn.set (fm:=fm) F he hd ⟨(by rw [hc];exact λq=>(by cases q)),by rw [hc];exact λq=>(by cases q)⟩ (·.setIfInBounds k x)).1
inductive XcRes (W:Wd)(fm:Fm)(V:List Addr)(h:Heap)(r:R Txt)(v:Value)(s':Shared):Prop
 | mk (a:Addr) (t:Txt) (ps':PS) (α':List Addr) (k1:r = .ok t ps') (k2:v = .ref a) (k3:InvS W fm α' ps' s') (k4:Grow V α' h) (k5:Rel fm.stk fm.tab V h s'.heap) (k6:NewExc W.H.toml h s'.heap a t):XcRes W fm V h r v s'
abbrev SimXc.T (W:Wd)(n:Nat)(fm:Fm)(e:Expr)(mx:M Txt):Prop:=∀ A V ps s,Ctx W fm n A->InvS W fm V ps s->mx ps≠.stuck->wpAny W.m A (eval e fm.env) (λv s'=>XcRes W fm V s.heap (mx ps) v s') (ExE W fm V s.heap (mx ps)) s
structure SimXc (W:Wd)(n:Nat)(fm:Fm)(e:Expr)(mx:M Txt):Prop where
 go:SimXc.T W n fm e mx
noncomputable instance {W:Wd} {n:Nat} {fm:Fm} {e:Expr} {mx:M Txt}:CoeFun (SimXc W n fm e mx) (λU=>SimXc.T W n fm e mx):=⟨SimXc.go⟩
inductive HdlAt (h:Heap)(fm:Fm)(a:Addr):Prop
 | mk (o:Obj) (vs:Array Value) (k1:h.get? a=some o) (k2:o.data = .fields vs) (k3:vs[2]? = some .none):HdlAt h fm a
theorem HdlAt.rel (F:FmOk W.h₀ fm)(I:InvS W fm V ps s){a:Addr}(hav:a∉fm.av)(ho:∀ b∈own,b∈fm.av)(R:Rel fm.stk own V s.heap h')(q:HdlAt s.heap fm a):HdlAt h' fm a:=by
 obtain ⟨o,vs,he,hd,h2⟩:=q
 have nα:a∉V:=λz=>by
  obtain ⟨ws,o',e',_,k',d'⟩:=I.inv.lists.isList z
  rw [he] at e';cases e';rw [hd] at d';cases d'
 exact ⟨o,vs,R.keep _ _ he (λz=>hav (F.frsAv _ z)) (λz=>hav (ho _ z)) nα,hd,h2⟩
theorem CY {v:Expr}{pos:Pos}{mx:M Txt}(hh:fm.hdl=none)(hv:SimXc W n fm v mx):SimT W n fm (.Raise (some v) none pos) (ac mx λt=>aK (.toml t)):=.mk λA V ps s C I ns=>by
 have hA:A.handled=none:=C.hdl.trans hh
 rw [arm_exec_Raise]
 refine bg (wpAny_standAt (F2 (C:=W.H.toml) ?_))
 refine bg (aW (hv A V ps s C I (Ad ns)) (λv s' z=>bg (wpAny_standAt (bh ?_))) λx s' z=>z.toS.bind)
 obtain ⟨a,t,ps',α',e,rfl,I',g,R,X⟩:=z
 refine ⟨a,t,rfl,C.hd.tomlC.keeps I'.inv.base,X.made,.inl ⟨hA,?_⟩⟩
 exact ⟨.toml t,ps',α',by rw [Ac e];rfl,I',g,R.up,X.raised⟩
theorem NewExc.step (C:Ctx W fm n A)(I:InvS W fm V ps s)(hs0:∀ b,start.get? b=none->W.h₀.get? b=none)(X:NewExc W.H.toml start s.heap e m)(R:Rel fm.stk own w1 start s.heap){k:Nat}{x:Value}(k0:k≠0)(k1:k≠1) :
  InvS W fm V ps { s with heap:=AX s.heap e k x }/\Rel fm.stk own w1 start (AX s.heap e k x)/\NewExc W.H.toml start (AX s.heap e k x) e m:=by
 have T:=X.turn (fm:=fm) I.inv.frames k x
 have hc:∀ b∈[e],start.get? b=none:=λb q=>by rw [mem_singleton.mp q];exact X.1
 exact ⟨⟨I.inv.turn C.fm T λb q=>hs0 b (hc b q),I.gens,I.os⟩,R.turn T hc,X.set k0 k1⟩
abbrev SimSh.T (W:Wd)(n:Nat)(fm:Fm)(b:List Stmt)(m:M PFlow):Prop:=∀ A V ps s a,Ctx W fm n A->InvS W fm V ps s->fm.hdl=some (.ref a)->a∉fm.av->HdlAt s.heap fm a->m ps≠.stuck->wpAny W.m A (execs b fm.env) (OkS W fm V s.heap (m ps)) (ExS W fm V s.heap (m ps)) s
structure SimSh (W:Wd)(n:Nat)(fm:Fm)(b:List Stmt)(m:M PFlow):Prop where
 go:SimSh.T W n fm b m
noncomputable instance {W:Wd} {n:Nat} {fm:Fm} {b:List Stmt} {m:M PFlow}:CoeFun (SimSh W n fm b m) (λU=>SimSh.T W n fm b m):=⟨SimSh.go⟩
theorem Lw {p:Pos}{k:Nat}{pos:Pos}{env:Env}{E:Value->Shared->Prop}(s:Shared)(Q:Value->Shared->Prop)(h:Q .none s):wpAny W.m A (do let v <- eval (.Constant .none k p) env;standAt pos;pure v) Q E s:=
 bg (bh (bg (wpAny_standAt (bh h))))
theorem Er {v:Expr}{k:Nat}{p pos:Pos}{b:List Stmt}{mx:M Txt}(hv:SimXc W n fm v mx):SimSh W n fm (.Raise (some v) (some (.Constant .none k p)) pos::b) (ac mx λt=>aK (.toml t)):=.mk λA V ps s a C I hh hav hat ns=>by
 have hA:A.handled=some (.ref a):=C.hdl.trans hh
 have hs0:=I.none
 refine wpAny_execs_cons ?_
 rw [arm_exec_Raise]
 refine bg (wpAny_standAt (GU (C:=W.H.toml) (pos:=pos) (k:=k) ?_ _ λs Q h=>Lw s Q h))
 refine bg (aW (hv A V ps s C I (Ad ns)) (λv s' z=>bg (wpAny_standAt (bh ?_))) λx s' z=>z.toS.bind)
 obtain ⟨e,t,ps',α',er,rfl,I',g,R,X⟩:=z
 obtain ⟨o,vs,ho,hd,h2⟩:=HdlAt.rel (own:=fm.tab) C.fm I hav C.fm.tabAv R hat
 have ne:a≠e:=λq=>by
  obtain ⟨o',vs',h1,_⟩:=hat
  rw [q,X.1] at h1;cases h1
 obtain ⟨I1,R1,X1⟩:=X.step C I' hs0 R.up (k:=3) (x:=.none) (by decide) (by decide)
 obtain ⟨I2,R2,X2⟩:=X1.step C I1 hs0 R1 (k:=4) (x:=.bool true) (by decide) (by decide)
 obtain ⟨I3,R3,X3⟩:=X2.step C I2 hs0 R2 (k:=2) (x:=.ref a) (by decide) (by decide)
 refine ⟨e,t,rfl,C.hd.tomlC.keeps I'.inv.base,X.made,.inr ⟨a,o,vs,hA,ne,?_,hd,h2,?_⟩⟩
 ·exact (get?_update_other _ _ (Ne.symm ne)).trans ((get?_update_other _ _ (Ne.symm ne)).trans ho)
 ·exact ⟨.toml t,ps',α',by rw [Ac er];rfl,I3,g,R3,X3.raised⟩
end
end Mi
end
section
open PySem PySem.W PyProof.Rows
set_option maxRecDepth 10000
namespace Mi
section
variable {W:Wd}{fm:Fm}{V α' α₁ w1:List Addr}{h h' h₁ start:Heap}{n:Nat}{A:Around}{ps ps':PS}{s s' c0:Shared}{H:Hd}{h₀:Heap}{own av av':List Addr}{y:Value}{x:Str}{t m:Txt}{C e:Addr}
theorem Lx {st:Stmt}{b:List Stmt}{m r:M PFlow}(hm:SimT W n fm st m)(hr:SimSh W n fm b r):SimSh W n fm (st::b) (aj m r):=.mk λA V ps s a C I hh hav hat ns=>by
 unfold aj at ns ⊢
 refine wpAny_execs_cons (aW (hm A V ps s C I (Ad ns)) (λf c0 q=>?_) λx c0 q=>q.bind)
 obtain ⟨f,o0,α₁,y0,w0,d0,u0,rf⟩:=q
 rw [Ac y0] at ns ⊢
 cases rf with
 | next=>exact aW (hr A α₁ o0 c0 a C w0 hh hav (HdlAt.rel C.fm I hav C.fm.ownAv u0 hat) ns) (λU U q=>q.after d0 u0) λU U q=>q.after d0 u0
 | brk=>exact ⟨.brk,o0,α₁,rfl,w0,d0,u0,.brk⟩
 | cont=>exact ⟨.cont,o0,α₁,rfl,w0,d0,u0,.cont⟩
 | ret r=>exact ⟨.ret _,o0,α₁,rfl,w0,d0,u0,.ret r⟩
theorem PR {t:Expr}{b:List Stmt}{pos:Pos}{mt:M Bool}{mb:M PFlow}(ht:SimB W n fm t mt)(hb:SimSh W n fm b mb):SimSh W n fm [.If t b [] pos] (ac mt λc=>if c then mb else ae .next):=.mk λA V ps s a C I hh hav hat ns=>by
 have key:wpAny W.m A (exec (.If t b [] pos) fm.env) (OkS W fm V s.heap (ac mt (λc=>if c then mb else ae .next) ps)) (ExS W fm V s.heap (ac mt (λc=>if c then mb else ae .next) ps)) s:=by
  refine wpAny_If (aW (ht A V ps s C I (Ad ns)) (λc c0 z=>?_) λx c0 z=>z.toS.bind)
  obtain ⟨o0,α₁,y0,w0,d0,u0⟩:=z
  rw [Ac y0] at ns ⊢
  cases c
  ·exact wpAny_execs_nil ⟨.next,o0,α₁,rfl,w0,d0,u0.up,.next⟩
  ·exact aW (hb A α₁ o0 c0 a C w0 hh hav (HdlAt.rel (own:=fm.tab) C.fm I hav C.fm.tabAv u0 hat) ns) (λU U q=>q.after d0 u0.up) λU U q=>q.after d0 u0.up
 refine wpAny_execs_cons (aW key (λf c0 z=>?_) λU U z=>z)
 obtain ⟨p,o0,α₁,y0,w0,d0,u0,rf⟩:=z
 cases rf with
 | next=>exact wpAny_execs_nil ⟨.next,o0,α₁,y0,w0,d0,u0,.next⟩
 | brk=>exact ⟨.brk,o0,α₁,y0,w0,d0,u0,.brk⟩
 | cont=>exact ⟨.cont,o0,α₁,y0,w0,d0,u0,.cont⟩
 | ret r=>exact ⟨.ret _,o0,α₁,y0,w0,d0,u0,.ret r⟩
theorem Fv {T:String}{t:Str}{i:Nat}{tp hp pos:Pos}{b:List Stmt}{b0:Stmt}{suite:List Stmt}{m hm:M PFlow}(F:StdX T)(ht:(t,NameKind.globalImplicit,i)∈fm.sc)(hf:t∈Bk)(hn:t≠"__name__")(hd:(t==("__debug__":Str))=false)(hbt:bootBuiltins t=some (.type T))
  (hb:SimS W n fm b m) (hh:∀ y,SimSh W n (fm.mark y) (b0::suite) hm):SimT W n fm (.Try b [.ExceptHandler (some (.Name t tp)) none (b0::suite) hp] [] [] pos) (aD (HQ T hm) m):=by
 refine H0 hb λA V ps s e x hm' w1 start C hs0 hlive I g R X hX ns=>?_
 cases e with
 | toml t=>exact (by cases hX)
 | std c=>
  by_cases hc:c=T
  ·subst hc
   have hX:some hm=some hm':=(if_pos rfl:(if c=c then some hm else none)=some hm).symm.trans hX
   obtain rfl:=aT hX
   have X':=X
   obtain ⟨a,oe,vs,rfl,ha,hcl,hrest⟩:=X
   refine wpAny_handleBy_cons (codeAny_handlers_test (Bo (C.mark (y:=.ref a)) I.mark hf hn hbt ht hd ?_)) (by intro q;cases q)
   refine wpAny_excMatches_type ⟨oe,ha,hcl⟩ F.exc F.nt F.self ?_
   refine codeAny_handlers_suite ?_
   refine CJ (C.mark (y:=.ref a)) I.mark R hs0 X' _ λv3 Y2 v4 Z4=>?_
   obtain ⟨a',oe',vs',ea,ha',hc',hd',hsz',hna',_,_,hctx⟩:=Z4
   cases ea
   have hav:a∉fm.av:=λq=>by have:=hlive a q;rw [hna'] at this;cases this
   refine aW (hh (.ref a) _ V ps _ a C.mark Y2 rfl hav ⟨oe',vs',ha',hd',hctx⟩ ns) (λf X4 z=>?_) λy X4 z=>?_
   ·exact OkS.unmark (y:=.ref a) (z.after g v4)
   ·exact Lr (y:=.ref a) C hs0 (z.after g v4)
  ·have hX:none=some hm':=(if_neg hc:(if c=T then some hm else none)=none).symm.trans hX
   exact (by cases hX)
end
section
variable {W:Wd}{fm:Fm}{V α' α₁ w1:List Addr}{h h' h₁ start:Heap}{n:Nat}{A:Around}{ps ps':PS}{s s' c0:Shared}{H:Hd}{h₀:Heap}
theorem GV {x:Txt}(ns:au x ps≠.stuck):x.length<=sizeLine/\au x ps = .ok (.str x) ps:=by
 unfold au at ns ⊢
 by_cases q:x.length<=big
 ·rw [if_pos q];exact ⟨BH▸q,rfl⟩
 ·rw [if_neg q] at ns;exact absurd rfl ns
theorem H6 {i:Int}(h:Ag i=true):i.natAbs.log2<1920:=by
 have:i.natAbs<1073741824:=aY h
 by_cases z:i.natAbs=0
 ·rw [z];decide
 ·have:=(Nat.log2_lt z).mpr (show i.natAbs<2 ^ 30 from this)
  exact la [_] [([2,3,0],[61])] ([2,3,0],[3841]) rfl this
theorem MK (i:Int):txt (BM i)=Str.ofString (toString i):=Bn _
set_option tactic.hygienic true in
theorem IR {v:Expr}{pos:Pos}{m:M PV}(hv:SimE W n fm v m):SimE W n fm (.FormattedValue v (-1) none pos) (ac m D7):=.mk λA V ps s C I ns=>by
 refine wpAny_FormattedValue_plain (Am.seq (hv A V ps s C I (Ad ns)) (λp v α₁ o0 c0 w0 d0 u0 W0 y0=>?_) λx c0 q=>q.bind)
 rw [Ac y0] at ns ⊢
 cases p <;> (try exact absurd rfl ns)
 ·rename_i i
  obtain ⟨t,rfl⟩:=W0.inv
  have ns':am (Ag i) (ae (PV.str (BM i))) o0≠.stuck:=ns
  obtain ⟨c,e⟩:=Aj ns'
  refine aW (Q:=OkE W fm α₁ c0.heap (ae (PV.str (BM i)) o0)) (E:=λU U=>False) ?_ (λU U q=>?_) λU U z=>z.elim
  ·refine wpAny_formatField_int (H6 c) ?_
   have:=OkE.same (t:=c0.toks+1+1) w0 (RepV.str (H:=W.H) (h₀:=W.h₀) (av:=fm.av) (V:=α₁) (h:=c0.heap) (BM i) (c0.toks+1))
   rw [MK] at this
   exact this
  ·have eq:D7 (.int i) o0=ae (PV.str (BM i)) o0:=e
   rw [eq];exact q.after d0 u0
 ·rename_i x
  obtain ⟨t,rfl⟩:=W0.inv
  have ns':au x o0≠.stuck:=ns
  obtain ⟨hl,e⟩:=GV ns'
  have eq:D7 (.str x) o0 = .ok (.str x) o0:=e
  rw [eq]
  exact wpAny_formatField_str ((OkE.same' w0 (.str x t)).after d0 u0) ((OkE.same (t:=c0.toks+1) w0 (.str x c0.toks)).after d0 u0) (by rw [AC];exact hl)
set_option tactic.hygienic true in
theorem GW {v:Expr}{pos:Pos}{m:M PV}(hv:SimE W n fm v m):SimE W n fm (.FormattedValue v 114 none pos) (ac m GB):=.mk λA V ps s C I ns=>by
 refine wpAny_FormattedValue_repr (Am.seq (hv A V ps s C I (Ad ns)) (λp v α₁ o0 c0 w0 d0 u0 W0 y0=>?_) λx c0 q=>q.bind)
 rw [Ac y0] at ns ⊢
 cases p <;> (try exact absurd rfl ns)
 rename_i x
 obtain ⟨t,rfl⟩:=W0.inv
 have ns':au (A3 x) o0≠.stuck:=ns
 obtain ⟨hl,e⟩:=GV ns'
 have eq:GB (.str x) o0 = .ok (.str (A3 x)) o0:=e
 have et:reprText (txt x)=txt (A3 x):=(Bn _).symm
 rw [eq]
 refine pyReprObj_str ?_ (by rw [et,AC];exact hl)
 rw [et]
 exact wpAny_formatField_str ((OkE.same (t:=c0.toks+1) w0 (.str (A3 x) _)).after d0 u0) ((OkE.same (t:=c0.toks+1+1) w0 (.str (A3 x) _)).after d0 u0) (by rw [AC];exact hl)
set_option tactic.hygienic true in
theorem PT {R0:R PV}(C:Ctx W fm n A):∀ {es:List Expr} {ms:List (M PV)},All2 (SimE W n fm) es ms->∀ (acc:Txt) (V:List Addr) (ps:PS) (s:Shared),InvS W fm V ps s->Grow w1 V start->Rel fm.stk fm.tab w1 start s.heap->R0=az ms acc ps->R0≠.stuck ->
  Joins W.m A (ExE W fm w1 start R0) (evalEach es fm.env) (txt acc) (λout c0=>out.length<=sizeLine/\OkE W fm w1 start R0 (.str out c0.toks) { c0 with toks:=c0.toks+1 }) s:=by
 intro _ _ hS
 induction hS with
 | nil=>
  intro acc V ps s I g x e ns
  have ns':au acc ps≠.stuck:=by rw [e] at ns;exact ns
  obtain ⟨hl,e'⟩:=GV ns'
  refine ⟨by rw [AC];exact hl,.str acc,ps,V,e.trans e',I.tok _,g,x,.str acc _⟩
 | @cons v m es ms q qs ih=>
  intro acc V ps s I g x e ns
  have eq:R0=ac m (λv=>match v with
   | .str t=>am ((acc++t).length<=big) (az ms (acc++t))
   | _=>aq) ps:=e
  show wpAny W.m A (eval v fm.env) _ _ s
  refine Am.seq (q A V ps s C I (Ad (eq▸ns))) (λp v α₁ o0 c0 w0 d0 u0 W0 y0=>?_) λy c0 z=>by rw [eq];exact z.bind.after g x
  rw [Ac y0] at eq
  cases p <;> (try exact absurd eq ns)
  rename_i t
  obtain ⟨tk,rfl⟩:=W0.inv
  have eq:R0=am ((acc++t).length<=big) (az ms (acc++t)) o0:=eq
  have ns':am ((acc++t).length<=big) (az ms (acc++t)) o0≠.stuck:=λz=>ns (eq.trans z)
  obtain ⟨c,e2⟩:=Aj ns'
  rw [decide_eq_true_eq] at c
  refine ⟨txt t,tk,rfl,by rw [DX,AC,<- BH];exact c,?_⟩
  rw [DX]
  exact ih (acc++t) α₁ o0 c0 w0 (g.trans d0 x) (x.trans u0 g.new) (eq.trans e2) ns
theorem Dr {e1 e2:Expr}{es:List Expr}{ms:List (M PV)}{pos:Pos}(q:All2 (SimE W n fm) (e1::e2::es) ms):SimE W n fm (.JoinedStr (e1::e2::es) pos) (az ms []):=.mk λA V ps s C I ns=>
 wpAny_JoinedStr (PT C q [] V ps s I (.refl ..) (.refl ..) rfl ns)
end
def UG:PV->M PV
 | .int i=>ae (.int (-i))
 | _=>aq
def C5 (z5 W5:CmpOp)(a b:PV)(mc:M PV):M PV:=
 ac (Ao z5 a b) λc=>ac (tst c) λt=>if t then ac mc λd=>Ao W5 b d else ae c
def JR {K:Type}(enc:K->PV)(ks:List K)(l:List PV):M PV:=ae (.dct (ks.map enc) l)
def SF (k:Str):PV:=.str k.cps.toList
section
variable {W:Wd}{fm:Fm}{V α' α₁ w1:List Addr}{h h' h₁ start:Heap}{n:Nat}{A:Around}{ps ps':PS}{s s' c0:Shared}{H:Hd}{h₀:Heap}
theorem SG {e:Expr}{pos:Pos}{m:M PV}(he:SimE W n fm e m):SimE W n fm (.UnaryOp .USub e pos) (ac m UG):=.mk λA V ps s C I ns=>by
 refine wpAny_UnaryOp (Am.seq (he A V ps s C I (Ad ns)) (λa va α₁ o0 c0 w0 d0 u0 ra y0=>?_) λx c0 q=>q.bind)
 rw [Ac y0] at ns ⊢
 cases a <;> (try exact absurd rfl ns)
 obtain ⟨_,rfl⟩:=ra.inv
 exact PySem.P.neg_int ((OkE.same w0 (.int _ _)).after d0 u0)
theorem Fw {l W0 i4:Expr}{z5 W5:CmpOp}{pos:Pos}{ml W7 X7:M PV}(hl:SimE W n fm l ml)(h1:SimE W n fm W0 W7)(h2:SimE W n fm i4 X7)(hm:lastMarks [z5,W5] [W0,i4]=false) :
  SimE W n fm (.Compare l [z5,W5] [W0,i4] pos) (ac ml λa=>ac W7 λb=>C5 z5 W5 a b X7):=.mk λA V ps s C I ns=>by
 refine Compare_chain (Am.seq (hl A V ps s C I (Ad ns)) (λa va α₁ o0 c0 w0 d0 u0 ra y0=>?_) λx c0 q=>q.bind) hm
 rw [Ac y0] at ns ⊢
 refine chain_link (Am.seq (h1 A α₁ o0 c0 C w0 (Ad ns)) (λb vb X0 Z1 z0 Y1 Y0 Z0 rb W1=>?_) λx c0 q=>q.bind.after d0 u0)
 rw [Ac W1] at ns ⊢
 unfold C5 at ns ⊢
 refine Am.seq (IG z5 A X0 Z1 z0 a b va vb C Y1 (w0.stays C Z0 Y0 ra) rb (Ad ns)) (λc vc j5 y4 u3 Y2 W3 Z3 rc Y3=>?_) λx c0 q=>(q.bind.after Y0 Z0).after d0 u0
 rw [Ac Y3] at ns ⊢
 obtain ⟨t,tb,et⟩:=Le (Ad ns)
 rw [Ac et] at ns ⊢
 have hv:=En rc tb
 subst hv
 refine wpAny_truthy_bool ?_
 cases t with
 | false=>
  simp only [false_eq_true,if_false]
  exact ((OkE.same' Y2 rc).after W3 Z3 |>.after Y0 Z0).after d0 u0
 | true=>
  simp only [if_true] at ns ⊢
  refine chain_last (Am.seq (h2 A j5 y4 u3 C Y2 (Ad ns)) (λd vd w5 v5 X4 l6 o5 y5 rd b7=>?_) λx c0 q=>((q.bind.after W3 Z3).after Y0 Z0).after d0 u0)
  rw [Ac b7] at ns ⊢
  have rb':=Y2.stays C y5 o5 (Y1.stays C Z3 W3 rb)
  exact aW (IG W5 A w5 v5 X4 b d vb vd C l6 rb' rd ns) (λU U q=>(((q.after o5 y5).after W3 Z3).after Y0 Z0).after d0 u0) (λU U q=>(((q.after o5 y5).after W3 Z3).after Y0 Z0).after d0 u0)
def PU (W:Wd)(fm:Fm){K:Type}[DecidableEq K](knd:KeyKind W.H.prog W.H.w K)(e:Expr)(k:K):Prop:=
 ∀ A s (Q:Value->Shared->Prop) (E:Value->Shared->Prop),(∀ v tk,knd.is k v=true->Q v { s with toks:=tk })->wpAny W.m A (eval e fm.env) Q E s
theorem Wb {i:Int}{k:Nat}{pos:Pos}:PU W fm (intKind _ _) (.Constant (.int i) k pos) i:=λA s Q E h=>wpAny_Constant_int (h _ _ (intKind_is _ _ _ _))
theorem keyS {x:Str}{k:Nat}{pos:Pos}:PU W fm (strKind _ _) (.Constant (.str x) k pos) x:=λA s Q E h=>wpAny_mkText (h _ _ (strKind_is _ _ _ _))
def Fm.more (fm:Fm)(D:Addr):Fm:={ fm with av:=D::fm.av }
inductive SimD (W:Wd)(n:Nat)(fm:Fm){K:Type}[DecidableEq K](knd:KeyKind W.H.prog W.H.w K):List (Option Expr)->List Expr->List K->List (M PV)->Prop
 | nil:SimD W n fm knd [] [] [] []
 | cons {ke ve:Expr} {k:K} {m:M PV} {kes:List (Option Expr)} {ves:List Expr} {ks:List K} {ms:List (M PV)} (hk:∀ D,PU W (fm.more D) knd ke k) (hv:∀ D,SimE W n (fm.more D) ve m) (r:SimD W n fm knd kes ves ks ms):SimD W n fm knd (some ke::kes) (ve::ves) (k::ks) (m::ms)
variable {K:Type}[DecidableEq K]{knd:KeyKind W.H.prog W.H.w K}
theorem SimD.facts:∀ {kes:List (Option Expr)} {ves:List Expr} {ks:List K} {ms:List (M PV)},SimD W n fm knd kes ves ks ms->kes.all (·.isSome)=true/\kes.length=ves.length/\kes.length=ks.length:=by
 intro _ _ _ _ hS
 induction hS with
 | nil=>

  exact ⟨rfl,rfl,rfl⟩
 | @cons ke ve k m kes ves ks ms hk hv r ih=>

  obtain ⟨h1,h2,h3⟩:=ih
  exact ⟨by simp [h1],by simp [h2],by simp [h3]⟩
theorem PW {pos:Pos}{D:Addr}:∀ {kes:List (Option Expr)} {ves:List Expr} {ks:List K} {ms:List (M PV)},SimD W n fm knd kes ves ks ms->∀ A V ps s,Ctx W (fm.more D) n A->InvS W (fm.more D) V ps s->ag ms ps≠.stuck ->
  wpAny W.m A (evalPairs (pairTrees kes ves (fm.more D).env pos)) (λvs s'=>OkL W (fm.more D) V s.heap (ag ms ps) (vs.map (·.2)) s'/\Carries knd vs (ks.zip (vs.map (·.2)))/\vs.length=ks.length) (ExE W (fm.more D) V s.heap (ag ms ps)) s:=by
 intro _ _ _ _ hS
 induction hS with
 | nil=>
  intro A V ps s C I ns
  exact pairTrees_nil_walk ⟨⟨[],ps,V,rfl,I,.refl ..,.refl ..,.nil⟩,trivial,rfl⟩
 | @cons ke ve k m kes ves ks ms hk hv r ih=>
  intro A V ps s C I ns
  have ns':ac m (λv=>ac (ag ms) λvs=>ae (v::vs)) ps≠.stuck:=ns
  have eq:ag (m::ms) ps=ac m (λv=>ac (ag ms) λvs=>ae (v::vs)) ps:=rfl
  rw [eq]
  refine pairTrees_cons_walk (hk D A s _ _ λkv tk hkv=>?_)
  refine Am.seq (hv D A V ps { s with toks:=tk } C (I.tok tk) (Ad ns')) (λp v α₁ o0 c0 w0 d0 u0 W0 y0=>?_) λx c0 q=>q.bind
  rw [Ac y0] at ns' ⊢
  refine aW (ih A α₁ o0 c0 C w0 (Ad ns')) (λvs z0 q=>?_) λx z0 q=>q.bind.after d0 u0
  obtain ⟨⟨l,Z1,X0,W1,Y1,Y0,Z0,i4⟩,hc,hl⟩:=q
  rw [Ac W1]
  exact ⟨⟨p::l,Z1,X0,rfl,Y1,d0.trans Y0 u0,u0.trans Z0 d0.new,.cons (w0.stays C Z0 Y0 W0) i4⟩,⟨hkv,rfl,hc⟩,by simp [hl]⟩
theorem Ly (acc:List (K × Value))(k:K)(v:Value)(hn:k∉acc.map (·.1)):stored acc k v=acc++[(k,v)]:=by
 unfold stored
 rw [if_neg]
 intro q
 obtain ⟨kv,h1,h2⟩:=any_eq_true.mp q
 exact hn (mem_map.mpr ⟨kv,h1,by simpa using h2⟩)
theorem Lz (kvs:List (K × Value)):∀ (acc:List (K × Value)),((acc++kvs).map (·.1)).Nodup->merged acc kvs=acc++kvs:=by
 induction kvs with
 | nil=>intro acc _;simp [merged]
 | cons p kvs ih=>
  obtain ⟨k,v⟩:=p
  intro acc h
  have hk:k∉acc.map (·.1):=by
   intro q
   rw [map_append,nodup_append] at h
   exact h.2.2 k q k (by simp) rfl
  have:=ih (acc++[(k,v)]) (by simpa using h)
  show merged (stored acc k v) kvs=_
  rw [Ly acc k v hk,this];simp
theorem NM (enc:K->PV)(he:∀ {V:List Addr} {h:Heap} {k:K} {v:Value},knd.is k v=true->W.rep fm V h (enc k) v){ks:List K}:∀ {es:List DictEntry} {l:List PV} {vs:List Value},Pairs knd es (ks.zip vs)->ks.length=vs.length->RepL W.H W.h₀ fm.av V h l vs ->
  RepL W.H W.h₀ fm.av V h (ks.map enc) (es.map (·.key))/\RepL W.H W.h₀ fm.av V h l (es.map (·.val)):=by
 induction ks with
 | nil=>
  intro es l vs p hl r
  cases eq_nil_of_length_eq_zero hl.symm
  cases p;cases r;exact ⟨.nil,.nil⟩
 | cons k ks ih=>
  intro es l vs p hl r
  cases vs with
  | nil=>cases hl
  | cons v vs=>
   cases p with
   | cons h1 h2 p=>
    obtain ⟨_,_,rfl,r,rs⟩:=r.inv'
    obtain ⟨q1,q2⟩:=ih p (Nat.succ.inj hl) rs
    exact ⟨.cons (he h1) q1,.cons (by have h2:_=v:=h2;subst h2;exact r) q2⟩
theorem SH {ks:List K}:∀ {vs:List Value},ks.length=vs.length->(ks.zip vs).map (·.1)=ks:=by
 induction ks with
 | nil=>exact λU=>rfl
 | cons k ks ih=>
  intro vs h
  cases vs with
  | nil=>cases h
  | cons v vs=>exact congrArg (k::·) (ih (Nat.succ.inj h))
theorem Ctx.more {D:Addr}(C:Ctx W fm n A)(hD:W.h₀.get? D=Option.none):Ctx W (fm.more D) n A:=
 ⟨C.frames,C.depth,C.units,C.hdl,C.tab,⟨C.fm.kind,C.fm.glob,C.fm.bi,mem_cons_of_mem _ C.fm.locAv,C.fm.locOwn,λa h=>mem_cons_of_mem _ (C.fm.ownAv a h),λa h=>mem_cons_of_mem _ (C.fm.frsAv a h),λa h=>by
  rcases mem_cons.mp h with q | q
  ·rw [q];exact hD
  ·exact C.fm.fresh a q,C.fm.kinds,C.fm.once,C.fm.cellOwn,C.fm.cellApart,C.fm.frame⟩,C.hd⟩
theorem InvS.more {D:Addr}(I:InvS W fm V ps s)(nD:s.heap.get? D=Option.none)(x:Rel fm.stk fm.tab V s.heap s'.heap)(J:InvS W fm V ps s')(hs:(s'.heap.get? D).isSome=true)(kp:∀ b o,s.heap.get? b=some o->s'.heap.get? b=some o):InvS W (fm.more D) V ps s':=by
 have st:∀ a∈(fm.more D).av,a∈fm.av\/s.heap.get? a=Option.none:=λa h=>by
  rcases mem_cons.mp h with q | q
  ·rw [q];exact .inr nD
  ·exact .inl q
 have nα:D∉V:=λz=>by
  obtain ⟨ws,o,e,_⟩:=I.inv.lists.isList z
  rw [nD] at e;cases e
 have pre:V <+: V:=prefix_refl _
 have rep:∀ {p v},OptRep W.H W.h₀ fm.av V s.heap p v->OptRep W.H W.h₀ (fm.more D).av V s'.heap p v:=λr=>r.map λr=>(r.strong st).keeps kp pre
 refine ⟨⟨J.inv.base,?_,λx k i hx hk=>?_,⟨I.inv.lists.len,λi l e=>?_,I.inv.lists.nodup,I.inv.lists.fresh,λa m q=>?_⟩,λa m=>?_,J.inv.frames,J.inv.tabs⟩,J.gens,J.os⟩
 ·obtain ⟨m,n1,n2⟩:=I.inv.loc
  exact ⟨m,n1.keeps kp,λx i hm=>rep (n2 x i hm)⟩
 ·obtain ⟨c,v,q1,q2,q3,⟨o,q4,q4'⟩,q5⟩:=I.inv.cel x k i hx hk
  exact ⟨c,v,q1,mem_cons_of_mem _ q2,q3,⟨o,kp _ _ q4,q4'⟩,rep q5⟩
 ·obtain ⟨a,vs,h1,h2,h3⟩:=I.inv.lists.at_ i l e
  exact ⟨a,vs,h1,h2.at (kp _),(h3.strong st).keeps kp pre⟩
 ·rcases mem_cons.mp q with q | q
  ·exact nα (q▸m)
  ·exact I.inv.lists.apart a m q
 ·rcases mem_cons.mp m with q | q
  ·rw [q];exact hs
  ·exact J.inv.live a q
theorem InvS.less {D:Addr}(I:InvS W (fm.more D) V ps s)(hD:∀ v,¬ s.heap.IsCell D v):InvS W fm V ps s:=by
 have wk:∀ a,a∈fm.av->a∈(fm.more D).av:=λa m=>mem_cons_of_mem _ m
 have rep:∀ {p v},OptRep W.H W.h₀ (fm.more D).av V s.heap p v->OptRep W.H W.h₀ fm.av V s.heap p v:=λr=>r.map λr=>r.weak wk
 refine ⟨⟨I.inv.base,?_,λx k i hx hk=>?_,⟨I.inv.lists.len,λi l e=>?_,I.inv.lists.nodup,I.inv.lists.fresh,λa m q=>I.inv.lists.apart a m (wk a q)⟩,λa m=>I.inv.live a (wk a m),I.inv.frames,I.inv.tabs⟩,I.gens,I.os⟩
 ·obtain ⟨m,n1,n2⟩:=I.inv.loc
  exact ⟨m,n1,λx i hm=>rep (n2 x i hm)⟩
 ·obtain ⟨c,v,q1,q2,q3,q4,q5⟩:=I.inv.cel x k i hx hk
  refine ⟨c,v,q1,?_,q3,q4,rep q5⟩
  rcases mem_cons.mp q2 with z | z
  ·exact absurd q4 (z▸hD v)
  ·exact z
 ·obtain ⟨a,vs,h1,h2,h3⟩:=I.inv.lists.at_ i l e
  exact ⟨a,vs,h1,h2,h3.weak wk⟩
theorem ExE.less {D:Addr}{β:Type}{r:R β}{x:Value}(hD:∀ v,¬ s'.heap.IsCell D v)(q:ExE W (fm.more D) V h r x s'):ExE W fm V h r x s':=by
 obtain ⟨e,ps',α',er,I,g,R,X⟩:=q
 exact ⟨e,ps',α',er,I.less hD,g,R,X⟩
theorem JS (enc:K->PV)(he:∀ {V:List Addr} {h:Heap} {k:K} {v:Value},knd.is k v=true->W.rep fm V h (enc k) v)
  (fin:∀ {ks vs:List PV} {a:Addr} {o:Obj} {es:Array DictEntry} {ep:Nat} {V:List Addr} {h:Heap},(a∉fm.av/\(a==sysModules)=false)->h.get? a=some o->o.ExactDict->o.data = .dict es ep->KeysOf knd es ->
   RepL W.H W.h₀ fm.av V h ks (es.toList.map (·.key))->RepL W.H W.h₀ fm.av V h vs (es.toList.map (·.val))->W.rep fm V h (.dct ks vs) (.ref a))
  {kes:List (Option Expr)} {ves:List Expr} {ks:List K} {ms:List (M PV)} {pos:Pos} (q:SimD W n fm knd kes ves ks ms) (hn:ks.Nodup) (h0:kes≠[]) (hlen:kes.length<=15) :
  SimE W n fm (.Dict kes ves pos) (ac (ag ms) (JR enc ks)):=.mk λA V ps s C I ns=>by
 obtain ⟨f1,f2,f3⟩:=q.facts
 have nD:s.heap.get? s.heap.objs.size=none:=AJ _
 have navD:s.heap.objs.size∉fm.av:=Bh I nD
 have nα:s.heap.objs.size∉V:=λz=>by
  obtain ⟨ws,o,e,_⟩:=I.inv.lists.isList z
  rw [nD] at e;cases e
 have kp:∀ b o,s.heap.get? b=some o->(s.heap.push { cls:=.type "dict",data:=.dict #[] }).get? b=some o:=λb o e=>get?_push_of_some _ e
 have nDt:s.heap.objs.size∉fm.tab:=λm=>navD (C.fm.tabAv _ m)
 have P:InvS W (fm.more s.heap.objs.size) V ps { s with heap:=s.heap.push { cls:=.type "dict",data:=.dict #[] } }:=I.more nD (.of_keeps kp) (Bs I _) (by rw [get?_push_size _ rfl];rfl) kp
 refine wpAny_Dict_walk (knd:=knd) f1 f2 h0 hlen ?_
 refine aW (PW (D:=s.heap.objs.size) q A V ps _ (C.more (I.none _ nD)) P (Ad ns)) (λvs c0 z=>?_) λx c0 z=>?_
 rotate_left
 ·have z2:=z
  obtain ⟨_,_,_,_,_,_,Rz,_⟩:=z2
  refine ExE.less (λv hv=>?_) (z.bind.after (.refl ..) (.of_keeps kp))
  have eD:=Rz.keep _ _ (get?_push_size _ rfl) (λz=>navD (C.fm.frsAv _ z)) nDt nα
  obtain ⟨o,e1,e2⟩:=hv
  rw [eD] at e1;cases e1;cases e2
 obtain ⟨⟨l,o0,α₁,y0,w0,d0,u0,W0⟩,hc,hl⟩:=z
 rw [Ac y0]
 have hl2:ks.length=(vs.map (·.2)).length:=by rw [length_map,hl]
 have keepD:∀ o,(s.heap.push { cls:=.type "dict",data:=.dict #[] }).get? s.heap.objs.size=some o->c0.heap.get? s.heap.objs.size=some o:=λo e=>
  u0.keep _ o e (λz=>navD (C.fm.frsAv _ z)) nDt nα
 refine ⟨ks.zip (vs.map (·.2)),hc,(Heap.DictOf.new s.heap).at keepD,λh' hd hs=>?_⟩
 rw [Lz _ [] (by rw [nil_append,SH hl2];exact hn),nil_append] at hd
 obtain ⟨o,es,ep,ho,hx,hdt,hk,hp,_⟩:=hd
 have nsys:(s.heap.objs.size==sysModules)=false:=by
  refine aX.mpr λz=>?_
  obtain ⟨o,eo⟩:=ba.mp C.hd.sysm
  have:=I.inv.base _ _ eo
  rw [<- z,nD] at this;cases this
 have mem:s.heap.objs.size∈(fm.more s.heap.objs.size).av:=mem_cons_self ..
 have hα:∀ b∈α₁,b≠s.heap.objs.size:=λb m q=>w0.inv.lists.apart b m (q▸mem)
 have J:InvS W (fm.more s.heap.objs.size) α₁ o0 { c0 with heap:=h',toks:=c0.toks+vs.length }:=by
  refine ⟨w0.inv.mine (C.more (I.none _ nD)).fm hs mem (by rw [ho];rfl) (λo' eo=>⟨(λvs q=>by rw [keepD _ (get?_push_size _ rfl)] at eo;cases eo;cases q),o,ho,λvs q=>by rw [hdt] at q;cases q⟩) rfl ?_ λx k i hx hkk=>?_,w0.gens,w0.os⟩
  ·obtain ⟨m,⟨oL,eL,epL,n1,n2,n3⟩,nr⟩:=w0.inv.loc
   have nL:fm.env.locals≠s.heap.objs.size:=λq=>navD (q▸C.fm.locAv)
   exact ⟨m,⟨oL,eL,epL,(hs.2 _ nL).trans n1,n2,n3⟩,λx i hm=>(nr x i hm).same hs mem hα⟩
  ·obtain ⟨c,v,q1,q2,q3,⟨oc,q4,q4'⟩,q5⟩:=w0.inv.cel x k i hx hkk
   refine ⟨c,v,q1,q2,q3,⟨oc,(hs.2 c λq=>?_).trans q4,q4'⟩,q5.same hs mem hα⟩
   have eD:=keepD _ (get?_push_size _ rfl)
   rw [q,eD] at q4;cases q4;cases q4'
 have x2:Rel fm.stk fm.tab V s.heap h':=by
  have x0:=(Rel.of_keeps (stk:=fm.stk) (own:=fm.tab) (V:=V) kp).trans u0 λa m q=>absurd m q
  exact ⟨λb o e m1 m2 m3=>(hs.2 b λq=>by rw [q,nD] at e;cases e).trans (x0.keep b o e m1 m2 m3),λb o e m1 m2 m3=>by
   obtain ⟨sl,e'⟩:=x0.slot b o e m1 m2 m3
   exact ⟨sl,(hs.2 b λq=>by rw [q,nD] at e;cases e).trans e'⟩,λb e=>by
   by_cases q:b=s.heap.objs.size
   ·rw [q];exact nD
   ·exact x0.live b ((hs.2 b q).symm.trans e)⟩
 obtain ⟨q1,q2⟩:=NM (fm:=fm) enc he hp hl2 (RepL.weak (λa m=>mem_cons_of_mem _ m) (RepL.same (fm:=fm.more s.heap.objs.size) hs mem hα W0))
 exact ⟨.dct (ks.map enc) l,o0,α₁,rfl,J.less (λv hv=>by obtain ⟨oc,e1,e2⟩:=hv;rw [ho] at e1;cases e1;rw [hdt] at e2;cases e2),⟨d0.pre,λa m q=>Rel.live (Rel.of_keeps (stk:=fm.stk) (own:=fm.tab) (V:=V) kp) a (d0.new a m q)⟩,x2,fin ⟨navD,nsys⟩ ho hx hdt hk q1 q2⟩
theorem NN {kes:List (Option Expr)}{ves:List Expr}{ks:List Int}{ms:List (M PV)}{pos:Pos}(q:SimD W n fm (intKind _ _) kes ves ks ms)(hn:ks.Nodup)(h0:kes≠[])(hlen:kes.length<=15) :
  SimE W n fm (.Dict kes ves pos) (ac (ag ms) (JR .int ks)):=
 JS .int (λh=>by obtain ⟨t,rfl⟩:=Value.isInt_shape h;exact .int _ t) (λh1 h2 h3 h4 h5 h6 h7=>.dct h1 h2 h3 h4 (.inr h5) h6 h7) q hn h0 hlen
theorem NO {kes:List (Option Expr)}{ves:List Expr}{ks:List Str}{ms:List (M PV)}{pos:Pos}(q:SimD W n fm (strKind _ _) kes ves ks ms)(hn:ks.Nodup)(h0:kes≠[])(hlen:kes.length<=15) :
  SimE W n fm (.Dict kes ves pos) (ac (ag ms) (JR SF ks)):=
 JS SF (λ{V h k v} r=>by obtain ⟨t,rfl⟩:=Value.isStrOf_shape r;have:=RepV.str (H:=W.H) (h₀:=W.h₀) (av:=fm.av) (V:=V) (h:=h) k.cps.toList t;rwa [Bn] at this) (λh1 h2 h3 h4 h5 h6 h7=>.dct h1 h2 h3 h4 (.inl h5) h6 h7) q hn h0 hlen
end
def aB (js:List Nat)(m:M PV):M PV:=λs=>match m ⟨λi=>if i∈js then none else s.loc i,s.st⟩ with
 | .ok v s'=>.ok v ⟨s.loc,s'.st⟩
 | _=>.stuck
def HA (cells:List (Str × Addr)):List (Str × NameKind)->List (Str × Addr)->List (Str × Addr)
 | [],acc=>acc
 | (x,k)::r,acc=>HA cells r (if k==.free then (x,(cells.lookup x).getD 0)::acc else acc)
theorem SJ {env:Env}:∀ (names:List (Str × NameKind)) (acc:List (Str × Addr)),(∀ y∈names,y.2 = .free->(env.cells.lookup y.1).isSome=true) ->
  (forIn names acc λ(x:Str × NameKind) (cs:List (Str × Addr))=>(if (x.2==.free)=true then do let c <- cellOf env x.1;pure (ForInStep.yield ((x.1,c)::cs)) else pure (ForInStep.yield cs):Sem _))=pure (HA env.cells names acc):=by
 intro names
 induction names with
 | nil=>intro acc _;rw [forIn_nil];rfl
 | cons xk r ih=>
  intro acc h
  obtain ⟨x,k⟩:=xk
  rw [forIn_cons]
  by_cases q:k = .free
  ·subst q
   obtain ⟨c,hc⟩:=ba.mp (h (x,.free) mem_cons_self rfl)
   simp only at hc
   have e:cellOf env x=pure c:=by unfold cellOf;rw [hc]
   simp only [beq_self_eq_true,if_true,e,pure_bind]
   rw [ih _ λy hy=>h y (mem_cons_of_mem _ hy)]
   show _=pure (HA env.cells r (if (NameKind.free==NameKind.free)=true then (x,(env.cells.lookup x).getD 0)::acc else acc))
   rw [hc];rfl
  ·have:(k==NameKind.free)=false:=by simpa using q
   simp only [this,false_eq_true,if_false,pure_bind]
   rw [ih _ λy hy=>h y (mem_cons_of_mem _ hy)]
   show _=pure (HA env.cells r (if (k==.free)=true then (x,(env.cells.lookup x).getD 0)::acc else acc))
   rw [this];rfl
theorem HB {env:Env}{scope:Scope}(h:∀ y∈scope.names,y.2 = .free->(env.cells.lookup y.1).isSome=true):closureFor scope env=pure (HA env.cells scope.names []):=by
 have:=SJ (env:=env) scope.names [] h
 unfold closureFor
 show (forIn scope.names [] _ >>= _)=_
 have e:∀ (f g:Str × NameKind->List (Str × Addr)->Sem (ForInStep (List (Str × Addr)))),(∀ x cs,f x cs=g x cs)->(forIn scope.names [] f)=forIn scope.names [] g:=λf g h=>by
  have:f=g:=funext λx=>funext λcs=>h x cs
  rw [this]
 rw [e _ (λ(x:Str × NameKind) (cs:List (Str × Addr))=>(if (x.2==.free)=true then do let c <- cellOf env x.1;pure (ForInStep.yield ((x.1,c)::cs)) else pure (ForInStep.yield cs):Sem _)) (λx cs=>rfl),this]
 rfl
theorem GX {cells:List (Str × Addr)}{x:Str}{c:Addr}:∀ {names:List (Str × NameKind)} {acc:List (Str × Addr)},(∀ y∈names,y.2 = .free->(cells.lookup y.1).isSome=true)->(HA cells names acc).lookup x=some c ->
  ((x,NameKind.free)∈names/\cells.lookup x=some c)\/acc.lookup x=some c:=by
 intro names
 induction names with
 | nil=>exact λU h=>.inr h
 | cons yk r ih=>
  intro acc hs h
  obtain ⟨y,k⟩:=yk
  have ih:=ih (λy hy=>hs y (mem_cons_of_mem _ hy)) h
  rcases ih with ⟨h1,h2⟩ | ih
  ·exact .inl ⟨mem_cons_of_mem _ h1,h2⟩
  ·by_cases q:k = .free
   ·subst q
    simp only [beq_self_eq_true,if_true,lookup_cons] at ih
    by_cases z:x=y
    ·subst z
     simp only [beq_self_eq_true] at ih
     obtain ⟨c',hc'⟩:=ba.mp (hs (x,.free) mem_cons_self rfl)
     simp only at hc'
     rw [hc'] at ih
     simp only [Option.getD_some] at ih
     exact .inl ⟨mem_cons_self,by rw [hc',<- ih]⟩
    ·rw [show (x==y)=false from by simpa using z] at ih
     exact .inr ih
   ·have:(k==NameKind.free)=false:=by simpa using q
    simp only [this,false_eq_true,if_false] at ih
    exact .inr ih
theorem PY {cells:List (Str × Addr)}{x:Str}:∀ {names:List (Str × NameKind)} {acc:List (Str × Addr)},((x,NameKind.free)∈names\/(acc.lookup x).isSome=true)->((HA cells names acc).lookup x).isSome=true:=by
 intro names
 induction names with
 | nil=>
  intro acc h
  rcases h with h | h
  ·cases h
  ·exact h
 | cons yk r ih=>
  intro acc h
  obtain ⟨y,k⟩:=yk
  refine ih ?_
  by_cases q:k = .free
  ·subst q
   simp only [beq_self_eq_true,if_true,lookup_cons]
   by_cases z:x=y
   ·subst z;right;simp
   ·rw [show (x==y)=false from by simpa using z]
    rcases h with h | h
    ·rcases mem_cons.mp h with h | h
     ·injection h with h;exact absurd h z
     ·exact .inl h
    ·exact .inr h
  ·have:(k==NameKind.free)=false:=by simpa using q
   simp only [this,false_eq_true,if_false]
   rcases h with h | h
   ·rcases mem_cons.mp h with h | h
    ·injection h with _ h;exact absurd h.symm q
    ·exact .inl h
   ·exact .inr h
theorem GY {env:Env}{x:Str}{k:NameKind}{names:List (Str × NameKind)}:names.lookup x=some k ->
  (names.map λ(n,k)=>if (k==NameKind.free&&env.scope.kind==.function&&env.kindOf n==some .cell) then (n,NameKind.cell) else (n,k)).lookup x=some k \/
   (k = .free/\(names.map λ(n,k)=>if (k==NameKind.free&&env.scope.kind==.function&&env.kindOf n==some .cell) then (n,NameKind.cell) else (n,k)).lookup x=some .cell):=by
 induction names with
 | nil=>intro h;simp at h
 | cons p r ih=>
  obtain ⟨y,k'⟩:=p
  intro h
  show lookup x ((if (k'==NameKind.free&&env.scope.kind==.function&&env.kindOf y==some .cell)=true then (y,NameKind.cell) else (y,k'))::_)=_\/(_/\lookup x ((if (k'==NameKind.free&&env.scope.kind==.function&&env.kindOf y==some .cell)=true then (y,NameKind.cell) else (y,k'))::_)=_)
  cases hx:x==y with
  | true=>
   simp only [lookup_cons,hx] at h
   cases (h)
   by_cases hc:(k==NameKind.free&&env.scope.kind==.function&&env.kindOf y==some .cell)=true
   ·rw [if_pos hc]
    simp only [and_eq_true,beq_iff_eq] at hc
    exact .inr ⟨hc.1.1,by simp [lookup_cons,hx]⟩
   ·rw [if_neg hc]
    exact .inl (by simp [lookup_cons,hx])
  | false=>
   simp only [lookup_cons,hx] at h
   by_cases hc:(k'==NameKind.free&&env.scope.kind==.function&&env.kindOf y==some .cell)=true
   ·rw [if_pos hc];simp only [lookup_cons,hx];exact ih h
   ·rw [if_neg hc];simp only [lookup_cons,hx];exact ih h
structure Ci (osc:List (Str × NameKind × Nat))(scope:Scope)(sc:List (Str × NameKind × Nat))(js:List Nat):Prop where
 kind:scope.kind = .function
 noCell:∀ y∈scope.names,y.2≠.cell
 names:∀ y∈scope.names,y.2 = .local->scope.names.lookup y.1=some .local
 free:∀ y∈scope.names,y.2 = .free->∃ k i,(y.1,k,i)∈osc/\(k = .cell\/k = .free)
 look:∀ x k i,(x,k,i)∈sc->k≠.cell/\scope.names.lookup x=some k
 cap:∀ x i,(x,NameKind.free,i)∈sc->∃ k,(x,k,i)∈osc/\(k = .cell\/k = .free)
 loc:∀ x k i,(x,k,i)∈sc->(k = .local↔i∈js)
 once:∀ x k i y k' j,(x,k,i)∈sc->(y,k',j)∈sc->(i=j↔x=y)
def ciB (osc:List (Str × NameKind × Nat))(scope:Scope)(sc:List (Str × NameKind × Nat))(js:List Nat):Bool:=
 decide (scope.kind = .function)&&scope.names.all (λy=>decide (y.2≠.cell))&&scope.names.all (λy=>!decide (y.2 = .local)||decide (scope.names.lookup y.1=some .local)) &&
 scope.names.all (λy=>!decide (y.2 = .free)||osc.any λe=>decide (e.1=y.1)&&(decide (e.2.1 = .cell)||decide (e.2.1 = .free))) &&
 sc.all (λe=>decide (e.2.1≠.cell)&&decide (scope.names.lookup e.1=some e.2.1)) &&
 sc.all (λe=>!decide (e.2.1 = .free)||osc.any λo=>decide (o.1=e.1)&&decide (o.2.2=e.2.2)&&(decide (o.2.1 = .cell)||decide (o.2.1 = .free))) &&
 sc.all (λe=>decide (e.2.1 = .local)==decide (e.2.2∈js)) &&
 sc.all (λe=>sc.all λo=>decide (e.2.2=o.2.2)==decide (e.1=o.1))
theorem Ci.of {osc:List (Str × NameKind × Nat)}{scope:Scope}{sc:List (Str × NameKind × Nat)}{js:List Nat}(h:ciB osc scope sc js=true):Ci osc scope sc js:=by
 unfold ciB at h
 simp only [and_eq_true,all_eq_true,decide_eq_true_eq,or_eq_true,not_eq_true',decide_eq_false_iff_not,any_eq_true,beq_iff_eq] at h
 obtain ⟨⟨⟨⟨⟨⟨⟨h1,h2⟩,h3⟩,h4⟩,h5⟩,h6⟩,h7⟩,h8⟩:=h
 refine ⟨h1,h2,λy hy q=>(h3 y hy).resolve_left λz=>z q,λy hy q=>?_,λx k i hm=>h5 _ hm,λx i hm=>?_,λx k i hm=>?_,λx k i y k' j hm hm'=>?_⟩
 ·obtain ⟨⟨x,k,i⟩,e1,e2,e3⟩:=(h4 y hy).resolve_left λz=>z q
  exact ⟨k,i,by have e2:x=y.1:=e2;rw [<- e2];exact e1,e3⟩
 ·obtain ⟨⟨x',k,i'⟩,e1,⟨e2,e2'⟩,e3⟩:=(h6 _ hm).resolve_left λz=>z rfl
  have e2:x'=x:=e2
  have e2':i'=i:=e2'
  subst e2 e2'
  exact ⟨k,e1,e3⟩
 ·have:=h7 _ hm
  exact decide_eq_decide.mp this
 ·have:=h8 _ hm _ hm'
  exact decide_eq_decide.mp this
section
variable {W:Wd}{fm:Fm}{V α' α₁ w1:List Addr}{h h' h₁ w2 v3 start:Heap}{n:Nat}{A:Around}{ps ps':PS}{s s' c0:Shared}{H:Hd}{h₀:Heap}{own:List Addr}
theorem PZ:∀ {es:List Expr} {ms:List (M Bool)},All2 (SimB W n fm) es ms->∀ A V ps s,Ctx W fm n A->InvS W fm V ps s->AM .And ms ps≠.stuck ->
  wpAny W.m A (forIn es true λc r=>if r=true then do let ok <- isTrue c fm.env (eval c fm.env);pure (ForInStep.yield ok) else pure (ForInStep.yield r)) (OkB W fm V s.heap (AM .And ms ps)) (ExE W fm V s.heap (AM .And ms ps)) s:=by
 intro _ _ hS
 induction hS with
 | nil=>
  intro A V ps s C I ns
  rw [forIn_nil]
  exact bh (.same I)
 | @cons e m es ms q qs ih=>
  intro A V ps s C I ns
  unfold AM at ns ⊢
  rw [forIn_cons]
  refine bg ?_
  simp only [if_true]
  refine bg (aW (q A V ps s C I (Ad ns)) (λb c0 z=>?_) (λU U z=>z.bind))
  obtain ⟨o0,α₁,y0,w0,d0,u0⟩:=z
  rw [Ac y0] at ns ⊢
  refine bh ?_
  cases b with
  | true=>exact aW (ih A α₁ o0 c0 C w0 ns) (λU U q=>q.after d0 u0) (λU U q=>q.after d0 u0)
  | false=>
   have go:∀ es:List Expr,(forIn es false λc r=>if r=true then do let ok <- isTrue c fm.env (eval c fm.env);pure (ForInStep.yield ok) else pure (ForInStep.yield r):Sem Bool)=pure false:=by
    intro es
    induction es with
    | nil=>rw [forIn_nil]
    | cons e es ih=>
     rw [forIn_cons]
     simp only [false_eq_true,if_false,pure_bind]
     exact ih
   show wpAny W.m A (forIn es false _) _ _ _
   rw [go]
   exact bh ⟨o0,α₁,rfl,w0,d0,u0⟩
theorem Rel.fresh {stk:List Env}{tab:List Addr}(x:Rel stk tab V h₁ w2)(y:Rel stk own α' w2 v3)(n:∀ a∈α',a∉V->h₁.get? a=none)(f:∀ a∈own,a∈tab\/h₁.get? a=none):Rel stk tab V h₁ v3:=by
 have q:∀ b o,h₁.get? b=some o->b∉V->b∉α':=λb o e h1 h2=>by rw [n b h2 h1] at e;cases e
 have q2:∀ b o,h₁.get? b=some o->b∉tab->b∉own:=λb o e nt h2=>by rw [(f b h2).resolve_left nt] at e;cases e
 refine ⟨λb o e h1 h2 h3=>y.keep b o (x.keep b o e h1 h2 h3) h1 (q2 b o e h2) (q b o e h3),λb o e h1 h2 h3=>?_,λb e=>x.live b (y.live b e)⟩
 obtain ⟨sl,W1⟩:=x.slot b o e h1 h2 h3
 obtain ⟨sl',Y3⟩:=y.slot b _ W1 h1 (q2 b o e h2) (q b o e h3)
 exact ⟨sl',Y3⟩
theorem InvS.poke (F:FmOk W.h₀ fm)(I:InvS W fm V ps s){a:Addr}(m:a∈fm.av)(nl:a≠fm.env.locals)(nc:∀ v,¬ s.heap.IsCell a v)(nf:∀ o vs,s.heap.get? a=some o->o.data≠.fields vs)(S:Heap.SameBut a s.heap h'){o:Obj}(ho:h'.get? a=some o)(hd:∀ vs,o.data≠.fields vs){tk:Nat} :
  InvS W fm V ps { s with heap:=h',toks:=tk }:=by
 have hα:∀ b∈V,b≠a:=λb m' q=>I.inv.lists.apart b m' (q▸m)
 refine ⟨I.inv.mine F S m (by rw [ho];rfl) (λo' eo=>⟨λvs=>nf o' vs eo,o,ho,hd⟩) rfl ?_ λx k i hx hkk=>?_,I.gens,I.os⟩
 ·obtain ⟨mm,⟨oL,eL,epL,n1,n2,n3⟩,nr⟩:=I.inv.loc
  exact ⟨mm,⟨oL,eL,epL,(S.2 _ nl.symm).trans n1,n2,n3⟩,λx i hm=>(nr x i hm).same S m hα⟩
 ·obtain ⟨c,v,q1,q2,q3,q4,q5⟩:=I.inv.cel x k i hx hkk
  refine ⟨c,v,q1,q2,q3,?_,q5.same S m hα⟩
  have:c≠a:=λq=>nc v (q▸q4)
  obtain ⟨oc,e1,e2⟩:=q4
  exact ⟨oc,(S.2 c this).trans e1,e2⟩
def AN (fm:Fm)(scope:Scope)(sc:List (Str × NameKind × Nat))(D C:Addr):Fm:=
 { env:=compEnvC scope (HA fm.env.cells scope.names []) C fm.env,stk:=fm.stk,av:=D::C::fm.av,own0:=[C],tab:=fm.tab,sc:=sc,hdl:=fm.hdl }
theorem Ci.cells {scope:Scope}{sc:List (Str × NameKind × Nat)}{js:List Nat}(ci:Ci fm.sc scope sc js)(I:InvS W fm V ps s):∀ y∈scope.names,y.2 = .free->(fm.env.cells.lookup y.1).isSome=true:=λy hy q=>by
 obtain ⟨k,i,h1,h2⟩:=ci.free y hy q
 obtain ⟨c,v,q1,_⟩:=I.inv.cel _ _ _ h1 h2
 rw [q1];rfl
theorem NP {scope:Scope}{sc:List (Str × NameKind × Nat)}{js:List Nat}{D C:Addr}(ci:Ci fm.sc scope sc js)(F:FmOk W.h₀ fm)(I:InvS W fm V ps s)(hD:W.h₀.get? D=none)(hC:W.h₀.get? C=none):FmOk W.h₀ (AN fm scope sc D C) where
 kind:=ci.kind
 glob:=F.glob
 bi:=F.bi
 locAv:=mem_cons_of_mem _ (mem_cons_self ..)
 locOwn:=mem_append_right _ (mem_cons_self ..)
 ownAv:=λa h=>by
  rcases mem_append.mp h with h | h
  ·exact mem_cons_of_mem _ (mem_cons_of_mem _ (F.tabAv a h))
  ·rw [mem_singleton.mp h];exact mem_cons_of_mem _ (mem_cons_self ..)
 frsAv:=λa h=>mem_cons_of_mem _ (mem_cons_of_mem _ (F.frsAv a h))
 fresh:=λa h=>by
  rcases mem_cons.mp h with q | q
  ·rw [q];exact hD
  ·rcases mem_cons.mp q with q | q
   ·rw [q];exact hC
   ·exact F.fresh a q
 kinds:=λx k i hm=>GY (ci.look x k i hm).2
 once:=ci.once
 cellOwn:=λx i c hm U=>absurd rfl (ci.look x _ i hm).1
 cellApart:=λx k i y k' j c h1 h2 h3 h4=>by
  have hs:=ci.cells I
  obtain ⟨a1,a2⟩:=(GX hs h3).resolve_right (by simp)
  obtain ⟨b1,b2⟩:=(GX hs h4).resolve_right (by simp)
  obtain ⟨kx,ix,ex,_⟩:=ci.free _ a1 rfl
  obtain ⟨ky,iy,ey,_⟩:=ci.free _ b1 rfl
  exact F.cellApart _ _ _ _ _ _ _ ex ey a2 b2
 frame:=F.frame
end
section
variable {W:Wd}{fm:Fm}{V α' α₁ X0 w1:List Addr}{h h' h₁ w2 v3 start:Heap}{n:Nat}{A:Around}{ps ps':PS}{s s' c0 z0:Shared}{H:Hd}{h₀:Heap}{own:List Addr}
theorem P0 {js:List Nat}{m:M PV}(ns:aB js m ps≠.stuck):∃ v s',m ⟨λi=>if i∈js then none else ps.loc i,ps.st⟩ = .ok v s'/\aB js m ps = .ok v ⟨ps.loc,s'.st⟩:=by
 unfold aB at ns ⊢
 cases q:m ⟨λi=>if i∈js then none else ps.loc i,ps.st⟩ with
 | ok v s'=>exact ⟨v,s',rfl,rfl⟩
 | ex e s'=>rw [q] at ns;exact absurd rfl ns
 | stuck=>rw [q] at ns;exact absurd rfl ns
theorem LA {scope:Scope}{sc:List (Str × NameKind × Nat)}{js:List Nat}{D C:Addr}(ci:Ci fm.sc scope sc js)(F:FmOk W.h₀ fm)(I:InvS W fm V ps s)(hD:s.heap.get? D=none)(hC:s.heap.get? C=none)
  (kp:∀ b o,s.heap.get? b=some o->h₁.get? b=some o) (hns:h₁.Ns C λU=>none) (hDl:(h₁.get? D).isSome=true) {tk:Nat} :
  InvS W (AN fm scope sc D C) V ⟨λi=>if i∈js then none else ps.loc i,ps.st⟩ { s with heap:=h₁,toks:=tk }:=by
 have st:∀ a∈(AN fm scope sc D C).av,a∈fm.av\/s.heap.get? a=Option.none:=λa h=>by
  rcases mem_cons.mp h with q | q
  ·rw [q];exact .inr hD
  ·rcases mem_cons.mp q with q | q
   ·rw [q];exact .inr hC
   ·exact .inl q
 have pre:V <+: V:=prefix_refl _
 have rep:∀ {p v},OptRep W.H W.h₀ fm.av V s.heap p v->OptRep W.H W.h₀ (AN fm scope sc D C).av V h₁ p v:=λr=>r.map λr=>(r.strong st).keeps kp pre
 have nα:∀ b,s.heap.get? b=none->b∉V:=λb e z=>by
  obtain ⟨ws,o,e',_⟩:=I.inv.lists.isList z
  rw [e] at e';cases e'
 refine ⟨⟨λb o e=>kp b o (I.inv.base b o e),⟨_,hns,λx i hm=>?_⟩,λx k i hm hk=>?_,⟨I.inv.lists.len,λi l e=>?_,I.inv.lists.nodup,I.inv.lists.fresh,λa m q=>?_⟩,λa m=>?_,?_,?_⟩,I.gens,I.os⟩
 ·have:=(ci.loc x _ i hm).mp rfl
  simp only [this,if_true]
  exact .none
 ·have hk:k = .free:=hk.resolve_left (ci.look x k i hm).1
  subst hk
  obtain ⟨k',h1,h2⟩:=ci.cap x i hm
  obtain ⟨c,v,q1,q2,q3,⟨o,q4,q4'⟩,q5⟩:=I.inv.cel x k' i h1 h2
  have hin:(x,NameKind.free)∈scope.names:=mem_of_lookup (ci.look x _ i hm).2
  obtain ⟨c',hc'⟩:=ba.mp (PY (cells:=fm.env.cells) (acc:=[]) (.inl hin))
  obtain ⟨_,e2⟩:=(GX (ci.cells I) hc').resolve_right (by simp)
  rw [q1] at e2;cases e2
  have nj:i∉js:=λz=>by have:=(ci.loc x _ i hm).mpr z;cases this
  refine ⟨c,v,hc',mem_cons_of_mem _ (mem_cons_of_mem _ q2),λq=>?_,⟨o,kp _ _ q4,q4'⟩,?_⟩
  ·have:s.heap.get? C=some o:=by rw [<- (show c=C from q)];exact q4
   rw [hC] at this;cases this
  ·simp only [nj,if_false]
   exact rep q5
 ·obtain ⟨a,vs,h1,h2,h3⟩:=I.inv.lists.at_ i l e
  exact ⟨a,vs,h1,h2.at (kp _),(h3.strong st).keeps kp pre⟩
 ·rcases st a q with z | z
  ·exact I.inv.lists.apart a m z
  ·exact nα a z m
 ·rcases mem_cons.mp m with q | q
  ·rw [q];exact hDl
  ·rcases mem_cons.mp q with q | q
   ·obtain ⟨o,_,_,e,_⟩:=hns
    rw [q,e];rfl
   ·obtain ⟨o,e⟩:=ba.mp (I.inv.live a q)
    rw [kp a o e];rfl
 ·exact I.inv.frames.of_keeps λb o e U=>⟨o,kp b o e,rfl⟩
 ·exact λP hP=>(I.inv.tabs P hP).keeps kp
theorem FunFrames.but {a:Addr}(S:Heap.SameBut a h h'){l:List Env}(nb:∀ b∈frs l,b≠a)(x:h.FunFrames ⟨#[],{}⟩ l):h'.FunFrames ⟨#[],{}⟩ l:=by
 induction l with
 | nil=>exact trivial
 | cons env rest ih=>
  obtain ⟨h1,⟨L,o,h2,h3,h4,h5⟩,h6⟩:=x
  have e:frs (env::rest)=L::frs rest:=by unfold frs;rw [filterMap_cons,h2]
  rw [e] at nb
  exact ⟨h1,⟨L,o,h2,h3,(S.2 L (nb L (mem_cons_self ..))).trans h4,h5⟩,ih (λb m=>nb b (mem_cons_of_mem _ m)) h6⟩
theorem JT {scope:Scope}{sc:List (Str × NameKind × Nat)}{D C:Addr}{acc:List PV}{vs:List Value}(F:FmOk W.h₀ fm)(I:InvS W fm V ps s)(hD:s.heap.get? D=none)(hC:s.heap.get? C=none)(hDC:D≠C)
  (J:InvS W (AN fm scope sc D C) α' ps' s') (g:Grow V α' s.heap) (R:Rel fm.stk fm.tab V s.heap s'.heap) (hl:s'.heap.PlainList D vs.toArray) (rl:RepL W.H W.h₀ (AN fm scope sc D C).av α' s'.heap acc vs) (S:Heap.SameBut C s'.heap h') :
  InvS W fm (α'++[D]) ⟨ps.loc,ps'.st++[acc]⟩ { s' with heap:=h' }/\Grow V (α'++[D]) s.heap/\Rel fm.stk fm.tab V s.heap h'/\(α'++[D])[ps'.st.length]? = some D:=by
 have wk:∀ a,a∈fm.av->a∈(AN fm scope sc D C).av:=λa m=>mem_cons_of_mem _ (mem_cons_of_mem _ m)
 have mC:C∈(AN fm scope sc D C).av:=mem_cons_of_mem _ (mem_cons_self ..)
 have mD:D∈(AN fm scope sc D C).av:=mem_cons_self ..
 have hαC:∀ b∈α',b≠C:=λb m q=>J.inv.lists.apart b m (q▸mC)
 have hαD:D∉α':=λm=>J.inv.lists.apart D m mD
 have CH:∀ b o,s.heap.get? b=some o->b≠C:=λb o e q=>by rw [q,hC] at e;cases e
 have nfC:∀ o vs,s'.heap.get? C=some o->o.data≠.fields vs:=λo vs e q=>by
  obtain ⟨mm,⟨oL,eL,epL,n1,n2,_⟩,_⟩:=J.inv.loc
  rw [show s'.heap.get? C=some oL from n1] at e;cases e
  rw [n2] at q;cases q
 have R':Rel fm.stk fm.tab V s.heap h':=⟨λb o e m1 m2 m3=>(S.2 b (CH b o e)).trans (R.keep b o e m1 m2 m3),λb o e m1 m2 m3=>by
   obtain ⟨sl,e'⟩:=R.slot b o e m1 m2 m3
   exact ⟨sl,(S.2 b (CH b o e)).trans e'⟩,λb e=>by
   by_cases q:b=C
   ·rw [q];exact hC
   ·exact R.live b ((S.2 b q).symm.trans e)⟩
 have g':Grow V (α'++[D]) s.heap:=⟨g.pre.trans (prefix_append _ _),λa m q=>by
  rcases mem_append.mp m with m | m
  ·exact g.new a m q
  ·rw [mem_singleton.mp m];exact hD⟩
 have fr:h'.FunFrames ⟨#[],{}⟩ fm.stk:=by
  refine FunFrames.but S (λb m q=>?_) J.inv.frames
  have:=I.inv.live b (F.frsAv b m)
  rw [q,hC] at this;cases this
 have stp:α' <+: α'++[D]:=prefix_append _ _
 have kk:∀ b o,h'.get? b=some o->h'.get? b=some o:=λU U e=>e
 have lift:∀ {l:List PV} {ws:List Value},RepL W.H W.h₀ (AN fm scope sc D C).av α' s'.heap l ws->RepL W.H W.h₀ fm.av (α'++[D]) h' l ws:=λr=>
  RepL.keeps kk stp (RepL.weak wk (RepL.same (fm:=AN fm scope sc D C) S mC hαC r))
 refine ⟨⟨I.inv.carry F R' ⟨by simp [J.inv.lists.len],λi l e=>?_,?_,λa m=>?_,λa m q=>?_⟩ g' fr λP hP=>(J.inv.tabs P hP).same S nfC,J.gens,J.os⟩,g',R',?_⟩
 ·by_cases hi:i<ps'.st.length
  ·rw [getElem?_append_left hi] at e
   obtain ⟨a,ws,q1,⟨k,q2⟩,q3⟩:=J.inv.lists.at_ i l e
   exact ⟨a,ws,by rw [getElem?_append_left (by rw [J.inv.lists.len];exact hi)];exact q1,⟨k,(S.2 a (hαC a (mem_of_getElem? q1))).trans q2⟩,lift q3⟩
  ·have:i=ps'.st.length:=by
    have:=(bc.mp e).1
    simp at this;exact be (la [_,_] [([2,3,0],[4,3,0])] ([2],[4]) rfl this) (la [_,_] [([2],[4])] ([2],[4]) rfl (Nat.not_lt.mp hi))
   subst this
   rw [getElem?_append_right (Nat.le_refl _)] at e
   simp at e
   subst e
   obtain ⟨k,q2⟩:=hl
   exact ⟨D,vs,by rw [<- J.inv.lists.len,getElem?_append_right (Nat.le_refl _)];simp,⟨k,(S.2 D hDC).trans q2⟩,lift rl⟩
 ·rw [nodup_append]
  exact ⟨J.inv.lists.nodup,by simp,λx hx y hy=>by simp at hy;subst hy;exact λe=>hαD (e▸hx)⟩
 ·rcases mem_append.mp m with q | q
  ·exact J.inv.lists.fresh a q
  ·rw [mem_singleton.mp q];exact I.none _ hD
 ·rcases mem_append.mp m with p | p
  ·exact J.inv.lists.apart a p (wk a q)
  ·rw [mem_singleton.mp p] at q
   have:=I.inv.live D q
   rw [hD] at this;cases this
 ·rw [<- J.inv.lists.len,getElem?_append_right (Nat.le_refl _)];simp
theorem Es {D:Addr}{ws:Array Value}(R:Rel fm.stk own V h h')(x:h.PlainList D ws)(n1:D∉frs fm.stk)(n2:D∉own)(n3:D∉V):h'.PlainList D ws:=by
 obtain ⟨k,e⟩:=x
 exact ⟨k,R.keep D _ e n1 n2 n3⟩
inductive CompI (W:Wd)(fm F:Fm)(X0:List Addr)(B:Heap)(D:Addr)(St:Nat->Heap->Prop)(run:Nat->Nat->List PV->PS->Prop)(k:Nat)(s':Shared):Prop
 | mk (i:Nat) (ps':PS) (α':List Addr) (acc:List PV) (vs:List Value) (e:run k i acc ps') (I:InvS W F α' ps' s') (g:Grow X0 α' B) (x:Rel fm.stk fm.tab X0 B s'.heap) (l:s'.heap.PlainList D vs.toArray) (r:RepL W.H W.h₀ F.av α' s'.heap acc vs) (t:St i s'.heap):CompI W fm F X0 B D St run k s'
end
structure MethAt (T id:String)(name:Str):Prop where
 pa:PlainAttrs T
 slot:Slot T name id
 ty:typeOf (.builtin id)=pure (.type "method_descriptor")
def BN:PV->Bool
 | .str _=>true
 | _=>false
def H7:PV->Bool
 | .fset _=>true
 | _=>false
def UH:List PV->Option (List Txt)
 | []=>some []
 | p::r=>(asS p).bind λs=>(UH r).map (s::·)
def findFrom (x y:Txt)(lo:Nat):Option Nat:=(range' lo (x.length+1 - lo)).find? λi=>decide (i+y.length<=x.length)&&((x.drop i).take y.length==y)
def VC (l:List PV):Option (Txt × Option Int):=un l λp r=>(asS p).bind λs=>match r with
 | []=>some (s,none)
 | q::r=>(asI q).bind λi=>cond r.isEmpty (some (s,some i)) none
theorem SK {l:List PV}{x:Txt × Option Int}(h:VC l=some x):(l=[.str x.1]/\x.2=none)\/∃ i,l=[.str x.1,.int i]/\x.2=some i:=by
 obtain ⟨p,r,rfl,h⟩:=EK h
 obtain ⟨s,e,h⟩:=aV.mp h
 rw [A8 e]
 cases r with
 | nil=>obtain rfl:=aT h;exact .inl ⟨rfl,rfl⟩
 | cons q r=>
  obtain ⟨i,e',h⟩:=aV.mp h
  obtain ⟨e1,rfl⟩:=Fo h
  rw [AR e',e1]
  exact .inr ⟨i,rfl,rfl⟩
def Ds (hd:Bool)(v:PV)(l:List PV):M PV:=ap (asS v) λx=>ap (VC l) λy=>match y.2 with
 | none=>(match findFrom x y.1 0 with
  | some i=>ae (.int i)
  | none=>aq)
 | some p=>am (0<=p&&Ag p) (match findFrom x y.1 p.toNat with
  | some i=>ae (.int i)
  | none=>aI hd "ValueError")
section
variable {W:Wd}{fm:Fm}{V α' α₁ X0 w1:List Addr}{h h' h₁ w2 v3 start:Heap}{n:Nat}{A:Around}{ps ps':PS}{s s' c0 z0:Shared}{H:Hd}{h₀:Heap}{own:List Addr}
def JU (W:Wd)(fm:Fm)(K:PV->Bool)(T:String):Prop:=∀ n A V ps s p v,Ctx W fm n A->InvS W fm V ps s->K p=true->W.rep fm V s.heap p v->s.TypeIs v T/\(∀ a,v = .ref a->∃ ob,s.heap.get? a=some ob/\ob.dict=none)
theorem GZ {p:PV}(h:BN p=true):∃ x,p = .str x:=by
 cases p with
 | str x=>exact ⟨x,rfl⟩
 | _=>cases h
theorem P1 {p:PV}(h:H7 p=true):∃ k,p = .fset k:=by
 cases p with
 | fset k=>exact ⟨k,rfl⟩
 | _=>cases h
abbrev OpMeth.T (W:Wd)(n:Nat)(fm:Fm)(K:PV->Bool)(id:String)(g:PV->List PV->M PV):Prop:=∀ A V ps s p v l vs,Ctx W fm n A->InvS W fm V ps s->K p=true->W.rep fm V s.heap p v->RepL W.H W.h₀ fm.av V s.heap l vs->g p l ps≠.stuck->Am W fm A V ps s (call (.builtin id) (v::vs)) (g p l)
structure OpMeth (W:Wd)(n:Nat)(fm:Fm)(K:PV->Bool)(id:String)(g:PV->List PV->M PV):Prop where
 go:OpMeth.T W n fm K id g
noncomputable instance {W:Wd} {n:Nat} {fm:Fm} {K:PV->Bool} {id:String} {g:PV->List PV->M PV}:CoeFun (OpMeth W n fm K id g) (λU=>OpMeth.T W n fm K id g):=⟨OpMeth.go⟩
theorem CN:JU W fm BN "str":=λn A V ps s p v C I hK r=>by
 obtain ⟨x,rfl⟩:=GZ hK
 obtain ⟨_,rfl⟩:=r.inv
 exact ⟨typeIs_str _ _ _,λU e=>(by cases e)⟩
theorem ML:JU W fm H7 "frozenset":=λn A V ps s p v C I hK r=>by
 obtain ⟨x,rfl⟩:=P1 hK
 obtain ⟨_,rfl,e⟩:=r.inv
 ·obtain ⟨m,⟨es,ep,t,ho,_⟩,_⟩:=C.hd.set I.inv.base _ e
  exact ⟨⟨_,ho,rfl⟩,λb eb=>by cases eb;exact ⟨_,ho,rfl⟩⟩
theorem P2 {o:Expr}{name:Str}{apos pos:Pos}{es:List Expr}{mo:M PV}{ms:List (M PV)}{g:PV->List PV->M PV}{K:PV->Bool}{T id:String}(ho:SimE W n fm o mo)(q:SimL W n fm es ms)(Ma:MethAt T id name)(KT:JU W fm K T)(op:OpMeth W n fm K id g)
  (hbase:∀ env,attributeBase o name env (eval o env)=eval o env) (hlen:es.length<30) (hline:(apos.endLine==pos.line)=true) :
  SimE W n fm (.Call (.Attribute o name apos) es [] pos) (ac mo λp=>am (K p) (ac (ag ms) (g p))):=.mk λA V ps s C I ns=>by
 have hpl:(backTo pos (starEach es fm.env)).all (λx=>!x.1)=true:=by
  have:=q.plain (pos:=pos) fm.env
  rw [List.any_eq_false] at this
  rw [all_eq_true]
  intro x hx
  simpa using this x hx
 refine wpAny_Call_method_lateS (hbase _) (by rw [hpl];exact decide_eq_true hlen) hline (Am.seq (ho A V ps s C I (Ad ns)) (λp v α₁ o0 c0 w0 d0 u0 W0 y0=>?_) λx c0 q=>q.bind)
 rw [Ac y0] at ns ⊢
 obtain ⟨c,e⟩:=Aj ns
 rw [e] at ns ⊢
 obtain ⟨k1,k2⟩:=KT n A α₁ o0 c0 p v C w0 c W0
 refine ⟨T,id,Ma.pa,Ma.slot,Ma.ty,k1,k2,?_⟩
 refine Calls.callWith_builtin (q.plain _) (AT (q.plain _) (aW (CM q A α₁ o0 c0 C w0 (Ad ns)) (λvs z0 z=>?_) λx c0 z=>z.bind.after d0 u0))
 obtain ⟨l,Z1,X0,W1,Y1,Y0,Z0,i4⟩:=z
 rw [Ac W1] at ns ⊢
 exact aW (op A X0 Z1 z0 p v l vs C Y1 c (w0.stays C Z0 Y0 W0) i4 ns) (λU U q=>(q.after Y0 Z0).after d0 u0) (λU U q=>(q.after Y0 Z0).after d0 u0)
end
end Mi
end
section
open PySem PySem.W PyProof.Rows
open PySem.Builtin PySem.Builtin.Str
set_option maxRecDepth 10000
namespace Mi
section
variable {W:Wd}{fm:Fm}{V α' α₁ X0 w1:List Addr}{h h' h₁ w2 v3 start:Heap}{n:Nat}{A:Around}{ps ps':PS}{s s' c0 z0:Shared}{H:Hd}{h₀:Heap}{own:List Addr}
theorem IS (x y:Str)(i:Int)(t u v:Tok)(k:Nat)(rest:List Nat)(h:occurrences x y (fromIndex x.length i) x.length 1=k::rest):Gives («str.index» ⟨[.str x t,.str y u,.int i v],[]⟩) (.int k):=by
 show Gives (match occurrences x y (fromIndex x.length i) (min x.length x.length) 1 with | i::_=>retInt i | []=>(do rule "str.index.not-found";raiseError "ValueError" "substring not found")) _
 rw [Nat.min_self,h]
 exact .of_eq rfl
theorem HC (x y:Str)(i:Int)(t u v:Tok)(h:occurrences x y (fromIndex x.length i) x.length 1=[]):Meets («str.index» ⟨[.str x t,.str y u,.int i v],[]⟩) (raisesNew "ValueError"):=by
 intro prog w A R s hS
 show wpAny _ _ (match occurrences x y (fromIndex x.length i) (min x.length x.length) 1 with | i::_=>retInt i | []=>_) _ _ s
 rw [Nat.min_self,h]
 first
  | exact bg (wpAny_rule (by exact_raiseError plainExc_ValueError hS.1 hS.2))
  | exact bg (wpAny_rule (bg (by exact_raiseError plainExc_ValueError hS.1 hS.2)))
def AtT (x y:Txt)(i:Nat):Prop:=i+y.length<=x.length/\(x.drop i).take y.length=y
theorem Gl (x y:Txt)(i:Nat):StrLaws.At (txt x) (txt y) (txt x).length i↔AtT x y i:=by
 unfold StrLaws.At AtT
 rw [StrLaws.subAt_eq,AC,AC]
 simp [txt]
theorem Fx (x y:Txt)(lo:Nat):(findFrom x y lo=none/\∀ i,lo<=i->¬ AtT x y i)\/∃ i,findFrom x y lo=some i/\lo<=i/\AtT x y i/\∀ k,lo<=k->k<i->¬ AtT x y k:=by
 have pi:∀ i,(decide (i+y.length<=x.length)&&((x.drop i).take y.length==y))=true↔AtT x y i:=λi=>by
  unfold AtT;simp
 cases q:findFrom x y lo with
 | none=>
  refine .inl ⟨rfl,λi hi ha=>?_⟩
  unfold findFrom at q
  rw [List.find?_eq_none] at q
  exact q i (List.mem_range'_1.mpr ⟨hi,by have:=ha.1;exact la [_,_,_,_,_] [([2,4,0],[6]),([6,3,0],[8,10,0])] ([2,3,0],[10,8,0]) rfl this (Mi.lcS _ _)⟩) ((pi i).mpr ha)
 | some i=>
  refine .inr ⟨i,rfl,?_⟩
  unfold findFrom at q
  rw [List.find?_range'_eq_some] at q
  obtain ⟨h1,h2,h3⟩:=q
  have h2:=List.mem_range'_1.mp h2
  refine ⟨h2.1,(pi i).mp h1,λk k1 k2 ha=>?_⟩
  have:=h3 k k1 k2
  rw [(pi k).mpr ha] at this
  simp at this
theorem JV (x y:Txt)(lo:Nat):match findFrom x y lo with
  | none=>occurrences (txt x) (txt y) lo (txt x).length 1=[]
  | some i=>∃ r,occurrences (txt x) (txt y) lo (txt x).length 1=i::r:=by
 rcases StrLaws.occ_head_from (txt x) (txt y) lo 1 (aR _) with ⟨o1,o2⟩ | ⟨i,r,o1,o2,o3,o4⟩ <;> rcases Fx x y lo with ⟨f1,f2⟩ | ⟨j,f1,f2,f3,f4⟩
 ·rw [f1];exact o1
 ·exact absurd ((Gl x y j).mpr f3) (o2 j f2)
 ·exact absurd ((Gl x y i).mp o3) (f2 i o2)
 ·rw [f1]
  have:i=j:=by
   rcases Nat.lt_trichotomy i j with q | q | q
   ·exact absurd ((Gl x y i).mp o3) (f4 i o2 q)
   ·exact q
   ·exact absurd ((Gl x y j).mpr f3) (o4 j f2 q)
  subst this
  exact ⟨r,o1⟩
theorem G0:MethAt "str" "str.index" "index":=⟨PySem.F.plainAttrs_str,PySem.F.slot_str_index,PySem.F.type_str_index⟩
theorem P3:OpMeth W n fm BN "str.index" (Ds fm.hdl.isSome):=.mk λA V ps s p v l vs C I hK r rl ns=>by
 obtain ⟨x,rfl⟩:=GZ hK
 obtain ⟨t,rfl⟩:=r.inv
 obtain ⟨⟨y,oi⟩,e⟩:=A2 (f:=λy:Txt × Option Int=>match y.2 with
  | none=>(match findFrom x y.1 0 with
   | some i=>ae (PV.int i)
   | none=>aq)
  | some p=>am (0<=p&&Ag p) (match findFrom x y.1 p.toNat with
   | some i=>ae (PV.int i)
   | none=>aI fm.hdl.isSome "ValueError")) ns
 rcases SK e with ⟨rfl,_⟩ | ⟨i,rfl,_⟩
 ·obtain ⟨vy,ws,rfl,rx,rs⟩:=rl.inv
  obtain rfl:ws=[]:=rs.inv
  obtain ⟨u,rfl⟩:=rx.inv
  ·have ns':(match findFrom x y 0 with
    | some i=>ae (PV.int i)
    | none=>aq) ps≠.stuck:=ns
   have oc:=JV x y 0
   unfold Am
   show wpAny _ _ _ (OkE W fm V s.heap ((match findFrom x y 0 with
    | some i=>ae (PV.int i)
    | none=>aq) ps)) _ _
   cases q:findFrom x y 0 with
   | none=>rw [q] at ns';exact absurd rfl ns'
   | some i=>
    rw [q] at oc
    obtain ⟨r,oc⟩:=oc
    exact SC.index oc (OkE.same I (.int _ _))
 ·obtain ⟨vy,ws,rfl,rx,rs⟩:=rl.inv
  obtain ⟨vz,ws,rfl,rz,rs⟩:=rs.inv
  obtain rfl:ws=[]:=rs.inv
  obtain ⟨u,rfl⟩:=rx.inv
  obtain ⟨v,rfl⟩:=rz.inv
  ··have ns':am (0<=i&&Ag i) (match findFrom x y i.toNat with
     | some i=>ae (PV.int i)
     | none=>aI fm.hdl.isSome "ValueError") ps≠.stuck:=ns
    obtain ⟨c,e⟩:=Aj ns'
    rw [e] at ns'
    refine Am.congr (m:=Ds fm.hdl.isSome (.str x) [.str y,.int i]) e ?_
    rw [and_eq_true,decide_eq_true_eq] at c
    have fi:fromIndex (txt x).length i=i.toNat:=by
     unfold fromIndex
     rw [if_neg (by lia)]
     congr 1;lia
    have oc:=JV x y i.toNat
    cases q:findFrom x y i.toNat with
    | none=>
     simp only [q] at ns' oc
     obtain ⟨h1,h2⟩:=Fr ns'
     have hh:A.handled=none:=by rw [C.hdl];exact Option.isNone_iff_eq_none.mp (by cases hq:fm.hdl <;> simp_all)
     refine Am.congr (m':=λps=>.ex (.std "ValueError") ps) h2 ?_
     exact call_meets F.slot_str_index (typeIs_str _ _ _) F.entry_str_index (F.args_str_index_3 _ _ _) (HC (txt x) (txt y) i t u v (by rw [fi];exact oc)) ⟨hh,λh' tk e x=>Fq I x⟩
    | some k=>
     simp only [q] at ns' oc
     obtain ⟨r,oc⟩:=oc
     exact call_gives F.slot_str_index (typeIs_str _ _ _) F.entry_str_index (F.args_str_index_3 _ _ _) (IS (txt x) (txt y) i t u v k r (by rw [fi];exact oc)) (OkE.same I (.int _ _))
end
end Mi
end
section
open PySem PySem.W PyProof.Rows
open PySem.Builtin PySem.Builtin.Str
set_option maxRecDepth 100000
namespace Mi
theorem Ec:PlainAttrs "frozenset":=
 ⟨⟨"object.__getattribute__",by rw [typeLookup_type,builtinLookup_eq_fast];kernel_rfl,by decide +kernel⟩,by rw [typeLookup_type,builtinLookup_eq_fast];kernel_rfl⟩
def asF:PV->Option Nat
 | .fset k=>some k
 | _=>none
def NQ (v:PV)(l:List PV):M PV:=ap (asF v) λk=>aH l λp=>ap (asS p) λx=>ae (.bool (x.all λc=>!AQ k c))
def NR (v:PV)(l:List PV):M PV:=ap (asF v) λk=>aH l λp=>ap (asS p) λx=>ae (.bool (x.all λc=>AQ k c))
section
variable {W:Wd}{fm:Fm}{V α' α₁ X0 w1:List Addr}{h h' h₁ w2 v3 start:Heap}{n:Nat}{A:Around}{ps ps':PS}{s s' c0 z0:Shared}{H:Hd}{h₀:Heap}{own:List Addr}{E:Value->Shared->Prop}
theorem JW {x:Txt}{i:Nat}:B0 (.str x) i ps = .ok ((x[i]?).map λc=>PV.str [c]) ps:=rfl
theorem Cy:Slot "frozenset" "isdisjoint" "frozenset.isdisjoint":=
 .of (owner:="frozenset") (n:="isdisjoint") (by rw [typeLookup_type,builtinLookup_eq_fast];kernel_rfl) (by decide +kernel) (by decide +kernel) (by decide +kernel)
  (by first | exact .inl (by decide +kernel) | exact .inr (by decide +kernel)) (by rw [isSubtype_type];kernel_rfl)
theorem F3:typeOf (.builtin "frozenset.isdisjoint")=pure (.type "method_descriptor"):=by show builtinType _=_;rw [builtinType_eq_fast];kernel_rfl
theorem F4 (a b:Value):argsOk "frozenset.isdisjoint" ⟨[a,b],[]⟩:=by
 unfold argsOk;kernel_rfl
theorem Fy:entryFor table "frozenset.isdisjoint" = some Builtin.«frozenset.isdisjoint»:=entryFor_of_tree (by kernel_rfl)
theorem Bf:plainId "frozenset.isdisjoint.loop" = true:=by decide +kernel
theorem Dz:entryFor table "frozenset.isdisjoint.loop" = some Builtin.«frozenset.isdisjoint.loop»:=entryFor_of_tree (by kernel_rfl)
theorem F5:MethAt "frozenset" "frozenset.isdisjoint" "isdisjoint":=⟨Ec,Cy,F3⟩
theorem JX {It:Addr}{x:Txt}{St:Nat->Heap->Prop}(hA:A.handled=none)(F:FmOk W.h₀ fm)(nav:It∉fm.av)(freshI:start.get? It=none)(h0I:W.h₀.get? It=none)(itk:ItOk W fm V It (B0 (.str x)) St)
  {i:Nat} {s:Shared} (J:InvS W fm V ps s) (R:Rel fm.stk fm.tab V start s.heap) (st:St i s.heap) {Q:Option Value->Shared->Prop} {E:Value->Shared->Prop}
  (h0:x[i]? = none->∀ s',InvS W fm V ps s'->Rel fm.stk fm.tab V start s'.heap->Q none s')
  (h1:∀ c t s',x[i]? = some c->InvS W fm V ps s'->Rel fm.stk fm.tab V start s'.heap->St (i+1) s'.heap->Q (some (.str (txt [c]) t)) s'):wpAny W.m A (pyNext (.ref It)) Q E s:=by
 refine itk.next fm A V ps s i _ _ hA (prefix_refl _) F J st (by rw [JW];exact λq=>(by cases q)) λo r h' tk eo kk rr=>?_
 rw [JW] at eo
 obtain ⟨ob,vs,eI,dI,cI⟩:=itk.flds _ _ st
 have J2:=itk.turned (tk:=tk) F J st nav h0I kk
 have R2:=R.turn0 (Turn0.one J.inv.frames ⟨ob,vs,eI,dI,cI⟩ kk) (λb m=>by rw [mem_singleton.mp m];exact freshI)
 cases e:x[i]? with
 | none=>
  rw [e] at eo
  cases eo
  cases r with
  | some v=>exact rr.elim
  | none=>exact h0 e _ J2 R2
 | some c=>
  rw [e] at eo
  cases eo
  cases r with
  | none=>exact rr.elim
  | some v=>
   obtain ⟨rp,st2⟩:=rr
   obtain ⟨t,rfl⟩:=rp.inv
   exact h1 c t _ e J2 R2 st2
theorem H8 {x:Txt}{i:Nat}{f:Nat->Bool}(e:x[i]? = none):(x.drop i).all f=true:=by
 rw [List.drop_of_length_le (List.getElem?_eq_none_iff.mp e)];rfl
theorem H9 {x:Txt}{i c:Nat}{f:Nat->Bool}(e:x[i]? = some c):(x.drop i).all f=(f c&&(x.drop (i+1)).all f):=by
 obtain ⟨lt,e⟩:=bc.mp e
 rw [drop_eq_getElem_cons lt,all_cons,e]
set_option backward.match.sparseCases true in
theorem F6 {S It:Addr}{k m:Nat}{x:Txt}{St:Nat->Heap->Prop}(hS:FrozAt (strKind W.H.prog W.H.w) W.h₀ S (Fl k) m)(hm:m<4096)(hA:A.handled=none)(F:FmOk W.h₀ fm)(nav:It∉fm.av)(freshI:start.get? It=none)(h0I:W.h₀.get? It=none)
  (itk:ItOk W fm V It (B0 (.str x)) St) (d:Nat):∀ (i:Nat) (s:Shared),x.length<i+d->i<=x.length->InvS W fm V ps s->Rel fm.stk fm.tab V start s.heap->St i s.heap ->
  codeAny W.m A (.builtin "frozenset.isdisjoint.loop" ⟨[.ref S,.ref It],[]⟩) (λr s'=>match r with
   | .ok (.ret v)=>OkE W fm V start (.ok (.bool ((x.drop i).all λc=>!AQ k c)) ps) v s'
   | .ok _=>False
   | .error e=>E e s') s:=by
 have done:∀ (b:Bool) (s:Shared),InvS W fm V ps s->Rel fm.stk fm.tab V start s.heap->OkE W fm V start (.ok (.bool b) ps) (.bool b) s:=λb s J R=>⟨_,ps,V,rfl,J,.refl ..,R,.bool _⟩
 induction d with
 | zero=>intro i s hd hi;exact absurd hd (Nat.not_lt.mpr hi)
 | succ d ih=>
  intro i s hd hi J R st
  refine codeAny_builtin Dz ?_
  rw [Around.under_plainId Bf _]
  show wpAny _ A.in1 (pyNext (.ref It) >>= _) _ _ s
  refine bg (JX (A:=A.in1) hA F nav freshI h0I itk J R st (λe s' J R=>bh ?_) λc t s' e J R st=>?_)
  ·rw [H8 e];exact done true _ J R
  rw [H9 e]
  have lt:=(bc.mp e).1
  obtain ⟨es,ep,tt,ho,hr⟩:=hS
  refine bg (bf (IF (s:=s') (S:=Fl k) ⟨es,ep,tt,J.inv.base _ _ ho,hr⟩ hm ?_))
  rw [ER]
  show wpAny _ _ (if AQ k c=true then _ else _) _ _ _
  cases q:AQ k c with
  | true=>rw [if_pos rfl,Bool.not_true,Bool.false_and];exact bh (done false _ (J.tok _) R)
  | false=>rw [if_neg (by decide),Bool.not_false,Bool.true_and];exact bh ⟨plainId_quiet Bf _,ih (i+1) _ (by exact la [_,_,_] [([2,3,0],[4,6,3,0,0])] ([2,3,0],[4,3,0,6,0]) rfl hd) lt (J.tok _) R st⟩
theorem MM {l:List PV}{f:Txt->M PV}(ns:aH l (λp=>ap (asS p) f) ps≠.stuck):∃ x,l=[.str x]:=by
 obtain ⟨p,rfl⟩:=Iz ns
 obtain ⟨x,e⟩:=A2 (f:=f) ns
 exact ⟨x,by rw [A8 e]⟩
set_option backward.match.sparseCases true in
theorem HD (hh:fm.hdl=none):OpMeth W n fm H7 "frozenset.isdisjoint" NQ:=.mk λA V ps s p v l vs C I hK r rl ns=>by
 have hA:A.handled=none:=C.hdl.trans hh
 obtain ⟨k,rfl⟩:=P1 hK
 obtain ⟨x,rfl⟩:=MM (f:=λx=>ae (.bool (x.all λc=>!AQ k c))) ns
 obtain ⟨vx,ws,rfl,rx,rs⟩:=rl.inv
 cases (show ws=[] from rs.inv)
 obtain ⟨t,rfl⟩:=rx.inv
 obtain ⟨S,rfl,e⟩:=r.inv
 obtain ⟨m,hS,hm⟩:=C.hd.sets k S e
 have hS':=hS
 obtain ⟨es,ep,tt,ho,_⟩:=hS'
 have hT:s.TypeIs (.ref S) "frozenset":=⟨_,I.inv.base _ _ ho,rfl⟩
 have fresh:s.heap.get? s.heap.objs.size=none:=AJ _
 have nav:=Bh I fresh
 have fin:∀ (St:Nat->Heap->Prop) o,ItOk W fm V s.heap.objs.size (B0 (.str x)) St->St 0 (s.heap.push o) ->
   codeAny W.m A (.builtin "frozenset.isdisjoint.loop" ⟨[.ref S,.ref s.heap.objs.size],[]⟩) (λr s'=>match r with
    | .ok (.ret v)=>OkE W fm V s.heap (NQ (.fset k) [.str x] ps) v s'
    | .ok _=>False
    | .error e=>ExE W fm V s.heap (NQ (.fset k) [.str x] ps) e s') { s with heap:=s.heap.push o }:=λSt o itk st=>by
  have:=F6 (E:=ExE W fm V s.heap (NQ (.fset k) [.str x] ps)) hS hm hA C.fm nav fresh (I.none _ fresh) itk (x.length+1) 0 { s with heap:=s.heap.push o } (by exact la [_] [] ([2,3,0],[1,2,3,0,0]) rfl) (aP _) (Bs I o) (.of_keeps λb ob e=>get?_push_of_some _ e) st
  exact this
 refine wpAny_call (codeAny_call_builtin Cy.plain Fy (Cy.check _ _ _ _ _ _ _ _ hT (F4 _ _) ?_))
 unfold Builtin.«frozenset.isdisjoint» Frozenset.oneOther
 unfold Frozenset.addrOf
 refine bg (bg (bh (bh ?_)))
 dsimp only
 rw [if_neg (by simp)]
 refine bg (wpAny_typeOf (typeIs_str _ _ _) ?_)
 rw [if_neg (by decide)]
 cases ha:(txt x).cps.all (· < 128)
 ·exact bg (wpAny_pyIter_wide ha (bh ⟨plainId_quiet Bf _,fin _ _ ItOk.strW ⟨_,get?_push_size _ rfl,rfl,rfl⟩⟩))
 ·exact bg (wpAny_pyIter_ascii ha (bh ⟨plainId_quiet Bf _,fin _ _ ItOk.strA ⟨_,get?_push_size _ rfl,rfl,rfl⟩⟩))
theorem Cz:Slot "frozenset" "issuperset" "frozenset.issuperset":=
 .of (owner:="frozenset") (n:="issuperset") (by rw [typeLookup_type,builtinLookup_eq_fast];kernel_rfl) (by decide +kernel) (by decide +kernel) (by decide +kernel)
  (by first | exact .inl (by decide +kernel) | exact .inr (by decide +kernel)) (by rw [isSubtype_type];kernel_rfl)
theorem F7:typeOf (.builtin "frozenset.issuperset")=pure (.type "method_descriptor"):=by show builtinType _=_;rw [builtinType_eq_fast];kernel_rfl
theorem F8 (a b:Value):argsOk "frozenset.issuperset" ⟨[a,b],[]⟩:=by
 unfold argsOk;kernel_rfl
theorem Fz:entryFor table "frozenset.issuperset" = some Builtin.«frozenset.issuperset»:=entryFor_of_tree (by kernel_rfl)
theorem Bg:plainId "frozenset.issuperset.loop" = true:=by decide +kernel
theorem DA:entryFor table "frozenset.issuperset.loop" = some Builtin.«frozenset.issuperset.loop»:=entryFor_of_tree (by kernel_rfl)
theorem F9:MethAt "frozenset" "frozenset.issuperset" "issuperset":=⟨Ec,Cz,F7⟩
set_option backward.match.sparseCases true in
theorem Ga {S It:Addr}{k m:Nat}{x:Txt}{St:Nat->Heap->Prop}(hS:FrozAt (strKind W.H.prog W.H.w) W.h₀ S (Fl k) m)(hm:m<4096)(hA:A.handled=none)(F:FmOk W.h₀ fm)(nav:It∉fm.av)(freshI:start.get? It=none)(h0I:W.h₀.get? It=none)
  (itk:ItOk W fm V It (B0 (.str x)) St) (d:Nat):∀ (i:Nat) (s:Shared),x.length<i+d->i<=x.length->InvS W fm V ps s->Rel fm.stk fm.tab V start s.heap->St i s.heap ->
  codeAny W.m A (.builtin "frozenset.issuperset.loop" ⟨[.ref S,.ref It],[]⟩) (λr s'=>match r with
   | .ok (.ret v)=>OkE W fm V start (.ok (.bool ((x.drop i).all λc=>AQ k c)) ps) v s'
   | .ok _=>False
   | .error e=>E e s') s:=by
 have done:∀ (b:Bool) (s:Shared),InvS W fm V ps s->Rel fm.stk fm.tab V start s.heap->OkE W fm V start (.ok (.bool b) ps) (.bool b) s:=λb s J R=>⟨_,ps,V,rfl,J,.refl ..,R,.bool _⟩
 induction d with
 | zero=>intro i s hd hi;exact absurd hd (Nat.not_lt.mpr hi)
 | succ d ih=>
  intro i s hd hi J R st
  refine codeAny_builtin DA ?_
  rw [Around.under_plainId Bg _]
  show wpAny _ A.in1 (pyNext (.ref It) >>= _) _ _ s
  refine bg (JX (A:=A.in1) hA F nav freshI h0I itk J R st (λe s' J R=>bh ?_) λc t s' e J R st=>?_)
  ·rw [H8 e];exact done true _ J R
  rw [H9 e]
  have lt:=(bc.mp e).1
  obtain ⟨es,ep,tt,ho,hr⟩:=hS
  refine bg (bf (IF (s:=s') (S:=Fl k) ⟨es,ep,tt,J.inv.base _ _ ho,hr⟩ hm ?_))
  rw [ER]
  show wpAny _ _ (if AQ k c=true then _ else _) _ _ _
  cases q:AQ k c with
  | true=>rw [if_pos rfl,Bool.true_and];exact bh ⟨plainId_quiet Bg _,ih (i+1) _ (by exact la [_,_,_] [([2,3,0],[4,6,3,0,0])] ([2,3,0],[4,3,0,6,0]) rfl hd) lt (J.tok _) R st⟩
  | false=>rw [if_neg (by decide),Bool.false_and];exact bh (done false _ (J.tok _) R)
set_option backward.match.sparseCases true in
theorem HE (hh:fm.hdl=none):OpMeth W n fm H7 "frozenset.issuperset" NR:=.mk λA V ps s p v l vs C I hK r rl ns=>by
 have hA:A.handled=none:=C.hdl.trans hh
 obtain ⟨k,rfl⟩:=P1 hK
 obtain ⟨x,rfl⟩:=MM (f:=λx=>ae (.bool (x.all λc=>AQ k c))) ns
 obtain ⟨vx,ws,rfl,rx,rs⟩:=rl.inv
 cases (show ws=[] from rs.inv)
 obtain ⟨t,rfl⟩:=rx.inv
 obtain ⟨S,rfl,e⟩:=r.inv
 obtain ⟨m,hS,hm⟩:=C.hd.sets k S e
 have hS':=hS
 obtain ⟨es,ep,tt,ho,_⟩:=hS'
 have hT:s.TypeIs (.ref S) "frozenset":=⟨_,I.inv.base _ _ ho,rfl⟩
 have fresh:s.heap.get? s.heap.objs.size=none:=AJ _
 have nav:=Bh I fresh
 have fin:∀ (St:Nat->Heap->Prop) o,ItOk W fm V s.heap.objs.size (B0 (.str x)) St->St 0 (s.heap.push o) ->
   codeAny W.m A (.builtin "frozenset.issuperset.loop" ⟨[.ref S,.ref s.heap.objs.size],[]⟩) (λr s'=>match r with
    | .ok (.ret v)=>OkE W fm V s.heap (NR (.fset k) [.str x] ps) v s'
    | .ok _=>False
    | .error e=>ExE W fm V s.heap (NR (.fset k) [.str x] ps) e s') { s with heap:=s.heap.push o }:=λSt o itk st=>by
  have:=Ga (E:=ExE W fm V s.heap (NR (.fset k) [.str x] ps)) hS hm hA C.fm nav fresh (I.none _ fresh) itk (x.length+1) 0 { s with heap:=s.heap.push o } (by exact la [_] [] ([2,3,0],[1,2,3,0,0]) rfl) (aP _) (Bs I o) (.of_keeps λb ob e=>get?_push_of_some _ e) st
  exact this
 refine wpAny_call (codeAny_call_builtin Cz.plain Fz (Cz.check _ _ _ _ _ _ _ _ hT (F8 _ _) ?_))
 unfold Builtin.«frozenset.issuperset» Frozenset.oneOther
 unfold Frozenset.addrOf
 refine bg (bg (bh (bh ?_)))
 dsimp only
 refine bg (m:=Frozenset.isAnySet (.str (txt x) t)) ?_
 unfold Frozenset.isAnySet
 refine bg (wpAny_isInstance (typeIs_str s (txt x) t) (b:=false) (by kernel_rfl) ?_)
 refine bg (bh ?_)
 refine wpAny_isInstance (typeIs_str s (txt x) t) (b:=false) (by kernel_rfl) ?_
 rw [if_neg (by decide)]
 cases ha:(txt x).cps.all (· < 128)
 ·exact bg (wpAny_pyIter_wide ha (bh ⟨plainId_quiet Bg _,fin _ _ ItOk.strW ⟨_,get?_push_size _ rfl,rfl,rfl⟩⟩))
 ·exact bg (wpAny_pyIter_ascii ha (bh ⟨plainId_quiet Bg _,fin _ _ ItOk.strA ⟨_,get?_push_size _ rfl,rfl,rfl⟩⟩))
end
end Mi
end
section
open PySem PySem.W PyProof.Rows
open PySem.Builtin PySem.Builtin.Str PySem.NumText
set_option maxRecDepth 100000
namespace Mi
def hexdig (c:Nat):Nat:=if c<=57 then c - 48 else if 97<=c then c - 87 else c - 55
def hexval (x:Txt):Nat:=x.foldl (λa c=>a*16+hexdig c) 0
theorem Gm {c:Nat}(h:hexd c=true):c<128:=by
 unfold hexd at h
 simp only [or_eq_true,and_eq_true,decide_eq_true_eq] at h
 lia
theorem Ce {c:Nat}(h:hexd c=true):digit? c=some (hexdig c)/\hexdig c<16/\c≠95/\c≠0/\blank c=false/\c≠45/\c≠43/\c<128/\c≠120/\c≠88:=
 (by decide +kernel:∀ c<128,hexd c=true->digit? c=some (hexdig c)/\hexdig c<16/\c≠95/\c≠0/\blank c=false/\c≠45/\c≠43/\c<128/\c≠120/\c≠88) c (Gm h) h
theorem LB (x:Txt):∀ (acc:Array Nat) (b:Bool),x.all hexd=true->x.foldlM (step 16) (acc,b)=some (acc++(x.map hexdig).toArray,b||!x.isEmpty):=by
 induction x with
 | nil=>intro acc b _;simp
 | cons c x ih=>
  intro acc b h
  rw [all_cons,and_eq_true] at h
  obtain ⟨d1,d2,d3,_⟩:=Ce h.1
  rw [List.foldlM_cons]
  have e:step 16 (acc,b) c=some (acc.push (hexdig c),true):=by
   unfold NumText.step
   simp only [beq_iff_eq,d3,if_false,d1,d2,if_true]
  rw [e]
  show x.foldlM (step 16) (acc.push (hexdig c),true)=_
  rw [ih _ _ h.2]
  simp
theorem Ed (x:Txt)(h:x.all hexd=true):x.dropWhile blank=x:=by
 cases x with
 | nil=>rfl
 | cons c x=>
  rw [all_cons,and_eq_true] at h
  obtain ⟨_,_,_,_,d5,_⟩:=Ce h.1
  rw [List.dropWhile_cons,d5];rfl
theorem SL (x:Txt)(h:x.all hexd=true):x.reverse.all hexd=true:=by rw [List.all_reverse];exact h
theorem P4 (x:Txt)(h:x.all hexd=true):sign x=(false,x):=by
 cases x with
 | nil=>rfl
 | cons c x=>
  rw [all_cons,and_eq_true] at h
  obtain ⟨_,_,_,_,_,d6,d7,_⟩:=Ce h.1
  unfold sign
  delta NumText.sign.match_1
  exact (dif_neg d6).trans (dif_neg d7)
theorem LC (x:Txt)(h:x.all hexd=true):prefix? x≠some 16:=by
 cases x with
 | nil=>exact nofun
 | cons a x=>
  cases x with
  | nil=>
   by_cases q:a=48
   ·subst q;exact nofun
   ·unfold prefix?
    delta NumText.prefix?.match_1
    exact λz=>nomatch (dif_neg q).symm.trans z
  | cons c r=>
   by_cases q:a=48
   ·subst q
    rw [all_cons,and_eq_true,all_cons,and_eq_true] at h
    obtain ⟨_,_,_,_,_,_,_,_,d9,d10⟩:=Ce h.2.1
    show (if (c==120||c==88)=true then some 16 else if (c==111||c==79)=true then some 8 else if (c==98||c==66)=true then some 2 else none)≠some 16
    rw [if_neg (by simp [d9,d10])]
    by_cases q1:(c==111||c==79)=true
    ·rw [if_pos q1];exact nofun
    ·rw [if_neg q1]
     by_cases q2:(c==98||c==66)=true
     ·rw [if_pos q2];exact nofun
     ·rw [if_neg q2];exact nofun
   ·unfold prefix?
    delta NumText.prefix?.match_1
    exact λz=>nomatch (dif_neg q).symm.trans z
theorem NS (x:Txt)(h:x.all hexd=true):based 16 x=(16,false,x):=by
 have hp:=LC x h
 unfold based
 cases e:prefix? x with
 | none=>rfl
 | some p=>
  have:p≠16:=λz=>hp (e.trans (congrArg some z))
  exact if_neg (by simp;exact λe=>this e.symm)
theorem UI (x:Txt)(h:x.all hexd=true)(ne:x≠[]):(int_private% "readNumeral") 0 16 x=(int_private% "Numeral.value") (hexval x):=by
 have e1:=Ed x h
 have e2:=P4 x h
 have e3:=NS x h
 have e4:=Ed x.reverse (SL x h)
 refine (readNumeral_eq 0 16 x).trans ?_
 rw [e1,e2]
 simp only [e3,e4,List.reverse_reverse]
 unfold digits?
 rw [LB x #[] false h]
 have:x.isEmpty=false:=by cases x with
  | nil=>exact absurd rfl ne
  | cons=>rfl
 simp only [this,Option.bind_some,Bool.not_false,Bool.or_true,if_true]
 unfold judge
 simp only [Array.empty_append]
 have ev:(x.map hexdig).toArray.foldl (λacc d=>acc*16+d) 0=hexval x:=by
  rw [List.foldl_toArray,List.foldl_map];rfl
 rw [if_neg (by simp),if_neg (by simp),ev]
 rfl
theorem NT {M:Model}{A:Around}{E:Value->Shared->Prop}{s:Shared}{Q:Value->Shared->Prop}{v:Value}{text:List Nat}{n:Int}
  (hs:(text.takeWhile (· != 0)).length<=640) (hr:(int_private% "readNumeral") 0 16 (text.takeWhile (· != 0))=(int_private% "Numeral.value") n)
  (ha:((text.takeWhile (· != 0)).length==text.length)=true) (h:Q (.int n s.toks) { s with toks:=s.toks+1 }) :
  wpAny M A ((int_private% "intFromText") v text 16) Q E s:=by
 obtain ⟨hp,g,d,tk,os⟩:=s
 repeat (any_goals (first
  | assumption
  | (with_reducible refine wpAny_ite_true (decide_eq_true hs) ?_)
  | (with_reducible refine wpAny_ite_true (decide_eq_true ha) ?_)
  | wp_step))
 all_goals (try rw [hr])
 all_goals (try dsimp only)
 repeat (any_goals (first
  | assumption
  | (with_reducible refine wpAny_ite_true (decide_eq_true hs) ?_)
  | (with_reducible refine wpAny_ite_true (decide_eq_true ha) ?_)
  | wp_step))
theorem G1 (x:Txt)(h:x.all hexd=true):x.takeWhile (· != 0)=x:=by
 induction x with
 | nil=>rfl
 | cons c x ih=>
  rw [all_cons,and_eq_true] at h
  obtain ⟨_,_,_,d4,_⟩:=Ce h.1
  rw [List.takeWhile_cons,if_pos (by simpa using d4),ih h.2]
set_option maxHeartbeats 4000000 in
theorem NU {x:Txt}{u v:Tok}(h:x.all hexd=true)(ne:x≠[])(hl:x.length<=640):Gives (Builtin.«int.__new__» ⟨[.type "int",.str (txt x) u,.int 16 v],[]⟩) (.int (hexval x)):=
 .of_wp λM A E s Q hq=>by
  obtain ⟨hp,g,d,tk,os⟩:=s
  have f1:=F.conv_sub_int
  have f2:=F.madeHere_int
  have f6:typeOf (.str (txt x) u)=pure (.type "str"):=rfl
  have e0:(txt x).cps.all (· < 128)=true:=by
   rw [<- Array.all_toList]
   show x.toArray.toList.all _=true
   rw [List.toList_toArray,all_eq_true]
   intro c hc
   obtain ⟨_,_,_,_,_,_,_,d8,_⟩:=Ce (all_eq_true.mp h c hc)
   exact decide_eq_true d8
  have e1:(txt x).cps.toList=x:=by simp [txt]
  have hs:(x.takeWhile (· != 0)).length<=640:=by rw [G1 x h];exact hl
  have hr:(int_private% "readNumeral") 0 16 (x.takeWhile (· != 0))=(int_private% "Numeral.value") (hexval x):=by rw [G1 x h];exact UI x h ne
  have ha:((x.takeWhile (· != 0)).length==x.length)=true:=by rw [G1 x h];exact beq_self_eq_true _
  have hk:=W.KIN.Hid.mk (And.intro hs (And.intro hr ha))
  clear hs hr ha hl h ne
  repeat (any_goals (first
   | assumption
   | ((with_reducible show wpAny _ _ ((int_private% "intFromText") _ _ _) _ _ _);simp only [e0,e1,if_true];refine NT hk.out.1 hk.out.2.1 hk.out.2.2 ?_)
   | wp_step))
  all_goals first | exact ⟨_,rfl,hq⟩ | skip
end Mi
end
section
open PySem PySem.W PyProof.Rows
open PySem.Builtin PySem.Builtin.Str
set_option maxRecDepth 100000
namespace Mi
def Wc (x:Txt × Int):M PV:=am (x.2==16&&!x.1.isEmpty&&x.1.all hexd&&x.1.length<=640) (ae (.int (hexval x.1)))
def TX (l:List PV):Option (Txt × Int):=un l λp r=>(asS p).bind λs=>un r λq r=>(asI q).bind λi=>cond r.isEmpty (some (s,i)) none
def SM (l:List PV):M PV:=ap (TX l) Wc
theorem P5 {l:List PV}{x:Txt × Int}(h:TX l=some x):l=[.str x.1,.int x.2]:=by
 obtain ⟨p,r,rfl,h⟩:=EK h
 obtain ⟨s,e,h⟩:=aV.mp h
 obtain ⟨q,r,rfl,h⟩:=EK h
 obtain ⟨i,e',h⟩:=aV.mp h
 obtain ⟨e1,rfl⟩:=Fo h
 rw [A8 e,AR e',e1]
theorem G2 (a b:Value):checkTypeCall "int" ⟨[a,b],[]⟩=pure ():=by kernel_rfl
theorem HF (a b:Value):checkBuiltinCall "int.__new__" ⟨[.type "int",a,b],[]⟩=pure ():=by kernel_rfl
theorem Et (a b c:Value):argsOk "object.__init__" ⟨[a,b,c],[]⟩:=by unfold argsOk;kernel_rfl
section
variable {W:Wd}{fm:Fm}{V α' α₁ X0 w1:List Addr}{h h' h₁ w2 v3 start:Heap}{n:Nat}{A:Around}{ps ps':PS}{s s' c0 z0:Shared}{H:Hd}{h₀:Heap}{own:List Addr}{E:Value->Shared->Prop}
theorem LD:OpCall W n fm (.type "int") SM:=.mk λA V ps s l vs C I rl ns=>by
 obtain ⟨⟨x,b⟩,e⟩:=A2 ns
 obtain rfl:=P5 e
 obtain ⟨va,ws,rfl,ra,rs⟩:=rl.inv
 obtain ⟨vb,ws,rfl,rb,rs⟩:=rs.inv
 obtain rfl:ws=[]:=rs.inv
 have ns':am (b==16&&!x.isEmpty&&x.all hexd&&x.length<=640) (ae (PV.int (hexval x))) ps≠.stuck:=ns
 obtain ⟨c,e⟩:=Aj ns'
 refine Am.congr (m':=ae (PV.int (hexval x))) e ?_
 simp only [and_eq_true,decide_eq_true_eq,beq_iff_eq,not_eq_true'] at c
 obtain ⟨⟨⟨rfl,c2⟩,c3⟩,c4⟩:=c
 obtain ⟨_,rfl⟩:=ra.inv;obtain ⟨_,rfl⟩:=rb.inv
 exact callType_new F.called_int F.newNe_int (G2 _ _) (HF _ _) (λobj=>Et obj _ _) F.entry_int_new (NU c3 (by intro q;rw [q] at c2;cases c2) c4).meets
  (show (Made.int (hexval x)).post _ s from ⟨rfl,OkE.same I (.int _ _)⟩)
end
end Mi
end
section
open PySem PySem.W PyProof.Rows
set_option maxRecDepth 100000
namespace Mi
def IT (h:Heap)(f:Addr)(fd:FuncData)(fi:Fi):Prop:=
 (∃ o,h.get? f=some o/\o.data = .func fd)/\fd.scope=fi.scope/\fd.body = .stmts fi.body/\fd.closure=[]/\fd.globals=mainGlobals/\fd.builtins=builtinsNs /\
  ∃ c oc vs t,fd.code = .ref c/\h.get? c=some oc/\oc.cls = .type "code"/\oc.data = .fields vs/\vs[1]? = some (.str fd.qualname t)
theorem IT.fnAt {h:Heap}{f:Addr}{fd:FuncData}{fi:Fi}(x:IT h f fd fi):FnAt h f fd fi:=by
 obtain ⟨h1,h2,h3,h4,h5,h6,c,oc,vs,t,e1,e2,e3,e4,e5⟩:=x
 exact ⟨h1,h2,h3,h4,h5,h6,c,oc,vs,t,e1,e2,e4,e5⟩
section
variable {W:Wd}{fm:Fm}{V α' α₁ X0 w1:List Addr}{h h' h₁ w2 v3 start:Heap}{n:Nat}{A:Around}{ps ps':PS}{s s' c0 z0:Shared}{H:Hd}{h₀:Heap}{own:List Addr}{E:Value->Shared->Prop}
theorem InvS.tabStep (F:FmOk W.h₀ fm)(I:InvS W fm V ps s){P:Addr}(hP:P∈fm.tab)(x:ExtBut P s.heap h')(lv:(h'.get? P).isSome=true)(tb:∀ Q∈fm.tab,Cr W.H h' Q){tk:Nat} :
  InvS W fm V ps { s with heap:=h',toks:=tk }/\Rel fm.stk fm.tab V s.heap h':=by
 have neT:∀ b,b∉fm.tab->b≠P:=λb m q=>m (q▸hP)
 have R:Rel fm.stk fm.tab V s.heap h':=⟨λb o e U m U=>x b o (neT b m) e,λb o e U m U=>⟨o.slots,x b o (neT b m) e⟩,λb e=>by
  cases q:s.heap.get? b with
  | none=>rfl
  | some o=>
   by_cases z:b=P
   ·rw [z] at e;rw [e] at lv;cases lv
   ·rw [x b o z q] at e;cases e⟩
 have pav:=F.tabAv P hP
 refine ⟨⟨I.inv.carry F R ⟨I.inv.lists.len,λi l e=>?_,I.inv.lists.nodup,I.inv.lists.fresh,I.inv.lists.apart⟩ (.refl ..) ?_ tb,I.gens,I.os⟩,R⟩
 ·obtain ⟨a,vs,h1,⟨k,h2⟩,h3⟩:=I.inv.lists.at_ i l e
  exact ⟨a,vs,h1,⟨k,x a _ (λq=>I.inv.lists.apart a (mem_of_getElem? h1) (q▸pav)) h2⟩,RepL.stays I.inv.lists R (prefix_refl _) F.frsAv F.tabAv h3⟩
 ·refine I.inv.frames.of_keeps λb o e nf=>⟨o,x b o (λq=>?_) e,rfl⟩
  obtain ⟨ps0,e0,_⟩:=I.inv.tabs P hP
  rw [q,e0] at e;cases e;exact nf ps0 rfl
theorem Gb {name qual:Str}{params:Arguments}{body:List Stmt}{scope:Scope}{pos:Pos}{fl:Nat}{c P:Addr}{fi:Fi}{Q:Value->Shared->Prop}(C:Ctx W fm n A)(I:InvS W fm V ps s)(hc:fm.env.code = .ref c)(hcd:CodeHd W.h₀ c P)(hP:fm.tab=[P])
  (hp:pos=W.H.tabPos) (hq:qual=W.H.tabQ) (hfree:∀ y∈scope.names,y.2≠.free) (hs:scope=fi.scope) (hb:body=fi.body) (hbm:∃ bm ob,W.H.mg "__builtins__" = some (.ref bm)/\bm≠builtinsNs/\W.h₀.get? bm=some ob/\ob.cls = .type "module"/\ob.dict=some builtinsNs/\ob.data = .plain)
  (h:∀ f doc ctv c' s',InvS W fm V ps s'->Rel fm.stk fm.tab V s.heap s'.heap->f∉fm.av->s.heap.get? f=none->IT s'.heap f (fnX name qual params body scope [] .none .none doc ((W.H.mg "__name__").getD .none) none (.ref c') ctv) fi->Q (.ref f) s') :
  wpAny W.m A (makeFunction name qual params (.stmts body) scope fm.env [] [] [] pos fl) Q E s:=by
 have hPm:P∈fm.tab:=by rw [hP];exact mem_singleton_self _
 have hcl:closureFor scope fm.env=pure []:=closureFor_none hfree
 have hg:s.heap.Ns mainGlobals W.H.mg:=C.hd.g.keeps I.inv.base
 have hcd':=hcd.keeps I.inv.base
 obtain ⟨bm,ob,b1,b2,b3,b4,b5,b6⟩:=hbm
 obtain ⟨ps0,eP,ht⟩:=I.inv.tabs P hPm
 have pav:=C.fm.tabAv P hPm
 have notP:∀ b o,W.h₀.get? b=some o->b≠P:=λb o e q=>by rw [q,C.fm.fresh P pav] at e;cases e
 have hgP:mainGlobals≠P:=by
  obtain ⟨o,_,_,e,_⟩:=C.hd.g
  exact notP _ _ e
 have hbG:bm≠mainGlobals:=λq=>by
  obtain ⟨o,es,ep,e,hd,_⟩:=C.hd.g
  rw [q,e] at b3;cases b3;rw [hd] at b6;cases b6
 rcases ht with rfl | ⟨k,oc,vs,t,rfl,k1,k2,k3,k4⟩
 ·rw [makeFunction_eq]
  simp only [List.zip_nil_right,List.filterMap_nil,isEmpty_nil,if_true,pure_bind]
  unfold makeTail
  rw [hcl,C.fm.glob,C.fm.bi]
  refine bg (bh ?_)
  simp only [isEmpty_nil,if_true]
  refine bg (bh ?_)
  refine bg (wpAny_functionCodeX hc (hcd'.code eP trivial) (hcd'.tab eP) rfl λc' h' tk hx hge hlt U hrec htb htc=>?_)
  have hg':=hg.extBut hx hgP
  refine bg (wpAny_builtinsFor hg' b1 b2 (hx _ _ (notP _ _ b3) (I.inv.base _ _ b3)) b4 b5 b6 ?_)
  refine bg (wpAny_nsGet hg' ?_)
  obtain ⟨P',hP',_,⟨⟨oc,vs,q1,q2,q3,q4⟩,_⟩⟩:=htc
  obtain ⟨W8,X8,Y8,Y7,W1,g1,g2,g3⟩:=hrec
  cases W1
  rw [q1] at g1;cases g1
  rw [q3] at g2;cases g2
  have tb:∀ Q∈fm.tab,Cr W.H h' Q:=λQ hQ=>by
   rw [hP] at hQ
   rw [mem_singleton.mp hQ]
   exact ⟨_,htb.2,.inr ⟨c',_,_,Y7,by rw [<- hp];rfl,q1,q2,q3,by rw [<- hq];exact g3⟩⟩
  have fin:∀ (doc:Value) (tk:Nat),wpAny W.m A (newObj (.type "function") (.func (fnX name qual params body scope [] .none .none doc ((W.H.mg "__name__").getD .none) none (.ref c') .none))) Q E { s with heap:=h',toks:=tk }:=λdoc tk=>by
   obtain ⟨J,R⟩:=I.tabStep (tk:=tk) C.fm hPm hx (by rw [htb.2];rfl) tb
   have fr:=Bh J (AJ _)
   refine wpAny_newObj_type (h _ _ _ _ _ (Bs J _) (BQ (s:={ s with heap:=h',toks:=tk }) R _) fr (R.live _ (AJ _)) ⟨⟨_,get?_push_size _ rfl,rfl⟩,hs,by rw [<- hb],rfl,rfl,rfl,c',_,_,Y7,rfl,get?_push_of_some _ q1,q2,q3,g3⟩) (by size_fits)
  cases hdoc:docOf body with
  | none=>exact bg (bh (fin _ _))
  | some t=>exact bg (wpAny_mkText (fin _ _))
 ·refine makeFunction_hit (mg:=W.H.mg) (cv:=.ref k) hcl C.fm.glob hg hc hcd' eP trivial (by rw [hp];simp [codeAmong,rawInt]) ⟨bm,ob,b1,b2,hbG,notP _ _ b3,I.inv.base _ _ b3,b4,b5,b6⟩ λctv doc h' tk hk hsz=>?_
  have J:InvS W fm V ps { s with heap:=h',toks:=tk }:=⟨I.inv.keeps hk,I.gens,I.os⟩
  have R:Rel fm.stk fm.tab V s.heap h':=.of_keeps hk
  exact h _ doc ctv k _ (Bs J _) (BQ (s:={ s with heap:=h',toks:=tk }) R _) (Bh J (AJ _)) (R.live _ (AJ _)) ⟨⟨_,get?_push_size _ rfl,rfl⟩,hs,by rw [<- hb],rfl,rfl,rfl,k,oc,vs,t,rfl,get?_push_of_some _ (hk _ _ k1),k2,k3,by rw [hq];exact k4⟩
end
end Mi
end
section
open PySem PySem.W PyProof.Rows
open PySem.Builtin PySem.Builtin.Str
set_option maxRecDepth 100000
namespace Mi
def posns (c:Nat)(x:Txt)(hi:Nat):List Nat:=(range hi).filter λi=>x[i]?==some c
def MN (l:List PV):Option (Nat × Int × Int):=un l λp r=>(asS p).bind λs=>(one s).bind λc=>un r λq r=>(asI q).bind λa=>un r λq r=>(asI q).bind λb=>cond r.isEmpty (some (c,a,b)) none
theorem P6 {l:List PV}{x:Nat × Int × Int}(h:MN l=some x):l=[.str [x.1],.int x.2.1,.int x.2.2]:=by
 obtain ⟨p,r,rfl,h⟩:=EK h
 obtain ⟨s,es,h⟩:=aV.mp h
 obtain ⟨c,ec,h⟩:=aV.mp h
 obtain ⟨q,r,rfl,h⟩:=EK h
 obtain ⟨a,ea,h⟩:=aV.mp h
 obtain ⟨q',r,rfl,h⟩:=EK h
 obtain ⟨b,eb,h⟩:=aV.mp h
 obtain ⟨rfl,rfl⟩:=Fo h
 rw [A8 es,EL ec,AR ea,AR eb]
def G3 (v:PV)(l:List PV):M PV:=ap (asS v) λx=>ap (MN l) λq=>am (q.2.1==0&&0<=q.2.2&&Ag q.2.2) (ae (.int (posns q.1 x (min q.2.2.toNat x.length)).length))
def EZ (v:PV)(l:List PV):M PV:=ap (asS v) λx=>ap (MN l) λq=>am (q.2.1==0&&0<=q.2.2&&Ag q.2.2) (match (posns q.1 x (min q.2.2.toNat x.length)).getLast? with
  | some i=>ae (.int i)
  | none=>aq)
theorem IU (x:Txt)(c hi i:Nat)(hh:hi<=x.length):(i+(⟨#[c]⟩:Str).length<=hi/\subAt (txt x) ⟨#[c]⟩ i=true)↔i<hi/\x[i]? = some c:=by
 have e:(⟨#[c]⟩:Str).length=1:=rfl
 have:subAt (txt x) ⟨#[c]⟩ i=true↔x[i]? = some c:=by
  rw [StrLaws.subAt_eq]
  simp only [e,txt]
  exact StrLaws.take1_drop
 rw [this,e]
 constructor
 ·rintro ⟨h1,h2⟩;exact ⟨by exact la [_,_] [([2,3,0],[4])] ([2,3,0],[4]) rfl h1,h2⟩
 ·rintro ⟨h1,h2⟩;exact ⟨by exact la [_,_] [([2,3,0],[4])] ([2,3,0],[4]) rfl h1,h2⟩
theorem MO (x:Txt)(c hi limit:Nat)(hh:hi<=x.length)(l:List Nat):∀ (found:Array Nat) (free:Nat),(∀ i∈l,free<=i)->l.Pairwise (· < ·)->found.size+l.length<=limit ->
  (forIn l (found,free) (StrLaws.occBody (txt x) ⟨#[c]⟩ hi limit)).run.fst.toList=found.toList++l.filter λi=>decide (i<hi)&&(x[i]?==some c):=by
 induction l with
 | nil=>intro found free _ _ _;simp
 | cons a l ih=>
  intro found free hf hp hl
  have hp':=List.pairwise_cons.mp hp
  rw [forIn_cons]
  unfold StrLaws.occBody
  have hfa:=hf a mem_cons_self
  simp only [length_cons] at hl
  by_cases q:a<hi/\x[a]? = some c
  ·have q':=(IU x c hi a hh).mpr q
   rw [if_pos ⟨⟨⟨by show found.size<limit;exact la [_,_,_] [([2,4,3,0,0],[6])] ([2,3,0],[6]) rfl hl,hfa⟩,q'.1⟩,q'.2⟩]
   refine (ih (found.push a) (a+1) (λi m=>hp'.1 i m) hp'.2 (by simp;exact la [_,_,_] [([2,4,3,0,0],[6])] ([2,3,0,4,0],[6]) rfl hl)).trans ?_
   rw [filter_cons,if_pos (by simp [q.1,q.2])]
   simp
  ·have q':¬ (((((found,free):Array Nat × Nat).fst.size<limit/\((found,free):Array Nat × Nat).snd<=a)/\a+(⟨#[c]⟩:Str).length<=hi)/\subAt (txt x) ⟨#[c]⟩ a=true):=λz=>q ((IU x c hi a hh).mp ⟨z.1.2,z.2⟩)
   rw [if_neg q']
   refine (ih found free (λi m=>hf i (mem_cons_of_mem _ m)) hp'.2 (by exact la [_,_,_] [([2,4,3,0,0],[6])] ([2,4,0],[6]) rfl hl)).trans ?_
   rw [filter_cons,if_neg (by simpa using λh=>by simpa using λz=>q ⟨h,z⟩)]
theorem FA (c:Nat)(x:Txt)(hi:Nat):((range' 0 (hi+1 - 0)).filter λi=>decide (i<hi)&&(x[i]?==some c))=posns c x hi:=by
 rw [Nat.sub_zero,<- List.range_eq_range',range_succ,filter_append]
 have e1:[hi].filter (λi=>decide (i<hi)&&(x[i]?==some c))=[]:=by simp
 rw [e1,append_nil]
 unfold posns
 exact List.filter_congr λi m=>by rw [mem_range] at m;simp [m]
theorem P7 (x:Txt)(c hi:Nat)(hh:hi<=x.length)(l:List Nat):∀ (st:Option Nat),(forIn l st (StrLaws.lastBody (txt x) ⟨#[c]⟩ hi)).run=match (l.filter λi=>decide (i<hi)&&(x[i]?==some c)).getLast? with | some a=>some a | none=>st:=by
 induction l with
 | nil=>intro st;simp
 | cons a l ih=>
  intro st
  rw [forIn_cons]
  unfold StrLaws.lastBody
  by_cases q:a<hi/\x[a]? = some c
  ·rw [if_pos ((IU x c hi a hh).mpr q)]
   refine (ih (some a)).trans ?_
   rw [filter_cons,if_pos (by simp [q.1,q.2]),List.getLast?_cons]
   cases (l.filter λi=>decide (i<hi)&&(x[i]?==some c)).getLast? <;> rfl
  ·rw [if_neg λz=>q ((IU x c hi a hh).mp z)]
   refine (ih st).trans ?_
   rw [filter_cons,if_neg (by simpa using λh=>by simpa using λz=>q ⟨h,z⟩)]
theorem IV (x y:Str)(i j:Int)(t u v z:Tok):Gives («str.count» ⟨[.str x t,.str y u,.int i v,.int j z],[]⟩) (.int (occurrences x y (fromIndex x.length i) (min (fromIndex x.length j) x.length) (x.length+1)).length):=by
 show Gives (retInt (occurrences x y (fromIndex x.length i) (min (fromIndex x.length j) x.length) (x.length+1)).length) _
 exact .of_eq rfl
theorem HG (x y:Str)(i j:Int)(t u v z:Tok)(k:Nat)(h:lastOccurrence x y (fromIndex x.length i) (min (fromIndex x.length j) x.length)=some k):Gives («str.rindex» ⟨[.str x t,.str y u,.int i v,.int j z],[]⟩) (.int k):=by
 show Gives (match lastOccurrence x y (fromIndex x.length i) (min (fromIndex x.length j) x.length) with | some i=>retInt i | none=>(do rule "str.rindex.not-found";raiseError "ValueError" "substring not found")) _
 rw [h]
 exact .of_eq rfl
section
variable {W:Wd}{fm:Fm}{V α' α₁ X0 w1:List Addr}{h h' h₁ w2 v3 start:Heap}{n:Nat}{A:Around}{ps ps':PS}{s s' c0 z0:Shared}{H:Hd}{h₀:Heap}{own:List Addr}{E:Value->Shared->Prop}
theorem E0 {len:Nat}{b:Int}(h:0<=b):fromIndex len b=b.toNat:=by
 unfold fromIndex
 rw [if_neg (by lia)]
 congr 1;lia
theorem G4 {β:Type}{f:Nat × Int × Int->M β}{l:List PV}{vs:List Value}(r:RepL W.H W.h₀ fm.av V h l vs)(ns:ap (MN l) f ps≠.stuck):∃ c a b t u v,l=[.str [c],.int a,.int b]/\vs=[.str (txt [c]) t,.int a u,.int b v]:=by
 obtain ⟨⟨c,a,b⟩,e⟩:=A2 ns
 obtain rfl:=P6 e
 obtain ⟨_,_,rfl,r1,s1⟩:=r.inv
 obtain ⟨_,_,rfl,r2,s2⟩:=s1.inv
 obtain ⟨_,_,rfl,r3,s3⟩:=s2.inv
 obtain ⟨_,rfl⟩:=r1.inv;obtain ⟨_,rfl⟩:=r2.inv;obtain ⟨_,rfl⟩:=r3.inv
 obtain rfl:_=[]:=s3.inv
 exact ⟨c,a,b,_,_,_,rfl,rfl⟩
theorem LE:MethAt "str" "str.count" "count":=⟨PySem.F.plainAttrs_str,PySem.F.slot_str_count,PySem.F.type_str_count⟩
theorem JY:MethAt "str" "str.rindex" "rindex":=⟨PySem.F.plainAttrs_str,PySem.F.slot_str_rindex,PySem.F.type_str_rindex⟩
theorem P8:OpMeth W n fm BN "str.count" G3:=.mk λA V ps s p v l vs C I hK r rl ns=>by
 obtain ⟨x,rfl⟩:=GZ hK
 obtain ⟨c,a,b,t,u,v,rfl,rfl⟩:=G4 rl ns
 obtain ⟨t0,rfl⟩:=r.inv
 have ns':am (a==0&&0<=b&&Ag b) (ae (PV.int (posns c x (min b.toNat x.length)).length)) ps≠.stuck:=ns
 obtain ⟨cc,e⟩:=Aj ns'
 simp only [and_eq_true,decide_eq_true_eq,beq_iff_eq] at cc
 obtain ⟨⟨rfl,hb⟩,_⟩:=cc
 refine Am.congr (m:=G3 (.str x) [.str [c],.int 0,.int b]) e ?_
 have f0:fromIndex (txt x).length 0=0:=E0 (by lia)
 have key:occurrences (txt x) (txt [c]) (fromIndex (txt x).length 0) (min (fromIndex (txt x).length b) (txt x).length) ((txt x).length+1)=posns c x (min b.toNat x.length):=by
  rw [f0,E0 hb,AC,StrLaws.occ_eq]
  have:=MO x c (min b.toNat x.length) (x.length+1) (by exact la [_,_] [([2],[4])] ([2],[4]) rfl (Nat.min_le_right _ _)) (range' 0 (min b.toNat x.length+1 - 0)) #[] 0 (λU U=>aP _) (List.pairwise_lt_range' ..) (by simp;exact la [_,_] [([2],[4])] ([2],[4]) rfl (Nat.min_le_right _ _))
  exact this.trans (by rw [FA];simp)
 have g:=IV (txt x) (txt [c]) 0 b t0 t u v
 rw [key] at g
 exact call_gives F.slot_str_count (typeIs_str _ _ _) F.entry_str_count (F.args_str_count_4 _ _ _ _) g (OkE.same I (.int _ _))
theorem NV:OpMeth W n fm BN "str.rindex" EZ:=.mk λA V ps s p v l vs C I hK r rl ns=>by
 obtain ⟨x,rfl⟩:=GZ hK
 obtain ⟨c,a,b,t,u,v,rfl,rfl⟩:=G4 rl ns
 obtain ⟨t0,rfl⟩:=r.inv
 have ns':am (a==0&&0<=b&&Ag b) (match (posns c x (min b.toNat x.length)).getLast? with
  | some i=>ae (PV.int i)
  | none=>aq) ps≠.stuck:=ns
 obtain ⟨cc,e⟩:=Aj ns'
 rw [e] at ns'
 simp only [and_eq_true,decide_eq_true_eq,beq_iff_eq] at cc
 obtain ⟨⟨rfl,hb⟩,_⟩:=cc
 refine Am.congr (m:=EZ (.str x) [.str [c],.int 0,.int b]) e ?_
 have f0:fromIndex (txt x).length 0=0:=E0 (by lia)
 have key:lastOccurrence (txt x) (txt [c]) (fromIndex (txt x).length 0) (min (fromIndex (txt x).length b) (txt x).length)=(posns c x (min b.toNat x.length)).getLast?:=by
  rw [f0,E0 hb,AC,StrLaws.last_eq]
  have:=P7 x c (min b.toNat x.length) (by exact la [_,_] [([2],[4])] ([2],[4]) rfl (Nat.min_le_right _ _)) (range' 0 (min b.toNat x.length+1 - 0)) none
  refine this.trans ?_
  rw [FA]
  cases (posns c x (min b.toNat x.length)).getLast? <;> rfl
 cases q:(posns c x (min b.toNat x.length)).getLast? with
 | none=>rw [q] at ns';exact absurd rfl ns'
 | some k=>
  simp only [q] at ns' ⊢
  exact call_gives F.slot_str_rindex (typeIs_str _ _ _) F.entry_str_rindex (F.args_str_rindex_4 _ _ _ _) (HG (txt x) (txt [c]) 0 b t0 t u v k (key.trans q)) (OkE.same I (.int _ _))
end
end Mi
end
section
open PySem PySem.W PyProof.Rows
set_option maxRecDepth 100000
namespace Mi
abbrev SimF.T (W:Wd)(n:Nat)(fm:Fm)(P:Heap->Prop)(e:Expr)(m:M PV):Prop:=∀ A V ps s,Ctx W fm n A->InvS W fm V ps s->P s.heap->m ps≠.stuck->Am W fm A V ps s (eval e fm.env) m
structure SimF (W:Wd)(n:Nat)(fm:Fm)(P:Heap->Prop)(e:Expr)(m:M PV):Prop where
 go:SimF.T W n fm P e m
noncomputable instance {W:Wd} {n:Nat} {fm:Fm} {P:Heap->Prop} {e:Expr} {m:M PV}:CoeFun (SimF W n fm P e m) (λU=>SimF.T W n fm P e m):=⟨SimF.go⟩
def P9 (W:Wd)(fm:Fm)(P:Heap->Prop):Prop:=∀ V ps s h',FmOk W.h₀ fm->InvS W fm V ps s->P s.heap->Rel fm.stk fm.tab V s.heap h'->P h'
inductive CrAt (fm:Fm)(x:Str)(fi:Fi)(f:Addr)(of:Obj)(fd:FuncData)(h:Heap):Prop
 | mk (m:Str->Option Value) (k1:h.Ns fm.env.locals m) (k2:m x=some (.ref f)) (k3:f∉fm.av) (k4:h.get? f=some of) (k5:of.data = .func fd) (k6:IT h f fd fi):CrAt fm x fi f of fd h
def aA (m:M Txt)(l:List PV):M Txt:=λs=>match m ⟨λi=>l[i]?,s.st⟩ with
 | .ok t s'=>.ok t ⟨s.loc,s'.st⟩
 | .ex e s'=>.ex e ⟨s.loc,s'.st⟩
 | .stuck=>.stuck
def TY (v:PV):M Txt:=match v with
 | .str t=>ae t
 | _=>aq
def Eu (m2:M PFlow):M Txt:=
 ac (az [ac (af 2) D7,ae (.str (" (at ":Str).cps.toList),ac (ac (ag [af 0,af 1]) (ak m2)) D7,ae (.str (")":Str).cps.toList)] []) TY
section
variable {W:Wd}{fm:Fm}{V α' α₁ X0 w1:List Addr}{h h' h₁ w2 v3 start:Heap}{n:Nat}{A:Around}{ps ps':PS}{s s' c0 z0:Shared}{H:Hd}{h₀:Heap}{own:List Addr}{E:Value->Shared->Prop}{P:Heap->Prop}
theorem SimE.toF {e:Expr}{m:M PV}(h:SimE W n fm e m):SimF W n fm P e m:=.mk λA V ps s C I U ns=>h A V ps s C I ns
theorem CrAt.stay {x:Str}{fi:Fi}{f:Addr}{of:Obj}{fd:FuncData}:P9 W fm (CrAt fm x fi f of fd):=λα ps s h' F I q R=>by
 obtain ⟨m,⟨oL,es,ep,n1,n2,n3⟩,hm,fav,f1,f2,⟨_,g1,g2,g3,g4,g5,c,oc,vs,t,c1,c2,c3,c4,c5⟩⟩:=q
 have nL:fm.env.locals∉fm.tab:=λm=>by
  obtain ⟨ps,e',_⟩:=I.inv.tabs _ m
  rw [n1] at e';cases e';cases n2
 have at_:∃ sl,h'.get? fm.env.locals=some { oL with slots:=sl }:=by
  by_cases q:fm.env.locals∈frs fm.stk
  ·exact R.slot _ _ n1 q nL λz=>I.inv.lists.apart _ z F.locAv
  ·exact ⟨oL.slots,R.keep _ _ n1 q nL λz=>I.inv.lists.apart _ z F.locAv⟩
 obtain ⟨sl,e1⟩:=at_
 have fk:h'.get? f=some of:=R.keep _ _ f1 (λz=>fav (F.frsAv _ z)) (λz=>fav (F.tabAv _ z)) λz=>by
  obtain ⟨ws,o',e',_,k',d'⟩:=I.inv.lists.isList z
  rw [f1] at e';cases e';rw [f2] at d';cases d'
 have ck:h'.get? c=some oc:=R.keep _ _ c2 (λz=>by
  obtain ⟨_,o',ho',nf⟩:=Heap.FunFrames.mem I.inv.frames z
  rw [c2] at ho';cases ho';exact nf vs c4) (λz=>by
  obtain ⟨ps,e',_⟩:=I.inv.tabs _ z
  rw [c2] at e';cases e';cases c3) λz=>by
  obtain ⟨ws,o',e',_,k',d'⟩:=I.inv.lists.isList z
  rw [c2] at e';cases e';rw [c4] at d';cases d'
 exact ⟨m,⟨_,es,ep,e1,n2,n3⟩,hm,fav,fk,f2,⟨⟨of,fk,f2⟩,g1,g2,g3,g4,g5,c,oc,vs,t,c1,ck,c3,c4,c5⟩⟩
set_option tactic.hygienic true in
theorem Qa {v:Expr}{pos:Pos}{m:M PV}(hv:SimF W n fm P v m):SimF W n fm P (.FormattedValue v (-1) none pos) (ac m D7):=.mk λA V ps s C I hP ns=>by
 refine wpAny_FormattedValue_plain (Am.seq (hv A V ps s C I hP (Ad ns)) (λp v α₁ o0 c0 w0 d0 u0 W0 y0=>?_) λx c0 q=>q.bind)
 rw [Ac y0] at ns ⊢
 cases p <;> (try exact absurd rfl ns)
 ·rename_i i
  obtain ⟨t,rfl⟩:=W0.inv
  have ns':am (Ag i) (ae (PV.str (BM i))) o0≠.stuck:=ns
  obtain ⟨c,e⟩:=Aj ns'
  refine aW (Q:=OkE W fm α₁ c0.heap (ae (PV.str (BM i)) o0)) (E:=λU U=>False) ?_ (λU U q=>?_) λU U z=>z.elim
  ·refine wpAny_formatField_int (H6 c) ?_
   have:=OkE.same (t:=c0.toks+1+1) w0 (RepV.str (H:=W.H) (h₀:=W.h₀) (av:=fm.av) (V:=α₁) (h:=c0.heap) (BM i) (c0.toks+1))
   rw [MK] at this
   exact this
  ·have eq:D7 (.int i) o0=ae (PV.str (BM i)) o0:=e
   rw [eq];exact q.after d0 u0
 ·rename_i x
  obtain ⟨t,rfl⟩:=W0.inv
  have ns':au x o0≠.stuck:=ns
  obtain ⟨hl,e⟩:=GV ns'
  have eq:D7 (.str x) o0 = .ok (.str x) o0:=e
  rw [eq]
  exact wpAny_formatField_str ((OkE.same' w0 (.str x t)).after d0 u0) ((OkE.same (t:=c0.toks+1) w0 (.str x c0.toks)).after d0 u0) (by rw [AC];exact hl)
set_option tactic.hygienic true in
theorem NW (st:P9 W fm P){R0:R PV}(C:Ctx W fm n A):∀ {es:List Expr} {ms:List (M PV)},All2 (SimF W n fm P) es ms->∀ (acc:Txt) (V:List Addr) (ps:PS) (s:Shared),InvS W fm V ps s->P s.heap->Grow w1 V start->Rel fm.stk fm.tab w1 start s.heap->R0=az ms acc ps->R0≠.stuck ->
  Joins W.m A (ExE W fm w1 start R0) (evalEach es fm.env) (txt acc) (λout c0=>out.length<=sizeLine/\OkE W fm w1 start R0 (.str out c0.toks) { c0 with toks:=c0.toks+1 }) s:=by
 intro _ _ hS
 induction hS with
 | nil=>
  intro acc V ps s I hP g x e ns
  have ns':au acc ps≠.stuck:=by rw [e] at ns;exact ns
  obtain ⟨hl,e'⟩:=GV ns'
  refine ⟨by rw [AC];exact hl,.str acc,ps,V,e.trans e',I.tok _,g,x,.str acc _⟩
 | @cons v m es ms q qs ih=>
  intro acc V ps s I hP g x e ns
  have eq:R0=ac m (λv=>match v with
   | .str t=>am ((acc++t).length<=big) (az ms (acc++t))
   | _=>aq) ps:=e
  show wpAny W.m A (eval v fm.env) _ _ s
  refine Am.seq (q A V ps s C I hP (Ad (eq▸ns))) (λp v α₁ o0 c0 w0 d0 u0 W0 y0=>?_) λy c0 z=>by rw [eq];exact z.bind.after g x
  rw [Ac y0] at eq
  cases p <;> (try exact absurd eq ns)
  rename_i t
  obtain ⟨tk,rfl⟩:=W0.inv
  have eq:R0=am ((acc++t).length<=big) (az ms (acc++t)) o0:=eq
  have ns':am ((acc++t).length<=big) (az ms (acc++t)) o0≠.stuck:=λz=>ns (eq.trans z)
  obtain ⟨c,e2⟩:=Aj ns'
  rw [decide_eq_true_eq] at c
  refine ⟨txt t,tk,rfl,by rw [DX,AC,<- BH];exact c,?_⟩
  rw [DX]
  exact ih (acc++t) α₁ o0 c0 w0 (st _ _ _ _ C.fm I hP u0) (g.trans d0 x) (x.trans u0 g.new) (eq.trans e2) ns
theorem JZ (st:P9 W fm P){e1 e2:Expr}{es:List Expr}{ms:List (M PV)}{pos:Pos}(q:All2 (SimF W n fm P) (e1::e2::es) ms):SimF W n fm P (.JoinedStr (e1::e2::es) pos) (az ms []):=.mk λA V ps s C I hP ns=>
 wpAny_JoinedStr (NW st C q [] V ps s I hP (.refl ..) (.refl ..) rfl ns)
theorem VD {x:Str}{fi:Fi}{f:Addr}{of:Obj}{fd:FuncData}{np pos:Pos}{e0:Expr}{es:List Expr}{ms:List (M PV)}{m:M PFlow}(hk:fm.env.kindOf x=some .local)(hd:(x==("__debug__":Str))=false)(q:SimL W (n+1) fm (e0::es) ms)(ok:fi.Ok)
  (hlen:fi.params.length=ms.length) (hb:∀ s vs,vs.length=ms.length->BindsTo s fd ⟨vs,[]⟩ (fi.params.zip vs)) (body:∀ fm':Fm,fm'.sc=fi.sc->fm'.env.scope=fi.scope->fm'.hdl=fm.hdl->SimS W n fm' fi.body m) :
  SimF W (n+1) fm (CrAt fm x fi f of fd) (.Call (.Name x np) (e0::es) [] pos) (ac (ag ms) (ak m)):=.mk λA V ps s C I hP ns=>by
 have hP0:=hP
 obtain ⟨mL,hns,hm,fav,f1,f2,N⟩:=hP0
 unfold Am
 rw [arm_eval_Call_Name']
 refine bg (wpAny_Name (wpAny_loadName_local C.fm.kind hk hns hm ?_) hd)
 refine callWith_function_kw (fd:=fd) (o:=of) (AT (q.plain _) (aW (CM q A V ps s C I (Ad ns)) (λvs c0 z=>?_) λx c0 z=>z.bind))
 obtain ⟨l,o0,α₁,y0,w0,d0,u0,W0⟩:=z
 rw [Ac y0] at ns ⊢
 obtain ⟨_,_,_,_,f1',_,l7⟩:=CrAt.stay (W:=W) (fm:=fm) V ps s c0.heap C.fm I hP u0
 refine ⟨⟨f1',f2⟩,?_⟩
 have len:vs.length=ms.length:=by rw [<- W0.length,EY y0]
 exact aW (IM (l:=l) (vs:=vs) C w0 l7.fnAt ok (hb c0 vs len) (by rw [hlen,len]) W0 body ns) (λU U q=>q.after d0 u0) (λU U q=>q.after d0 u0)
theorem NewExc.since {C e:Addr}{m:Txt}(X:NewExc C h₁ h e m)(l:∀ b,h₁.get? b=none->w2.get? b=none):NewExc C w2 h e m:=by
 obtain ⟨a,o,vs,T,tk,h1,h2,h3,h4,h5,h6,h7,h8⟩:=X
 exact ⟨l _ a,o,vs,T,tk,h1,h2,h3,h4,h5,h6,h7,l _ h8⟩
theorem Qb {t:Txt}{tk:Tok}{Q:Value->Shared->Prop}(C:Ctx W fm n A)(I:InvS W fm V ps s)(h:∀ e s',InvS W fm V ps s'->Rel fm.stk fm.tab V s.heap s'.heap->NewExc W.H.toml s.heap s'.heap e t->Q (.ref e) s') :
  wpAny W.m A (call (.ref W.H.toml) [.str (txt t) tk]) Q E s:=by
 obtain ⟨nm,q,N,bs,hdct,sn,sub,ab,col,dd,k0,k1,k2,k3,k5,mN,hC,hN,hno⟩:=(C.hd.tomlC.keeps I.inv.base).at_
 have hni:mN "__init__" = none:=hno _ (by decide +kernel)
 obtain ⟨hp,g,d,tk',os⟩:=s
 refine wpAny_call_exc_subT (hrest:=by simp [sizeLine]) PySem.F.excBase_ValueError .base hC hN hni λh' e X=>?_
 obtain ⟨T,hT,nT,hI⟩:=X.there
 refine h e _ ⟨I.inv.keeps X.keeps,I.gens,I.os⟩ (.of_keeps X.keeps) ⟨X.new,_,_,T,tk,hT,rfl,rfl,by simp,rfl,rfl,⟨_,hI,rfl,0,rfl⟩,nT⟩
theorem NX {pos:Pos}{args:List (Bool × Sem Value)}{Q:Value->Shared->Prop}(hplain:args.any (·.1)=false)
  (h:wpAny W.m A (evalArgs (.ref W.H.toml) true args []) (λa c0=>a.kw=[]/\ClsAt W.H.toml c0.heap/\wpAny W.m A (call (.ref W.H.toml) a.pos) Q E c0) E s) :
  wpAny W.m A (callWith pos (.ref W.H.toml) [] args []) Q E s:=by
 refine bg (bf (aW h (λa c0 h₁=>bg (wpAny_standAt ?_)) λU U x=>x))
 obtain ⟨apos,akw⟩:=a
 obtain ⟨hkw,K,h₁⟩:=h₁
 obtain rfl:akw=[]:=hkw
 obtain ⟨nm,q,N,bs,hdct,sn,sub,ab,col,dd,k0,k1,k2,k3,k5,mN,hC,hN,hno⟩:=K.at_
 obtain ⟨hp,g,d,tk,os⟩:=c0
 rw [hplain]
 refine bg (wpAny_keeperOf_exc hC ?_)
 exact bg (aW h₁ (λr z0 hr=>bg (bf (wpAny_point (bh hr)))) λU U x=>x)
inductive OkX (W:Wd)(fm:Fm)(V:List Addr)(h:Heap)(r:R Txt)(f:Flow)(s':Shared):Prop
 | mk (a:Addr) (t:Txt) (ps':PS) (α':List Addr) (k1:f = .ret (.ref a)) (k2:r = .ok t ps') (k3:InvS W fm α' ps' s') (k4:Grow V α' h) (k5:Rel fm.stk fm.own V h s'.heap) (k6:NewExc W.H.toml h s'.heap a t):OkX W fm V h r f s'
def FU:List (Str × NameKind × Nat):=[(("src":Str),NameKind.local,0),(("pos":Str),NameKind.local,1),(("msg":Str),NameKind.local,2),(("TOMLDecodeError":Str),NameKind.globalImplicit,3)]
structure SufFm (W:Wd)(fm:Fm)(c P:Addr):Prop where
 sc:fm.sc=FU
 kind:fm.env.kindOf "coord_repr" = some .local
 code:fm.env.code = .ref c
 head:CodeHd W.h₀ c P
 tab:fm.tab=[P]
 qual:fm.env.qual++("coord_repr":Str)=W.H.tabQ
set_option tactic.hygienic true in
theorem J0 {fi:Fi}{params:Arguments}{scope:Scope}{body:List Stmt}{c P:Addr}{m2:M PFlow}{dp p1 p2 p3 p4 p5 p6 p7 p8 p9 p10 p11 p12 p13:Pos}{k1 k2:Nat}(S:SufFm W fm c P)(hp:dp=W.H.tabPos)(hd0:params.defaults=[])(hk0:params.kw_defaults=[])(ha:∀ env,annTrees params none env=[])
  (hfree:∀ y∈scope.names,y.2≠.free) (hs:scope=fi.scope) (hb:body=fi.body) (hlen:fi.params.length=2) (hbd:∀ doc pm c' ctv s vs,vs.length=2->BindsTo s (fnX "coord_repr" W.H.tabQ params body scope [] .none .none doc pm none (.ref c') ctv) ⟨vs,[]⟩ (fi.params.zip vs))
  (ok:fi.Ok) (hbody:∀ fm':Fm,fm'.sc=fi.sc->fm'.env.scope=fi.scope->fm'.hdl=fm.hdl->SimS W n fm' fi.body m2) (C:Ctx W fm (n+1) A) (I:InvS W fm V ps s) (ns:Eu m2 ps≠.stuck) :
  wpAny W.m A (execs [.FunctionDef "coord_repr" params body [] none [] scope none "coord_repr" dp,
   .Return (some (.Call (.Name "TOMLDecodeError" p1) [.JoinedStr [.FormattedValue (.Name "msg" p2) (-1) none p3,.Constant (.str " (at ") k1 p4,.FormattedValue (.Call (.Name "coord_repr" p5) [.Name "src" p6,.Name "pos" p7] [] p8) (-1) none p9,.Constant (.str ")") k2 p10] p11] [] p12)) p13] fm.env)
   (OkX W fm V s.heap (Eu m2 ps)) (ExS W fm V s.heap (Eu m2 ps)) s:=by
 have i0:(("src":Str),NameKind.local,0)∈fm.sc:=by rw [S.sc];simp [FU]
 have i1:(("pos":Str),NameKind.local,1)∈fm.sc:=by rw [S.sc];simp [FU]
 have i2:(("msg":Str),NameKind.local,2)∈fm.sc:=by rw [S.sc];simp [FU]
 have i3:(("TOMLDecodeError":Str),NameKind.globalImplicit,3)∈fm.sc:=by rw [S.sc];simp [FU]
 have hx:∀ k i,(("coord_repr":Str),k,i)∉fm.sc:=λk i=>by
  rw [S.sc]
  intro q
  simp only [FU,mem_cons,Prod.mk.injEq,not_mem_nil,or_false] at q
  rcases q with q | q | q | q <;> exact absurd q.1 (by decide +kernel)
 refine wpAny_execs_cons (nestDef_K hd0 hk0 (ha _) ?_)
 have eq:qualnameIn fm.env ("coord_repr":Str) ("coord_repr":Str)=W.H.tabQ:=by
  unfold qualnameIn
  rw [S.kind,if_neg (by decide)]
  exact S.qual
 rw [eq]
 refine Gb C I S.code S.head S.tab hp rfl hfree hs hb C.hd.bmain λf doc ctv c' c0 J R fav fnew N=>?_
 obtain ⟨mL,hns,hloc⟩:=J.inv.loc
 refine wpAny_storeName_local S.kind hns (λw2 j6 v6=>?_) (by simp [C.fm.kind])
 obtain ⟨W4,u4⟩:=GS (tk:=c0.toks+1) C.fm J hx hns j6 v6
 have fL:f≠fm.env.locals:=λq=>fav (q▸C.fm.locAv)
 obtain ⟨⟨of,of1,of2⟩,N1,N2,N3,N4,N5,cc,oc,vs,t,N6,N7,N8,N9,N10⟩:=N
 have cL:cc≠fm.env.locals:=λq=>by
  obtain ⟨o,_,_,e,d,_⟩:=hns
  rw [q,e] at N7;cases N7;rw [d] at N9;cases N9
 have cr:CrAt fm "coord_repr" fi f of (fnX "coord_repr" W.H.tabQ params body scope [] .none .none doc ((W.H.mg "__name__").getD .none) none (.ref c') ctv) w2:=⟨_,j6,by simp,fav,(v6.2 f fL).trans of1,of2,⟨⟨of,(v6.2 f fL).trans of1,of2⟩,N1,N2,N3,N4,N5,cc,oc,vs,t,N6,(v6.2 cc cL).trans N7,N8,N9,N10⟩⟩
 have R02:=(R.up).trans u4 λa m q=>absurd m q
 have hcall:=VD (fd:=(fnX "coord_repr" W.H.tabQ params body scope [] .none .none doc ((W.H.mg "__name__").getD .none) none (.ref c') ctv)) (W:=W) (n:=n) (np:=p5) (pos:=p8) (f:=f) (of:=of) S.kind (by decide +kernel) (.cons (Gh (pos:=p6) i0 (.inl rfl) (by decide +kernel) (by decide +kernel)) (λU U=>rfl) (.cons (Gh (pos:=p7) i1 (.inl rfl) (by decide +kernel) (by decide +kernel)) (λU U=>rfl) .nil)) ok hlen (hbd doc _ c' ctv) hbody
 have parts:All2 (SimF W (n+1) fm (CrAt fm "coord_repr" fi f of (fnX "coord_repr" W.H.tabQ params body scope [] .none .none doc ((W.H.mg "__name__").getD .none) none (.ref c') ctv))) [.FormattedValue (.Name "msg" p2) (-1) none p3,.Constant (.str " (at ") k1 p4,.FormattedValue (.Call (.Name "coord_repr" p5) [.Name "src" p6,.Name "pos" p7] [] p8) (-1) none p9,.Constant (.str ")") k2 p10]
   [ac (af 2) D7,ae (.str (" (at ":Str).cps.toList),ac (ac (ag [af 0,af 1]) (ak m2)) D7,ae (.str (")":Str).cps.toList)]:=
  .cons (IR (Gh i2 (.inl rfl) (by decide +kernel) (by decide +kernel))).toF (.cons Gg.toF (.cons (Qa hcall) (.cons Gg.toF .nil)))
 unfold Eu at ns ⊢
 refine wpAny_execs_cons (wpAny_Return_some ?_)
 rw [arm_eval_Call_Name']
 refine bg (H1 (s:={ c0 with heap:=w2,toks:=c0.toks+1 }) C W4 i3 ?_)
 refine NX rfl (AT rfl (Calls.spliced_cons ?_))
 have nsJ:=Ad ns
 have hj:=JZ (pos:=p11) CrAt.stay parts
 have ex:∀ {β:Type} {r:Mi.R β} {x:Value} {u3:Shared},ExE W fm V w2 r x u3->ExS W fm V s.heap r x u3:=λq=>ExS.after q.toS (.refl ..) R02
 refine Am.seq (hj A V ps { c0 with heap:=w2,toks:=c0.toks+1 } C W4 cr nsJ) (λp v α₁ o0 u3 Y2 W3 Z3 w8 Y3=>?_) λx u3 q=>ex q.bind
 rw [Ac Y3] at ns ⊢
 cases p <;> (try exact absurd rfl ns)
 rename_i t
 obtain ⟨tk,rfl⟩:=w8.inv
 refine Calls.spliced_nil ⟨rfl,C.hd.tomlC.keeps Y2.inv.base,?_⟩
 have R3:=R02.trans Z3.up λa m q=>absurd m q
 have g3:Grow V α₁ s.heap:=⟨W3.pre,λa m q=>R02.live a (W3.new a m q)⟩
 refine Qb C Y2 λe X4 l6 i7 X=>?_
 exact ⟨e,t,o0,α₁,rfl,rfl,l6,g3,R3.trans i7.up g3.new,X.since λb q=>R3.live b q⟩
end
section
variable {W:Wd}{fm:Fm}{V α' α₁ X0 w1:List Addr}{h h' h₁ w2 v3 start:Heap}{n:Nat}{A:Around}{ps ps':PS}{s s' c0 z0:Shared}{H:Hd}{h₀:Heap}{own:List Addr}{E:Value->Shared->Prop}{P:Heap->Prop}{fd:FuncData}{fi:Fi}{a:Addr}{vs:List Value}{l:List PV}
theorem Qc {m:M Txt}{t:Txt}(h:m ⟨λi=>l[i]?,ps.st⟩ = .ok t ps'):aA m l ps = .ok t ⟨ps.loc,ps'.st⟩:=by
 unfold aA;rw [h]
theorem Qd {m:M Txt}{e:PX}(h:m ⟨λi=>l[i]?,ps.st⟩ = .ex e ps'):aA m l ps = .ex e ⟨ps.loc,ps'.st⟩:=by
 unfold aA;rw [h]
theorem Qe {m:M Txt}(h:aA m l ps≠.stuck):m ⟨λi=>l[i]?,ps.st⟩≠.stuck:=by
 intro e;unfold aA at h;rw [e] at h;exact h rfl
theorem Qf {m:M Txt}{pos:List Value}{kw:List (Str × Value)}(C:Ctx W fm (n+1) A)(I:InvS W fm V ps s)(Fa:FnAt s.heap a fd fi)(ok:fi.Ok)(hb:BindsTo s fd ⟨pos,kw⟩ (fi.params.zip vs))(hl:fi.params.length=vs.length)
  (rl:RepL W.H W.h₀ fm.av V s.heap l vs) (body:∀ L A V ps s,Ctx W (AU fm fd fi L a) n A->InvS W (AU fm fd fi L a) V ps s->m ps≠.stuck->wpAny W.m A (execs fi.body (AU fm fd fi L a).env) (OkX W (AU fm fd fi L a) V s.heap (m ps)) (ExS W (AU fm fd fi L a) V s.heap (m ps)) s) (ns:aA m l ps≠.stuck) :
  wpAny W.m A (call (.ref a) pos kw) (λv s'=>∃ e t ps' α',aA m l ps = .ok t ps'/\v = .ref e/\InvS W fm α' ps' s'/\Grow V α' s.heap/\Rel fm.stk fm.tab V s.heap s'.heap/\NewExc W.H.toml s.heap s'.heap e t) (ExE W fm V s.heap (aA m l ps)) s:=by
 obtain ⟨⟨o,ho,hd⟩,hscope,hbody,hclo,hglob,hbi,hcode⟩:=Fa
 have lim:s.heap.NoLimit:=C.hd.lim.keeps I.inv.base
 have hdep:=C.depth
 refine wpAny_call (codeAny_call_function (by show A.depth<1000;exact la [_,_] [([2,4,3,0,0,3,0],[1981])] ([2,3,0],[2001]) rfl hdep) ho hd (by rw [hscope];exact ok.co) (by rw [hscope];exact ok.gen) hbody hcode (hb _ _ _ _ ?_))
 rw [hscope,hglob,hclo,hbi]
 refine wpAny_newFunctionEnv_cells ok.kind (λp hp=>?_) λenv he c0 X=>?_
 ·have hm:p.1∈fi.params:=(of_mem_zip (show (p.1,p.2)∈fi.params.zip vs from hp)).1
  rcases ok.parK p.1 hm with q | q
  ·exact .inl q
  ·exact .inr ⟨q,Cm _ _ _ (.inl q)⟩
 ·have he':env=Bm fd fi s.heap.objs.size a:=he
  subst he'
  refine ⟨lim.keeps X.toInCall.keep,codeAny_func ?_⟩
  have F':=HZ (fd:=fd) (a:=a) C.fm I ok X
  have I':=Ep (fd:=fd) (a:=a) (ps:=ps) I ok hl rl X
  have C':Ctx W (AU fm fd fi s.heap.objs.size a) n (A.deeper (Bm fd fi s.heap.objs.size a)):=by
   refine ⟨Around.frames_deeper C.frames,?_,?_,C.hdl,C.tab,F',C.hd⟩
   ·show A.depth+1+n<990;exact la [_,_] [([2,4,3,0,0,3,0],[1981])] ([2,3,0,4,0,3,0],[1981]) rfl hdep
   ·have:=C.units
    show A.units+3+20*n+1000<cLine;lia
  have ns':=Qe ns
  have up:∀ b,c0.heap.get? b=none->s.heap.get? b=none:=λb q=>by
   cases z:s.heap.get? b with
   | none=>rfl
   | some o=>rw [X.toInCall.keep b o z] at q;cases q
  refine aW (body s.heap.objs.size _ V _ c0 C' I' ns') (λf s' z=>?_) λx s' z=>?_
  ·obtain ⟨e,t,o0,α₁,rfl,y0,w0,d0,w3,l7⟩:=z
   obtain ⟨J,g,R⟩:=CX C.fm I X w0 d0 w3
   exact ⟨e,t,_,α₁,Qc y0,rfl,J,g,R,l7.since up⟩
  ·obtain ⟨e,o0,α₁,y0,w0,d0,w3,Z5⟩:=z
   have hs0:=I'.none
   unfold leaving
   refine bg (Gi C' w0 w3 hs0 Z5 λw2 Y1 u4 i6=>CJ C' Y1 u4 hs0 i6 _ λv3 Y2 v4 Z4=>?_)
   obtain ⟨J,g,R⟩:=CX C.fm I X Y2 d0 v4
   exact ⟨e,_,α₁,Qd y0,J,g,R,Z4.raised.start up⟩
theorem NY {x:Str}{i:Nat}{np pos:Pos}{es:List Expr}{ms:List (M PV)}{m:M Txt}(hm:(x,NameKind.globalImplicit,i)∈fm.sc)(hd:(x==("__debug__":Str))=false)(hv:W.H.mg x=some (.ref a))(q:SimL W (n+1) fm es ms)(Fa:FnAt W.h₀ a fd fi)(ok:fi.Ok)(hb:Eb W fd fi ms.length [] [])
  (body:∀ L A V ps s,Ctx W (AU fm fd fi L a) n A->InvS W (AU fm fd fi L a) V ps s->m ps≠.stuck->wpAny W.m A (execs fi.body (AU fm fd fi L a).env) (OkX W (AU fm fd fi L a) V s.heap (m ps)) (ExS W (AU fm fd fi L a) V s.heap (m ps)) s) :
  SimXc W (n+1) fm (.Call (.Name x np) es [] pos) (ac (ag ms) (aA m)):=.mk λA V ps s C I ns=>by
 rw [arm_eval_Call_Name']
 refine bg (Gk C I hv hm hd ?_)
 obtain ⟨o,ho,hdt⟩:=Fa.obj
 refine callWith_function_kw (o:=o) (fd:=fd) (AT (q.plain _) (aW (CM q A V ps s C I (Ad ns)) (λvs c0 z=>?_) λx c0 z=>z.bind))
 obtain ⟨l,o0,α₁,y0,w0,d0,u0,W0⟩:=z
 rw [Ac y0] at ns ⊢
 refine ⟨⟨w0.inv.base _ _ ho,hdt⟩,?_⟩
 have hlen:vs.length=ms.length:=by rw [<- W0.length,EY y0]
 have b:=hb.2 c0 vs [] w0.inv.base hlen rfl
 rw [append_nil,append_nil] at b
 refine aW (Qf (l:=l) (vs:=vs) C w0 (Fa.keeps w0.inv.base) ok b (by rw [hb.1,hlen];simp) W0 body ns) (λv z0 z=>?_) (λU U q=>q.after d0 u0)
 obtain ⟨e,t,Z1,X0,W1,rfl,Y1,Y0,Z0,X⟩:=z
 exact ⟨e,t,Z1,X0,W1,rfl,Y1,d0.trans Y0 u0,u0.trans Z0 d0.new,X.since u0.live⟩
end
def fiB (fi:Fi):Bool:=
 decide (fi.scope.kind = .function)&&!fi.scope.isCoroutine&&!fi.scope.isGenerator &&
 fi.sc.all (λe=>decide (fi.scope.names.lookup e.1=some e.2.1)&&decide (e.2.1≠.free)) &&
 fi.sc.all (λe=>fi.sc.all λo=>decide (e.2.2=o.2.2)==decide (e.1=o.1)) &&
 decide fi.params.Nodup &&
 fi.params.all (λp=>decide (fi.scope.names.lookup p=some .local)||decide (fi.scope.names.lookup p=some .cell)) &&
 fi.sc.all (λe=>!(decide (e.2.1 = .local)||decide (e.2.1 = .cell))||((range fi.params.length).all λj=>decide (fi.params[j]? = some e.1)==decide (e.2.2=j)))
theorem Fi.Ok.of {fi:Fi}(h:fiB fi=true):fi.Ok:=by
 unfold fiB at h
 simp only [and_eq_true,all_eq_true,decide_eq_true_eq,or_eq_true,not_eq_true',beq_iff_eq,mem_range] at h
 obtain ⟨⟨⟨⟨⟨⟨⟨h1,h2⟩,h3⟩,h4⟩,h5⟩,h6⟩,h7⟩,h8⟩:=h
 refine ⟨h1,h2,h3,λx k i m=>(h4 _ m).1,λx k i y k' j m m'=>decide_eq_decide.mp (h5 _ m _ m'),h6,h7,λx k i m hk j=>?_,λx k i m=>(h4 _ m).2⟩
 have:=(h8 _ m).resolve_left (by
  intro q
  rcases hk with rfl | rfl <;> simp at q)
 constructor
 ·intro e
  have lt:=(bc.mp e).1
  exact ⟨(decide_eq_decide.mp (this j lt)).mp e,lt⟩
 ·rintro ⟨e,lt⟩
  exact (decide_eq_decide.mp (this j lt)).mpr e
theorem scm {fm:Fm}{sc:List (Str × NameKind × Nat)}(h:fm.sc=sc)(k:Nat){e:Str × NameKind × Nat}(q:sc[k]? = some e):e∈fm.sc:=h▸mem_of_getElem? q
def DF (W:Wd)(x:Str)(fi:Fi)(np:Nat)(kws:List Str)(ext:List Value):Prop:=∃ a fd,W.H.mg x=some (.ref a)/\FnAt W.h₀ a fd fi/\Eb W fd fi np kws ext
def aM (T:Nat->Option (M PFlow × List PV))(ms:List (M PV)):PV->M PV
 | .fn k=>match T k with
  | some (m,ext)=>ac (ag ms) λl=>ak m (l++ext)
  | none=>aq
 | _=>aq
section
variable {W:Wd}{fm:Fm}{V α' α₁ X0 w1:List Addr}{h h' h₁ w2 v3 start:Heap}{n k:Nat}{A:Around}{ps ps':PS}{s s' c0 z0:Shared}{fi:Fi}
theorem Ctx.down (C:Ctx W fm k A)(h:n<=k):Ctx W fm n A:=⟨C.frames,by have:=C.depth;exact la [_,_,_] [([2],[4]),([6,4,0,3,0],[1981])] ([6,2,0,3,0],[1981]) rfl h this,by have:=C.units;lia,C.hdl,C.tab,C.fm,C.hd⟩
theorem SimS.up {b:List Stmt}{m:M PFlow}(x:SimS W n fm b m)(h:n<=k):SimS W k fm b m:=.mk λA V ps s C I ns=>x A V ps s (C.down h) I ns
theorem LF {e:Expr}:SimB W n fm e aq:=.mk λA V ps s C I ns=>absurd rfl ns
theorem LG {e:Stmt}:SimT W n fm e aq:=.mk λA V ps s C I ns=>absurd rfl ns
theorem LH {e:List Stmt}:SimS W n fm e aq:=.mk λA V ps s C I ns=>absurd rfl ns
theorem Qg {x:Str}{k:Nat}{pos:Pos}{t:Txt}(h:x.cps.toList=t):SimE W n fm (.Constant (.str x) k pos) (ae (.str t)):=h▸Gg
theorem LI {x:Str}{i:Nat}{np pos:Pos}{es:List Expr}{ms:List (M PV)}{m:M PFlow}(F:DF W x fi ms.length [] [])(ok:fi.Ok)(hm:(x,NameKind.globalImplicit,i)∈fm.sc)(hd:(x==("__debug__":Str))=false)(q:SimL W (n+1) fm es ms)
  (body:∀ fm':Fm,fm'.sc=fi.sc->fm'.env.scope=fi.scope->fm'.hdl=fm.hdl->SimS W n fm' fi.body m):SimE W (n+1) fm (.Call (.Name x np) es [] pos) (ac (ag ms) (ak m)):=by
 obtain ⟨a,fd,hv,Fa,hb⟩:=F
 exact NG hm hd hv q Fa ok hb body
theorem Ee {x:Str}{i:Nat}{np pos:Pos}{e:Expr}{es:List Expr}{ks:List Keyword}{ms mks:List (M PV)}{m:M PFlow}(F:DF W x fi ms.length (Dq ks) [])(ok:fi.Ok)(hm:(x,NameKind.globalImplicit,i)∈fm.sc)(hd:(x==("__debug__":Str))=false)(q:SimL W (n+1) fm (e::es) ms)(qk:SimKw W (n+1) fm ks mks)
  (body:∀ fm':Fm,fm'.sc=fi.sc->fm'.env.scope=fi.scope->fm'.hdl=fm.hdl->SimS W n fm' fi.body m) :
  SimE W (n+1) fm (.Call (.Name x np) (e::es) ks pos) (ac (ag ms) λl=>ac (ag mks) λlk=>ak m (l++lk)):=by
 obtain ⟨a,fd,hv,Fa,hb⟩:=F
 exact IN hm hd hv q qk Fa ok hb body
def TZ (W:Wd)(fi fi2:Fi):Prop:=∃ a fd c,W.H.mg "suffixed_err" = some (.ref a)/\FnAt W.h₀ a fd fi/\Eb W fd fi 3 [] []/\fd.code = .ref c/\CodeHd W.h₀ c W.H.tabP/\fd.qualname++(".<locals>.":Str)++("coord_repr":Str)=W.H.tabQ
theorem J1 {i:Nat}{fi2:Fi}{np pos:Pos}{es:List Expr}{m1 m2 m3:M PV}{params:Arguments}{mc:M PFlow}{dp p1 p2 p3 p4 p5 p6 p7 p8 p9 p10 p11 p12 p13:Pos}{k1 k2:Nat}(F:TZ W fi fi2)(ok:fi.Ok)(ok2:fi2.Ok)(hsc:fi.sc=FU)(hcr:fi.scope.names.lookup (("coord_repr":Str))=some NameKind.local)
  (hbody:fi.body=[.FunctionDef "coord_repr" params fi2.body [] none [] fi2.scope none "coord_repr" dp,
   .Return (some (.Call (.Name "TOMLDecodeError" p1) [.JoinedStr [.FormattedValue (.Name "msg" p2) (-1) none p3,.Constant (.str " (at ") k1 p4,.FormattedValue (.Call (.Name "coord_repr" p5) [.Name "src" p6,.Name "pos" p7] [] p8) (-1) none p9,.Constant (.str ")") k2 p10] p11] [] p12)) p13])
  (hp:dp=W.H.tabPos) (hd0:params.defaults=[]) (hk0:params.kw_defaults=[]) (ha:∀ env,annTrees params none env=[]) (hfree:∀ y∈fi2.scope.names,y.2≠.free) (hlen:fi2.params.length=2)
  (hbd:∀ doc pm c' ctv q v w,bindArgs (fnX "coord_repr" q params fi2.body fi2.scope [] .none .none doc pm none (.ref c') ctv) ⟨[v,w],[]⟩=pure (fi2.params.zip [v,w])) (hm:(("suffixed_err":Str),NameKind.globalImplicit,i)∈fm.sc) (q:SimL W (n+2) fm es [m1,m2,m3])
  (body:∀ fm':Fm,fm'.sc=fi2.sc->fm'.env.scope=fi2.scope->fm'.hdl=fm.hdl->SimS W n fm' fi2.body mc) :
  SimXc W (n+2) fm (.Call (.Name "suffixed_err" np) es [] pos) (ac (ag [m1,m2,m3]) (aA (Eu mc))):=by
 obtain ⟨a,fd,c,hv,Fa,hb,hc,hcd,hq⟩:=F
 refine NY hm (by decide +kernel) hv q Fa ok hb λL A V ps s C I ns=>?_
 rw [hbody]
 refine J0 (c:=c) (P:=W.H.tabP) (fi:=fi2) ⟨hsc,hcr,hc,hcd,C.tab,hq⟩ hp hd0 hk0 ha hfree rfl rfl hlen (λdoc pm c' ctv s vs hl=>?_) ok2 body C I ns
 cases vs with
 | nil=>cases hl
 | cons v vs=>
  cases vs with
  | nil=>cases hl
  | cons w vs=>
   cases vs with
   | nil=>exact BindsTo.of_eq (hbd doc pm c' ctv _ v w)
   | cons=>cases hl
theorem J7 {T:Nat->Option (M PFlow × List PV)}{ms:List (M PV)}:aM T ms (.fn k)=match T k with
  | some (m,ext)=>ac (ag ms) λl=>ak m (l++ext)
  | none=>aq:=rfl
set_option tactic.hygienic true in
theorem NZ {x:Str}{kd:NameKind}{i:Nat}{np pos:Pos}{es:List Expr}{ms:List (M PV)}{T:Nat->Option (M PFlow × List PV)}(hm:(x,kd,i)∈fm.sc)(hk:kd = .local\/kd = .cell\/kd = .free)(hc:(x==("__classdict__":Str))=false)(hd:(x==("__debug__":Str))=false)(q:SimL W (n+1) fm es ms)
  (hT:∀ k m ext,T k=some (m,ext)->∃ fd fi extv,FnAt W.h₀ (W.H.fnv k) fd fi/\fi.Ok/\Eb W fd fi ms.length [] extv/\(∀ av V h,RepL W.H W.h₀ av V h ext extv)/\∀ fm':Fm,fm'.sc=fi.sc->fm'.env.scope=fi.scope->fm'.hdl=fm.hdl->SimS W n fm' fi.body m) :
  SimE W (n+1) fm (.Call (.Name x np) es [] pos) (ac (af i) (aM T ms)):=.mk λA V ps s C I ns=>by
 obtain ⟨p,e,e'⟩:=IH (Ad ns)
 unfold Am
 rw [Ac e'] at ns ⊢
 rw [arm_eval_Call_Name']
 refine bg (wpAny_Name (GI C I hm hk hc e λv r=>?_) hd)
 cases p <;> first | exact absurd rfl ns | skip
 rename_i k
 cases q2:T k with
 | none=>
  have:aM T ms (.fn k) ps = .stuck:=by rw [J7,q2];rfl
  exact absurd this ns
 | some mt=>
  obtain ⟨m,ext⟩:=mt
  have eq:aM T ms (.fn k)=ac (ag ms) λl=>ak m (l++ext):=by rw [J7,q2]
  rw [eq] at ns ⊢
  obtain ⟨fd,fi,extv,Fa,ok,hb,hx,body⟩:=hT k m ext q2
  obtain rfl:_=_:=r.inv
  exact FT (pos:=pos) C I q Fa ok hb hx body ns
end
def A0:Stmt->List Stmt
 | .FunctionDef _ _ b _ _ _ _ _ _ _=>b
 | _=>[]
def A1:Stmt->Scope
 | .FunctionDef _ _ _ _ _ _ s _ _ _=>s
 | _=>default
def G5:Stmt->Arguments
 | .FunctionDef _ a _ _ _ _ _ _ _ _=>a
 | _=>default
def MP:Stmt->Pos
 | .FunctionDef _ _ _ _ _ _ _ _ _ p=>p
 | _=>default
theorem UJ {l:List (Str × NameKind × Nat)}{x:Str}{k:NameKind}{i:Nat}(h:l.all (λe=>!decide (e.1=x))=true):(x,k,i)∉l:=λm=>by
 have:=all_eq_true.mp h _ m
 simp at this
def J8 (e:Expr):Bool:=Nat.beq e.ctorIdx 22
def Qh (e:Expr):Bool:=Nat.ble 8 e.ctorIdx&&Nat.ble e.ctorIdx 10
def VE (e:Expr):Bool:=!(Nat.beq e.ctorIdx 0||(Nat.beq e.ctorIdx 3||(Nat.beq e.ctorIdx 5||Nat.beq e.ctorIdx 15)))
def Qi (e:Expr):Bool:=Nat.beq e.ctorIdx 7
def We (e:Expr):Bool:=Nat.beq e.ctorIdx 25
theorem MQ {e:Expr}(h:J8 e=false):∀ rest env,starEach (e::rest) env=(false,eval e env)::starEach rest env:=by
 intro rest env
 cases e <;> first | rfl | cases h
theorem UK {e:Expr}(h:J8 e=false):∀ rest env,assignEach (e::rest) env=(false,assign e env)::assignEach rest env:=by
 intro rest env
 cases e <;> first | rfl | cases h
theorem SO {e:Expr}:∀ o i,∃ ops,subscripted e false o i=operate ops (getItem o i):=by
 intro o i
 cases e with
 | Slice a b c p=>cases c <;> exact ⟨_,rfl⟩
 | _=>exact ⟨_,rfl⟩
theorem MR {v:Expr}{x:Option Expr}{l:Nat}(h:Qh v=false):∀ env,swapsWith v x l env=pure false:=by
 intro env
 cases v <;> first | rfl | cases h
theorem E1 {t v:Expr}{l:Nat}(h:Qh v=false):∀ env,swapsWithSole [t] v l env=pure false:=λenv=>MR h env
theorem IW {ts:List Expr}{k:Nat}{p:Pos}{v:Expr}(h:We v=false):∀ env,swappedStores [.Tuple ts k p] v env=pure none:=by
 intro env
 cases v <;> first | rfl | cases h
theorem B3 {e:Expr}(h:VE e=true):∀ env whole,isTrue e env whole=(do let v <- whole;standAt e.pos;holding [v] (truthy v)):=by
 intro env whole
 cases e <;> first | rfl | cases h
theorem Co {e:Expr}(h:Qi e=false):∀ env x,foldedSetIterable e env x=pure x:=by
 intro env x
 cases e <;> first | rfl | cases h
theorem G6 {op:CmpOp}{e:Expr}(h:Qi e=false):behindInMarks op e=false:=by
 cases e <;> first | rfl | cases h
theorem IX {o1 o2:CmpOp}{e1 e2:Expr}(h:Qi e2=false):lastMarks [o1,o2] [e1,e2]=false:=G6 h
def Qj (e:Expr):Bool:=!Nat.beq e.ctorIdx 16
theorem SP {o:Expr}{name:Str}(h:Qj o=true):∀ env,attributeBase o name env (eval o env)=eval o env:=by
 intro env
 cases o <;> first | rfl | cases h
section
variable {W:Wd}{fm:Fm}{V α' α₁ X0 w1:List Addr}{h h' h₁ w2 v3 start:Heap}{n k:Nat}{A:Around}{ps ps':PS}{s s' c0 z0:Shared}{fi:Fi}
theorem Ia (hh:fm.hdl=none):OpMeth W n fm BN "str.index" (Ds false):=by
 have:=P3 (W:=W) (n:=n) (fm:=fm)
 rw [hh] at this
 exact this
theorem Gn {x:Str}{i:Nat}{pos:Pos}(hv:∃ a,W.H.mg x=some (.ref a)/\W.H.setv k=some a)(hm:(x,NameKind.globalImplicit,i)∈fm.sc)(hd:(x==("__debug__":Str))=false):SimE W n fm (.Name x pos) (ae (.fset k)):=by
 obtain ⟨a,h1,h2⟩:=hv
 exact GJ hm h1 (λU U=>.fset k h2) hd
theorem MS {x:Str}{i:Nat}{pos:Pos}(hv:W.H.mg x=some (.ref (W.H.fnv k)))(hm:(x,NameKind.globalImplicit,i)∈fm.sc)(hd:(x==("__debug__":Str))=false):SimE W n fm (.Name x pos) (ae (.fn k)):=GJ hm hv (λU U=>.fn k) hd
theorem SQ {x:Str}{i:Nat}{pos:Pos}(hv:W.H.mg x=some (.ref W.H.mpv))(hm:(x,NameKind.globalImplicit,i)∈fm.sc)(hd:(x==("__debug__":Str))=false):SimE W n fm (.Name x pos) (ae .mp):=GJ hm hv (λU U=>.mp) hd
end
def G7 (e:Expr):Option PV:=match e with
 | .Constant c _ _=>match c with
  | .int i=>some (.int i)
  | .str x=>some (.str x.cps.toList)
  | _=>none
 | _=>none
def DG:List Expr->Option (List PV)
 | []=>some []
 | e::es=>(G7 e).bind λv=>(DG es).bind λvs=>some (v::vs)
def T4:PV->Option Int
 | .int i=>some i
 | _=>none
def UL (e:Option Expr):Option Int:=(e.bind G7).bind T4
def FD:List (Option Expr)->Option (List Int)
 | []=>some []
 | e::es=>(UL e).bind λi=>(FD es).bind λl=>some (i::l)
theorem LJ {V β:Type}{o:Option V}{f:V->Option β}{b:β}{C:Prop}(h:o.bind f=some b)(k:∀ a,o=some a->f a=some b->C):C:=by
 cases o with
 | none=>cases h
 | some a=>exact k a rfl h
inductive ConstAt:Expr->PV->Prop
 | int {i:Int} {k:Nat} {p:Pos}:ConstAt (.Constant (.int i) k p) (.int i)
 | str {x:Str} {k:Nat} {p:Pos}:ConstAt (.Constant (.str x) k p) (.str x.cps.toList)
theorem constOne_at {e:Expr}{v:PV}(h:G7 e=some v):ConstAt e v:=by
 cases e with
 | Constant c k p=>
  cases c with
  | int i=>cases h;exact .int
  | str x=>cases h;exact .str
  | _=>cases h
 | _=>cases h
theorem intOf_is {v:PV}{i:Int}(h:T4 v=some i):v = .int i:=by
 cases v with
 | int=>cases h;rfl
 | _=>cases h
section
variable {W:Wd}{fm:Fm}{n:Nat}
theorem G8:∀ (l:List PV),ag (l.map ae)=ae l
 | []=>rfl
 | v::l=>by
  show ac (ae v) (λv=>ac (ag (l.map ae)) λvs=>ae (v::vs))=_
  rw [G8 l];rfl
theorem ConstAt.sim {e:Expr}{v:PV}(c:ConstAt e v):SimE W n fm e (ae v):=by
 cases c with
 | int=>exact Ab
 | str=>exact Gg
theorem ConstAt.star {e:Expr}{v:PV}(c:ConstAt e v):J8 e=false:=by
 cases c <;> rfl
theorem IY {es:List Expr}:∀ {vs:List PV},DG es=some vs->SimL W n fm es (vs.map ae):=by
 induction es with
 | nil=>intro vs h;cases h;exact .nil
 | cons e es ih=>
  intro vs h
  refine LJ h λv h1 h=>LJ h λvs' h2 h=>?_
  cases h
  exact .cons (constOne_at h1).sim (MQ (constOne_at h1).star) (ih h2)
theorem DZ {es:List Expr}{vs:List PV}{pos:Pos}(h:DG es=some vs):SimE W n fm (.List es pos) (ao vs):=by
 have:=AK (pos:=pos) (IY (W:=W) (n:=n) (fm:=fm) h)
 rw [G8] at this
 exact this
theorem HH {kes:List (Option Expr)}:∀ {ves:List Expr} {ks:List Int} {vs:List PV},FD kes=some ks->DG ves=some vs->kes.length=ves.length->SimD W n fm (intKind _ _) kes ves ks (vs.map ae):=by
 induction kes with
 | nil=>
  intro ves ks vs h1 h2 h3
  cases ves with
  | nil=>cases h1;cases h2;exact .nil
  | cons=>cases h3
 | cons ke kes ih=>
  intro ves ks vs h1 h2 h3
  cases ves with
  | nil=>cases h3
  | cons e es=>
   refine LJ h1 λi q1 a1=>LJ a1 λl q2 a2=>LJ h2 λv p1 a3=>LJ a3 λvs' p2 a4=>LJ q1 λu u1 u2=>?_
   obtain ⟨e',rfl,e1⟩:=aV.mp u1
   cases a2;cases a4
   cases intOf_is u2
   cases constOne_at e1
   exact .cons (λU=>Wb) (λU=>(constOne_at p1).sim) (ih q2 p2 (Nat.succ.inj h3))
theorem N0 {kes:List (Option Expr)}{ves:List Expr}{ks:List Int}{vs:List PV}{pos:Pos}(h1:FD kes=some ks)(h2:DG ves=some vs)(hl:kes.length=ves.length)(hn:ks.Nodup)(h0:kes≠[])(hlen:kes.length<=15) :
  SimE W n fm (.Dict kes ves pos) (JR .int ks vs):=by
 have:=NN (pos:=pos) (HH (W:=W) (n:=n) (fm:=fm) h1 h2 hl) hn h0 hlen
 rw [G8] at this
 exact this
end
end Mi
end
section
open PySem PySem.W PyProof.Rows
set_option maxRecDepth 10000
namespace Mi
section
variable {W:Wd}{fm:Fm}{n:Nat}{sc:List (Str × NameKind × Nat)}{x:Str}{k:NameKind}{i:Nat}{p pos np:Pos}{e l r:Expr}{es:List Expr}{m ml mr:M PV}{ms:List (M PV)}
def ckL (k:NameKind):Bool:=decide (k = .local\/k = .cell)
def ckV (x:Str)(k:NameKind):Bool:=decide (k = .local\/k = .cell\/k = .free)&&(!(x==("__classdict__":Str))&&!(x==("__debug__":Str)))
def ckB (x:Str):Bool:=decide (x∈Bk)&&(decide (x≠("__name__":Str))&&!(x==("__debug__":Str)))
theorem Bc {a b:Bool}(h:(a&&b)=true):a=true/\b=true:=and_eq_true_iff.mp h
theorem Ev {a:Bool}(h:(!a)=true):a=false:=not_eq_true' a▸h
theorem sv (h:fm.sc=sc)(j:Nat)(q:sc[j]? = some (x,k,i))(c:ckV x k=true:=by decide +kernel):SimE W n fm (.Name x pos) (af i):=Gh (scm h j q) (aY (Bc c).1) (Ev (Bc (Bc c).2).1) (Ev (Bc (Bc c).2).2)
theorem sl (h:J8 e=false)(a:SimE W n fm e m)(b:SimL W n fm es ms):SimL W n fm (e::es) (m::ms):=.cons a (MQ h) b
theorem cb {id:String}{g:List PV->M PV}(h:fm.sc=sc)(j:Nat)(q:sc[j]? = some (x,.globalImplicit,i))(a:SimL W n fm es ms)(o:OpCall W n fm (.builtin id) g)(c:ckB x=true:=by decide +kernel)(h4:bootBuiltins x=some (.builtin id):=by kernel_rfl) :
  SimE W n fm (.Call (.Name x np) es [] pos) (ac (ag ms) g):=Li (scm h j q) (aY (Bc c).1) (aY (Bc (Bc c).2).1) (Ev (Bc (Bc c).2).2) h4 a o
theorem ct {T:String}{g:List PV->M PV}(h:fm.sc=sc)(j:Nat)(q:sc[j]? = some (x,.globalImplicit,i))(a:SimL W n fm es ms)(o:OpCall W n fm (.type T) g)(c:ckB x=true:=by decide +kernel)(h4:bootBuiltins x=some (.type T):=by kernel_rfl) :
  SimE W n fm (.Call (.Name x np) es [] pos) (ac (ag ms) g):=Lj (scm h j q) (aY (Bc c).1) (aY (Bc (Bc c).2).1) (Ev (Bc (Bc c).2).2) h4 a o
theorem sa {v:Expr}(h:fm.sc=sc)(j:Nat)(q:sc[j]? = some (x,k,i))(hs:(ckL k&&!Qh v)=true)(a:SimE W n fm v m):SimT W n fm (.Assign [.Name x p] v pos) (ac m λa=>ac (ah i a) λU=>ae .next):=JM (scm h j q) (aY (Bc hs).1) a (MR (Ev (Bc hs).2))
theorem sg {op:Operator}{v:Expr}(h:fm.sc=sc)(j:Nat)(q:sc[j]? = some (x,k,i))(a:SimE W n fm v m)(c:(ckL k&&!(x==("__classdict__":Str)))=true:=by decide +kernel) :
  SimT W n fm (.AugAssign (.Name x p) op v pos) (ac (af i) λa=>ac m λb=>ac (Do op a b) λr=>ac (ah i r) λU=>ae .next):=PL (scm h j q) (aY (Bc c).1) (Ev (Bc c).2) a
theorem cm {op:CmpOp}(h:Qi r=false)(a:SimE W n fm l ml)(b:SimE W n fm r mr):SimB W n fm (.Compare l [op] [r] pos) (ac ml λa=>ac mr λb=>ac (Ao op a b) tst):=Pv a b (G6 h)
theorem ss {kk:Nat}{t:Txt}(h:x.cps.toList=t:=by kernel_rfl):SimE W n fm (.Constant (.str x) kk pos) (ae (.str t)):=Qg h
theorem gn (h:fm.sc=sc)(j:Nat)(q:sc[j]? = some (x,k,i))(hk:ckL k=true):SimG W n fm (.Name x p) (ah i):=ND (scm h j q) (aY hk)
theorem gs {t:Expr}{f:PV->M Unit}{ts:List Expr}{fs:List (PV->M Unit)}(h:J8 t=false)(a:SimG W n fm t f)(b:SimGs W n fm ts fs):SimGs W n fm (t::ts) (f::fs):=.cons a (UK h) b
theorem it {me mi:M PV}{ix:Expr}(hh:fm.hdl=none)(a:SimE W n fm e me)(b:SimE W n fm ix mi):SimE W n fm (.Subscript e ix pos) (ac me λa=>ac mi λb=>Au false a b):=PD (by rw [hh];rfl) a b SO
theorem fc {fi:Fi}{a:Nat}{mm:M PFlow}(F:DF W x fi ms.length [] [])(ok:fi.Ok)(h:fm.sc=sc)(j:Nat)(q:sc[j]? = some (x,.globalImplicit,i))(A:SimL W (n+1) fm es ms)(hh:fm.hdl=none)(s:∀ {fm':Fm},fm'.sc=fi.sc->fm'.env.scope=fi.scope->fm'.hdl=none->SimS W a fm' fi.body mm)(c:(decide (a<=n)&&!(x==("__debug__":Str)))=true:=by decide +kernel) :
  SimE W (n+1) fm (.Call (.Name x np) es [] pos) (ac (ag ms) (ak mm)):=LI F ok (scm h j q) (Ev (Bc c).2) A λfm' hs he hd=>(s hs he (hd.trans hh)).up (aY (Bc c).1)
end
section
variable {W:Wd}{fm:Fm}{n:Nat}{pos:Pos}{l r:Expr}{es:List Expr}{m ml mr:M PV}{ms:List (M PV)}
theorem ce {op:CmpOp}(h:Qi r=false)(a:SimE W n fm l ml)(b:SimE W n fm r mr):SimE W n fm (.Compare l [op] [r] pos) (ac ml λa=>ac mr λb=>Ao op a b):=So a b (G6 h)
theorem me {o:Expr}{name:Str}{apos:Pos}{mo:M PV}{g:PV->List PV->M PV}{K:PV->Bool}{T id:String}(hb:Qj o=true)(hc:(decide (es.length<30)&&(apos.endLine==pos.line))=true)(ho:SimE W n fm o mo)(q:SimL W n fm es ms)(Ma:MethAt T id name)(KT:JU W fm K T)(op:OpMeth W n fm K id g) :
  SimE W n fm (.Call (.Attribute o name apos) es [] pos) (ac mo λp=>am (K p) (ac (ag ms) (g p))):=P2 ho q Ma KT op (SP hb) (aY (Bc hc).1) (Bc hc).2
end
end Mi
end
section
open PySem PySem.W PyProof.Rows
open PySem.Builtin PySem.Builtin.Str
set_option maxRecDepth 100000
namespace Mi
def Bp (c:Nat):Txt->List Txt
 | []=>[[]]
 | a::x=>if a=c then []::Bp c x else match Bp c x with
  | y::r=>(a::y)::r
  | []=>[[a]]
def FE (v:PV)(l:List PV):M PV:=ap (asS v) λx=>aH l λp=>ap (asS p) λs=>ap (one s) λc=>am (decide (c<256)&&decide (x.length<=big)) (ao ((Bp c x).map .str))
def asD:PV->Option (List PV × List PV)
 | .dct ks vs=>some (ks,vs)
 | _=>none
def LK (p:PV):Bool:=(asD p).isSome
def as2 (l:List PV):Option (PV × PV):=un l λp r=>un r λq r=>cond r.isEmpty (some (p,q)) none
theorem UM {l:List PV}{x:PV × PV}(h:as2 l=some x):l=[x.1,x.2]:=by
 obtain ⟨p,t,rfl,h⟩:=EK h
 obtain ⟨q,r,rfl,h⟩:=EK (show un t (λq r=>cond r.isEmpty (some (p,q)) none)=some x from h)
 obtain ⟨rfl,rfl⟩:=Fo h
 rfl
def Qk (v:PV)(l:List PV):M PV:=ap (asD v) λkv=>ap (as2 l) λx=>aw ((Dc kv.1 kv.2 x.1).map λr=>r.getD x.2)
def B4 (x:Txt)(from_:Nat):List Nat->List Txt
 | []=>[x.drop from_]
 | i::r=>((x.take i).drop from_)::B4 x (i+1) r
theorem LL (c a:Nat)(x:Txt):posns c (a::x) (x.length+1)=(if a=c then [0] else [])++(posns c x x.length).map (·+1):=by
 unfold posns
 rw [List.range_succ_eq_map,filter_cons]
 have:(map Nat.succ (range x.length)).filter (λi=>(a::x)[i]?==some c)=((range x.length).filter λi=>x[i]?==some c).map (·+1):=by
  rw [List.filter_map]
  rfl
 rw [this]
 by_cases q:a=c
 ·subst q;simp
 ·simp [q]
theorem FV (a:Nat)(x:Txt)(l:List Nat):∀ (k:Nat),B4 (a::x) (k+1) (l.map (·+1))=B4 x k l:=by
 induction l with
 | nil=>intro k;rfl
 | cons i l ih=>
  intro k
  rw [map_cons,B4,B4,ih (i+1)]
  simp
theorem Ew (c:Nat)(x:Txt):Bp c x=B4 x 0 (posns c x x.length):=by
 induction x with
 | nil=>rfl
 | cons a x ih=>
  rw [length_cons,LL,Bp]
  by_cases q:a=c
  ·rw [if_pos q,if_pos q,ih]
   show _=B4 (a::x) 0 (0::(posns c x x.length).map (·+1))
   rw [B4,FV]
   rfl
  ·rw [if_neg q,if_neg q,nil_append,ih]
   cases hp:posns c x x.length with
   | nil=>simp [B4]
   | cons i r=>
    rw [map_cons,B4,B4,FV]
    simp
theorem Oa (x:Txt)(l:List Nat):∀ (k:Nat),(((k::l.map (·+1)).zip (l++[x.length])).map λp=>strSub (txt x) p.1 p.2)=(B4 x k l).map txt:=by
 induction l with
 | nil=>
  intro k
  simp only [map_nil,nil_append,List.zip_cons_cons,List.zip_nil_left,map_cons,B4]
  congr 1
  unfold strSub
  simp [txt]
  exact take_of_length_le (by simp)
 | cons i l ih=>
  intro k
  rw [map_cons,List.cons_append,List.zip_cons_cons,map_cons,ih (i+1),B4,map_cons]
  congr 1
  unfold strSub
  simp [txt]
  exact List.drop_take.symm
theorem Ob (c:Nat)(x:Txt):occurrences (txt x) (txt [c]) 0 (txt x).length ((txt x).length+1)=posns c x x.length:=by
 rw [AC,StrLaws.occ_eq]
 have:=MO x c x.length (x.length+1) (aR _) (range' 0 (x.length+1 - 0)) #[] 0 (λU U=>aP _) (List.pairwise_lt_range' ..) (by simp)
 exact this.trans (by rw [FA];simp)
set_option tactic.hygienic true in
theorem Ib {c:Nat}(hc:c<256)(x:Txt):Txt.split (txt x) (txt [c])=(Bp c x).map txt:=by
 unfold Txt.split
 rw [Ob,Ew]
 have hp:partsBetween (txt x) (posns c x x.length) (txt [c]).length=(B4 x 0 (posns c x x.length)).map txt:=by
  unfold partsBetween
  have:=Oa x (posns c x x.length) 0
  rw [<- this]
  rfl
 have h0:(posns c x x.length)=[]->[txt x]=(B4 x 0 (posns c x x.length)).map txt:=λe=>by rw [e];rfl
 split
 ·rename_i q
  refine h0 ?_
  rw [or_eq_true,decide_eq_true_eq,decide_eq_true_eq] at q
  rcases q with q | q
  ·rw [AC] at q
   have:x=[]:=eq_nil_of_length_eq_zero (by have:(txt [c]).length=1:=rfl;exact be (la [_,_] [([2,3,0],[4]),([4],[3])] ([2],[1]) rfl q (aS this)) (la [_] [] ([1],[2]) rfl))
   subst this;rfl
  ·have k1:Builtin.Str.strKind (txt [c])=1:=by
    unfold Builtin.Str.strKind
    rw [if_pos (by simp [txt,hc])]
   have:1<=Builtin.Str.strKind (txt x):=by
    unfold Builtin.Str.strKind
    split
    ·exact aR _
    ·split <;> decide
   lia
 ·split
  ·rename_i q
   exact h0 (isEmpty_iff.mp q)
  ·exact hp
section
variable {prog:Program}{w:World}{A:Around}{E:Value->Shared->Prop}{s:Shared}{x y:Str}{t u:Tok}{Q:Value->Shared->Prop}
theorem Oc (hy:(y.length==0)=false)(hsz:x.length<=sizeLine)(hsz2:(Txt.split x y).length<=sizeLine)
  (h:∀ l k,l.map (·.1)=Txt.split x y->Q (.ref s.heap.objs.size) { s with heap:=s.heap.push { cls:=.type "list",data:=.seq (strValues l).toArray },toks:=k }):wpAny (model prog w) A (call (.builtin "str.split") [.str x t,.str y u]) Q E s:=by
 by_cases h1:(decide (x.length<y.length)||decide (Builtin.Str.strKind x<Builtin.Str.strKind y))=true
 ·exact call_meets F.slot_str_split (typeIs_str _ _ _) F.entry_str_split (F.args_str_split_2 _ _) (meets_str_split_cannot_occur x y t u h1) (h [(x,t)] s.toks (by unfold Txt.split;rw [if_pos h1];rfl))
 ·have h1':=Bool.eq_false_iff.mpr h1
  by_cases hf:(occurrences x y 0 x.length (x.length+1)).isEmpty=true
  ·exact call_meets F.slot_str_split (typeIs_str _ _ _) F.entry_str_split (F.args_str_split_2 _ _) (meets_str_split_not_found x y t u h1' hy hf) (h [(x,t)] s.toks (by unfold Txt.split;rw [if_neg h1,if_pos hf];rfl))
  ·have hf':=Bool.eq_false_iff.mpr hf
   have e:Txt.split x y=partsBetween x (occurrences x y 0 x.length (x.length+1)) y.length:=by unfold Txt.split;rw [if_neg h1,if_neg hf]
   rw [e] at hsz2
   refine call_meets F.slot_str_split (typeIs_str _ _ _) F.entry_str_split (F.args_str_split_2 _ _) (meets_str_split_sep x y t u h1' hy hf' hsz hsz2) ?_
   have:=h (numbered s.toks (partsBetween x (occurrences x y 0 x.length (x.length+1)) y.length)) (s.toks+(partsBetween x (occurrences x y 0 x.length (x.length+1)) y.length).length) (by rw [numbered_texts,e])
   rw [<- strsFrom_eq] at this
   exact this
end
section
variable {W:Wd}{fm:Fm}{V:List Addr}{h:Heap}{n:Nat}{A:Around}{ps:PS}{s:Shared}
theorem Ql:JU W fm LK "dict":=λn A V ps s p v C I hK r=>by
 cases p <;> first | exact Bool.noConfusion hK | skip
 cases r with
 | dct hna ho hx hd hk rk rv=>exact ⟨⟨_,ho,hx.1⟩,λb eb=>by cases eb;exact ⟨_,ho,hx.2.1⟩⟩
theorem G9:MethAt "str" "str.split" "split":=⟨PySem.F.plainAttrs_str,PySem.F.slot_str_split,PySem.F.type_str_split⟩
theorem Qm:MethAt "dict" "dict.get" "get":=⟨PySem.F.plainAttrs_dict,PySem.F.slot_dict_get,PySem.F.type_dict_get⟩
theorem Od (x:Txt)(l:List Nat):∀ (k:Nat),(B4 x k l).length=l.length+1:=by
 induction l with
 | nil=>exact λU=>rfl
 | cons i l ih=>exact λk=>congrArg (·+1) (ih (i+1))
theorem FW {Key:Type}(P:Key->Value->Bool)(es:Array DictEntry)(k:Key):findBy P es k=(es.toList.find? λe=>P k e.key).map (·.val):=by
 unfold findBy;obtain ⟨l⟩:=es;simp
theorem Oe {ts:List Txt}{lt:List (Str × Tok)}(e:lt.map (·.1)=ts.map txt):RepL W.H W.h₀ fm.av V h (ts.map .str) (strValues lt):=by
 induction ts generalizing lt with
 | nil=>
  cases lt with
  | nil=>exact .nil
  | cons a l=>simp at e
 | cons t ts ih=>
  cases lt with
  | nil=>simp at e
  | cons a l=>
   simp only [map_cons,List.cons.injEq] at e
   obtain ⟨y,k⟩:=a
   have e1:y=txt t:=e.1
   subst e1
   exact .cons (.str _ _) (ih e.2)
theorem J9:OpMeth W n fm BN "str.split" FE:=.mk λA V ps s p v l vs C I hK r rl ns=>by
 obtain ⟨x,e⟩:=A2 ns
 have e:=A8 e
 subst e
 obtain ⟨p,rfl⟩:=Iz (show aH l _ ps≠.stuck from ns)
 obtain ⟨y,e⟩:=A2 (show ap (asS p) _ ps≠.stuck from ns)
 have e:=A8 e
 subst e
 obtain ⟨c,e⟩:=A2 (show ap (one y) _ ps≠.stuck from ns)
 have e:=EL e
 subst e
 obtain ⟨_,_,rfl,r1,rl⟩:=rl.inv
 cases rl
 cases r1
 cases r
 have ns':am (decide (c<256)&&decide (x.length<=big)) (ao ((Bp c x).map .str)) ps≠.stuck:=ns
 obtain ⟨cc,e⟩:=Aj ns'
 simp only [and_eq_true,decide_eq_true_eq] at cc
 have ns2:ao ((Bp c x).map .str) ps≠.stuck:=by rw [e] at ns';exact ns'
 have hb:=Dd ns2
 refine Am.congr (m:=FE (.str x) [.str [c]]) e ?_
 refine Oc rfl (by rw [AC,<- BH];exact cc.2) (by rw [Ib cc.1,length_map,<- BH];simpa using hb) λlt k hlt=>?_
 rw [Ib cc.1] at hlt
 exact OkE.newLst (a:=s.heap.objs.size) C I hb (Oe hlt) (λb o e=>get?_push_of_some _ e) (AJ _) ⟨_,get?_push_size _ rfl⟩
theorem UN {p:PV}{kv:List PV × List PV}(h:asD p=some kv):p = .dct kv.1 kv.2:=by cases p <;> first | (injection h;done) | (injection h with h;rw [<- h])
theorem UO:OpMeth W n fm LK "dict.get" Qk:=.mk λA V ps s p v l vs C I hK r rl ns=>by
 obtain ⟨⟨ks,dv⟩,e⟩:=A2 ns
 have e:=UN e
 subst e
 obtain ⟨⟨x,d⟩,e⟩:=A2 (show ap (as2 l) _ ps≠.stuck from ns)
 have e:=UM e
 subst e
 obtain ⟨_,_,rfl,r1,rl⟩:=rl.inv
 obtain ⟨_,_,rfl,r2,rl⟩:=rl.inv
 cases rl
 have ns':aw ((Dc ks dv x).map λr=>r.getD d) ps≠.stuck:=ns
 obtain ⟨z,ez,e⟩:=DC ns'
 obtain ⟨rr,er,rfl⟩:=aU.mp ez
 refine Am.congr (m:=Qk (.dct ks dv) [x,d]) e ?_
 obtain ⟨_,o,es,ep,rfl,hna,ho,hx,hd,hk,rk,rv⟩:=r.inv
 rcases hk with hk | hk
 ·obtain ⟨t,rfl⟩:=Em hk rk r1 er
  cases r1
  have hm:s.heap.MapOf (strKind W.H.prog W.H.w) _ (λk=>findBy (strKind W.H.prog W.H.w).is _ k):=⟨_,_,_,ho,hx,hd,hk,λU=>rfl⟩
  refine call_meetsIn F.slot_dict_get hm.typeIs F.entry_dict_get (F.args_dict_get_3 _ _ _) (meets_dict_get_default _ _ (strKind_is _ _ _ _) hna.2 _) ⟨_,hm,?_⟩
  have sp:=GG hk rk rv (Cd er)
  rw [FW]
  cases rr with
  | none=>simp only at sp;rw [sp];exact OkE.same I r2
  | some z=>obtain ⟨e,e1,e2⟩:=sp;rw [e1];exact OkE.same I e2
 ·obtain ⟨t,rfl⟩:=DD hk rk r1 er
  cases r1
  have hm:s.heap.MapOf (intKind W.H.prog W.H.w) _ (λk=>findBy (intKind W.H.prog W.H.w).is _ k):=⟨_,_,_,ho,hx,hd,hk,λU=>rfl⟩
  refine call_meetsIn F.slot_dict_get hm.typeIs F.entry_dict_get (F.args_dict_get_3 _ _ _) (meets_dict_get_default _ _ (intKind_is _ _ _ _) hna.2 _) ⟨_,hm,?_⟩
  have sp:=GH hk rk rv (Cd er)
  rw [FW]
  cases rr with
  | none=>simp only at sp;rw [sp];exact OkE.same I r2
  | some z=>obtain ⟨e,e1,e2⟩:=sp;rw [e1];exact OkE.same I e2
end
end Mi
end
section
open PySem PySem.W PyProof.Rows
set_option maxRecDepth 100000
namespace Mi
section
variable {W:Wd}{fm:Fm}{n:Nat}{x:Str}{t:Txt}
theorem LM {e:Expr}{m:M PV}{pos:Pos}(q:SimEx W n fm x t e m)(hs:∀ rest env,starEach (e::rest) env=(false,eval e env)::starEach rest env):SimEx W n fm x t (.List [e] pos) (ac (ag [m]) ao):=.mk λA V ps s C I X ns=>by
 have ns':ac m (λv=>ac (ag []) λvs=>ae (v::vs)) ps≠.stuck:=Ad ns
 have go:wpAny W.m A (spliced (backTo pos (starEach [e] fm.env))) (OkL W fm V s.heap (ag [m] ps)) (ExE W fm V s.heap (ag [m] ps)) s:=by
  rw [hs]
  show wpAny W.m A (spliced ((false,eval e fm.env)::backTo pos (starEach [] fm.env))) (OkL W fm V s.heap (ac m (λv=>ac (ag []) λvs=>ae (v::vs)) ps)) (ExE W fm V s.heap (ac m (λv=>ac (ag []) λvs=>ae (v::vs)) ps)) s
  refine Calls.spliced_cons (Am.seq (q A V ps s C I X (Ad ns')) (λp v α₁ o0 c0 w0 d0 u0 W0 y0=>?_) λx c0 q=>q.bind)
  rw [Ac y0]
  exact Calls.spliced_nil ⟨[p],o0,α₁,rfl,w0,d0,u0,.cons W0 .nil⟩
 refine wpAny_List_spliced (aW go (λvs c0 z=>?_) λx c0 z=>z.bind)
 obtain ⟨l,o0,α₁,y0,w0,d0,u0,W0⟩:=z
 rw [Ac y0] at ns ⊢
 have hb:=Dd ns
 refine ⟨by rw [<- BH,<- W0.length];exact hb,?_⟩
 exact (OkE.newLst C w0 hb W0 (λU U e=>get?_push_of_some _ e) (AJ _) ⟨0,get?_push_size _ rfl⟩).after d0 u0
variable {V:List Addr}{A:Around}{ps:PS}{s:Shared}
end
def IZ (v:PV)(l:List PV):M PV:=ap (asS v) λx=>am (l.isEmpty&&(x.all (λc=>decide (c<128))&&decide (x.length<=1000000))) (ae (.str (x.map lo1)))
section
variable {W:Wd}{fm:Fm}{n:Nat}
theorem LN:MethAt "str" "str.lower" "lower":=⟨PySem.F.plainAttrs_str,PySem.F.slot_str_lower,PySem.F.type_str_lower⟩
theorem Ic {x:Txt}(h:∀ c∈x,c<128):Txt.lower (txt x)=txt (x.map lo1):=by
 rw [lower_ascii (λc m=>h c (by simpa [txt] using m))]
 simp [txt]
theorem Qn:OpMeth W n fm BN "str.lower" IZ:=.mk λA V ps s p v l vs C I hK r rl ns=>by
 obtain ⟨x,rfl⟩:=GZ hK
 obtain ⟨t0,rfl⟩:=r.inv
 have ns':am (l.isEmpty&&(x.all (λc=>decide (c<128))&&decide (x.length<=1000000))) (ae (PV.str (x.map lo1))) ps≠.stuck:=ns
 obtain ⟨cc,e⟩:=Aj ns'
 simp only [and_eq_true,decide_eq_true_eq,isEmpty_iff,all_eq_true] at cc
 obtain ⟨rfl,ha,hl⟩:=cc
 cases rl
 refine Am.congr (m:=IZ (.str x) []) e ?_
 refine SC.lower (by rw [Ic ha,AC,length_map];exact PyProof.Rows.short24 (aQ hl (by decide))) ?_
 rw [Ic ha]
 exact ⟨_,ps,V,rfl,⟨I.inv,I.gens,I.os⟩,.refl ..,.refl ..,.str _ _⟩
end
section
variable {W:Wd}{fm:Fm}{n:Nat}{H:Hd}{h₀:Heap}{av V:List Addr}{h:Heap}
end
end Mi
end
section
open PySem PySem.W PyProof.Rows
set_option maxRecDepth 10000
namespace Mi
section
variable {W:Wd}{fm:Fm}{V α' α₁ X0 w1:List Addr}{h h' h₁ w2 v3 start:Heap}{n:Nat}{A:Around}{ps ps':PS}{s s' c0 z0:Shared}{H:Hd}{h₀:Heap}{own:List Addr}{C D:Addr}{st':List (List PV)}
theorem Inv.carryMore (F:FmOk h₀ fm)(I:Inv H h₀ fm V ps h)(hC:h.get? C=Option.none)(R:Rel fm.stk fm.tab V h h')(K:Inv H h₀ fm α' ⟨ps.loc,st'⟩ h')(L':ListsAt H h₀ (fm.more C).av α' st' h')(g:Grow V α' h)(hs:(h'.get? C).isSome=true):Inv H h₀ (fm.more C) α' ⟨ps.loc,st'⟩ h':=by
 have st:∀ a∈(fm.more C).av,a∈fm.av\/h.get? a=Option.none:=λa m=>by
  rcases mem_cons.mp m with q | q
  ·rw [q];exact .inr hC
  ·exact .inl q
 have nα:C∉V:=λz=>by
  obtain ⟨ws,o,e,_⟩:=I.lists.isList z
  rw [hC] at e;cases e
 have L:ListsAt H h₀ (fm.more C).av V ps.st h:=⟨I.lists.len,λi l e=>by
   obtain ⟨a,vs,h1,h2,h3⟩:=I.lists.at_ i l e
   exact ⟨a,vs,h1,h2,h3.strong st⟩,I.lists.nodup,I.lists.fresh,λa m q=>by
   rcases mem_cons.mp q with q | q
   ·exact nα (q▸m)
   ·exact I.lists.apart a m q⟩
 have rep:∀ {p v},OptRep H h₀ fm.av V h p v->OptRep H h₀ (fm.more C).av α' h' p v:=λr=>OptRep.stays L R g.pre (λb m=>mem_cons_of_mem _ (F.frsAv b m)) (λb m=>mem_cons_of_mem _ (F.tabAv b m)) (r.map λr=>r.strong st)
 have at_:∀ b o,b∈fm.av->b∉fm.tab->h.get? b=some o->∃ sl,h'.get? b=some { o with slots:=sl }:=λb o m nt e=>by
  by_cases q:b∈frs fm.stk
  ·exact R.slot b o e q nt λz=>I.lists.apart b z m
  ·exact ⟨o.slots,R.keep b o e q nt λz=>I.lists.apart b z m⟩
 have nt:∀ b o,h.get? b=some o->(∀ vs,o.data≠.fields vs)->b∉fm.tab:=λb o e n m=>by
  obtain ⟨ps,e',_⟩:=I.tabs b m
  rw [e] at e';cases e';exact n ps rfl
 refine ⟨K.base,?_,?_,L',?_,K.frames,K.tabs⟩
 ·obtain ⟨m,⟨o,es,ep,h1,h2,h3⟩,k⟩:=I.loc
  obtain ⟨sl,e⟩:=at_ _ _ F.locAv (nt _ _ h1 λvs q=>by rw [h2] at q;cases q) h1
  exact ⟨m,⟨_,es,ep,e,h2,h3⟩,λx i hm=>rep (k x i hm)⟩
 ·intro x k i hm hk
  obtain ⟨cc,v,h1,h2,h3,⟨o,e1,e2⟩,h5⟩:=I.cel x k i hm hk
  obtain ⟨sl,e⟩:=at_ _ _ h2 (nt _ _ e1 λvs q=>by rw [e2] at q;cases q) e1
  exact ⟨cc,v,h1,mem_cons_of_mem _ h2,h3,⟨_,e,e2⟩,rep h5⟩
 ·intro a ha
  rcases mem_cons.mp ha with q | q
  ·rw [q];exact hs
  ·exact K.live a q
theorem Ka {scope:Scope}{sc:List (Str × NameKind × Nat)}{acc:List PV}{vs:List Value}(F:FmOk W.h₀ fm)(I:InvS W fm V ps s)(hD:s.heap.get? D=Option.none)(hC:s.heap.get? C=Option.none)(hDC:D≠C)
  (J:InvS W (AN fm scope sc D C) α' ps' s') (g:Grow V α' s.heap) (R:Rel fm.stk fm.tab V s.heap s'.heap) (hl:s'.heap.PlainList D vs.toArray) (rl:RepL W.H W.h₀ (AN fm scope sc D C).av α' s'.heap acc vs) :
  InvS W (fm.more C) (α'++[D]) ⟨ps.loc,ps'.st++[acc]⟩ s'/\Grow V (α'++[D]) s.heap/\(α'++[D])[ps'.st.length]? = some D:=by
 obtain ⟨K,g',R',hiD⟩:=JT F I hD hC hDC J g R hl rl (.refl ..)
 have mC:C∈(AN fm scope sc D C).av:=mem_cons_of_mem _ (mem_cons_self ..)
 have wk:∀ a,a∈(fm.more C).av->a∈(AN fm scope sc D C).av:=λa m=>mem_cons_of_mem _ m
 have stp:α' <+: α'++[D]:=prefix_append _ _
 have kk:∀ b o,s'.heap.get? b=some o->s'.heap.get? b=some o:=λU U e=>e
 have lift:∀ {l:List PV} {ws:List Value},RepL W.H W.h₀ (AN fm scope sc D C).av α' s'.heap l ws->RepL W.H W.h₀ (fm.more C).av (α'++[D]) s'.heap l ws:=λr=>RepL.keeps kk stp (RepL.weak wk r)
 refine ⟨⟨I.inv.carryMore F hC R K.inv ⟨K.inv.lists.len,λi l e=>?_,K.inv.lists.nodup,K.inv.lists.fresh,λa m q=>?_⟩ g' (J.inv.live C mC),J.gens,J.os⟩,g',hiD⟩
 ·by_cases hi:i<ps'.st.length
  ·rw [getElem?_append_left hi] at e
   obtain ⟨a,ws,q1,q2,q3⟩:=J.inv.lists.at_ i l e
   exact ⟨a,ws,by rw [getElem?_append_left (by rw [J.inv.lists.len];exact hi)];exact q1,q2,lift q3⟩
  ·have:i=ps'.st.length:=by
    have:=(bc.mp e).1
    simp at this;exact be (la [_,_] [([2,3,0],[4,3,0])] ([2],[4]) rfl this) (la [_,_] [([2],[4])] ([2],[4]) rfl (Nat.not_lt.mp hi))
   subst this
   rw [getElem?_append_right (Nat.le_refl _)] at e
   simp at e
   subst e
   exact ⟨D,vs,hiD,hl,lift rl⟩
 ·rcases mem_cons.mp q with q | q
  ·rcases mem_append.mp m with p | p
   ·exact J.inv.lists.apart a p (q▸mC)
   ·rw [mem_singleton.mp p] at q;exact hDC q
  ·exact K.inv.lists.apart a m q
theorem InvS.shed (F:FmOk W.h₀ fm)(J:InvS W (fm.more C) V ps s)(hC0:W.h₀.get? C=Option.none)(nav:C∉fm.av)(nf:∀ o vs,s.heap.get? C=some o->o.data≠.fields vs)(nc:∀ v,¬ s.heap.IsCell C v)(S:Heap.SameBut C s.heap h'):InvS W fm V ps { s with heap:=h' }:=by
 have mC:C∈(fm.more C).av:=mem_cons_self ..
 have wk:∀ a,a∈fm.av->a∈(fm.more C).av:=λa m=>mem_cons_of_mem _ m
 have hαC:∀ b∈V,b≠C:=λb m q=>J.inv.lists.apart b m (q▸mC)
 have ne:∀ b∈fm.av,b≠C:=λb m q=>nav (q▸m)
 have rep:∀ {p v},OptRep W.H W.h₀ (fm.more C).av V s.heap p v->OptRep W.H W.h₀ fm.av V h' p v:=λr=>(OptRep.same (fm:=fm.more C) S mC hαC r).map λr=>r.weak wk
 refine ⟨⟨λb o e=>?_,?_,λx k i hx hk=>?_,⟨J.inv.lists.len,λi l e=>?_,J.inv.lists.nodup,J.inv.lists.fresh,λa m q=>J.inv.lists.apart a m (wk a q)⟩,λa m=>?_,?_,λP hP=>(J.inv.tabs P hP).same S nf⟩,J.gens,J.os⟩
 ·have hb:b≠C:=λq=>by rw [q,hC0] at e;cases e
  exact (S.2 b hb).trans (J.inv.base b o e)
 ·obtain ⟨m,n1,n2⟩:=J.inv.loc
  exact ⟨m,n1.sameBut S (ne _ F.locAv),λx i hm=>rep (n2 x i hm)⟩
 ·obtain ⟨c,v,q1,q2,q3,q4,q5⟩:=J.inv.cel x k i hx hk
  have hc:c≠C:=λz=>nc v (z▸q4)
  exact ⟨c,v,q1,(mem_cons.mp q2).resolve_left hc,q3,q4.sameBut S hc,rep q5⟩
 ·obtain ⟨a,vs,h1,⟨k,h2⟩,h3⟩:=J.inv.lists.at_ i l e
  exact ⟨a,vs,h1,⟨k,(S.2 a (hαC a (mem_of_getElem? h1))).trans h2⟩,RepL.weak wk (RepL.same (fm:=fm.more C) S mC hαC h3)⟩
 ·show (h'.get? a).isSome=true
  rw [S.2 a (ne a m)]
  exact J.inv.live a (wk a m)
 ·exact FunFrames.but S (λb m=>ne b (F.frsAv b m)) J.inv.frames
end
section
variable {W:Wd}{fm:Fm}{n:Nat}
structure SimU (W:Wd)(n:Nat)(fm:Fm)(e:Expr)(m:M PV):Prop where
 toE:SimE W n fm e m
 sw:∀ x p l env,∃ b,swapsWith e (some (.Name x p)) l env=pure b
 us:∀ A V ps s,Ctx W fm n A->InvS W fm V ps s->m ps≠.stuck->∀ {u:Value->Sem Unit} {Q:Unit->Shared->Prop} {E:Value->Shared->Prop},(∀ x s',ExE W fm V s.heap (m ps) x s'->E x s') ->
  (∀ (β:List Addr) (ps':PS) (i:Nat) (D C:Addr) (s':Shared),m ps = .ok (.lst i) ps'->s.heap.get? C=none->(∃ m,s'.heap.Ns C m)->InvS W (fm.more C) β ps' s'->Grow V β s.heap->Rel fm.stk fm.tab V s.heap s'.heap->β[i]? = some D ->
   wpAny W.m A (u (.ref D)) (λU s''=>∃ m,s''.heap.Ns C m/\∀ h',Heap.SameBut C s''.heap h'->Q () { s'' with heap:=h' }) E s')->wpAny W.m A (evalThenUse e fm.env u) Q E s
variable {V β:List Addr}{A:Around}{ps ps':PS}{s s' s'':Shared}{h':Heap}{C D:Addr}
theorem SR (R:Rel fm.stk fm.own V s.heap s''.heap)(hC:s.heap.get? C=none)(S:Heap.SameBut C s''.heap h'):Rel fm.stk fm.own V s.heap h':=by
 have CH:∀ b o,s.heap.get? b=some o->b≠C:=λb o e q=>by rw [q,hC] at e;cases e
 exact ⟨λb o e m1 m2 m3=>(S.2 b (CH b o e)).trans (R.keep b o e m1 m2 m3),λb o e m1 m2 m3=>by
  obtain ⟨sl,e'⟩:=R.slot b o e m1 m2 m3
  exact ⟨sl,(S.2 b (CH b o e)).trans e'⟩,λb e=>by
  by_cases q:b=C
  ·rw [q];exact hC
  ·exact R.live b ((S.2 b q).symm.trans e)⟩
theorem Kd {m:Str->Option Value}(x:s.heap.Ns C m):(∀ o vs,s.heap.get? C=some o->o.data≠.fields vs)/\∀ v,¬ s.heap.IsCell C v:=by
 obtain ⟨o,es,ep,e,d,_⟩:=x
 refine ⟨λo' vs e' q=>?_,λv z=>?_⟩
 ·rw [e] at e';cases e';rw [d] at q;cases q
 ·obtain ⟨o',e',q⟩:=z
  rw [e] at e';cases e';rw [d] at q;cases q
theorem CB {y:Str}{k:NameKind}{i:Nat}{p pos:Pos}{v:Expr}{m:M PV}(hm:(y,k,i)∈fm.sc)(hk:k = .local\/k = .cell)(hv:SimU W n fm v m) :
  SimT W n fm (.Assign [.Name y p] v pos) (ac m λa=>ac (ah i a) λU=>ae .next):=.mk λA V ps s Cx I ns=>by
 obtain ⟨b,hb⟩:=hv.sw y p pos.line fm.env
 cases b with
 | false=>
  refine wpAny_Assign_Name (Am.seq (hv.toE A V ps s Cx I (Ad ns)) (λa va α₁ o0 c0 w0 d0 u0 ra y0=>?_) λx c0 q=>q.toS.bind) hb
  rw [Ac y0]
  refine DE Cx w0 hm hk ra λs' I' R'=>?_
  exact OkS.after ⟨.next,_,α₁,rfl,I',.refl ..,R',.next⟩ d0 u0.up
 | true=>
  rw [exec_Assign_Name_used _ _ _ _ hb]
  refine bg (wpAny_standAt (bg (hv.us A V ps s Cx I (Ad ns) (λx s' q=>q.toS.bind) λβ ps' i' D C s' e nC hns J g R hi=>?_)))
  obtain ⟨mm,hns⟩:=hns
  have nav:C∉fm.av:=Bh I nC
  refine wpAny_assign_Name (DE (fm:=fm.more C) (Cx.more (I.none _ nC)) J hm hk (.lst hi) λs'' I' R'=>?_)
  obtain ⟨oc,es,ep,n1,n2,n3⟩:=hns
  have kc:s''.heap.get? C=some oc:=R'.keep C oc n1 (λz=>nav (Cx.fm.frsAv _ z)) (λz=>nav (Cx.fm.ownAv _ z)) λz=>J.inv.lists.apart C z (mem_cons_self ..)
  have hns':s''.heap.Ns C mm:=⟨oc,es,ep,kc,n2,n3⟩
  obtain ⟨f1,f2⟩:=Kd hns'
  refine ⟨mm,hns',λh' S=>bh ?_⟩
  rw [Ac e]
  exact ⟨.next,_,β,rfl,I'.shed Cx.fm (I.none _ nC) nav f1 f2 S,g,SR (R.up.trans R' g.new) nC S,.next⟩
end
def ay (get:Nat->M (Option PV))(gt:PV->M Unit)(t:M Bool)(m:M PV):Nat->Nat->List PV->M PV
 | 0,_,_=>aq
 | f+1,k,acc=>ac (get k) λo=>match o with
  | none=>ao acc
  | some p=>ac (gt p) λU=>ac t λc=>if c then ac m λv=>am (acc.length+1<=big) (ay get gt t m f (k+1) (acc++[v])) else ay get gt t m f (k+1) acc
def Qo (m:Model)(A:Around)(elt target:Expr)(ifs:List Expr)(it acc:Value)(env:Env)(R:Result->Shared->Prop)(X:Shared->Prop)(s:Shared):Prop:=
 let N:=notedBy m A env λe s'=>R (.error e) s'
 wpAny m A (pyNext it) (λr c0=>match r with
  | none=>R (.ok .next) c0
  | some v=>wpAny m A (letOwnedTupleGo target it v) (λU W2=>wpAny m A (assign target env v) (λU z0=>wpAny m A (forIn ifs true λc r=>if r=true then do let ok <- isTrue c env (eval c env);pure (ForInStep.yield ok) else pure (ForInStep.yield r))
   (λok u3=>if ok=true then wpAny m A (eval elt env) (λx X4=>wpAny m A (call (.builtin "list.append") [acc,x]) (λU m6=>X m6) N X4) N u3 else X u3) N z0) N W2) N c0) N s
theorem LO {prog:Program}{w:World}{A:Around}{s:Shared}{elt target iter:Expr}{ifs:List Expr}{scope:Scope}{pos:Pos}{it acc:Value}{env:Env}{R:Result->Shared->Prop}(I:Nat->Shared->Prop)
  (turn:∀ n s,I n s->Qo (model prog w) A elt target ifs it acc env R (λs'=>∃ m,m<n/\I m s') s) (n:Nat) (h:I n s) :
  codeAny (model prog w) A (.compLoop (.ListComp elt [⟨target,iter,ifs,0⟩] scope pos) 0 it acc env) R s:=by
 refine codeAny_loop rfl I (λk t hI=>?_) n h
 refine wpAny_noted (m:=compTurn (.ListComp elt [⟨target,iter,ifs,0⟩] scope pos) 0 it acc env) ?_
 have tn:=turn k t hI
 unfold Qo at tn
 dsimp only at tn
 rw [compTurn_list]
 refine bg (wpAny_standAt (bg (aW tn (λr c0 z=>?_) λU U z=>z)))
 cases r with
 | none=>exact bh z
 | some v=>
  refine bg (aW z (λU W2 z=>bg (aW z (λU z0 z=>bg (aW z (λok u3 z=>?_) λU U z=>z)) λU U z=>z)) λU U z=>z)
  cases ok with
  | false=>exact bh ⟨rfl,z⟩
  | true=>exact bg (bg (aW z (λx X4 z=>bg (aW z (λU m6 z=>bh (bh ⟨rfl,z⟩)) λU U z=>z)) λU U z=>z))
section
variable {W:Wd}{fm:Fm}{n:Nat}
theorem Ha {elt iter:Expr}{tg:Expr}{pos:Pos}{ifs:List Expr}{scope:Scope}{sc:List (Str × NameKind × Nat)}{js:List Nat}{gt:PV->M Unit}{mi:M (Nat->M (Option PV))}{mc:List (M Bool)}{me:M PV}(hh:fm.hdl=none)(ci:Ci fm.sc scope sc js)(hx:∀ fm':Fm,fm'.sc=sc->fm'.hdl=none->SimG W n fm' tg gt)
  (hi:SimI W n fm iter mi) (hc:∀ fm':Fm,fm'.sc=sc->fm'.hdl=none->All2 (SimB W n fm') ifs mc) (he:∀ fm':Fm,fm'.sc=sc->fm'.hdl=none->SimE W n fm' elt me) (hs:∀ env x,foldedSetIterable iter env x=pure x) (K:Nat) {A:Around} {V:List Addr} {ps:PS} {s:Shared} (Cx:Ctx W fm n A) (I0:InvS W fm V ps s) (ns:(ac mi λget=>aB js (ay get gt (AM .And mc) me K 0 [])) ps≠.stuck) {use:Option (Value->Sem Unit)} {Q E:Value->Shared->Prop}
  (hE:∀ x s',ExE W fm V s.heap ((ac mi λget=>aB js (ay get gt (AM .And mc) me K 0 [])) ps) x s'->E x s')
  (fin:∀ (β:List Addr) (ps':PS) (i:Nat) (D C:Addr) (s':Shared),(ac mi λget=>aB js (ay get gt (AM .And mc) me K 0 [])) ps = .ok (.lst i) ps'->s.heap.get? C=none->(∃ m,s'.heap.Ns C m)->InvS W (fm.more C) β ps' s'->Grow V β s.heap->Rel fm.stk fm.tab V s.heap s'.heap->β[i]? = some D->compPost W.m A E use Q (.ref D) C (.ok .next) s') {p0:Pos} :
  wpAny W.m A (comprehension (.ListComp elt [⟨tg,iter,ifs,0⟩] scope pos) scope fm.env p0 (newList []) false (eval iter fm.env) use) Q E s:=by
 have hA:A.handled=none:=Cx.hdl.trans hh
 refine wpAny_comprehension_free (cl:=HA fm.env.cells scope.names []) rfl (hs _) (HB (ci.cells I0)) ci.kind ci.names ?_
 refine aW (hi A V ps s Cx I0 (Ad ns)) (λxv c0 z=>aW z (λit z0 z=>?_) λU U z=>hE _ _ z.bind) λU U z=>hE _ _ z.bind
 obtain ⟨get,Z1,X0,It,St,W1,rfl,I,Y0,Z0,freshI,nav,itk,st⟩:=z
 rw [Ac W1] at ns
 refine wpAny_newObj_type (wpAny_newFunctionEnv ci.noCell (by intro y hy;simp at hy) (λh₁ m7 w6=>?_) ci.kind)
 dsimp only at m7 w6 ⊢
 generalize hH2:z0.heap.push { cls:=.type "list",dict:=none,data:=.seq ([]:List Value).toArray } = H2 at m7 w6 ⊢
 have hC:H2.objs.size=z0.heap.objs.size+1:=by rw [<- hH2,Heap.size_push]
 have hDC:z0.heap.objs.size≠H2.objs.size:=by rw [hC];exact Nat.ne_of_lt (bo _)
 have below:∀ b,b<z0.heap.objs.size->b≠H2.objs.size:=λb hb=>by rw [hC];exact Nat.ne_of_lt (Nat.lt_succ_of_lt hb)
 have old:∀ b o,z0.heap.get? b=some o->h₁.get? b=some o:=λb o e=>w6.extBut b o (below b (lt_size e)) (get?_push_of_some _ (hH2▸get?_push_of_some _ e))
 have hacc:h₁.PlainList z0.heap.objs.size ([]:List Value).toArray:=⟨0,w6.extBut _ _ hDC (get?_push_of_some _ (hH2▸get?_push_size _ rfl))⟩
 have nD:z0.heap.get? z0.heap.objs.size=none:=AJ _
 have nC:z0.heap.get? H2.objs.size=none:=Heap.get?_none_of_le (by rw [hC];exact Nat.le_succ _)
 have hs0:=I.none
 have FC:FmOk W.h₀ (AN fm scope sc z0.heap.objs.size H2.objs.size):=NP ci Cx.fm I (hs0 _ nD) (hs0 _ nC)
 have CC:Ctx W (AN fm scope sc z0.heap.objs.size H2.objs.size) n A:=⟨Cx.frames,Cx.depth,Cx.units,Cx.hdl,Cx.tab,FC,Cx.hd⟩
 have I1:InvS W (AN fm scope sc z0.heap.objs.size H2.objs.size) X0 ⟨λi=>if i∈js then none else Z1.loc i,Z1.st⟩ { z0 with heap:=h₁,toks:=z0.toks+([]:List (Str × Value)).length }:=
  LA ci Cx.fm I nD nC old (by simpa using m7) (by obtain ⟨o,e⟩:=hacc;rw [e];rfl)
 obtain ⟨rv,rs,eR,eS⟩:=P0 ns
 obtain ⟨oI,vsI,eI,dI,cI⟩:=itk.flds _ _ st
 have ItD:It≠z0.heap.objs.size:=λq=>by rw [q,nD] at eI;cases eI
 have ItC':It≠H2.objs.size:=λq=>by rw [q,nC] at eI;cases eI
 have navC:It∉(AN fm scope sc z0.heap.objs.size H2.objs.size).av:=λm=>by
  rcases mem_cons.mp m with q | q
  ·exact ItD q
  ·rcases mem_cons.mp q with q | q
   ·exact ItC' q
   ·exact nav q
 have mC:H2.objs.size∈(AN fm scope sc z0.heap.objs.size H2.objs.size).av:=mem_cons_of_mem _ (mem_cons_self ..)
 have mD:z0.heap.objs.size∈(AN fm scope sc z0.heap.objs.size H2.objs.size).av:=mem_cons_self ..
 have Dfr:z0.heap.objs.size∉frs fm.stk:=λm=>Bh I nD (Cx.fm.frsAv _ m)
 have Dtab:z0.heap.objs.size∉fm.tab:=λm=>Bh I nD (Cx.fm.tabAv _ m)
 -- the heap less the walker
 have T0:Turn0 fm.stk [It] z0.heap (cutH z0.heap [It]):=Turn0.one I.inv.frames ⟨oI,vsI,eI,dI,cI⟩ λb o q e=>by rw [MI (by simpa using q)];exact e
 have IB:InvS W fm X0 Z1 { z0 with heap:=cutH z0.heap [It] }:=⟨I.inv.turn0 Cx.fm T0 (λb m q=>absurd q (by rw [mem_singleton.mp m];exact nav)) (λb m=>by rw [mem_singleton.mp m];exact I0.none _ freshI),I.gens,I.os⟩
 have cutI:(cutH z0.heap [It]).get? It=none:=PJ (mem_singleton_self _)
 have cutN:∀ b,z0.heap.get? b=none->(cutH z0.heap [It]).get? b=none:=λb e=>by
  cases q:(cutH z0.heap [It]).get? b with
  | none=>rfl
  | some o=>rw [HW _ _ _ _ q] at e;cases e
 have xB:Rel fm.stk fm.tab V s.heap (cutH z0.heap [It]):=Z0.turn0 T0 λb m=>by rw [mem_singleton.mp m];exact freshI
 have stays:∀ b o,(cutH z0.heap [It]).get? b=some o->z0.heap.get? b=some o:=λb o e=>HW _ _ _ _ e
 generalize z0.heap.objs.size=D at *
 generalize H2.objs.size=C at *
 generalize cutH z0.heap [It]=B at *
 have loop:∀ u3:Shared,u3 = { z0 with heap:=h₁,toks:=z0.toks+([]:List (Str × Value)).length } ->
   codeAny W.m A (.compLoop (.ListComp elt [⟨tg,iter,ifs,0⟩] scope pos) 0 (.ref It) (.ref D) (compEnvC scope (HA fm.env.cells scope.names []) C fm.env))
    (compPost W.m A E use Q (.ref D) C) u3:=by
  rintro u3 rfl
  have fin2:∀ (α':List Addr) (acc:List PV) (vs:List Value) (ps':PS) (s':Shared),ao acc ps' = .ok rv rs->InvS W (AN fm scope sc D C) α' ps' s'->Grow X0 α' B->Rel fm.stk fm.tab X0 B s'.heap->s'.heap.PlainList D vs.toArray->RepL W.H W.h₀ (AN fm scope sc D C).av α' s'.heap acc vs->compPost W.m A E use Q (.ref D) C (.ok .next) s':=λα' acc vs ps' s' eq J g R hl rl=>by
   unfold ao at eq
   split at eq
   ·cases eq
    obtain ⟨mL,nL,_⟩:=J.inv.loc
    obtain ⟨K1,K2,K3⟩:=Ka Cx.fm IB (cutN _ nD) (cutN _ nC) hDC J g R hl rl
    exact fin _ _ _ _ _ _ ((Ac W1).trans eS) (xB.live C (cutN _ nC)) ⟨mL,nL⟩ K1 (Y0.trans K2 xB) (xB.trans R Y0.new) K3
   ·cases eq
  generalize compPost W.m A E use Q (.ref D) C=RR at fin2 ⊢
  obtain ⟨CI,mkI,elI⟩:∃ CI:Nat->Shared->Prop,(∀ k s,CompI W fm (AN fm scope sc D C) X0 B D St (λk i acc ps=>ay get gt (AM .And mc) me k i acc ps = .ok rv rs) k s->CI k s)/\(∀ k s,CI k s->CompI W fm (AN fm scope sc D C) X0 B D St (λk i acc ps=>ay get gt (AM .And mc) me k i acc ps = .ok rv rs) k s):=⟨_,λU U h=>h,λU U h=>h⟩
  refine LO CI ?_ K (mkI _ _
   ⟨0,_,X0,[],[],eR,I1,.refl ..,.of_keeps λb o e=>old b o (stays b o e),hacc,.nil,itk.stay _ _ _ st λo e=>old _ o e⟩)
  intro k s' hi
  unfold Qo
  dsimp only
  generalize notedBy _ _ _ _=EE
  obtain ⟨i,ps',α',acc,vs,e',I',g',x',hl',rl',st'⟩:=elI _ _ hi
  clear hi elI
  cases k with
  | zero=>
   have e':ay get gt (AM .And mc) me 0 i acc ps' = .ok rv rs:=e'
   cases e'
  | succ k=>
   have eq:ac (get i) (λo=>match o with
    | none=>ao acc
    | some p=>ac (gt p) λU=>ac (AM .And mc) λc=>if c then ac me λv=>am (acc.length+1<=big) (ay get gt (AM .And mc) me k (i+1) (acc++[v])) else ay get gt (AM .And mc) me k (i+1) acc) ps' = .ok rv rs:=e'
   have nns:∀ {r:R PV},r = .ok rv rs->r≠.stuck:=λe q=>by rw [q] at e;cases e
   have ItC:=itk.to (AN fm scope sc D C)
   have Dα:∀ {β ps s},InvS W (AN fm scope sc D C) β ps s->D∉β:=λJ m=>J.inv.lists.apart _ m mD
   refine ItC.next (AN fm scope sc D C) A α' ps' s' i _ _ hA g'.pre FC I' st' (Ad (nns eq)) λo r h2 tk eo kk rr=>?_
   rw [Ac eo] at eq
   obtain ⟨oJ,vsJ,eJ,dJ,cJ⟩:=itk.flds _ _ st'
   have T1:Turn0 fm.stk [It] s'.heap h2:=Turn0.one I'.inv.frames ⟨oJ,vsJ,eJ,dJ,cJ⟩ kk
   have J:InvS W (AN fm scope sc D C) α' ps' { s' with heap:=h2,toks:=tk }:=ItC.turned FC I' st' navC (I0.none _ freshI) kk
   have x1:Rel fm.stk fm.tab X0 (B) h2:=x'.turn0 T1 λb m=>by rw [mem_singleton.mp m];exact cutI
   have hl1:h2.PlainList D vs.toArray:=by
    obtain ⟨oD,e⟩:=hl'
    exact ⟨oD,kk _ _ (Ne.symm ItD) e⟩
   have rl1:RepL W.H W.h₀ (AN fm scope sc D C).av α' h2 acc vs:=RepL.turn (fm:=AN fm scope sc D C) T1 FC.frsAv rl'
   cases o with
   | none=>
    cases r with
    | some _=>exact rr.elim
    | none=>
    exact fin2 _ _ _ _ _ eq J g' x1 hl1 rl1
   | some p=>
    cases r with
    | none=>exact rr.elim
    | some v=>
    obtain ⟨rp,st2⟩:=rr
    have eq:ac (gt p) (λU=>ac (AM .And mc) λc=>if c then ac me λv=>am (acc.length+1<=big) (ay get gt (AM .And mc) me k (i+1) (acc++[v])) else ay get gt (AM .And mc) me k (i+1) acc) ps' = .ok rv rs:=eq
    obtain ⟨oN,vsN,eN,dN,cN,hcN,hwN⟩:=ItC.flds _ _ st2
    refine HY (s:={ s' with heap:=h2,toks:=tk }) eN dN hcN hwN ?_
    refine aW (hx _ rfl (Cx.hdl▸hA) A α' ps' _ p v CC J rp (Ad (nns eq))) (λU s3 z=>?_) λU U z=>z.elim
    obtain ⟨ps3,e3,J3,R3⟩:=z
    rw [Ac e3] at eq
    have x3:Rel fm.stk fm.tab X0 (B) s3.heap:=x1.fresh R3 g'.new λa m=>by
     rcases mem_append.mp m with m | m
     ·exact .inl m
     ·rw [mem_singleton.mp m];exact .inr (cutN _ nC)
    have hl3:=Es R3 hl1 Dfr (λm=>by
     rcases mem_append.mp m with m | m
     ·exact Dtab m
     ·exact hDC (mem_singleton.mp m)) (Dα J)
    have rl3:=RepL.stays J.inv.lists R3 (prefix_refl _) FC.frsAv FC.ownAv rl1
    have st3:St (i+1) s3.heap:=ItC.kept FC J st2 navC (λU q=>q) R3
    have bad:∀ {β:Type} {x:Value} {s} {r:R β},ExE W (AN fm scope sc D C) α' s3.heap r x s->(∀ e q,r≠.ex e q)->False:=λq n=>by
     obtain ⟨e,ps,V,er,_⟩:=q
     exact n e ps er
    refine aW (PZ (hc _ rfl (Cx.hdl▸hA)) A α' _ s3 CC J3 (Ad (nns eq))) (λc s4 z=>?_) λy s4 z=>(bad z λe q er=>by rw [Gf er] at eq;cases eq).elim
    obtain ⟨ps4,α4,e4,J4,g4,R4⟩:=z
    rw [Ac e4] at eq
    have x4:=x3.trans R4 g'.new
    have g4':=g'.trans g4 x3
    have hl4:=Es R4 hl3 Dfr Dtab (Dα J3)
    have rl4:=J3.staysL CC R4 g4 rl3
    have st4:St (i+1) s4.heap:=ItC.kept FC J3 st3 navC (λU q=>mem_append_left _ q) R4
    cases c with
    | false=>
     simp only [false_eq_true,if_false] at eq ⊢
     exact ⟨k,bo k,mkI _ _ ⟨i+1,ps4,α4,acc,vs,eq,J4,g4',x4,hl4,rl4,st4⟩⟩
    | true=>
     simp only [if_true] at eq ⊢
     have bad:∀ {β:Type} {x:Value} {s} {r:R β},ExE W (AN fm scope sc D C) α4 s4.heap r x s->(∀ e q,r≠.ex e q)->False:=λq n=>by
      obtain ⟨e,ps,V,er,_⟩:=q
      exact n e ps er
     refine aW (he _ rfl (Cx.hdl▸hA) A α4 ps4 s4 CC J4 (Ad (nns eq))) (λy s5 z=>?_) λy s5 z=>(bad z λe q er=>by rw [Gf er] at eq;cases eq).elim
     obtain ⟨q,ps5,α5,e5,J5,g5,R5,rq⟩:=z
     rw [Ac e5] at eq
     have x5:=x4.trans R5 g4'.new
     have g5':=g4'.trans g5 x4
     have hl5:=Es R5 hl4 Dfr Dtab (Dα J4)
     have rl5:=J4.staysL CC R5 g5 rl4
     have st5:St (i+1) s5.heap:=ItC.kept FC J4 st4 navC (λU q=>mem_append_left _ q) R5
     obtain ⟨hb,eb⟩:=Aj (nns eq)
     rw [eb] at eq
     rw [decide_eq_true_eq] at hb
     refine wpAny_list_append_plain hl5 (λh6 hl6 S6=>?_) (by rw [size_toArray,<- rl5.length,<- BH];lia)
     have hα5:∀ b∈α5,b≠D:=λb m z=>Dα J5 (z▸m)
     obtain ⟨o6,eo6,_,k6,d6⟩:=hl6.isList
     have J6:InvS W (AN fm scope sc D C) α5 ps5 { s5 with heap:=h6 }:=J5.poke (tk:=s5.toks) FC mD hDC (λv hv=>by
      obtain ⟨oc,e1,e2⟩:=hv
      obtain ⟨od,e3,_,kd,d3⟩:=hl5.isList
      rw [e3] at e1;cases e1;rw [d3] at e2;cases e2) (λo vs e q=>by
      obtain ⟨od,e3,_,kd,d3⟩:=hl5.isList
      rw [e3] at e;cases e;rw [d3] at q;cases q) S6 eo6 (λvs q=>by rw [d6] at q;cases q)
     have live6:(h6.get? D).isSome=true:=by rw [eo6];rfl
     have R6:Rel fm.stk [D] α5 s5.heap h6:=SameBut.rel S6 live6 (mem_singleton_self _) _ _
     have x6:Rel fm.stk fm.tab X0 (B) h6:=x5.fresh R6 g5'.new λa m=>by rw [mem_singleton.mp m];exact .inr (cutN _ nD)
     refine ⟨k,bo k,mkI _ _ ⟨i+1,ps5,α5,acc++[q],vs++[y],eq,J6,g5',x6,by simpa using hl6,?_,itk.stay _ _ _ st5 λo e=>(S6.2 It ItD).trans e⟩⟩
     exact RepL.append (RepL.same S6 mD hα5 rl5) (.cons (RepV.same S6 mD hα5 rq) .nil)
 exact codeAny_compStart_list (loop _ rfl) (itk.self A _ 0 _ _ (itk.stay _ _ _ st λo e=>old _ o e) (loop _ rfl))
variable {V β:List Addr}{A:Around}{ps ps':PS}{s s' s'':Shared}{h':Heap}{C D:Addr}
theorem Cf {elt iter:Expr}{tg:Expr}{pos:Pos}{ifs:List Expr}{scope:Scope}{sc:List (Str × NameKind × Nat)}{js:List Nat}{gt:PV->M Unit}{mi:M (Nat->M (Option PV))}{mc:List (M Bool)}{me:M PV}(hh:fm.hdl=none)(ci:Ci fm.sc scope sc js)(hx:∀ fm':Fm,fm'.sc=sc->fm'.hdl=none->SimG W n fm' tg gt)
  (hi:SimI W n fm iter mi) (hc:∀ fm':Fm,fm'.sc=sc->fm'.hdl=none->All2 (SimB W n fm') ifs mc) (he:∀ fm':Fm,fm'.sc=sc->fm'.hdl=none->SimE W n fm' elt me) (hs:∀ env x,foldedSetIterable iter env x=pure x) (K:Nat) :
  SimU W n fm (.ListComp elt [⟨tg,iter,ifs,0⟩] scope pos) (ac mi λget=>aB js (ay get gt (AM .And mc) me K 0 [])) where
 toE:=.mk λA V ps s Cx I0 ns=>by
  unfold Am
  rw [eval_ListComp]
  refine Ha hh ci hx hi hc he hs K Cx I0 ns (λU U z=>z) λβ ps' i D C s' e nC hm J g R hi=>?_
  obtain ⟨m,hm⟩:=hm
  obtain ⟨f1,f2⟩:=Kd hm
  have nav:C∉fm.av:=Bh I0 nC
  refine ⟨m,hm,λh' S=>?_⟩
  refine ⟨.lst i,ps',β,e,J.shed Cx.fm (I0.none _ nC) nav f1 f2 S,g,?_,.lst hi⟩
  have CH:∀ b o,s.heap.get? b=some o->b≠C:=λb o e q=>by rw [q,nC] at e;cases e
  exact ⟨λb o e m1 m2 m3=>(S.2 b (CH b o e)).trans (R.keep b o e m1 m2 m3),λb o e m1 m2 m3=>by
   obtain ⟨sl,e'⟩:=R.slot b o e m1 m2 m3
   exact ⟨sl,(S.2 b (CH b o e)).trans e'⟩,λb e=>by
   by_cases q:b=C
   ·rw [q];exact nC
   ·exact R.live b ((S.2 b q).symm.trans e)⟩
 sw:=λx p l env=>⟨_,rfl⟩
 us:=λA V ps s Cx I0 ns {u Q E} hE fin=>by
  show wpAny W.m A (do let _ <- comprehension (.ListComp elt [⟨tg,iter,ifs,0⟩] scope pos) scope fm.env iter.pos (newList []) false (eval iter fm.env) (some u)) Q E s
  refine bg (aW (Ha hh ci hx hi hc he hs K (Q:=λU s'=>Q () s') Cx I0 ns hE λβ ps' i D C s' e nC hm J g R hi=>?_) (λU U q=>bh q) λU U q=>q)
  exact fin β ps' i D C s' e nC hm J g R hi
end
section
variable {W:Wd}{fm:Fm}{V α' α₁:List Addr}{h h':Heap}{n:Nat}{A:Around}{ps ps':PS}{s s':Shared}
def BI (l:List PV):M PV:=ap (Uw l) λx=>am (Ag (x.1.getD 0)&&Ag x.2&&decide (x.2 - x.1.getD 0<=(big:Nat))) (ao ((range (x.2 - x.1.getD 0).toNat).map λi=>PV.int (x.1.getD 0+(i:Nat))))
theorem SS {a:Int}:∀ {vs:List Value} {k:Nat},(∀ (j:Nat) (v:Value),vs[j]? = some v->∃ t,v=Value.int (a+((k+j:Nat):Int)) t)->RepL W.H W.h₀ fm.av V h ((range' k vs.length).map λi=>PV.int (a+(i:Nat))) vs:=by
 intro vs
 induction vs with
 | nil=>intro k _;exact .nil
 | cons v vs ih=>
  intro k hv
  obtain ⟨t,rfl⟩:∃ t,v=Value.int (a+(k:Int)) t:=hv 0 v (by rfl)
  exact .cons (.int _ _) (ih λj v e=>by
   have:=hv (j+1) v e
   rwa [show k+(j+1)=k+1+j by exact Nat.le_antisymm (la [_,_] [] ([2,4,3,0,0],[2,3,0,4,0]) rfl) (la [_,_] [] ([2,3,0,4,0],[2,4,3,0,0]) rfl)] at this)
theorem FX {x y:Str}{i j:Nat}{np nq pos pos2:Pos}{es:List Expr}{ms:List (M PV)}(hh:fm.hdl=none)(hm:(x,NameKind.globalImplicit,i)∈fm.sc)(hf:x∈Bk)(hn:x≠"__name__")(hd:(x==("__debug__":Str))=false)(hb:bootBuiltins x=some (.type "list"))
  (hm':(y,NameKind.globalImplicit,j)∈fm.sc) (hf':y∈Bk) (hn':y≠"__name__") (hd':(y==("__debug__":Str))=false) (hb':bootBuiltins y=some (.type "range")) (q:SimL W n fm es ms) :
  SimE W n fm (.Call (.Name x np) [.Call (.Name y nq) es [] pos2] [] pos) (ac (ag ms) BI):=.mk λA V ps s C I ns=>by
 have hA:A.handled=none:=C.hdl.trans hh
 show wpAny W.m A (do callWith pos (<- eval (.Name x np) fm.env) [] (backTo pos (starEach [.Call (.Name y nq) es [] pos2] fm.env)) (backToKw pos (keywordEach [] fm.env))) _ _ s
 refine bg (Bo C I hf hn hb hm hd ?_)
 refine PySem.callWith_type rfl (AT rfl ?_)
 show wpAny W.m A (spliced ((false,eval (.Call (.Name y nq) es [] pos2) fm.env)::backTo pos (starEach [] fm.env))) _ _ s
 refine Calls.spliced_cons ?_
 show wpAny W.m A (do callWith pos2 (<- eval (.Name y nq) fm.env) [] (backTo pos2 (starEach es fm.env)) (backToKw pos2 (keywordEach [] fm.env))) _ _ s
 refine bg (Bo C I hf' hn' hb' hm' hd' ?_)
 refine PySem.callWith_type (q.plain _) (AT (q.plain _) (aW (CM q A V ps s C I (Ad ns)) (λvs c0 z=>?_) λx c0 z=>z.bind))
 obtain ⟨l,o0,α₁,y0,w0,d0,u0,W0⟩:=z
 rw [Ac y0] at ns ⊢
 have fin:∀ (o:Obj) (a b:Int) (t u v:Tok) tk,o = { cls:=.type "range",data:=.fields #[.int a t,.int b u,.int 1 v] }->Ag a=true->Ag b=true->b - a<=(big:Nat)->BI l o0=ao ((range (b - a).toNat).map λi=>PV.int (a+(i:Nat))) o0 ->
   wpAny W.m A (spliced (backTo pos (starEach [] fm.env))) (λvs s'=>wpAny W.m A (call (.type "list") ([]++(.ref c0.heap.objs.size::vs))) (OkE W fm V s.heap (BI l o0)) (ExE W fm V s.heap (BI l o0)) s') (ExE W fm V s.heap (BI l o0)) { c0 with heap:=c0.heap.push o,toks:=tk }:=by
  rintro o a b t u v tk rfl ha hb2 hl er
  have a62:=EW ha
  have b62:=EW hb2
  have I2:=(Bs w0 { cls:=.type "range",data:=.fields #[.int a t,.int b u,.int 1 v] }).tok tk
  refine Calls.spliced_nil ?_
  have big24:(b - a).toNat<=2 ^ 24:=by
   have:big=2 ^ 24:=by decide
   lia
  have sz:Builtin.Range.rangeSize a b 1=((b - a).toNat:Int):=by rw [rangeSize_one];split <;> lia
  refine call_list_range (s:={ c0 with heap:=c0.heap.push { cls:=.type "range",data:=.fields #[.int a t,.int b u,.int 1 v] },toks:=tk }) (n:=(b - a).toNat) hA (IsRange.new ..) (small_one a62.1 a62.2 b62.1 b62.2) sz big24 λh' tk' acc' c' hk ho hi=>?_
  rw [er]
  have len:acc'.toList.length=(b - a).toNat:=by rw [Array.length_toList,hi.1]
  have rl:RepL W.H W.h₀ fm.av α₁ (c0.heap.push { cls:=.type "range",data:=.fields #[.int a t,.int b u,.int 1 v] }) ((range (b - a).toNat).map λi=>PV.int (a+(i:Nat))) acc'.toList:=by
   rw [List.range_eq_range',<- len]
   refine SS λj v e=>?_
   obtain ⟨t,e⟩:=hi.2 j v (by rw [<- Array.getElem?_toList];exact e)
   exact ⟨t,by rw [e];congr 1⟩
  have:=OkE.newLst (s:={ c0 with heap:=c0.heap.push { cls:=.type "range",data:=.fields #[.int a t,.int b u,.int 1 v] },toks:=tk }) (tk:=tk') (h':=h') (a:=(c0.heap.push { cls:=.type "range",data:=.fields #[.int a t,.int b u,.int 1 v] }).objs.size) (l:=(range (b - a).toNat).map λi=>PV.int (a+(i:Nat))) C I2 (by rw [length_map,length_range];lia) rl hk (AJ _) ⟨c',by simpa using ho⟩
  exact this.after d0 (BQ u0 _)
 have ns1:BI l o0≠.stuck:=ns
 obtain ⟨⟨o1,b⟩,e⟩:=A2 ns1
 have ns2:am (Ag (o1.getD 0)&&Ag b&&decide (b - o1.getD 0<=(big:Nat))) (ao ((range (b - o1.getD 0).toNat).map λi=>PV.int (o1.getD 0+(i:Nat)))) o0≠.stuck:=by
  unfold BI at ns1;rw [e] at ns1;exact ns1
 obtain ⟨c,e2⟩:=Aj ns2
 have e3:BI l o0=ao ((range (b - o1.getD 0).toNat).map λi=>PV.int (o1.getD 0+(i:Nat))) o0:=by
  unfold BI;rw [e];exact e2
 rw [and_eq_true,and_eq_true,decide_eq_true_eq] at c
 rcases MB e with ⟨rfl,z⟩ | ⟨a,rfl,z⟩
 ·obtain rfl:o1=none:=z
  obtain ⟨_,_,rfl,r,rs⟩:=W0.inv
  obtain ⟨t,rfl⟩:=r.inv
  obtain rfl:=rs.inv
  exact call_range_1 (fin _ 0 b _ _ _ _ rfl c.1.1 c.1.2 c.2 e3)
 ·obtain rfl:o1=some a:=z
  obtain ⟨_,_,rfl,r,rs⟩:=W0.inv
  obtain ⟨_,_,rfl,r',rs2⟩:=rs.inv
  obtain rfl:=rs2.inv
  obtain ⟨t,rfl⟩:=r.inv
  obtain ⟨u,rfl⟩:=r'.inv
  exact call_range_2 (fin _ a b _ _ _ _ rfl c.1.1 c.1.2 c.2 e3)
end
section
variable {W:Wd}{fm:Fm}{n:Nat}
theorem Qp {V:Type}{c:Prop}[Decidable c]{a b x:V}(h1:c->a=x)(h2:¬ c->b=x):(if c then a else b)=x:=by
 by_cases h:c
 ·rw [if_pos h];exact h1 h
 ·rw [if_neg h];exact h2 h
theorem LP {V β:Type}{f:V->Option β}{a b c:V}(h:f a=none):(filterMap f [a,b,c]).length≠3:=λe=>by
 rw [filterMap_cons,h] at e
 exact absurd (e▸List.length_filterMap_le f [b,c]) (by show ¬ 3<=2;decide)
theorem Of {env:Env}{a b c:Str}{pa pb pc:Pos}{k k':Nat}{tpos vpos:Pos}{vs:List Expr}(h:env.kindOf a=some .cell):swappedStores [.Tuple [.Name a pa,.Name b pb,.Name c pc] k tpos] (.Tuple vs k' vpos) env=pure none:=by
 unfold swappedStores
 dsimp only
 refine Qp (λU=>rfl) λU=>Qp (λU=>rfl) λU=>?_
 refine if_pos (Bool.or_eq_true_iff.mpr (.inl (bne_iff_ne.mpr ?_)))
 refine LP ?_
 dsimp only
 rw [h]
 rfl
theorem LQ {ts vs:List Expr}{k k':Nat}{p p':Pos}(h:vs.all (foldedForSure 8)=true):∀ env,swappedStores [.Tuple ts k p] (.Tuple vs k' p') env=pure none:=by
 intro env
 unfold swappedStores
 dsimp only
 exact Qp (λU=>rfl) λU=>Qp (λU=>rfl) λU=>Qp (λU=>rfl) λU=>if_pos h
theorem I4 {a b c:Str}{pa pb pc:Pos}{i:Nat}{fs:List (PV->M Unit)}{k k':Nat}{tpos pos vpos:Pos}{vs:List Expr}{m:M PV}(hh:fm.hdl=none)(hm:(a,NameKind.cell,i)∈fm.sc)(q:SimGs W n fm [.Name a pa,.Name b pb,.Name c pc] fs)(hv:SimE W n fm (.Tuple vs k' vpos) m)
  (hs:∀ env,swapsWithSole [.Tuple [.Name a pa,.Name b pb,.Name c pc] k tpos] (.Tuple vs k' vpos) pos.line env=pure false) :
  SimT W n fm (.Assign [.Tuple [.Name a pa,.Name b pb,.Name c pc] k tpos] (.Tuple vs k' vpos) pos) (ac m λa=>ac (aE fs a) λU=>ae .next):=.mk λA V ps s C J ns=>by
 refine Assign_Tuple (Am.seq (hv A V ps s C J (Ad ns)) (λa va α₁ o0 c0 w4 d0 u0 ra y0=>?_) λx c0 q=>q.toS.bind) (hs _) (Of (C.fm.kindX hm (by decide)))
 rw [Ac y0] at ns ⊢
 refine aW (Eo hh q A α₁ o0 c0 a va C w4 ra (Ad ns)) (λU z0 z=>?_) λU U z=>z.elim
 obtain ⟨Z1,W1,W4,u4⟩:=z
 rw [Ac W1]
 exact OkS.after ⟨.next,Z1,α₁,rfl,W4,.refl ..,u4,.next⟩ d0 u0.up
end
end Mi
end
section
open PySem PySem.W PyProof.Rows
set_option maxRecDepth 100000
set_option maxHeartbeats 2000000
namespace Mi
open PySem.Challenge
def nth (i:Nat):Stmt:=pw_kp0046_07.main.body.getD i (.Pass default)
def Cs:Fi:={ scope:=A1 (nth 28),body:=A0 (nth 28),params:=["script"],sc:=[(("script":Str),.local,0),(("pieces":Str),.local,1),(("text":Str),.local,2),(("x":Str),.local,3),(("k":Str),.local,4),(("control":Str),.local,5),(("c":Str),.local,6),(("abs":Str),.globalImplicit,7),(("chr":Str),.globalImplicit,8),(("list":Str),.globalImplicit,9),(("range":Str),.globalImplicit,10)] }
theorem Kf:Cs.Ok:=.of (by decide +kernel)
def BR:Fi:={ scope:=A1 (nth 18),body:=A0 (nth 18),params:=["src", "pos", "expect", "error_on", "error_on_eof"],sc:=[(("src":Str),.local,0),(("pos":Str),.local,1),(("expect":Str),.local,2),(("error_on":Str),.local,3),(("error_on_eof":Str),.local,4),(("new_pos":Str),.local,5),(("ValueError":Str),.globalImplicit,6),(("len":Str),.globalImplicit,7),(("suffixed_err":Str),.globalImplicit,8)] }
theorem HI:BR.Ok:=.of (by decide +kernel)
def A5:Fi:={ scope:=A1 (nth 23),body:=A0 (nth 23),params:=["src", "pos"],sc:=[(("src":Str),.local,0),(("pos":Str),.local,1),(("start_pos":Str),.local,2),(("skip_until":Str),.globalImplicit,3),(("ILLEGAL_LITERAL_STR_CHARS":Str),.globalImplicit,4)] }
theorem DH:A5.Ok:=.of (by decide +kernel)
def HJ:Fi:={ scope:=A1 (nth 17),body:=A0 (nth 17),params:=["src", "pos", "chars"],sc:=[(("src":Str),.local,0),(("pos":Str),.local,1),(("chars":Str),.local,2),(("IndexError":Str),.globalImplicit,3)] }
def AO:Fi:={ scope:=A1 (nth 26),body:=A0 (nth 26),params:=["codepoint"],sc:=[(("codepoint":Str),.local,0)] }
theorem CO:AO.Ok:=.of (by decide +kernel)
def Bi:Fi:={ scope:=A1 (nth 22),body:=A0 (nth 22),params:=["src", "pos", "hex_len"],sc:=[(("src":Str),.local,0),(("pos":Str),.local,1),(("hex_len":Str),.local,2),(("hex_str":Str),.local,3),(("hex_int":Str),.local,4),(("len":Str),.globalImplicit,5),(("HEXDIGIT_CHARS":Str),.globalImplicit,6),(("suffixed_err":Str),.globalImplicit,7),(("int":Str),.globalImplicit,8),(("is_unicode_scalar_value":Str),.globalImplicit,9),(("chr":Str),.globalImplicit,10)] }
theorem CZ:Bi.Ok:=.of (by decide +kernel)
def AD:Fi:={ scope:=A1 (nth 20),body:=A0 (nth 20),params:=["src", "pos", "multiline"],sc:=[(("src":Str),.local,0),(("pos":Str),.local,1),(("multiline":Str),.local,2),(("escape_id":Str),.local,3),(("char":Str),.local,4),(("skip_chars":Str),.globalImplicit,5),(("TOML_WS":Str),.globalImplicit,6),(("IndexError":Str),.globalImplicit,7),(("suffixed_err":Str),.globalImplicit,8),(("TOML_WS_AND_NEWLINE":Str),.globalImplicit,9),(("parse_hex_char":Str),.globalImplicit,10),(("BASIC_STR_ESCAPE_REPLACEMENTS":Str),.globalImplicit,11),(("KeyError":Str),.globalImplicit,12)] }
theorem CS:AD.Ok:=.of (by decide +kernel)
def Bd:Fi:={ scope:=A1 (nth 24),body:=A0 (nth 24),params:=["src", "pos", "multiline"],sc:=[(("src":Str),.local,0),(("pos":Str),.local,1),(("multiline":Str),.local,2),(("error_on":Str),.local,3),(("parse_escapes":Str),.local,4),(("result":Str),.local,5),(("start_pos":Str),.local,6),(("char":Str),.local,7),(("parsed_escape":Str),.local,8),(("ILLEGAL_MULTILINE_BASIC_STR_CHARS":Str),.globalImplicit,9),(("parse_basic_str_escape_multiline":Str),.globalImplicit,10),(("ILLEGAL_BASIC_STR_CHARS":Str),.globalImplicit,11),(("parse_basic_str_escape":Str),.globalImplicit,12),(("IndexError":Str),.globalImplicit,13),(("suffixed_err":Str),.globalImplicit,14)] }
theorem Ex:Bd.Ok:=.of (by decide +kernel)
def AL:Fi:={ scope:=A1 (nth 19),body:=A0 (nth 19),params:=["src", "pos"],sc:=[(("src":Str),.local,0),(("pos":Str),.local,1),(("parse_basic_str":Str),.globalImplicit,2)] }
theorem CD:AL.Ok:=.of (by decide +kernel)
def BS:Fi:={ scope:=A1 (nth 33),body:=A0 (nth 33),params:=["src", "place"],sc:=[(("src":Str),.local,0),(("place":Str),.local,1),(("parse_literal_str":Str),.globalImplicit,2),(("parse_one_line_basic_str":Str),.globalImplicit,3),(("TOMLDecodeError":Str),.globalImplicit,4),(("str":Str),.globalImplicit,5)] }
theorem BU:BS.Ok:=.of (by decide +kernel)
def Ct:Fi:={ scope:=A1 (nth 32),body:=A0 (nth 32),params:=["src", "place", "words"],sc:=[(("src":Str),.local,0),(("place":Str),.local,1),(("words":Str),.local,2),(("rows":Str),.local,3),(("len":Str),.globalImplicit,4),(("str":Str),.globalImplicit,5)] }
theorem DI:Ct.Ok:=.of (by decide +kernel)
def Cu:Fi:={ scope:=A1 (nth 30),body:=A0 (nth 30),params:=["number"],sc:=[(("number":Str),.local,0)] }
theorem DJ:Cu.Ok:=.of (by decide +kernel)
def BE:Fi:={ scope:=A1 (nth 29),body:=A0 (nth 29),params:=["sign"],sc:=[(("sign":Str),.local,0),(("number":Str),.local,1),(("figures":Str),.local,2),(("ord":Str),.globalImplicit,3)] }
theorem B5:BE.Ok:=.of (by decide +kernel)
def Cv:Fi:={ scope:=A1 (nth 31),body:=A0 (nth 31),params:=["state", "sign", "place"],sc:=[(("state":Str),.local,0),(("sign":Str),.local,1),(("place":Str),.local,2),(("name":Str),.local,3),(("lack":Str),.local,4),(("number":Str),.local,5),(("words":Str),.local,6),(("since":Str),.local,7),(("text":Str),.local,8),(("names":Str),.local,9),(("chr":Str),.globalImplicit,10),(("_law_control":Str),.globalImplicit,11),(("_law_sign":Str),.globalImplicit,12)] }
theorem Kg:Cv.Ok:=.of (by decide +kernel)
def Hb:Fi:={ scope:=A1 (nth 34),body:=A0 (nth 34),params:=["script"],sc:=[(("script":Str),.local,0),(("t":Str),.local,1),(("ends":Str),.local,2),(("head":Str),.cell,3),(("p":Str),.local,4),(("settled":Str),.local,5),(("state":Str),.local,6),(("m":Str),.local,7),(("name":Str),.local,8),(("lack":Str),.cell,9),(("number":Str),.cell,10),(("words":Str),.local,11),(("place":Str),.local,12),(("text":Str),.cell,13),(("src":Str),.cell,14),(("due":Str),.local,15),(("answers":Str),.local,16),(("d":Str),.local,17),(("full":Str),.local,18),(("code":Str),.local,19),(("cut":Str),.cell,20),(("faults":Str),.local,21),(("e":Str),.local,22),(("closes":Str),.local,23),(("_law_text":Str),.globalImplicit,24),(("range":Str),.globalImplicit,25),(("len":Str),.globalImplicit,26),(("_law_answer":Str),.globalImplicit,27),(("_law_told":Str),.globalImplicit,28),(("_law_sign":Str),.globalImplicit,29),(("chr":Str),.globalImplicit,30),(("_law_control":Str),.globalImplicit,31),(("_law_step":Str),.globalImplicit,32)] }
theorem UP:Hb.Ok:=.of (by decide +kernel)
def Bt:Fi:={ scope:=A1 (nth 25),body:=A0 (nth 25),params:=["src", "pos", "msg"],sc:=FU }
theorem Gc:Bt.Ok:=.of (by decide +kernel)
def E2:Fi:={ scope:=A1 ((A0 (nth 25)).getD 0 (.Pass default)),body:=A0 ((A0 (nth 25)).getD 0 (.Pass default)),params:=["src", "pos"],sc:=[(("src":Str),.local,0),(("pos":Str),.local,1),(("line":Str),.local,2),(("column":Str),.local,3),(("len":Str),.globalImplicit,4)] }
theorem Qq:E2.Ok:=.of (by decide +kernel)
structure Mod (W:Wd):Prop where
 f_law_text:DF W "_law_text" Cs 1 [] []
 f_skip_until:DF W "skip_until" BR 3 ["error_on", "error_on_eof"] []
 f_parse_literal_str:DF W "parse_literal_str" A5 2 [] []
 f_skip_chars:DF W "skip_chars" HJ 3 [] []
 f_is_unicode_scalar_value:DF W "is_unicode_scalar_value" AO 1 [] []
 f_parse_hex_char:DF W "parse_hex_char" Bi 3 [] []
 f_parse_basic_str:DF W "parse_basic_str" Bd 2 ["multiline"] []
 f_parse_one_line_basic_str:DF W "parse_one_line_basic_str" AL 2 [] []
 f_law_answer:DF W "_law_answer" BS 2 [] []
 f_law_told:DF W "_law_told" Ct 3 [] []
 f_law_sign:DF W "_law_sign" Cu 1 [] []
 f_law_control:DF W "_law_control" BE 1 [] []
 f_law_step:DF W "_law_step" Cv 3 [] []
 s_ILLEGAL_BASIC_STR_CHARS:∃ a,W.H.mg "ILLEGAL_BASIC_STR_CHARS" = some (.ref a)/\W.H.setv 0=some a
 s_ILLEGAL_LITERAL_STR_CHARS:∃ a,W.H.mg "ILLEGAL_LITERAL_STR_CHARS" = some (.ref a)/\W.H.setv 0=some a
 s_ILLEGAL_MULTILINE_BASIC_STR_CHARS:∃ a,W.H.mg "ILLEGAL_MULTILINE_BASIC_STR_CHARS" = some (.ref a)/\W.H.setv 1=some a
 s_TOML_WS:∃ a,W.H.mg "TOML_WS" = some (.ref a)/\W.H.setv 2=some a
 s_TOML_WS_AND_NEWLINE:∃ a,W.H.mg "TOML_WS_AND_NEWLINE" = some (.ref a)/\W.H.setv 3=some a
 s_HEXDIGIT_CHARS:∃ a,W.H.mg "HEXDIGIT_CHARS" = some (.ref a)/\W.H.setv 4=some a
 mp:W.H.mg "BASIC_STR_ESCAPE_REPLACEMENTS" = some (.ref W.H.mpv)
 v_parse_basic_str_escape:W.H.mg "parse_basic_str_escape" = some (.ref (W.H.fnv 0))
 v_parse_basic_str_escape_multiline:W.H.mg "parse_basic_str_escape_multiline" = some (.ref (W.H.fnv 1))
 c_parse_basic_str_escape:∃ fd,FnAt W.h₀ (W.H.fnv 0) fd AD/\Eb W fd AD 2 [] [.bool false]
 suf:TZ W Bt E2
 tabPos:W.H.tabPos=MP ((A0 (nth 25)).getD 0 (.Pass default))
def BV:M PFlow:=
  (aj (ac ((ac (af 1) λa=>ac ((ac (ag [af 0]) A7)) λb=>ac (Ao .GtE a b) tst)) λc=>if c then (ac (ae (.str [101,110,100,32,111,102,32,100,111,99,117,109,101,110,116])) λa=>ae (.ret a)) else (ae .next))
  (aj (ac ((ac ((ac (af 0) λa=>am (BN a) (ac (ag [ae (.str [10]),ae (.int 0),af 1]) (G3 a)))) λa=>ac (ae (.int 1)) λb=>Ai .Add a b)) λa=>ac (ah 2 a) λU=>ae .next)
  (aj (ac ((ac (af 2) λa=>ac (ae (.int 1)) λb=>ac (Ao .Eq a b) tst)) λc=>if c then (ac ((ac (af 1) λa=>ac (ae (.int 1)) λb=>Ai .Add a b)) λa=>ac (ah 3 a) λU=>ae .next) else (ac ((ac (af 1) λa=>ac ((ac (af 0) λb=>am (BN b) (ac (ag [ae (.str [10]),ae (.int 0),af 1]) (EZ b)))) λb=>Ai .Sub a b)) λa=>ac (ah 3 a) λU=>ae .next))
  (ac ((az [ae (.str [108,105,110,101,32]),(ac (af 2) D7),ae (.str [44,32,99,111,108,117,109,110,32]),(ac (af 3) D7)] [])) λa=>ae (.ret a)))))
theorem ST {W:Wd}{n:Nat}{fm:Fm}(hsc:fm.sc=E2.sc):SimS W n fm E2.body BV:=
  Aa (Ax (cm rfl (sv hsc 1 rfl) (cb hsc 4 rfl (sl rfl (sv hsc 0 rfl) .nil) Av)) (Af (Aq ss)) Ar)
  (Aa (sa hsc 2 rfl rfl (Ae (me rfl rfl (sv hsc 0 rfl) (sl rfl ss (sl rfl Ab (sl rfl (sv hsc 1 rfl) .nil))) LE CN (P8)) Ab))
  (Aa (Ax (cm rfl (sv hsc 2 rfl) Ab) (Af (sa hsc 3 rfl rfl (Ae (sv hsc 1 rfl) Ab))) (Af (sa hsc 3 rfl rfl (Ae (sv hsc 1 rfl) (me rfl rfl (sv hsc 0 rfl) (sl rfl ss (sl rfl Ab (sl rfl (sv hsc 1 rfl) .nil))) JY CN (NV))))))
  (Af (Aq (Dr (All2.cons ss (All2.cons (IR (sv hsc 2 rfl)) (All2.cons ss (All2.cons (IR (sv hsc 3 rfl)) (All2.nil))))))))))
theorem BX {W:Wd}{n i:Nat}{fm:Fm}{np pos:Pos}{es:List Expr}{m1 m2 m3:M PV}(Mo:Mod W)(hm:(("suffixed_err":Str),.globalImplicit,i)∈fm.sc)(q:SimL W (n+2) fm es [m1,m2,m3]) :
  SimXc W (n+2) fm (.Call (.Name "suffixed_err" np) es [] pos) (ac (ag [m1,m2,m3]) (aA (Eu BV))):=
 J1 (params:=G5 ((A0 (nth 25)).getD 0 (.Pass default))) (dp:=MP ((A0 (nth 25)).getD 0 (.Pass default))) Mo.suf Gc Qq rfl (by decide +kernel) rfl Mo.tabPos.symm rfl rfl (λU=>rfl) (by decide +kernel) rfl (λU U U U U U U=>rfl) hm q λfm' hs he hd=>ST hs
def CA (K:Nat):M PFlow:=
  ((aj (ac ((ac ((ac (ag [af 3]) Sk)) λa=>ac (ae (.int 24)) λb=>Ai .FloorDiv a b)) λa=>ac (ah 4 a) λU=>ae .next)
  (aj (ac ((ac (ag [(ac ((ac ((ac ((ac (ag [ae (.int 9)]) BI)) λa=>ac ((ac (ag [ae (.int 11),ae (.int 32)]) BI)) λb=>Ai .Add a b)) λa=>ac ((ao [.int 127])) λb=>Ai .Add a b)) λa=>ac ((ac (af 4) λb=>ac (ae (.int 31)) λc=>Ai .Mod b c)) λb=>Au false a b)]) D6)) λa=>ac (ah 5 a) λU=>ae .next)
  (aj (ac ((ac (af 4) λa=>ac (ae (.int 1112064)) λb=>Ai .Mod a b)) λa=>ac (ah 6 a) λU=>ae .next)
  (ac (af 2) λa=>ac ((ac ((ac (af 1) λb=>ac ((ac (ag [af 5,(ac (ag [(ac ((ac (af 6) λd=>ac (ae (.int 55296)) λe=>ac (Ao .Lt d e) tst)) λc=>if c then af 6 else (ac (af 6) λd=>ac (ae (.int 2048)) λe=>Ai .Add d e))]) D6)]) ao)) λd=>Ai .Add b d)) λb=>ac ((ac ((ac (ag [af 3]) Sk)) λd=>ac (ae (.int 24)) λe=>Ai .Mod d e)) λd=>Au false b d)) λb=>ac (Do .Add a b) λd=>ac (ah 2 d) λU=>ae .next)))))
def Dt (K:Nat):M PFlow:=
  (aj (ac ((ao [.str [92],.str [92,117],.str [92,85],.str [100],.str [68,56],.str [48,48],.str [48,48,49,48],.str [48,48,49,49],.str [49],.str [34],.str [39],.str [10],.str [9],.str [110],.str [92,92],.str [117],.str [92,85,48,48,48,48],.str [55,102],.str [69,48],.str [103],.str [92,34],.str [92,117,68]])) λa=>ac (ah 1 a) λU=>ae .next)
  (aj (ac (ae (.str [])) λa=>ac (ah 2 a) λU=>ae .next)
  (aj (ac (ac (af 0) Dx) λa=>aG a (ah 3) (CA K) K 0)
  (ac ((ac (af 2) λa=>ac (Ba none) λb=>ac (Ba (some (ae (.int 80)))) λc=>Bj b c a)) λa=>ae (.ret a)))))
theorem LR (K:Nat){W:Wd}(Mo:Mod W){fm:Fm}(hsc:fm.sc=Cs.sc)(hen:fm.env.scope=Cs.scope)(hh:fm.hdl=none):SimS W 0 fm Cs.body (Dt K):=
  Aa (sa hsc 1 rfl rfl (DZ (by kernel_rfl)))
  (Aa (sa hsc 2 rfl rfl ss)
  (Aa (EX hh (De (sv hsc 0 rfl)) (gn hsc 3 rfl rfl) (Aa (sa hsc 4 rfl rfl (Ae (cb hsc 7 rfl (sl rfl (sv hsc 3 rfl) .nil) (JH)) Ab))
  (Aa (sa hsc 5 rfl rfl (cb hsc 8 rfl (sl rfl (it hh (Ae (Ae (FX hh (scm hsc 9 rfl) (by decide +kernel) (by decide +kernel) (by decide +kernel) (by kernel_rfl) (scm hsc 10 rfl) (by decide +kernel) (by decide +kernel) (by decide +kernel) (by kernel_rfl) (sl rfl Ab .nil)) (FX hh (scm hsc 9 rfl) (by decide +kernel) (by decide +kernel) (by decide +kernel) (by kernel_rfl) (scm hsc 10 rfl) (by decide +kernel) (by decide +kernel) (by decide +kernel) (by kernel_rfl) (sl rfl Ab (sl rfl Ab .nil)))) (DZ (by kernel_rfl))) (Ae (sv hsc 4 rfl) Ab)) .nil) (BD)))
  (Aa (sa hsc 6 rfl rfl (Ae (sv hsc 4 rfl) Ab))
  (Af (sg hsc 2 rfl (it hh (Ae (sv hsc 1 rfl) (AK (sl rfl (sv hsc 5 rfl) (sl rfl (cb hsc 8 rfl (sl rfl (BC (cm rfl (sv hsc 6 rfl) Ab) (sv hsc 6 rfl) (Ae (sv hsc 6 rfl) Ab)) .nil) (BD)) .nil)))) (Ae (cb hsc 7 rfl (sl rfl (sv hsc 3 rfl) .nil) (JH)) Ab))))))) (Co rfl) K)
  (Af (Aq (Bv (sv hsc 2 rfl) SimO.none (SimO.some Ab))))))
def C0 (K:Nat):M PFlow:=
  ((ac (af 1) λa=>ac (ae (.int 1)) λb=>ac (Do .Add a b) λc=>ac (ah 1 c) λU=>ae .next))
def A9 (K:Nat):M PFlow:=
  (aj (aD (HQ "ValueError" (aj (ac ((ac (ag [af 0]) A7)) λx3=>ac (ah 5 x3) λU=>ae .next) (ac ((ac (af 4) tst)) λc=>if c then (ac ((ac (ag [af 0,af 5,(az [ae (.str [69,120,112,101,99,116,101,100,32]),(ac (af 2) GB)] [])]) (aA (Eu BV)))) λt=>aK (.toml t)) else ae .next))) ((ac ((ac (af 0) λx1=>am (BN x1) (ac (ag [af 2,af 1]) (Ds false x1)))) λx2=>ac (ah 5 x2) λU=>ae .next)))
  (aj (ac ((ac ((ac ((ac (af 3) λa=>am (H7 a) (ac (ag [(ac (af 0) λb=>ac (Ba (some (af 1))) λd=>ac (Ba (some (af 5))) λe=>Bj d e b)]) (NQ a)))) tst)) λc=>ae !c)) λc=>if c then (aj (aC ((ac ((ac (af 0) λa=>ac (af 1) λb=>Au false a b)) λa=>ac (af 3) λb=>ac (Ao .NotIn a b) tst)) (C0 K) K)
  (ac ((ac (ag [af 0,af 1,(az [ae (.str [70,111,117,110,100,32,105,110,118,97,108,105,100,32,99,104,97,114,97,99,116,101,114,32]),(ac ((ac (af 0) λa=>ac (af 1) λb=>Au false a b)) GB)] [])]) (aA (Eu BV)))) λt=>aK (.toml t))) else (ae .next))
  (ac (af 5) λa=>ae (.ret a))))
theorem I5 (K:Nat){W:Wd}(Mo:Mod W){fm:Fm}(hsc:fm.sc=BR.sc)(hen:fm.env.scope=BR.scope)(hh:fm.hdl=none):SimS W 2 fm BR.body (A9 K):=
  Aa (Fv Lq (scm hsc 6 rfl) (by decide +kernel) (by decide +kernel) (by decide +kernel) (by kernel_rfl) (Af (sa hsc 5 rfl rfl (me rfl rfl (sv hsc 0 rfl) (sl rfl (sv hsc 2 rfl) (sl rfl (sv hsc 1 rfl) .nil)) G0 CN (Ia hh)))) (λy=>have hsc:(fm.mark y).sc=_:=hsc;Lx (sa hsc 5 rfl rfl (cb hsc 7 rfl (sl rfl (sv hsc 0 rfl) .nil) Av)) (PR (BB (sv hsc 4 rfl) (B3 rfl)) (Er (BX Mo (scm hsc 8 rfl) (sl rfl (sv hsc 0 rfl) (sl rfl (sv hsc 5 rfl) (sl rfl (Dr (All2.cons ss (All2.cons (GW (sv hsc 2 rfl)) (All2.nil)))) .nil))))))))
  (Aa (Ax (ES (BB (me rfl rfl (sv hsc 3 rfl) (sl rfl (Bv (sv hsc 0 rfl) (SimO.some (sv hsc 1 rfl)) (SimO.some (sv hsc 5 rfl))) .nil) F5 ML (HD hh)) (B3 rfl))) (Aa (GO (cm rfl (it hh (sv hsc 0 rfl) (sv hsc 1 rfl)) (sv hsc 3 rfl)) (Af (sg hsc 1 rfl Ab)) K)
  (Af (CY hh (BX Mo (scm hsc 8 rfl) (sl rfl (sv hsc 0 rfl) (sl rfl (sv hsc 1 rfl) (sl rfl (Dr (All2.cons ss (All2.cons (GW (it hh (sv hsc 0 rfl) (sv hsc 1 rfl))) (All2.nil)))) .nil))))))) Ar)
  (Af (Aq (sv hsc 5 rfl))))
def Aw (K:Nat):M PFlow:=
  (aj (ac (af 1) λa=>ac (ae (.int 1)) λb=>ac (Do .Add a b) λc=>ac (ah 1 c) λU=>ae .next)
  (aj (ac (af 1) λa=>ac (ah 2 a) λU=>ae .next)
  (aj (ac ((ac (ag [af 0,af 1,ae (.str [39])]) λa=>ac (ag [ae (.fset 0),ae (.bool true)]) λb=>ak (A9 K) (a++b))) λa=>ac (ah 1 a) λU=>ae .next)
  (ac ((ac (ag [(ac (af 1) λa=>ac (ae (.int 1)) λb=>Ai .Add a b),(ac (af 0) λa=>ac (Ba (some (af 2))) λb=>ac (Ba (some (af 1))) λc=>Bj b c a)]) EM)) λa=>ae (.ret a)))))
theorem D8 (K:Nat){W:Wd}(Mo:Mod W){fm:Fm}(hsc:fm.sc=A5.sc)(hen:fm.env.scope=A5.scope)(hh:fm.hdl=none):SimS W 3 fm A5.body (Aw K):=
  Aa (sg hsc 1 rfl Ab)
  (Aa (sa hsc 2 rfl rfl (sv hsc 1 rfl))
  (Aa (sa hsc 1 rfl rfl (Ee Mo.f_skip_until HI (scm hsc 3 rfl) (by decide +kernel) (sl rfl (sv hsc 0 rfl) (sl rfl (sv hsc 1 rfl) (sl rfl ss .nil))) (SimKw.cons (Gn Mo.s_ILLEGAL_LITERAL_STR_CHARS (scm hsc 4 rfl) (by decide +kernel)) (SimKw.cons B1 (SimKw.nil))) (λfm' hs he hd=>(I5 K Mo hs he (hd.trans hh)).up (by decide))))
  (Af (Aq (Bw (sl rfl (Ae (sv hsc 1 rfl) Ab) (sl rfl (Bv (sv hsc 0 rfl) (SimO.some (sv hsc 2 rfl)) (SimO.some (sv hsc 1 rfl))) .nil)))))))
def AE (K:Nat):M PFlow:=
  (ac ((BK .Or [(ac (ae (.int 0)) λa=>ac (af 0) λb=>C5 .LtE .LtE a b (ae (.int 55295))),(ac (ae (.int 57344)) λa=>ac (af 0) λb=>C5 .LtE .LtE a b (ae (.int 1114111)))])) λa=>ae (.ret a))
theorem CT (K:Nat){W:Wd}(Mo:Mod W){fm:Fm}(hsc:fm.sc=AO.sc)(hen:fm.env.scope=AO.scope)(hh:fm.hdl=none):SimS W 0 fm AO.body (AE K):=
  Af (Aq (Fp (All2.cons (Fw Ab (sv hsc 0 rfl) Ab (IX rfl)) (All2.cons (Fw Ab (sv hsc 0 rfl) Ab (IX rfl)) (All2.nil)))))
def AB (K:Nat):M PFlow:=
  (aj (ac ((ac (af 0) λa=>ac (Ba (some (af 1))) λb=>ac (Ba (some ((ac (af 1) λc=>ac (af 2) λd=>Ai .Add c d)))) λc=>Bj b c a)) λa=>ac (ah 3 a) λU=>ae .next)
  (aj (ac ((AM .Or [(ac ((ac (ag [af 3]) A7)) λa=>ac (af 2) λb=>ac (Ao .NotEq a b) tst),(ac ((ac ((ac (ae (.fset 4)) λa=>am (H7 a) (ac (ag [af 3]) (NR a)))) tst)) λc=>ae !c)])) λc=>if c then (ac ((ac (ag [af 0,af 1,ae (.str [73,110,118,97,108,105,100,32,104,101,120,32,118,97,108,117,101])]) (aA (Eu BV)))) λt=>aK (.toml t)) else (ae .next))
  (aj (ac (af 1) λa=>ac (af 2) λb=>ac (Do .Add a b) λc=>ac (ah 1 c) λU=>ae .next)
  (aj (ac ((ac (ag [af 3,ae (.int 16)]) SM)) λa=>ac (ah 4 a) λU=>ae .next)
  (aj (ac ((ac ((ac ((ac (ag [af 4]) (ak (AE K)))) tst)) λc=>ae !c)) λc=>if c then (ac ((ac (ag [af 0,af 1,ae (.str [69,115,99,97,112,101,100,32,99,104,97,114,97,99,116,101,114,32,105,115,32,110,111,116,32,97,32,85,110,105,99,111,100,101,32,115,99,97,108,97,114,32,118,97,108,117,101])]) (aA (Eu BV)))) λt=>aK (.toml t)) else (ae .next))
  (ac ((ac (ag [af 1,(ac (ag [af 4]) D6)]) EM)) λa=>ae (.ret a)))))))
theorem Df (K:Nat){W:Wd}(Mo:Mod W){fm:Fm}(hsc:fm.sc=Bi.sc)(hen:fm.env.scope=Bi.scope)(hh:fm.hdl=none):SimS W 2 fm Bi.body (AB K):=
  Aa (sa hsc 3 rfl rfl (Bv (sv hsc 0 rfl) (SimO.some (sv hsc 1 rfl)) (SimO.some (Ae (sv hsc 1 rfl) (sv hsc 2 rfl)))))
  (Aa (Ax (A6 (All2.cons (cm rfl (cb hsc 5 rfl (sl rfl (sv hsc 3 rfl) .nil) Av) (sv hsc 2 rfl)) (All2.cons (ES (BB (me rfl rfl (Gn Mo.s_HEXDIGIT_CHARS (scm hsc 6 rfl) (by decide +kernel)) (sl rfl (sv hsc 3 rfl) .nil) F9 ML (HE hh)) (B3 rfl))) (All2.nil)))) (Af (CY hh (BX Mo (scm hsc 7 rfl) (sl rfl (sv hsc 0 rfl) (sl rfl (sv hsc 1 rfl) (sl rfl ss .nil)))))) Ar)
  (Aa (sg hsc 1 rfl (sv hsc 2 rfl))
  (Aa (sa hsc 4 rfl rfl (ct hsc 8 rfl (sl rfl (sv hsc 3 rfl) (sl rfl Ab .nil)) (LD)))
  (Aa (Ax (ES (BB (fc Mo.f_is_unicode_scalar_value CO hsc 9 rfl (sl rfl (sv hsc 4 rfl) .nil) hh (CT K Mo)) (B3 rfl))) (Af (CY hh (BX Mo (scm hsc 7 rfl) (sl rfl (sv hsc 0 rfl) (sl rfl (sv hsc 1 rfl) (sl rfl ss .nil)))))) Ar)
  (Af (Aq (Bw (sl rfl (sv hsc 1 rfl) (sl rfl (cb hsc 10 rfl (sl rfl (sv hsc 4 rfl) .nil) (BD)) .nil)))))))))
def As (K:Nat):M PFlow:=
  (aj (ac ((ac (af 0) λa=>ac (Ba (some (af 1))) λb=>ac (Ba (some ((ac (af 1) λc=>ac (ae (.int 2)) λd=>Ai .Add c d)))) λc=>Bj b c a)) λa=>ac (ah 3 a) λU=>ae .next)
  (aj (ac (af 1) λa=>ac (ae (.int 2)) λb=>ac (Do .Add a b) λc=>ac (ah 1 c) λU=>ae .next)
  (aj (ac ((AM .And [(ac (af 2) tst),aq])) λc=>if c then aq else (ae .next))
  (aj (ac ((ac (af 3) λa=>ac (ae (.str [92,117])) λb=>ac (Ao .Eq a b) tst)) λc=>if c then (ac ((ac (ag [af 0,af 1,ae (.int 4)]) (ak (AB K)))) λa=>ae (.ret a)) else (ae .next))
  (aj (ac ((ac (af 3) λa=>ac (ae (.str [92,85])) λb=>ac (Ao .Eq a b) tst)) λc=>if c then (ac ((ac (ag [af 0,af 1,ae (.int 8)]) (ak (AB K)))) λa=>ae (.ret a)) else (ae .next))
  (aD (HQ "KeyError" (ac ((ac (ag [af 0,af 1,ae (.str [85,110,101,115,99,97,112,101,100,32,39,92,39,32,105,110,32,97,32,115,116,114,105,110,103])]) (aA (Eu BV)))) λt=>aK (.toml t))) ((ac ((ac (ag [af 1,(ac (ae .mp) λx16=>ac (af 3) λx17=>Au false x16 x17)]) EM)) λx18=>ae (.ret x18)))))))))
theorem C6 (K:Nat){W:Wd}(Mo:Mod W){fm:Fm}(hsc:fm.sc=AD.sc)(hen:fm.env.scope=AD.scope)(hh:fm.hdl=none):SimS W 3 fm AD.body (As K):=
  Aa (sa hsc 3 rfl rfl (Bv (sv hsc 0 rfl) (SimO.some (sv hsc 1 rfl)) (SimO.some (Ae (sv hsc 1 rfl) Ab))))
  (Aa (sg hsc 1 rfl Ab)
  (Aa (Ax (A6 (All2.cons (BB (sv hsc 2 rfl) (B3 rfl)) (All2.cons (LF) (All2.nil)))) LH Ar)
  (Aa (Ax (cm rfl (sv hsc 3 rfl) ss) (Af (Aq (fc Mo.f_parse_hex_char CZ hsc 10 rfl (sl rfl (sv hsc 0 rfl) (sl rfl (sv hsc 1 rfl) (sl rfl Ab .nil))) hh (Df K Mo)))) Ar)
  (Aa (Ax (cm rfl (sv hsc 3 rfl) ss) (Af (Aq (fc Mo.f_parse_hex_char CZ hsc 10 rfl (sl rfl (sv hsc 0 rfl) (sl rfl (sv hsc 1 rfl) (sl rfl Ab .nil))) hh (Df K Mo)))) Ar)
  (Af (Fv PO (scm hsc 12 rfl) (by decide +kernel) (by decide +kernel) (by decide +kernel) (by kernel_rfl) (Af (Aq (Bw (sl rfl (sv hsc 1 rfl) (sl rfl (it hh (SQ Mo.mp (scm hsc 11 rfl) (by decide +kernel)) (sv hsc 3 rfl)) .nil))))) (λy=>have hsc:(fm.mark y).sc=_:=hsc;Er (BX Mo (scm hsc 8 rfl) (sl rfl (sv hsc 0 rfl) (sl rfl (sv hsc 1 rfl) (sl rfl ss .nil)))))))))))
def UQ (K:Nat):Nat->Option (M PFlow × List PV)
 | 0=>some (As K,[.bool false])
 | _=>none
theorem SU (K:Nat){W:Wd}{n:Nat}(Mo:Mod W){fm:Fm}(hh:fm.hdl=none):∀ k m ext,UQ K k=some (m,ext)->∃ fd fi extv,FnAt W.h₀ (W.H.fnv k) fd fi/\fi.Ok/\Eb W fd fi 2 [] extv/\(∀ av V h,RepL W.H W.h₀ av V h ext extv)/\∀ fm':Fm,fm'.sc=fi.sc->fm'.env.scope=fi.scope->fm'.hdl=fm.hdl->SimS W (n+3) fm' fi.body m:=by
 intro k m ext h
 obtain ⟨fd,a,b⟩:=Mo.c_parse_basic_str_escape
 cases k with
 | succ=>injection h
 | zero=>
  cases h
  exact ⟨fd,_,_,a,CS,b,λU U U=>.cons (.bool false) .nil,λfm' hs he hd=>(C6 K Mo hs he (hd.trans hh)).up (by exact la [_] [] ([7],[2,7,0]) rfl)⟩
def Ak (K:Nat):M PFlow:=
  ((aj (aD (HQ "IndexError" (ac ((ac (ag [af 0,af 1,ae (.str [85,110,116,101,114,109,105,110,97,116,101,100,32,115,116,114,105,110,103])]) (aA (Eu BV)))) λt=>aK (.toml t))) ((ac ((ac (af 0) λx7=>ac (af 1) λx8=>Au false x7 x8)) λx9=>ac (ah 7 x9) λU=>ae .next)))
  (aj (ac ((ac (af 7) λa=>ac (ae (.str [34])) λb=>ac (Ao .Eq a b) tst)) λc=>if c then (aj (ac ((ac ((ac (af 2) tst)) λc=>ae !c)) λc=>if c then (ac ((ac (ag [(ac (af 1) λa=>ac (ae (.int 1)) λb=>Ai .Add a b),(ac (af 5) λa=>ac ((ac (af 0) λb=>ac (Ba (some (af 6))) λd=>ac (Ba (some (af 1))) λe=>Bj d e b)) λb=>Ai .Add a b)]) EM)) λa=>ae (.ret a)) else (ae .next))
  (aj aq
  (aj (ac (af 1) λa=>ac (ae (.int 1)) λb=>ac (Do .Add a b) λc=>ac (ah 1 c) λU=>ae .next)
  (ae .cont)))) else (ae .next))
  (aj (ac ((ac (af 7) λa=>ac (ae (.str [92])) λb=>ac (Ao .Eq a b) tst)) λc=>if c then (aj (ac (af 5) λa=>ac ((ac (af 0) λb=>ac (Ba (some (af 6))) λd=>ac (Ba (some (af 1))) λe=>Bj d e b)) λb=>ac (Do .Add a b) λd=>ac (ah 5 d) λU=>ae .next)
  (aj (ac ((ac (af 4) (aM (UQ K) [af 0,af 1]))) λa=>ac (aE [ah 1,ah 8] a) λU=>ae .next)
  (aj (ac (af 5) λa=>ac (af 8) λb=>ac (Do .Add a b) λc=>ac (ah 5 c) λU=>ae .next)
  (aj (ac (af 1) λa=>ac (ah 6 a) λU=>ae .next)
  (ae .cont))))) else (ae .next))
  (aj (ac ((ac (af 7) λa=>ac (af 3) λb=>ac (Ao .In a b) tst)) λc=>if c then (ac ((ac (ag [af 0,af 1,(az [ae (.str [73,108,108,101,103,97,108,32,99,104,97,114,97,99,116,101,114,32]),(ac (af 7) GB)] [])]) (aA (Eu BV)))) λt=>aK (.toml t)) else (ae .next))
  (ac (af 1) λa=>ac (ae (.int 1)) λb=>ac (Do .Add a b) λc=>ac (ah 1 c) λU=>ae .next))))))
def By (K:Nat):M PFlow:=
  (aj (ac ((ac (af 2) tst)) λc=>if c then (aj (ac (ae (.fset 1)) λa=>ac (ah 3 a) λU=>ae .next)
  (ac (ae (.fn 1)) λa=>ac (ah 4 a) λU=>ae .next)) else (aj (ac (ae (.fset 0)) λa=>ac (ah 3 a) λU=>ae .next)
  (ac (ae (.fn 0)) λa=>ac (ah 4 a) λU=>ae .next)))
  (aj (ac (ae (.str [])) λa=>ac (ah 5 a) λU=>ae .next)
  (aj (ac (af 1) λa=>ac (ah 6 a) λU=>ae .next)
  (aC ((ac (ae (.bool true)) tst)) (Ak K) K))))
theorem E3 (K:Nat){W:Wd}(Mo:Mod W){fm:Fm}(hsc:fm.sc=Bd.sc)(hen:fm.env.scope=Bd.scope)(hh:fm.hdl=none):SimS W 4 fm Bd.body (By K):=
  Aa (Ax (BB (sv hsc 2 rfl) (B3 rfl)) (Aa (sa hsc 3 rfl rfl (Gn Mo.s_ILLEGAL_MULTILINE_BASIC_STR_CHARS (scm hsc 9 rfl) (by decide +kernel)))
  (Af (sa hsc 4 rfl rfl (MS Mo.v_parse_basic_str_escape_multiline (scm hsc 10 rfl) (by decide +kernel))))) (Aa (sa hsc 3 rfl rfl (Gn Mo.s_ILLEGAL_BASIC_STR_CHARS (scm hsc 11 rfl) (by decide +kernel)))
  (Af (sa hsc 4 rfl rfl (MS Mo.v_parse_basic_str_escape (scm hsc 12 rfl) (by decide +kernel))))))
  (Aa (sa hsc 5 rfl rfl ss)
  (Aa (sa hsc 6 rfl rfl (sv hsc 1 rfl))
  (Af (GO (BB B1 (B3 rfl)) (Aa (Fv Lp (scm hsc 13 rfl) (by decide +kernel) (by decide +kernel) (by decide +kernel) (by kernel_rfl) (Af (sa hsc 7 rfl rfl (it hh (sv hsc 0 rfl) (sv hsc 1 rfl)))) (λy=>have hsc:(fm.mark y).sc=_:=hsc;Er (BX Mo (scm hsc 14 rfl) (sl rfl (sv hsc 0 rfl) (sl rfl (sv hsc 1 rfl) (sl rfl ss .nil))))))
  (Aa (Ax (cm rfl (sv hsc 7 rfl) ss) (Aa (Ax (ES (BB (sv hsc 2 rfl) (B3 rfl))) (Af (Aq (Bw (sl rfl (Ae (sv hsc 1 rfl) Ab) (sl rfl (Ae (sv hsc 5 rfl) (Bv (sv hsc 0 rfl) (SimO.some (sv hsc 6 rfl)) (SimO.some (sv hsc 1 rfl)))) .nil))))) Ar)
  (Aa (LG)
  (Aa (sg hsc 1 rfl Ab)
  (Af HX)))) Ar)
  (Aa (Ax (cm rfl (sv hsc 7 rfl) ss) (Aa (sg hsc 5 rfl (Bv (sv hsc 0 rfl) (SimO.some (sv hsc 6 rfl)) (SimO.some (sv hsc 1 rfl))))
  (Aa (CW hh (gs rfl (gn hsc 1 rfl rfl) (gs rfl (gn hsc 8 rfl rfl) .nil)) (NZ (scm hsc 4 rfl) (Or.inl rfl) (by decide +kernel) (by decide +kernel) (sl rfl (sv hsc 0 rfl) (sl rfl (sv hsc 1 rfl) .nil)) (SU K Mo hh)) (E1 rfl) (IW rfl))
  (Aa (sg hsc 5 rfl (sv hsc 8 rfl))
  (Aa (sa hsc 6 rfl rfl (sv hsc 1 rfl))
  (Af HX))))) Ar)
  (Aa (Ax (cm rfl (sv hsc 7 rfl) (sv hsc 3 rfl)) (Af (CY hh (BX Mo (scm hsc 14 rfl) (sl rfl (sv hsc 0 rfl) (sl rfl (sv hsc 1 rfl) (sl rfl (Dr (All2.cons ss (All2.cons (GW (sv hsc 7 rfl)) (All2.nil)))) .nil)))))) Ar)
  (Af (sg hsc 1 rfl Ab)))))) K))))
def Ah (K:Nat):M PFlow:=
  (aj (ac (af 1) λa=>ac (ae (.int 1)) λb=>ac (Do .Add a b) λc=>ac (ah 1 c) λU=>ae .next)
  (ac ((ac (ag [af 0,af 1]) λa=>ac (ag [ae (.bool false)]) λb=>ak (By K) (a++b))) λa=>ae (.ret a)))
theorem CP (K:Nat){W:Wd}(Mo:Mod W){fm:Fm}(hsc:fm.sc=AL.sc)(hen:fm.env.scope=AL.scope)(hh:fm.hdl=none):SimS W 5 fm AL.body (Ah K):=
  Aa (sg hsc 1 rfl Ab)
  (Af (Aq (Ee Mo.f_parse_basic_str Ex (scm hsc 2 rfl) (by decide +kernel) (sl rfl (sv hsc 0 rfl) (sl rfl (sv hsc 1 rfl) .nil)) (SimKw.cons B1 (SimKw.nil)) (λfm' hs he hd=>(E3 K Mo hs he (hd.trans hh)).up (by decide)))))
def Ay (K:Nat):M PFlow:=
  (aD (Pq λt=>aJ (ac (ac (ag [ae (.str t)]) ao) λa=>ae (.ret a))) ((ac ((ac ((ac ((ac (af 0) λb=>ac (af 1) λd=>Au false b d)) λb=>ac (ae (.str [39])) λd=>ac (Ao .Eq b d) tst)) λc=>if c then (ac (ag [af 0,af 1]) (ak (Aw K))) else (ac (ag [af 0,af 1]) (ak (Ah K))))) λb=>ae (.ret b))))
theorem B6 (K:Nat){W:Wd}(Mo:Mod W){fm:Fm}(hsc:fm.sc=BS.sc)(hen:fm.env.scope=BS.scope)(hh:fm.hdl=none):SimS W 6 fm BS.body (Ay K):=
  Af (Lv (scm hsc 4 rfl) (λk i q=>absurd q (by rw [hsc];exact UJ (by decide +kernel))) (by show fm.env.scope.names.lookup _=_;rw [hen];decide +kernel) (Af (Aq (BC (cm rfl (it hh (sv hsc 0 rfl) (sv hsc 1 rfl)) ss) (fc Mo.f_parse_literal_str DH hsc 2 rfl (sl rfl (sv hsc 0 rfl) (sl rfl (sv hsc 1 rfl) .nil)) hh (D8 K Mo)) (fc Mo.f_parse_one_line_basic_str CD hsc 3 rfl (sl rfl (sv hsc 0 rfl) (sl rfl (sv hsc 1 rfl) .nil)) hh (CP K Mo))))) (λy t=>NK (LM (PQ (i:=5) (by show fm.env.scope.names.lookup _=_;rw [hen];decide +kernel) (by decide +kernel) (show _∈fm.sc from (scm hsc 5 rfl))) (λU U=>rfl))))
def BF (K:Nat):M PFlow:=
  (aj (ac ((ac (af 1) λa=>ac ((ac (ag [af 0]) A7)) λb=>ac (Ao .GtE a b) tst)) λc=>if c then (ac ((ac (ag [(ac (af 2) λa=>ac (ae (.str [32,40,97,116,32,101,110,100,32,111,102,32,100,111,99,117,109,101,110,116,41])) λb=>Ai .Add a b)]) ao)) λa=>ae (.ret a)) else (ae .next))
  (aj (ac ((ac ((ac (af 0) λa=>ac (Ba none) λb=>ac (Ba (some (af 1))) λc=>Bj b c a)) λa=>am (BN a) (ac (ag [ae (.str [10])]) (FE a)))) λa=>ac (ah 3 a) λU=>ae .next)
  (ac ((ac (ag [(ac ((ac ((ac ((ac ((ac (af 2) λa=>ac (ae (.str [32,40,97,116,32,108,105,110,101,32])) λb=>Ai .Add a b)) λa=>ac ((ac (ag [(ac (ag [af 3]) A7)]) Po)) λb=>Ai .Add a b)) λa=>ac (ae (.str [44,32,99,111,108,117,109,110,32])) λb=>Ai .Add a b)) λa=>ac ((ac (ag [(ac ((ac (ag [(ac (af 3) λb=>ac ((ac (ae (.int 1)) UG)) λc=>Au false b c)]) A7)) λb=>ac (ae (.int 1)) λc=>Ai .Add b c)]) Po)) λb=>Ai .Add a b)) λa=>ac (ae (.str [41])) λb=>Ai .Add a b)]) ao)) λa=>ae (.ret a))))
theorem Ey (K:Nat){W:Wd}(Mo:Mod W){fm:Fm}(hsc:fm.sc=Ct.sc)(hen:fm.env.scope=Ct.scope)(hh:fm.hdl=none):SimS W 0 fm Ct.body (BF K):=
  Aa (Ax (cm rfl (sv hsc 1 rfl) (cb hsc 4 rfl (sl rfl (sv hsc 0 rfl) .nil) Av)) (Af (Aq (AK (sl rfl (Ae (sv hsc 2 rfl) ss) .nil)))) Ar)
  (Aa (sa hsc 3 rfl rfl (me rfl rfl (Bv (sv hsc 0 rfl) SimO.none (SimO.some (sv hsc 1 rfl))) (sl rfl ss .nil) G9 CN (J9)))
  (Af (Aq (AK (sl rfl (Ae (Ae (Ae (Ae (Ae (sv hsc 2 rfl) ss) (ct hsc 5 rfl (sl rfl (cb hsc 4 rfl (sl rfl (sv hsc 3 rfl) .nil) Av) .nil) JI)) ss) (ct hsc 5 rfl (sl rfl (Ae (cb hsc 4 rfl (sl rfl (it hh (sv hsc 3 rfl) (SG Ab)) .nil) Av) Ab) .nil) JI)) ss) .nil)))))
def m_law_sign (K:Nat):M PFlow:=
  (ac ((BK .Or [(ac (af 0) λa=>ac (ae (.int 55296)) λb=>Ao .Lt a b),(ac (ae (.int 57344)) λa=>ac (af 0) λb=>C5 .LtE .Lt a b (ae (.int 1114112)))])) λa=>ae (.ret a))
theorem Ez (K:Nat){W:Wd}(Mo:Mod W){fm:Fm}(hsc:fm.sc=Cu.sc)(hen:fm.env.scope=Cu.scope)(hh:fm.hdl=none):SimS W 0 fm Cu.body (m_law_sign K):=
  Af (Aq (Fp (All2.cons (ce rfl (sv hsc 0 rfl) Ab) (All2.cons (Fw Ab (sv hsc 0 rfl) Ab (IX rfl)) (All2.nil)))))
def A4 (K:Nat):M PFlow:=
  (aj (ac ((ac (ag [af 0]) Ux)) λa=>ac (ah 1 a) λU=>ae .next)
  (aj (ac ((AM .Or [(AM .And [(ac (af 1) λa=>ac (ae (.int 31)) λb=>ac (Ao .Gt a b) tst),(ac (af 1) λa=>ac (ae (.int 127)) λb=>ac (Ao .NotEq a b) tst)]),(ac (af 1) λa=>ac (ae (.int 9)) λb=>ac (Ao .Eq a b) tst)])) λc=>if c then (ac (ae (.str [])) λa=>ae (.ret a)) else (ae .next))
  (aj (ac ((ac ((ac (ae (.str [48,49,50,51,52,53,54,55,56,57,97,98,99,100,101,102])) λa=>ac ((ac (af 1) λb=>ac (ae (.int 16)) λc=>Ai .FloorDiv b c)) λb=>Au false a b)) λa=>ac ((ac (ae (.str [48,49,50,51,52,53,54,55,56,57,97,98,99,100,101,102])) λb=>ac ((ac (af 1) λc=>ac (ae (.int 16)) λd=>Ai .Mod c d)) λc=>Au false b c)) λb=>Ai .Add a b)) λa=>ac (ah 2 a) λU=>ae .next)
  (ac ((ac ((ac (ae (.str [32,99,104,97,114,97,99,116,101,114,32,39,92])) λa=>ac ((ac ((JR .int [10,13] [.str [110],.str [114]])) λb=>am (LK b) (ac (ag [af 1,(ac (ae (.str [120])) λc=>ac (af 2) λd=>Ai .Add c d)]) (Qk b)))) λb=>Ai .Add a b)) λa=>ac (ae (.str [39])) λb=>Ai .Add a b)) λa=>ae (.ret a)))))
theorem Cp (K:Nat){W:Wd}(Mo:Mod W){fm:Fm}(hsc:fm.sc=BE.sc)(hen:fm.env.scope=BE.scope)(hh:fm.hdl=none):SimS W 0 fm BE.body (A4 K):=
  Aa (sa hsc 1 rfl rfl (cb hsc 3 rfl (sl rfl (sv hsc 0 rfl) .nil) (PH)))
  (Aa (Ax (A6 (All2.cons (A6 (All2.cons (cm rfl (sv hsc 1 rfl) Ab) (All2.cons (cm rfl (sv hsc 1 rfl) Ab) (All2.nil)))) (All2.cons (cm rfl (sv hsc 1 rfl) Ab) (All2.nil)))) (Af (Aq ss)) Ar)
  (Aa (sa hsc 2 rfl rfl (Ae (it hh ss (Ae (sv hsc 1 rfl) Ab)) (it hh ss (Ae (sv hsc 1 rfl) Ab))))
  (Af (Aq (Ae (Ae ss (me rfl rfl (N0 (by kernel_rfl) (by kernel_rfl) rfl (by decide) (cons_ne_nil _ _) (Nat.le_of_ble_eq_true rfl)) (sl rfl (sv hsc 1 rfl) (sl rfl (Ae ss (sv hsc 2 rfl)) .nil)) Qm Ql (UO))) ss)))))
def Du (K:Nat):M PFlow:=
  (aj (ac (af 0) λa=>ac (aE [ah 3,ah 4,ah 5,ah 6,ah 7,ah 8] a) λU=>ae .next)
  (aj (ac ((ac (ag [(ac (ag [ae (.int 8)]) D6),(ac (ag [ae (.int 9)]) D6),(ac (ag [ae (.int 10)]) D6),(ac (ag [ae (.int 12)]) D6),(ac (ag [ae (.int 13)]) D6),ae (.str [34]),ae (.str [92])]) (JR SF ["b", "t", "n", "f", "r", "\"", "\\"]))) λx2=>ac (ah 9 x2) λU=>ae .next)
  (aj (ac ((AM .And [(ac (af 3) λa=>ac (ae (.str [112,108,97,105,110])) λb=>ac (Ao .Eq a b) tst),(ac (af 1) λa=>ac (ae (.str [34])) λb=>ac (Ao .Eq a b) tst)])) λc=>if c then (ac ((ac (ag [ae (.str [99,108,111,115,101,100]),ae (.int 0),ae (.int 0),ae (.str []),(ac (af 2) λa=>ac (ae (.int 1)) λb=>Ai .Add a b),af 8]) ao)) λa=>ae (.ret a)) else (ae .next))
  (aj (ac ((AM .And [(ac (af 3) λa=>ac (ae (.str [112,108,97,105,110])) λb=>ac (Ao .Eq a b) tst),(ac (af 1) λa=>ac (ae (.str [92])) λb=>ac (Ao .Eq a b) tst)])) λc=>if c then (ac ((ac (ag [ae (.str [110,97,109,101,100]),ae (.int 0),ae (.int 0),ae (.str [85,110,101,115,99,97,112,101,100,32,39,92,39,32,105,110,32,97,32,115,116,114,105,110,103]),(ac (af 2) λa=>ac (ae (.int 2)) λb=>Ai .Add a b),af 8]) ao)) λa=>ae (.ret a)) else (ae .next))
  (aj (ac ((AM .And [(ac (af 3) λa=>ac (ae (.str [112,108,97,105,110])) λb=>ac (Ao .Eq a b) tst),(ac ((ac (ag [af 1]) (ak (A4 K)))) λa=>ac (ae (.str [])) λb=>ac (Ao .NotEq a b) tst)])) λc=>if c then (ac ((ac (ag [ae (.str [114,101,102,117,115,101,100]),ae (.int 0),ae (.int 0),(ac (ae (.str [73,108,108,101,103,97,108])) λa=>ac ((ac (ag [af 1]) (ak (A4 K)))) λb=>Ai .Add a b),af 2,af 8]) ao)) λa=>ae (.ret a)) else (ae .next))
  (aj (ac ((AM .Or [(ac (af 3) λa=>ac (ae (.str [112,108,97,105,110])) λb=>ac (Ao .Eq a b) tst),(AM .And [(ac (af 3) λa=>ac (ae (.str [110,97,109,101,100])) λb=>ac (Ao .Eq a b) tst),(ac (af 1) λa=>ac (af 9) λb=>ac (Ao .In a b) tst)])])) λc=>if c then (ac ((ac (ag [ae (.str [112,108,97,105,110]),ae (.int 0),ae (.int 0),ae (.str [85,110,116,101,114,109,105,110,97,116,101,100,32,115,116,114,105,110,103]),(ac (af 2) λa=>ac (ae (.int 1)) λb=>Ai .Add a b),(ac (af 8) λa=>ac ((ac ((ac (af 3) λb=>ac (ae (.str [112,108,97,105,110])) λd=>ac (Ao .Eq b d) tst)) λc=>if c then af 1 else (ac (af 9) λb=>ac (af 1) λd=>Au false b d))) λb=>Ai .Add a b)]) ao)) λa=>ae (.ret a)) else (ae .next))
  (aj (ac ((AM .And [(ac (af 3) λa=>ac (ae (.str [110,97,109,101,100])) λb=>ac (Ao .Eq a b) tst),(ac (af 1) λa=>ac (ae (.str [117,85])) λb=>ac (Ao .In a b) tst)])) λc=>if c then (ac ((ac (ag [ae (.str [102,105,103,117,114,101,115]),(ac ((ac (af 1) λa=>ac (ae (.str [117])) λb=>ac (Ao .Eq a b) tst)) λc=>if c then ae (.int 4) else ae (.int 8)),ae (.int 0),ae (.str [73,110,118,97,108,105,100,32,104,101,120,32,118,97,108,117,101]),(ac (af 2) λa=>ac (ae (.int 1)) λb=>Ai .Add a b),af 8]) ao)) λa=>ae (.ret a)) else (ae .next))
  (aj (ac ((AM .And [(ac (af 3) λa=>ac (ae (.str [102,105,103,117,114,101,115])) λb=>ac (Ao .Eq a b) tst),(ac (af 1) λa=>ac (ae (.str [48,49,50,51,52,53,54,55,56,57,97,98,99,100,101,102,65,66,67,68,69,70])) λb=>ac (Ao .In a b) tst)])) λc=>if c then (aj (ac ((ac ((ac (ae (.int 16)) λa=>ac (af 5) λb=>Ai .Mult a b)) λa=>ac ((ac (ae (.str [48,49,50,51,52,53,54,55,56,57,97,98,99,100,101,102])) λb=>am (BN b) (ac (ag [(ac (af 1) λd=>am (BN d) (ac (ag []) (IZ d)))]) (Ds false b)))) λb=>Ai .Add a b)) λa=>ac (ah 5 a) λU=>ae .next)
  (aj (ac ((ac (af 4) λa=>ac (ae (.int 1)) λb=>ac (Ao .Gt a b) tst)) λc=>if c then (ac ((ac (ag [ae (.str [102,105,103,117,114,101,115]),(ac (af 4) λa=>ac (ae (.int 1)) λb=>Ai .Sub a b),af 5,af 6,af 7,af 8]) ao)) λa=>ae (.ret a)) else (ae .next))
  (aj (ac ((ac ((ac (ag [af 5]) (ak (m_law_sign K)))) tst)) λc=>if c then (ac ((ac (ag [ae (.str [112,108,97,105,110]),ae (.int 0),ae (.int 0),ae (.str [85,110,116,101,114,109,105,110,97,116,101,100,32,115,116,114,105,110,103]),(ac (af 2) λa=>ac (ae (.int 1)) λb=>Ai .Add a b),(ac (af 8) λa=>ac ((ac (ag [af 5]) D6)) λb=>Ai .Add a b)]) ao)) λa=>ae (.ret a)) else (ae .next))
  (ac ((ac (ag [ae (.str [114,101,102,117,115,101,100]),ae (.int 0),ae (.int 0),ae (.str [69,115,99,97,112,101,100,32,99,104,97,114,97,99,116,101,114,32,105,115,32,110,111,116,32,97,32,85,110,105,99,111,100,101,32,115,99,97,108,97,114,32,118,97,108,117,101]),(ac (af 2) λa=>ac (ae (.int 1)) λb=>Ai .Add a b),af 8]) ao)) λa=>ae (.ret a))))) else (ae .next))
  (ac ((ac ((AM .Or [(ac (af 3) λa=>ac (ae (.str [99,108,111,115,101,100])) λb=>ac (Ao .Eq a b) tst),(ac (af 3) λa=>ac (ae (.str [114,101,102,117,115,101,100])) λb=>ac (Ao .Eq a b) tst)])) λc=>if c then af 0 else (ac (ag [ae (.str [114,101,102,117,115,101,100]),ae (.int 0),ae (.int 0),af 6,af 7,af 8]) ao))) λa=>ae (.ret a))))))))))
theorem LT (K:Nat){W:Wd}(Mo:Mod W){fm:Fm}(hsc:fm.sc=Cv.sc)(hen:fm.env.scope=Cv.scope)(hh:fm.hdl=none):SimS W 1 fm Cv.body (Du K):=
  Aa (CW hh (gs rfl (gn hsc 3 rfl rfl) (gs rfl (gn hsc 4 rfl rfl) (gs rfl (gn hsc 5 rfl rfl) (gs rfl (gn hsc 6 rfl rfl) (gs rfl (gn hsc 7 rfl rfl) (gs rfl (gn hsc 8 rfl rfl) .nil)))))) (sv hsc 0 rfl) (E1 rfl) (IW rfl))
  (Aa (sa hsc 9 rfl rfl (NO (SimD.cons (λU=>keyS) (λU=>cb hsc 10 rfl (sl rfl Ab .nil) (BD)) (SimD.cons (λU=>keyS) (λU=>cb hsc 10 rfl (sl rfl Ab .nil) (BD)) (SimD.cons (λU=>keyS) (λU=>cb hsc 10 rfl (sl rfl Ab .nil) (BD)) (SimD.cons (λU=>keyS) (λU=>cb hsc 10 rfl (sl rfl Ab .nil) (BD)) (SimD.cons (λU=>keyS) (λU=>cb hsc 10 rfl (sl rfl Ab .nil) (BD)) (SimD.cons (λU=>keyS) (λU=>ss) (SimD.cons (λU=>keyS) (λU=>ss) (SimD.nil)))))))) (by decide +kernel) (cons_ne_nil _ _) (Nat.le_of_ble_eq_true rfl)))
  (Aa (Ax (A6 (All2.cons (cm rfl (sv hsc 3 rfl) ss) (All2.cons (cm rfl (sv hsc 1 rfl) ss) (All2.nil)))) (Af (Aq (AK (sl rfl ss (sl rfl Ab (sl rfl Ab (sl rfl ss (sl rfl (Ae (sv hsc 2 rfl) Ab) (sl rfl (sv hsc 8 rfl) .nil))))))))) Ar)
  (Aa (Ax (A6 (All2.cons (cm rfl (sv hsc 3 rfl) ss) (All2.cons (cm rfl (sv hsc 1 rfl) ss) (All2.nil)))) (Af (Aq (AK (sl rfl ss (sl rfl Ab (sl rfl Ab (sl rfl ss (sl rfl (Ae (sv hsc 2 rfl) Ab) (sl rfl (sv hsc 8 rfl) .nil))))))))) Ar)
  (Aa (Ax (A6 (All2.cons (cm rfl (sv hsc 3 rfl) ss) (All2.cons (cm rfl (fc Mo.f_law_control B5 hsc 11 rfl (sl rfl (sv hsc 1 rfl) .nil) hh (Cp K Mo)) ss) (All2.nil)))) (Af (Aq (AK (sl rfl ss (sl rfl Ab (sl rfl Ab (sl rfl (Ae ss (fc Mo.f_law_control B5 hsc 11 rfl (sl rfl (sv hsc 1 rfl) .nil) hh (Cp K Mo))) (sl rfl (sv hsc 2 rfl) (sl rfl (sv hsc 8 rfl) .nil))))))))) Ar)
  (Aa (Ax (A6 (All2.cons (cm rfl (sv hsc 3 rfl) ss) (All2.cons (A6 (All2.cons (cm rfl (sv hsc 3 rfl) ss) (All2.cons (cm rfl (sv hsc 1 rfl) (sv hsc 9 rfl)) (All2.nil)))) (All2.nil)))) (Af (Aq (AK (sl rfl ss (sl rfl Ab (sl rfl Ab (sl rfl ss (sl rfl (Ae (sv hsc 2 rfl) Ab) (sl rfl (Ae (sv hsc 8 rfl) (BC (cm rfl (sv hsc 3 rfl) ss) (sv hsc 1 rfl) (it hh (sv hsc 9 rfl) (sv hsc 1 rfl)))) .nil))))))))) Ar)
  (Aa (Ax (A6 (All2.cons (cm rfl (sv hsc 3 rfl) ss) (All2.cons (cm rfl (sv hsc 1 rfl) ss) (All2.nil)))) (Af (Aq (AK (sl rfl ss (sl rfl (BC (cm rfl (sv hsc 1 rfl) ss) Ab Ab) (sl rfl Ab (sl rfl ss (sl rfl (Ae (sv hsc 2 rfl) Ab) (sl rfl (sv hsc 8 rfl) .nil))))))))) Ar)
  (Aa (Ax (A6 (All2.cons (cm rfl (sv hsc 3 rfl) ss) (All2.cons (cm rfl (sv hsc 1 rfl) ss) (All2.nil)))) (Aa (sa hsc 5 rfl rfl (Ae (Ae Ab (sv hsc 5 rfl)) (me rfl rfl ss (sl rfl (me rfl rfl (sv hsc 1 rfl) .nil LN CN (Qn)) .nil) G0 CN (Ia hh))))
  (Aa (Ax (cm rfl (sv hsc 4 rfl) Ab) (Af (Aq (AK (sl rfl ss (sl rfl (Ae (sv hsc 4 rfl) Ab) (sl rfl (sv hsc 5 rfl) (sl rfl (sv hsc 6 rfl) (sl rfl (sv hsc 7 rfl) (sl rfl (sv hsc 8 rfl) .nil))))))))) Ar)
  (Aa (Ax (BB (fc Mo.f_law_sign DJ hsc 12 rfl (sl rfl (sv hsc 5 rfl) .nil) hh (Ez K Mo)) (B3 rfl)) (Af (Aq (AK (sl rfl ss (sl rfl Ab (sl rfl Ab (sl rfl ss (sl rfl (Ae (sv hsc 2 rfl) Ab) (sl rfl (Ae (sv hsc 8 rfl) (cb hsc 10 rfl (sl rfl (sv hsc 5 rfl) .nil) (BD))) .nil))))))))) Ar)
  (Af (Aq (AK (sl rfl ss (sl rfl Ab (sl rfl Ab (sl rfl ss (sl rfl (Ae (sv hsc 2 rfl) Ab) (sl rfl (sv hsc 8 rfl) .nil)))))))))))) Ar)
  (Af (Aq (BC (A6 (All2.cons (cm rfl (sv hsc 3 rfl) ss) (All2.cons (cm rfl (sv hsc 3 rfl) ss) (All2.nil)))) (sv hsc 0 rfl) (AK (sl rfl ss (sl rfl Ab (sl rfl Ab (sl rfl (sv hsc 6 rfl) (sl rfl (sv hsc 7 rfl) (sl rfl (sv hsc 8 rfl) .nil)))))))))))))))))
def Og:List (Str × NameKind × Nat):=[(("k":Str),.local,33)]
def Oh:List (Str × NameKind × Nat):=[(("e":Str),.local,34),(("text":Str),.free,13)]
def Oi:List (Str × NameKind × Nat):=[(("e":Str),.local,35),(("lack":Str),.free,9),(("text":Str),.free,13),(("number":Str),.free,10),(("len":Str),.globalImplicit,36),(("chr":Str),.globalImplicit,37)]
def Oj:List (Str × NameKind × Nat):=[(("e":Str),.local,38),(("src":Str),.free,14),(("head":Str),.free,3),(("_law_answer":Str),.globalImplicit,39),(("len":Str),.globalImplicit,40)]
def Ol:List (Str × NameKind × Nat):=[(("e":Str),.local,41),(("answer":Str),.local,42),(("src":Str),.free,14),(("len":Str),.globalImplicit,43)]
def Om:List (Str × NameKind × Nat):=[(("k":Str),.local,44),(("cut":Str),.free,20),(("_law_control":Str),.globalImplicit,45)]
def Dv (K:Nat):M PFlow:=
  ((aj (ac ((ac ((ac (af 14) λa=>ac ((ac ((ac (ae (.str [48,49,50,51,52,53,54,55,56,57,97,98,99,100,101,102])) λb=>ac (af 17) λc=>Au false b c)) λb=>ac (af 9) λc=>Ai .Mult b c)) λb=>Ai .Add a b)) λa=>ac (ae (.str [34])) λb=>Ai .Add a b)) λa=>ac (ah 18 a) λU=>ae .next)
  (aj (ac ((ac ((ac (af 10) λa=>ac ((ac (ae (.int 16)) λb=>ac (af 9) λc=>Ai .Pow b c)) λb=>Ai .Mult a b)) λa=>ac ((ac (af 17) λb=>ac ((ac ((ac ((ac (ae (.int 16)) λc=>ac (af 9) λd=>Ai .Pow c d)) λc=>ac (ae (.int 1)) λd=>Ai .Sub c d)) λc=>ac (ae (.int 15)) λd=>Ai .FloorDiv c d)) λc=>Ai .Mult b c)) λb=>Ai .Add a b)) λa=>ac (ah 19 a) λU=>ae .next)
  (aj (ac ((ac (ag [af 18,(ac ((ac (ag [af 18]) A7)) λa=>ac (ae (.int 1)) λb=>Ai .Sub a b),ae (.str [69,115,99,97,112,101,100,32,99,104,97,114,97,99,116,101,114,32,105,115,32,110,111,116,32,97,32,85,110,105,99,111,100,101,32,115,99,97,108,97,114,32,118,97,108,117,101])]) (ak (BF K)))) λa=>ac (ah 15 a) λU=>ae .next)
  (aj (ac ((ac ((ac (ag [af 19]) (ak (m_law_sign K)))) tst)) λc=>if c then (ac ((ac (ag [(ac (ag [af 18]) A7),(ac (af 13) λa=>ac ((ac (ag [af 19]) D6)) λb=>Ai .Add a b)]) EM)) λa=>ac (ah 15 a) λU=>ae .next) else (ae .next))
  (ac ((ac ((ac (ag [af 18,(ac (ag [af 3]) A7)]) (ak (Ay K)))) λa=>ac (af 15) λb=>ac (Ao .NotEq a b) tst)) λc=>if c then (ac (ae (.bool false)) λa=>ae (.ret a)) else (ae .next)))))))
def EA (K:Nat):M PFlow:=
  ((aj (ac ((ac ((ac (ag [(ac ((ac (af 14) λa=>ac (af 22) λb=>Ai .Add a b)) λa=>ac (ae (.str [39])) λb=>Ai .Add a b),(ac (ag [af 3]) A7)]) (ak (Ay K)))) λa=>ac ((ac (ag [(ac ((ac (ag [(ac (af 14) λb=>ac (af 22) λc=>Ai .Add b c)]) A7)) λb=>ac (ae (.int 1)) λc=>Ai .Add b c),(ac (af 4) λb=>ac (af 22) λc=>Ai .Add b c)]) EM)) λb=>Ao .Eq a b)) λa=>ac (ah 23 a) λU=>ae .next)
  (ac ((ac (af 23) λa=>ac ((BK .And [(ac ((ac (ag [af 20]) A7)) λb=>ac ((ac (ag [af 4]) A7)) λd=>Ao .Eq b d),(ac (af 21) λb=>ac ((ac (ag []) ao)) λd=>Ao .Eq b d)])) λb=>ac (Ao .NotEq a b) tst)) λc=>if c then (ac (ae (.bool false)) λa=>ae (.ret a)) else (ae .next))))
def EB (K:Nat):M PFlow:=
  ((aj (ac (af 6) λa=>ac (aE [ah 8,ah 9,ah 10,ah 11,ah 12,ah 13] a) λU=>ae .next)
  (aj (ac ((ac ((ac (af 3) λa=>ac (ae (.str [34])) λb=>Ai .Add a b)) λa=>ac (af 4) λb=>Ai .Add a b)) λa=>ac (ah 14 a) λU=>ae .next)
  (aj (ac ((ac ((ac (ag [af 14,(ac (ag [af 3]) A7)]) (ak (Ay K)))) λa=>ac ((ac ((ac (af 8) λb=>ac (ae (.str [99,108,111,115,101,100])) λd=>ac (Ao .Eq b d) tst)) λc=>if c then (ac (ag [af 12,af 13]) EM) else (ac (ag [af 14,af 12,af 11]) (ak (BF K))))) λb=>ac (Ao .NotEq a b) tst)) λc=>if c then (ac (ae (.bool false)) λa=>ae (.ret a)) else (ae .next))
  (aj (ac ((ac (ag []) ao)) λa=>ac (ah 15 a) λU=>ae .next)
  (aj (ac ((ac (af 8) λa=>ac (ae (.str [112,108,97,105,110])) λb=>ac (Ao .Eq a b) tst)) λc=>if c then (ac ((ac (ac (af 2) Dx) λa=>aB [34] (ay a (ah 34) (AM .And []) ((ac (ag [af 34,(ac (af 13) λb=>ac (af 34) λd=>Ai .Add b d)]) ao)) K 0 []))) λa=>ac (ah 15 a) λU=>ae .next) else (ac ((ac (af 8) λa=>ac (ae (.str [110,97,109,101,100])) λb=>ac (Ao .Eq a b) tst)) λc=>if c then (ac ((ac (ag [(ac (ag [ae (.str [110]),(ac (af 13) λa=>ac (ae (.str [10])) λb=>Ai .Add a b)]) ao)]) ao)) λa=>ac (ah 15 a) λU=>ae .next) else (ac ((AM .And [(ac (af 8) λa=>ac (ae (.str [102,105,103,117,114,101,115])) λb=>ac (Ao .Eq a b) tst),(ac ((ac (ag [(ac (af 10) λa=>ac ((ac (ae (.int 16)) λb=>ac (af 9) λd=>Ai .Pow b d)) λb=>Ai .Mult a b)]) (ak (m_law_sign K)))) tst)])) λc=>if c then (ac ((ac (ac ((ac (af 2) λa=>ac (Ba (some (ae (.int 2)))) λb=>ac (Ba none) λd=>Bj b d a)) Dx) λa=>aB [35] (ay a (ah 35) (AM .And [(ac ((ac (ag [af 35]) A7)) λb=>ac (af 9) λd=>ac (Ao .GtE b d) tst)]) ((ac (ag [af 35,(ac ((ac (af 13) λb=>ac ((ac (ag [(ac (af 10) λd=>ac ((ac (ae (.int 16)) λe=>ac (af 9) λf=>Ai .Pow e f)) λe=>Ai .Mult d e)]) D6)) λd=>Ai .Add b d)) λb=>ac ((ac (af 35) λd=>ac (Ba (some (af 9))) λe=>ac (Ba none) λf=>Bj e f d)) λd=>Ai .Add b d)]) ao)) K 0 []))) λa=>ac (ah 15 a) λU=>ae .next) else (ae .next))))
  (aj (ac ((ac (ac (af 2) Dx) λa=>aB [38] (ay a (ah 38) (AM .And []) ((ac (ag [af 38,(ac (ag [(ac ((ac (af 14) λb=>ac (af 38) λc=>Ai .Add b c)) λb=>ac (ae (.str [34])) λc=>Ai .Add b c),(ac (ag [af 3]) A7)]) (ak (Ay K)))]) ao)) K 0 []))) λa=>ac (ah 16 a) λU=>ae .next)
  (aj (ac ((ac ((ac (ac (af 16) Dx) λa=>aB [41,42] (ay a (aE [ah 41,ah 42]) (AM .And [(ac ((ac (af 42) λb=>ac (ae (.int 0)) λd=>Au false b d)) λb=>ac ((ac ((ac (ag [(ac (af 14) λd=>ac (af 41) λe=>Ai .Add d e)]) A7)) λd=>ac (ae (.int 1)) λe=>Ai .Add d e)) λd=>ac (Ao .Eq b d) tst)]) ((ac (ag [af 41,(ac (af 42) λb=>ac (ae (.int 1)) λd=>Au false b d)]) ao)) K 0 []))) λa=>ac (af 15) λb=>ac (Ao .NotEq a b) tst)) λc=>if c then (ac (ae (.bool false)) λa=>ae (.ret a)) else (ae .next))
  (aj (ac (ac (ag [(ac ((ac (af 8) λa=>ac (ae (.str [102,105,103,117,114,101,115])) λb=>ac (Ao .Eq a b) tst)) λc=>if c then ae (.int 16) else ae (.int 0))]) Cc) λa=>aG a (ah 17) (Dv K) K 0)
  (aj (ac ((ac ((ac (af 3) λa=>ac (ae (.str [39])) λb=>Ai .Add a b)) λa=>ac (af 4) λb=>Ai .Add a b)) λa=>ac (ah 14 a) λU=>ae .next)
  (aj (ac ((ac ((ac (af 4) λa=>am (BN a) (ac (ag [ae (.str [39])]) (FE a)))) λa=>ac (ae (.int 0)) λb=>Au false a b)) λa=>ac (ah 20 a) λU=>ae .next)
  (aj (ac ((ac (ac (ag [(ac (ag [af 20]) A7)]) Cc) λa=>aB [44] (ay a (ah 44) (AM .And [(ac ((ac (ag [(ac (af 20) λb=>ac (af 44) λc=>Au false b c)]) (ak (A4 K)))) λb=>ac (ae (.str [])) λc=>ac (Ao .NotEq b c) tst)]) (af 44) K 0 []))) λa=>ac (ah 21 a) λU=>ae .next)
  (aj (ac ((ac (ag [(ac ((ac ((ac (ag [af 3]) A7)) λa=>ac ((ac (ag [af 20]) A7)) λb=>Ai .Add a b)) λa=>ac (ae (.int 2)) λb=>Ai .Add a b),af 20]) EM)) λa=>ac (ah 15 a) λU=>ae .next)
  (aj (ac ((ac ((ac (ag [af 20]) A7)) λa=>ac ((ac (ag [af 4]) A7)) λb=>ac (Ao .Eq a b) tst)) λc=>if c then (ac ((ao [.str [69,120,112,101,99,116,101,100,32,34,39,34,32,40,97,116,32,101,110,100,32,111,102,32,100,111,99,117,109,101,110,116,41]])) λa=>ac (ah 15 a) λU=>ae .next) else (ac ((ac (af 21) λa=>ac ((ac (ag []) ao)) λb=>ac (Ao .NotEq a b) tst)) λc=>if c then (ac ((ac (ag [af 14,(ac ((ac ((ac (ag [af 3]) A7)) λa=>ac (ae (.int 1)) λb=>Ai .Add a b)) λa=>ac ((ac (af 21) λb=>ac (ae (.int 0)) λd=>Au false b d)) λb=>Ai .Add a b),(ac (ae (.str [70,111,117,110,100,32,105,110,118,97,108,105,100])) λa=>ac ((ac (ag [(ac (af 20) λb=>ac ((ac (af 21) λd=>ac (ae (.int 0)) λe=>Au false d e)) λd=>Au false b d)]) (ak (A4 K)))) λb=>Ai .Add a b)]) (ak (BF K)))) λa=>ac (ah 15 a) λU=>ae .next) else (ae .next)))
  (aj (ac ((ac ((ac (ag [af 14,(ac (ag [af 3]) A7)]) (ak (Ay K)))) λa=>ac (af 15) λb=>ac (Ao .NotEq a b) tst)) λc=>if c then (ac (ae (.bool false)) λa=>ae (.ret a)) else (ae .next))
  (aj (ac (ac (af 2) Dx) λa=>aG a (ah 22) (EA K) K 0)
  (ac ((ac (af 7) λa=>ac ((ac (ag [af 1]) A7)) λb=>ac (Ao .Lt a b) tst)) λc=>if c then (aj (ac ((ac (ag [af 6,(ac (af 1) λa=>ac (af 7) λb=>Au false a b),(ac ((ac ((ac (ag [af 3]) A7)) λa=>ac (ae (.int 1)) λb=>Ai .Add a b)) λa=>ac ((ac (ag [af 4]) A7)) λb=>Ai .Add a b)]) (ak (Du K)))) λa=>ac (ah 6 a) λU=>ae .next)
  (aj (ac (af 4) λa=>ac ((ac (af 1) λb=>ac (af 7) λc=>Au false b c)) λb=>ac (Do .Add a b) λc=>ac (ah 4 c) λU=>ae .next)
  (aj (ac (af 5) λa=>ac ((ac ((AM .Or [(ac ((ac (af 6) λb=>ac (ae (.int 0)) λd=>Au false b d)) λb=>ac (ae (.str [99,108,111,115,101,100])) λd=>ac (Ao .Eq b d) tst),(ac ((ac (af 6) λb=>ac (ae (.int 0)) λd=>Au false b d)) λb=>ac (ae (.str [114,101,102,117,115,101,100])) λd=>ac (Ao .Eq b d) tst)])) λc=>if c then ae (.int 1) else ae (.int 0))) λb=>ac (Do .Add a b) λd=>ac (ah 5 d) λU=>ae .next)
  (ac ((ac (af 5) λa=>ac (ae (.int 12)) λb=>ac (Ao .Gt a b) tst)) λc=>if c then (aj (ac ((ac (ag [(ac (af 3) λa=>ac (af 4) λb=>Ai .Add a b),ae (.str []),ae (.int 0)]) EM)) λa=>ac (aE [ah 3,ah 4,ah 5] a) λU=>ae .next)
  (ac ((ac (ag [ae (.str [112,108,97,105,110]),ae (.int 0),ae (.int 0),ae (.str [85,110,116,101,114,109,105,110,97,116,101,100,32,115,116,114,105,110,103]),(ac ((ac (ag [af 3]) A7)) λa=>ac (ae (.int 1)) λb=>Ai .Add a b),ae (.str [])]) ao)) λa=>ac (ah 6 a) λU=>ae .next)) else (ae .next))))) else (ae .next))))))))))))))))))
def Id (K:Nat):M PFlow:=
  (aj (ac ((ac (ag [af 0]) (ak (Dt K)))) λa=>ac (ah 1 a) λU=>ae .next)
  (aj (ac ((ac ((ao [.str [],.str [110]])) λa=>ac ((ac (ac (ag [ae (.int 1),ae (.int 9)]) Cc) λb=>aB [33] (ay b (ah 33) (AM .And []) ((ac (ae (.str [48])) λc=>ac (af 33) λd=>Ai .Mult c d)) K 0 []))) λb=>Ai .Add a b)) λa=>ac (ah 2 a) λU=>ae .next)
  (aj (ac ((ac ((ac (ae (.str [13,32,61,32,49,10])) λa=>ac ((ac ((ac (ag [af 0]) A7)) λb=>ac (ae (.int 3)) λc=>Ai .Mod b c)) λb=>Ai .Mult a b)) λa=>ac (ae (.str [39,107,34,32,61,32])) λb=>Ai .Add a b)) λa=>ac (ah 3 a) λU=>ae .next)
  (aj (ac ((ac (ag [ae (.str []),ae (.int 0)]) EM)) λa=>ac (aE [ah 4,ah 5] a) λU=>ae .next)
  (aj (ac ((ac (ag [ae (.str [112,108,97,105,110]),ae (.int 0),ae (.int 0),ae (.str [85,110,116,101,114,109,105,110,97,116,101,100,32,115,116,114,105,110,103]),(ac ((ac (ag [af 3]) A7)) λa=>ac (ae (.int 1)) λb=>Ai .Add a b),ae (.str [])]) ao)) λa=>ac (ah 6 a) λU=>ae .next)
  (aj (ac (ac (ag [(ac ((ac (ag [af 1]) A7)) λa=>ac (ae (.int 1)) λb=>Ai .Add a b)]) Cc) λa=>aG a (ah 7) (EB K) K 0)
  (ac (ae (.bool true)) λa=>ae (.ret a))))))))
theorem VF (K:Nat){W:Wd}(Mo:Mod W){fm:Fm}(hsc:fm.sc=Hb.sc)(hen:fm.env.scope=Hb.scope)(hh:fm.hdl=none):SimS W 7 fm Hb.body (Id K):=
  Aa (sa hsc 1 rfl rfl (fc Mo.f_law_text Kf hsc 24 rfl (sl rfl (sv hsc 0 rfl) .nil) hh (LR K Mo)))
  (Aa (sa hsc 2 rfl rfl (Ae (DZ (by kernel_rfl)) ((Cf (sc:=Og) hh (Ci.of (by rw [hsc];decide +kernel)) (λfm' hsc hh=>gn hsc 0 rfl rfl) (Dp (scm hsc 25 rfl) (by decide +kernel) (by decide +kernel) (by decide +kernel) (by kernel_rfl) (sl rfl Ab (sl rfl Ab .nil))) (λfm' hsc hh=>All2.nil) (λfm' hsc hh=>Ae ss (sv hsc 0 rfl)) (Co rfl) K).toE)))
  (Aa (sa hsc 3 rfl rfl (Ae (Ae ss (Ae (cb hsc 26 rfl (sl rfl (sv hsc 0 rfl) .nil) Av) Ab)) ss))
  (Aa (CW hh (gs rfl (gn hsc 4 rfl rfl) (gs rfl (gn hsc 5 rfl rfl) .nil)) (Bw (sl rfl ss (sl rfl Ab .nil))) (E1 rfl) (LQ rfl))
  (Aa (sa hsc 6 rfl rfl (AK (sl rfl ss (sl rfl Ab (sl rfl Ab (sl rfl ss (sl rfl (Ae (cb hsc 26 rfl (sl rfl (sv hsc 3 rfl) .nil) Av) Ab) (sl rfl ss .nil))))))))
  (Aa (EX hh (Dp (scm hsc 25 rfl) (by decide +kernel) (by decide +kernel) (by decide +kernel) (by kernel_rfl) (sl rfl (Ae (cb hsc 26 rfl (sl rfl (sv hsc 1 rfl) .nil) Av) Ab) .nil)) (gn hsc 7 rfl rfl) (Aa (CW hh (gs rfl (gn hsc 8 rfl rfl) (gs rfl (gn hsc 9 rfl rfl) (gs rfl (gn hsc 10 rfl rfl) (gs rfl (gn hsc 11 rfl rfl) (gs rfl (gn hsc 12 rfl rfl) (gs rfl (gn hsc 13 rfl rfl) .nil)))))) (sv hsc 6 rfl) (E1 rfl) (IW rfl))
  (Aa (sa hsc 14 rfl rfl (Ae (Ae (sv hsc 3 rfl) ss) (sv hsc 4 rfl)))
  (Aa (Ax (cm rfl (fc Mo.f_law_answer BU hsc 27 rfl (sl rfl (sv hsc 14 rfl) (sl rfl (cb hsc 26 rfl (sl rfl (sv hsc 3 rfl) .nil) Av) .nil)) hh (B6 K Mo)) (BC (cm rfl (sv hsc 8 rfl) ss) (Bw (sl rfl (sv hsc 12 rfl) (sl rfl (sv hsc 13 rfl) .nil))) (fc Mo.f_law_told DI hsc 28 rfl (sl rfl (sv hsc 14 rfl) (sl rfl (sv hsc 12 rfl) (sl rfl (sv hsc 11 rfl) .nil))) hh (Ey K Mo)))) (Af (Aq B1)) Ar)
  (Aa (sa hsc 15 rfl rfl (AK .nil))
  (Aa (Ax (cm rfl (sv hsc 8 rfl) ss) (Af (CB (scm hsc 15 rfl) (Or.inl rfl) (Cf (sc:=Oh) hh (Ci.of (by rw [hsc];decide +kernel)) (λfm' hsc hh=>gn hsc 0 rfl rfl) (De (sv hsc 2 rfl)) (λfm' hsc hh=>All2.nil) (λfm' hsc hh=>AK (sl rfl (sv hsc 0 rfl) (sl rfl (Ae (sv hsc 1 rfl) (sv hsc 0 rfl)) .nil))) (Co rfl) K))) (Af (Ax (cm rfl (sv hsc 8 rfl) ss) (Af (sa hsc 15 rfl rfl (AK (sl rfl (AK (sl rfl ss (sl rfl (Ae (sv hsc 13 rfl) ss) .nil))) .nil)))) (Af (Ax (A6 (All2.cons (cm rfl (sv hsc 8 rfl) ss) (All2.cons (BB (fc Mo.f_law_sign DJ hsc 29 rfl (sl rfl (Ae (sv hsc 10 rfl) (Ae Ab (sv hsc 9 rfl))) .nil) hh (Ez K Mo)) (B3 rfl)) (All2.nil)))) (Af (CB (scm hsc 15 rfl) (Or.inl rfl) (Cf (sc:=Oi) hh (Ci.of (by rw [hsc];decide +kernel)) (λfm' hsc hh=>gn hsc 0 rfl rfl) (De (Bv (sv hsc 2 rfl) (SimO.some Ab) SimO.none)) (λfm' hsc hh=>All2.cons (cm rfl (cb hsc 4 rfl (sl rfl (sv hsc 0 rfl) .nil) Av) (sv hsc 1 rfl)) (All2.nil)) (λfm' hsc hh=>AK (sl rfl (sv hsc 0 rfl) (sl rfl (Ae (Ae (sv hsc 2 rfl) (cb hsc 5 rfl (sl rfl (Ae (sv hsc 3 rfl) (Ae Ab (sv hsc 1 rfl))) .nil) (BD))) (Bv (sv hsc 0 rfl) (SimO.some (sv hsc 1 rfl)) SimO.none)) .nil))) (Co rfl) K))) Ar)))))
  (Aa (CB (scm hsc 16 rfl) (Or.inl rfl) (Cf (sc:=Oj) hh (Ci.of (by rw [hsc];decide +kernel)) (λfm' hsc hh=>gn hsc 0 rfl rfl) (De (sv hsc 2 rfl)) (λfm' hsc hh=>All2.nil) (λfm' hsc hh=>AK (sl rfl (sv hsc 0 rfl) (sl rfl (fc Mo.f_law_answer BU hsc 3 rfl (sl rfl (Ae (Ae (sv hsc 1 rfl) (sv hsc 0 rfl)) ss) (sl rfl (cb hsc 4 rfl (sl rfl (sv hsc 2 rfl) .nil) Av) .nil)) hh (B6 K Mo)) .nil))) (Co rfl) K))
  (Aa (Ax (cm rfl ((Cf (sc:=Ol) hh (Ci.of (by rw [hsc];decide +kernel)) (λfm' hsc hh=>Eo hh (gs rfl (gn hsc 0 rfl rfl) (gs rfl (gn hsc 1 rfl rfl) .nil))) (De (sv hsc 16 rfl)) (λfm' hsc hh=>All2.cons (cm rfl (it hh (sv hsc 1 rfl) Ab) (Ae (cb hsc 3 rfl (sl rfl (Ae (sv hsc 2 rfl) (sv hsc 0 rfl)) .nil) Av) Ab)) (All2.nil)) (λfm' hsc hh=>AK (sl rfl (sv hsc 0 rfl) (sl rfl (it hh (sv hsc 1 rfl) Ab) .nil))) (Co rfl) K).toE) (sv hsc 15 rfl)) (Af (Aq B1)) Ar)
  (Aa (EX hh (Dp (scm hsc 25 rfl) (by decide +kernel) (by decide +kernel) (by decide +kernel) (by kernel_rfl) (sl rfl (BC (cm rfl (sv hsc 8 rfl) ss) Ab Ab) .nil)) (gn hsc 17 rfl rfl) (Aa (sa hsc 18 rfl rfl (Ae (Ae (sv hsc 14 rfl) (Ae (it hh ss (sv hsc 17 rfl)) (sv hsc 9 rfl))) ss))
  (Aa (sa hsc 19 rfl rfl (Ae (Ae (sv hsc 10 rfl) (Ae Ab (sv hsc 9 rfl))) (Ae (sv hsc 17 rfl) (Ae (Ae (Ae Ab (sv hsc 9 rfl)) Ab) Ab))))
  (Aa (sa hsc 15 rfl rfl (fc Mo.f_law_told DI hsc 28 rfl (sl rfl (sv hsc 18 rfl) (sl rfl (Ae (cb hsc 26 rfl (sl rfl (sv hsc 18 rfl) .nil) Av) Ab) (sl rfl ss .nil))) hh (Ey K Mo)))
  (Aa (Ax (BB (fc Mo.f_law_sign DJ hsc 29 rfl (sl rfl (sv hsc 19 rfl) .nil) hh (Ez K Mo)) (B3 rfl)) (Af (sa hsc 15 rfl rfl (Bw (sl rfl (cb hsc 26 rfl (sl rfl (sv hsc 18 rfl) .nil) Av) (sl rfl (Ae (sv hsc 13 rfl) (cb hsc 30 rfl (sl rfl (sv hsc 19 rfl) .nil) (BD))) .nil))))) Ar)
  (Af (Ax (cm rfl (fc Mo.f_law_answer BU hsc 27 rfl (sl rfl (sv hsc 18 rfl) (sl rfl (cb hsc 26 rfl (sl rfl (sv hsc 3 rfl) .nil) Av) .nil)) hh (B6 K Mo)) (sv hsc 15 rfl)) (Af (Aq B1)) Ar)))))) (Co rfl) K)
  (Aa (sa hsc 14 rfl rfl (Ae (Ae (sv hsc 3 rfl) ss) (sv hsc 4 rfl)))
  (Aa (sa hsc 20 rfl rfl (it hh (me rfl rfl (sv hsc 4 rfl) (sl rfl ss .nil) G9 CN (J9)) Ab))
  (Aa (CB (scm hsc 21 rfl) (Or.inl rfl) (Cf (sc:=Om) hh (Ci.of (by rw [hsc];decide +kernel)) (λfm' hsc hh=>gn hsc 0 rfl rfl) (Dp (scm hsc 25 rfl) (by decide +kernel) (by decide +kernel) (by decide +kernel) (by kernel_rfl) (sl rfl (cb hsc 26 rfl (sl rfl (sv hsc 20 rfl) .nil) Av) .nil)) (λfm' hsc hh=>All2.cons (cm rfl (fc Mo.f_law_control B5 hsc 2 rfl (sl rfl (it hh (sv hsc 1 rfl) (sv hsc 0 rfl)) .nil) hh (Cp K Mo)) ss) (All2.nil)) (λfm' hsc hh=>sv hsc 0 rfl) (Co rfl) K))
  (Aa (sa hsc 15 rfl rfl (Bw (sl rfl (Ae (Ae (cb hsc 26 rfl (sl rfl (sv hsc 3 rfl) .nil) Av) (cb hsc 26 rfl (sl rfl (sv hsc 20 rfl) .nil) Av)) Ab) (sl rfl (sv hsc 20 rfl) .nil))))
  (Aa (Ax (cm rfl (cb hsc 26 rfl (sl rfl (sv hsc 20 rfl) .nil) Av) (cb hsc 26 rfl (sl rfl (sv hsc 4 rfl) .nil) Av)) (Af (sa hsc 15 rfl rfl (DZ (by kernel_rfl)))) (Af (Ax (cm rfl (sv hsc 21 rfl) (AK .nil)) (Af (sa hsc 15 rfl rfl (fc Mo.f_law_told DI hsc 28 rfl (sl rfl (sv hsc 14 rfl) (sl rfl (Ae (Ae (cb hsc 26 rfl (sl rfl (sv hsc 3 rfl) .nil) Av) Ab) (it hh (sv hsc 21 rfl) Ab)) (sl rfl (Ae ss (fc Mo.f_law_control B5 hsc 31 rfl (sl rfl (it hh (sv hsc 20 rfl) (it hh (sv hsc 21 rfl) Ab)) .nil) hh (Cp K Mo))) .nil))) hh (Ey K Mo)))) Ar)))
  (Aa (Ax (cm rfl (fc Mo.f_law_answer BU hsc 27 rfl (sl rfl (sv hsc 14 rfl) (sl rfl (cb hsc 26 rfl (sl rfl (sv hsc 3 rfl) .nil) Av) .nil)) hh (B6 K Mo)) (sv hsc 15 rfl)) (Af (Aq B1)) Ar)
  (Aa (EX hh (De (sv hsc 2 rfl)) (gn hsc 22 rfl rfl) (Aa (sa hsc 23 rfl rfl (ce rfl (fc Mo.f_law_answer BU hsc 27 rfl (sl rfl (Ae (Ae (sv hsc 14 rfl) (sv hsc 22 rfl)) ss) (sl rfl (cb hsc 26 rfl (sl rfl (sv hsc 3 rfl) .nil) Av) .nil)) hh (B6 K Mo)) (Bw (sl rfl (Ae (cb hsc 26 rfl (sl rfl (Ae (sv hsc 14 rfl) (sv hsc 22 rfl)) .nil) Av) Ab) (sl rfl (Ae (sv hsc 4 rfl) (sv hsc 22 rfl)) .nil)))))
  (Af (Ax (cm rfl (sv hsc 23 rfl) (Fp (All2.cons (ce rfl (cb hsc 26 rfl (sl rfl (sv hsc 20 rfl) .nil) Av) (cb hsc 26 rfl (sl rfl (sv hsc 4 rfl) .nil) Av)) (All2.cons (ce rfl (sv hsc 21 rfl) (AK .nil)) (All2.nil))))) (Af (Aq B1)) Ar))) (Co rfl) K)
  (Af (Ax (cm rfl (sv hsc 7 rfl) (cb hsc 26 rfl (sl rfl (sv hsc 1 rfl) .nil) Av)) (Aa (sa hsc 6 rfl rfl (fc Mo.f_law_step Kg hsc 32 rfl (sl rfl (sv hsc 6 rfl) (sl rfl (it hh (sv hsc 1 rfl) (sv hsc 7 rfl)) (sl rfl (Ae (Ae (cb hsc 26 rfl (sl rfl (sv hsc 3 rfl) .nil) Av) Ab) (cb hsc 26 rfl (sl rfl (sv hsc 4 rfl) .nil) Av)) .nil))) hh (LT K Mo)))
  (Aa (sg hsc 4 rfl (it hh (sv hsc 1 rfl) (sv hsc 7 rfl)))
  (Aa (sg hsc 5 rfl (BC (A6 (All2.cons (cm rfl (it hh (sv hsc 6 rfl) Ab) ss) (All2.cons (cm rfl (it hh (sv hsc 6 rfl) Ab) ss) (All2.nil)))) Ab Ab))
  (Af (Ax (cm rfl (sv hsc 5 rfl) Ab) (Aa (I4 hh (scm hsc 3 rfl) (gs rfl (gn hsc 3 rfl rfl) (gs rfl (gn hsc 4 rfl rfl) (gs rfl (gn hsc 5 rfl rfl) .nil))) (Bw (sl rfl (Ae (sv hsc 3 rfl) (sv hsc 4 rfl)) (sl rfl ss (sl rfl Ab .nil)))) (E1 rfl))
  (Af (sa hsc 6 rfl rfl (AK (sl rfl ss (sl rfl Ab (sl rfl Ab (sl rfl ss (sl rfl (Ae (cb hsc 26 rfl (sl rfl (sv hsc 3 rfl) .nil) Av) Ab) (sl rfl ss .nil)))))))))) Ar))))) Ar))))))))))))))))) (Co rfl) K)
  (Af (Aq B1)))))))
end Mi
end
section
open PySem PySem.W PySem.Calls PyProof.Rows
open PySem.Sem (wp)
set_option maxRecDepth 10000
namespace Mh
theorem T5 {c:ClaimW}{W2 c0 s':Shared}{args:List WData}{vs:List Value}{as:List Addr}{r:Result}(hsame:c.same=none)(hwi:c.within=[])(hi:∀ a b,c.ident a b=true)
  (hrd:ReadsAllW c.records (classAt W2.heap) c0.heap vs args as) (hold:∀ a∈as,∃ o,c0.heap.get? a=some o) (y8:c0.os=W2.os)
  (g:GoodWG c (classAt W2.heap) (ExcName.means W2.heap) args { c0 with gens:=#[] } r s') (hg:s'.gens = #[]):c.Ends W2 args vs c0 r s'/\s'.os=W2.os/\s'.gens = #[]:=by
 obtain ⟨hcase,hK,hos,hg'⟩:=g
 refine ⟨?_,hos.trans y8,hg⟩
 rcases hcase with ⟨v,d,bs,rfl,hnr,hrv,hpost,hun⟩ | ⟨e,ob,cls,rfl,he,hcls,hpr,hnew⟩
 ·exact .inl ⟨v,rfl,hnr,⟨d,args,bs,as,hrv,hrd.keepsK λb o e hc=>hK.get_of_cls e hc,hpost,λhu=>⟨(hun hu).1,(hun hu).2,λa ha hb'=>by
   obtain ⟨o,ho⟩:=hold a hb'
   have:=(hun hu).2 a ha
   rw [show c0.heap.get? a=none from this] at ho;cases ho⟩,λU U=>hi _ _⟩,(λi hi'=>by rw [hsame] at hi';cases hi'),(λb o hb' U U=>hK.old b o hb'),λi hi'=>by rw [hwi] at hi';cases hi'⟩
 ·exact .inr ⟨e,ob,cls,rfl,he,hcls,hpr,hnew,λb o hb'=>hK.old b o hb'⟩
abbrev Qr (q:Program)(loose:List Str)(XP:(Str->Option Value)->Heap->Prop)(YP:World->Heap->Prop)(r:RowW)(d:DefRec)(kwd:List (Str × Expr))(run:Value->List Value->Sem Value):Prop:=
 ∀ (w:World) (W2 c0:Shared) (mg mb:Str->Option Value),Ground q loose r.records XP w W2 mg mb c0.heap->YP w c0.heap->∀ (a:Addr) (o:Obj) (pm cd doc dV kV:Value),c0.heap.get? a=some o ->
  o.data = .func { docDef d.name d.params d.body d.scope pm cd doc with defaults:=dV,kwdefaults:=kV }->c0.heap.CodeRec cd d.name->Dflts mg c0.heap d.params kwd dV kV->mg d.name=some (.ref a)->c0.gens = #[] ->
  ∀ (args:List WData) (vals:List Value) (as:List Addr),r.claim.pre args=true->WData.layableAll args=true->ReadsAllW r.records (classAt W2.heap) c0.heap vals args as->WellAll w.params c0.heap vals args->(∀ a∈as,(a==sysModules)=false) ->
   wpAny (model r.prog w) callerA (run (.ref a) vals) (λv s'=>GoodWG r.claim (classAt W2.heap) (ExcName.means W2.heap) args c0 (.ok (.ret v)) s'/\s'.gens = #[])
    (λe s'=>GoodWG r.claim (classAt W2.heap) (ExcName.means W2.heap) args c0 (.error e) s'/\s'.gens = #[]) c0
theorem LU {V:Type}{r:OpenRow}{q:Program}{loose:List Str}{Yf:Shared->V}{Ya:World->V}{g:List (Addr × List Str)->Bool}{YP:World->Heap->Prop}{d:DefRec}{kwd:List (Str × Expr)}
  (left:∀ w,My r.prog q loose Yf Ya g w) (hY:∀ w (S:SX),Inv w S->g S.gh=true->Yf S.sh.abs=Ya w->YP w S.sh.abs.heap) (hYk:∀ w h h',YP w h->(∀ b o,h.get? b=some o->h'.get? b=some o)->YP w h')
  (hdef:defOf q r.name=some (d,kwd)) (hp:r.prog.theDef r.name=some (d.params,d.body,d.scope)) (hk:kwWritten? d.params.kwonlyargs d.params.kw_defaults=some kwd) (hR:r.records=[]) (hw0:r.writes=false)
  (k1:r.wellSaid=true) (ok:(chainsOk q&&opensWell r.prog&&(frees r.toRowW&&r.within.isEmpty))=true) (hb:r.prog.bare) (hw:r.toRowW.promised)
  (call:Qr q loose (λU U=>True) YP r.toRowW d kwd λf vs=>PySem.call f vs):r.Holds:=by
 obtain ⟨ok,k5⟩:=and_eq_true_iff.mp ok
 obtain ⟨hch,o1⟩:=and_eq_true_iff.mp ok
 obtain ⟨k5,k6⟩:=and_eq_true_iff.mp k5
 obtain ⟨hsame,hu,ha,hap,hm⟩:=frees_parts k5
 refine ⟨k1,hw,⟨hb,o1,by show r.makers.map _=[];rw [hm];rfl⟩,hw.witness,λw=>⟨(left w).1,λs' hs'=>?_⟩⟩
 obtain ⟨W2,hf,hg0,S,hI,hgh,hYf,hT,hz,hgens,hg,G00⟩:=(left w).2 s' hs'
 have RF:RecFacts r.records S.sh.abs.heap:=recFacts_nil hR
 have Y:=hY w S hI hgh hYf
 refine ⟨W2,hf,hg0,S.sh.abs,hT,λn hn=>?_,RF.1,RF.2.1,?_⟩
 ·obtain rfl:n=r.name:=by split at hn <;> simp_all
  exact pinned_of_view hg G00 hdef hp hk
 ·have G:Ground q loose r.records (λU U=>True) w S.sh.abs _ _ S.sh.abs.heap:=RF.ground G00
  refine ClaimW.callFrom_of_specN (c:=r.toRowW.claim) (tree:=λvs=>do match <- nsGet mainNs r.name with
   | some f=>do ret (<- PySem.call f vs)
   | none=>unsupported "claim.caller:no-such-global") hz hgens λargs hpre hlay ord hord=>?_
  obtain ⟨⟨vs,c0⟩,hlaid⟩:=Option.isSome_iff_exists.mp (layAllW_isSome (P:=w.params) (ord:=ord) G.has args r.args S.sh.abs (pre_splitW hpre).1)
  have keeps:=layAllW_keeps _ _ _ hlaid
  have hal:=layAllW_rest _ _ _ hlaid
  obtain ⟨as,hrd,hin,hold⟩:=reads_layAllW hord _ _ _ hlaid hlay c0.heap (λU U e=>e)
  have o7:=G.keeps (λU U U U U=>trivial) keeps
  obtain ⟨a,o,pm,cd,doc,dV,kV,h1,h2,h3,h4,h5⟩:=o7.fn hdef
  have h:=call w S.sh.abs { c0 with gens:=#[] } _ _ o7 (hYk _ _ _ Y keeps) a o pm cd doc dV kV h2 h3 h4 h5 (defOf_name hdef▸h1) rfl args vs as hpre hlay hrd (well_layAllW hord args S.sh.abs (vs,c0) hlaid _ λU U e=>e)
   (λa ha=>beq_eq_false_iff_ne.mpr λe=>by have:=(hin.2.2 a ha).1;subst e;exact absurd G.low (Nat.not_lt.mpr this))
  have hi:=ident_freeW hu ha hap
  have hwi:r.toRowW.claim.within=[]:=isEmpty_iff.mp k6
  have noW:∀ h':Heap,r.writes=true->namesKept r.prog r.keeps S.sh.abs.heap h'/\∀ x∈r.toRowW.claim.records,∀ a,classAt S.sh.abs.heap x.1=some a->recordClass h' a x.1 (x.2.map (·.1))=true:=λh' q=>by rw [hw0] at q;cases q
  have ht:∀ (s:Shared) (mg:Str->Option Value) (f:Value) (Q:PySem.Fin->Shared->Prop) (E:Value->Shared->Prop),s.heap.Ns mainGlobals mg->mg r.name=some f->wpAny (model r.prog w) callerA (PySem.call f vs) (λv s'=>Q (.done (.ret v)) s') E s ->
    wpAny (model r.prog w) callerA (do match <- nsGet mainNs r.name with
     | some f=>do ret (<- PySem.call f vs)
     | none=>unsupported "claim.caller:no-such-global") Q E s:=
   λs mg f Q E hg hf h=>wpAny_bind (wpAny_nsGet hg (by rw [hf];exact wpAny_bind (wpAny_mono h (λU U x=>wpAny_pure x) λU U x=>x)))
  exact ⟨vs,c0,hlaid,ht { c0 with gens:=#[] } _ _ _ _ o7.T.g (defOf_name hdef▸h1) (wpAny_mono h (λv s' g=>⟨_,rfl,have z:=T5 (c:=r.toRowW.claim) hsame hwi hi hrd hold hal.2.2.1 g.1 g.2;⟨z.1,z.2.1,z.2.2,noW _⟩⟩)
   λe s' g=>have z:=T5 (c:=r.toRowW.claim) hsame hwi hi hrd hold hal.2.2.1 g.1 g.2;⟨z.1,z.2.1,z.2.2,noW _⟩)⟩
end Mh
end
section
open PySem PySem.W PyProof.Rows
set_option maxRecDepth 10000
namespace Mi
section
variable {W:Wd}{n:Nat}{s:Shared}{fd:FuncData}{fi:Fi}{a P:Addr}{vs:List Value}{l:List PV}
def fm0 (P:Addr):Fm:={ env:={ (default:Env) with locals:=mainGlobals },stk:=[],av:=[P],own0:=[],tab:=[P],sc:=[],hdl:=none }
theorem SV (hb:∀ b o,W.h₀.get? b=some o->s.heap.get? b=some o)(hg:s.gens=W.gens)(ho:s.os=W.os)(hd:W.H.At W.h₀)(hP:Cr W.H s.heap P):InvS W (fm0 P) [] ⟨λU=>none,[]⟩ s:=by
 refine ⟨⟨hb,⟨_,hd.g.keeps hb,λx i h=>(by cases h)⟩,λx k i h=>(by cases h),⟨rfl,λi l e=>by simp at e,nodup_nil,λa h=>(by cases h),λa h=>(by cases h)⟩,λa h=>?_,trivial,λQ h=>?_⟩,hg,ho⟩
 ·have h:=mem_singleton.mp h
  subst h
  obtain ⟨ps,e,_⟩:=hP
  rw [e];rfl
 ·have h:=mem_singleton.mp h
  subst h
  exact hP
theorem Qs {m:M PFlow}{ps':PS}{p:PV}(hb0:∀ b o,W.h₀.get? b=some o->s.heap.get? b=some o)(hg:s.gens=W.gens)(hos:s.os=W.os)(hd:W.H.At W.h₀)(hP:Cr W.H s.heap P)(hP0:W.h₀.get? P=none)(hPt:P=W.H.tabP)
  (Fa:FnAt W.h₀ a fd fi) (ok:fi.Ok) (hb:BindsTo s fd ⟨vs,[]⟩ (fi.params.zip vs)) (hl:fi.params.length=vs.length)
  (rl:RepL W.H W.h₀ [P] [] s.heap l vs) (hn:n<=12) (body:∀ fm':Fm,fm'.sc=fi.sc->fm'.env.scope=fi.scope->fm'.hdl=none->SimS W n fm' fi.body m) (res:m ⟨λi=>l[i]?,[]⟩ = .ok (.ret p) ps') :
  wpAny W.m callerA (call (.ref a) vs) (λv s'=>(∃ av V,RepV W.H W.h₀ av V s'.heap p v)/\(∀ b o,W.h₀.get? b=some o->s'.heap.get? b=some o)/\Cr W.H s'.heap P/\s'.gens=W.gens/\s'.os=W.os) (λU U=>False) s:=by
 have Fa':=Fa.keeps hb0
 have I:=SV hb0 hg hos hd hP
 obtain ⟨⟨o,ho,hd'⟩,hscope,hbody,hclo,hglob,hbi,hcode⟩:=Fa'
 have lim:s.heap.NoLimit:=hd.lim.keeps hb0
 have hdep:callerA.depth+n<900:=by
  have:callerA.depth<500:=by decide +kernel
  lia
 refine wpAny_call (codeAny_call_function (by show callerA.depth<1000;lia) ho hd' (by rw [hscope];exact ok.co) (by rw [hscope];exact ok.gen) hbody hcode (hb _ _ _ _ ?_))
 rw [hscope,hglob,hclo,hbi]
 refine wpAny_newFunctionEnv_cells ok.kind (λp hp=>?_) λenv he c0 X=>?_
 ·have hm:p.1∈fi.params:=(of_mem_zip (show (p.1,p.2)∈fi.params.zip vs from hp)).1
  rcases ok.parK p.1 hm with q | q
  ·exact .inl q
  ·exact .inr ⟨q,Cm _ _ _ (.inl q)⟩
 ·have he':env=Bm fd fi s.heap.objs.size a:=he
  subst he'
  refine ⟨lim.keeps X.toInCall.keep,codeAny_func ?_⟩
  have F':FmOk W.h₀ (AU (fm0 P) fd fi s.heap.objs.size a):=GR (λb m=>m) (λb m=>(by cases m)) (λb m=>by
   have m:=mem_singleton.mp m
   rw [m];exact hP0) I ok X
  have I':=Ep (fd:=fd) (a:=a) I ok hl rl X
  have C':Ctx W (AU (fm0 P) fd fi s.heap.objs.size a) n (callerA.deeper (Bm fd fi s.heap.objs.size a)):=by
   refine ⟨Around.frames_deeper (A:=callerA) (outer:=[]) rfl,?_,?_,rfl,?_,F',hd⟩
   ·show callerA.depth+1+n<990;lia
   ·have:callerA.units=4:=rfl
    show callerA.units+3+20*n+1000<cLine
    have:1500<cLine:=by decide +kernel
    lia
   ·show [P]=[W.H.tabP];rw [hPt]
  refine aW (body (AU (fm0 P) fd fi s.heap.objs.size a) rfl rfl rfl _ [] _ c0 C' I' (by rw [res];nofun)) (λf s' z=>?_) λx s' z=>?_
  ·obtain ⟨p',o0,α₁,y0,w0,d0,w3,rf⟩:=z
   have y0:m ⟨λi=>l[i]?,[]⟩ = .ok p' o0:=y0
   rw [res] at y0;cases y0
   cases rf with
   | ret r=>exact ⟨⟨_,_,r⟩,w0.inv.base,w0.inv.tabs P (mem_singleton.mpr rfl),w0.gens,w0.os⟩
  ·obtain ⟨e,o0,α₁,y0,_⟩:=z
   have y0:m ⟨λi=>l[i]?,[]⟩ = .ex e o0:=y0
   rw [res] at y0;cases y0
end
def VG (x y:Txt):Bool:=x==y
theorem SW {x y:Txt}(h:VG x y=true):x=y:=eq_of_beq h
def EC {β:Type}(o:Option β)(f:β->Bool):Bool:=match o with
 | some x=>f x
 | none=>false
theorem Bz {β:Type}{o:Option β}{f:β->Bool}(h:EC o f=true):∃ x,o=some x/\f x=true:=by
 cases o with
 | none=>cases h
 | some x=>exact ⟨x,rfl,h⟩
def gIs (h:Heap)(x:Str)(a:Nat):Bool:=EC (h.nsMap mainGlobals x) λv=>EC (Mh.Io v) λb=>Nat.beq b a
theorem DK {h:Heap}{x:Str}{a:Nat}(q:gIs h x a=true):h.nsMap mainGlobals x=some (.ref a):=by
 obtain ⟨v,e,q⟩:=Bz q
 obtain ⟨b,f,q⟩:=Bz q
 rw [e,Mh.CF f,Nat.eq_of_beq_eq_true q]
def LV (x:Str):Option Nat:=one x.cps.toList
def UR (c:Nat)(l:List Str):Bool:=l.any λx=>EC (LV x) (Nat.beq c)
def T6 (l:List Str):Bool:=l.all λx=>EC (LV x) (Nat.blt · 128)
def Qt (k:Nat)(l:List Str):Bool:=T6 l&&(range 128).all λc=>(UR c l==AQ k c)
theorem On {k c:Nat}(h:128<=c):AQ k c=false:=by
 rcases k with _ | _ | _ | _ | _ | k
 ·show (ctl c&&c != 9)=false
  simp [ctl];lia
 ·show (ctl c&&c != 9&&c != 10)=false
  simp [ctl];lia
 ·show (c==32||c==9)=false
  simp;lia
 ·show (c==32||c==9||c==10)=false
  simp;lia
 ·show hexd c=false
  simp [hexd];lia
 ·show ((48<=c&&c<=57)||(97<=c&&c<=122)||(65<=c&&c<=90)||c==45||c==95)=false
  simp;lia
theorem FY {x:Str}{c:Nat}(h:LV x=some c):x=txt [c]:=by
 rw [<- Bn x,EL h]
theorem Kh {l:List Str}{c:Nat}:UR c l=true↔txt [c]∈l:=by
 refine any_eq_true.trans ⟨λ⟨x,m,h⟩=>?_,λm=>⟨_,m,Nat.beq_refl c⟩⟩
 obtain ⟨d,e,h⟩:=Bz h
 rw [Nat.eq_of_beq_eq_true h,<- FY e]
 exact m
theorem Ie {l:List Str}(h:T6 l=true)(x:Str)(m:x∈l):∃ c,x=txt [c]/\c<128:=by
 obtain ⟨d,e,h⟩:=Bz (all_eq_true.mp h x m)
 exact ⟨d,FY e,by simpa [Nat.blt_eq] using h⟩
theorem Qu {k:Nat}{l:List Str}(h:Qt k l=true):(λx=>decide (x∈l))=Fl k:=by
 obtain ⟨h1,h2⟩:=and_eq_true_iff.mp h
 have key:∀ c,decide (txt [c]∈l)=AQ k c:=λc=>by
  by_cases q:c<128
  ·have:=all_eq_true.mp h2 c (mem_range.mpr q)
   rw [<- beq_iff_eq.mp this]
   cases z:UR c l with
   | true=>exact decide_eq_true (Kh.mp z)
   | false=>exact decide_eq_false λm=>by rw [Kh.mpr m] at z;cases z
  ·rw [On (by exact la [_] [([257],[2])] ([257],[2]) rfl (Nat.not_lt.mp q))]
   refine decide_eq_false λm=>?_
   obtain ⟨d,e,lt⟩:=Ie h1 _ m
   have:=(List.cons.inj (ID e)).1
   exact q (this▸lt)
 funext x
 have no:(∀ c,x.cps.toList≠[c])->decide (x∈l)=false:=λn=>decide_eq_false λm=>by
  obtain ⟨c,e,_⟩:=Ie h1 _ m
  exact n c (by rw [e];rfl)
 show _=JB k x.cps.toList
 cases e:x.cps.toList with
 | nil=>exact no λc z=>by rw [e] at z;cases z
 | cons c r=>
  cases r with
  | nil=>exact (by rw [<- e,Bn]:txt [c]=x)▸key c
  | cons d r=>exact no λc z=>by rw [e] at z;cases z
theorem US {w:World}{S:Mh.SX}(I:Mh.Inv w S){a k:Nat}{l:List Str}(e:Mh.D5 a S.gh=some l)(h:Qt k l=true)(prog:Program):∃ n,FrozAt (strKind prog w) S.sh.abs.heap a (Fl k) n/\n<4096:=by
 obtain ⟨hn,es,ep,t,e1,Si⟩:=I a l e
 refine ⟨l.length,?_,by have:=Si.lt;exact la [_] [([2,3,0],[2001])] ([2,3,0],[8193]) rfl this⟩
 rw [<- Qu h]
 exact Si.froz (Mh.Db hn e1)
theorem LW {prog:Program}{w:World}{K:Type}[DecidableEq K]{knd:KeyKind prog w K}{h h':Heap}{a:Addr}{S:K->Bool}{n:Nat}(x:FrozAt knd h a S n)(k:∀ o,h.get? a=some o->h'.get? a=some o):FrozAt knd h' a S n:=by
 obtain ⟨es,ep,t,e,r⟩:=x
 exact ⟨es,ep,t,k _ e,r⟩
def SY:Value->Option Str
 | .str k _=>some k
 | _=>none
theorem MT {v:Value}{k:Str}(h:SY v=some k):∃ t,v = .str k t:=by
 cases v with
 | str k t=>cases h;exact ⟨t,rfl⟩
 | _=>cases h
def Oo (v:Value)(x:Txt):Bool:=match SY v with
 | some k=>VG k.cps.toList x
 | none=>false
theorem MU {v:Value}{x:Txt}(h:Oo v x=true):∃ t,v = .str (txt x) t:=by
 unfold Oo at h
 cases e:SY v with
 | none=>rw [e] at h;cases h
 | some k=>
  rw [e] at h
  obtain ⟨t,rfl⟩:=MT e
  exact ⟨t,by rw [<- SW h,Bn]⟩
def SZ:List DictEntry->List (Txt × Txt)->Bool
 | [],l=>l.isEmpty
 | e::es,l=>match l with
  | []=>false
  | p::l=>Oo e.key p.1&&(Oo e.val p.2&&SZ es l)
inductive EsAt:List DictEntry->List (Txt × Txt)->Prop
 | nil:EsAt [] []
 | cons {hs:Int} {a b:Txt} {tk tv:Tok} {es:List DictEntry} {l:List (Txt × Txt)} (r:EsAt es l):EsAt (⟨hs,.str (txt a) tk,.str (txt b) tv⟩::es) ((a,b)::l)
theorem S0 {es:List DictEntry}:∀ {l:List (Txt × Txt)},SZ es l=true->EsAt es l:=by
 induction es with
 | nil=>
  intro l h
  cases l with
  | nil=>exact .nil
  | cons=>cases h
 | cons e es ih=>
  intro l h
  cases l with
  | nil=>cases h
  | cons p l=>
   obtain ⟨h1,h2⟩:=and_eq_true_iff.mp (show (Oo e.key p.1&&(Oo e.val p.2&&SZ es l))=true from h)
   obtain ⟨h2,h3⟩:=and_eq_true_iff.mp h2
   obtain ⟨hs,ke,va⟩:=e
   obtain ⟨tk,rfl⟩:=MU h1
   obtain ⟨tv,rfl⟩:=MU h2
   exact .cons (ih h3)
def UT (c:String):Value->Bool
 | .type d=>decide (d=c)
 | _=>false
theorem MV {c:String}{v:Value}(h:UT c v=true):v = .type c:=by
 cases v with
 | type d=>rw [of_decide_eq_true h]
 | _=>cases h
def UU:List Value->Option Addr
 | [v]=>Mh.Io v
 | _=>none
def Qv:Data->Option Addr
 | .fields vs=>UU vs.toList
 | _=>none
theorem Op {d:Data}{a:Addr}(h:Qv d=some a):d = .fields #[.ref a]:=by
 cases d with
 | fields vs=>
  obtain ⟨l⟩:=vs
  cases l with
  | nil=>cases h
  | cons v r=>
   cases r with
   | nil=>rw [Mh.CF h]
   | cons=>cases h
 | _=>cases h
def Qw:Data->Option (List DictEntry)
 | .dict es _=>some es.toList
 | _=>none
theorem Oq {d:Data}{es:List DictEntry}(h:Qw d=some es):∃ ep,d = .dict es.toArray ep:=by
 cases d with
 | dict es ep=>cases h;exact ⟨ep,rfl⟩
 | _=>cases h
def UV (o:Obj):Bool:=UT "dict" o.cls&&(o.dict.isNone&&o.slots.toList.isEmpty)
def MW (h:Heap)(a:Addr):Option (Addr × List DictEntry):=
 (h.get? a).bind λo=>cond (UT "mappingproxy" o.cls) ((Qv o.data).bind λd=>cond (Nat.beq d sysModules) none ((h.get? d).bind λod=>cond (UV od) ((Qw od.data).bind λes=>some (d,es)) none)) none
theorem LX {h:Heap}{a d:Addr}{es:List DictEntry}(q:MW h a=some (d,es)):∃ o od ep,h.get? a=some o/\o.cls = .type "mappingproxy"/\o.data = .fields #[.ref d]/\(d==sysModules)=false/\h.get? d=some od/\od.ExactDict/\od.data = .dict es.toArray ep:=by
 refine Mh.Bb q λo e q=>Mh.Ca q λc q=>Mh.Bb q λd' e1 q=>Mh.OY q λn q=>Mh.Bb q λod e2 q=>Mh.Ca q λx q=>Mh.Bb q λes' e3 q=>?_
 obtain ⟨ep,e4⟩:=Oq e3
 have q1:d'=d:=(Prod.mk.inj (aT q)).1
 have q2:es'=es:=(Prod.mk.inj (aT q)).2
 rw [q1] at e1 e2 n
 rw [q2] at e4
 obtain ⟨x1,x2⟩:=and_eq_true_iff.mp x
 obtain ⟨x2,x3⟩:=and_eq_true_iff.mp x2
 refine ⟨o,od,ep,e,MV c,Op e1,?_,e2,?_,e4⟩
 ·exact aX.mpr λz=>by rw [z,Nat.beq_refl] at n;cases n
 ·exact ⟨MV x1,Option.isNone_iff_eq_none.mp x2,Array.ext' (isEmpty_iff.mp x3)⟩
theorem Os {prog:Program}{w:World}{es:List DictEntry}{l:List (Txt × Txt)}(h:EsAt es l)(x:Txt):(l.lookup x=none->findBy (strKind prog w).is es.toArray (txt x)=none)/\∀ t,l.lookup x=some t->∃ tk,findBy (strKind prog w).is es.toArray (txt x)=some (.str (txt t) tk):=by
 induction h with
 | nil=>exact ⟨λU=>rfl,λt e=>(by cases e)⟩
 | @cons hs a b tk tv es l r ih=>
  unfold findBy at ih ⊢
  rw [List.find?_toArray] at ih ⊢
  rw [find?_cons,lookup_cons]
  by_cases q:x=a
  ·subst q
   rw [strKind_is,beq_self_eq_true]
   exact ⟨λe=>(by cases e),λt e=>⟨tv,by cases e;rfl⟩⟩
  ·have n1:(x==a)=false:=aX.mpr q
   have n2:(strKind prog w).is (txt x) (.str (txt a) tk)=false:=by
    cases z:(strKind prog w).is (txt x) (.str (txt a) tk) with
    | false=>rfl
    | true=>exact absurd (ID ((strKind prog w).inj _ _ _ z (strKind_is prog w _ tk))) q
   rw [n1,n2]
   exact ih
theorem Ot {prog:Program}{w:World}{es:List DictEntry}{l:List (Txt × Txt)}(h:EsAt es l)(hh:es.map (·.hash)=l.map (λe=>hashStr w (txt e.1))):∀ e∈es,∃ k,(strKind prog w).is k e.key=true/\e.hash=(strKind prog w).hash k:=by
 induction h with
 | nil=>intro e m;cases m
 | @cons hs a b tk tv es l r ih=>
  intro e m
  have hh:=List.cons.inj hh
  cases m with
  | head=>exact ⟨txt a,strKind_is _ _ _ _,hh.1⟩
  | tail _ z=>exact ih hh.2 e z
theorem Ki (x:Txt):escT x=DV.lookup x:=rfl
def Ou (prog:Program)(w:World)(h:Heap)(a:Addr):Prop:=∃ o d f,h.get? a=some o/\o.cls = .type "mappingproxy"/\o.data = .fields #[.ref d]/\(d==sysModules)=false/\h.MapOf (strKind prog w) d f /\
  ∀ x:Txt,(escT x=none->f (txt x)=none)/\∀ t,escT x=some t->∃ tk,f (txt x)=some (.str (txt t) tk)
def VH (h:Heap)(a:Addr):Option (List Int):=(MW h a).bind λr=>cond (SZ r.2 DV) (some (r.2.map (·.hash))) none
theorem VI {prog:Program}{w:World}{h:Heap}{a:Addr}(q:VH h a=some (DV.map λe=>hashStr w (txt e.1))):Ou prog w h a:=by
 refine Mh.Bb q λr e q=>Mh.Ca q λho q=>?_
 obtain ⟨d,es⟩:=r
 obtain ⟨o,od,ep,h1,h2,h3,h4,h5,h6,h7⟩:=LX e
 have E:=S0 ho
 refine ⟨o,d,λk=>findBy (strKind prog w).is es.toArray k,h1,h2,h3,h4,⟨od,es.toArray,ep,h5,h6,h7,λe m=>Ot E (aT q) e (Array.mem_toList_iff.mpr m),λU=>rfl⟩,λx=>?_⟩
 rw [Ki]
 exact Os E x
theorem Ou.keeps {prog:Program}{w:World}{h h':Heap}{a:Addr}(x:Ou prog w h a)(k:∀ b o,h.get? b=some o->o.cls≠.none->h'.get? b=some o):Ou prog w h' a:=by
 obtain ⟨o,d,f,h1,h2,h3,h4,⟨od,es,ep,m1,m2,m3⟩,h6⟩:=x
 exact ⟨o,d,f,k _ _ h1 (by rw [h2];nofun),h2,h3,h4,⟨od,es,ep,k _ _ m1 (by rw [m2.1];nofun),m2,m3⟩,h6⟩
def Qx (h:Heap):Bool:=h.ownExcOk "TOMLDecodeError" [] Nv "ValueError.__new__"&&match h.clsAt mainGlobals "TOMLDecodeError" with
 | some (_,_,cd)=>(["__init__", "__getattribute__", "__getattr__", "args", "__str__", "__repr__", "__new__"]:List Str).all λx=>(h.nsMap cd.ns x).isNone
 | none=>false
set_option tactic.hygienic true in
theorem UW {h:Heap}(q:Qx h=true):∃ C,h.nsMap mainGlobals "TOMLDecodeError" = some (.ref C)/\ClsAt C h:=by
 unfold Qx at q
 obtain ⟨q1,q2⟩:=and_eq_true_iff.mp q
 obtain ⟨C,N,nm,qn,bs,hdct,sn,sub,ab,col,dd,k0,k1,k2,k3,k5,g1,g2,g3,g4⟩:=Heap.ownExc_of_ok q1
 refine ⟨C,g1,⟨nm,qn,N,bs,hdct,sn,sub,ab,col,dd,k0,k1,k2,k3,k5,_,g2,g3,λx m=>?_⟩⟩
 split at q2
 ·rename_i C' o cd e
  obtain ⟨f1,f2,f3⟩:=Heap.clsAt_spec e
  rw [g1] at f1;cases f1
  rw [g2] at f2;cases f2
  cases f3
  have:=all_eq_true.mp q2 x m
  simpa using this
 ·cases q2
theorem ClsAt.keepsC {C:Addr}{h h':Heap}(x:ClsAt C h)(k:∀ b o,h.get? b=some o->o.cls≠.none\/(∀ vs,o.data≠.fields vs)->h'.get? b=some o):ClsAt C h':=by
 obtain ⟨nm,q,N,bs,hdct,sn,sub,ab,col,dd,k0,k1,k2,k3,k5,mN,h1,⟨o,es,ep,n1,n2,n3⟩,h3⟩:=x.at_
 exact ⟨nm,q,N,bs,hdct,sn,sub,ab,col,dd,k0,k1,k2,k3,k5,mN,k _ _ h1 (.inl (by nofun)),⟨o,es,ep,k _ _ n1 (.inr λvs z=>by rw [n2] at z;cases z),n2,n3⟩,h3⟩
end Mi
end
section
open PySem PySem.W PySem.Calls PyProof.Rows
set_option maxRecDepth 100000
namespace Mi
open PySem.Challenge
def Hc (fd:FuncData)(ps:List Str)(np:Nat)(kws:List Str):Prop:=∀ vs ks:List Value,vs.length=np->ks.length=kws.length->bindArgs fd ⟨vs,kws.zip ks⟩=pure (ps.zip (vs++(ks++[])))
theorem D9 {vs:List Value}{n:Nat}(h:vs.length=n+1):∃ a r,vs=a::r/\r.length=n:=by
 cases vs with
 | nil=>cases h
 | cons a r=>exact ⟨a,r,rfl,Nat.succ.inj h⟩
theorem S5 {fd:FuncData}{ps:List Str}(h:∀ a,bindArgs fd ⟨[a],[]⟩=pure (ps.zip [a])):Hc fd ps 1 []:=by
 intro vs ks q1 q2
 obtain ⟨a,r1,rfl,p1⟩:=D9 q1
 cases eq_nil_of_length_eq_zero p1
 cases eq_nil_of_length_eq_zero q2
 exact h a
theorem UX {fd:FuncData}{ps:List Str}(h:∀ a b,bindArgs fd ⟨[a,b],[]⟩=pure (ps.zip [a,b])):Hc fd ps 2 []:=by
 intro vs ks q1 q2
 obtain ⟨a,r1,rfl,p1⟩:=D9 q1
 obtain ⟨b,r2,rfl,p2⟩:=D9 p1
 cases eq_nil_of_length_eq_zero p2
 cases eq_nil_of_length_eq_zero q2
 exact h a b
theorem Qy {fd:FuncData}{ps:List Str}(h:∀ a b c,bindArgs fd ⟨[a,b,c],[]⟩=pure (ps.zip [a,b,c])):Hc fd ps 3 []:=by
 intro vs ks q1 q2
 obtain ⟨a,r1,rfl,p1⟩:=D9 q1
 obtain ⟨b,r2,rfl,p2⟩:=D9 p1
 obtain ⟨c,r3,rfl,p3⟩:=D9 p2
 cases eq_nil_of_length_eq_zero p3
 cases eq_nil_of_length_eq_zero q2
 exact h a b c
theorem VJ {fd:FuncData}{ps:List Str}{x:Str}(h:∀ a b c,bindArgs fd ⟨[a,b],[(x,c)]⟩=pure (ps.zip [a,b,c])):Hc fd ps 2 [x]:=by
 intro vs ks q1 q2
 obtain ⟨a,r1,rfl,p1⟩:=D9 q1
 obtain ⟨b,r2,rfl,p2⟩:=D9 p1
 obtain ⟨c,r3,rfl,p3⟩:=D9 q2
 cases eq_nil_of_length_eq_zero p2
 cases eq_nil_of_length_eq_zero p3
 exact h a b c
theorem UY {fd:FuncData}{ps:List Str}{x y:Str}(h:∀ a b c d e,bindArgs fd ⟨[a,b,c],[(x,d),(y,e)]⟩=pure (ps.zip [a,b,c,d,e])):Hc fd ps 3 [x,y]:=by
 intro vs ks q1 q2
 obtain ⟨a,r1,rfl,p1⟩:=D9 q1
 obtain ⟨b,r2,rfl,p2⟩:=D9 p1
 obtain ⟨c,r3,rfl,p3⟩:=D9 p2
 obtain ⟨d,r4,rfl,p4⟩:=D9 q2
 obtain ⟨e,r5,rfl,p5⟩:=D9 p4
 cases eq_nil_of_length_eq_zero p3
 cases eq_nil_of_length_eq_zero p5
 exact h a b c d e
theorem Qz {s:Shared}{fd:FuncData}{x:Str}{u:Value}{d:Addr}{m:Str->Option Value}{vs:List Value}{L:List (Str × Value)}{α₁ X0:Type}{Z7:Option Value->Sem α₁}{b8:α₁->Sem X0}{e8:X0->Sem (List (Str × Value))}(hn:s.heap.Ns d m)(hm:m x=some u)
  (h:bindArgs fd ⟨vs,[]⟩=((nsGet d x >>= Z7) >>= b8) >>= e8) (hF:(Z7 (some u) >>= b8) >>= e8=pure L):BindsTo s fd ⟨vs,[]⟩ L:=by
 intro M A E Q hq
 rw [h,bind_assoc,bind_assoc]
 refine bg (wpAny_nsGet hn ?_)
 rw [hm,<- bind_assoc,hF]
 exact bh hq
section
variable {p:Program}{loose:List Str}{mean:ExcName->Option Value}{mg mb:Str->Option Value}{h:Heap}{W:Wd}
theorem T8 {d:DefRec}{fi:Fi}(T:Top p loose mean mg mb h)(K:∀ b o,h.get? b=some o->o≠tabObj #[]->W.h₀.get? b=some o){j:Nat}(hj:(recsOf p)[j]? = some d)(h1:d.scope=fi.scope)(h2:d.body=fi.body) :
  ∃ a pm cd doc,mg d.name=some (.ref a)/\FnAt W.h₀ a (docDef d.name d.params d.body d.scope pm cd doc) fi:=by
 obtain ⟨a,o,pm,cd,doc,e1,e2,e3,e4⟩:=T.fn d (mem_of_getElem? hj)
 obtain ⟨c,oc,vs,t,f1,f2,f3,f4⟩:=e4
 refine ⟨a,pm,cd,doc,e1,⟨o,K _ _ e2 (λz=>by rw [z] at e3;cases e3),e3⟩,h1,by show FuncBody.stmts d.body=_;rw [h2],rfl,rfl,rfl,⟨c,oc,vs,t,f1,K _ _ f2 λz=>?_,f3,f4⟩⟩
 rw [z] at f3
 cases f3
 simp at f4
theorem Dg {d:DefRec}{fi:Fi}{x:Str}{np:Nat}{kws:List Str}(hH:W.H.mg=mg)(T:Top p loose mean mg mb h)(K:∀ b o,h.get? b=some o->o≠tabObj #[]->W.h₀.get? b=some o){j:Nat}(hj:(recsOf p)[j]? = some d)(hx:d.name=x)
  (h1:d.scope=fi.scope) (h2:d.body=fi.body) (hl:fi.params.length=np+kws.length+0) (hb:∀ pm cd doc,Hc (docDef d.name d.params d.body d.scope pm cd doc) fi.params np kws):DF W x fi np kws []:=by
 obtain ⟨a,pm,cd,doc,e1,F⟩:=T8 T K hj h1 h2
 exact ⟨a,_,by rw [hH,<- hx];exact e1,F,hl,λs vs ks U q1 q2=>.of_eq (hb pm cd doc vs ks q1 q2)⟩
end
def q07:Program:=view pw_kp0046_07 [0,1,3,4,5,6,7,8,9,10,11,13,15,16,17,18,19,21,22,23,24,25,26,28,29,30,31,32,33,34]
def Bq:List Str:=["_WallAttr", "ASCII_CTRL", "ILLEGAL_BASIC_STR_CHARS", "ILLEGAL_MULTILINE_BASIC_STR_CHARS", "ILLEGAL_LITERAL_STR_CHARS", "TOML_WS", "TOML_WS_AND_NEWLINE", "hexdigits", "HEXDIGIT_CHARS", "MappingProxyType", "BASIC_STR_ESCAPE_REPLACEMENTS", "parse_basic_str_escape"]
def QC (k:Nat):Option Addr:=[72,77,78,86,87][k]?
def Ov (k a:Nat)(gh:List (Addr × List Str)):Bool:=EC (Mh.D5 a gh) (Qt k)
def g07 (gh:List (Addr × List Str)):Bool:=Ov 0 72 gh&&(Ov 1 77 gh&&(Ov 2 78 gh&&(Ov 3 86 gh&&Ov 4 87 gh)))
theorem E4 {k a:Nat}{w:World}{S:Mh.SX}(I:Mh.Inv w S)(h:Ov k a S.gh=true)(prog:Program):∃ n,FrozAt (strKind prog w) S.sh.abs.heap a (Fl k) n/\n<4096:=by
 obtain ⟨l,e,h⟩:=Bz h
 exact US I e h prog
def LY:Data->Option FuncData
 | .func fd=>some fd
 | _=>none
def Kj:Data->Option (Array Value)
 | .fields vs=>some vs
 | _=>none
def VK:Value->Bool
 | .type _=>true
 | _=>false
theorem Kk {d:Data}{fd:FuncData}(h:LY d=some fd):d = .func fd:=by cases d <;> cases h <;> rfl
theorem fieldsOf_some {d:Data}{vs:Array Value}(h:Kj d=some vs):d = .fields vs:=by cases d <;> cases h <;> rfl
def I6 (h:Heap)(a:Addr):Option (Str × Arguments × FuncBody × Scope × Addr × List (Str × Addr) × Value × Addr):=(h.get? a).bind λo=>(LY o.data).bind λfd=>some (fd.qualname,fd.params,fd.body,fd.scope,fd.globals,fd.closure,fd.defaults,fd.builtins)
def MX (h:Heap)(a:Addr)(q x:Str):Bool:=EC (h.get? a) λo=>EC (LY o.data) λfd=>EC (Mh.Io fd.kwdefaults) λd=>h.isNs d&&(decide (h.nsMap d x=some (.bool false))&&EC (Mh.Io fd.code) λc=>EC (h.get? c) λoc=>VK oc.cls&&EC (Kj oc.data) λvs=>EC vs[1]? λv=>EC (SY v) λq'=>decide (q'=q))
def Kl (h:Heap)(a:Addr)(q x:Str)(st:Stmt):Prop:=∃ o fd d m,h.get? a=some o/\o.data = .func fd/\fd.qualname=q/\fd.params=G5 st/\fd.body = .stmts (A0 st)/\fd.scope=A1 st/\fd.globals=mainGlobals/\fd.closure=[]/\fd.defaults = .none/\fd.builtins=builtinsNs /\
 fd.kwdefaults = .ref d/\h.Ns d m/\m x=some (.bool false)/\∃ c oc vs t,fd.code = .ref c/\h.get? c=some oc/\oc.cls≠.none/\oc.data = .fields vs/\vs[1]? = some (.str q t)
theorem UZ {h:Heap}{a:Addr}{q x:Str}{st:Stmt}(h1:I6 h a=some (q,G5 st,.stmts (A0 st),A1 st,mainGlobals,[],.none,builtinsNs))(h2:MX h a q x=true):Kl h a q x st:=by
 obtain ⟨o,e,h2⟩:=Bz h2
 obtain ⟨fd,f,h2⟩:=Bz h2
 obtain ⟨d,ed,h2⟩:=Bz h2
 obtain ⟨n1,h2⟩:=and_eq_true_iff.mp h2
 obtain ⟨n2,h2⟩:=and_eq_true_iff.mp h2
 obtain ⟨c,ec,h2⟩:=Bz h2
 obtain ⟨oc,eo,h2⟩:=Bz h2
 obtain ⟨et,h2⟩:=and_eq_true_iff.mp h2
 obtain ⟨vs,ev,h2⟩:=Bz h2
 obtain ⟨v,v1,h2⟩:=Bz h2
 obtain ⟨q',v2,h2⟩:=Bz h2
 obtain ⟨t,rfl⟩:=MT v2
 rw [I6,e,Option.bind_some,f,Option.bind_some] at h1
 have h1:=aT h1
 exact ⟨o,fd,d,_,e,Kk f,congrArg (·.1) h1,congrArg (·.2.1) h1,congrArg (·.2.2.1) h1,congrArg (·.2.2.2.1) h1,congrArg (·.2.2.2.2.1) h1,congrArg (·.2.2.2.2.2.1) h1,congrArg (·.2.2.2.2.2.2.1) h1,congrArg (·.2.2.2.2.2.2.2) h1,
  Mh.CF ed,.of_isNs n1,aY n2,c,oc,vs,t,Mh.CF ec,eo,λz=>by (rw [z] at et;cases et),fieldsOf_some ev,aY h2▸v1⟩
theorem Kl.keeps {h h':Heap}{a:Addr}{q x:Str}{st:Stmt}(X:Kl h a q x st)(k:∀ b o,h.get? b=some o->o≠tabObj #[]->h'.get? b=some o):Kl h' a q x st:=by
 obtain ⟨o,fd,d,m,h1,h2,h3,h4,h5,h6,h7,h8,h9,h10,h11,⟨o',es,ep,n1,n2,n3⟩,h13,c,oc,vs,t,c1,c2,c3,c4⟩:=X
 exact ⟨o,fd,d,m,k _ _ h1 (λz=>by rw [z] at h2;cases h2),h2,h3,h4,h5,h6,h7,h8,h9,h10,h11,⟨o',es,ep,k _ _ n1 (λz=>by rw [z] at n2;cases n2),n2,n3⟩,h13,c,oc,vs,t,c1,k _ _ c2 (λz=>by rw [z] at c3;exact c3 rfl),c3,c4⟩
def VL:Data->Bool
 | .dict _ _=>true
 | _=>false
def T9 (h:Heap):Bool:=EC (h.get? sysModules) λo=>VL o.data
def QD (h:Heap):Prop:=∃ o es ep,h.get? sysModules=some o/\o.data = .dict es ep
theorem U0 {h:Heap}(q:T9 h=true):QD h:=by
 obtain ⟨o,e,q⟩:=Bz q
 cases z:o.data <;> rw [z] at q <;> cases q
 exact ⟨o,_,_,e,z⟩
def MY (h:Heap):Bool:=gIs h "ILLEGAL_BASIC_STR_CHARS" 72&&(gIs h "ILLEGAL_LITERAL_STR_CHARS" 72&&(gIs h "ILLEGAL_MULTILINE_BASIC_STR_CHARS" 77&&(gIs h "TOML_WS" 78&&(gIs h "TOML_WS_AND_NEWLINE" 86&&(gIs h "HEXDIGIT_CHARS" 87 &&
 (gIs h "BASIC_STR_ESCAPE_REPLACEMENTS" 93&&(gIs h "parse_basic_str_escape" 135&&(Qx h&&(T9 h&&(h.isNs mainGlobals&&MX h 135 "parse_basic_str_escape" "multiline"))))))))))
abbrev Y07:Type:=Bool × Option (List Int) × Option (Str × Arguments × FuncBody × Scope × Addr × List (Str × Addr) × Value × Addr)
def LZ (s:Shared):Y07:=(MY s.heap,VH s.heap 93,I6 s.heap 135)
def L0 (w:World):Y07:=(true,some (DV.map λe=>hashStr w (txt e.1)),some ("parse_basic_str_escape",G5 (nth 20),.stmts (A0 (nth 20)),A1 (nth 20),mainGlobals,[],.none,builtinsNs))
structure Head07 (w:World)(h:Heap)(m:Str->Option Value):Prop where
 ns:h.Ns mainGlobals m
 n0:m "ILLEGAL_BASIC_STR_CHARS" = some (.ref 72)
 n1:m "ILLEGAL_LITERAL_STR_CHARS" = some (.ref 72)
 n2:m "ILLEGAL_MULTILINE_BASIC_STR_CHARS" = some (.ref 77)
 n3:m "TOML_WS" = some (.ref 78)
 n4:m "TOML_WS_AND_NEWLINE" = some (.ref 86)
 n5:m "HEXDIGIT_CHARS" = some (.ref 87)
 n6:m "BASIC_STR_ESCAPE_REPLACEMENTS" = some (.ref 93)
 n7:m "parse_basic_str_escape" = some (.ref 135)
 cls:∃ C,m "TOMLDecodeError" = some (.ref C)/\ClsAt C h
 sys:QD h
 mp:Ou pw_kp0046_07 w h 93
 sets:∀ k a,QC k=some a->∃ n,FrozAt (strKind pw_kp0046_07 w) h a (Fl k) n/\n<4096
 esc:Kl h 135 "parse_basic_str_escape" "multiline" (nth 20)
theorem Head07.keeps {w:World}{h h':Heap}{m:Str->Option Value}(x:Head07 w h m)(k:∀ b o,h.get? b=some o->o≠tabObj #[]->h'.get? b=some o):Head07 w h' m where
 ns:=by
  obtain ⟨o,es,ep,e,hd,r⟩:=x.ns
  exact ⟨o,es,ep,k _ _ e (λz=>by rw [z] at hd;cases hd),hd,r⟩
 n0:=x.n0
 n1:=x.n1
 n2:=x.n2
 n3:=x.n3
 n4:=x.n4
 n5:=x.n5
 n6:=x.n6
 n7:=x.n7
 cls:=by
  obtain ⟨C,e,X⟩:=x.cls
  exact ⟨C,e,X.keepsC λb o e q=>k b o e λz=>by
  subst z
  rcases q with q | q
  ·exact q rfl
  ·exact q #[] rfl⟩
 sys:=by
  obtain ⟨o,es,ep,e,hd⟩:=x.sys
  exact ⟨o,es,ep,k _ _ e (λz=>by rw [z] at hd;cases hd),hd⟩
 mp:=x.mp.keeps λb o e n=>k b o e λz=>by rw [z] at n;exact n rfl
 sets:=λi a e=>by
  obtain ⟨n,F,lt⟩:=x.sets i a e
  exact ⟨n,LW F (λo e=>k _ _ e λz=>(by
  obtain ⟨es,ep,t,e',_⟩:=F
  rw [e] at e'
  rw [z] at e'
  cases e')),lt⟩
 esc:=x.esc.keeps k
def S8 (w:World)(h:Heap):Prop:=∃ m,Head07 w h m
theorem L1 (w:World)(h h':Heap):S8 w h->(∀ b o,h.get? b=some o->h'.get? b=some o)->S8 w h':=λ⟨m,x⟩ k=>⟨m,x.keeps λb o e U=>k b o e⟩
theorem S9 (w:World)(S:Mh.SX)(I:Mh.Inv w S)(hg:g07 S.gh=true)(hy:LZ S.sh.abs=L0 w):S8 w S.sh.abs.heap:=by
 simp only [LZ,L0,Prod.mk.injEq] at hy
 obtain ⟨y1,y2,y3⟩:=hy
 simp only [MY,and_eq_true] at y1
 obtain ⟨a0,a1,a2,a3,a4,a5,a6,a7,a8,a9,a10,a11⟩:=y1
 simp only [g07,and_eq_true] at hg
 obtain ⟨g0,g1,g2,g3,g4⟩:=hg
 refine ⟨_,.of_isNs a10,DK a0,DK a1,DK a2,DK a3,DK a4,DK a5,DK a6,DK a7,UW a8,U0 a9,VI y2,λk a e=>?_,UZ y3 a11⟩
 rcases k with _ | _ | _ | _ | _ | k <;> cases e
 ·exact E4 I g0 _
 ·exact E4 I g1 _
 ·exact E4 I g2 _
 ·exact E4 I g3 _
 ·exact E4 I g4 _
theorem QE (w:World)(os:OsState):Mh.Dn (Mh.Ej pw_kp0046_07 ((w.withFollow "comprehension-iter-twice" true).withFollow "special-get-raises" true) os)
  (Mh.look pw_kp0046_07 q07 Bq ((w.withFollow "comprehension-iter-twice" true).withFollow "special-get-raises" true) LZ) g07 =
  some (Mh.KX q07 Bq ((w.withFollow "comprehension-iter-twice" true).withFollow "special-get-raises" true) os (L0 ((w.withFollow "comprehension-iter-twice" true).withFollow "special-get-raises" true))):=by kernel_rfl
theorem QF (w:World)(os:OsState):Mh.Dn (Mh.Ej pw_kp0046_07 ((w.withFollow "comprehension-iter-twice" true).withFollow "special-get-raises" false) os)
  (Mh.look pw_kp0046_07 q07 Bq ((w.withFollow "comprehension-iter-twice" true).withFollow "special-get-raises" false) LZ) g07 =
  some (Mh.KX q07 Bq ((w.withFollow "comprehension-iter-twice" true).withFollow "special-get-raises" false) os (L0 ((w.withFollow "comprehension-iter-twice" true).withFollow "special-get-raises" false))):=by kernel_rfl
theorem QG (w:World)(os:OsState):Mh.Dn (Mh.Ej pw_kp0046_07 ((w.withFollow "comprehension-iter-twice" false).withFollow "special-get-raises" true) os)
  (Mh.look pw_kp0046_07 q07 Bq ((w.withFollow "comprehension-iter-twice" false).withFollow "special-get-raises" true) LZ) g07 =
  some (Mh.KX q07 Bq ((w.withFollow "comprehension-iter-twice" false).withFollow "special-get-raises" true) os (L0 ((w.withFollow "comprehension-iter-twice" false).withFollow "special-get-raises" true))):=by kernel_rfl
theorem QH (w:World)(os:OsState):Mh.Dn (Mh.Ej pw_kp0046_07 ((w.withFollow "comprehension-iter-twice" false).withFollow "special-get-raises" false) os)
  (Mh.look pw_kp0046_07 q07 Bq ((w.withFollow "comprehension-iter-twice" false).withFollow "special-get-raises" false) LZ) g07 =
  some (Mh.KX q07 Bq ((w.withFollow "comprehension-iter-twice" false).withFollow "special-get-raises" false) os (L0 ((w.withFollow "comprehension-iter-twice" false).withFollow "special-get-raises" false))):=by kernel_rfl
theorem VM (b1 b2:Bool)(w:World)(os:OsState):Mh.Dn (Mh.Ej pw_kp0046_07 ((w.withFollow "comprehension-iter-twice" b1).withFollow "special-get-raises" b2) os)
  (Mh.look pw_kp0046_07 q07 Bq ((w.withFollow "comprehension-iter-twice" b1).withFollow "special-get-raises" b2) LZ) g07 =
  some (Mh.KX q07 Bq ((w.withFollow "comprehension-iter-twice" b1).withFollow "special-get-raises" b2) os (L0 ((w.withFollow "comprehension-iter-twice" b1).withFollow "special-get-raises" b2))):=by
 cases b1 <;> cases b2
 ·exact QH w os
 ·exact QG w os
 ·exact QF w os
 ·exact QE w os
theorem L2 {R:WRecords}{cl:Str->Option Addr}{h:Heap}:∀ {xs:List WData} {vs:List Value} {as:List Addr},WShape.hasItems R xs .int=true->ReadsAllW R cl h vs xs as->∃ l:List Int,xs=l.map .int/\IntsAre vs l:=by
 intro xs
 induction xs with
 | nil=>
  intro vs as _ r
  obtain ⟨rfl,_⟩:=readsAllW_nil_inv r
  exact ⟨[],rfl,.nil⟩
 | cons x xs ih=>
  intro vs as hx r
  obtain ⟨h1,h2⟩:=and_eq_true_iff.mp hx
  obtain ⟨i,rfl⟩:=hasW_int h1
  obtain ⟨v,vs,_,_,rfl,_,a,b⟩:=readsAllW_cons_inv r
  obtain ⟨t,rfl,_⟩:=readsW_int_inv a
  obtain ⟨l,rfl,q⟩:=ih h2 b
  exact ⟨i::l,rfl,.cons i t q⟩
theorem Ow {R:WRecords}{cl:Str->Option Addr}{h:Heap}{args:List WData}{vals:List Value}{as:List Addr}(h1:WShape.hasAll R args [.list .int]=true)(rd:ReadsAllW R cl h vals args as) :
  ∃ L vs l,vals=[.ref L]/\args=[.list (l.map .int)]/\h.IsList L vs/\IntsAre vs.toList l:=by
 obtain ⟨d,r,rfl,hd,hr⟩:=hasAllW_cons h1
 obtain rfl:=hasAllW_nil hr
 obtain ⟨xs,rfl,hi⟩:=hasW_list hd
 obtain ⟨v,vs,_,_,rfl,_,a,b⟩:=readsAllW_cons_inv rd
 obtain ⟨rfl,_⟩:=readsAllW_nil_inv b
 obtain ⟨L,o,its,n,ai,rfl,e1,e2,e3,e4,_⟩:=readsW_list_open a
 obtain ⟨l,rfl,q⟩:=L2 hi e4
 exact ⟨L,its,l,rfl,rfl,⟨o,e1,e2,n,e3⟩,q⟩
theorem Ta {R:WRecords}{n:Nat}{l:List Int}{b:WTm}(h:(WTm.and (.not (.lt (.lit (.int n)) (.len (.arg 0)))) b).holds R { args:=[.list (l.map .int)] } = true):l.length<=n:=by
 have h:=condW_of (X:=!decide ((n:Int)<((l.map WData.int).length:Int))) (holds_andW h).1 rfl
 rw [length_map] at h
 refine Nat.le_of_not_lt λq=>?_
 rw [decide_eq_true (Int.ofNat_lt.mpr q)] at h
 injection h
section
variable {p:Program}{loose:List Str}{mean:ExcName->Option Value}{mg mb:Str->Option Value}{h:Heap}
theorem VN {H:Hd}{c P:Addr}(hT:TabsAt [(c,P)] h)(T:Top p loose mean mg mb h)(hg:H.mg=mg)(hb:H.mb=mb)(hfree:(Bk.all λx=>!startupNames.contains x&&(!loose.contains x&&(!((recsOf p).map (·.name)).contains x&&(!((litsOf p).map (·.1)).contains x&&!((clssOf p loose).map (·.name)).contains x))))=true)
  (toml:mg "TOMLDecodeError" = some (.ref H.toml)) (tomlC:ClsAt H.toml (ghostOf h [(c,P)])) (sys:QD h)
  (sets:∀ k a,H.setv k=some a->∃ n,FrozAt (strKind H.prog H.w) (ghostOf h [(c,P)]) a (Fl k) n/\n<4096) (mp:Ou H.prog H.w (ghostOf h [(c,P)]) H.mpv):H.At (ghostOf h [(c,P)]) where
 g:=by rw [hg];exact ghost_ns hT T.g
 b:=by rw [hb];exact ghost_ns hT T.b
 lim:=let ⟨mc,a,r⟩:=T.nolimit;⟨mc,ghost_ns hT a,r⟩
 sysm:=by
  obtain ⟨o,es,ep,e,hd⟩:=sys
  rw [ghost_get hT e (λz=>by rw [z] at hd;cases hd)];rfl
 bu:=by rw [hb];exact T.builtins
 free:=λx m=>by
  rw [hg]
  have:=all_eq_true.mp hfree x m
  simp only [and_eq_true,not_eq_true',List.contains_eq_mem,decide_eq_false_iff_not] at this
  exact T.free x this.1 this.2.1 this.2.2.1 this.2.2.2.1 this.2.2.2.2
 toml:=by rw [hg];exact toml
 tomlC:=tomlC
 bmain:=by
  rw [hg]
  obtain ⟨bm,ob,a1,a2,a3,a4,a5,a6⟩:=T.bmain
  exact ⟨bm,ob,a1,a2,ghost_get hT a3 (λq=>by rw [q] at a4;cases a4),a4,a5,a6⟩
 sets:=sets
 mp:=mp
end
def MZ:Prop:=∀ l:List Int,l.length<=63->∃ K ps',Id K ⟨λi=>([PV.ints l])[i]?,[]⟩ = .ok (.ret (.bool true)) ps'
def dOf (x:Str)(i:Nat):DefRec:=⟨x,G5 (nth i),A0 (nth i),A1 (nth i),MP (nth i)⟩
def Km (w:World)(mg mb:Str->Option Value)(C P:Addr):Hd:={ prog:=pw_kp0046_07,w:=w,mg:=mg,mb:=mb,fnv:=λk=>if k=0 then 135 else match mg "parse_basic_str_escape_multiline" with | some (.ref a)=>a | _=>0,setv:=QC,mpv:=93,toml:=C,tabPos:=MP ((A0 (nth 25)).getD 0 (.Pass default)),tabQ:=("suffixed_err":Str)++(".<locals>.":Str)++("coord_repr":Str),tabP:=P }
theorem U1:(Bk.all λx=>!startupNames.contains x&&(!(looseW q07 Bq).contains x&&(!((recsOf q07).map (·.name)).contains x&&(!((litsOf q07).map (·.1)).contains x&&!((clssOf q07 (looseW q07 Bq)).map (·.name)).contains x))))=true:=by kernel_rfl
theorem VO {os:OsState}{w:World}{mean:ExcName->Option Value}{mg mb:Str->Option Value}{h:Heap}{c P C:Addr}(T:Top q07 (looseW q07 Bq) mean mg mb h)(hT:TabsAt [(c,P)] h)(Y:Head07 w h mg)
  (hs:∃ a pm doc,mg "suffixed_err" = some (.ref a)/\FnAt (ghostOf h [(c,P)]) a (docDef (dOf "suffixed_err" 25).name (dOf "suffixed_err" 25).params (dOf "suffixed_err" 25).body (dOf "suffixed_err" 25).scope pm (.ref c) doc) Bt) :
  Mod { H:=Km w mg mb C P,h₀:=ghostOf h [(c,P)],gens:=#[],os:=os }:=by
 have K:∀ b o,h.get? b=some o->o≠tabObj #[]->(ghostOf h [(c,P)]).get? b=some o:=λb o e n=>ghost_get hT e n
 refine {
  f_law_text:=Dg (d:=dOf "_law_text" 28) rfl T K (j:=10) (by kernel_rfl) rfl rfl rfl rfl λU U U=>S5 λU=>rfl
  f_skip_until:=Dg (d:=dOf "skip_until" 18) rfl T K (j:=2) (by kernel_rfl) rfl rfl rfl rfl λU U U=>UY λU U U U U=>rfl
  f_parse_literal_str:=Dg (d:=dOf "parse_literal_str" 23) rfl T K (j:=6) (by kernel_rfl) rfl rfl rfl rfl λU U U=>UX λU U=>rfl
  f_skip_chars:=Dg (d:=dOf "skip_chars" 17) rfl T K (j:=1) (by kernel_rfl) rfl rfl rfl rfl λU U U=>Qy λU U U=>rfl
  f_is_unicode_scalar_value:=Dg (d:=dOf "is_unicode_scalar_value" 26) rfl T K (j:=9) (by kernel_rfl) rfl rfl rfl rfl λU U U=>S5 λU=>rfl
  f_parse_hex_char:=Dg (d:=dOf "parse_hex_char" 22) rfl T K (j:=5) (by kernel_rfl) rfl rfl rfl rfl λU U U=>Qy λU U U=>rfl
  f_parse_basic_str:=Dg (d:=dOf "parse_basic_str" 24) rfl T K (j:=7) (by kernel_rfl) rfl rfl rfl rfl λU U U=>VJ λU U U=>rfl
  f_parse_one_line_basic_str:=Dg (d:=dOf "parse_one_line_basic_str" 19) rfl T K (j:=3) (by kernel_rfl) rfl rfl rfl rfl λU U U=>UX λU U=>rfl
  f_law_answer:=Dg (d:=dOf "_law_answer" 33) rfl T K (j:=15) (by kernel_rfl) rfl rfl rfl rfl λU U U=>UX λU U=>rfl
  f_law_told:=Dg (d:=dOf "_law_told" 32) rfl T K (j:=14) (by kernel_rfl) rfl rfl rfl rfl λU U U=>Qy λU U U=>rfl
  f_law_sign:=Dg (d:=dOf "_law_sign" 30) rfl T K (j:=12) (by kernel_rfl) rfl rfl rfl rfl λU U U=>S5 λU=>rfl
  f_law_control:=Dg (d:=dOf "_law_control" 29) rfl T K (j:=11) (by kernel_rfl) rfl rfl rfl rfl λU U U=>S5 λU=>rfl
  f_law_step:=Dg (d:=dOf "_law_step" 31) rfl T K (j:=13) (by kernel_rfl) rfl rfl rfl rfl λU U U=>Qy λU U U=>rfl
  s_ILLEGAL_BASIC_STR_CHARS:=⟨72,Y.n0,rfl⟩
  s_ILLEGAL_LITERAL_STR_CHARS:=⟨72,Y.n1,rfl⟩
  s_ILLEGAL_MULTILINE_BASIC_STR_CHARS:=⟨77,Y.n2,rfl⟩
  s_TOML_WS:=⟨78,Y.n3,rfl⟩
  s_TOML_WS_AND_NEWLINE:=⟨86,Y.n4,rfl⟩
  s_HEXDIGIT_CHARS:=⟨87,Y.n5,rfl⟩
  mp:=Y.n6
  v_parse_basic_str_escape:=Y.n7
  v_parse_basic_str_escape_multiline:=?_
  c_parse_basic_str_escape:=?_
  suf:=?_
  tabPos:=rfl }
 ·obtain ⟨a,pm,cd,doc,e1,F⟩:=T8 (W:={ H:=Km w mg mb C P,h₀:=ghostOf h [(c,P)],gens:=#[],os:=os }) (d:=dOf "parse_basic_str_escape_multiline" 21) (fi:={ scope:=A1 (nth 21),body:=A0 (nth 21),params:=[],sc:=[] }) T K (j:=4) (by kernel_rfl) rfl rfl
  have e1:mg "parse_basic_str_escape_multiline" = some (.ref a):=e1
  show mg "parse_basic_str_escape_multiline" = some (.ref (if (1:Nat)=0 then 135 else match mg "parse_basic_str_escape_multiline" with | some (.ref a)=>a | _=>0))
  rw [e1];rfl
 ·obtain ⟨o,fd,d,m,h1,h2,h3,h4,h5,h6,h7,h8,h9,h10,h11,h12,h13,c',oc,vs,t,c1,c2,c3,c4,c5⟩:=Y.esc.keeps K
  refine ⟨fd,⟨⟨o,h1,h2⟩,h6,h5,h8,h7,h10,by rw [h3];exact ⟨c',oc,vs,t,c1,c2,c4,c5⟩⟩,rfl,λs ws ks k q1 q2=>?_⟩
  obtain ⟨nm,qn,pr,bd,sc,gl,clo,df,kd,dc,pm,an,co,ct,bu⟩:=fd
  dsimp only at h3 h4 h5 h6 h7 h8 h9 h10 h11 c1
  subst h3 h4 h5 h6 h7 h8 h9 h10 h11 c1
  obtain ⟨x,r1,rfl,p1⟩:=D9 (n:=1) q1
  obtain ⟨y,r2,rfl,p2⟩:=D9 (n:=0) p1
  cases eq_nil_of_length_eq_zero p2
  cases eq_nil_of_length_eq_zero q2
  exact Qz (x:="multiline") (h12.keeps k) h13 rfl rfl
 ·obtain ⟨a,pm,doc,e1,F⟩:=hs
  obtain ⟨X,_⟩:=hT _ (.head _)
  refine ⟨a,_,c,e1,F,⟨rfl,λs ws ks U q1 q2=>.of_eq ((Qy (ps:=Bt.params) λU U U=>rfl:Hc (docDef (dOf "suffixed_err" 25).name (dOf "suffixed_err" 25).params (dOf "suffixed_err" 25).body (dOf "suffixed_err" 25).scope pm (.ref c) doc) Bt.params 3 []) ws ks q1 q2)⟩,rfl,?_,rfl⟩
  exact (ghost_code hT).1
theorem M0 {W:Wd}{h:Heap}{a:Addr}{o:Obj}{fd:FuncData}{fi:Fi}(K:∀ b o,h.get? b=some o->o≠tabObj #[]->W.h₀.get? b=some o)(e2:h.get? a=some o)(e3:o.data = .func fd)(h1:fd.scope=fi.scope)(h2:fd.body = .stmts fi.body)(h3:fd.closure=[])
  (h4:fd.globals=mainGlobals) (h5:fd.builtins=builtinsNs) (e4:h.CodeRec fd.code fd.qualname):FnAt W.h₀ a fd fi:=by
 obtain ⟨c,oc,vs,t,f1,f2,f3,f4⟩:=e4
 refine ⟨⟨o,K _ _ e2 (λz=>by rw [z] at e3;cases e3),e3⟩,h1,h2,h3,h4,h5,⟨c,oc,vs,t,f1,K _ _ f2 λz=>?_,f3,f4⟩⟩
 rw [z] at f3
 cases f3
 simp at f4
theorem Tc {cw:ClaimW}{cl:Str->Option Addr}{mean:ExcName->Option Value}{args:List WData}{c0 s':Shared}{H:Hd}{c P:Addr}(hT:TabsAt [(c,P)] c0.heap)(hr:∀ cls,cw.raises args cls=false)(hp:cw.post args (.bool true) args=true)
  (hb:∀ b o,(ghostOf c0.heap [(c,P)]).get? b=some o->s'.heap.get? b=some o) (hP:Cr H s'.heap P) (hg:s'.gens = #[]) (hos:s'.os=c0.os):GoodWG cw cl mean args c0 (.ok (.ret (.bool true))) s':=by
 obtain ⟨ps,eP,_⟩:=hP
 have tP:=(hT _ (.head _)).2
 have keep:∀ b o,b≠P->c0.heap.get? b=some o->s'.heap.get? b=some o:=λb o n e=>hb b o (ghost_ne e (λm=>n (mem_singleton.mp m)))
 refine ⟨.inl ⟨_,.bool true,[],rfl,hr,.bool true,hp,λU=>⟨nodup_nil,λa m=>(by cases m)⟩⟩,⟨λb o e=>?_,λb o e=>?_⟩,hos,by rw [hg];exact .of_eq rfl⟩
 ·by_cases q:b=P
  ·subst q
   have e':c0.heap.get? b=some (tabObj #[]):=tP
   rw [e] at e'
   cases e'
   exact .inr (.inl ⟨((hT _ (.head _)).1.tab tP).isCodeTable,rfl,#[],ps,rfl,by rw [Array.empty_append];exact eP⟩)
  ·exact .inl (keep b o q e)
 ·by_cases q:b=P
  ·exact ⟨_,by rw [q];exact eP⟩
  ·exact ⟨o,keep b o q e⟩
theorem Ox (R:WRecords)(x:WCtx):(WShape.has R (.bool true) .bool&&(WTm.eq .res (.lit (.bool true))).holds R { x with res:=some (.bool true) })=true:=
 and_eq_true_iff.mpr ⟨rfl,holdsW_of_value (w_eq_bool (k:=true) (l:=true) rfl rfl)⟩
theorem U2 (plain:MZ):Mh.Qr q07 Bq (λU U=>True) S8 rw_kp0046_07.row.toRowW (dOf "law" 34) [] λf vs=>PySem.call f vs:=by
 intro w W2 c0 mg mb G Y a o pm cd doc dV kV ho hd hcd hdf hmg hgens args vals as hpre hlay hrd hwell hsys
 obtain ⟨m,Y⟩:=Y
 obtain rfl:m=mg:=Y.ns.eq_nsMap.trans G.T.g.eq_nsMap.symm
 obtain ⟨p1,p2⟩:=pre_splitW hpre
 obtain ⟨L,vs,l,rfl,rfl,hL,hI⟩:=Ow p1 hrd
 have hlen:l.length<=63:=Ta p2
 obtain ⟨K,ps',res⟩:=plain l hlen
 have hmem:dOf "suffixed_err" 25∈recsOf q07:=mem_of_getElem? (i:=8) (by kernel_rfl)
 obtain ⟨as,oS,fdS,c,P,t1,t2,t3,t4,t5,t6⟩:=G.T.tab _ hmem
 obtain ⟨a',o',pm',cd',doc',e1,e2,e3,e4⟩:=G.T.fn _ hmem
 rw [t1] at e1;cases e1
 rw [t2] at e2;cases e2
 rw [t3] at e3;cases e3
 have t4:cd' = .ref c:=t4
 subst t4
 have hT:TabsAt [(c,P)] c0.heap:=λq hq=>by
  obtain rfl:=mem_singleton.mp hq
  exact ⟨CodeHd.of t5 t6,t6.2⟩
 have K':∀ b o,c0.heap.get? b=some o->o≠tabObj #[]->(ghostOf c0.heap [(c,P)]).get? b=some o:=λb o e n=>ghost_get hT e n
 have Yg:=Y.keeps K'
 obtain ⟨C,k1,k2⟩:=Yg.cls
 have At:(Km w m mb C P).At (ghostOf c0.heap [(c,P)]):=VN hT G.T rfl rfl U1 k1 k2 Y.sys Yg.sets Yg.mp
 have Mo:Mod { H:=Km w m mb C P,h₀:=ghostOf c0.heap [(c,P)],gens:=#[],os:=c0.os }:=
  VO G.T hT Y ⟨as,pm',doc',t1,M0 (W:={ H:=Km w m mb C P,h₀:=ghostOf c0.heap [(c,P)],gens:=#[],os:=c0.os }) K' t2 t3 rfl rfl rfl rfl rfl e4⟩
 obtain ⟨d1,d2⟩:=hdf
 have dN:dV = .none:=by
  rcases d1 with q | q
  ·exact q.2
  ·exact absurd rfl q.1
 have kN:kV = .none:=by
  rcases d2 with q | q
  ·exact q.2
  ·exact absurd rfl q.1
 subst dN kN
 have F:=M0 (W:={ H:=Km w m mb C P,h₀:=ghostOf c0.heap [(c,P)],gens:=#[],os:=c0.os }) (fi:=Hb) K' ho hd rfl rfl rfl rfl rfl hcd
 refine aW (Qs (W:={ H:=Km w m mb C P,h₀:=ghostOf c0.heap [(c,P)],gens:=#[],os:=c0.os }) (P:=P) (n:=7) (l:=[.ints l]) (vs:=[.ref L]) (λb o e=>of_hideAll _ e) hgens rfl At ⟨#[],t6.2,.inl rfl⟩ (hideAll_none _ (mem_singleton.mpr rfl)) rfl F UP (.of_eq rfl) rfl
  (.cons (.ints (ghost_list hT hL) hI) .nil) (by decide) (λfm' hs he hh=>VF K Mo hs he hh) res) (λv s' z=>?_) λe s' z=>z.elim
 obtain ⟨⟨av,V,r⟩,z1,z2,z3,z4⟩:=z
 cases r
 exact ⟨Tc (H:=Km w m mb C P) hT (λU=>rfl) (Ox [] { args:=[.list (l.map .int)],after:=[.list (l.map .int)] }) z1 z2 z3 z4,z3⟩
theorem holds07 (plain:MZ):rw_kp0046_07.Holds:=by
 refine holds_law (by kernel_rfl) λhw=>?_
 exact Mh.LU (q:=q07) (loose:=Bq) (g:=g07) (Mh.KY "comprehension-iter-twice" "special-get-raises" λb1 b2 w=>Mh.Uu (by kernel_rfl) (λs=>rfl) (by kernel_rfl) (VM b1 b2 w)) S9 L1 (d:=dOf "law" 34) (kwd:=[]) (by kernel_rfl) (by kernel_rfl) (by kernel_rfl) rfl rfl hw (by kernel_rfl) ⟨rfl,rfl,rfl,rfl,rfl,by kernel_rfl⟩ (RowW.promised_of_found (by kernel_rfl)) (U2 plain)
end Mi
end
section
open PySem PySem.W
set_option maxRecDepth 10000
namespace Mi
def Kx:Nat:=Classical.choose (show ∃ K,100000<K from ⟨100001,by decide⟩)
theorem Kx_big:100000<Kx:=Classical.choose_spec (show ∃ K,100000<K from ⟨100001,by decide⟩)
def wp {V:Type}(m:M V)(s:PS)(Q:V->PS->Prop)(E:PX->PS->Prop):Prop:=match m s with
 | .ok a s'=>Q a s'
 | .ex e s'=>E e s'
 | .stuck=>False
section
variable {V β:Type}{s:PS}{loc:Nat->Option PV}{st:List (List PV)}
nonrec theorem wp_mono {m:M V}{Q Q':V->PS->Prop}{E E':PX->PS->Prop}(h:wp m s Q E)(hq:∀ a s',Q a s'->Q' a s')(he:∀ e s',E e s'->E' e s'):wp m s Q' E':=by
 unfold wp at h ⊢
 cases q:m s with
 | ok a s'=>rw [q] at h;exact hq _ _ h
 | ex e s'=>rw [q] at h;exact he _ _ h
 | stuck=>rw [q] at h;exact h
nonrec theorem wp_bind {m:M V}{f:V->M β}{Q:β->PS->Prop}{E:PX->PS->Prop}:wp (ac m f) s Q E=wp m s (λa s'=>wp (f a) s' Q E) E:=by
 unfold wp ac
 cases m s <;> rfl
theorem I7 {a:V}{Q:V->PS->Prop}{E:PX->PS->Prop}:wp (ae a) s Q E=Q a s:=rfl
def upd (loc:Nat->Option PV)(i:Nat)(v:PV):Nat->Option PV:=λj=>if j=i then some v else loc j
def loc0 (l:List PV):Nat->Option PV:=λi=>l[i]?
theorem upd_eq {i:Nat}{v:PV}:upd loc i v i=some v:=by simp [upd]
theorem DL {i j:Nat}{v:PV}(h:(j==i)=false):upd loc i v j=loc j:=by simp at h;simp [upd,h]
theorem M1 {i:Nat}{Q:PV->PS->Prop}{E:PX->PS->Prop}:wp (af i) ⟨loc,st⟩ Q E=match loc i with | some v=>Q v ⟨loc,st⟩ | none=>False:=by
 unfold wp af
 dsimp only
 cases loc i <;> rfl
theorem Az {c:Bool}{m:M V}{Q:V->PS->Prop}{E:PX->PS->Prop}:wp (am c m) s Q E=(c=true/\wp m s Q E):=by
 unfold wp am
 cases c <;> simp
theorem L4 {o:Option V}{Q:V->PS->Prop}{E:PX->PS->Prop}:wp (aw o) s Q E=match o with | some a=>Q a s | none=>False:=by
 unfold wp aw
 cases o <;> rfl
theorem ED {t:Txt}{Q:PV->PS->Prop}{E:PX->PS->Prop}:wp (au t) s Q E=(t.length<=big/\Q (.str t) s):=by
 unfold wp au
 by_cases h:t.length<=big <;> simp [h]
theorem Ig {l:List PV}{Q:PV->PS->Prop}{E:PX->PS->Prop}:wp (ao l) ⟨loc,st⟩ Q E=(l.length<=big/\Q (.lst st.length) ⟨loc,st++[l]⟩):=by
 unfold wp ao
 by_cases h:l.length<=big <;> simp [h]
theorem Cg {i:Nat}{Q:List PV->PS->Prop}{E:PX->PS->Prop}:wp (ar i) ⟨loc,st⟩ Q E=match st[i]? with | some l=>Q l ⟨loc,st⟩ | none=>False:=by
 unfold wp ar
 dsimp only
 cases st[i]? <;> rfl
theorem Ko {b:Bool}{Q:Bool->PS->Prop}{E:PX->PS->Prop}:wp (tst (.bool b)) s Q E=Q b s:=rfl
theorem Kp {m r:M PFlow}{Q:PFlow->PS->Prop}{E:PX->PS->Prop}:wp (aj m r) s Q E=wp m s (λf s'=>match f with | .next=>wp r s' Q E | .brk=>Q .brk s' | .cont=>Q .cont s' | .ret v=>Q (.ret v) s') E:=by
 unfold aj
 rw [wp_bind]
 congr 1
 funext f s'
 cases f <;> rfl
theorem Td {m:M PFlow}{l:List PV}{Q:PV->PS->Prop}{E:PX->PS->Prop}:wp (ak m l) ⟨loc,st⟩ Q E=wp m ⟨loc0 l,st⟩ (λf s'=>Q (Pp f) ⟨loc,s'.st⟩) (λe s'=>E e ⟨loc,s'.st⟩):=by
 unfold wp ak loc0
 dsimp only
 cases m ⟨λi=>l[i]?,st⟩ <;> rfl
theorem QI {m:M Txt}{l:List PV}{Q:Txt->PS->Prop}{E:PX->PS->Prop}:wp (aA m l) ⟨loc,st⟩ Q E=wp m ⟨loc0 l,st⟩ (λt s'=>Q t ⟨loc,s'.st⟩) (λe s'=>E e ⟨loc,s'.st⟩):=by
 unfold wp aA loc0
 dsimp only
 cases m ⟨λi=>l[i]?,st⟩ <;> rfl
theorem DM {X:PX->Option (M PFlow)}{m:M PFlow}{Q:PFlow->PS->Prop}{E:PX->PS->Prop}:wp (aD X m) s Q E=wp m s Q (λe s'=>match X e with | some h=>wp h s' Q E | none=>False):=by
 unfold wp aD
 cases m s with
 | ok a s'=>rfl
 | stuck=>rfl
 | ex e s'=>
  dsimp only
  cases X e <;> rfl
theorem Te {m:M PFlow}{Q:PFlow->PS->Prop}{E:PX->PS->Prop}:wp (aJ m) s Q E=wp m s Q (λU U=>False):=by
 unfold wp aJ
 cases m s <;> rfl
theorem Kq {m:M PV}{r:List (M PV)}{Q:List PV->PS->Prop}{E:PX->PS->Prop}:wp (ag (m::r)) s Q E=wp m s (λv s'=>wp (ag r) s' (λvs s''=>Q (v::vs) s'') E) E:=by
 show wp (ac m λv=>ac (ag r) λvs=>ae (v::vs)) s Q E=_
 rw [wp_bind]
 congr 1
 funext v s'
 rw [wp_bind]
 rfl
theorem Cw {op:BoolOp}{Q:Bool->PS->Prop}{E:PX->PS->Prop}:wp (AM op []) s Q E=Q (op==.And) s:=rfl
theorem Ku {m:M Bool}{r:List (M Bool)}{Q:Bool->PS->Prop}{E:PX->PS->Prop}:wp (AM .And (m::r)) s Q E=wp m s (λb s'=>if b=true then wp (AM .And r) s' Q E else Q false s') E:=by
 show wp (ac m λb=>if GK .And b then ae b else AM .And r) s Q E=_
 rw [wp_bind]
 congr 1
 funext b s'
 cases b <;> rfl
theorem L5 {m:M Bool}{r:List (M Bool)}{Q:Bool->PS->Prop}{E:PX->PS->Prop}:wp (AM .Or (m::r)) s Q E=wp m s (λb s'=>if b=true then Q true s' else wp (AM .Or r) s' Q E) E:=by
 show wp (ac m λb=>if GK .Or b then ae b else AM .Or r) s Q E=_
 rw [wp_bind]
 congr 1
 funext b s'
 cases b <;> rfl
theorem QJ {m:M PV}{Q:Option Int->PS->Prop}{E:PX->PS->Prop}:wp (Ba (some m)) s Q E=wp m s (λv s'=>match v with | .int i=>Q (some i) s' | _=>False) E:=by
 show wp (ac m λv=>match v with | .int i=>ae (some i) | _=>aq) s Q E=_
 rw [wp_bind]
 congr 1
 funext v s'
 cases v <;> rfl
variable {a b:Int}{x y:Txt}{Q:PV->PS->Prop}{E:PX->PS->Prop}
theorem Tf:wp (Ai .Add (.str x) (.str y)) s Q E=((x++y).length<=big/\Q (.str (x++y)) s):=ED
theorem Tg:wp (Ai .Mult (.int a) (.int b)) s Q E=((Ag a||Ag b)=true/\Q (.int (a*b)) s):=Az
theorem Th:wp (Ai .FloorDiv (.int a) (.int b)) s Q E=((b != 0&&Ag b)=true/\Q (.int (a.fdiv b)) s):=Az
theorem Ti:wp (Ai .Mod (.int a) (.int b)) s Q E=((b != 0&&Ag b)=true/\Q (.int (a.fmod b)) s):=Az
theorem QK:wp (Do .Add (.str x) (.str y)) s Q E=((x++y).length<=big/\Q (.str (x++y)) s):=ED
theorem Kv:wp (Au false (.str x) (.int a)) s Q E=(Ag a=true/\match idx a x.length with | some j=>Q (.str [x.getD j 0]) s | none=>E (.std "IndexError") s):=by
 show wp (am (Ag a) _) s Q E=_
 rw [Az]
 congr 1
 cases idx a x.length <;> rfl
theorem Oy {i j:Option Int}:wp (Bj i j (.str x)) s Q E=((slc x i j).length<=big/\Q (.str (slc x i j)) s):=ED
theorem Tj:wp (A7 [.str x]) s Q E=(decide (x.length<=big)=true/\Q (.int x.length) s):=Az
theorem U3:wp (D6 [.int a]) s Q E=((0<=a&&a<=1114111)=true/\Q (.str [a.toNat]) s):=Az
theorem Tk:wp (Po [.int a]) s Q E=(Ag a=true/\Q (.str (BM a)) s):=Az
end
section
variable {V β:Type}{s:PS}{loc:Nat->Option PV}{st:List (List PV)}{a b:Int}{x y:Txt}{Q:PV->PS->Prop}{E:PX->PS->Prop}{QL:List PV->PS->Prop}{QA:V->PS->Prop}{QO:Option Int->PS->Prop}{QB:Bool->PS->Prop}
abbrev Kt (f:V->M β)(Q:β->PS->Prop)(E:PX->PS->Prop)(a:V)(s:PS):Prop:=wp (f a) s Q E
nonrec theorem KtI {f:V->M β}{a:V}{Q:β->PS->Prop}(h:wp (f a) s Q E):Kt f Q E a s:=h
nonrec theorem wpB {m:M V}{f:V->M β}{Q:β->PS->Prop}(h:wp m s (Kt f Q E) E):wp (ac m f) s Q E:=wp_bind▸h
nonrec theorem wpR {a:V}(h:QA a s):wp (ae a) s QA E:=h
nonrec theorem wpG {i:Nat}{v:PV}(g:loc i=some v)(h:Q v ⟨loc,st⟩):wp (af i) ⟨loc,st⟩ Q E:=by rw [M1,g];exact h
nonrec theorem wpSet {i:Nat}{v:PV}{Q:Unit->PS->Prop}(h:Q () ⟨upd loc i v,st⟩):wp (ah i v) ⟨loc,st⟩ Q E:=h
nonrec theorem wpO {c:Bool}{m:M V}(hc:c=true)(h:wp m s QA E):wp (am c m) s QA E:=by rw [Az];exact ⟨hc,h⟩
nonrec theorem wpSN (h:QL [] s):wp (ag []) s QL E:=h
abbrev Kc (Q:List PV->PS->Prop)(v:PV)(l:List PV)(s:PS):Prop:=Q (v::l) s
abbrev Ks (r:List (M PV))(Q:List PV->PS->Prop)(E:PX->PS->Prop)(v:PV)(s:PS):Prop:=wp (ag r) s (Kc Q v) E
nonrec theorem wpSC {m:M PV}{r:List (M PV)}(h:wp m s (Ks r QL E) E):wp (ag (m::r)) s QL E:=Kq▸h
nonrec theorem wpTb {c:Bool}(h:QB c s):wp (tst (.bool c)) s QB E:=h
nonrec theorem wpPN (h:QO none s):wp (Ba none) s QO E:=h
nonrec theorem wpPI {m:M PV}(h:wp m s (λv s'=>∃ i,v = .int i/\QO (some i) s') E):wp (Ba (some m)) s QO E:=by
 rw [QJ]
 refine wp_mono h (λv s' z=>?_) λU U z=>z
 obtain ⟨i,rfl,z⟩:=z
 exact z
nonrec theorem wpAI (h:Q (.int (a+b)) s):wp (Ai .Add (.int a) (.int b)) s Q E:=h
nonrec theorem wpSI (h:Q (.int (a - b)) s):wp (Ai .Sub (.int a) (.int b)) s Q E:=h
nonrec theorem wpAS (l:(x++y).length<=big)(h:Q (.str (x++y)) s):wp (Ai .Add (.str x) (.str y)) s Q E:=by rw [Tf];exact ⟨l,h⟩
theorem Tl (c:(Ag a||Ag b)=true)(h:Q (.int (a*b)) s):wp (Ai .Mult (.int a) (.int b)) s Q E:=by rw [Tg];exact ⟨c,h⟩
nonrec theorem wpDI (c:(b != 0&&Ag b)=true)(h:Q (.int (a.fdiv b)) s):wp (Ai .FloorDiv (.int a) (.int b)) s Q E:=by rw [Th];exact ⟨c,h⟩
nonrec theorem wpModI (c:(b != 0&&Ag b)=true)(h:Q (.int (a.fmod b)) s):wp (Ai .Mod (.int a) (.int b)) s Q E:=by rw [Ti];exact ⟨c,h⟩
nonrec theorem wpgAI (h:Q (.int (a+b)) s):wp (Do .Add (.int a) (.int b)) s Q E:=h
nonrec theorem wpgAS (l:(x++y).length<=big)(h:Q (.str (x++y)) s):wp (Do .Add (.str x) (.str y)) s Q E:=by rw [QK];exact ⟨l,h⟩
nonrec theorem wpEqI (h:Q (.bool (a==b)) s):wp (Ao .Eq (.int a) (.int b)) s Q E:=h
nonrec theorem wpEqS (h:Q (.bool (x==y)) s):wp (Ao .Eq (.str x) (.str y)) s Q E:=h
nonrec theorem wpNeI (h:Q (.bool (!(a==b))) s):wp (Ao .NotEq (.int a) (.int b)) s Q E:=h
nonrec theorem wpLtI (h:Q (.bool (decide (a<b))) s):wp (Ao .Lt (.int a) (.int b)) s Q E:=h
nonrec theorem wpLeI (h:Q (.bool (decide (a<=b))) s):wp (Ao .LtE (.int a) (.int b)) s Q E:=h
nonrec theorem wpGtI (h:Q (.bool (decide (a>b))) s):wp (Ao .Gt (.int a) (.int b)) s Q E:=h
nonrec theorem wpGeI (h:Q (.bool (decide (a≥b))) s):wp (Ao .GtE (.int a) (.int b)) s Q E:=h
nonrec theorem wpInSS (h:Q (.bool (GA x y)) s):wp (Ao .In (.str x) (.str y)) s Q E:=h
nonrec theorem wpInF {k:Nat}(h:Q (.bool (JB k x)) s):wp (Ao .In (.str x) (.fset k)) s Q E:=h
theorem HK {j:Nat}(c:Ag a=true)(e:idx a x.length=some j)(h:Q (.str [x.getD j 0]) s):wp (Au false (.str x) (.int a)) s Q E:=by rw [Kv,e];exact ⟨c,h⟩
theorem He {i j:Option Int}{t:Txt}(e:slc x i j=t)(l:t.length<=big)(h:Q (.str t) s):wp (Bj i j (.str x)) s Q E:=by subst e;rw [Oy];exact ⟨l,h⟩
nonrec theorem wpLS (l:x.length<=big)(h:Q (.int x.length) s):wp (A7 [.str x]) s Q E:=by rw [Tj];exact ⟨decide_eq_true l,h⟩
nonrec theorem wpOrd {c:Nat}(h:Q (.int c) s):wp (Ux [.str [c]]) s Q E:=h
theorem FZ (c:(0<=a&&a<=1114111)=true)(h:Q (.str [a.toNat]) s):wp (D6 [.int a]) s Q E:=by rw [U3];exact ⟨c,h⟩
nonrec theorem wpStr (c:Ag a=true)(h:Q (.str (BM a)) s):wp (Po [.int a]) s Q E:=by rw [Tk];exact ⟨c,h⟩
nonrec theorem wpNeg (h:Q (.int (-a)) s):wp (UG (.int a)) s Q E:=h
nonrec theorem wpNL {l:List PV}(c:l.length<=big)(h:Q (.lst st.length) ⟨loc,st++[l]⟩):wp (ao l) ⟨loc,st⟩ Q E:=by rw [Ig];exact ⟨c,h⟩
nonrec theorem wpTup {l:List PV}(c:l.length<=big)(h:Q (.tup l) s):wp (EM l) s Q E:=by
 show wp (am _ _) s Q E
 rw [Az];exact ⟨decide_eq_true c,h⟩
def Kn (r:M PFlow)(Q:PFlow->PS->Prop)(E:PX->PS->Prop)(f:PFlow)(s:PS):Prop:=match f with
 | .next=>wp r s Q E
 | .brk=>Q .brk s
 | .cont=>Q .cont s
 | .ret v=>Q (.ret v) s
nonrec theorem KnI {r:M PFlow}{Q:PFlow->PS->Prop}(h:wp r s Q E):Kn r Q E .next s:=h
theorem AV {m r:M PFlow}{Q:PFlow->PS->Prop}(h:wp m s (Kn r Q E) E):wp (aj m r) s Q E:=by
 rw [Kp]
 refine wp_mono h (λf s' z=>?_) λU U z=>z
 cases f <;> exact z
nonrec theorem wpN {m r:M PFlow}{Q:PFlow->PS->Prop}(P:PS->Prop)(h1:wp m s (λf s'=>f = .next/\P s') λU U=>False)(h2:∀ s',P s'->wp r s' Q E):wp (aj m r) s Q E:=by
 rw [Kp]
 refine wp_mono h1 (λf s' z=>?_) λU U z=>z.elim
 obtain ⟨rfl,z⟩:=z
 exact h2 s' z
end
abbrev Tb:=List (Option PV)
def Loc (t:Tb)(L:Nat->Option PV):Prop:=∀ i v,t[i]? = some (some v)->L i=some v
inductive At (st:List (List PV))(t:Tb)(s:PS):Prop
 | mk (L:Nat->Option PV) (e:s=⟨L,st⟩) (h:Loc t L):At st t s
section
variable {V β:Type}{s:PS}{loc:Nat->Option PV}{st:List (List PV)}{t:Tb}{Q:PV->PS->Prop}{E:PX->PS->Prop}
set_option tactic.hygienic true in
theorem Loc.set (h:Loc t loc)(i:Nat)(v:PV):Loc (t.set i (some v)) (upd loc i v):=λj w e=>by
 by_cases q:i=j
 ·subst q
  rw [List.getElem?_set] at e
  split at e
  ·split at e
   ·cases e;exact upd_eq
   ·cases e
  ·rename_i n;exact absurd rfl n
 ·rw [List.getElem?_set_ne q] at e
  rw [DL (beq_eq_false_iff_ne.mpr λz=>q z.symm)];exact h j w e
set_option tactic.hygienic true in
theorem Loc.drop (h:Loc t loc)(i:Nat):Loc (t.set i none) loc:=λj w e=>by
 by_cases q:i=j
 ·subst q
  rw [List.getElem?_set] at e
  split at e
  ·split at e <;> cases e
  ·rename_i n;exact absurd rfl n
 ·rw [List.getElem?_set_ne q] at e;exact h j w e
theorem Loc.init (l:List PV)(n:Nat):Loc (l.map some++replicate n none) (loc0 l):=λi v e=>by
 unfold loc0
 by_cases q:i<l.length
 ·rw [getElem?_append_left (by simpa using q),getElem?_map] at e
  cases z:l[i]? with
  | none=>rw [z] at e;cases e
  | some w=>rw [z] at e;cases e;rfl
 ·rw [getElem?_append_right (by simpa using Nat.le_of_not_lt q),List.getElem?_replicate] at e
  split at e <;> cases e
nonrec theorem wpL {i:Nat}{v:PV}(h:Loc t loc)(e:t[i]? = some (some v))(k:Q v ⟨loc,st⟩):wp (af i) ⟨loc,st⟩ Q E:=wpG (h i v e) k
abbrev Kr (loc:Nat->Option PV)(Q:PV->PS->Prop)(f:PFlow)(s:PS):Prop:=Q (Pp f) ⟨loc,s.st⟩
abbrev Ke (loc:Nat->Option PV)(E:PX->PS->Prop)(e:PX)(s:PS):Prop:=E e ⟨loc,s.st⟩
theorem Br {m:M PFlow}{l:List PV}(n:Nat)(h:∀ L,Loc (l.map some++replicate n none) L->wp m ⟨L,st⟩ (Kr loc Q) (Ke loc E)):wp (ak m l) ⟨loc,st⟩ Q E:=by
 rw [Td];exact h _ (Loc.init l n)
end
nonrec theorem wpA {m r:M PFlow}{s:PS}{Q:PFlow->PS->Prop}{E:PX->PS->Prop}(st:List (List PV))(t:Tb)(h1:wp m s (λf s'=>f = .next/\At st t s') λU U=>False)(h2:∀ L,Loc t L->wp r ⟨L,st⟩ Q E):wp (aj m r) s Q E:=
 wpN (At st t) h1 λU a=>by
  obtain ⟨L,e,B⟩:=a
  exact e▸h2 L B
theorem BY {x y:Txt}{a b:Nat}(hx:x.length<=a)(hy:y.length<=b)(h:a+b<=big):(x++y).length<=big:=by
 rw [length_append];exact aQ (Nat.add_le_add hx hy) h
theorem BL {x y:Txt}{a b:Nat}(hx:x.length<=a)(hy:y.length<=b):(x++y).length<=a+b:=by
 rw [length_append];exact Nat.add_le_add hx hy
theorem fuel {n k f:Nat}(h:n - k<f+1)(lt:k<n):n - (k+1)<f:=by exact la [_,_,_,_,_] [([2,3,0],[4,3,0]),([6,8,3,0,0],[10]),([10],[2,8,0])] ([6,3,0],[4]) rfl h (Mi.lcC (la [_,_] [([2,3,0],[4])] ([2,3,0],[4]) rfl lt)) (Mi.lcS _ _)
theorem Ua {n f p q:Nat}(h:n<f+1+p)(l:p<q):n<f+q:=by exact la [_,_,_,_] [([2,3,0],[4,3,0,6,0]),([6,3,0],[8])] ([2,3,0],[4,8,0]) rfl h l
theorem An {n:Nat}(h:n<=1000000):n<=big:=aQ h (by decide)
theorem isZ {a b:Nat}:((a:Int)==(b:Int))=decide (a=b):=by
 by_cases q:a=b
 ·subst q;simp
 ·rw [decide_eq_false q];exact aX.mpr λz=>q (Int.ofNat.inj z)
theorem Al {V:Type}{t:M Bool}{s:PS}{c:Bool}{m r:M V}{Q:V->PS->Prop}{E:PX->PS->Prop}(h:wp t s (λb s'=>b=c/\s'=s) λU U=>False)(h1:c=true->wp m s Q E)(h2:c=false->wp r s Q E):wp (ac t λb=>if b then m else r) s Q E:=by
 refine wpB (wp_mono h (λb s' z=>?_) λU U z=>z.elim)
 obtain ⟨rfl,rfl⟩:=z
 cases b
 ·exact h2 rfl
 ·exact h1 rfl
end Mi
end
section
open PySem PySem.W
set_option maxRecDepth 10000
set_option maxHeartbeats 1000000
namespace Mi
def plainB (c:Nat):Bool:=c != 127&&(c==9||decide (32<=c))
theorem Tm {m:M PV}{r:List (M PV)}{s:PS}{Q:PV->PS->Prop}{E:PX->PS->Prop}(h:r≠[]):wp (BK .And (m::r)) s Q E=wp m s (λv s'=>match truP v with | some true=>wp (BK .And r) s' Q E | some false=>Q v s' | none=>False) E:=by
 match r,h with
 | m'::r',_=>
  show wp (ac m λv=>ac (tst v) λb=>if GK .And b then ae v else BK .And (m'::r')) s Q E=_
  rw [wp_bind]
  congr 1
  funext v s'
  rw [wp_bind]
  unfold tst
  rw [L4]
  cases truP v with
  | none=>rfl
  | some b=>cases b <;> rfl
theorem U4 {m:M PV}{r:List (M PV)}{s:PS}{Q:PV->PS->Prop}{E:PX->PS->Prop}(h:r≠[]):wp (BK .Or (m::r)) s Q E=wp m s (λv s'=>match truP v with | some true=>Q v s' | some false=>wp (BK .Or r) s' Q E | none=>False) E:=by
 match r,h with
 | m'::r',_=>
  show wp (ac m λv=>ac (tst v) λb=>if GK .Or b then ae v else BK .Or (m'::r')) s Q E=_
  rw [wp_bind]
  congr 1
  funext v s'
  rw [wp_bind]
  unfold tst
  rw [L4]
  cases truP v with
  | none=>rfl
  | some b=>cases b <;> rfl
inductive UnitOf (c:Nat):Txt->Prop
 | raw:plainB c=true->c≠34->c≠92->UnitOf c [c]
 | short {d:Nat}:escT [92,d]=some [c]->d≠117->d≠85->UnitOf c [92,d]
 | four {h:Txt}:h.length=4->h.all hexd=true->hexval h=c->UnitOf c (92::117::h)
 | eight {h:Txt}:h.length=8->h.all hexd=true->hexval h=c->UnitOf c (92::85::h)
theorem To {get:Nat->M (Option PV)}{t:PV->M Unit}{b:M PFlow}{Q:PFlow->PS->Prop}{E:PX->PS->Prop}(I:Nat->PS->Prop)(n:Nat)(p:Nat->PV)
  (hget:∀ k s,I k s->k<n->get k s = .ok (some (p k)) s) (hend:∀ s,I n s->get n s = .ok none s)
  (step:∀ k s,I k s->k<n->wp (t (p k)) s (λU s'=>wp b s' (λfl s''=>match fl with | .next=>I (k+1) s'' | .cont=>I (k+1) s'' | .brk=>Q .next s'' | .ret v=>Q (.ret v) s'') E) E)
  (fin:∀ s,I n s->Q .next s):∀ (f k:Nat) (s:PS),I k s->k<=n->n - k<f->wp (aG get t b f k) s Q E:=by
 intro f
 induction f with
 | zero=>exact λU U U U h=>absurd h (br _)
 | succ f ih=>
  intro k s i hk h
  show wp (ac (get k) λo=>match o with
   | none=>ae .next
   | some p=>ac (t p) λU=>ac b λfl=>match fl with
    | .next=>aG get t b f (k+1)
    | .cont=>aG get t b f (k+1)
    | .brk=>ae .next
    | .ret v=>ae (.ret v)) s Q E
  rw [wp_bind]
  by_cases q:k=n
  ·subst q
   unfold wp
   rw [hend s i]
   exact fin s i
  ·have lt:k<n:=Nat.lt_of_le_of_ne hk q
   unfold wp
   rw [hget k s i lt]
   show wp _ s Q E
   dsimp only
   rw [wp_bind]
   refine wp_mono (step k s i lt) (λU s' z=>?_) λU U z=>z
   rw [wp_bind]
   refine wp_mono z (λfl s'' z=>?_) λU U z=>z
   cases fl with
   | next=>exact ih (k+1) s'' z lt (fuel h lt)
   | cont=>exact ih (k+1) s'' z lt (fuel h lt)
   | brk=>exact z
   | ret v=>exact z
theorem I8 {n k:Nat}{s:PS}(h:k<n):BA 0 (n:Int) k s = .ok (some (.int k)) s:=by
 unfold BA ae
 rw [if_pos (by lia)]
 simp
theorem I9 {n:Nat}{s:PS}:BA 0 (n:Int) n s = .ok none s:=by
 unfold BA ae
 rw [if_neg (by lia)]
theorem Hf {n:Nat}{s:PS}{Q:(Nat->M (Option PV))->PS->Prop}{E:PX->PS->Prop}(h:n<1073741824):wp (Cc [.int n]) s Q E=Q (BA 0 n) s:=by
 show wp (am (Ag n) (ae (BA 0 n))) s Q E=_
 rw [Az]
 have:Ag (n:Int)=true:=by unfold Ag;simp;lia
 simp [this,I7]
local macro_rules | `(tactic| walk_at "wp") => do
 let a <- ("B SC SN R Set PN PI Tb AI SI AS gAS gAI gSI Neg EqI EqS NeI LtI LeI GtI GeI InSS InF Str LS NL Tup Ord".splitOn " ").toArray.mapM fun s=>`(Lean.Parser.Tactic.tacticSeq| apply $(Lean.mkIdent (.str `Mi ("wp"++s))))
 `(tactic| (repeat' first
  | (with_reducible first $[| $a]* | refine KnI ?_ | refine wpO rfl ?_ | refine ⟨_,rfl,?_⟩ | refine wpDI rfl ?_ | refine wpModI rfl ?_ | refine wpModI ?_ ?_)
  | refine wpL (by assumption) rfl ?_) <;> try with_reducible refine KtI ?_)
section
variable {V β:Type}{s S:PS}{E:PX->PS->Prop}
end
theorem AH {i:Int}(h:i.natAbs<1073741824):Ag i=true:=by unfold Ag;simpa using h
theorem Ea {i n:Nat}(h:i<n):idx (i:Int) n=some i:=by
 unfold idx
 rw [if_pos (by lia)]
 simp [h]
theorem DN (a b:Nat):Int.fmod (a:Int) (b:Int)=((a % b:Nat):Int):=by
 rw [Int.fmod_eq_emod_of_nonneg _ (by lia)];rfl
theorem Hg (a b:Nat):Int.fdiv (a:Int) (b:Int)=((a / b:Nat):Int):=by
 rw [Int.fdiv_eq_ediv_of_nonneg _ (by lia)];rfl
theorem Dh {n:Nat}(h:n<10 ^ 10):(BM (n:Int)).length<=10:=by
 have:(Nat.toDigits 10 n).length<=10:=(Nat.length_toDigits_le_iff (by decide) (by decide)).mpr h
 unfold BM
 rw [Str.ofString_eq_toList]
 show ((Nat.repr n).toList.map Char.toNat).length<=10
 rw [length_map]
 simpa [Nat.repr] using this
section
variable {s:PS}{x:Txt}{Q:PV->PS->Prop}{E:PX->PS->Prop}
theorem Tp:wp (D7 (.str x)) s Q E=(x.length<=big/\Q (.str x) s):=ED
theorem Tq {i:Int}:wp (D7 (.int i)) s Q E=(Ag i=true/\Q (.str (BM i)) s):=Az
theorem Tr:wp (GB (.str x)) s Q E=((A3 x).length<=big/\Q (.str (A3 x)) s):=ED
theorem Kw {acc:Txt}:wp (az [] acc) s Q E=(acc.length<=big/\Q (.str acc) s):=ED
theorem Ja {m:M PV}{r:List (M PV)}{acc:Txt}:wp (az (m::r) acc) s Q E=wp m s (λv s'=>match v with | .str t=>(acc++t).length<=big/\wp (az r (acc++t)) s' Q E | _=>False) E:=by
 show wp (ac m λv=>match v with
  | .str t=>am ((acc++t).length<=big) (az r (acc++t))
  | _=>aq) s Q E=_
 rw [wp_bind]
 congr 1
 funext v s'
 cases v <;> first | rfl | skip
 dsimp only
 rw [Az]
 simp
theorem QM {c:Nat}{b:Int}:wp (G3 (.str x) [.str [c],.int 0,.int b]) s Q E=(((0:Int)==0&&0<=b&&Ag b)=true/\Q (.int (posns c x (min b.toNat x.length)).length) s):=Az
theorem Oz {c:Nat}{b:Int}:wp (EZ (.str x) [.str [c],.int 0,.int b]) s Q E=(((0:Int)==0&&0<=b&&Ag b)=true/\match (posns c x (min b.toNat x.length)).getLast? with | some i=>Q (.int i) s | none=>False):=by
 show wp (am _ _) s Q E=_
 rw [Az]
 congr 1
 cases (posns c x (min b.toNat x.length)).getLast? <;> rfl
theorem QN {Q:Txt->PS->Prop}:wp (TY (.str x)) s Q E=Q x s:=rfl
end
def lineOf (x:Txt)(p:Nat):Nat:=1+(posns 10 x (min p x.length)).length
def Di (x:Txt)(p:Nat):Int:=match (posns 10 x (min p x.length)).getLast? with
 | none=>(p:Int)+1
 | some i=>(p:Int) - i
def VP:Txt:=[101,110,100,32,111,102,32,100,111,99,117,109,101,110,116]
def QP:Txt:=[108,105,110,101,32]
def Jb:Txt:=[44,32,99,111,108,117,109,110,32]
def C8 (x:Txt)(p:Nat):Txt:=if x.length<=p then VP else QP++BM (lineOf x p)++Jb++BM (Di x p)
def B7 (x:Txt)(p:Nat)(msg:Txt):Txt:=msg++[32,40,97,116,32]++C8 x p++[41]
theorem Ky {c:Nat}{x:Txt}{hi i:Nat}(h:i∈posns c x hi):i<hi:=by
 unfold posns at h
 simp at h
 exact h.1
theorem FF {c:Nat}{x:Txt}{hi:Nat}:(posns c x hi).length<=hi:=by
 unfold posns
 refine aQ (List.length_filter_le _ _) ?_
 simp
set_option tactic.hygienic true in
theorem Ih {x:Txt}{p:Nat}:∃ n:Nat,Di x p=n/\n<=p+1:=by
 unfold Di
 split
 ·exact ⟨p+1,by exact rfl,aR _⟩
 ·rename_i i e
  have:=Ky (List.mem_of_getLast? e)
  exact ⟨p - i,by lia,by exact la [_,_] [([2],[4])] ([2],[4,3,0]) rfl (Nat.sub_le _ _)⟩
theorem OA {x:Txt}{p:Nat}(hp:p<1000000000):(C8 x p).length<=40:=by
 unfold C8
 split
 ·decide
 ·obtain ⟨n,e,hn⟩:=Ih (x:=x) (p:=p)
  have h1:(BM (lineOf x p)).length<=10:=Dh (by
   have:=FF (c:=10) (x:=x) (hi:=min p x.length)
   unfold lineOf;lia)
  have h2:(BM (Di x p)).length<=10:=by rw [e];exact Dh (by lia)
  simp [QP,Jb]
  exact la [_,_] [([2],[21]),([4],[21])] ([2,4,3,0,3,0,3,0,3,0,3,0,3,0,3,0,3,0,3,0,0],[71]) rfl h1 h2
theorem Ts {x:Txt}{c:Nat}{b:Int}{s:PS}{Q:PV->PS->Prop}{E:PX->PS->Prop}(k:((0:Int)==0&&0<=b&&Ag b)=true)(h:Q (.int (posns c x (min b.toNat x.length)).length) s):wp (G3 (.str x) [.str [c],.int 0,.int b]) s Q E:=by rw [QM];exact ⟨k,h⟩
theorem U5 {x:Txt}{c i:Nat}{b:Int}{s:PS}{Q:PV->PS->Prop}{E:PX->PS->Prop}(k:((0:Int)==0&&0<=b&&Ag b)=true)(e:(posns c x (min b.toNat x.length)).getLast? = some i)(h:Q (.int i) s):wp (EZ (.str x) [.str [c],.int 0,.int b]) s Q E:=by rw [Oz,e];exact ⟨k,h⟩
theorem QQ {acc:Txt}{s:PS}{Q:PV->PS->Prop}{E:PX->PS->Prop}(l:acc.length<=big)(h:Q (.str acc) s):wp (az [] acc) s Q E:=by rw [Kw];exact ⟨l,h⟩
theorem E5 {m:M PV}{r:List (M PV)}{acc t:Txt}{s:PS}{Q:PV->PS->Prop}{E:PX->PS->Prop}(e:wp m s (λv s'=>v = .str t/\s'=s) λU U=>False)(l:(acc++t).length<=big)(h:wp (az r (acc++t)) s Q E):wp (az (m::r) acc) s Q E:=by
 rw [Ja]
 refine wp_mono e (λv s' z=>?_) λU U z=>z.elim
 obtain ⟨rfl,rfl⟩:=z
 exact ⟨l,h⟩
theorem VQ {i:Int}{s:PS}{Q:PV->PS->Prop}{E:PX->PS->Prop}(c:Ag i=true)(h:Q (.str (BM i)) s):wp (D7 (.int i)) s Q E:=by rw [Tq];exact ⟨c,h⟩
theorem VR {x:Txt}{s:PS}{Q:PV->PS->Prop}{E:PX->PS->Prop}(c:x.length<=big)(h:Q (.str x) s):wp (D7 (.str x)) s Q E:=by rw [Tp];exact ⟨c,h⟩
theorem L6 {x:Txt}{p:Nat}{loc:Nat->Option PV}{st:List (List PV)}{Q:PV->PS->Prop}{E:PX->PS->Prop}(hx:x.length<=big)(hp:p<1000000000)(hQ:Q (.str (C8 x p)) ⟨loc,st⟩):wp (ak BV [.str x,.int p]) ⟨loc,st⟩ Q E:=by
 have sp:Ag (p:Int)=true:=AH (aZ hp (by decide))
 have cnt:((0:Int)==0&&decide (0<=(p:Int))&&Ag p)=true:=by rw [sp,decide_eq_true (Int.natCast_nonneg p)];rfl
 have hn:(posns 10 x (min p x.length)).length<=p:=aQ FF (Nat.min_le_left ..)
 have lo:lineOf x p<=1000000000:=by unfold lineOf;rw [Nat.add_comm];exact bv hn hp
 refine Br 2 λL B=>?_
 unfold BV
 unfold C8 at hQ
 refine AV ?_
 refine Al (c:=decide (x.length<=p)) ?_ (λh=>?_) (λh=>?_)
 ·walk_at "wp"
  ·exact hx
  refine ⟨?_,rfl⟩
  exact decide_eq_decide.mpr Int.ofNat_le
 ·rw [if_pos (of_decide_eq_true h)] at hQ
  walk_at "wp"
  exact hQ
 rw [if_neg (of_decide_eq_false h)] at hQ
 refine wpR ?_
 refine wpA st [some (.str x),some (.int p),some (.int (lineOf x p:Nat)),none] ?_ λL B=>?_
 ·walk_at "wp"
  refine Ts cnt ?_
  walk_at "wp"
  rw [Int.toNat_natCast,show (((posns 10 x (min p x.length)).length:Nat):Int)+1=(lineOf x p:Nat) by unfold lineOf;rw [Int.natCast_add,Int.add_comm];rfl]
  exact ⟨rfl,(B.set 2 _ |> At.mk _ rfl)⟩
 refine wpA st [some (.str x),some (.int p),some (.int (lineOf x p:Nat)),some (.int (Di x p))] ?_ λL B=>?_
 ·refine Al (c:=decide (lineOf x p=1)) (by walk_at "wp";exact ⟨isZ (b:=1),rfl⟩) (λq=>?_) (λq=>?_)
  ·have q:=aY q
   have e:posns 10 x (min p x.length)=[]:=length_eq_zero_iff.mp (by unfold lineOf at q;exact Nat.add_left_cancel q)
   have ec:Di x p=(p:Int)+1:=by unfold Di;rw [e];rfl
   walk_at "wp"
   rw [ec]
   exact ⟨rfl,(B.set 3 _ |> At.mk _ rfl)⟩
  ·have q:=of_decide_eq_false q
   have e:(posns 10 x (min p x.length))≠[]:=λz=>q (by unfold lineOf;rw [z];rfl)
   have ec:Di x p=(p:Int) - ((posns 10 x (min p x.length)).getLast e:Nat):=by unfold Di;rw [List.getLast?_eq_some_getLast e]
   walk_at "wp"
   refine U5 cnt (by rw [Int.toNat_natCast];exact List.getLast?_eq_some_getLast e) ?_
   walk_at "wp"
   rw [ec]
   exact ⟨rfl,(B.set 3 _ |> At.mk _ rfl)⟩
 obtain ⟨n,ec,hc⟩:=Ih (x:=x) (p:=p)
 have nl:n<=1000000000:=aQ hc hp
 have l1:(BM (lineOf x p:Nat)).length<=10:=Dh (bv lo (by decide))
 have l2:(BM (Di x p)).length<=10:=by rw [ec];exact Dh (bv nl (by decide))
 refine wpB (E5 (wpR ⟨rfl,rfl⟩) (by decide) (E5 (t:=BM (lineOf x p:Nat)) (by walk_at "wp";exact VQ (AH (bv lo (by decide))) ⟨rfl,rfl⟩) (BY (show _<=5 by decide) l1 (by decide)) (E5 (wpR ⟨rfl,rfl⟩) (BY (BL (show _<=5 by decide) l1) (show _<=9 by decide) (by decide))
  (E5 (t:=BM (Di x p)) (by walk_at "wp";exact VQ (by rw [ec];exact AH (bv nl (by decide))) ⟨rfl,rfl⟩) (BY (BL (BL (show _<=5 by decide) l1) (show _<=9 by decide)) l2 (by decide)) (QQ (BY (BL (BL (show _<=5 by decide) l1) (show _<=9 by decide)) l2 (by decide)) ?_)))))
 walk_at "wp"
 exact hQ
theorem CQ {x msg:Txt}{p:Nat}{loc:Nat->Option PV}{st:List (List PV)}{Q:Txt->PS->Prop}{E:PX->PS->Prop}(hx:x.length<=big)(hp:p<1000000000)(hm:msg.length<=1000)(hQ:Q (B7 x p msg) ⟨loc,st⟩):wp (aA (Eu BV) [.str x,.int p,.str msg]) ⟨loc,st⟩ Q E:=by
 have cl:=OA (x:=x) hp
 rw [QI]
 have B:=Loc.init [.str x,.int p,.str msg] 0
 generalize loc0 [PV.str x,.int p,.str msg]=L at B
 unfold Eu
 have e1:((" (at ":Str).cps.toList:Txt)=[32,40,97,116,32]:=by kernel_rfl
 have e2:((")":Str).cps.toList:Txt)=[41]:=by kernel_rfl
 rw [e1,e2]
 refine wpB (E5 (t:=msg) (by walk_at "wp";exact VR (An (aQ hm (by decide))) ⟨rfl,rfl⟩) (An (aQ hm (by decide))) (E5 (wpR ⟨rfl,rfl⟩) (BY (a:=1000) hm (show _<=5 by decide) (by decide)) (E5 (t:=C8 x p) ?_ (BY (BL (a:=1000) hm (show _<=5 by decide)) cl (by decide))
  (E5 (wpR ⟨rfl,rfl⟩) (BY (BL (BL (a:=1000) hm (show _<=5 by decide)) cl) (show _<=1 by decide) (by decide)) (QQ (BY (BL (BL (a:=1000) hm (show _<=5 by decide)) cl) (show _<=1 by decide) (by decide)) ?_)))))
 ·walk_at "wp"
  refine L6 hx hp ?_
  exact VR (An (aQ cl (by decide))) ⟨rfl,rfl⟩
 ·refine KtI ?_
  rw [QN]
  exact hQ
theorem OB {t:M Bool}{b:M PFlow}{Q:PFlow->PS->Prop}{E:PX->PS->Prop}(I:Nat->PS->Prop)(n:Nat)
  (step:∀ k s,I k s->k<=n->wp t s (λc s'=>if c=true then wp b s' (λfl s''=>match fl with | .next=>k<n/\I (k+1) s'' | .cont=>k<n/\I (k+1) s'' | .brk=>Q .next s'' | .ret v=>Q (.ret v) s'') E else Q .next s') E) :
  ∀ (f k:Nat) (s:PS),I k s->k<=n->n - k<f->wp (aC t b f) s Q E:=by
 intro f
 induction f with
 | zero=>exact λU U U U h=>absurd h (br _)
 | succ f ih=>
  intro k s i hk h
  show wp (ac t λc=>if c then ac b λfl=>match fl with
    | .next=>aC t b f
    | .cont=>aC t b f
    | .brk=>ae .next
    | .ret v=>ae (.ret v)
   else ae .next) s Q E
  rw [wp_bind]
  refine wp_mono (step k s i hk) (λc s' z=>?_) λU U z=>z
  cases c with
  | false=>exact z
  | true=>
   rw [if_pos rfl] at z
   rw [if_pos rfl,wp_bind]
   refine wp_mono z (λfl s'' z=>?_) λU U z=>z
   cases fl with
   | next=>exact ih (k+1) s'' z.2 z.1 (fuel h z.1)
   | cont=>exact ih (k+1) s'' z.2 z.1 (fuel h z.1)
   | brk=>exact z
   | ret v=>exact z
section
variable {s:PS}{x y:Txt}{Q:PV->PS->Prop}{E:PX->PS->Prop}
theorem Kz {p:Int}:wp (Ds false (.str x) [.str y,.int p]) s Q E=((decide (0<=p)&&Ag p)=true/\match findFrom x y p.toNat with | some i=>Q (.int i) s | none=>E (.std "ValueError") s):=by
 show wp (am _ _) s Q E=_
 rw [Az]
 congr 1
 cases findFrom x y p.toNat <;> rfl
end
theorem Go {x:Txt}{c i:Nat}:AtT x [c] i↔x[i]? = some c:=by
 unfold AtT
 constructor
 ·rintro ⟨h1,h2⟩
  have:(x.drop i)[0]? = some c:=by
   cases q:x.drop i with
   | nil=>rw [q] at h2;cases h2
   | cons a r=>rw [q] at h2;simp at h2;rw [h2];rfl
  simpa using this
 ·intro h
  obtain ⟨lt,e⟩:=bc.mp h
  refine ⟨by simp;exact la [_,_] [([2,3,0],[4])] ([2,3,0],[4]) rfl lt,?_⟩
  rw [drop_eq_getElem_cons lt]
  simp [e]
theorem M2 {x:Txt}{c lo i:Nat}(h1:lo<=i)(h2:x[i]? = some c)(h3:∀ k,lo<=k->k<i->x[k]?≠some c):findFrom x [c] lo=some i:=by
 rcases Fx x [c] lo with ⟨e,n⟩ | ⟨j,e,q1,q2,q3⟩
 ·exact absurd (Go.mpr h2) (n i h1)
 ·rw [e]
  congr 1
  rcases Nat.lt_trichotomy i j with q | q | q
  ·exact absurd (Go.mpr h2) (q3 i h1 q)
  ·exact q.symm
  ·exact absurd (Go.mp q2) (h3 j q1 q)
theorem Tt {x:Txt}{c lo:Nat}(h:∀ k,lo<=k->x[k]?≠some c):findFrom x [c] lo=none:=by
 rcases Fx x [c] lo with ⟨e,n⟩ | ⟨j,e,q1,q2,q3⟩
 ·exact e
 ·exact absurd (Go.mp q2) (h j q1)
theorem D0 (x:Txt)(a b:Nat):slc x (some (a:Int)) (some (b:Int))=(x.take (min b x.length)).drop (min a x.length):=by
 unfold slc bnd
 simp only [Int.natCast_nonneg,if_true,Int.toNat_natCast]
def Tu:Txt:=[70,111,117,110,100,32,105,110,118,97,108,105,100,32,99,104,97,114,97,99,116,101,114,32]
def Tv:Txt:=[69,120,112,101,99,116,101,100,32]
def legal (c:Nat):Bool:=!AQ 0 c
theorem M3 {x:Txt}{p i:Nat}(f:Nat->Bool)(hi:i<=x.length):(slc x (some (p:Int)) (some (i:Int))).all f=true↔∀ k,p<=k->k<i->∀ c,x[k]? = some c->f c=true:=by
 rw [D0,Nat.min_eq_left hi,all_eq_true]
 constructor
 ·intro h k h1 h2 c hc
  refine h c ?_
  rw [List.mem_iff_getElem?]
  refine ⟨k - min p x.length,?_⟩
  have lt:=(bc.mp hc).1
  rw [getElem?_drop,List.getElem?_take]
  rw [if_pos (by exact la [_,_,_,_] [([2,3,0],[4]),([6,8,0],[2])] ([8,6,0,3,0],[4]) rfl h2 (Mi.lcC (la [_,_,_] [([2],[4]),([6],[2])] ([6],[4]) rfl h1 (Nat.min_le_left _ _)))),show min p x.length+(k - min p x.length)=k by exact Nat.le_antisymm (la [_,_,_] [([2,4,0],[6])] ([4,2,0],[6]) rfl (Mi.lcC (la [_,_,_] [([2],[4]),([6],[2])] ([6],[4]) rfl h1 (Nat.min_le_left _ _)))) (la [_,_,_] [([2],[4,6,0])] ([2],[6,4,0]) rfl (Mi.lcS _ _))]
  exact hc
 ·intro h c hc
  obtain ⟨j,hj⟩:=List.mem_iff_getElem?.mp hc
  rw [getElem?_drop,List.getElem?_take] at hj
  split at hj
  ·have lt:=(bc.mp hj).1
   exact h (min p x.length+j) (by lia) (by lia) c hj
  ·cases hj
theorem Gp {x:Txt}{a b:Option Int}:(slc x a b).length<=x.length:=by
 unfold slc
 exact aQ (by rw [length_drop];exact Nat.sub_le ..) (by rw [length_take];exact Nat.min_le_right ..)
theorem FG {n:String}{h:M PFlow}:HQ n h (.std n)=some h:=by unfold HQ;simp
theorem QR:A3 [39]=[34,39,34]:=by kernel_rfl
section
variable {p:Nat}{x:Txt}{loc:Nat->Option PV}{st:List (List PV)}{Q:PV->PS->Prop}{E:PX->PS->Prop}
theorem M4 {y:Txt}{i:Nat}{p:Nat}{s:PS}(c:Ag (p:Int)=true)(e:findFrom x y p=some i)(h:Q (.int i) s):wp (Ds false (.str x) [.str y,.int p]) s Q E:=by
 rw [Kz,Int.toNat_natCast,e,c,decide_eq_true (Int.natCast_nonneg p)]
 exact ⟨rfl,h⟩
theorem QS {y:Txt}{p:Nat}{s:PS}(c:Ag (p:Int)=true)(e:findFrom x y p=none)(h:E (.std "ValueError") s):wp (Ds false (.str x) [.str y,.int p]) s Q E:=by
 rw [Kz,Int.toNat_natCast,e,c,decide_eq_true (Int.natCast_nonneg p)]
 exact ⟨rfl,h⟩
theorem Ub {k:Nat}{s:PS}(h:Q (.bool (x.all λc=>!AQ k c)) s):wp (NQ (.fset k) [.str x]) s Q E:=h
theorem QT {s:PS}(l:(A3 x).length<=big)(h:Q (.str (A3 x)) s):wp (GB (.str x)) s Q E:=by rw [Tr];exact ⟨l,h⟩
theorem VS {k:Nat}{s:PS}(h:Q (.bool (!JB k x)) s):wp (Ao .NotIn (.str x) (.fset k)) s Q E:=h
theorem Jc {c i:Nat}(h:x[i]? = some c):x.getD i 0=c:=by rw [getD_eq_getElem?_getD,h];rfl
abbrev tS (x:Txt)(p:Nat)(n:Option PV):Tb:=[some (.str x),some (.int p),some (.str [39]),some (.fset 0),some (.bool true),n]
theorem E6 {a b:Option Int}(hx:x.length<=1000000):(slc x a b).length<=big:=An (aQ Gp hx)
theorem L7 {i:Nat}(hx:x.length<=1000000)(h1:p<=i)(h2:x[i]? = some 39)(h3:∀ k,p<=k->k<i->x[k]?≠some 39)(hl:∀ k,p<=k->k<i->∀ c,x[k]? = some c->legal c=true)(hQ:Q (.int i) ⟨loc,st⟩) :
  wp (ak (A9 Kx) [.str x,.int p,.str [39],.fset 0,.bool true]) ⟨loc,st⟩ Q E:=by
 have ltx:=(bc.mp h2).1
 have sp:Ag (p:Int)=true:=AH (by lia)
 have ha:=(M3 (λc=>!AQ 0 c) (bq ltx)).mpr hl
 refine Br 1 λL B=>?_
 unfold A9
 refine wpA st (tS x p (some (.int i))) ?_ λL B=>?_
 ·rw [DM]
  walk_at "wp"
  refine M4 sp (M2 h1 h2 h3) ?_
  walk_at "wp"
  exact ⟨rfl,(B.set 5 _ |> At.mk _ rfl)⟩
 refine AV ?_
 refine Al (c:=false) ?_ (λh=>(by cases h)) (λU=>?_)
 ·walk_at "wp"
  refine He rfl (E6 hx) ?_
  walk_at "wp"
  refine Ub ?_
  rw [ha]
  walk_at "wp"
  exact ⟨rfl,rfl⟩
 ·refine wpR ?_
  walk_at "wp"
  exact hQ
theorem OC (hx:x.length<=1000000)(hp:p<=1000000)(h3:∀ k,p<=k->x[k]?≠some 39)(hE:E (.toml (B7 x x.length (Tv++[34,39,34]))) ⟨loc,st⟩) :
  wp (ak (A9 Kx) [.str x,.int p,.str [39],.fset 0,.bool true]) ⟨loc,st⟩ Q E:=by
 have sp:Ag (p:Int)=true:=AH (bv hp (by decide))
 refine Br 1 λL B=>?_
 unfold A9
 refine AV ?_
 rw [DM]
 walk_at "wp"
 refine QS sp (Tt h3) ?_
 rw [FG]
 dsimp only
 refine wpA st (tS x p (some (.int x.length))) ?_ λL B=>?_
 ·walk_at "wp"
  ·exact An hx
  exact ⟨rfl,(B.set 5 _ |> At.mk _ rfl)⟩
 refine Al (c:=true) (by walk_at "wp";exact ⟨rfl,rfl⟩) (λU=>?_) (λh=>(by cases h))
 walk_at "wp"
 refine E5 (wpR ⟨rfl,rfl⟩) (by decide) (E5 (t:=[34,39,34]) (by walk_at "wp";refine QT (by rw [QR];decide) ?_;rw [QR];exact ⟨rfl,rfl⟩) (by decide) (QQ (by decide) ?_))
 walk_at "wp"
 exact CQ (An hx) (bv hx (by decide)) (by decide) hE
inductive SkI (st:List (List PV))(x:Txt)(p i k:Nat)(s:PS):Prop
 | mk (a:At st (tS x (p+k) (some (.int i))) s):SkI st x p i k s
theorem QU {i j b:Nat}(hx:x.length<=1000000)(hK:j+1<Kx+p)(h1:p<=i)(h2:x[i]? = some 39)(h3:∀ k,p<=k->k<i->x[k]?≠some 39)(j1:p<=j)(j2:j<i)(hj:x[j]? = some b)(hb:legal b=false)(hl:∀ k,p<=k->k<j->∀ c,x[k]? = some c->legal c=true)
  (hr:(A3 [b]).length<=100) (hE:E (.toml (B7 x j (Tu++A3 [b]))) ⟨loc,st⟩) :
  wp (ak (A9 Kx) [.str x,.int p,.str [39],.fset 0,.bool true]) ⟨loc,st⟩ Q E:=by
 have ltx:=(bc.mp h2).1
 have sp:Ag (p:Int)=true:=AH (by lia)
 have sm:∀ n,n<x.length->Ag (n:Int)=true:=λn h=>AH (bl h (aQ hx (by decide)))
 have ha:(slc x (some (p:Int)) (some (i:Int))).all (λc=>!AQ 0 c)=false:=by
  cases q:(slc x (some (p:Int)) (some (i:Int))).all (λc=>!AQ 0 c) with
  | false=>rfl
  | true=>
   have q:=(M3 (λc=>!AQ 0 c) (bq ltx)).mp q j j1 j2 b hj
   exact absurd ((show legal b=true from q).symm.trans hb) (by decide)
 refine Br 1 λL B=>?_
 unfold A9 C0
 refine wpA st (tS x p (some (.int i))) ?_ λL B=>?_
 ·rw [DM]
  walk_at "wp"
  refine M4 sp (M2 h1 h2 h3) ?_
  walk_at "wp"
  exact ⟨rfl,(B.set 5 _ |> At.mk _ rfl)⟩
 refine AV ?_
 refine Al (c:=true) ?_ (λU=>?_) (λh=>(by cases h))
 ·walk_at "wp"
  refine He rfl (E6 hx) ?_
  walk_at "wp"
  refine Ub ?_
  rw [ha]
  walk_at "wp"
  exact ⟨rfl,rfl⟩
 refine AV ?_
 refine OB (SkI st x p i) (j - p) (λk s z hk=>?_) Kx 0 _ (.mk (.mk L rfl B)) (aP _) (by lia)
 obtain ⟨L',rfl,B⟩:=z
 have lk:p+k<x.length:=by exact la [_,_,_,_,_,_] [([2,3,0],[4]),([4,3,0],[6]),([8],[10]),([10,12,0],[2])] ([12,8,0,3,0],[6]) rfl j2 ltx hk (Mi.lcC (la [_,_] [([2],[4])] ([2],[4]) rfl j1))
 have ek:x[p+k]? = some (x.getD (p+k) 0):=by rw [getD_eq_getElem?_getD,getElem?_eq_getElem lk];rfl
 walk_at "wp"
 refine HK (sm _ lk) (Ea lk) ?_
 walk_at "wp"
 refine VS ?_
 walk_at "wp"
 by_cases q:k=j - p
 ·have e:p+k=j:=by rw [q];exact Nat.add_sub_of_le j1
  rw [e] at lk B ⊢
  rw [Jc hj,show JB 0 [b]=true from (by unfold legal at hb;simpa using hb:AQ 0 b=true)]
  rw [Bool.not_true,if_neg (by decide)]
  walk_at "wp"
  refine E5 (wpR ⟨rfl,rfl⟩) (by decide) (E5 (t:=A3 [b]) ?_ (BY (show _<=24 by decide) hr (by decide)) (QQ (BY (show _<=24 by decide) hr (by decide)) ?_))
  ·walk_at "wp"
   refine HK (sm _ lk) (Ea lk) ?_
   rw [Jc hj]
   exact QT (An (aQ hr (by decide))) ⟨rfl,rfl⟩
  walk_at "wp"
  exact CQ (An hx) (bl lk (aQ hx (by decide))) (by rw [length_append];exact aQ (Nat.add_le_add (show _<=24 by decide) hr) (by decide)) hE
 ·have hk2:k<j - p:=Nat.lt_of_le_of_ne hk q
  have lg:=hl (p+k) (bw ..) (by exact la [_,_,_,_] [([2,3,0],[4]),([4,6,0],[8])] ([6,2,0,3,0],[8]) rfl hk2 (Mi.lcC (la [_,_] [([2],[4])] ([2],[4]) rfl j1))) _ ek
  rw [show JB 0 [x.getD (p+k) 0]=false from (by unfold legal at lg;simpa using lg:AQ 0 _=false),Bool.not_false,if_pos rfl]
  walk_at "wp"
  exact ⟨hk2,.mk (B.set 1 _ |> At.mk _ rfl)⟩
theorem Hh (hx:x.length<=1000000) (hs:∀ L,wp (ak (A9 Kx) [.str x,.int ((p+1:Nat):Int),.str [39],.fset 0,.bool true]) ⟨L,st⟩
   (λv s'=>∃ i:Nat,v = .int i/\s'=⟨L,st⟩/\Q (.tup [.int ((i+1:Nat):Int),.str (slc x (some ((p+1:Nat):Int)) (some (i:Int)))]) ⟨loc,st⟩) λe s'=>E e ⟨loc,s'.st⟩) :
  wp (ak (Aw Kx) [.str x,.int p]) ⟨loc,st⟩ Q E:=by
 refine Br 1 λL B=>?_
 unfold Aw
 refine wpA st [some (.str x),some (.int ((p+1:Nat):Int)),none] ?_ λL B=>?_
 ·walk_at "wp";exact ⟨rfl,(B.set 1 _ |> At.mk _ rfl)⟩
 refine wpA st [some (.str x),some (.int ((p+1:Nat):Int)),some (.int ((p+1:Nat):Int))] ?_ λL B=>?_
 ·walk_at "wp";exact ⟨rfl,(B.set 2 _ |> At.mk _ rfl)⟩
 refine AV ?_
 walk_at "wp"
 refine wp_mono (hs L) (λv s' z=>?_) λU U z=>z
 obtain ⟨i,rfl,rfl,q⟩:=z
 have B:=B.set 1 (.int i)
 walk_at "wp"
 refine He rfl (E6 hx) ?_
 walk_at "wp"
 ·exact (show 2<=big by decide)
 exact q
end
def hexT:Txt:=[73,110,118,97,108,105,100,32,104,101,120,32,118,97,108,117,101]
def escpT:Txt:=[85,110,101,115,99,97,112,101,100,32,39,92,39,32,105,110,32,97,32,115,116,114,105,110,103]
def AA (c:Nat):Prop:=c<=55295\/(57344<=c/\c<=1114111)
section
variable {p:Nat}{x:Txt}{loc:Nat->Option PV}{st:List (List PV)}{Q:PV->PS->Prop}{E:PX->PS->Prop}
theorem M5 {s:PS}(c:(!x.isEmpty&&x.all hexd&&decide (x.length<=640))=true)(h:Q (.int (hexval x)) s):wp (SM [.str x,.int 16]) s Q E:=by
 rw [show wp (SM [.str x,.int 16]) s Q E=(((16:Int)==16&&!x.isEmpty&&x.all hexd&&decide (x.length<=640))=true/\Q (.int (hexval x)) s) from Az]
 exact ⟨c,h⟩
theorem Gq {s:PS}{a b c:Int}(h:Q (.bool (decide (a<=b)&&decide (b<=c))) s):wp (C5 .LtE .LtE (.int a) (.int b) (ae (.int c))) s Q E:=by
 unfold C5
 refine wpB (wpLeI (wpB (wpTb ?_)))
 cases q:decide (a<=b)
 ·rw [q] at h;exact h
 ·rw [q] at h;exact h
theorem QV {m m':M PV}{s:PS}(h:wp m s (λv s'=>∃ b,v = .bool b/\(if b=true then Q v s' else wp m' s' Q E)) E):wp (BK .Or [m,m']) s Q E:=by
 rw [U4 (by exact nofun)]
 refine wp_mono h (λv s' z=>?_) λU U z=>z
 obtain ⟨b,rfl,z⟩:=z
 cases b <;> exact z
theorem Ef {m:M Bool}{r:List (M Bool)}{s:PS}{Q:Bool->PS->Prop}(h:wp m s (λb s'=>if b=true then Q true s' else wp (AM .Or r) s' Q E) E):wp (AM .Or (m::r)) s Q E:=L5▸h
theorem VT {b:Bool}(h:(!b)=false):b=true:=by cases b <;> first | rfl | cases h
theorem Uc {k:Nat}{s:PS}(h:Q (.bool (x.all λc=>AQ k c)) s):wp (NR (.fset k) [.str x]) s Q E:=h
set_option tactic.hygienic true in
theorem KA {c:Nat}(h:AA c)(hQ:Q (.bool true) ⟨loc,st⟩):wp (ak (AE Kx) [.int c]) ⟨loc,st⟩ Q E:=by
 refine Br 0 λL B=>?_
 unfold AE
 refine wpB (QV ?_)
 walk_at "wp"
 refine Gq ⟨_,rfl,?_⟩
 rw [decide_eq_true (Int.natCast_nonneg c),Bool.true_and]
 rcases h with h | h
 ·rw [decide_eq_true (show (c:Int)<=55295 from Int.ofNat_le.mpr h),if_pos rfl]
  exact hQ
 ·split
  ·rename_i z
   rw [z]
   exact hQ
  walk_at "wp"
  refine Gq ?_
  rw [decide_eq_true (show (57344:Int)<=c from Int.ofNat_le.mpr h.1),decide_eq_true (show (c:Int)<=1114111 from Int.ofNat_le.mpr h.2)]
  exact hQ
abbrev tH (x:Txt)(p n:Nat)(h v:Option PV):Tb:=[some (.str x),some (.int p),some (.int n),h,v]
theorem hex_go {n:Nat}{h:Txt}(hx:x.length<=1000000)(hp:p<=1000000)(hn:n=4\/n=8)(hs:slc x (some (p:Int)) (some ((p+n:Nat):Int))=h)(B:Bool)(hB:B=(!decide (h.length=n)||!h.all hexd))
  (k1:B=false->AA (hexval h)/\Q (.tup [.int ((p+n:Nat):Int),.str [hexval h]]) ⟨loc,st⟩) (k2:B=true->E (.toml (B7 x p hexT)) ⟨loc,st⟩):wp (ak (AB Kx) [.str x,.int p,.int n]) ⟨loc,st⟩ Q E:=by
 have hl:h.length<=1000000:=hs▸aQ Gp hx
 refine Br 2 λL aO=>?_
 unfold AB
 refine wpA st (tH x p n (some (.str h)) none) ?_ λL aO=>?_
 ·walk_at "wp"
  refine He hs (An hl) ?_
  walk_at "wp"
  exact ⟨rfl,(aO.set 3 _ |> At.mk _ rfl)⟩
 refine AV ?_
 refine Al (c:=B) ?_ (λhb=>?_) (λhb=>?_)
 ·refine Ef ?_
  walk_at "wp"
  ·exact An hl
  walk_at "wp"
  rw [isZ]
  cases q:decide (h.length=n)
  ·rw [q] at hB;exact ⟨hB.symm,rfl⟩
  ·rw [q] at hB
   rw [Bool.not_true,if_neg (by decide)]
   refine Ef ?_
   walk_at "wp"
   refine Uc ?_
   walk_at "wp"
   rw [show (h.all λc=>AQ 4 c)=h.all hexd from rfl]
   rw [Bool.not_true,Bool.false_or] at hB
   subst hB
   cases h.all hexd
   ·exact ⟨rfl,rfl⟩
   ·exact ⟨rfl,rfl⟩
 ·walk_at "wp"
  exact CQ (An hx) (bv hp (by decide)) (by decide) (k2 hb)
 obtain ⟨s1,s2⟩:=k1 hb
 rw [hb] at hB
 have hB:=or_eq_false_iff.mp hB.symm
 have h1:h.length=n:=aY (VT hB.1)
 have h2:h.all hexd=true:=VT hB.2
 refine wpR ?_
 refine wpA st (tH x (p+n) n (some (.str h)) none) ?_ λL aO=>?_
 ·walk_at "wp"
  exact ⟨rfl,(aO.set 1 _ |> At.mk _ rfl)⟩
 refine wpA st (tH x (p+n) n (some (.str h)) (some (.int (hexval h)))) ?_ λL aO=>?_
 ·walk_at "wp"
  refine M5 ?_ ?_
  ·have ne:h.isEmpty=false:=by cases h with
    | nil=>rcases hn with rfl | rfl <;> cases h1
    | cons=>rfl
   rw [ne,h2,h1,decide_eq_true (show n<=640 by lia)];rfl
  walk_at "wp"
  exact ⟨rfl,(aO.set 4 _ |> At.mk _ rfl)⟩
 refine AV ?_
 refine Al (c:=false) ?_ (λh=>(by cases h)) (λU=>?_)
 ·walk_at "wp"
  refine KA s1 ?_
  walk_at "wp"
  exact ⟨rfl,rfl⟩
 refine wpR ?_
 have sc:hexval h<=1114111:=s1.elim (λh=>aQ h (by decide)) λh=>h.2
 walk_at "wp"
 refine FZ (by rw [decide_eq_true (Int.natCast_nonneg _),decide_eq_true (show (hexval h:Int)<=1114111 from Int.ofNat_le.mpr sc)];rfl) ?_
 walk_at "wp"
 ·exact (show 2<=big by decide)
 exact s2
theorem E7 {n:Nat}{h:Txt}(hx:x.length<=1000000)(hp:p<=1000000)(hn:n=4\/n=8)(hs:slc x (some (p:Int)) (some ((p+n:Nat):Int))=h) :
  ((h.length=n/\h.all hexd=true)->AA (hexval h)->Q (.tup [.int ((p+n:Nat):Int),.str [hexval h]]) ⟨loc,st⟩->wp (ak (AB Kx) [.str x,.int p,.int n]) ⟨loc,st⟩ Q E) /\
  (¬ (h.length=n/\h.all hexd=true)->E (.toml (B7 x p hexT)) ⟨loc,st⟩->wp (ak (AB Kx) [.str x,.int p,.int n]) ⟨loc,st⟩ Q E):=by
 refine ⟨λq sc hQ=>hex_go hx hp hn hs false (by rw [q.2,decide_eq_true q.1];rfl) (λU=>⟨sc,hQ⟩) (λh=>(by cases h)),λq hE=>hex_go hx hp hn hs true ?_ (λh=>(by cases h)) λU=>hE⟩
 by_cases q1:h.length=n
 ·cases q2:h.all hexd with
  | true=>exact absurd ⟨q1,q2⟩ q
  | false=>rw [Bool.not_false,Bool.or_true]
 ·rw [decide_eq_false q1];rfl
theorem QW {s:PS}:wp (Au false .mp (.str x)) s Q E=match escT x with | some t=>Q (.str t) s | none=>E (.std "KeyError") s:=by
 show wp (match escT x with
  | some t=>ae (PV.str t)
  | none=>aI false "KeyError") s Q E=_
 cases escT x <;> rfl
theorem FH {m:M Bool}{r:List (M Bool)}{s:PS}{Q:Bool->PS->Prop}(h:wp m s (λb s'=>if b=true then wp (AM .And r) s' Q E else Q false s') E):wp (AM .And (m::r)) s Q E:=Ku▸h
abbrev tEs (x:Txt)(p:Nat)(e:Option PV):Tb:=[some (.str x),some (.int p),some (.bool false),e]
theorem E8 {e:Txt}(hx:x.length<=1000000)(hp:p<=1000000)(he:slc x (some (p:Int)) (some ((p+2:Nat):Int))=e)
  (h4:e=[92,117]->∀ L,wp (ak (AB Kx) [.str x,.int ((p+2:Nat):Int),.int (4:Nat)]) ⟨L,st⟩ (λv s'=>Q v ⟨loc,s'.st⟩) (λe s'=>E e ⟨loc,s'.st⟩))
  (h8:e=[92,85]->∀ L,wp (ak (AB Kx) [.str x,.int ((p+2:Nat):Int),.int (8:Nat)]) ⟨L,st⟩ (λv s'=>Q v ⟨loc,s'.st⟩) (λe s'=>E e ⟨loc,s'.st⟩))
  (hk:e≠[92,117]->e≠[92,85]->match escT e with | some t=>Q (.tup [.int ((p+2:Nat):Int),.str t]) ⟨loc,st⟩ | none=>E (.toml (B7 x (p+2) escpT)) ⟨loc,st⟩) :
  wp (ak (As Kx) [.str x,.int p,.bool false]) ⟨loc,st⟩ Q E:=by
 have hl:e.length<=1000000:=he▸aQ Gp hx
 refine Br 1 λL B=>?_
 unfold As
 refine wpA st (tEs x p (some (.str e))) ?_ λL B=>?_
 ·walk_at "wp"
  refine He he (An hl) ?_
  walk_at "wp"
  exact ⟨rfl,(B.set 3 _ |> At.mk _ rfl)⟩
 refine wpA st (tEs x (p+2) (some (.str e))) ?_ λL B=>?_
 ·walk_at "wp"
  exact ⟨rfl,(B.set 1 _ |> At.mk _ rfl)⟩
 refine AV ?_
 refine Al (c:=false) (FH (by walk_at "wp";exact ⟨rfl,rfl⟩)) (λh=>(by cases h)) (λU=>wpR ?_)
 refine AV ?_
 refine Al (c:=(e==[92,117])) (by walk_at "wp";exact ⟨rfl,rfl⟩) (λh=>?_) (λn4=>wpR ?_)
 ·walk_at "wp"
  exact h4 (eq_of_beq h) L
 refine AV ?_
 refine Al (c:=(e==[92,85])) (by walk_at "wp";exact ⟨rfl,rfl⟩) (λh=>?_) (λn8=>wpR ?_)
 ·walk_at "wp"
  exact h8 (eq_of_beq h) L
 have hk:=hk (ne_of_beq_false n4) (ne_of_beq_false n8)
 refine KnI ?_
 rw [DM]
 walk_at "wp"
 rw [QW]
 cases q:escT e with
 | some t=>
  rw [q] at hk
  dsimp only
  walk_at "wp"
  ·exact (show 2<=big by decide)
  exact hk
 | none=>
  rw [q] at hk
  dsimp only
  rw [FG]
  dsimp only
  walk_at "wp"
  exact CQ (An hx) (bv (Nat.add_le_add_right hp 2) (by decide)) (by decide) hk
end
def untT:Txt:=[85,110,116,101,114,109,105,110,97,116,101,100,32,115,116,114,105,110,103]
def HL:Txt:=[73,108,108,101,103,97,108,32,99,104,97,114,97,99,116,101,114,32]
def Ud (x:Txt)(p p':Nat)(t:Txt):Prop:=∀ (loc:Nat->Option PV) (st:List (List PV)) (Q:PV->PS->Prop) (E:PX->PS->Prop),Q (.tup [.int p',.str t]) ⟨loc,st⟩->wp (ak (As Kx) [.str x,.int p,.bool false]) ⟨loc,st⟩ Q E
def L8 (x:Txt)(p:Nat)(t:Txt):Prop:=∀ (loc:Nat->Option PV) (st:List (List PV)) (Q:PV->PS->Prop) (E:PX->PS->Prop),E (.toml t) ⟨loc,st⟩->wp (ak (As Kx) [.str x,.int p,.bool false]) ⟨loc,st⟩ Q E
inductive BOut where
 | ok (i:Nat) (D:Txt)
 | err (t:Txt)
inductive Bas (x:Txt):Nat->Txt->BOut->Prop
 | eof {D:Txt}:Bas x x.length D (.err (B7 x x.length untT))
 | quote {p:Nat} {D:Txt}:x[p]? = some 34->Bas x p D (.ok (p+1) D)
 | esc {p p':Nat} {D t:Txt} {o:BOut}:x[p]? = some 92->Ud x p p' t->t.length=1->p<p'->p'<=x.length->Bas x p' (D++t) o->Bas x p D o
 | escBad {p:Nat} {D t:Txt}:x[p]? = some 92->L8 x p t->Bas x p D (.err t)
 | bad {p c:Nat} {D:Txt}:x[p]? = some c->c≠34->c≠92->AQ 0 c=true->(A3 [c]).length<=100->Bas x p D (.err (B7 x p (HL++A3 [c])))
 | raw {p c:Nat} {D:Txt} {o:BOut}:x[p]? = some c->c≠34->c≠92->AQ 0 c=false->Bas x (p+1) (D++[c]) o->Bas x p D o
theorem U6 (Kx:Nat):By Kx=aj (ac ((ac (af 2) tst)) λc=>if c then (aj (ac (ae (.fset 1)) λa=>ac (ah 3 a) λU=>ae .next)
  (ac (ae (.fn 1)) λa=>ac (ah 4 a) λU=>ae .next)) else (aj (ac (ae (.fset 0)) λa=>ac (ah 3 a) λU=>ae .next)
  (ac (ae (.fn 0)) λa=>ac (ah 4 a) λU=>ae .next)))
  (aj (ac (ae (.str [])) λa=>ac (ah 5 a) λU=>ae .next)
  (aj (ac (af 1) λa=>ac (ah 6 a) λU=>ae .next)
  (aC ((ac (ae (.bool true)) tst)) (Ak Kx) Kx))):=rfl
theorem KB (x:Txt)(p:Nat):slc x (some (p:Int)) (some (p:Int))=[]:=by
 rw [D0]
 apply eq_nil_of_length_eq_zero
 simp only [length_drop,length_take]
 lia
theorem QX {x:Txt}{sp p c:Nat}(h:sp<=p)(hc:x[p]? = some c):slc x (some (sp:Int)) (some ((p+1:Nat):Int))=slc x (some (sp:Int)) (some (p:Int))++[c]:=by
 have lt:=(bc.mp hc).1
 rw [D0,D0,Nat.min_eq_left (by exact la [_,_] [([2,3,0],[4])] ([2,3,0],[4]) rfl lt:p+1<=x.length),Nat.min_eq_left (by exact la [_,_] [([2,3,0],[4])] ([2],[4]) rfl lt:p<=x.length),Nat.min_eq_left (by exact la [_,_,_] [([2],[4]),([4,3,0],[6])] ([2],[6]) rfl h lt:sp<=x.length),List.take_succ,hc]
 rw [List.drop_append_of_le_length (by simp;lia)]
 rfl
theorem D1 {b:M PFlow}{f:Nat}{s:PS}{Q:PFlow->PS->Prop}{E:PX->PS->Prop} (h:wp b s (λfl s'=>match fl with
  | .next=>wp (aC ((ac (ae (.bool true)) tst)) b f) s' Q E
  | .cont=>wp (aC ((ac (ae (.bool true)) tst)) b f) s' Q E
  | .brk=>Q .next s'
  | .ret v=>Q (.ret v) s') E):wp (aC ((ac (ae (.bool true)) tst)) b (f+1)) s Q E:=by
 show wp (ac (ac (ae (.bool true)) tst) λc=>if c then ac b λfl=>match fl with
    | .next=>aC ((ac (ae (.bool true)) tst)) b f
    | .cont=>aC ((ac (ae (.bool true)) tst)) b f
    | .brk=>ae .next
    | .ret v=>ae (.ret v)
   else ae .next) s Q E
 rw [wp_bind,wp_bind,I7,Ko,if_pos rfl,wp_bind]
 refine wp_mono h (λfl s' z=>?_) λU U z=>z
 cases fl <;> exact z
theorem U7 {m1 m2:M PV}{s:PS}{Q:PV->PS->Prop}{E:PX->PS->Prop}:wp (aM (UQ Kx) [m1,m2] (.fn 0)) s Q E=wp (ac (ag [m1,m2]) λl=>ak (As Kx) (l++[.bool false])) s Q E:=rfl
theorem L9 {f g:PV->M Unit}{a b:PV}{s:PS}{Q:Unit->PS->Prop}{E:PX->PS->Prop}:wp (aE [f,g] (.tup [a,b])) s Q E=wp (f a) s (λU s'=>wp (g b) s' (λU s''=>Q () s'') E) E:=by
 show wp (am true (ac (f a) λU=>ac (g b) λU=>ae ())) s Q E=_
 rw [Az,wp_bind]
 simp only [true_and,wp_bind,I7]
abbrev tBs (x:Txt)(p:Nat)(R:Txt)(sp:Nat)(c t:Option PV):Tb:=[some (.str x),some (.int p),some (.bool false),some (.fset 0),some (.fn 0),some (.str R),some (.int sp),c,t]
section
variable {p sp c:Nat}{x R D:Txt}{L:Nat->Option PV}{st:List (List PV)}{Q:PFlow->PS->Prop}{E:PX->PS->Prop}
theorem QY (hx:x.length<=1000000)(hc:x[p]? = some c):p<1000000000:=bl (bc.mp hc).1 (aQ hx (by decide))
theorem FI {X:PX->Option (M PFlow)}{r:M PFlow}(hx:x.length<=1000000)(hc:x[p]? = some c)(B:Loc (tBs x p R sp none none) L)(h:∀ L,Loc (tBs x p R sp (some (.str [c])) none) L->wp r ⟨L,st⟩ Q E) :
  wp (aj (aD X ((ac ((ac (af 0) λa=>ac (af 1) λb=>Au false a b)) λa=>ac (ah 7 a) λU=>ae .next))) r) ⟨L,st⟩ Q E:=by
 refine AV ?_
 rw [DM]
 walk_at "wp"
 refine HK (AH (aZ (QY hx hc) (by decide))) (Ea (bc.mp hc).1) ?_
 rw [Jc hc]
 walk_at "wp"
 exact h _ (B.set 7 _)
theorem QZ (hx:x.length<=1000000)(B:Loc (tBs x x.length R sp none none) L)(hE:E (.toml (B7 x x.length untT)) ⟨L,st⟩):wp (Ak Kx) ⟨L,st⟩ Q E:=by
 unfold Ak
 have lt:x.length<1000000000:=bv hx (by decide)
 have ix:idx (x.length:Int) x.length=none:=by unfold idx;rw [if_pos (Int.natCast_nonneg _),if_neg (by rw [Int.toNat_natCast];exact Nat.lt_irrefl _)]
 refine AV ?_
 rw [DM]
 walk_at "wp"
 rw [Kv,ix]
 refine ⟨AH (aZ lt (by decide)),?_⟩
 dsimp only
 rw [FG]
 dsimp only
 walk_at "wp"
 exact CQ (An hx) lt (by decide) hE
theorem Q1 (hx:x.length<=1000000)(hp:p<=x.length){l:Nat}(hl:l<=p):l<=big:=An (aQ hl (aQ hp hx))
theorem Mb (hx:x.length<=1000000)(hp:p<=x.length)(hc:x[p]? = some 34)(B:Loc (tBs x p R sp none none) L)(hD:R++slc x (some (sp:Int)) (some (p:Int))=D)(hl:D.length<=p)(hQ:∀ L',Q (.ret (.tup [.int ((p+1:Nat):Int),.str D])) ⟨L',st⟩) :
  wp (Ak Kx) ⟨L,st⟩ Q E:=by
 unfold Ak
 refine FI hx hc B λL B=>?_
 refine AV ?_
 refine Al (c:=true) (by walk_at "wp";exact ⟨rfl,rfl⟩) (λU=>?_) (λh=>(by cases h))
 refine AV ?_
 refine Al (c:=true) (by walk_at "wp";exact ⟨rfl,rfl⟩) (λU=>?_) (λh=>(by cases h))
 walk_at "wp"
 refine He rfl (E6 hx) ?_
 walk_at "wp"
 ·rw [hD];exact Q1 hx hp hl
 ·exact (show 2<=big by decide)
 rw [hD]
 exact hQ _
theorem KC (hx:x.length<=1000000)(hc:x[p]? = some 92)(B:Loc (tBs x p R sp none none) L)(hD:R++slc x (some (sp:Int)) (some (p:Int))=D)(hl:D.length<=p)
  (h:∀ L,wp (ak (As Kx) [.str x,.int p,.bool false]) ⟨L,st⟩ (λv s'=>∃ (p':Nat) (t:Txt),v = .tup [.int p',.str t]/\s'=⟨L,st⟩/\t.length=1/\∀ L',Loc (tBs x p' (D++t) p' none none) L'->Q .cont ⟨L',st⟩) E) :
  wp (Ak Kx) ⟨L,st⟩ Q E:=by
 unfold Ak
 have hp:=bq (bc.mp hc).1
 refine FI hx hc B λL B=>?_
 refine AV ?_
 refine Al (c:=false) (by walk_at "wp";exact ⟨rfl,rfl⟩) (λh=>(by cases h)) (λU=>wpR ?_)
 refine AV ?_
 refine Al (c:=true) (by walk_at "wp";exact ⟨rfl,rfl⟩) (λU=>?_) (λh=>(by cases h))
 refine wpA st (tBs x p D sp none none) ?_ λL B=>?_
 ·walk_at "wp"
  refine He rfl (E6 hx) ?_
  walk_at "wp"
  ·rw [hD];exact Q1 hx hp hl
  rw [hD]
  exact ⟨rfl,((B.set 5 _).drop 7 |> At.mk _ rfl)⟩
 refine AV ?_
 walk_at "wp"
 rw [U7]
 walk_at "wp"
 refine wp_mono (h L) (λv s' z=>?_) λU U z=>z
 obtain ⟨p',t,rfl,rfl,ht,k⟩:=z
 refine wpB ?_
 rw [L9]
 have B:=((B.set 1 (.int p')).set 8 (.str t))
 walk_at "wp"
 refine AV ?_
 walk_at "wp"
 ·rw [length_append,ht];exact An (bv hl (bl (bc.mp hc).1 hx))
 have B:=B.set 5 (.str (D++t))
 refine AV ?_
 walk_at "wp"
 exact k _ ((B.set 6 _).drop 8)
theorem Hi (hx:x.length<=1000000)(hc:x[p]? = some c)(n1:c≠34)(n2:c≠92)(B:Loc (tBs x p R sp none none) L)(h1:AQ 0 c=true->(A3 [c]).length<=100/\∀ L',E (.toml (B7 x p (HL++A3 [c]))) ⟨L',st⟩)
  (h2:AQ 0 c=false->∀ L',Loc (tBs x (p+1) R sp none none) L'->Q .next ⟨L',st⟩):wp (Ak Kx) ⟨L,st⟩ Q E:=by
 unfold Ak
 refine FI hx hc B λL B=>?_
 have ne:∀ d,c≠d->([c]==[d])=false:=λd h=>aX.mpr λe=>h (List.cons.inj e).1
 refine AV ?_
 refine Al (c:=false) (by walk_at "wp";exact ⟨ne 34 n1,rfl⟩) (λh=>(by cases h)) (λU=>wpR ?_)
 refine AV ?_
 refine Al (c:=false) (by walk_at "wp";exact ⟨ne 92 n2,rfl⟩) (λh=>(by cases h)) (λU=>wpR ?_)
 refine AV ?_
 refine Al (c:=AQ 0 c) (by walk_at "wp";exact ⟨rfl,rfl⟩) (λe=>?_) (λe=>wpR ?_)
 ·obtain ⟨hr,hE⟩:=h1 e
  walk_at "wp"
  refine E5 (wpR ⟨rfl,rfl⟩) (by decide) (E5 (t:=A3 [c]) ?_ (BY (show _<=18 by decide) hr (by decide)) (QQ (BY (show _<=18 by decide) hr (by decide)) ?_))
  ·walk_at "wp"
   exact QT (An (aQ hr (by decide))) ⟨rfl,rfl⟩
  walk_at "wp"
  exact CQ (An hx) (QY hx hc) (by rw [length_append];exact aQ (Nat.add_le_add (show _<=18 by decide) hr) (by decide)) (hE _)
 ·walk_at "wp"
  exact h2 e _ ((B.set 1 _).drop 7)
end
theorem Q2 {x:Txt}(hx:x.length<=1000000){st:List (List PV)}{Q:PFlow->PS->Prop}{E:PX->PS->Prop}:∀ {p:Nat} {D:Txt} {o:BOut},Bas x p D o->(match o with | .ok i D'=>∀ L',Q (.ret (.tup [.int i,.str D'])) ⟨L',st⟩ | .err t=>∀ L',E (.toml t) ⟨L',st⟩) ->
  ∀ {f:Nat} {L:Nat->Option PV} {R:Txt} {sp:Nat},p<=x.length->x.length+1<f+p->Loc (tBs x p R sp none none) L->sp<=p->R++slc x (some (sp:Int)) (some (p:Int))=D->D.length<=p ->
   wp (aC ((ac (ae (.bool true)) tst)) (Ak Kx) f) ⟨L,st⟩ Q E:=by
 have pos:∀ {f p:Nat},p<=x.length->x.length+1<f+p->∃ g,f=g+1:=λ{f p} h1 h2=>by
  cases f with
  | zero=>lia
  | succ g=>exact ⟨g,rfl⟩
 intro p D o b
 induction b with
 | @eof D=>
  intro hQ f L R sp hp hf B hsp hD hl
  obtain ⟨f,rfl⟩:=pos hp hf
  exact D1 (QZ hx B (hQ _))
 | @quote p D hc=>
  intro hQ f L R sp hp hf B hsp hD hl
  obtain ⟨f,rfl⟩:=pos hp hf
  exact D1 (Mb hx hp hc B hD hl hQ)
 | @esc p p' D t o hc he ht lt' le' b ih=>
  intro hQ f L R sp hp hf B hsp hD hl
  obtain ⟨f,rfl⟩:=pos hp hf
  refine D1 (KC hx hc B hD hl λL=>he L st _ _ ⟨p',t,rfl,rfl,ht,λL' B=>?_⟩)
  exact ih hQ le' (Ua hf lt') B (aR _) (by rw [KB,append_nil]) (by rw [length_append,ht];exact bv hl lt')
 | @escBad p D t hc he=>
  intro hQ f L R sp hp hf B hsp hD hl
  obtain ⟨f,rfl⟩:=pos hp hf
  exact D1 (KC hx hc B hD hl λL=>he L st _ _ (hQ _))
 | @bad p c D hc n1 n2 hs hr=>
  intro hQ f L R sp hp hf B hsp hD hl
  obtain ⟨f,rfl⟩:=pos hp hf
  exact D1 (Hi hx hc n1 n2 B (λU=>⟨hr,hQ⟩) λe=>nomatch hs.symm.trans e)
 | @raw p c D o hc n1 n2 hs b ih=>
  intro hQ f L R sp hp hf B hsp hD hl
  obtain ⟨f,rfl⟩:=pos hp hf
  refine D1 (Hi hx hc n1 n2 B (λe=>nomatch hs.symm.trans e) λU L' B=>?_)
  refine ih hQ (bc.mp hc).1 (Ua hf (bo p)) B (Nat.le_succ_of_le hsp) ?_ (by rw [length_append];exact bx hl)
  rw [QX hsp hc,<- append_assoc,hD]
section
variable {p:Nat}{x:Txt}{loc:Nat->Option PV}{st:List (List PV)}{Q:PV->PS->Prop}{E:PX->PS->Prop}
theorem Q3 {o:BOut}(hx:x.length<=1000000)(hp:p<=x.length)(hK:x.length+1<Kx)(b:Bas x p [] o)(hQ:match o with | .ok i D=>Q (.tup [.int i,.str D]) ⟨loc,st⟩ | .err t=>E (.toml t) ⟨loc,st⟩) :
  wp (ak (By Kx) [.str x,.int p,.bool false]) ⟨loc,st⟩ Q E:=by
 refine Br 6 λL B=>?_
 rw [U6]
 refine AV ?_
 refine Al (c:=false) (by walk_at "wp";exact ⟨rfl,rfl⟩) (λh=>(by cases h)) (λU=>?_)
 refine AV ?_
 walk_at "wp"
 have B:=(B.set 3 (.fset 0)).set 4 (.fn 0)
 refine wpA st [some (.str x),some (.int p),some (.bool false),some (.fset 0),some (.fn 0),some (.str []),none,none,none] (by walk_at "wp";exact ⟨rfl,(B.set 5 _ |> At.mk _ rfl)⟩) λL B=>?_
 refine wpA st (tBs x p [] p none none) (by walk_at "wp";exact ⟨rfl,(B.set 6 _ |> At.mk _ rfl)⟩) λL B=>?_
 refine Q2 hx b ?_ (R:=[]) (sp:=p) hp (bl hK (bw ..)) B (aR _) (by rw [KB];rfl) (aP _)
 cases o with
 | ok i D=>exact λL'=>hQ
 | err t=>exact λL'=>hQ
theorem Cq {o:BOut}(hx:x.length<=1000000)(hp:p+1<=x.length)(hK:x.length+1<Kx)(b:Bas x (p+1) [] o)(hQ:match o with | .ok i D=>Q (.tup [.int i,.str D]) ⟨loc,st⟩ | .err t=>E (.toml t) ⟨loc,st⟩) :
  wp (ak (Ah Kx) [.str x,.int p]) ⟨loc,st⟩ Q E:=by
 refine Br 0 λL B=>?_
 unfold Ah
 refine wpA st [some (.str x),some (.int ((p+1:Nat):Int))] (by walk_at "wp";exact ⟨rfl,(B.set 1 _ |> At.mk _ rfl)⟩) λL B=>?_
 walk_at "wp"
 refine Q3 hx hp hK b ?_
 cases o with
 | ok i D=>exact hQ
 | err t=>exact hQ
end
theorem CR {x y z:Txt}{p n:Nat}(h:x.drop p=y++z)(hp:p<=x.length)(hn:y.length=n):slc x (some (p:Int)) (some ((p+n:Nat):Int))=y:=by
 have hl:(x.drop p).length=y.length+z.length:=by rw [h,length_append]
 rw [length_drop] at hl
 rw [D0,Nat.min_eq_left (by exact la [_,_,_,_,_,_] [([2],[4]),([4,6,0],[8]),([8,10,0],[12])] ([10,2,0],[12]) rfl (Nat.le_of_eq hn.symm) (Nat.le_of_eq hl.symm) (Mi.lcC (la [_,_] [([2],[4])] ([2],[4]) rfl hp)):p+n<=x.length),Nat.min_eq_left hp,List.drop_take]
 rw [h,show p+n - p=n by exact Nat.le_antisymm (la [_,_,_] [([2,4,0],[4,6,0])] ([2],[6]) rfl (Mi.lcC (la [_,_] [] ([2],[2,4,0]) rfl))) (la [_,_,_] [([2,4,0],[6,2,0])] ([4],[6]) rfl (Mi.lcS _ _)),<- hn]
 simp
theorem B8 {x z:Txt}{p c:Nat}(h:x.drop p=c::z):x[p]? = some c:=by
 have:(x.drop p)[0]? = some c:=by rw [h];rfl
 simpa using this
theorem AP {x y z:Txt}{p:Nat}(h:x.drop p=y++z):x.drop (p+y.length)=z:=by
 rw [<- List.drop_drop,h];simp
theorem Be {x z:Txt}{p c:Nat}(h:x.drop p=c::z):p<x.length:=(bc.mp (B8 h)).1
section
variable {x:Txt}{p c:Nat}{t rest:Txt}
theorem Q4 (hx:x.length<=1000000)(hc:AA c)(u:UnitOf c t)(h:x.drop p=t++rest)(h0:x[p]? = some 92)(n92:c=92->t≠[92]):Ud x p (p+t.length) [c]:=by
 have lt:=(bc.mp h0).1
 intro loc st Q E hQ
 cases u with
 | raw h1 h2 h3=>
  have:=B8 (x:=x) (p:=p) (c:=c) (z:=rest) h
  rw [h0] at this
  cases this
  exact absurd rfl h3
 | @short d h1 h2 h3=>
  refine E8 hx (by exact la [_,_] [([2],[2000001]),([4,3,0],[2])] ([4],[2000001]) rfl hx lt) (CR (n:=2) h (by exact la [_,_] [([2,3,0],[4])] ([2],[4]) rfl lt) rfl) (λe=>?_) (λe=>?_) (λU U=>?_)
  ·simp at e;exact absurd e h2
  ·simp at e;exact absurd e h3
  ·rw [h1];exact hQ
 | @four hh h1 h2 h3=>
  have hd:x.drop p=[92,117]++(hh++rest):=h
  have hd2:x.drop (p+2)=hh++rest:=AP hd
  have hl:(x.drop p).length=2+(hh.length+rest.length):=by rw [hd];simp;exact be (la [_,_] [] ([2,4,0,3,0,3,0],[5,2,4,0,0]) rfl) (la [_,_] [] ([5,2,4,0,0],[2,4,0,3,0,3,0]) rfl)
  rw [length_drop] at hl
  refine E8 hx (by exact la [_,_,_] [([2],[2000001]),([4,6,0],[2])] ([6],[2000001]) rfl hx (Mi.lcC (la [_,_] [([2,3,0],[4])] ([2],[4]) rfl lt))) (CR (n:=2) hd (by exact la [_,_,_] [([2,4,0],[6])] ([4],[6]) rfl (Mi.lcC (la [_,_] [([2,3,0],[4])] ([2],[4]) rfl lt))) rfl) (λe L=>?_) (λe=>?_) (λe=>absurd rfl e)
  ·refine (E7 (h:=hh) (n:=4) hx (by exact la [_,_,_,_,_] [([2],[2000001]),([5,4,6,0,0],[8]),([8,10,0],[2])] ([10,5,0],[2000001]) rfl hx (aS hl.symm) (Mi.lcC (la [_,_] [([2,3,0],[4])] ([2],[4]) rfl lt))) (.inl rfl) (CR (n:=4) hd2 (by exact la [_,_,_,_,_] [([5,2,4,0,0],[6]),([6,8,0],[10])] ([8,5,0],[10]) rfl (aS hl.symm) (Mi.lcC (la [_,_] [([2,3,0],[4])] ([2],[4]) rfl lt))) h1)).1 ⟨h1,h2⟩ (h3▸hc) ?_
   rw [h3]
   have e:p+2+4=p+(92::117::hh).length:=by simp [h1]
   rw [e]
   exact hQ
  ·simp at e
 | @eight hh h1 h2 h3=>
  have hd:x.drop p=[92,85]++(hh++rest):=h
  have hd2:x.drop (p+2)=hh++rest:=AP hd
  have hl:(x.drop p).length=2+(hh.length+rest.length):=by rw [hd];simp;exact be (la [_,_] [] ([2,4,0,3,0,3,0],[5,2,4,0,0]) rfl) (la [_,_] [] ([5,2,4,0,0],[2,4,0,3,0,3,0]) rfl)
  rw [length_drop] at hl
  refine E8 hx (by exact la [_,_,_] [([2],[2000001]),([4,6,0],[2])] ([6],[2000001]) rfl hx (Mi.lcC (la [_,_] [([2,3,0],[4])] ([2],[4]) rfl lt))) (CR (n:=2) hd (by exact la [_,_,_] [([2,4,0],[6])] ([4],[6]) rfl (Mi.lcC (la [_,_] [([2,3,0],[4])] ([2],[4]) rfl lt))) rfl) (λe=>?_) (λe L=>?_) (λU e=>absurd rfl e)
  ·simp at e
  ·refine (E7 (h:=hh) (n:=8) hx (by exact la [_,_,_,_,_] [([2],[2000001]),([5,4,6,0,0],[8]),([8,10,0],[2])] ([10,5,0],[2000001]) rfl hx (aS hl.symm) (Mi.lcC (la [_,_] [([2,3,0],[4])] ([2],[4]) rfl lt))) (.inr rfl) (CR (n:=8) hd2 (by exact la [_,_,_,_,_] [([5,2,4,0,0],[6]),([6,8,0],[10])] ([8,5,0],[10]) rfl (aS hl.symm) (Mi.lcC (la [_,_] [([2,3,0],[4])] ([2],[4]) rfl lt))) h1)).1 ⟨h1,h2⟩ (h3▸hc) ?_
   rw [h3]
   have e:p+2+8=p+(92::85::hh).length:=by simp [h1]
   rw [e]
   exact hQ
end
inductive Units:Txt->List Txt->Prop
 | nil:Units [] []
 | cons {c:Nat} {t cs:Txt} {ts:List Txt} (hc:AA c) (u:UnitOf c t) (r:Units cs ts):Units (c::cs) (t::ts)
theorem F0 {c:Nat}(h:plainB c=true):AQ 0 c=false:=by
 unfold plainB at h
 simp only [and_eq_true,bne_iff_ne,ne_eq,or_eq_true,beq_iff_eq,decide_eq_true_eq] at h
 show (ctl c&&c != 9)=false
 unfold ctl
 by_cases q:c=9
 ·subst q;rfl
 ·have h1:¬ c<32:=by lia
  simp [h1,h.1]
theorem Ii {c:Nat}{t:Txt}(u:UnitOf c t):(t=[c]/\plainB c=true/\c≠34/\c≠92)\/∃ r,t=92::r/\r≠[]:=by
 cases u with
 | raw h1 h2 h3=>exact .inl ⟨rfl,h1,h2,h3⟩
 | short h1 h2 h3=>exact .inr ⟨_,rfl,cons_ne_nil _ _⟩
 | four h1 h2 h3=>exact .inr ⟨_,rfl,cons_ne_nil _ _⟩
 | eight h1 h2 h3=>exact .inr ⟨_,rfl,cons_ne_nil _ _⟩
section
variable {x:Txt}
theorem OD (hx:x.length<=1000000){o:BOut}{rest:Txt}:∀ {cs:Txt} {ts:List Txt},Units cs ts->∀ {p:Nat} {D:Txt},p<=x.length->x.drop p=ts.flatten++rest->Bas x (p+ts.flatten.length) (D++cs) o->Bas x p D o:=by
 intro cs ts u
 induction u with
 | nil=>intro p D _ _ b;simpa using b
 | @cons c t cs ts hc u r ih=>
  intro p D hp h b
  rw [flatten_cons,append_assoc] at h
  have hl:(x.drop p).length=t.length+(ts.flatten++rest).length:=by rw [h,length_append]
  rw [length_drop] at hl
  have hd:=AP h
  rcases Ii u with ⟨rfl,h1,h2,h3⟩ | ⟨r',rfl,hr'⟩
  ·refine .raw (B8 h) h2 h3 (F0 h1) ?_
   refine ih (by simp at hl;exact la [_,_,_,_,_] [([3,2,4,0,0],[6]),([6,8,0],[10])] ([8,3,0],[10]) rfl (aS hl.symm) (Mi.lcC (la [_,_] [([2],[4])] ([2],[4]) rfl hp))) hd ?_
   rw [append_assoc]
   rw [flatten_cons,length_append,<- Nat.add_assoc] at b
   exact b
  ·have h0:=B8 h
   refine .esc h0 (Q4 hx hc u h h0 (λU e=>hr' (List.cons.inj e).2)) rfl (by simp) (by exact la [_,_,_,_,_] [([2,4,0],[6]),([6,8,0],[10])] ([8,2,0],[10]) rfl (aS hl.symm) (Mi.lcC (la [_,_] [([2],[4])] ([2],[4]) rfl hp))) ?_
   refine ih (by exact la [_,_,_,_,_] [([2,4,0],[6]),([6,8,0],[10])] ([8,2,0],[10]) rfl (aS hl.symm) (Mi.lcC (la [_,_] [([2],[4])] ([2],[4]) rfl hp))) hd ?_
   rw [append_assoc]
   rw [flatten_cons,length_append,<- Nat.add_assoc] at b
   exact b
end
section
variable {loc:Nat->Option PV}{st:List (List PV)}{Q:PV->PS->Prop}{E:PX->PS->Prop}
theorem Q5 {a:Nat}{i:Int}:wp (Au false (.lst a) (.int i)) ⟨loc,st⟩ Q E=(Ag i=true/\match st[a]? with | some l=>(match (idx i l.length).bind (l[·]?) with | some v=>Q v ⟨loc,st⟩ | none=>False) | none=>False):=by
 show wp (am (Ag i) (ac (ar a) λl=>aw ((idx i l.length).bind (l[·]?)))) _ Q E=_
 rw [Az,wp_bind,Cg]
 congr 1
 cases st[a]? with
 | none=>rfl
 | some l=>
  dsimp only
  rw [L4]
  cases (idx i l.length).bind (l[·]?) <;> rfl
theorem last_new {l:List PV}:(st++[l])[st.length]? = some l:=by simp
theorem F1 {loc:Nat->Option PV}{st:List (List PV)}{Q:PV->PS->Prop}{E:PX->PS->Prop}{a j:Nat}{i:Int}{l:List PV}{v:PV}(c:Ag i=true)(hl:st[a]? = some l)(hi:idx i l.length=some j)(hv:l[j]? = some v)(h:Q v ⟨loc,st⟩):wp (Au false (.lst a) (.int i)) ⟨loc,st⟩ Q E:=by
 rw [Q5,hl]
 refine ⟨c,?_⟩
 dsimp only
 rw [hi,Option.bind_some,hv]
 exact h
theorem U8 {c:Nat}(h:AA c):(0<=(c:Int)&&(c:Int)<=1114111)=true:=by
 have:c<=1114111:=h.elim (λh=>aQ h (by decide)) λh=>h.2
 rw [decide_eq_true (Int.natCast_nonneg c),decide_eq_true (show (c:Int)<=1114111 from Int.ofNat_le.mpr this)];rfl
theorem Jd {c:Nat}{i:Int}{s:PS}(e:i=(c:Nat))(hc:AA c)(h:Q (.str [c]) s):wp (D6 [.int i]) s Q E:=by subst e;exact FZ (U8 hc) h
end
theorem Q6 {js:List Nat}{m:M PV}{loc:Nat->Option PV}{st:List (List PV)}{Q:PV->PS->Prop}{E:PX->PS->Prop}(h:wp m ⟨λi=>if i∈js then none else loc i,st⟩ (λv s'=>Q v ⟨loc,s'.st⟩) λU U=>False):wp (aB js m) ⟨loc,st⟩ Q E:=by
 unfold wp aB
 dsimp only
 unfold wp at h
 revert h
 cases m ⟨λi=>if i∈js then none else loc i,st⟩ with
 | ok v s'=>exact id
 | ex e s'=>exact False.elim
 | stuck=>exact False.elim
section
variable {loc:Nat->Option PV}{st:List (List PV)}{Q:PV->PS->Prop}{E:PX->PS->Prop}
end
def okT (t:Txt):Prop:=∀ c∈t,c<=1114111
theorem D2 {st:List (List PV)}{n:Nat}{p:PV}{r:List PV}{d:PyData}{ds:List PyData}(h1:toD st n p=some d)(h2:Dy st n r=some ds):Dy st (n+1) (p::r)=some (d::ds):=by
 show (match toD st n p,Dy st n r with
  | some d,some ds=>some (d::ds)
  | _,_=>none)=_
 rw [h1,h2]
theorem C1 {st:List (List PV)}{n i:Nat}{l:List PV}{ds:List PyData}(h1:st[i]? = some l)(h2:Dy st n l=some ds):toD st (n+1) (.lst i)=some (.list ds):=by
 show (match st[i]? with
  | some l=>(Dy st n l).map PyData.list
  | none=>none)=_
 rw [h1]
 show (Dy st n l).map _=_
 rw [h2];rfl
theorem EF {a b:PV}{x y:PyData}{s:PS}{r:Bool}(h:eqT a b=none)(d1:toD s.st 64 a=some x)(d2:toD s.st 64 b=some y)(s1:SeqAt.shaped x=true)(s2:SeqAt.shaped y=true)(e:PyData.eqv x y=r):eqP a b s = .ok r s:=by
 unfold eqP
 rw [h,d1,d2]
 show (if (SeqAt.shaped x&&SeqAt.shaped y)=true then R.ok (PyData.eqv x y) s else .stuck)=_
 rw [s1,s2,e];rfl
theorem Ij {t:Txt}(h:okT t):PyData.strOk (txt t)=true:=by
 unfold PyData.strOk
 simp [txt]
 exact λc m=>by have:=h c m;exact la [_] [([2],[2228223])] ([2,3,0],[2228225]) rfl this
section
variable {loc:Nat->Option PV}{st:List (List PV)}{Q:PV->PS->Prop}{E:PX->PS->Prop}
theorem Gr {a b:Nat}{x y:List PV}(ha:st[a]? = some x)(hb:st[b]? = some y)(h:(x++y).length<=big)(hQ:Q (.lst st.length) ⟨loc,st++[x++y]⟩):wp (Ai .Add (.lst a) (.lst b)) ⟨loc,st⟩ Q E:=by
 show wp (ac (ar a) λx=>ac (ar b) λy=>ao (x++y)) _ Q E
 rw [wp_bind,Cg,ha]
 dsimp only
 rw [wp_bind,Cg,hb]
 dsimp only
 rw [Ig]
 exact ⟨h,hQ⟩
theorem Units.snoc {cs:Txt}{ts:List Txt}{c:Nat}{t:Txt}(h:Units cs ts)(hc:AA c)(u:UnitOf c t):Units (cs++[c]) (ts++[t]):=by
 induction h with
 | nil=>exact .cons hc u .nil
 | cons hc' u' r ih=>exact .cons hc' u' ih
theorem Q7 {V:Type}{m:M V}{s s':PS}{a:V}{Q:V->PS->Prop}{E:PX->PS->Prop}(h:m s = .ok a s'):wp m s Q E=Q a s':=by unfold wp;rw [h]
theorem Wf {V:Type}{m:M V}{s s':PS}{a:V}{Q:V->PS->Prop}{E:PX->PS->Prop}(h:m s = .ok a s')(k:Q a s'):wp m s Q E:=by rw [Q7 h];exact k
theorem M6 {a b:PV}{r:Bool}{s:PS}(h:eqP a b s = .ok r s)(k:Q (.bool r) s):wp (Ao .Eq a b) s Q E:=wpB (f:=λr=>ae (PV.bool r)) (Wf h k)
theorem AY (l:List PV):st <+: st++[l]:=prefix_append _ _
end
theorem KD {x y z:Txt}{p i c:Nat}(h:x.drop p=y++z)(h1:p<=i)(h2:i<p+y.length)(hc:x[i]? = some c):c∈y:=by
 have e:(x.drop p)[i - p]? = some c:=by rw [getElem?_drop,show p+(i - p)=i by exact Nat.le_antisymm (la [_,_,_] [([2,4,0],[6])] ([4,2,0],[6]) rfl (Mi.lcC (la [_,_] [([2],[4])] ([2],[4]) rfl h1))) (la [_,_,_] [([2],[4,6,0])] ([2],[6,4,0]) rfl (Mi.lcS _ _))];exact hc
 rw [h,getElem?_append_left (by exact la [_,_,_,_] [([2,3,0],[4,6,0]),([8,4,0],[2])] ([8,3,0],[6]) rfl h2 (Mi.lcC (la [_,_] [([2],[4])] ([2],[4]) rfl h1)))] at e
 exact mem_of_getElem? e
theorem OE {x y:Txt}{p i c:Nat}(h:x.drop p=y)(h1:p<=i)(hc:x[i]? = some c):c∈y:=by
 have e:(x.drop p)[i - p]? = some c:=by rw [getElem?_drop,show p+(i - p)=i by exact Nat.le_antisymm (la [_,_,_] [([2,4,0],[6])] ([4,2,0],[6]) rfl (Mi.lcC (la [_,_] [([2],[4])] ([2],[4]) rfl h1))) (la [_,_,_] [([2],[4,6,0])] ([2],[6,4,0]) rfl (Mi.lcS _ _))];exact hc
 rw [h] at e
 exact mem_of_getElem? e
theorem Q8 {c:Nat}{z:Txt}:c∈z->∃ z1 z2,z=z1++c::z2/\c∉z1:=by
 induction z with
 | nil=>exact λh=>(by cases h)
 | cons a z ih=>
  intro h
  by_cases q:a=c
  ·exact ⟨[],z,by rw [q];rfl,by simp⟩
  ·have:c∈z:=by
    rcases mem_cons.mp h with e | m
    ·exact absurd e.symm q
    ·exact m
   obtain ⟨z1,z2,e,n⟩:=ih this
   exact ⟨a::z1,z2,by rw [e];rfl,λm=>by
    rcases mem_cons.mp m with e | m
    ·exact q e.symm
    ·exact n m⟩
def Tw (c:Nat):Prop:=plainB c=true/\c≠39
theorem Tw.legal {c:Nat}(h:Tw c):legal c=true:=by unfold Mi.legal;rw [F0 h.1];rfl
section
variable {p:Nat}{x:Txt}{loc:Nat->Option PV}{st:List (List PV)}{Q:PV->PS->Prop}{E:PX->PS->Prop}
theorem U9 {y z:Txt}{n:Nat}(h:x.drop p=y++z)(hp:p<=x.length)(hn:n=p+y.length):slc x (some (p:Int)) (some (n:Int))=y:=by
 subst hn;exact CR h hp rfl
theorem D3 {ts:List Txt}{cs rest:Txt}{o:BOut}(hx:x.length<=1000000)(u:Units cs ts)(h:x.drop p=34::(ts.flatten++rest))(b:Bas x (p+1+ts.flatten.length) cs o):Bas x (p+1) [] o:=by
 have h1:x.drop (p+1)=ts.flatten++rest:=AP (y:=[34]) h
 have lt:=Be h
 exact OD hx u (by exact la [_,_] [([2,3,0],[4])] ([2,3,0],[4]) rfl lt) h1 (by simpa using b)
end
theorem Gs {c:Nat}{b:Txt}:GA [c] b=true↔c∈b:=by
 unfold GA
 rw [any_eq_true]
 constructor
 ·rintro ⟨i,_,h⟩
  have h:(b.drop i).take 1=[c]:=by simpa using h
  cases q:b.drop i with
  | nil=>rw [q] at h;cases h
  | cons d r=>
   rw [q] at h
   have:d=c:=by simpa using h
   subst this
   exact List.mem_of_mem_drop (i:=i) (by rw [q];exact mem_cons_self)
 ·intro m
  obtain ⟨i,lt,e⟩:=List.getElem_of_mem m
  refine ⟨i,mem_range.mpr (by exact la [_,_] [([2,3,0],[4])] ([2,3,0],[4,3,0]) rfl lt),?_⟩
  rw [drop_eq_getElem_cons lt,e]
  simp
section
variable {k:Nat}{x:Txt}{r:Row}{loc:Nat->Option PV}{st:List (List PV)}{Q:PV->PS->Prop}{E:PX->PS->Prop}
end
theorem Va {x:Txt}{n:Nat}(h:n<=x.length):slc x none (some (n:Int))=x.take n:=by
 unfold slc bnd
 simp only [Int.natCast_nonneg,if_true,Int.toNat_natCast,Nat.min_eq_left h,drop_zero]
theorem Q9 {x:Txt}{n:Nat}:slc x (some (n:Int)) none=x.drop n:=by
 unfold slc bnd
 simp only [Int.natCast_nonneg,if_true,Int.toNat_natCast,take_length]
 by_cases h:n<=x.length
 ·rw [Nat.min_eq_left h]
 ·rw [Nat.min_eq_right (by exact la [_,_] [([2,3,0],[4])] ([2],[4]) rfl (Nat.not_le.mp h)),List.drop_length,List.drop_eq_nil_of_le (by exact la [_,_] [([2,3,0],[4])] ([2],[4]) rfl (Nat.not_le.mp h))]
section
variable {p:Nat}{x text:Txt}{us:List Txt}{loc:Nat->Option PV}{st:List (List PV)}{Q:PV->PS->Prop}{E:PX->PS->Prop}
end
theorem Gu {st:List (List PV)}{loc:Nat->Option PV}{i:Int}{t:Txt}(h:okT t):eqP (.tup [.int i,.str t]) (.tup [.int i,.str t]) ⟨loc,st⟩ = .ok true ⟨loc,st⟩:=by
 have s1:SeqAt.shaped (.tuple [.int i,.str (txt t)])=true:=by
  unfold SeqAt.shaped
  simp [PyData.canLay0,PyData.canLayAll0,Ij h,PyData.depth,PyData.depthAll]
 exact EF rfl rfl rfl s1 s1 (by simp [PyData.eqv,PyData.eqvAll])
theorem Hj {a b:PV}{s:PS}{Q:PV->PS->Prop}{E:PX->PS->Prop}(h:eqP a b s = .ok true s)(hQ:Q (.bool false) s):wp (Ao .NotEq a b) s Q E:=by
 show wp (ac (eqP a b) λr=>ae (.bool !r)) s Q E
 rw [wp_bind,Q7 h]
 exact hQ
section
variable {V:Type}{loc:Nat->Option PV}{st:List (List PV)}{E:PX->PS->Prop}
theorem Je {f:PV->M Unit}{fs:List (PV->M Unit)}{v:PV}{vs:List PV}{s:PS}{Q:Unit->PS->Prop}:wp (aF (f::fs) (v::vs)) s Q E=wp (f v) s (λU s'=>wp (aF fs vs) s' Q E) E:=by
 show wp (ac (f v) λU=>aF fs vs) s Q E=_
 rw [wp_bind]
end
theorem FJ {f:PV->M Unit}{fs:List (PV->M Unit)}{v:PV}{vs:List PV}{s:PS}{Q:Unit->PS->Prop}{E:PX->PS->Prop}(k:wp (f v) s (λU s'=>wp (aF fs vs) s' Q E) E):wp (aF (f::fs) (v::vs)) s Q E:=by rw [Je];exact k
theorem Tx {s:PS}{Q:Unit->PS->Prop}{E:PX->PS->Prop}(k:Q () s):wp (aF [] []) s Q E:=k
theorem AF {st st':List (List PV)}{i:Nat}{l:List PV}(p:st <+: st')(h:st[i]? = some l):st'[i]? = some l:=by
 obtain ⟨t,rfl⟩:=p
 rw [getElem?_append_left (List.getElem?_eq_some_iff.mp h).1];exact h
section
variable {loc:Nat->Option PV}{st:List (List PV)}{Q:PV->PS->Prop}{E:PX->PS->Prop}
theorem Ty {i:Nat}{l:List PV}(h:st[i]? = some l):wp (A7 [.lst i]) ⟨loc,st⟩ Q E=(l.length<=big/\Q (.int l.length) ⟨loc,st⟩):=by
 show wp (ac (ar i) λl=>am (l.length<=big) (ae (.int l.length))) _ Q E=_
 rw [wp_bind,Cg,h]
 dsimp only
 rw [Az,I7]
 simp
end

section
variable {s:PS}{loc:Nat->Option PV}{st:List (List PV)}{Q:PV->PS->Prop}{E:PX->PS->Prop}
theorem Tz {l:List Int}:wp (A7 [.ints l]) s Q E=(decide (l.length<=big)=true/\Q (.int l.length) s):=Az
theorem DO {i:Nat}{Q:(Nat->M (Option PV))->PS->Prop}:wp (Dx (.lst i)) s Q E=Q (B0 (.lst i)) s:=rfl
end
theorem M7 {get:Nat->M (Option PV)}{i:Nat}{b:M PFlow}{P:Nat->PS->Prop}{R:PS->Prop}{E:PX->PS->Prop}{f n:Nat}{s:PS}(p:Nat->PV)(h0:P 0 s)(hf:n<f)(hget:∀ k s,P k s->k<n->get k s = .ok (some (p k)) s)(hend:∀ s,P n s->get n s = .ok none s)
  (step:∀ k L st,P k ⟨L,st⟩->k<n->wp b ⟨upd L i (p k),st⟩ (λfl s'=>(fl = .next\/fl = .cont)/\P (k+1) s') λU U=>False) (fin:∀ s,P n s->R s):wp (aG get (ah i) b f 0) s (λf s'=>f = .next/\R s') E:=
 To (E:=E) P n p hget hend (λk s z lt=>by
  obtain ⟨L,st⟩:=s
  refine wpSet (wp_mono (step k L st z lt) (λfl s' y=>?_) λU U y=>y.elim)
  obtain ⟨rfl | rfl,y⟩:=y
  ·exact y
  ·exact y) (λs z=>⟨rfl,fin s z⟩) f 0 s h0 (aP _) (by rw [Nat.sub_zero];exact hf)
theorem TA {x:Txt}{p:Nat}:slc x none (some (p:Int))=x.take (min p x.length):=by
 show (x.take (bnd (p:Int) x.length)).drop 0=_
 rw [show bnd (p:Int) x.length=min p x.length from if_pos (Int.natCast_nonneg p)]
 rfl
theorem Hk {c p:Nat}{x:Txt}:posns c (x.take p) p=posns c x p:=by
 unfold posns
 refine List.filter_congr λi hi=>?_
 rw [List.getElem?_take_of_lt (mem_range.mp hi)]
def Ra (k:Nat):Option Nat->Nat
 | none=>k
 | some i=>i+1
theorem Mc (x:Txt)(l:List Nat):∀ (k:Nat),(B4 x k l)[l.length]? = some (x.drop (Ra k l.getLast?)):=by
 induction l with
 | nil=>exact λU=>rfl
 | cons i l ih=>
  intro k
  rw [B4,length_cons,List.getElem?_cons_succ,ih (i+1)]
  cases l with
  | nil=>rfl
  | cons a r=>rw [List.getLast?_cons_cons,List.getLast?_eq_some_getLast (cons_ne_nil a r)];rfl
abbrev DP (x:Txt)(p:Nat):List Txt:=Bp 10 (x.take (min p x.length))
theorem OF (x:Txt)(p:Nat):(DP x p).length=lineOf x p:=by
 have l:(x.take (min p x.length)).length=min p x.length:=by rw [length_take];exact bk (Nat.min_le_right ..)
 unfold DP lineOf
 rw [Ew,Od,l,Hk,Nat.add_comm]
def Eg (x:Txt)(p:Nat):Txt:=(x.take (min p x.length)).drop (Ra 0 (posns 10 x (min p x.length)).getLast?)
theorem Md (x:Txt)(p:Nat):∃ m,lineOf x p=m+1/\(DP x p)[m]? = some (Eg x p):=by
 have l:(x.take (min p x.length)).length=min p x.length:=by rw [length_take];exact bk (Nat.min_le_right ..)
 refine ⟨_,Nat.add_comm ..,?_⟩
 have:=Mc (x.take (min p x.length)) (posns 10 x (min p x.length)) 0
 unfold DP Eg
 rw [Ew,l,Hk]
 exact this
theorem Rb (x:Txt)(p:Nat):(Eg x p).length<=x.length:=by
 unfold Eg
 rw [length_drop]
 exact aQ (Nat.sub_le ..) (by rw [length_take];exact Nat.min_le_right ..)
theorem Rc {x:Txt}{p:Nat}(h:p<x.length):(((Eg x p).length:Nat):Int)+1=Di x p:=by
 have e:min p x.length=p:=bk (bq h)
 unfold Eg Di
 rw [e,length_drop,length_take,e]
 cases q:(posns 10 x p).getLast? with
 | none=>rfl
 | some i=>
  have:i<p:=Ky (List.mem_of_getLast? q)
  show ((p - (i+1):Nat):Int)+1=(p:Int) - i
  lia
theorem Rd (m:Nat):idx (-1) (m+1)=some m:=by
 unfold idx
 rw [if_neg (by decide),if_pos (by lia)]
 exact congrArg some (by lia)
section
variable {loc:Nat->Option PV}{st:List (List PV)}{Q:PV->PS->Prop}{E:PX->PS->Prop}
theorem Ue {x:Txt}{c:Nat}(hc:c<256)(hx:x.length<=big)(hs:(Bp c x).length<=big)(h:Q (.lst st.length) ⟨loc,st++[(Bp c x).map .str]⟩):wp (FE (.str x) [.str [c]]) ⟨loc,st⟩ Q E:=by
 refine wpO (by rw [decide_eq_true hc,decide_eq_true hx];rfl) ?_
 exact wpNL (by rw [length_map];exact hs) h
theorem FK {x msg:Txt}{p:Nat}(hx:x.length<=1000000)(hm:msg.length<=1000)(hQ:∀ st' i,st <+: st'->st'[i]? = some [.str (B7 x p msg)]->Q (.lst i) ⟨loc,st'⟩):wp (ak (BF Kx) [.str x,.int p,.str msg]) ⟨loc,st⟩ Q E:=by
 have q0:(posns 10 x (min p x.length)).length<=1000000:=aQ FF (aQ (Nat.min_le_right ..) hx)
 have lo:lineOf x p<=1000001:=by unfold lineOf;rw [Nat.add_comm];exact bx q0
 have ln:=OF x p
 obtain ⟨m,em,hl⟩:=Md x p
 have ll:(Eg x p).length<=1000000:=aQ (Rb x p) hx
 have tk:(x.take (min p x.length)).length<=big:=An (aQ (by rw [length_take];exact Nat.min_le_right ..) hx)
 have g:(st++[(DP x p).map PV.str])[st.length]? = some ((DP x p).map PV.str):=last_new
 have lm:((DP x p).map PV.str).length=lineOf x p:=by rw [length_map,ln]
 refine Br 1 λL B=>?_
 unfold BF
 refine AV (Al (c:=decide ((p:Int)≥(x.length:Int))) (by walk_at "wp";exact An hx;exact ⟨rfl,rfl⟩) (λh=>?_) λh=>?_)
 ·have h:x.length<=p:=Int.ofNat_le.mp (aY h)
  walk_at "wp"
  ·exact BY hm (show _<=21 by decide) (by decide)
  ·exact (by decide:1<=big)
  refine hQ _ _ (AY _) ?_
  rw [last_new]
  unfold B7
  rw [show C8 x p=VP from if_pos h,append_assoc,append_assoc]
  rfl
 ·have h:¬ x.length<=p:=λz=>of_decide_eq_false h (Int.ofNat_le.mpr z)
  have hlt:p<x.length:=Nat.lt_of_not_le h
  refine wpR ?_
  generalize hst:st++[(DP x p).map PV.str]=st' at g
  have pst:st <+: st':=hst▸AY _
  refine wpA st' [some (.str x),some (.int p),some (.str msg),some (.lst st.length)] ?_ λL B=>?_
  ·walk_at "wp"
   refine He TA tk ?_
   refine KtI ?_
   refine wpO rfl ?_
   walk_at "wp"
   refine Ue (by decide) tk (by rw [show (Bp 10 (x.take (min p x.length))).length=_ from ln];exact aQ lo (by decide)) ?_
   rw [hst]
   walk_at "wp"
   exact ⟨rfl,(B.set 3 _ |> At.mk _ rfl)⟩
  have l1:(BM (lineOf x p:Nat)).length<=10:=Dh (bv lo (by decide))
  have l2:(BM (((Eg x p).length:Nat)+1:Int)).length<=10:=Dh (n:=(Eg x p).length+1) (bv (bx ll) (by decide))
  walk_at "wp"
  ·exact BY hm (show _<=10 by decide) (by decide)
  rw [Ty g,lm]
  refine ⟨aQ lo (by decide),?_⟩
  walk_at "wp"
  ·exact AH (bv lo (by decide))
  ·exact BY (BL hm (show _<=10 by decide)) l1 (by decide)
  ·exact BY (BL (BL hm (show _<=10 by decide)) l1) (show _<=9 by decide) (by decide)
  refine F1 rfl g (by rw [lm,em];exact Rd m) (by rw [getElem?_map,hl];rfl) ?_
  walk_at "wp"
  ·exact An ll
  ·exact AH (i:=((Eg x p).length+1:Nat)) (bv (bx ll) (by decide))
  ·exact BY (BL (BL (BL hm (show _<=10 by decide)) l1) (show _<=9 by decide)) l2 (by decide)
  ·exact BY (BL (BL (BL (BL hm (show _<=10 by decide)) l1) (show _<=9 by decide)) l2) (show _<=1 by decide) (by decide)
  ·exact (by decide:1<=big)
  refine hQ _ _ (pst.trans (AY _)) ?_
  rw [last_new]
  unfold B7 C8
  rw [if_neg h,<- Rc hlt]
  unfold QP Jb
  simp only [append_assoc,List.cons_append,nil_append]
end
def rdM (q:Nat):M PFlow:=if q=39 then Aw Kx else Ah Kx
section
variable {x:Txt}{p q:Nat}{loc:Nat->Option PV}{st:List (List PV)}{Q:PV->PS->Prop}{E:PX->PS->Prop}
theorem Hl {L:Nat->Option PV}{B:Loc [some (.str x),some (.int p)] L}{Q':PV->PS->Prop}{E':PX->PS->Prop}(hq:q=39\/q=34)(hx:x[p]? = some q)(hl:p<1000000)(h:wp (ak (rdM q) [.str x,.int p]) ⟨L,st⟩ Q' E') :
  wp (ac ((ac ((ac (af 0) λa=>ac (af 1) λb=>Au false a b)) λa=>ac (ae (.str [39])) λb=>ac (Ao .Eq a b) tst)) λc=>if c then (ac (ag [af 0,af 1]) (ak (Aw Kx))) else (ac (ag [af 0,af 1]) (ak (Ah Kx)))) ⟨L,st⟩ Q' E':=by
 unfold rdM at h
 have lt:=(bc.mp hx).1
 have hc:x.getD p 0=q:=by rw [getD_eq_getElem?_getD,hx];rfl
 refine Al (c:=decide (q=39)) ?_ (λz=>?_) λz=>?_
 ·walk_at "wp"
  refine HK (AH (aZ hl (by decide))) (Ea lt) ?_
  rw [hc]
  walk_at "wp"
  refine ⟨?_,rfl⟩
  rcases hq with rfl | rfl <;> rfl
 ·rw [if_pos (of_decide_eq_true z)] at h
  refine wpB (wpSC (wpL B rfl (wpSC (wpL B rfl (wpSN ?_)))))
  exact h
 ·rw [if_neg (of_decide_eq_false z)] at h
  refine wpB (wpSC (wpL B rfl (wpSC (wpL B rfl (wpSN ?_)))))
  exact h
theorem OG {v:PV}(hq:q=39\/q=34)(hx:x[p]? = some q)(hl:p<1000000)(rd:∀ (L:Nat->Option PV) (Q':PV->PS->Prop) (E':PX->PS->Prop),Q' v ⟨L,st⟩->wp (ak (rdM q) [.str x,.int p]) ⟨L,st⟩ Q' E')(hQ:Q v ⟨loc,st⟩):wp (ak (Ay Kx) [.str x,.int p]) ⟨loc,st⟩ Q E:=by
 refine Br 0 λL B=>?_
 unfold Ay
 rw [DM]
 refine wpB (Hl (B:=B) hq hx hl (rd _ _ _ ?_))
 walk_at "wp"
 exact hQ
theorem Me {t:Txt}(hq:q=39\/q=34)(hx:x[p]? = some q)(hl:p<1000000)(rd:∀ (L:Nat->Option PV) (Q':PV->PS->Prop) (E':PX->PS->Prop),E' (.toml t) ⟨L,st⟩->wp (ak (rdM q) [.str x,.int p]) ⟨L,st⟩ Q' E')(hQ:∀ st' i,st <+: st'->st'[i]? = some [.str t]->Q (.lst i) ⟨loc,st'⟩):wp (ak (Ay Kx) [.str x,.int p]) ⟨loc,st⟩ Q E:=by
 refine Br 0 λL B=>?_
 unfold Ay
 rw [DM]
 refine wpB (Hl (B:=B) hq hx hl (rd _ _ _ ?_))
 show wp (aJ _) _ _ _
 rw [Te]
 walk_at "wp"
 ·exact (by decide:1<=big)
 exact hQ _ _ (AY _) last_new
end
def uniT:Txt:=[69,115,99,97,112,101,100,32,99,104,97,114,97,99,116,101,114,32,105,115,32,110,111,116,32,97,32,85,110,105,99,111,100,101,32,115,99,97,108,97,114,32,118,97,108,117,101]
section
variable {p:Nat}{x:Txt}{loc:Nat->Option PV}{st:List (List PV)}{Q:PV->PS->Prop}{E:PX->PS->Prop}
theorem OH {c:Nat}(h:¬ AA c)(hQ:Q (.bool false) ⟨loc,st⟩):wp (ak (AE Kx) [.int c]) ⟨loc,st⟩ Q E:=by
 refine Br 0 λL B=>?_
 unfold AE
 refine wpB (QV ?_)
 walk_at "wp"
 refine Gq ⟨_,rfl,?_⟩
 have h1:decide ((c:Int)<=55295)=false:=decide_eq_false λz=>h (.inl (Int.ofNat_le.mp z))
 rw [h1,Bool.and_false,if_neg Bool.false_ne_true]
 walk_at "wp"
 refine Gq ?_
 have h2:(decide ((57344:Int)<=c)&&decide ((c:Int)<=1114111))=false:=by
  cases q:decide ((57344:Int)<=c) with
  | false=>rfl
  | true=>exact decide_eq_false λz=>h (.inr ⟨Int.ofNat_le.mp (aY q),Int.ofNat_le.mp z⟩)
 rw [h2]
 exact hQ
theorem M8 {n:Nat}{h:Txt}(hx:x.length<=1000000)(hp:p+n<=1000000)(hn:n=4\/n=8)(hs:slc x (some (p:Int)) (some ((p+n:Nat):Int))=h)(h1:h.length=n)(h2:h.all hexd=true)(hb:¬ AA (hexval h))
  (hE:E (.toml (B7 x (p+n) uniT)) ⟨loc,st⟩):wp (ak (AB Kx) [.str x,.int p,.int n]) ⟨loc,st⟩ Q E:=by
 have hl:h.length<=1000000:=hs▸aQ Gp hx
 refine Br 2 λL aO=>?_
 unfold AB
 refine wpA st (tH x p n (some (.str h)) none) ?_ λL aO=>?_
 ·walk_at "wp"
  refine He hs (An hl) ?_
  walk_at "wp"
  exact ⟨rfl,(aO.set 3 _ |> At.mk _ rfl)⟩
 refine AV ?_
 refine Al (c:=false) ?_ (λhb=>(by cases hb)) (λU=>?_)
 ·refine Ef ?_
  walk_at "wp"
  ·exact An hl
  walk_at "wp"
  rw [isZ,decide_eq_true h1,Bool.not_true,if_neg (by decide)]
  refine Ef ?_
  walk_at "wp"
  refine Uc ?_
  walk_at "wp"
  rw [show (h.all λc=>AQ 4 c)=h.all hexd from rfl,h2]
  exact ⟨rfl,rfl⟩
 refine wpR ?_
 refine wpA st (tH x (p+n) n (some (.str h)) none) ?_ λL aO=>?_
 ·walk_at "wp"
  exact ⟨rfl,(aO.set 1 _ |> At.mk _ rfl)⟩
 refine wpA st (tH x (p+n) n (some (.str h)) (some (.int (hexval h)))) ?_ λL aO=>?_
 ·walk_at "wp"
  refine M5 ?_ ?_
  ·have ne:h.isEmpty=false:=by cases h with
    | nil=>rcases hn with rfl | rfl <;> cases h1
    | cons=>rfl
   rw [ne,h2,h1,decide_eq_true (show n<=640 by lia)];rfl
  walk_at "wp"
  exact ⟨rfl,(aO.set 4 _ |> At.mk _ rfl)⟩
 refine AV ?_
 refine Al (c:=true) ?_ (λU=>?_) (λh=>(by cases h))
 ·walk_at "wp"
  refine OH hb ?_
  walk_at "wp"
  exact ⟨rfl,rfl⟩
 walk_at "wp"
 exact CQ (An hx) (bv hp (by decide)) (by decide) hE
theorem TB {a b:Nat}(ha:a<=x.length)(hb:x.length<=b):slc x (some (a:Int)) (some (b:Int))=x.drop a:=by
 rw [D0,Nat.min_eq_right hb,Nat.min_eq_left ha,take_length]
theorem Mf {ts:List Txt}{cs rest:Txt}(hx:x.length<=1000000)(hK:x.length+1<Kx)(u:Units cs ts)(h:x.drop p=34::(ts.flatten++34::rest))(hQ:Q (.tup [.int ((p+(ts.flatten.length+2):Nat):Int),.str cs]) ⟨loc,st⟩):wp (ak (Ah Kx) [.str x,.int p]) ⟨loc,st⟩ Q E:=by
 have h1:x.drop (p+1)=ts.flatten++34::rest:=AP (y:=[34]) h
 refine Cq hx (Be h) hK (D3 hx u h (.quote (B8 (AP h1)))) ?_
 dsimp only
 rw [show p+1+ts.flatten.length+1=p+(ts.flatten.length+2) by exact Nat.le_antisymm (la [_,_] [] ([2,3,0,4,0,3,0],[2,4,5,0,0]) rfl) (la [_,_] [] ([2,4,5,0,0],[2,3,0,4,0,3,0]) rfl)]
 exact hQ
theorem Re {ts:List Txt}{cs:Txt}(hx:x.length<=1000000)(hK:x.length+1<Kx)(u:Units cs ts)(h:x.drop p=34::ts.flatten)(hE:E (.toml (B7 x x.length untT)) ⟨loc,st⟩):wp (ak (Ah Kx) [.str x,.int p]) ⟨loc,st⟩ Q E:=by
 have lt:=Be h
 have hl:(x.drop p).length=ts.flatten.length+1:=by rw [h];rfl
 rw [length_drop] at hl
 refine Cq hx lt hK (D3 hx u (rest:=[]) (by rw [append_nil];exact h) ?_) (o:=.err (B7 x x.length untT)) hE
 rw [show p+1+ts.flatten.length=x.length by exact Nat.le_antisymm (la [_,_,_,_] [([2,3,0],[4]),([4,6,0],[8])] ([6,3,0,2,0],[8]) rfl (Nat.le_of_eq hl.symm) (Mi.lcC (la [_,_] [([2,3,0],[4])] ([2],[4]) rfl lt))) (la [_,_,_,_] [([2],[4,3,0]),([6],[2,8,0])] ([6],[8,3,0,4,0]) rfl (Nat.le_of_eq hl) (Mi.lcS _ _))]
 exact .eof
theorem Rf {ts:List Txt}{cs t rest:Txt}(hx:x.length<=1000000)(hK:x.length+1<Kx)(u:Units cs ts)(h:x.drop p=34::(ts.flatten++92::rest))(f:L8 x (p+1+ts.flatten.length) t)(hE:E (.toml t) ⟨loc,st⟩):wp (ak (Ah Kx) [.str x,.int p]) ⟨loc,st⟩ Q E:=by
 have h1:x.drop (p+1)=ts.flatten++92::rest:=AP (y:=[34]) h
 exact Cq hx (Be h) hK (D3 hx u h (.escBad (B8 (AP h1)) f)) hE
theorem Rg {ts:List Txt}{cs rest:Txt}{c:Nat}(hx:x.length<=1000000)(hK:x.length+1<Kx)(u:Units cs ts)(h:x.drop p=34::(ts.flatten++c::rest))(h1:AQ 0 c=true)(h2:c≠34)(h3:c≠92)(h5:(A3 [c]).length<=100)
  (hE:E (.toml (B7 x (p+1+ts.flatten.length) (HL++A3 [c]))) ⟨loc,st⟩):wp (ak (Ah Kx) [.str x,.int p]) ⟨loc,st⟩ Q E:=by
 have q1:x.drop (p+1)=ts.flatten++c::rest:=AP (y:=[34]) h
 exact Cq hx (Be h) hK (D3 hx u h (.bad (B8 (AP q1)) h2 h3 h1 h5)) hE
theorem Mg {y rest:Txt}(hx:x.length<=1000000)(h:x.drop p=39::(y++39::rest))(hy:∀ c∈y,Tw c)(hQ:Q (.tup [.int ((p+(y.length+2):Nat):Int),.str y]) ⟨loc,st⟩):wp (ak (Aw Kx) [.str x,.int p]) ⟨loc,st⟩ Q E:=by
 have h1:x.drop (p+1)=y++39::rest:=AP (y:=[39]) h
 have lt:=Be h
 have at39:x[p+1+y.length]? = some 39:=B8 (AP h1)
 refine Hh hx λL=>L7 hx (i:=p+1+y.length) (by exact la [_,_] [] ([2,3,0],[2,3,0,4,0]) rfl) at39 (λk k1 k2 e=>(hy 39 (KD h1 k1 k2 e)).2 rfl) (λk k1 k2 c e=>(hy c (KD h1 k1 k2 e)).legal) ⟨_,rfl,rfl,?_⟩
 rw [U9 h1 (by exact la [_,_] [([2,3,0],[4])] ([2,3,0],[4]) rfl lt) rfl]
 rw [show p+1+y.length+1=p+(y.length+2) by exact Nat.le_antisymm (la [_,_] [] ([2,3,0,4,0,3,0],[2,4,5,0,0]) rfl) (la [_,_] [] ([2,4,5,0,0],[2,3,0,4,0,3,0]) rfl)]
 exact hQ
theorem Rh {y:Txt}(hx:x.length<=1000000)(h:x.drop p=39::y)(hy:39∉y)(hE:E (.toml (B7 x x.length (Tv++[34,39,34]))) ⟨loc,st⟩):wp (ak (Aw Kx) [.str x,.int p]) ⟨loc,st⟩ Q E:=by
 have h1:x.drop (p+1)=y:=AP (y:=[39]) h
 have lt:=Be h
 exact Hh hx λL=>OC hx (by exact la [_,_] [([2],[2000001]),([4,3,0],[2])] ([4,3,0],[2000001]) rfl hx lt) (λk k1 e=>hy (OE h1 k1 e)) hE
theorem Ri {b:Nat}{y z:Txt}(hx:x.length<=1000000)(hK:x.length<Kx)(h:x.drop p=39::(y++b::z))(hy:∀ c∈y,Tw c)(hb:legal b=false)(hb9:b≠39)(hr:(A3 [b]).length<=100)(hz:39∈z)
  (hE:E (.toml (B7 x (p+1+y.length) (Tu++A3 [b]))) ⟨loc,st⟩):wp (ak (Aw Kx) [.str x,.int p]) ⟨loc,st⟩ Q E:=by
 obtain ⟨z1,z2,rfl,n1⟩:=Q8 hz
 have lt:=Be h
 have h1:x.drop (p+1)=y++b::(z1++39::z2):=AP (y:=[39]) h
 have h2:x.drop (p+1+y.length)=b::(z1++39::z2):=AP h1
 have h3:x.drop (p+1+y.length+1)=z1++39::z2:=AP (y:=[b]) h2
 have h4:x.drop (p+1+y.length+1+z1.length)=39::z2:=AP h3
 have l2:=Be h2
 have l4:=Be h4
 refine Hh hx λL=>QU hx (i:=p+1+y.length+1+z1.length) (j:=p+1+y.length) (b:=b) (by lia) (by exact la [_,_,_] [] ([2,3,0],[2,3,0,4,0,3,0,6,0]) rfl) (B8 h4) (λi i1 i2 e=>?_) (by exact la [_,_] [] ([2,3,0],[2,3,0,4,0]) rfl) (by exact la [_,_,_] [] ([2,3,0,4,0,3,0],[2,3,0,4,0,3,0,6,0]) rfl) (B8 h2) hb (λi i1 i2 c e=>(hy c (KD h1 i1 i2 e)).legal) hr hE
 by_cases q:i<p+1+y.length
 ·exact (hy 39 (KD h1 i1 q e)).2 rfl
 ·by_cases q2:i=p+1+y.length
  ·subst q2;rw [B8 h2] at e;exact hb9 (aT e)
  ·exact n1 (KD h3 (by lia) i2 e)
end
theorem KF {x:Txt}{p n:Nat}(hp:p<=x.length):slc x (some (p:Int)) (some ((p+n:Nat):Int))=(x.drop p).take n:=by
 by_cases h:p+n<=x.length
 ·exact CR (y:=(x.drop p).take n) (z:=(x.drop p).drop n) (List.take_append_drop ..).symm hp (by rw [length_take,length_drop];lia)
 ·rw [TB hp (by exact la [_,_,_] [([2,3,0],[4,6,0])] ([2],[4,6,0]) rfl (Nat.not_le.mp h)),take_of_length_le (by rw [length_drop];exact la [_,_,_,_] [([2,3,0],[4,6,0]),([8,4,0],[2])] ([8],[6]) rfl (Nat.not_le.mp h) (Mi.lcC (la [_,_] [([2],[4])] ([2],[4]) rfl hp)))]
def UD (d n:Nat):Prop:=(d=117/\n=4)\/(d=85/\n=8)
inductive EscF (r:Txt):Txt->Nat->Prop
 | name:escT (92::r.take 1)=none->r.take 1≠[117]->r.take 1≠[85]->EscF r escpT 2
 | hex {d n:Nat}:r.take 1=[d]->UD d n->¬ (((r.drop 1).take n).length=n/\((r.drop 1).take n).all hexd=true)->EscF r hexT 2
 | uni {d n:Nat} {h:Txt}:r.take 1=[d]->UD d n->(r.drop 1).take n=h->h.length=n->h.all hexd=true->¬ AA (hexval h)->EscF r uniT (2+n)
theorem Rj {x r w:Txt}{q k:Nat}(f:EscF r w k)(hx:x.length<=900000)(h:x.drop q=92::r):L8 x q (B7 x (q+k) w):=by
 have lt:=Be h
 have hx':x.length<=1000000:=by exact la [_] [([2],[1800001])] ([2],[2000001]) rfl hx
 have he:slc x (some (q:Int)) (some ((q+2:Nat):Int))=92::r.take 1:=by rw [KF (Nat.le_of_lt lt),h];rfl
 have two:∀ {d:Nat},r.take 1=[d]->q+2<=x.length:=λ{d} e=>by
  have a:(x.drop q).length=r.length+1:=by rw [h];rfl
  have b:1<=r.length:=by cases r with
   | nil=>cases e
   | cons=>exact bx (aP _)
  rw [length_drop] at a
  exact la [_,_,_,_] [([2,3,0],[4]),([3],[2]),([4,6,0],[8])] ([6,5,0],[8]) rfl (aS a.symm) b (Mi.lcC (la [_,_] [([2,3,0],[4])] ([2],[4]) rfl lt))
 have more:∀ {d n:Nat},r.take 1=[d]->slc x (some ((q+2:Nat):Int)) (some ((q+2+n:Nat):Int))=(r.drop 1).take n:=λ{d n} e=>by
  rw [KF (two e),show x.drop (q+2)=(x.drop q).drop 2 by rw [List.drop_drop],h];rfl
 intro loc st Q E hE
 refine E8 hx' (by exact la [_,_] [([2,3,0],[4]),([4],[2000001])] ([2],[2000001]) rfl lt hx') he (λe L=>?_) (λe L=>?_) (λe1 e2=>?_)
 ·have e:r.take 1=[117]:=(List.cons.inj e).2
  cases f with
  | name _ a _=>exact absurd e a
  | @hex d n a b c=>
   have hn:n=4:=by
    rcases b with ⟨_,z⟩ | ⟨z,_⟩
    ·exact z
    ·rw [a,z] at e;cases e
   subst hn
   exact (E7 (n:=4) hx' (by exact la [_,_] [([2],[1800001]),([4,3,0],[2])] ([4,5,0],[2000001]) rfl hx lt) (.inl rfl) (more a)).2 c hE
  | @uni d n hh a b c l1 l2 l3=>
   have hn:n=4:=by
    rcases b with ⟨_,z⟩ | ⟨z,_⟩
    ·exact z
    ·rw [a,z] at e;cases e
   subst hn
   exact M8 hx' (by exact la [_,_] [([2],[1800001]),([4,3,0],[2])] ([4,5,0,9,0],[2000001]) rfl hx lt) (.inl rfl) (c▸more a) l1 l2 l3 (by rw [Nat.add_assoc];exact hE)
 ·have e:r.take 1=[85]:=(List.cons.inj e).2
  cases f with
  | name _ _ a=>exact absurd e a
  | @hex d n a b c=>
   have hn:n=8:=by
    rcases b with ⟨z,_⟩ | ⟨_,z⟩
    ·rw [a,z] at e;cases e
    ·exact z
   subst hn
   exact (E7 (n:=8) hx' (by exact la [_,_] [([2],[1800001]),([4,3,0],[2])] ([4,5,0],[2000001]) rfl hx lt) (.inr rfl) (more a)).2 c hE
  | @uni d n hh a b c l1 l2 l3=>
   have hn:n=8:=by
    rcases b with ⟨z,_⟩ | ⟨_,z⟩
    ·rw [a,z] at e;cases e
    ·exact z
   subst hn
   exact M8 hx' (by exact la [_,_] [([2],[1800001]),([4,3,0],[2])] ([4,5,0,17,0],[2000001]) rfl hx lt) (.inr rfl) (c▸more a) l1 l2 l3 (by rw [Nat.add_assoc];exact hE)
 ·have nu:∀ {d n:Nat},r.take 1=[d]->¬ UD d n:=λ{d n} a b=>by
   rcases b with ⟨z,_⟩ | ⟨z,_⟩
   ·subst z;exact e1 (congrArg _ a)
   ·subst z;exact e2 (congrArg _ a)
  cases f with
  | name a _ _=>rw [a];exact hE
  | hex a b _=>exact absurd b (nu a)
  | uni a b _ _ _ _=>exact absurd b (nu a)
abbrev dig16:Txt:=[48,49,50,51,52,53,54,55,56,57,97,98,99,100,101,102]
def Jf (c:Nat):Txt:=[dig16.getD (c / 16 % 16) 0,dig16.getD (c % 16) 0]
def VU (c:Nat):Txt:=if c=10 then [110] else if c=13 then [114] else [120]++Jf c
theorem Hm {c:Nat}(h:AQ 0 c=true):c<128:=by
 unfold AQ ctl at h
 simp at h
 lia
theorem Rk {c:Nat}(h:AQ 0 c=true):[73,108,108,101,103,97,108,32,99,104,97,114,97,99,116,101,114,32,39,92]++VU c++[39]=HL++A3 [c]/\(HL++A3 [c]).length<=200/\(A3 [c]).length<=100/\hexval ([48,48]++Jf c)=c/\([48,48]++Jf c).all hexd=true:=(by decide +kernel:∀ c<128,AQ 0 c=true->[73,108,108,101,103,97,108,32,99,104,97,114,97,99,116,101,114,32,39,92]++VU c++[39]=HL++A3 [c]/\(HL++A3 [c]).length<=200/\(A3 [c]).length<=100/\hexval ([48,48]++Jf c)=c/\([48,48]++Jf c).all hexd=true) c (Hm h) h
theorem C2 {a b:Txt}(h:okT a)(k:okT b):okT (a++b):=λc m=>(mem_append.mp m).elim (h c) (k c)
theorem Bx {a:Txt}(h:a.all (λc=>decide (c<=1114111))=true):okT a:=λc m=>aY (all_eq_true.mp h c m)
theorem M9 (i:Int):okT (BM i):=by
 unfold BM
 rw [Str.ofString_eq_toList]
 intro c m
 obtain ⟨d,_,rfl⟩:=mem_map.mp (show c∈(toString i).toList.map Char.toNat from m)
 have:=d.valid
 unfold UInt32.isValidChar Nat.isValidChar at this
 show d.val.toNat<=_
 lia
theorem Gv {x w:Txt}{p:Nat}(h:okT w):okT (B7 x p w):=by
 unfold B7
 refine C2 (C2 (C2 h (Bx (by decide))) ?_) (Bx (by decide))
 unfold C8
 split
 ·exact Bx (by decide)
 ·exact C2 (C2 (C2 (Bx (by decide)) (M9 _)) (Bx (by decide))) (M9 _)
theorem Gw {st:List (List PV)}{loc:Nat->Option PV}{a b:Nat}{w:Txt}(ha:st[a]? = some [.str w])(hb:st[b]? = some [.str w])(hw:okT w):eqP (.lst a) (.lst b) ⟨loc,st⟩ = .ok true ⟨loc,st⟩:=by
 have s1:SeqAt.shaped (.list [.str (txt w)])=true:=by
  unfold SeqAt.shaped
  simp [PyData.canLay0,PyData.canLayAll0,Ij hw,PyData.depth,PyData.depthAll]
 exact EF rfl (C1 ha rfl) (C1 hb rfl) s1 s1 (by simp [PyData.eqv,PyData.eqvAll])
inductive FaultR (c:Nat)(r w:Txt)(k:Nat):Prop
 | esc:c=92->EscF r w k->FaultR c r w k
 | ctl:c≠92->AQ 0 c=true->w=HL++A3 [c]->k=0->FaultR c r w k
section
variable {loc:Nat->Option PV}{st:List (List PV)}{Q:PV->PS->Prop}{E:PX->PS->Prop}
theorem Rl {hd dn tx w r src:Txt}{ts:List Txt}{c k:Nat}(hs:src=dn++c::r)(hl:src.length<=90000)(hdn:dn=hd++34::ts.flatten)(un:Units tx ts)(n34:c≠34)(F:FaultR c r w k)
  (st:List (List PV)) (L:Nat->Option PV) (Q':PV->PS->Prop) (E':PX->PS->Prop) (hE:E' (.toml (B7 src (dn.length+k) w)) ⟨L,st⟩):wp (ak (Ah Kx) [.str src,.int (hd.length:Nat)]) ⟨L,st⟩ Q' E':=by
 have h1:src.drop hd.length=34::(ts.flatten++c::r):=by rw [hs,hdn,append_assoc,drop_left];rfl
 have h2:src.drop dn.length=c::r:=by rw [hs,drop_left]
 have e:hd.length+1+ts.flatten.length=dn.length:=by rw [hdn];simp;exact be (la [_,_] [] ([2,3,0,4,0],[2,4,3,0,0]) rfl) (la [_,_] [] ([2,4,3,0,0],[2,3,0,4,0]) rfl)
 have hK:src.length+1<Kx:=bv (bx hl) (aZ (by decide) Kx_big)
 cases F with
 | esc c92 f=>
  subst c92
  exact Rf (aQ hl (by decide)) hK un h1 (by rw [e];exact Rj f (aQ hl (by decide)) h2) hE
 | ctl c92 q ew ek=>
  subst ew ek
  have ⟨_,_,e3,_⟩:=Rk q
  exact Rg (aQ hl (by decide)) hK un h1 q n34 c92 e3 (by rw [e];exact hE)
end
def Rm (c:Nat):Txt:=if c=10 then [110] else if c=13 then [114] else [120]++Jf c
def ctlW (c:Nat):Txt:=if plainB c then [] else [32,99,104,97,114,97,99,116,101,114,32,39,92]++Rm c++[39]
def illO:Txt:=[73,108,108,101,103,97,108]
def KG:Txt:=[70,111,117,110,100,32,105,110,118,97,108,105,100]
theorem Rn {c:Nat}(q:AQ 0 c=false):plainB c=true:=by
 unfold plainB
 have q:((decide (c<32)||c==127)&&c != 9)=false:=q
 by_cases h1:c=9
 ·subst h1;rfl
 ·rw [show (c != 9)=true from bne_iff_ne.mpr h1,Bool.and_true,or_eq_false_iff] at q
  have a:=of_decide_eq_false q.1
  rw [show (c != 127)=true by rw [bne,q.2];rfl,decide_eq_true (by exact la [_] [([65],[2])] ([65],[2]) rfl (Nat.not_lt.mp a):32<=c),Bool.or_true];rfl
theorem Mj {c:Nat}:((decide ((c:Int)>31)&&!((c:Int)==127))||((c:Int)==9))=plainB c:=by
 rw [show ((c:Int)==9)=decide (c=9) from isZ (b:=9),show ((c:Int)==127)=decide (c=127) from isZ (b:=127),show decide ((c:Int)>31)=decide (32<=c) from decide_eq_decide.mpr Int.ofNat_lt]
 unfold plainB
 by_cases h1:c=9
 ·subst h1;rfl
 ·rw [decide_eq_false h1,Bool.or_false,show (c==9)=false from beq_eq_false_iff_ne.mpr h1,Bool.false_or,Bool.and_comm]
  rfl
theorem CK {c:Nat}(q:plainB c=false):AQ 0 c=true:=by
 cases h:AQ 0 c with
 | true=>rfl
 | false=>rw [Rn h] at q;cases q
theorem CL {c:Nat}(h:plainB c=false):(illO++ctlW c=HL++A3 [c]/\KG++ctlW c=Tu++A3 [c])/\((illO++ctlW c).length<=200/\(KG++ctlW c).length<=200)/\(illO++ctlW c).all (λc=>decide (c<=1114111))=true/\(KG++ctlW c).all (λc=>decide (c<=1114111))=true/\(A3 [c]).length<=100:=
 have k:∀ c<128,plainB c=false->((illO++ctlW c=HL++A3 [c]/\KG++ctlW c=Tu++A3 [c])/\((illO++ctlW c).length<=200/\(KG++ctlW c).length<=200)/\(illO++ctlW c).all (λc=>decide (c<=1114111))=true/\(KG++ctlW c).all (λc=>decide (c<=1114111))=true/\(A3 [c]).length<=100):=by decide +kernel
 k c (Hm (CK h)) h
theorem DQ (f:Txt)(c:Nat):hexval (f++[c])=hexval f*16+hexdig c:=by
 show (f++[c]).foldl (λa c=>a*16+hexdig c) 0=_
 rw [List.foldl_append];rfl
def DR:Nat->Nat
 | 0=>0
 | n+1=>DR n*16+1
theorem Hn (f:Txt)(D d:Nat)(h:hexdig D=d):∀ n,hexval (f++replicate n D)=hexval f*16 ^ n+d*DR n:=by
 intro n
 induction n with
 | zero=>rw [List.replicate_zero,append_nil,Nat.pow_zero,Nat.mul_one];rfl
 | succ n ih=>
  rw [List.replicate_succ',<- append_assoc,DQ,ih,h,Nat.pow_succ]
  show _=hexval f*(16 ^ n*16)+d*(DR n*16+1)
  rw [Nat.add_mul,Nat.mul_assoc,Nat.mul_add,Nat.mul_one,Nat.mul_assoc,Nat.add_assoc]
theorem Ro {n:Nat}(h:n<=8):DR n=(16 ^ n - 1) / 15:=(by decide:∀ n≤8,DR n=(16 ^ n - 1) / 15) n h
theorem OI {c:Nat}(h:hexd c=true):hexdig c<16:=(by decide:∀ c<128,hexd c=true->hexdig c<16) c (Gm h) h
theorem FL {f:Txt}(h:f.all hexd=true):hexval f<16 ^ f.length:=by
 have go:∀ (l:List Nat),l.all hexd=true->hexval l.reverse<16 ^ l.length:=by
  intro l
  induction l with
  | nil=>intro _;decide
  | cons a l ih=>
   intro h
   rw [all_cons,and_eq_true] at h
   rw [List.reverse_cons,DQ,length_cons,Nat.pow_succ]
   have:=ih h.2
   have:=OI h.1
   lia
 have:=go f.reverse (by rw [List.all_reverse];exact h)
 rw [List.reverse_reverse,List.length_reverse] at this
 exact this
def plainN:Txt:=[112,108,97,105,110]
def namedN:Txt:=[110,97,109,101,100]
def figuresN:Txt:=[102,105,103,117,114,101,115]
def closedN:Txt:=[99,108,111,115,101,100]
def refusedN:Txt:=[114,101,102,117,115,101,100]
structure S7 where
 name:Txt
 lack:Nat
 num:Nat
 words:Txt
 since:Nat
 text:Txt
def S7.row (s:S7):List PV:=[.str s.name,.int (s.lack:Nat),.int (s.num:Nat),.str s.words,.int (s.since:Nat),.str s.text]
inductive Sem (h:Nat)(p:Txt):S7->Prop
 | plain {ts:List Txt} {text:Txt}:Units text ts->p=ts.flatten->Sem h p ⟨plainN,0,0,untT,h+1+p.length,text⟩
 | named {ts:List Txt} {text:Txt}:Units text ts->p=ts.flatten++[92]->Sem h p ⟨namedN,0,0,escpT,h+1+ts.flatten.length+2,text⟩
 | figures {ts:List Txt} {text f:Txt} {d n l:Nat}:Units text ts->UD d n->f.length+l=n->0<l->f.all hexd=true->p=ts.flatten++92::d::f->Sem h p ⟨figuresN,l,hexval f,hexT,h+1+ts.flatten.length+2,text⟩
 | closed {ts:List Txt} {text rest:Txt}:Units text ts->p=ts.flatten++34::rest->Sem h p ⟨closedN,0,0,[],h+1+ts.flatten.length+1,text⟩
 | refused {ts:List Txt} {text w r:Txt} {c k:Nat}:Units text ts->c≠34->okT w->w.length<=200->k<=10->(∀ z,FaultR c (r++z) w k)->p=ts.flatten++c::r->Sem h p ⟨refusedN,0,0,w,h+1+ts.flatten.length+k,text⟩
def namOf (nm:Txt):Option Nat:=if nm=[98] then some 8 else if nm=[116] then some 9 else if nm=[110] then some 10 else if nm=[102] then some 12 else if nm=[114] then some 13 else if nm=[34] then some 34 else if nm=[92] then some 92 else none
abbrev nmK:List PV:=[.str [98],.str [116],.str [110],.str [102],.str [114],.str [34],.str [92]]
abbrev nmV:List PV:=[.str [8],.str [9],.str [10],.str [12],.str [13],.str [34],.str [92]]
theorem KH (nm:Txt):Dc nmK nmV (.str nm)=some ((namOf nm).map λc=>.str [c]):=by
 unfold namOf
 by_cases h1:nm=[98]
 ·subst h1;rfl
 by_cases h2:nm=[116]
 ·subst h2;rfl
 by_cases h3:nm=[110]
 ·subst h3;rfl
 by_cases h4:nm=[102]
 ·subst h4;rfl
 by_cases h5:nm=[114]
 ·subst h5;rfl
 by_cases h6:nm=[34]
 ·subst h6;rfl
 by_cases h7:nm=[92]
 ·subst h7;rfl
 have go:∀ (k:Txt) ks v vs,nm≠k->CU (.str k::ks) (v::vs) (.str nm)=CU ks vs (.str nm):=λk ks v vs h=>by
  show (match some (k==nm) with
   | some true=>some (some v)
   | some false=>CU ks vs (.str nm)
   | none=>none)=_
  rw [show (k==nm)=false from beq_eq_false_iff_ne.mpr λz=>h z.symm]
 rw [if_neg h1,if_neg h2,if_neg h3,if_neg h4,if_neg h5,if_neg h6,if_neg h7]
 exact (go _ _ _ _ h1).trans ((go _ _ _ _ h2).trans ((go _ _ _ _ h3).trans ((go _ _ _ _ h4).trans ((go _ _ _ _ h5).trans ((go _ _ _ _ h6).trans (go _ _ _ _ h7))))))
theorem Rp {nm:Txt}{c:Nat}(h:namOf nm=some c):∃ d,nm=[d]/\escT [92,d]=some [c]/\d≠117/\d≠85/\AA c/\(d=92->c=92):=by
 unfold namOf at h
 by_cases h1:nm=[98]
 ·subst h1;cases h;exact ⟨98,rfl,by decide,by decide,by decide,.inl (by decide),by decide⟩
 by_cases h2:nm=[116]
 ·subst h2;cases h;exact ⟨116,rfl,by decide,by decide,by decide,.inl (by decide),by decide⟩
 by_cases h3:nm=[110]
 ·subst h3;cases h;exact ⟨110,rfl,by decide,by decide,by decide,.inl (by decide),by decide⟩
 by_cases h4:nm=[102]
 ·subst h4;cases h;exact ⟨102,rfl,by decide,by decide,by decide,.inl (by decide),by decide⟩
 by_cases h5:nm=[114]
 ·subst h5;cases h;exact ⟨114,rfl,by decide,by decide,by decide,.inl (by decide),by decide⟩
 by_cases h6:nm=[34]
 ·subst h6;cases h;exact ⟨34,rfl,by decide,by decide,by decide,.inl (by decide),by decide⟩
 by_cases h7:nm=[92]
 ·subst h7;cases h;exact ⟨92,rfl,by decide,by decide,by decide,.inl (by decide),by decide⟩
 rw [if_neg h1,if_neg h2,if_neg h3,if_neg h4,if_neg h5,if_neg h6,if_neg h7] at h
 cases h
theorem Rq {nm:Txt}(h:namOf nm=none):escT (92::nm)=none/\nm≠[34]/\nm≠[92]:=by
 unfold namOf at h
 have n1:nm≠[98]:=λe=>by subst e;cases h
 have n2:nm≠[116]:=λe=>by subst e;cases h
 have n3:nm≠[110]:=λe=>by subst e;cases h
 have n4:nm≠[102]:=λe=>by subst e;cases h
 have n5:nm≠[114]:=λe=>by subst e;cases h
 have n6:nm≠[34]:=λe=>by subst e;cases h
 have n7:nm≠[92]:=λe=>by subst e;cases h
 refine ⟨?_,n6,n7⟩
 have ne:∀ k:Txt,nm≠k->((92::nm)==(92::k))=false:=λk z=>aX.mpr λe=>z (List.cons.inj e).2
 unfold escT DV
 simp only [lookup_cons,ne _ n1,ne _ n2,ne _ n3,ne _ n4,ne _ n5,ne _ n6,ne _ n7,List.lookup_nil]
theorem Rs {nm:Txt}{s:PS}{Q:PV->PS->Prop}{E:PX->PS->Prop}(h:Q (.bool (namOf nm).isSome) s):wp (Ao .In (.str nm) (.dct nmK nmV)) s Q E:=by
 unfold wp
 have:Ao .In (.str nm) (.dct nmK nmV) s=R.ok (PV.bool (namOf nm).isSome) s:=by
  show (ac (aw ((Dc _ _ (.str nm)).map (·.isSome))) λr=>ae (PV.bool r)) s=_
  rw [KH]
  cases namOf nm <;> rfl
 rw [this];exact h
theorem Mk {nm:Txt}{c:Nat}(h:namOf nm=some c){s:PS}{Q:PV->PS->Prop}{E:PX->PS->Prop}(k:Q (.str [c]) s):wp (Au false (.dct nmK nmV) (.str nm)) s Q E:=by
 unfold wp
 have:Au false (.dct nmK nmV) (.str nm) s=R.ok (PV.str [c]) s:=by
  show aw ((Dc _ _ (.str nm)).bind id) s=_
  rw [KH,h]
  rfl
 rw [this];exact k
def AZ (s:S7)(c place:Nat):S7:=
 if s.name=plainN then
  if c=34 then ⟨closedN,0,0,[],place+1,s.text⟩
  else if c=92 then ⟨namedN,0,0,escpT,place+2,s.text⟩
  else if plainB c=false then ⟨refusedN,0,0,illO++ctlW c,place,s.text⟩
  else ⟨plainN,0,0,untT,place+1,s.text++[c]⟩
 else if s.name=namedN then
  match namOf [c] with
  | some d=>⟨plainN,0,0,untT,place+1,s.text++[d]⟩
  | none=>if c=117 then ⟨figuresN,4,0,hexT,place+1,s.text⟩ else if c=85 then ⟨figuresN,8,0,hexT,place+1,s.text⟩ else ⟨refusedN,0,0,s.words,s.since,s.text⟩
 else if s.name=figuresN then
  if hexd c=true then
   if 1<s.lack then ⟨figuresN,s.lack - 1,16*s.num+hexdig c,s.words,s.since,s.text⟩
   else if (16*s.num+hexdig c<55296\/57344<=16*s.num+hexdig c/\16*s.num+hexdig c<1114112) then ⟨plainN,0,0,untT,place+1,s.text++[16*s.num+hexdig c]⟩
   else ⟨refusedN,0,0,uniT,place+1,s.text⟩
  else ⟨refusedN,0,0,s.words,s.since,s.text⟩
 else s
theorem nmP:namedN≠plainN:=by decide
theorem fgP:figuresN≠plainN:=by decide
theorem fgN:figuresN≠namedN:=by decide
theorem clP:closedN≠plainN:=by decide
theorem clN:closedN≠namedN:=by decide
theorem clF:closedN≠figuresN:=by decide
theorem rfP:refusedN≠plainN:=by decide
theorem rfN:refusedN≠namedN:=by decide
theorem rfF:refusedN≠figuresN:=by decide
theorem sc_iff {v:Nat}:(v<55296\/57344<=v/\v<1114112)↔AA v:=by unfold AA;lia
theorem Ik {c:Nat}(h:AA c):c<=1114111:=by unfold AA at h;lia
theorem Jg {d n c:Nat}{f z:Txt}(u:UD d n)(l:f.length<n)(a:hexd c=false):EscF (d::f++c::z) hexT 2:=by
 refine .hex rfl u λy=>?_
 have y2:((f++c::z).take n).all hexd=true:=y.2
 obtain ⟨m,rfl⟩:∃ m,n=f.length+(m+1):=⟨n - f.length - 1,by lia⟩
 rw [List.take_append,all_append,show f.length+(m+1) - f.length=m+1 by exact Nat.le_antisymm (la [_,_,_] [([2,4,0],[4,6,3,0,0])] ([2],[6,3,0]) rfl (Mi.lcC (la [_,_] [] ([2],[2,4,3,0,0]) rfl))) (la [_,_,_] [([2,4,3,0,0],[6,2,0])] ([4,3,0],[6]) rfl (Mi.lcS _ _)),List.take_succ_cons,all_cons,a] at y2
 simp at y2
theorem Jh {d n:Nat}{h z:Txt}(u:UD d n)(l:h.length=n)(a:h.all hexd=true)(s:¬ AA (hexval h)):EscF (d::h++z) uniT (2+n):=by
 refine .uni rfl u (h:=h) ?_ l a s
 show (h++z).take n=h
 rw [<- l,List.take_left]
theorem Ho {d n:Nat}{h:Txt}(u:UD d n)(l:h.length=n)(a:h.all hexd=true):UnitOf (hexval h) (92::d::h):=by
 rcases u with ⟨rfl,rfl⟩ | ⟨rfl,rfl⟩
 ·exact .four l a rfl
 ·exact .eight l a rfl
theorem UD.le {d n:Nat}(u:UD d n):n<=8:=by rcases u with ⟨_,rfl⟩ | ⟨_,rfl⟩ <;> decide
theorem Ch {ts:List Txt}{u:Txt}:(ts++[u]).flatten=ts.flatten++u:=by rw [List.flatten_append,flatten_cons,List.flatten_nil,append_nil]
set_option tactic.hygienic true in
theorem Rt {h c:Nat}{p:Txt}{s:S7}(hs:Sem h p s)(sc:AA c):Sem h (p++[c]) (AZ s c (h+1+p.length)):=by
 have ln:(p++[c]).length=p.length+1:=by rw [length_append];rfl
 cases hs with
 | @plain ts text u e=>
  unfold AZ
  rw [if_pos rfl]
  split
  ·rename_i z
   subst z
   rw [e]
   exact .closed u rfl
  split
  ·rename_i z
   subst z
   rw [e]
   exact .named u rfl
  split
  ·rename_i n34 n92 z
   have ⟨⟨e1,_⟩,⟨l1,_⟩,o1,_⟩:=CL z
   rw [e1] at l1 o1 ⊢
   rw [e]
   exact .refused (k:=0) (r:=[]) u n34 (Bx o1) l1 (by decide) (λy=>.ctl n92 (CK z) rfl rfl) rfl
  ·rename_i n34 n92 z
   have pc:plainB c=true:=by cases q:plainB c with
    | true=>rfl
    | false=>exact absurd q z
   have:=Sem.plain (h:=h) (p:=p++[c]) (u.snoc sc (.raw pc n34 n92)) (by rw [Ch,e])
   rw [ln] at this
   exact this
 | @named ts text u e=>
  have lp:p.length=ts.flatten.length+1:=by rw [e,length_append];rfl
  unfold AZ
  rw [if_neg nmP,if_pos rfl]
  cases q:namOf [c] with
  | some d=>
   obtain ⟨d',ed,k1,k2,k3,k4,_⟩:=Rp q
   obtain rfl:=(List.cons.inj ed).1
   have:=Sem.plain (h:=h) (p:=p++[c]) (u.snoc k4 (.short k1 k2 k3)) (by rw [Ch,e,append_assoc];rfl)
   rw [ln] at this
   exact this
  | none=>
   have ⟨k1,k2,k3⟩:=Rq q
   dsimp only
   split
   ·rename_i z
    subst z
    rw [show h+1+p.length+1=h+1+ts.flatten.length+2 by exact Nat.le_antisymm (la [_,_,_] [([2],[4,3,0])] ([6,3,0,2,0,3,0],[6,3,0,4,0,5,0]) rfl (Nat.le_of_eq lp)) (la [_,_,_] [([2,3,0],[4])] ([6,3,0,2,0,5,0],[6,3,0,4,0,3,0]) rfl (Nat.le_of_eq lp.symm))]
    exact .figures (f:=[]) (n:=4) (d:=117) u (.inl ⟨rfl,rfl⟩) rfl (by decide) rfl (by rw [e,append_assoc];rfl)
   split
   ·rename_i z
    subst z
    rw [show h+1+p.length+1=h+1+ts.flatten.length+2 by exact Nat.le_antisymm (la [_,_,_] [([2],[4,3,0])] ([6,3,0,2,0,3,0],[6,3,0,4,0,5,0]) rfl (Nat.le_of_eq lp)) (la [_,_,_] [([2,3,0],[4])] ([6,3,0,2,0,5,0],[6,3,0,4,0,3,0]) rfl (Nat.le_of_eq lp.symm))]
    exact .figures (f:=[]) (n:=8) (d:=85) u (.inr ⟨rfl,rfl⟩) rfl (by decide) rfl (by rw [e,append_assoc];rfl)
   ·rename_i n1 n2
    exact .refused (k:=2) (c:=92) (r:=[c]) u (by decide) (Bx (by decide)) (by decide) (by decide) (λy=>.esc rfl (.name k1 (λz=>n1 (List.cons.inj z).1) λz=>n2 (List.cons.inj z).1)) (by rw [e,append_assoc];rfl)
 | @figures ts text f d n l u ud fl l0 fa e=>
  have lp:p.length=ts.flatten.length+2+f.length:=by rw [e,length_append];simp;exact be (la [_,_] [] ([2,4,3,0,3,0,0],[2,5,0,4,0]) rfl) (la [_,_] [] ([2,5,0,4,0],[2,4,3,0,3,0,0]) rfl)
  have n8:=ud.le
  unfold AZ
  rw [if_neg fgP,if_neg fgN,if_pos rfl]
  split
  ·rename_i hc
   have fa':(f++[c]).all hexd=true:=by rw [all_append,fa,all_cons,hc];rfl
   have hv:16*hexval f+hexdig c=hexval (f++[c]):=by rw [DQ,Nat.mul_comm]
   have e':p++[c]=ts.flatten++92::d::(f++[c]):=by rw [e,append_assoc];rfl
   dsimp only
   rw [hv]
   split
   ·exact .figures u ud (by rw [length_append];show f.length+1+(l - 1)=n;exact be (la [_,_,_,_] [([2,4,0],[6]),([8,3,0],[4])] ([2,3,0,8,0],[6]) rfl (aS fl) (Mi.lcC (la [_] [([1,3,0],[2])] ([3],[2]) rfl l0))) (la [_,_,_,_] [([2],[4,6,0]),([6],[8,3,0])] ([2],[4,3,0,8,0]) rfl (aS fl.symm) (Mi.lcS _ _))) (by lia) fa' e'
   have l1:l=1:=by lia
   have fn:(f++[c]).length=n:=by rw [length_append];show f.length+1=n;exact be (la [_,_,_] [([2,4,0],[6]),([3],[4])] ([2,3,0],[6]) rfl (aS fl) (aS l1.symm)) (la [_,_,_] [([2],[4,6,0]),([6],[3])] ([2],[4,3,0]) rfl (aS fl.symm) (aS l1))
   split
   ·rename_i z
    have:=Sem.plain (h:=h) (p:=p++[c]) (u.snoc (sc_iff.mp z) (Ho ud fn fa')) (by rw [Ch,e'])
    rw [ln] at this
    exact this
   ·rename_i z
    rw [show h+1+p.length+1=h+1+ts.flatten.length+(2+n) by exact Nat.le_antisymm (la [_,_,_,_,_,_] [([2,4,0],[6]),([8],[10,5,0,2,0]),([3],[4])] ([12,3,0,8,0,3,0],[12,3,0,10,0,5,6,0,0]) rfl (Nat.le_of_eq fl) (Nat.le_of_eq lp) (Nat.le_of_eq l1.symm)) (la [_,_,_,_,_,_] [([2],[4,6,0]),([8,5,0,4,0],[10]),([6],[3])] ([12,3,0,8,0,5,2,0,0],[12,3,0,10,0,3,0]) rfl (Nat.le_of_eq fl.symm) (Nat.le_of_eq lp.symm) (Nat.le_of_eq l1))]
    exact .refused (c:=92) (r:=d::(f++[c])) u (by decide) (Bx (by decide)) (by decide) (by exact la [_] [([2],[17])] ([5,2,0],[21]) rfl n8) (λy=>.esc rfl (Jh ud fn fa' λk=>z (sc_iff.mpr k))) e'
  ·rename_i hc
   have hc:hexd c=false:=by cases q:hexd c with
    | false=>rfl
    | true=>exact absurd q hc
   exact .refused (k:=2) (c:=92) (r:=d::(f++[c])) u (by decide) (show okT hexT from Bx (by decide)) (show hexT.length<=200 by decide) (by decide) (λy=>.esc rfl (by
    have:=Jg (z:=y) ud (show f.length<n by exact la [_,_,_] [([2,4,0],[6]),([1,3,0],[4])] ([2,3,0],[6]) rfl (aS fl) l0) hc
    rw [show d::(f++[c])++y=d::f++c::y by simp]
    exact this)) (by rw [e,append_assoc];rfl)
 | @closed ts text rest u e=>
  unfold AZ
  rw [if_neg clP,if_neg clN,if_neg clF]
  exact .closed (rest:=rest++[c]) u (by rw [e,append_assoc];rfl)
 | @refused ts text w r d k u n34 ow wl kl f e=>
  unfold AZ
  rw [if_neg rfP,if_neg rfN,if_neg rfF]
  exact .refused (r:=r++[c]) u n34 ow wl kl (λy=>by rw [append_assoc];exact f _) (by rw [e,append_assoc];rfl)
def Ji (q:Nat)(x:Txt)(p at_:Nat)(w:Txt):Prop:=∀ (st:List (List PV)) (L:Nat->Option PV) (Q':PV->PS->Prop) (E':PX->PS->Prop),E' (.toml (B7 x at_ w)) ⟨L,st⟩->wp (ak (rdM q) [.str x,.int (p:Nat)]) ⟨L,st⟩ Q' E'
def Gives (q:Nat)(x:Txt)(p n:Nat)(t:Txt):Prop:=∀ (st:List (List PV)) (L:Nat->Option PV) (Q':PV->PS->Prop) (E':PX->PS->Prop),Q' (.tup [.int (n:Nat),.str t]) ⟨L,st⟩->wp (ak (rdM q) [.str x,.int (p:Nat)]) ⟨L,st⟩ Q' E'
theorem Vb:rdM 39=Aw Kx:=if_pos rfl
theorem Vc:rdM 34=Ah Kx:=if_neg (by decide)
section
variable {hd x:Txt}
theorem Ru (hl:x.length<=90000):x.length+1<Kx:=bv (bx hl) (aZ (by decide) Kx_big)
theorem Dj {ts:List Txt}{text rest:Txt}{n:Nat}(hl:x.length<=90000)(u:Units text ts)(hx:x=hd++34::(ts.flatten++34::rest))(hn:n=hd.length+(ts.flatten.length+2)):Gives 34 x hd.length n text:=by
 intro st L Q' E' hQ
 subst hn
 rw [Vc]
 exact Mf (aQ hl (by decide)) (Ru hl) u (by rw [hx,drop_left]) hQ
theorem KI {ts:List Txt}{text:Txt}{n:Nat}(hl:x.length<=90000)(u:Units text ts)(hx:x=hd++34::ts.flatten)(hn:n=x.length):Ji 34 x hd.length n untT:=by
 intro st L Q' E' hE
 subst hn
 rw [Vc]
 exact Re (aQ hl (by decide)) (Ru hl) u (by rw [hx,drop_left]) hE
theorem B9 {ts:List Txt}{text r w:Txt}{c k n:Nat}(hl:x.length<=90000)(u:Units text ts)(n34:c≠34)(f:FaultR c r w k)(hx:x=hd++34::(ts.flatten++c::r))(hn:n=hd.length+1+ts.flatten.length+k):Ji 34 x hd.length n w:=by
 intro st L Q' E' hE
 rw [Vc]
 refine Rl (hd:=hd) (dn:=hd++34::ts.flatten) (r:=r) (src:=x) (by rw [hx,append_assoc];rfl) hl rfl u n34 f st L Q' E' ?_
 have e:(hd++34::ts.flatten).length+k=n:=by rw [hn];simp;exact be (la [_,_] [] ([2,4,3,0,0],[2,3,0,4,0]) rfl) (la [_,_] [] ([2,3,0,4,0],[2,4,3,0,0]) rfl)
 rw [e];exact hE
theorem TC {p:Txt}{s:S7}(hs:Sem hd.length p s)(hx:x=hd++34::p)(hl:x.length<=90000) :
  (s.name=closedN/\Gives 34 x hd.length s.since s.text)\/(s.name≠closedN/\Ji 34 x hd.length s.since s.words/\okT s.words/\s.words.length<=200):=by
 cases hs with
 | @plain ts text u e=>
  refine .inr ⟨by show plainN≠closedN;decide,KI hl u (e▸hx) (by rw [hx];simp;exact be (la [_,_] [] ([2,3,0,4,0],[2,4,3,0,0]) rfl) (la [_,_] [] ([2,4,3,0,0],[2,3,0,4,0]) rfl)),(by show okT untT;exact Bx (by decide)),by show untT.length<=200;decide⟩
 | @named ts text u e=>
  refine .inr ⟨by show namedN≠closedN;decide,B9 (c:=92) (r:=[]) (k:=2) hl u (by decide) (.esc rfl (.name rfl (by decide) (by decide))) (by rw [hx,e]) rfl,(by show okT escpT;exact Bx (by decide)),by show escpT.length<=200;decide⟩
 | @figures ts text f d n l u ud fl l0 fa e=>
  refine .inr ⟨by show figuresN≠closedN;decide,B9 (c:=92) (r:=d::f) (k:=2) hl u (by decide) (.esc rfl (.hex rfl ud λz=>?_)) (by rw [hx,e]) rfl,by show okT hexT;exact Bx (by decide),by show hexT.length<=200;decide⟩
  have z:=z.1
  rw [show (d::f).drop 1=f from rfl,length_take] at z
  exact (Nat.not_succ_le_zero _ (la [_,_,_,_] [([2,4,0],[6]),([1,3,0],[4]),([6],[8]),([8],[2])] ([3],[1]) rfl (aS fl) l0 (aS z.symm) (Nat.min_le_right _ _)))
 | @closed ts text rest u e=>exact .inl ⟨rfl,Dj hl u (by rw [hx,e]) (by show hd.length+1+ts.flatten.length+1=_;exact be (la [_,_] [] ([2,3,0,4,0,3,0],[2,4,5,0,0]) rfl) (la [_,_] [] ([2,4,5,0,0],[2,3,0,4,0,3,0]) rfl))⟩
 | @refused ts text w r c k u n34 ow wl kl f e=>
  have:=f []
  rw [append_nil] at this
  exact .inr ⟨by show refusedN≠closedN;decide,B9 hl u n34 this (by rw [hx,e]) rfl,ow,wl⟩
def zer (k:Nat):Txt:=replicate k 48
def closes (s:S7)(e:Txt):Option Txt:=
 if s.name=plainN then some (s.text++e)
 else if s.name=namedN then (if e=[110] then some (s.text++[10]) else none)
 else if s.name=figuresN then (if (s.num*16 ^ s.lack<55296\/57344<=s.num*16 ^ s.lack/\s.num*16 ^ s.lack<1114112)/\e≠[110]/\s.lack<=e.length then some (s.text++[s.num*16 ^ s.lack]++e.drop s.lack) else none)
 else none
inductive EndK (x:Txt)(p:Nat):Option Txt->Prop
 | yes {t:Txt}:Gives 34 x p x.length t->okT t->EndK x p (some t)
 | told {at_:Nat} {w:Txt}:Ji 34 x p at_ w->EndK x p none
 | given {n:Nat} {t:Txt}:Gives 34 x p n t->n<x.length->EndK x p none
theorem Il:∀ {e:Txt},(∀ c∈e,plainB c=true/\c≠34/\c≠92/\AA c)->Units e (e.map λc=>[c]):=by
 intro e
 induction e with
 | nil=>exact λU=>.nil
 | cons a e ih=>
  intro h
  have ⟨h1,h2,h3,h4⟩:=h a mem_cons_self
  exact .cons h4 (.raw h1 h2 h3) (ih λc m=>h c (mem_cons_of_mem _ m))
theorem KJ (e:Txt):(e.map λc=>[c]).flatten=e:=by
 induction e with
 | nil=>rfl
 | cons a e ih=>exact congrArg (a::·) ih
theorem Units.app {a b:Txt}{ts us:List Txt}(h:Units a ts)(k:Units b us):Units (a++b) (ts++us):=by
 induction h with
 | nil=>exact k
 | cons hc u _ ih=>exact .cons hc u ih
theorem Na {k:Nat}:∀ c∈zer k,plainB c=true/\c≠34/\c≠92/\AA c:=λc m=>by
 rw [eq_of_mem_replicate m];exact ⟨rfl,by decide,by decide,.inl (by decide)⟩
theorem BJ {cs:Txt}{ts:List Txt}(h:Units cs ts):okT cs:=by
 induction h with
 | nil=>exact λU m=>(by cases m)
 | cons hc _ _ ih=>
  intro c m
  rcases mem_cons.mp m with rfl | m
  ·exact Ik hc
  ·exact ih c m
set_option tactic.hygienic true in
theorem Nb {p e:Txt}{s:S7}(hs:Sem hd.length p s)(he:e=[110]\/∃ k,e=zer k)(hx:x=hd++34::(p++(e++[34])))(hl:x.length<=90000):EndK x hd.length (closes s e):=by
 have er:∀ c∈e,plainB c=true/\c≠34/\c≠92/\AA c:=by
  rcases he with rfl | ⟨k,rfl⟩
  ·intro c m;rw [mem_singleton.mp m];exact ⟨rfl,by decide,by decide,.inl (by decide)⟩
  ·exact Na
 have xl:x.length=hd.length+1+p.length+e.length+1:=by rw [hx];simp;exact be (la [_,_,_] [] ([2,4,6,3,0,0,3,0,0],[2,3,0,4,0,6,0,3,0]) rfl) (la [_,_,_] [] ([2,3,0,4,0,6,0,3,0],[2,4,6,3,0,0,3,0,0]) rfl)
 cases hs with
 | @plain ts text u e0=>
  unfold closes
  rw [if_pos rfl]
  have U:=u.app (Il er)
  have f:(ts++e.map λc=>[c]).flatten=p++e:=by rw [List.flatten_append,KJ,e0]
  exact .yes (Dj (rest:=[]) hl U (by rw [hx,f,append_assoc]) (by rw [f,xl,length_append];exact be (la [_,_,_] [] ([2,3,0,4,0,6,0,3,0],[2,4,6,0,5,0,0]) rfl) (la [_,_,_] [] ([2,4,6,0,5,0,0],[2,3,0,4,0,6,0,3,0]) rfl))) (BJ U)
 | @named ts text u e0=>
  have lp:p.length=ts.flatten.length+1:=by rw [e0,length_append];rfl
  unfold closes
  rw [if_neg nmP,if_pos rfl]
  split
  ·rename_i z
   subst z
   have U:=u.snoc (c:=10) (.inl (by decide)) (.short (d:=110) rfl (by decide) (by decide))
   have f:(ts++[[92,110]]).flatten=p++[110]:=by rw [Ch,e0,append_assoc];rfl
   exact .yes (Dj (rest:=[]) hl U (by rw [hx,f,append_assoc]) (by rw [f,xl,length_append];lia)) (BJ U)
  ·rename_i z
   obtain ⟨k,rfl⟩:=he.resolve_left z
   cases k with
   | zero=>
    have U:=u.snoc (c:=34) (.inl (by decide)) (.short (d:=34) rfl (by decide) (by decide))
    exact .told (KI hl U (by rw [hx,Ch,e0,append_assoc];rfl) rfl)
   | succ k=>exact .told (B9 (c:=92) (r:=zer (k+1)++[34]) (k:=2) hl u (by decide) (.esc rfl (.name rfl (λz=>by cases z) λz=>by cases z)) (by rw [hx,e0,append_assoc];rfl) rfl)
 | @figures ts text f d n l u ud fl l0 fa e0=>
  have lp:p.length=ts.flatten.length+2+f.length:=by rw [e0,length_append];simp;exact be (la [_,_] [] ([2,4,3,0,3,0,0],[2,5,0,4,0]) rfl) (la [_,_] [] ([2,5,0,4,0],[2,4,3,0,3,0,0]) rfl)
  unfold closes
  rw [if_neg fgP,if_neg fgN,if_pos rfl]
  dsimp only
  rcases he with rfl | ⟨k,rfl⟩
  ·rw [if_neg λz=>z.2.1 rfl]
   exact .told (B9 (c:=92) (r:=d::f++110::[34]) (k:=2) hl u (by decide) (.esc rfl (Jg ud (by exact la [_,_,_] [([2,4,0],[6]),([1,3,0],[4])] ([2,3,0],[6]) rfl (aS fl) l0) rfl)) (by rw [hx,e0,append_assoc];rfl) rfl)
  ·have zl:(zer k).length=k:=length_replicate
   have zn:zer k≠[110]:=λz=>by
    have m:110∈zer k:=by rw [z];exact mem_singleton_self _
    exact absurd (eq_of_mem_replicate m) (by decide)
   by_cases kl:l<=k
   ·obtain ⟨j,rfl⟩:∃ j,k=l+j:=⟨k - l,by exact be (la [_,_,_] [([2],[4,6,0])] ([2],[6,4,0]) rfl (Mi.lcS _ _)) (la [_,_,_] [([2,4,0],[6])] ([4,2,0],[6]) rfl (Mi.lcC (la [_,_] [([2],[4])] ([2],[4]) rfl kl)))⟩
    have zs:zer (l+j)=zer l++zer j:=List.replicate_append_replicate.symm
    have ha:(f++zer l).all hexd=true:=by rw [all_append,fa,Bool.true_and];exact all_eq_true.mpr λc m=>by rw [eq_of_mem_replicate m];rfl
    have hn:(f++zer l).length=n:=by rw [length_append];show f.length+(replicate l 48).length=n;rw [length_replicate];exact fl
    have hv:hexval (f++zer l)=hexval f*16 ^ l:=by rw [show zer l=replicate l 48 from rfl,Hn f 48 0 rfl l];lia
    by_cases sc:AA (hexval f*16 ^ l)
    ·rw [if_pos ⟨sc_iff.mpr sc,zn,by rw [zl];exact kl⟩]
     have U:=(u.snoc sc (hv▸Ho ud hn ha)).app (Il (Na (k:=j)))
     have fe:(ts++[92::d::(f++zer l)]++(zer j).map λc=>[c]).flatten=p++zer (l+j):=by rw [List.flatten_append,KJ,Ch,e0,zs];simp
     have dz:(zer (l+j)).drop l=zer j:=by rw [zs];exact List.drop_left' length_replicate
     rw [dz]
     exact .yes (Dj (rest:=[]) hl U (by rw [hx,fe,append_assoc]) (by rw [fe,xl,length_append];exact be (la [_,_,_] [] ([2,3,0,4,0,6,0,3,0],[2,4,6,0,5,0,0]) rfl) (la [_,_,_] [] ([2,4,6,0,5,0,0],[2,3,0,4,0,6,0,3,0]) rfl))) (BJ U)
    ·rw [if_neg λz=>sc (sc_iff.mp z.1)]
     exact .told (B9 (c:=92) (r:=d::(f++zer l)++(zer j++[34])) (k:=2+n) hl u (by decide) (.esc rfl (Jh ud hn ha (hv▸sc))) (by rw [hx,e0,zs];simp) rfl)
   ·rw [if_neg λz=>kl (by have:=z.2.2;rw [zl] at this;exact this)]
    exact .told (B9 (c:=92) (r:=d::(f++zer k)++34::[]) (k:=2) hl u (by decide) (.esc rfl (Jg ud (by rw [length_append,zl];exact la [_,_,_,_] [([2,4,0],[6]),([8,3,0],[4])] ([2,8,0,3,0],[6]) rfl (aS fl) (Nat.not_le.mp kl)) rfl)) (by rw [hx,e0];simp) rfl)
 | @closed ts text rest u e0=>
  have lp:p.length=ts.flatten.length+1+rest.length:=by rw [e0,length_append];simp;exact be (la [_,_] [] ([2,4,3,0,0],[2,3,0,4,0]) rfl) (la [_,_] [] ([2,3,0,4,0],[2,4,3,0,0]) rfl)
  unfold closes
  rw [if_neg clP,if_neg clN,if_neg clF]
  exact .given (Dj (rest:=rest++(e++[34])) hl u (by rw [hx,e0,append_assoc];rfl) rfl) (by exact la [_,_,_,_,_,_] [([2,3,0,4,0,6,0,3,0],[8]),([10,3,0,12,0],[4])] ([2,10,5,0,0,3,0],[8]) rfl (aS xl.symm) (aS lp.symm))
 | @refused ts text w r c k u n34 ow wl kl f e0=>
  unfold closes
  rw [if_neg rfP,if_neg rfN,if_neg rfF]
  exact .told (B9 hl u n34 (f (e++[34])) (by rw [hx,e0,append_assoc];rfl) rfl)
theorem TD {p:Txt}{s:S7}{d:Nat}(hs:Sem hd.length p s)(hn:s.name=figuresN)(hd16:d<16)(hx:x=hd++34::(p++(replicate s.lack (dig16.getD d 0)++[34])))(hl:x.length<=90000) :
  (AA (s.num*16 ^ s.lack+d*DR s.lack)/\Gives 34 x hd.length x.length (s.text++[s.num*16 ^ s.lack+d*DR s.lack])/\okT (s.text++[s.num*16 ^ s.lack+d*DR s.lack]))\/(¬ AA (s.num*16 ^ s.lack+d*DR s.lack)/\Ji 34 x hd.length (x.length - 1) uniT):=by
 cases hs with
 | @figures ts text f D n l u ud fl l0 fa e0=>
  have lp:p.length=ts.flatten.length+2+f.length:=by rw [e0,length_append];simp;exact be (la [_,_] [] ([2,4,3,0,3,0,0],[2,5,0,4,0]) rfl) (la [_,_] [] ([2,5,0,4,0],[2,4,3,0,3,0,0]) rfl)
  dsimp only at hx ⊢
  have ⟨hdd,hdv⟩:=(by decide:∀ d<16,hexd (dig16.getD d 0)=true/\hexdig (dig16.getD d 0)=d) d hd16
  have hv:=Hn f _ d hdv l
  have rl:(replicate l (dig16.getD d 0)).length=l:=length_replicate
  have ha:(f++replicate l (dig16.getD d 0)).all hexd=true:=by rw [all_append,fa,Bool.true_and];exact all_eq_true.mpr λc m=>by rw [eq_of_mem_replicate m];exact hdd
  have hn:(f++replicate l (dig16.getD d 0)).length=n:=by rw [length_append,rl];exact fl
  generalize replicate l (dig16.getD d 0)=z at hx hv rl ha hn
  have xl:x.length=hd.length+1+p.length+l+1:=by rw [hx];simp;exact be (la [_,_,_,_] [([2],[4])] ([6,8,2,3,0,0,3,0,0],[6,3,0,8,0,4,0,3,0]) rfl (aS rl)) (la [_,_,_,_] [([2],[4])] ([6,3,0,8,0,2,0,3,0],[6,8,4,3,0,0,3,0,0]) rfl (aS rl.symm))
  by_cases sc:AA (hexval f*16 ^ l+d*DR l)
  ·refine .inl ⟨sc,?_⟩
   have U:=u.snoc sc (hv▸Ho ud hn ha)
   have fe:(ts++[92::D::(f++z)]).flatten=p++z:=by rw [Ch,e0];simp
   exact ⟨Dj (rest:=[]) hl U (by rw [hx,fe,append_assoc]) (by rw [fe,xl,length_append];exact be (la [_,_,_,_] [([2],[4])] ([6,3,0,8,0,2,0,3,0],[6,8,4,0,5,0,0]) rfl (aS rl.symm)) (la [_,_,_,_] [([2],[4])] ([6,8,2,0,5,0,0],[6,3,0,8,0,4,0,3,0]) rfl (aS rl))),BJ U⟩
  ·exact .inr ⟨sc,B9 (c:=92) (r:=D::(f++z)++[34]) (k:=2+n) hl u (by decide) (.esc rfl (Jh ud hn ha (hv▸sc))) (by rw [hx,e0];simp) (by exact be (la [_,_,_,_,_,_,_,_] [([2,4,0],[6]),([8],[10,5,0,2,0]),([12],[14,3,0,8,0,4,0,3,0]),([16,3,0],[12])] ([16],[14,3,0,10,0,5,6,0,0]) rfl (aS fl) (aS lp) (aS xl) (Mi.lcC (la [_,_,_,_] [([2,3,0,4,0,6,0,3,0],[8])] ([3],[8]) rfl (aS xl.symm)))) (la [_,_,_,_,_,_,_,_] [([2],[4,6,0]),([8,5,0,4,0],[10]),([12,3,0,10,0,6,0,3,0],[14]),([14],[16,3,0])] ([12,3,0,8,0,5,2,0,0],[16]) rfl (aS fl.symm) (aS lp.symm) (aS xl.symm) (Mi.lcS _ _)))⟩
 | plain=>exact absurd hn (by show plainN≠figuresN;decide)
 | named=>exact absurd hn (by show namedN≠figuresN;decide)
 | closed=>exact absurd hn clF
 | refused=>exact absurd hn rfF
end
theorem Ml (p:Nat->Bool)(n:Nat):∃ e,(((range n).filter p)++[n])[0]? = some e/\e<=n/\(∀ j,j<e->p j=false)/\(e=n\/p e=true):=by
 have pw:((range n).filter p).Pairwise (· < ·):=List.pairwise_lt_range.filter _
 have mem:∀ j,j∈(range n).filter p↔j<n/\p j=true:=λj=>by rw [mem_filter,mem_range]
 revert pw mem
 cases (range n).filter p with
 | nil=>
  intro _ mem
  exact ⟨n,rfl,aR _,λj lt=>by
   cases q:p j with
   | false=>rfl
   | true=>exact absurd ((mem j).mpr ⟨lt,q⟩) not_mem_nil,.inl rfl⟩
 | cons a r=>
  intro pw mem
  have ⟨la,pa⟩:=(mem a).mp mem_cons_self
  refine ⟨a,rfl,bq la,λj lt=>?_,.inr pa⟩
  cases q:p j with
  | false=>rfl
  | true=>
   rcases mem_cons.mp ((mem j).mpr ⟨aZ lt la,q⟩) with rfl | m
   ·exact absurd lt (bj _)
   ·exact absurd ((List.pairwise_cons.mp pw).1 j m) (by exact Nat.not_lt.mpr (Mi.la [_,_] [([2,3,0],[4])] ([2],[4]) rfl lt))
def cutL (p:Txt):Txt:=p.takeWhile (· != 39)
def badAt (y:Txt)(k:Nat):Bool:=!plainB (y.getD k 0)
def AW (y:Txt):List Nat:=(range y.length).filter (badAt y)
theorem Jj (p:Txt):39∉cutL p:=λm=>by
 have:=all_eq_true.mp (List.all_takeWhile (p:=(· != 39)) (l:=p)) 39 m
 cases this
theorem Im (p:Txt):(p=cutL p/\(cutL p).length=p.length)\/∃ r,p=cutL p++39::r/\(cutL p).length<p.length:=by
 have sp:cutL p++p.dropWhile (· != 39)=p:=List.takeWhile_append_dropWhile ..
 cases q:p.dropWhile (· != 39) with
 | nil=>
  rw [q,append_nil] at sp
  exact .inl ⟨sp.symm,congrArg length sp⟩
 | cons a r=>
  have ha:a=39:=by
   have:=List.head_dropWhile_not (p:=(· != 39)) (l:=p) (by rw [q];exact cons_ne_nil _ _)
   simp only [q,List.head_cons] at this
   simpa using this
  rw [q,ha] at sp
  refine .inr ⟨r,sp.symm,?_⟩
  have ln:=congrArg length sp
  rw [length_append,length_cons] at ln
  exact la [_,_,_] [([2,4,3,0,0],[6])] ([2,3,0],[6]) rfl (aS ln)
theorem E9 (y:Txt):(AW y=[]/\∀ c∈y,plainB c=true)\/∃ k r,AW y=k::r/\k<y.length/\plainB (y.getD k 0)=false/\∀ c∈y.take k,plainB c=true:=by
 obtain ⟨e,he,le,nm,ee⟩:=Ml (badAt y) y.length
 have up:∀ k,k<=y.length->(∀ j,j<k->badAt y j=false)->∀ c∈y.take k,plainB c=true:=λk hk h c m=>by
  obtain ⟨j,hj,rfl⟩:=List.getElem_of_mem m
  have jk:j<k:=by rw [length_take] at hj;exact la [_,_,_] [([2,3,0],[4]),([4],[6])] ([2,3,0],[6]) rfl hj (Nat.min_le_left _ _)
  have:=h j jk
  unfold badAt at this
  rw [getD_eq_getElem?_getD,getElem?_eq_getElem (Nat.lt_of_lt_of_le jk hk)] at this
  rw [List.getElem_take]
  simpa using this
 show ((range y.length).filter (badAt y)=[]/\_)\/∃ k r,(range y.length).filter (badAt y)=k::r/\_
 have mem:∀ k∈(range y.length).filter (badAt y),k<y.length/\badAt y k=true:=λk m=>by
  rw [mem_filter,mem_range] at m;exact m
 cases q:(range y.length).filter (badAt y) with
 | nil=>
  rw [q] at he
  obtain rfl:y.length=e:=aT he
  exact .inl ⟨rfl,λc m=>up y.length (aR _) nm c (by rw [take_length];exact m)⟩
 | cons k r=>
  rw [q] at he
  obtain rfl:k=e:=aT he
  have ⟨h1,h2⟩:=mem k (by rw [q];exact mem_cons_self)
  refine .inr ⟨k,r,rfl,h1,?_,up k le nm⟩
  unfold badAt at h2
  cases z:plainB (y.getD k 0) with
  | false=>rfl
  | true=>rw [z] at h2;cases h2
section
variable {hd x:Txt}
theorem Jk {y z:Txt}(hx:x=hd++39::(y++39::z))(h39:39∉y)(hl:x.length<=90000) :
  (AW y=[]/\Gives 39 x hd.length (hd.length+(y.length+2)) y)\/∃ k r,AW y=k::r/\k<y.length/\plainB (y.getD k 0)=false/\Ji 39 x hd.length (hd.length+1+k) (KG++ctlW (y.getD k 0)):=by
 have l1:x.length<=1000000:=aQ hl (by decide)
 have h0:x.drop hd.length=39::(y++39::z):=by rw [hx,drop_left]
 rcases E9 y with ⟨h1,h2⟩ | ⟨k,r,h1,h2,h3,h4⟩
 ·refine .inl ⟨h1,λst L Q' E' hQ=>?_⟩
  rw [Vb]
  exact Mg l1 h0 (λc m=>⟨h2 c m,λe=>h39 (e▸m)⟩) hQ
 ·refine .inr ⟨k,r,h1,h2,h3,λst L Q' E' hE=>?_⟩
  have ⟨⟨_,e2⟩,_,_,_,rl⟩:=CL h3
  rw [Vb]
  have sp:y=y.take k++y.getD k 0::y.drop (k+1):=by
   rw [getD_eq_getElem?_getD,getElem?_eq_getElem h2,Option.getD_some,<- drop_eq_getElem_cons h2,List.take_append_drop]
  have tl:(y.take k).length=k:=by rw [length_take];lia
  have n39:y.getD k 0≠39:=λe=>by rw [e] at h3;cases h3
  refine Ri (b:=y.getD k 0) (y:=y.take k) (z:=y.drop (k+1)++39::z) l1 (Nat.lt_of_succ_lt (Ru hl)) ?_ (λc m=>⟨h4 c m,λe=>h39 (List.mem_of_mem_take (e▸m))⟩) (by unfold legal;rw [CK h3];rfl) n39 rl (mem_append_right _ mem_cons_self) ?_
  ·rw [h0]
   conv=>lhs;rw [sp]
   simp
  ·rw [tl,<- e2]
   exact hE
theorem Rv {p:Txt}(hx:x=hd++39::p)(h:39∉p)(hl:x.length<=90000):Ji 39 x hd.length x.length (Tv++[34,39,34]):=by
 intro st L Q' E' hE
 rw [Vb]
 exact Rh (aQ hl (by decide)) (by rw [hx,drop_left]) h hE
inductive EndL (x:Txt)(p:Nat)(t:Txt):Bool->Prop
 | yes:Gives 39 x p x.length t->EndL x p t true
 | told {at_:Nat} {w:Txt}:Ji 39 x p at_ w->okT w->EndL x p t false
 | given {n:Nat} {t':Txt}:Gives 39 x p n t'->n<x.length->okT t'->EndL x p t false
theorem TE {p e:Txt}(he:∀ c∈e,plainB c=true/\c≠39)(op:okT p)(hx:x=hd++39::(p++(e++[39])))(hl:x.length<=90000):EndL x hd.length (p++e) (decide ((cutL p).length=p.length)&&decide (AW (cutL p)=[])):=by
 have xl:x.length=hd.length+1+p.length+e.length+1:=by rw [hx];simp;exact be (la [_,_,_] [] ([2,4,6,3,0,0,3,0,0],[2,3,0,4,0,6,0,3,0]) rfl) (la [_,_,_] [] ([2,3,0,4,0,6,0,3,0],[2,4,6,3,0,0,3,0,0]) rfl)
 rcases Im p with ⟨e1,l1⟩ | ⟨r,e1,l1⟩
 ·rw [decide_eq_true l1,Bool.true_and,<- e1]
  have n39:39∉p:=e1▸Jj p
  have ne:39∉p++e:=λm=>(mem_append.mp m).elim n39 λm=>(he 39 m).2 rfl
  have fe:∀ k,k<p.length->(p++e).getD k 0=p.getD k 0:=λk hk=>by rw [getD_eq_getElem?_getD,getD_eq_getElem?_getD,getElem?_append_left hk]
  rcases Jk (hd:=hd) (y:=p++e) (z:=[]) (by rw [hx,append_assoc]) ne hl with ⟨h1,h2⟩ | ⟨k,r,h1,h2,h3,h4⟩
  ·have:AW p=[]:=by
    rcases E9 p with ⟨a,_⟩ | ⟨k,r,a,b,c,_⟩
    ·exact a
    ·have m:k∈AW (p++e):=by
      unfold AW
      rw [mem_filter,mem_range,length_append]
      exact ⟨by exact la [_,_,_] [([2,3,0],[4])] ([2,3,0],[4,6,0]) rfl b,by unfold badAt;rw [fe k b,c];rfl⟩
     rw [h1] at m;cases m
   rw [this]
   refine .yes ?_
   rw [xl]
   have e:hd.length+((p++e).length+2)=hd.length+1+p.length+e.length+1:=by rw [length_append];exact be (la [_,_,_] [] ([2,4,6,0,5,0,0],[2,3,0,4,0,6,0,3,0]) rfl) (la [_,_,_] [] ([2,3,0,4,0,6,0,3,0],[2,4,6,0,5,0,0]) rfl)
   rw [<- e];exact h2
  ·have kp:k<p.length:=Nat.lt_of_not_le λz=>by
    have m:(p++e).getD k 0∈e:=by
     rw [getD_eq_getElem?_getD,getElem?_append_right z]
     rw [length_append] at h2
     rw [getElem?_eq_getElem (by exact la [_,_,_,_] [([2,3,0],[4,6,0]),([8,4,0],[2])] ([8,3,0],[6]) rfl h2 (Mi.lcC (la [_,_] [([2],[4])] ([2],[4]) rfl z)))]
     exact getElem_mem _
    rw [(he _ m).1] at h3;cases h3
   have:AW p≠[]:=λz=>by
    have m:k∈AW p:=by
     unfold AW
     rw [mem_filter,mem_range]
     exact ⟨kp,by unfold badAt;rw [<- fe k kp,h3];rfl⟩
    rw [z] at m;cases m
   rw [decide_eq_false this]
   have ⟨_,_,_,o,_⟩:=CL h3
   exact .told h4 (Bx o)
 ·rw [decide_eq_false (by lia),Bool.false_and]
  have oc:okT (cutL p):=λc m=>op c (takeWhile_sublist _ |>.subset m)
  have hx2:x=hd++39::(cutL p++39::(r++(e++[39]))):=by
   rw [hx]
   conv=>lhs;rw [e1]
   simp
  rcases Jk hx2 (Jj p) hl with ⟨h1,h2⟩ | ⟨k,r',h1,h2,h3,h4⟩
  ·exact .given h2 (by exact la [_,_,_,_,_] [([2,3,0,4,0,6,0,3,0],[8]),([10,3,0],[4])] ([2,10,5,0,0,3,0],[8]) rfl (aS xl.symm) l1) oc
  ·have ⟨_,_,_,o,_⟩:=CL h3
   exact .told h4 (Bx o)
end
section
variable {loc:Nat->Option PV}{st:List (List PV)}{Q:PV->PS->Prop}{E:PX->PS->Prop}
theorem OJ (c:Nat)(d:Txt)(s:PS):Qk (.dct [.int 10,.int 13] [.str [110],.str [114]]) [.int c,.str d] s = .ok (.str (if c=10 then [110] else if c=13 then [114] else d)) s:=by
 by_cases h1:c=10
 ·subst h1;rfl
 by_cases h2:c=13
 ·subst h2;rfl
 have go:∀ (k:Nat) ks v vs,c≠k->CU (.int k::ks) (v::vs) (.int c)=CU ks vs (.int c):=λk ks v vs h=>by
  show (match some ((k:Int)==(c:Int)) with
   | some true=>some (some v)
   | some false=>CU ks vs (.int c)
   | none=>none)=_
  rw [show ((k:Int)==(c:Int))=false from beq_eq_false_iff_ne.mpr λz=>h (Int.ofNat.inj z).symm]
 have e:Dc [.int 10,.int 13] [.str [110],.str [114]] (.int c)=some none:=(go 10 _ _ _ h1).trans (go 13 _ _ _ h2)
 show aw ((Dc [.int 10,.int 13] [.str [110],.str [114]] (.int c)).map λr=>r.getD (.str d)) s=_
 rw [e,if_neg h1,if_neg h2]
 rfl
theorem Vd {c:Nat}{d:Txt}{s:PS}(h:Q (.str (if c=10 then [110] else if c=13 then [114] else d)) s):wp (Qk (.dct [.int 10,.int 13] [.str [110],.str [114]]) [.int c,.str d]) s Q E:=by
 unfold wp;rw [OJ];exact h
theorem VV {b:Int}{s:List (List PV)}(h:(Ag 0&&Ag b&&decide (b - 0<=(big:Nat)))=true)(k:wp (ao ((range (b - 0).toNat).map λi=>PV.int (0+(i:Nat)))) ⟨loc,s⟩ Q E):wp (BI [.int b]) ⟨loc,s⟩ Q E:=wpO h k
theorem VW {a b:Int}{s:List (List PV)}(h:(Ag a&&Ag b&&decide (b - a<=(big:Nat)))=true)(k:wp (ao ((range (b - a).toNat).map λi=>PV.int (a+(i:Nat)))) ⟨loc,s⟩ Q E):wp (BI [.int a,.int b]) ⟨loc,s⟩ Q E:=wpO h k
def Rw:List Nat:=range 9++(range 21).map (11+·)++[127]
theorem TF {i c:Nat}(h:Rw[i]? = some c):plainB c=false/\c≠10:=(by decide:∀ c∈Rw,plainB c=false/\c≠10) c (mem_of_getElem? h)
theorem Wg {s:PS}(h:Q (.dct [.int 10,.int 13] [.str [110],.str [114]]) s):wp (JR PV.int [10,13] [PV.str [110],PV.str [114]]) s Q E:=h
theorem Uf {n:Nat}{s:PS}(h:n<16)(k:Q (.str [dig16.getD n 0]) s):wp (Au false (.str dig16) (.int n)) s Q E:=HK (AH (aZ h (by decide))) (Ea h) k
theorem CE {c:Nat}(hQ:Q (.str (ctlW c)) ⟨loc,st⟩):wp (ak (A4 Kx) [.str [c]]) ⟨loc,st⟩ Q E:=by
 refine Br 2 λL B=>?_
 unfold A4
 refine wpA st [some (.str [c]),some (.int c),none] ?_ λL B=>?_
 ·walk_at "wp"
  exact ⟨rfl,(B.set 1 _ |> At.mk _ rfl)⟩
 refine AV (Al (c:=plainB c) ?_ (λq=>?_) λq=>?_)
 ·rw [<- Mj]
  have last:∀ b:Bool,b=false->wp (AM .Or [(ac (af 1) λa=>ac (ae (.int 9)) λe=>ac (Ao .Eq a e) tst)]) ⟨L,st⟩ (λd s'=>d=(b||((c:Int)==9))/\s'=⟨L,st⟩) λU U=>False:=λb hb=>by
   refine Ef (wpB (wpL B rfl (KtI (wpB (wpR (KtI (wpB (wpEqI (KtI (wpTb ?_))))))))))
   rw [hb,Bool.false_or]
   cases z:((c:Int)==9) with
   | true=>rw [if_pos rfl];exact ⟨rfl,rfl⟩
   | false=>rw [if_neg Bool.false_ne_true,Cw];exact ⟨rfl,rfl⟩
  refine Ef (FH (wpB (wpL B rfl (KtI (wpB (wpR (KtI (wpB (wpGtI (KtI (wpTb ?_)))))))))))
  cases decide ((c:Int)>31) with
  | false=>rw [if_neg Bool.false_ne_true,if_neg Bool.false_ne_true];exact last _ rfl
  | true=>
   rw [if_pos rfl]
   refine FH (wpB (wpL B rfl (KtI (wpB (wpR (KtI (wpB (wpNeI (KtI (wpTb ?_))))))))))
   cases z:((c:Int)==127) with
   | true=>rw [Bool.not_true,if_neg Bool.false_ne_true,if_neg Bool.false_ne_true];exact last _ rfl
   | false=>rw [Bool.not_false,if_pos rfl,Cw,if_pos (by rfl)];exact ⟨rfl,rfl⟩
 ·rw [show ctlW c=[] from if_pos q] at hQ
  walk_at "wp"
  exact hQ
 refine wpR (KnI ?_)
 have h1:c / 16<16:=by have:=Hm (CK q);lia
 have h2:c % 16<16:=Nat.mod_lt _ (by decide)
 have fe:Jf c=[dig16.getD (c / 16) 0,dig16.getD (c % 16) 0]:=by unfold Jf;rw [Nat.mod_eq_of_lt h1]
 refine wpA st [some (.str [c]),some (.int c),some (.str (Jf c))] ?_ λL B=>?_
 ·rw [fe]
  walk_at "wp"
  rw [show (c:Int).fdiv 16=((c / 16:Nat):Int) from Hg c 16]
  refine Uf h1 ?_
  walk_at "wp"
  rw [show (c:Int).fmod 16=((c % 16:Nat):Int) from DN c 16]
  refine Uf h2 ?_
  walk_at "wp"
  ·exact (by decide:2<=big)
  exact ⟨rfl,(B.set 2 _ |> At.mk _ rfl)⟩
 rw [show ctlW c=[32,99,104,97,114,97,99,116,101,114,32,39,92]++Rm c++[39] from if_neg (by rw [q];exact Bool.false_ne_true)] at hQ
 have sl:(Rm c).length<=3:=by unfold Rm;split;exact (by decide:1<=3);split;exact (by decide:1<=3);exact aR 3
 unfold Rm at hQ sl
 refine wpB (wpB (wpB (wpR (KtI (wpB (wpB (Wg (KtI (wpO rfl ?_)))))))))
 walk_at "wp"
 ·exact (by decide:3<=big)
 refine Vd ?_
 walk_at "wp"
 ·exact BY (show _<=100 by decide) sl (by decide)
 ·exact BY (BL (show _<=100 by decide) sl) (show _<=10 by decide) (by decide)
 exact hQ
theorem Mm {s:PS}{a b c:Int}(h:Q (.bool (decide (a<=b)&&decide (b<c))) s):wp (C5 .LtE .Lt (.int a) (.int b) (ae (.int c))) s Q E:=by
 unfold C5
 refine wpB (wpLeI (wpB (wpTb ?_)))
 cases q:decide (a<=b)
 ·rw [q] at h;exact h
 ·rw [q] at h;exact wpB (wpR (KtI (wpLtI h)))
theorem Ve {a b c d:Int}{L:Nat->Option PV}(g:L 0=some (.int a))(h:Q (.bool (decide (a<b)||(decide (c<=a)&&decide (a<d)))) ⟨L,st⟩) :
  wp (BK .Or [(ac (af 0) λa=>ac (ae (.int b)) λe=>Ao .Lt a e),(ac (ae (.int c)) λa=>ac (af 0) λe=>C5 .LtE .Lt a e (ae (.int d)))]) ⟨L,st⟩ Q E:=by
 refine QV (wpB (wpG g (KtI (wpB (wpR (KtI (wpLtI ⟨_,rfl,?_⟩)))))))
 cases q:decide (a<b) with
 | true=>rw [q,Bool.true_or] at h;exact h
 | false=>
  rw [q,Bool.false_or] at h
  exact wpB (wpR (KtI (wpB (wpG g (KtI (Mm h))))))
theorem Vf {n:Nat}{b c d:Nat}:(decide ((n:Int)<(b:Nat))||(decide (((c:Nat):Int)<=n)&&decide ((n:Int)<(d:Nat))))=true↔(n<b\/c<=n/\n<d):=by
 rw [or_eq_true,and_eq_true,decide_eq_true_eq,decide_eq_true_eq,decide_eq_true_eq,Int.ofNat_lt,Int.ofNat_le,Int.ofNat_lt]
theorem Vg {n:Nat}:(decide ((n:Int)<55296)||(decide ((57344:Int)<=n)&&decide ((n:Int)<1114112)))=true↔AA n:=(Vf (b:=55296) (c:=57344) (d:=1114112)).trans sc_iff
theorem Hp {n:Nat}(hQ:∀ b:Bool,(b=true↔AA n)->Q (.bool b) ⟨loc,st⟩):wp (ak (m_law_sign Kx) [.int n]) ⟨loc,st⟩ Q E:=by
 have key:∀ (L:Nat->Option PV),L 0=some (.int n)->wp (m_law_sign Kx) ⟨L,st⟩ (Kr loc Q) (Ke loc E):=λL g=>by
  unfold m_law_sign
  exact wpB (Ve g (KtI (wpR (hQ _ Vg))))
 generalize m_law_sign Kx=m at key ⊢
 exact Br 0 λL B=>key L (B 0 _ rfl)
abbrev pcs22:List Txt:=[[92],[92,117],[92,85],[100],[68,56],[48,48],[48,48,49,48],[48,48,49,49],[49],[34],[39],[10],[9],[110],[92,92],[117],[92,85,48,48,48,48],[55,102],[69,48],[103],[92,34],[92,117,68]]
theorem TG {L:Nat->Option PV}{st:List (List PV)}{c:Nat}{Q:PV->PS->Prop}{E:PX->PS->Prop}(g:L 6=some (.int c))(lc:c<1112064)(h:∀ d:Nat,AA d->Q (.int d) ⟨L,st⟩) :
  wp (ac ((ac (af 6) λa=>ac (ae (.int 55296)) λb=>ac (Ao .Lt a b) tst)) λc=>if c then af 6 else (ac (af 6) λa=>ac (ae (.int 2048)) λb=>Ai .Add a b)) ⟨L,st⟩ Q E:=by
 refine Al (c:=decide ((c:Int)<55296)) (wpB (wpG g (KtI (wpB (wpR (KtI (wpB (wpLtI (KtI (wpTb ⟨rfl,rfl⟩)))))))))) (λq=>?_) λq=>?_
 ·have q:c<55296:=Int.ofNat_lt.mp (aY q)
  exact wpG g (h c (.inl (by exact la [_] [([2,3,0],[110593])] ([2],[110591]) rfl q)))
 ·have q:¬ c<55296:=λz=>of_decide_eq_false q (Int.ofNat_lt.mpr z)
  rw [wp_bind,M1,g]
  have e:((c+2048:Nat):Int)=(c:Int)+2048:=Int.natCast_add c 2048
  have z:=h (c+2048) (.inr (by exact ⟨la [_] [([110593],[2])] ([114689],[2,4097,0]) rfl (Nat.not_lt.mp q),la [_] [([2,3,0],[2224129])] ([2,4097,0],[2228223]) rfl lc⟩))
  rw [e] at z
  exact z
abbrev tTx (l:List Int)(n:Nat)(text:Txt)(x k c d:Option PV):Tb:=[some (.ints l),some (.lst n),some (.str text),x,k,c,d]
def Nc (t:Txt):Prop:=(∀ c∈t,AA c)/\t.length<=6
theorem Vh:∀ t∈pcs22,Nc t:=by
 have h:∀ t∈pcs22,t.all (λc=>decide (c<=55295))=true/\t.length<=6:=by decide
 intro t m
 exact ⟨λc mc=>.inl (aY (all_eq_true.mp (h t m).1 c mc)),(h t m).2⟩
inductive TxI (st:List (List PV))(l:List Int)(n k:Nat)(s:PS):Prop
 | mk (st':List (List PV)) (text:Txt) (p:st <+: st') (sc:∀ c∈text,AA c) (le:text.length<=6*k) (a:At st' (tTx l n text none none none none) s):TxI st l n k s
theorem OK {l:List Int}{n k:Nat}{x:Int}{L:Nat->Option PV}{st':List (List PV)}(hn:st[n]? = some (pcs22.map .str))(hk:k<63)(g:TxI st l n k ⟨L,st'⟩) :
  wp (CA Kx) ⟨upd L 3 (.int x),st'⟩ (λf s'=>(f = .next\/f = .cont)/\TxI st l n (k+1) s') λU U=>False:=by
 obtain ⟨_,text,g,sc,le,⟨_,e0,B⟩⟩:=g
 cases e0
 have B:=B.set 3 (.int x)
 obtain ⟨m,hm⟩:∃ m:Nat,(if x<0 then -x else x)=(m:Int):=⟨x.natAbs,by split <;> lia⟩
 have habs:∀ {Q:PV->PS->Prop} {s:PS},Q (.int m) s->wp (Sk [.int x]) s Q λU U=>False:=λ{Q0 s0} h=>by
  show Q0 (.int (if x<0 then -x else x)) _
  rw [hm];exact h
 have m31:m / 24 % 31<Rw.length:=Nat.mod_lt _ (by decide)
 obtain ⟨ch,hch⟩:∃ ch,Rw[m / 24 % 31]? = some ch:=⟨_,getElem?_eq_getElem m31⟩
 have h127:ch<=127:=Nat.le_of_lt_succ (Hm (CK (TF hch).1))
 unfold CA
 refine wpA st' (tTx l n text (some (.int x)) (some (.int (m / 24:Nat))) none none) ?_ λL B=>?_
 ·walk_at "wp"
  refine habs ?_
  walk_at "wp"
  rw [show (m:Int).fdiv 24=((m / 24:Nat):Int) from Hg m 24]
  exact ⟨rfl,(B.set 4 _ |> At.mk _ rfl)⟩
 refine wpN (λs=>∃ st2,st' <+: st2/\At st2 (tTx l n text (some (.int x)) (some (.int (m / 24:Nat))) (some (.str [ch])) none) s) ?_ ?_
 ·walk_at "wp"
  refine VV (by decide) (wpNL (by decide) ?_)
  walk_at "wp"
  refine VW (by decide) (wpNL (by decide) ?_)
  refine KtI (Gr (AF (AY _) last_new) last_new (by decide) ?_)
  walk_at "wp"
  ·exact (by decide:1<=big)
  refine Gr (AF (AY _) last_new) last_new (by decide) ?_
  walk_at "wp"
  rw [show ((m / 24:Nat):Int).fmod 31=((m / 24 % 31:Nat):Int) from DN (m / 24) 31]
  have hv:(map (λi:Nat=>PV.int (0+i)) (range (9 - 0:Int).toNat)++map (λi:Nat=>PV.int (11+i)) (range (32 - 11:Int).toNat)++[PV.int 127])[m / 24 % 31]? = some (.int (ch:Nat)):=by
   rw [show map (λi:Nat=>PV.int (0+i)) (range (9 - 0:Int).toNat)++map (λi:Nat=>PV.int (11+i)) (range (32 - 11:Int).toNat)++[PV.int 127]=Rw.map λc=>PV.int (c:Nat) from rfl,getElem?_map,hch]
   rfl
  refine F1 (AH (aZ m31 (by decide))) last_new (Ea m31) hv ?_
  walk_at "wp"
  refine FZ (by rw [and_eq_true,decide_eq_true_eq,decide_eq_true_eq];lia) ?_
  walk_at "wp"
  exact ⟨rfl,_,((AY _).trans (AY _)).trans ((AY _).trans ((AY _).trans (AY _))),(B.set 5 _ |> At.mk _ rfl)⟩
 clear B
 rintro _ ⟨st2,g2,⟨L,rfl,B⟩⟩
 have g2:=g.trans g2
 have lc:m / 24 % 1112064<1112064:=Nat.mod_lt _ (by decide)
 refine wpA st2 (tTx l n text (some (.int x)) (some (.int (m / 24:Nat))) (some (.str [ch])) (some (.int (m / 24 % 1112064:Nat)))) ?_ λL B=>?_
 ·walk_at "wp"
  rw [show ((m / 24:Nat):Int).fmod 1112064=((m / 24 % 1112064:Nat):Int) from DN (m / 24) 1112064]
  exact ⟨rfl,(B.set 6 _ |> At.mk _ rfl)⟩
 generalize m / 24 % 1112064=c at lc B
 refine wpB (wpL B rfl ?_)
 refine KtI (wpB (wpB (wpB (wpL B rfl ?_))))
 refine KtI (wpB (wpB (wpSC (wpL B rfl ?_))))
 refine wpSC (wpB (wpSC (TG (B 6 _ rfl) lc λd sd=>?_)))
 refine wpSN (KtI (Jd rfl sd ?_))
 refine wpSN (KtI (wpNL (by decide:2<=big) ?_))
 refine KtI (Gr (AF (g2.trans (AY _)) hn) last_new (by decide:24<=big) ?_)
 refine KtI ?_
 walk_at "wp"
 refine habs ?_
 walk_at "wp"
 rw [show (m:Int).fmod 24=((m % 24:Nat):Int) from DN m 24]
 have m24:m % 24<24:=Nat.mod_lt _ (by decide)
 obtain ⟨t,ht,ok⟩:∃ t,(pcs22.map PV.str++[PV.str [ch],PV.str [d]])[m % 24]? = some (.str t)/\Nc t:=by
  have e:pcs22.map PV.str++[PV.str [ch],PV.str [d]]=(pcs22++[[ch],[d]]).map .str:=by rw [map_append];rfl
  rw [e,getElem?_map]
  have lt:m % 24<(pcs22++[[ch],[d]]).length:=m24
  rw [getElem?_eq_getElem lt]
  refine ⟨_,rfl,?_⟩
  rcases mem_append.mp (getElem_mem lt) with q | q
  ·exact Vh _ q
  ·rcases mem_cons.mp q with q | q
   ·rw [q];exact ⟨λa ma=>by rw [mem_singleton.mp ma];exact .inl (by exact la [_] [([2],[255])] ([2],[110591]) rfl h127),by show 1<=6;decide⟩
   ·rw [mem_singleton.mp q];exact ⟨λa ma=>by rw [mem_singleton.mp ma];exact sd,by show 1<=6;decide⟩
 refine F1 (AH (aZ m24 (by decide))) last_new (Ea m24) ht ?_
 walk_at "wp"
 ·exact BY (aQ le (show 6*k<=400 by lia)) ok.2 (by decide)
 refine ⟨.inl rfl,.mk _ (text++t) ((g2.trans (AY _)).trans (AY _)) (λa ma=>(mem_append.mp ma).elim (sc a) (ok.1 a)) (by rw [length_append];have:=ok.2;lia) ((B.set 2 _).drop 3 |>.drop 4 |>.drop 5 |>.drop 6 |> At.mk _ rfl)⟩
theorem OL {l:List Int}{k:Nat}{s:PS}(h:k<l.length):B0 (.ints l) k s = .ok (some (.int (l.getD k 0))) s:=by
 show R.ok ((l[k]?).map PV.int) s=_
 rw [getElem?_eq_getElem h,getD_eq_getElem?_getD,getElem?_eq_getElem h]
 rfl
theorem Rx {l:List Int}{s:PS}:B0 (.ints l) l.length s = .ok none s:=by
 show R.ok ((l[l.length]?).map PV.int) s=_
 rw [getElem?_eq_none (Nat.le_refl _)]
 rfl
theorem KK {l:List Int}(hl:l.length<=63)(hQ:∀ t st',st <+: st'->(∀ c∈t,AA c)->t.length<=80->Q (.str t) ⟨loc,st'⟩):wp (ak (Dt Kx) [.ints l]) ⟨loc,st⟩ Q E:=by
 refine Br 6 λL B=>?_
 unfold Dt
 refine wpA (st++[pcs22.map .str]) [some (.ints l),some (.lst st.length),none,none,none,none,none] ?_ λL B=>?_
 ·walk_at "wp"
  ·exact (by decide:22<=big)
  exact ⟨rfl,(B.set 1 _ |> At.mk _ rfl)⟩
 refine wpA (st++[pcs22.map .str]) (tTx l st.length [] none none none none) ?_ λL B=>?_
 ·walk_at "wp"
  exact ⟨rfl,(B.set 2 _ |> At.mk _ rfl)⟩
 have hn:(st++[pcs22.map PV.str])[st.length]? = some (pcs22.map .str):=last_new
 have g0:st <+: st++[pcs22.map PV.str]:=AY _
 generalize st++[pcs22.map PV.str]=st1 at hn B g0 ⊢
 generalize st.length=n at hn B ⊢
 refine wpN (TxI st1 l n l.length) ?_ ?_
 ·walk_at "wp"
  refine wpR (KtI (M7 (P:=TxI st1 l n) (n:=l.length) (λk=>.int (l.getD k 0)) ⟨st1,[],prefix_refl _,(λU m=>(by cases m)),aP _,.mk _ rfl B⟩ (bv hl (aZ (by decide) Kx_big)) (λk s U lt=>OL lt) (λs U=>Rx) (λk L st z lt=>OK hn (bl lt hl) z) λU z=>z))
 clear B
 rintro _ ⟨st2,text,g2,sc,le,⟨L,rfl,B⟩⟩
 walk_at "wp"
 have e:slc text none (some (80:Int))=text.take 80:=by
  by_cases h:80<=text.length
  ·exact Va (n:=80) h
  ·unfold slc bnd
   simp only [show (0:Int)<=80 from by decide,if_true,drop_zero]
   rw [show min (80:Int).toNat text.length=text.length by lia,take_length,take_of_length_le (by exact la [_] [([2,3,0],[161])] ([2],[161]) rfl (Nat.not_le.mp h))]
 have tl:(text.take 80).length<=80:=by rw [length_take];exact Nat.min_le_left ..
 refine He e (aQ tl (by decide)) ?_
 walk_at "wp"
 exact hQ _ _ (g0.trans g2) (λc m=>sc c (List.mem_of_mem_take m)) tl
end
abbrev TH:Txt:=[48,49,50,51,52,53,54,55,56,57,97,98,99,100,101,102,65,66,67,68,69,70]
theorem TI (c:Nat):GA [c] TH=hexd c:=by
 by_cases h:c<128
 ·exact (by decide +kernel:∀ c<128,GA [c] TH=hexd c) c h
 ·cases q:hexd c with
  | true=>exact absurd (Gm q) h
  | false=>
   cases z:GA [c] TH with
   | false=>rfl
   | true=>exact absurd ((by decide:∀ c∈TH,c<128) c (Gs.mp z)) h
theorem Vi {c:Nat}(h:hexd c=true):findFrom dig16 [PyProof.Rows.lo1 c] 0=some (hexdig c)/\decide (c<128)=true:=(by decide +kernel:∀ c<128,hexd c=true->findFrom dig16 [PyProof.Rows.lo1 c] 0=some (hexdig c)/\decide (c<128)=true) c (Gm h) h
section
variable {loc:Nat->Option PV}{st:List (List PV)}{Q:PV->PS->Prop}{E:PX->PS->Prop}
theorem VX {x:Txt}{s:PS}(h:x.all (λc=>decide (c<128))=true)(hl:x.length<=1000000)(k:Q (.str (x.map PyProof.Rows.lo1)) s):wp (IZ (.str x) []) s Q E:=wpO (by rw [h,decide_eq_true hl];rfl) k
theorem Vj {x y:Txt}{s:PS}{i:Nat}(h:findFrom x y 0=some i)(k:Q (.int i) s):wp (Ds false (.str x) [.str y]) s Q E:=by
 show wp (match findFrom x y 0 with
  | some i=>ae (PV.int i)
  | none=>aq) s Q E
 rw [h];exact k
theorem Wh {s:PS}(h:Q (.dct nmK nmV) s):wp (JR SF ["b", "t", "n", "f", "r", "\"", "\\"] [.str [8],.str [9],.str [10],.str [12],.str [13],.str [34],.str [92]]) s Q E:=h
theorem Ug {s:PS}{x y:Txt}(h:Q (.bool (!(x==y))) s):wp (Ao .NotEq (.str x) (.str y)) s Q E:=h
theorem Uh {n:Nat}{i j k l m o:Nat}{a b c d e f:PV}{L:Nat->Option PV}{Q:Unit->PS->Prop}(g:st[n]? = some [a,b,c,d,e,f])(h:Q () ⟨upd (upd (upd (upd (upd (upd L i a) j b) k c) l d) m e) o f,st⟩):wp (aE [ah i,ah j,ah k,ah l,ah m,ah o] (.lst n)) ⟨L,st⟩ Q E:=by
 show wp (ac (ar n) λl'=>am (l'.length==6) (aF [ah i,ah j,ah k,ah l,ah m,ah o] l')) _ Q E
 rw [wp_bind,Cg,g]
 exact wpO rfl (FJ (wpSet (FJ (wpSet (FJ (wpSet (FJ (wpSet (FJ (wpSet (FJ (wpSet (Tx h)))))))))))))
theorem BG {X Y:Txt}{i:Nat}{r:List (M Bool)}{L:Nat->Option PV}(g:L i=some (.str X))(ne:X≠Y):wp (AM .And ((ac (af i) λa=>ac (ae (.str Y)) λb=>ac (Ao .Eq a b) tst)::r)) ⟨L,st⟩ (λb s'=>b=false/\s'=⟨L,st⟩) λU U=>False:=by
 refine FH (wpB (wpG g (KtI (wpB (wpR (KtI (wpB (wpEqS (KtI (wpTb ?_))))))))))
 rw [show (X==Y)=false from beq_eq_false_iff_ne.mpr ne,if_neg Bool.false_ne_true]
 exact ⟨rfl,rfl⟩
theorem EG {X:Txt}{i:Nat}{r:List (M Bool)}{L:Nat->Option PV}{Q:Bool->PS->Prop}(g:L i=some (.str X))(h:wp (AM .And r) ⟨L,st⟩ Q E):wp (AM .And ((ac (af i) λa=>ac (ae (.str X)) λb=>ac (Ao .Eq a b) tst)::r)) ⟨L,st⟩ Q E:=by
 refine FH (wpB (wpG g (KtI (wpB (wpR (KtI (wpB (wpEqS (KtI (wpTb ?_))))))))))
 rw [show (X==X)=true from beq_self_eq_true X,if_pos rfl]
 exact h
theorem Gd {m:M Bool}{s:PS}{c:Bool}{op:BoolOp}(h:wp m s (λb s'=>b=c/\s'=s) λU U=>False):wp (AM op [m]) s (λb s'=>b=c/\s'=s) λU U=>False:=by
 cases op with
 | And=>
  refine FH (wp_mono h (λb s' z=>?_) λU U z=>z)
  obtain ⟨rfl,rfl⟩:=z
  cases b with
  | true=>rw [if_pos rfl,Cw];exact ⟨rfl,rfl⟩
  | false=>rw [if_neg Bool.false_ne_true];exact ⟨rfl,rfl⟩
 | Or=>
  refine Ef (wp_mono h (λb s' z=>?_) λU U z=>z)
  obtain ⟨rfl,rfl⟩:=z
  cases b with
  | true=>rw [if_pos rfl];exact ⟨rfl,rfl⟩
  | false=>rw [if_neg Bool.false_ne_true,Cw];exact ⟨rfl,rfl⟩
theorem TJ {b:Bool}{s:PS}{Q:Bool->PS->Prop}(h:Q b s):wp (tst (.bool b)) s Q E:=h
theorem Dw {X Y:Txt}{i:Nat}{L:Nat->Option PV}(g:L i=some (.str X)):wp (ac (af i) λa=>ac (ae (.str Y)) λb=>ac (Ao .Eq a b) tst) ⟨L,st⟩ (λb s'=>b=(X==Y)/\s'=⟨L,st⟩) λU U=>False:=
 wpB (wpG g (KtI (wpB (wpR (KtI (wpB (wpEqS (KtI (wpTb ⟨rfl,rfl⟩)))))))))
theorem Mn {m m':M Bool}{s:PS}{c c':Bool}(h:wp m s (λb s'=>b=c/\s'=s) λU U=>False)(h':wp m' s (λb s'=>b=c'/\s'=s) λU U=>False):wp (AM .Or [m,m']) s (λb s'=>b=(c||c')/\s'=s) λU U=>False:=by
 refine Ef (wp_mono h (λb s' z=>?_) λU U z=>z)
 obtain ⟨rfl,rfl⟩:=z
 cases b with
 | true=>rw [if_pos rfl];exact ⟨rfl,rfl⟩
 | false=>rw [if_neg Bool.false_ne_true,Bool.false_or];exact Gd h'
theorem Ui {X Y Z:Txt}{i:Nat}{L:Nat->Option PV}(g:L i=some (.str X))(h1:X≠Y)(h2:X≠Z):wp (AM .Or [(ac (af i) λa=>ac (ae (.str Y)) λb=>ac (Ao .Eq a b) tst),(ac (af i) λa=>ac (ae (.str Z)) λb=>ac (Ao .Eq a b) tst)]) ⟨L,st⟩ (λb s'=>b=false/\s'=⟨L,st⟩) λU U=>False:=by
 have:=Mn (Dw (Y:=Y) g) (Dw (st:=st) (Y:=Z) g)
 rw [show (X==Y)=false from beq_eq_false_iff_ne.mpr h1,show (X==Z)=false from beq_eq_false_iff_ne.mpr h2] at this
 exact this
theorem Vk {c d:Nat}{i:Nat}{L:Nat->Option PV}(g:L i=some (.str [c])):wp (ac (af i) λa=>ac (ae (.str [d])) λb=>ac (Ao .Eq a b) tst) ⟨L,st⟩ (λb s'=>b=decide (c=d)/\s'=⟨L,st⟩) λU U=>False:=by
 refine wpB (wpG g (KtI (wpB (wpR (KtI (wpB (wpEqS (KtI (wpTb ⟨?_,rfl⟩)))))))))
 by_cases z:c=d
 ·subst z;rw [decide_eq_true rfl];exact beq_self_eq_true _
 ·rw [decide_eq_false z];exact aX.mpr λe=>z (List.cons.inj e).1
abbrev tSt (a c place:Nat)(s:S7)(nm:Option PV):Tb:=[some (.lst a),some (.str [c]),some (.int place),some (.str s.name),some (.int (s.lack:Nat)),some (.int (s.num:Nat)),some (.str s.words),some (.int (s.since:Nat)),some (.str s.text),nm]
theorem OM {h a c place:Nat}{p:Txt}{s:S7}(hs:Sem h p s)(sc:AA c)(ha:st[a]? = some s.row)(tl:s.text.length<=100000)(hQ:∀ b st',st <+: st'->st'[b]? = some (AZ s c place).row->Q (.lst b) ⟨loc,st'⟩):wp (ak (Du Kx) [.lst a,.str [c],.int place]) ⟨loc,st⟩ Q E:=by
 refine Br 7 λL B=>?_
 unfold Du
 refine wpA st (tSt a c place s none) ?_ λL B=>?_
 ·refine wpB (wpL B rfl (KtI (wpB (Uh ha (KtI (wpR ⟨rfl,?_⟩))))))
  exact ((((((B.set 3 _).set 4 _).set 5 _).set 6 _).set 7 _).set 8 _ |> At.mk _ rfl)
 refine wpA st (tSt a c place s (some (.dct nmK nmV))) ?_ λL B=>?_
 ·walk_at "wp"
  refine FZ rfl ?_
  walk_at "wp"
  refine FZ rfl ?_
  walk_at "wp"
  refine FZ rfl ?_
  walk_at "wp"
  refine FZ rfl ?_
  walk_at "wp"
  refine FZ rfl ?_
  walk_at "wp"
  refine Wh ?_
  walk_at "wp"
  exact ⟨rfl,(B.set 9 _ |> At.mk _ rfl)⟩
 have g3:=B 3 _ rfl
 have g1:=B 1 _ rfl
 have new:∀ {s':S7},AZ s c place=s'->∀ l:List PV,l=s'.row->wp (ac (ao l) λx=>ae (PFlow.ret x)) ⟨L,st⟩ (Kr loc Q) (Ke loc E):=λ{s'} e l el=>by
  subst el
  rw [<- e]
  exact wpB (wpNL (show 6<=big by decide) (KtI (wpR (hQ _ _ (AY _) last_new))))
 cases hs with
 | @plain ts text u e=>
  refine AV (Al (c:=decide (c=34)) (EG g3 (Gd (Vk g1))) (λz=>?_) λz=>?_)
  ·have e7:AZ ⟨plainN,0,0,untT,h+1+p.length,text⟩ c place=⟨closedN,0,0,[],place+1,text⟩:=by unfold AZ;rw [if_pos rfl,if_pos (of_decide_eq_true z)]
   walk_at "wp"
   ·exact (show 6<=big by decide)
   rw [e7] at hQ
   exact hQ _ _ (AY _) last_new
  have n34:=of_decide_eq_false z
  refine wpR (KnI (AV (Al (c:=decide (c=92)) (EG g3 (Gd (Vk g1))) (λz=>?_) λz=>?_)))
  ·have e7:AZ ⟨plainN,0,0,untT,h+1+p.length,text⟩ c place=⟨namedN,0,0,escpT,place+2,text⟩:=by unfold AZ;rw [if_pos rfl,if_neg n34,if_pos (of_decide_eq_true z)]
   walk_at "wp"
   ·exact (show 6<=big by decide)
   rw [e7] at hQ
   exact hQ _ _ (AY _) last_new
  have n92:=of_decide_eq_false z
  refine wpR (KnI (AV (Al (c:=!plainB c) (EG g3 (Gd ?_)) (λz=>?_) λz=>?_)))
  ·refine wpB (wpB (wpSC (wpG g1 ?_)))
   refine wpSN (KtI (CE ?_))
   refine KtI (wpB (wpR (KtI (wpB (Ug (KtI (wpTb ⟨?_,rfl⟩)))))))
   unfold ctlW
   cases plainB c <;> rfl
  ·have z:plainB c=false:=by cases q:plainB c with
    | false=>rfl
    | true=>rw [q] at z;cases z
   have e7:AZ ⟨plainN,0,0,untT,h+1+p.length,text⟩ c place=⟨refusedN,0,0,illO++ctlW c,place,text⟩:=by unfold AZ;rw [if_pos rfl,if_neg n34,if_neg n92,if_pos z]
   have ⟨_,⟨l1,_⟩,_⟩:=CL z
   walk_at "wp"
   refine CE ?_
   walk_at "wp"
   ·exact An (aQ l1 (by decide))
   ·exact (show 6<=big by decide)
   rw [e7] at hQ
   exact hQ _ _ (AY _) last_new
  have pc:plainB c=true:=by cases q:plainB c with
   | true=>rfl
   | false=>rw [q] at z;cases z
  have e7:AZ ⟨plainN,0,0,untT,h+1+p.length,text⟩ c place=⟨plainN,0,0,untT,place+1,text++[c]⟩:=by unfold AZ;rw [if_pos rfl,if_neg n34,if_neg n92,if_neg (by rw [pc];exact λz=>by cases z)]
  refine wpR (KnI (AV (Al (c:=true) ?_ (λz=>?_) λz=>by cases z)))
  ·refine Ef (wpB (wpG g3 (KtI (wpB (wpR (KtI (wpB (wpEqS (KtI (wpTb ?_))))))))))
   exact ⟨rfl,rfl⟩
  ·walk_at "wp"
   ·exact BY tl (aR 1) (by decide)
   ·exact (show 6<=big by decide)
   rw [e7] at hQ
   exact hQ _ _ (AY _) last_new
 | @named ts text u e=>
  have np:namedN≠plainN:=nmP
  refine AV (Al (c:=false) (BG g3 np) (λz=>by cases z) λU=>?_)
  refine wpR (KnI (AV (Al (c:=false) (BG g3 np) (λz=>by cases z) λU=>?_)))
  refine wpR (KnI (AV (Al (c:=false) (BG g3 np) (λz=>by cases z) λU=>?_)))
  refine wpR (KnI (AV (Al (c:=(namOf [c]).isSome) ?_ (λz=>?_) λz=>?_)))
  ·refine Ef (wpB (wpG g3 (KtI (wpB (wpR (KtI (wpB (wpEqS (KtI (wpTb ?_))))))))))
   rw [show (namedN==([112,108,97,105,110]:Txt))=false from rfl,if_neg Bool.false_ne_true]
   refine Gd (EG g3 (Gd ?_))
   exact wpB (wpG g1 (KtI (wpB (wpL B rfl (KtI (wpB (Rs (KtI (wpTb ⟨rfl,rfl⟩)))))))))
  ·obtain ⟨d,hd⟩:=ba.mp z
   have e7:AZ ⟨namedN,0,0,escpT,h+1+ts.flatten.length+2,text⟩ c place=⟨plainN,0,0,untT,place+1,text++[d]⟩:=by unfold AZ;rw [if_neg nmP,if_pos rfl,hd]
   walk_at "wp"
   show wp (ac (af 9) λa=>ac (af 1) λb=>Au false a b) _ _ _
   refine wpB (wpL B rfl (KtI (wpB (wpG g1 (KtI (Mk hd ?_))))))
   walk_at "wp"
   ·exact BY tl (aR 1) (by decide)
   ·exact (show 6<=big by decide)
   rw [e7] at hQ
   exact hQ _ _ (AY _) last_new
  have hn:namOf [c]=none:=by cases q:namOf [c] with
   | none=>rfl
   | some d=>rw [q] at z;cases z
  have sub2:GA [c] ([117,85]:Txt)=(decide (c=117)||decide (c=85)):=by
   cases q:GA [c] ([117,85]:Txt) with
   | true=>
    rcases mem_cons.mp (Gs.mp q) with z | z
    ·rw [decide_eq_true z];rfl
    ·rw [decide_eq_true (mem_singleton.mp z),Bool.or_true]
   | false=>
    rw [decide_eq_false λz=>?_,decide_eq_false λz=>?_]
    ·rfl
    ·rw [Gs.mpr (by rw [z];exact mem_cons_of_mem _ (mem_singleton_self _))] at q;cases q
    ·rw [Gs.mpr (by rw [z];exact mem_cons_self)] at q;cases q
  refine wpR (KnI (AV (Al (c:=decide (c=117)||decide (c=85)) (EG g3 (Gd ?_)) (λz=>?_) λz=>?_)))
  ·refine wpB (wpG g1 (KtI (wpB (wpR (KtI (wpB (wpInSS (KtI (wpTb ⟨?_,rfl⟩)))))))))
   exact sub2
  ·obtain ⟨n,hn4,e7⟩:∃ n:Nat,(n=if c=117 then 4 else 8)/\AZ ⟨namedN,0,0,escpT,h+1+ts.flatten.length+2,text⟩ c place=⟨figuresN,n,0,hexT,place+1,text⟩:=by
    refine ⟨_,rfl,?_⟩
    unfold AZ
    rw [if_neg nmP,if_pos rfl,hn]
    dsimp only
    by_cases c1:c=117
    ·rw [if_pos c1,if_pos c1]
    ·have c2:c=85:=by
      rw [decide_eq_false c1,Bool.false_or] at z;exact aY z
     rw [if_neg c1,if_neg c1,if_pos c2]
   refine wpB (wpB (wpSC (wpR (wpSC ?_))))
   refine Al (c:=decide (c=117)) (Vk g1) (λz=>?_) λz=>?_
   ·rw [if_pos (of_decide_eq_true z)] at hn4
    subst hn4
    walk_at "wp"
    ·exact (show 6<=big by decide)
    rw [e7] at hQ
    exact hQ _ _ (AY _) last_new
   ·rw [if_neg (of_decide_eq_false z)] at hn4
    subst hn4
    walk_at "wp"
    ·exact (show 6<=big by decide)
    rw [e7] at hQ
    exact hQ _ _ (AY _) last_new
  rw [or_eq_false_iff] at z
  have e7:AZ ⟨namedN,0,0,escpT,h+1+ts.flatten.length+2,text⟩ c place=⟨refusedN,0,0,escpT,h+1+ts.flatten.length+2,text⟩:=by
   unfold AZ
   rw [if_neg nmP,if_pos rfl,hn]
   dsimp only
   rw [if_neg (of_decide_eq_false z.1),if_neg (of_decide_eq_false z.2)]
  refine wpR (KnI (AV (Al (c:=false) (BG g3 (by show namedN≠figuresN;exact fgN.symm)) (λz=>by cases z) λU=>?_)))
  refine wpR (KnI (wpB (Al (c:=false) ?_ (λz=>by cases z) λU=>?_)))
  ·exact Ui g3 (by show namedN≠closedN;exact clN.symm) (by show namedN≠refusedN;exact rfN.symm)
  ·walk_at "wp"
   ·exact (show 6<=big by decide)
   rw [e7] at hQ
   exact hQ _ _ (AY _) last_new
 | @figures ts text f d n l u ud fl l0 fa e=>
  obtain ⟨num,hnum⟩:∃ num,num=hexval f:=⟨_,rfl⟩
  have lf:f.length<=7:=by have:=ud.le;exact la [_,_,_] [([2,4,0],[6]),([1,3,0],[4]),([6],[17])] ([2],[15]) rfl (aS fl) l0 this
  have n28:num<268435456:=by
   rw [hnum]
   exact bl (FL fa) (Nat.pow_le_pow_right (by decide:0<16) lf)
  rw [<- hnum] at ha hQ new B
  refine AV (Al (c:=false) (BG g3 fgP) (λz=>by cases z) λU=>?_)
  refine wpR (KnI (AV (Al (c:=false) (BG g3 fgP) (λz=>by cases z) λU=>?_)))
  refine wpR (KnI (AV (Al (c:=false) (BG g3 fgP) (λz=>by cases z) λU=>?_)))
  refine wpR (KnI (AV (Al (c:=false) (Mn (c:=false) (Dw (Y:=plainN) g3) (BG g3 fgN)) (λz=>by cases z) λU=>?_)))
  refine wpR (KnI (AV (Al (c:=false) (BG g3 fgN) (λz=>by cases z) λU=>?_)))
  refine wpR (KnI (AV (Al (c:=hexd c) (EG g3 (Gd ?_)) (λz=>?_) λz=>?_)))
  ·refine wpB (wpG g1 (KtI (wpB (wpR (KtI (wpB (wpInSS (KtI (wpTb ⟨?_,rfl⟩)))))))))
   exact TI c
  ·have ⟨k1,k2⟩:=Vi z
   have e16:(16:Int)*(num:Int)+(hexdig c:Int)=((16*num+hexdig c:Nat):Int):=by exact rfl
   refine wpA st (tSt a c place ⟨figuresN,l,16*num+hexdig c,hexT,h+1+ts.flatten.length+2,text⟩ (some (.dct nmK nmV))) ?_ λL B=>?_
   ·walk_at "wp"
    refine Tl (by rw [show Ag (16:Int)=true from rfl];rfl) ?_
    walk_at "wp"
    refine VX (by rw [all_cons,k2];rfl) (by show 1<=1000000;decide) ?_
    walk_at "wp"
    refine Vj k1 ?_
    walk_at "wp"
    rw [e16]
    exact ⟨rfl,(B.set 5 _ |> At.mk _ rfl)⟩
   generalize hv:16*num+hexdig c=v at B
   refine AV (Al (c:=decide (1<l)) ?_ (λq=>?_) λq=>?_)
   ·walk_at "wp"
    exact ⟨decide_eq_decide.mpr Int.ofNat_lt,rfl⟩
   ·have q:=aY q
    have e7:AZ ⟨figuresN,l,num,hexT,h+1+ts.flatten.length+2,text⟩ c place=⟨figuresN,l - 1,v,hexT,h+1+ts.flatten.length+2,text⟩:=by unfold AZ;rw [if_neg fgP,if_neg fgN,if_pos rfl,if_pos z,if_pos q,hv]
    walk_at "wp"
    ·exact (show 6<=big by decide)
    rw [e7] at hQ
    rw [show (l:Int) - 1=((l - 1:Nat):Int) by lia]
    exact hQ _ _ (AY _) last_new
   have q:=of_decide_eq_false q
   have sg:∀ {n:Nat} {L:Nat->Option PV} {st:List (List PV)} {Q:PV->PS->Prop} {E:PX->PS->Prop},(∀ b:Bool,(b=true↔AA n)->Q (.bool b) ⟨L,st⟩)->wp (ak (m_law_sign Kx) [.int n]) ⟨L,st⟩ Q E:=by
    intro n L st Q E h
    with_reducible exact Hp h
   generalize m_law_sign Kx=ms at sg ⊢
   refine wpR (KnI (AV (wpB (wpB (wpB (wpSC (wpL B rfl ?_)))))))
   refine wpSN (KtI (sg λb hb=>?_))
   refine KtI (TJ ?_)
   cases b with
   | true=>
    have hb:=hb.mp rfl
    have e7:AZ ⟨figuresN,l,num,hexT,h+1+ts.flatten.length+2,text⟩ c place=⟨plainN,0,0,untT,place+1,text++[v]⟩:=by unfold AZ;rw [if_neg fgP,if_neg fgN,if_pos rfl,if_pos z,if_neg q,if_pos (by rw [hv];exact sc_iff.mpr hb),hv]
    refine KtI ?_
    rw [if_pos rfl]
    walk_at "wp"
    refine Jd rfl hb ?_
    walk_at "wp"
    ·exact BY tl (aR 1) (by decide)
    ·exact (show 6<=big by decide)
    rw [e7] at hQ
    exact hQ _ _ (AY _) last_new
   | false=>
    have e7:AZ ⟨figuresN,l,num,hexT,h+1+ts.flatten.length+2,text⟩ c place=⟨refusedN,0,0,uniT,place+1,text⟩:=by unfold AZ;rw [if_neg fgP,if_neg fgN,if_pos rfl,if_pos z,if_neg q,if_neg (by rw [hv];exact λk=>by cases hb.mpr (sc_iff.mp k))]
    refine KtI ?_
    rw [if_neg Bool.false_ne_true]
    walk_at "wp"
    ·exact (show 6<=big by decide)
    rw [e7] at hQ
    exact hQ _ _ (AY _) last_new
  have e7:AZ ⟨figuresN,l,num,hexT,h+1+ts.flatten.length+2,text⟩ c place=⟨refusedN,0,0,hexT,h+1+ts.flatten.length+2,text⟩:=by unfold AZ;rw [if_neg fgP,if_neg fgN,if_pos rfl,if_neg (by rw [z];exact Bool.false_ne_true)]
  refine wpR (KnI (wpB (Al (c:=false) ?_ (λz=>by cases z) λU=>?_)))
  ·exact Ui g3 clF.symm rfF.symm
  ·walk_at "wp"
   ·exact (show 6<=big by decide)
   rw [e7] at hQ
   exact hQ _ _ (AY _) last_new
 | @closed ts text rest u e=>
  have e7:AZ ⟨closedN,0,0,[],h+1+ts.flatten.length+1,text⟩ c place=⟨closedN,0,0,[],h+1+ts.flatten.length+1,text⟩:=by unfold AZ;rw [if_neg clP,if_neg clN,if_neg clF]
  refine AV (Al (c:=false) (BG g3 clP) (λz=>by cases z) λU=>?_)
  refine wpR (KnI (AV (Al (c:=false) (BG g3 clP) (λz=>by cases z) λU=>?_)))
  refine wpR (KnI (AV (Al (c:=false) (BG g3 clP) (λz=>by cases z) λU=>?_)))
  refine wpR (KnI (AV (Al (c:=false) (Mn (c:=false) (Dw (Y:=plainN) g3) (BG g3 clN)) (λz=>by cases z) λU=>?_)))
  refine wpR (KnI (AV (Al (c:=false) (BG g3 clN) (λz=>by cases z) λU=>?_)))
  refine wpR (KnI (AV (Al (c:=false) (BG g3 clF) (λz=>by cases z) λU=>?_)))
  refine wpR (KnI (wpB (Al (c:=true) (Mn (c:=true) (Dw (Y:=closedN) g3) (Dw (Y:=refusedN) g3)) (λU=>?_) λz=>by cases z)))
  walk_at "wp"
  rw [e7] at hQ
  exact hQ _ _ (prefix_refl _) ha
 | @refused ts text w r d k u n34 ow wl kl f e=>
  have e7:AZ ⟨refusedN,0,0,w,h+1+ts.flatten.length+k,text⟩ c place=⟨refusedN,0,0,w,h+1+ts.flatten.length+k,text⟩:=by unfold AZ;rw [if_neg rfP,if_neg rfN,if_neg rfF]
  refine AV (Al (c:=false) (BG g3 rfP) (λz=>by cases z) λU=>?_)
  refine wpR (KnI (AV (Al (c:=false) (BG g3 rfP) (λz=>by cases z) λU=>?_)))
  refine wpR (KnI (AV (Al (c:=false) (BG g3 rfP) (λz=>by cases z) λU=>?_)))
  refine wpR (KnI (AV (Al (c:=false) (Mn (c:=false) (Dw (Y:=plainN) g3) (BG g3 rfN)) (λz=>by cases z) λU=>?_)))
  refine wpR (KnI (AV (Al (c:=false) (BG g3 rfN) (λz=>by cases z) λU=>?_)))
  refine wpR (KnI (AV (Al (c:=false) (BG g3 rfF) (λz=>by cases z) λU=>?_)))
  refine wpR (KnI (wpB (Al (c:=true) (Mn (c:=false) (Dw (Y:=closedN) g3) (Dw (Y:=refusedN) g3)) (λU=>?_) λz=>by cases z)))
  walk_at "wp"
  rw [e7] at hQ
  exact hQ _ _ (prefix_refl _) ha
end
section
variable {Q:PV->PS->Prop}{E:PX->PS->Prop}
def Off (js:List Nat)(L L':Nat->Option PV):Prop:=∀ i,i∉js->L' i=L i
theorem Off.set {js:List Nat}{L L':Nat->Option PV}{j:Nat}{v:PV}(h:Off js L L')(m:j∈js):Off js L (upd L' j v):=λi n=>by
 rw [DL (beq_eq_false_iff_ne.mpr λ(e:i=j)=>n (by rw [e];exact m))];exact h i n
def Cj {β:Type}(R:β->PV->List (List PV)->Prop)(st:List (List PV))(acc:List PV)(bs:List β):Prop:=acc.length=bs.length/\∀ (j:Nat) v (b:β),acc[j]? = some v->bs[j]? = some b->R b v st
theorem Cj.snoc {β:Type}{R:β->PV->List (List PV)->Prop}{st:List (List PV)}{acc:List PV}{bs:List β}{v:PV}{b:β}(h:Cj R st acc bs)(r:R b v st):Cj R st (acc++[v]) (bs++[b]):=⟨by rw [length_append,length_append,h.1];rfl,λj w c e1 e2=>by
 by_cases q:j<acc.length
 ·rw [getElem?_append_left q] at e1
  rw [getElem?_append_left (h.1▸q)] at e2
  exact h.2 j w c e1 e2
 ·have lt:=(bc.mp e1).1
  rw [length_append] at lt
  obtain rfl:j=acc.length:=by simp at lt;exact be (la [_,_] [([2,3,0],[4,3,0])] ([2],[4]) rfl lt) (la [_,_] [([2],[4])] ([2],[4]) rfl (Nat.not_lt.mp q))
  rw [getElem?_append_right (Nat.le_refl _),Nat.sub_self] at e1
  rw [getElem?_append_right (by rw [h.1];exact Nat.le_refl _),h.1,Nat.sub_self] at e2
  rw [<- Option.some.inj e1,<- Option.some.inj e2];exact r⟩
theorem Cj.grow {β:Type}{R:β->PV->List (List PV)->Prop}(mono:∀ {b:β} {v:PV} {st st':List (List PV)},st <+: st'->R b v st->R b v st'){st st':List (List PV)}{acc:List PV}{bs:List β}(g:st <+: st')(h:Cj R st acc bs):Cj R st' acc bs:=⟨h.1,λj v b e1 e2=>mono g (h.2 j v b e1 e2)⟩
theorem Fb {β:Type}{get:Nat->M (Option PV)}{gt:PV->M Unit}{mc:M Bool}{m:M PV}{js:List Nat}{n:Nat}{p:Nat->PV}{L:Nat->Option PV}{st:List (List PV)}(g:Nat->Option β)(R:β->PV->List (List PV)->Prop)(mono:∀ {b v st st'},st <+: st'->R b v st->R b v st')(hn:n<=10000)
  (hget:∀ k L' st',st <+: st'->k<n->get k ⟨L',st'⟩ = .ok (some (p k)) ⟨L',st'⟩) (hend:∀ L' st',st <+: st'->get n ⟨L',st'⟩ = .ok none ⟨L',st'⟩)
  (step:∀ k L' st',st <+: st'->Off js L L'->k<n->wp (gt (p k)) ⟨L',st'⟩ (λU s'=>wp mc s' (λc s2=>(c=true->∃ b,g k=some b/\wp m s2 (λv s3=>∃ L3 st3,s3=⟨L3,st3⟩/\st' <+: st3/\Off js L L3/\R b v st3) λU U=>False)/\(c=false->g k=none/\∃ L3 st3,s2=⟨L3,st3⟩/\st' <+: st3/\Off js L L3)) λU U=>False) λU U=>False)
  (hQ:∀ acc st',st <+: st'->Cj R st' acc ((range n).filterMap g)->Q (.lst st'.length) ⟨L,st'++[acc]⟩) :
  wp (aB js (ay get gt mc m Kx 0 [])) ⟨L,st⟩ Q E:=by
 refine Q6 ?_
 have key:∀ (f k:Nat) (acc:List PV) (L':Nat->Option PV) (st':List (List PV)),st <+: st'->Off js L L'->Cj R st' acc ((range k).filterMap g)->k<=n->n - k<f ->
   wp (ay get gt mc m f k acc) ⟨L',st'⟩ (λv s'=>Q v ⟨L,s'.st⟩) λU U=>False:=by
  intro f
  induction f with
  | zero=>exact λU U U U U U U U h=>absurd h (br _)
  | succ f ih=>
   intro k acc L' st' hp ho hr hk h
   have al:acc.length<=k:=by rw [hr.1];exact aQ (List.length_filterMap_le ..) (by rw [length_range];exact aR _)
   show wp (ac (get k) λo=>match o with
    | none=>ao acc
    | some p=>ac (gt p) λU=>ac mc λc=>if c then ac m λv=>am (acc.length+1<=big) (ay get gt mc m f (k+1) (acc++[v])) else ay get gt mc m f (k+1) acc) ⟨L',st'⟩ _ _
   rw [wp_bind]
   by_cases q:k=n
   ·subst q
    unfold wp
    rw [hend L' st' hp]
    exact wpNL (aQ al (aQ hn (by decide))) (hQ acc st' hp hr)
   ·have lt:k<n:=Nat.lt_of_le_of_ne hk q
    have nx:(range (k+1)).filterMap g=(range k).filterMap g++(g k).toList:=by
     rw [range_succ,filterMap_append,filterMap_cons,List.filterMap_nil]
     cases g k <;> rfl
    unfold wp
    rw [hget k L' st' hp lt]
    show wp _ _ _ _
    dsimp only
    rw [wp_bind]
    refine wp_mono (step k L' st' hp ho lt) (λU s' z=>?_) λU U z=>z.elim
    rw [wp_bind]
    refine wp_mono z (λc s2 z=>?_) λU U z=>z.elim
    cases c with
    | true=>
     obtain ⟨b,eb,z⟩:=z.1 rfl
     rw [if_pos rfl,wp_bind]
     refine wp_mono z (λv s3 z=>?_) λU U z=>z.elim
     obtain ⟨L3,st3,rfl,p3,o3,r3⟩:=z
     rw [Az]
     refine ⟨decide_eq_true (aQ (bx al) (aQ (aQ lt hn) (by decide))),?_⟩
     refine ih (k+1) (acc++[v]) L3 st3 (hp.trans p3) o3 ?_ lt (fuel h lt)
     rw [nx,eb]
     exact Cj.snoc (Cj.grow (R:=R) mono p3 hr) r3
    | false=>
     obtain ⟨eb,L3,st3,rfl,p3,o3⟩:=z.2 rfl
     rw [if_neg Bool.false_ne_true]
     refine ih (k+1) acc L3 st3 (hp.trans p3) o3 ?_ lt (fuel h lt)
     rw [nx,eb]
     show Cj R st3 acc (_++[])
     rw [append_nil]
     exact Cj.grow (R:=R) mono p3 hr
 exact key Kx 0 [] _ st (prefix_refl _) (λi n=>if_neg n) ⟨rfl,λj v b e=>by cases e⟩ (aP _) (bv hn (aZ (by decide) Kx_big))
theorem Hq {β:Type}{get:Nat->M (Option PV)}{gt:PV->M Unit}{m:M PV}{js:List Nat}{n:Nat}{p:Nat->PV}{L:Nat->Option PV}{st:List (List PV)}(g:Nat->β)(R:β->PV->List (List PV)->Prop)(mono:∀ {b v st st'},st <+: st'->R b v st->R b v st')(hn:n<=10000)
  (hget:∀ k L' st',st <+: st'->k<n->get k ⟨L',st'⟩ = .ok (some (p k)) ⟨L',st'⟩) (hend:∀ L' st',st <+: st'->get n ⟨L',st'⟩ = .ok none ⟨L',st'⟩)
  (step:∀ k L' st',st <+: st'->Off js L L'->k<n->wp (gt (p k)) ⟨L',st'⟩ (λU s'=>wp m s' (λv s3=>∃ L3 st3,s3=⟨L3,st3⟩/\st' <+: st3/\Off js L L3/\R (g k) v st3) λU U=>False) λU U=>False)
  (hQ:∀ acc st',st <+: st'->Cj R st' acc ((range n).map g)->Q (.lst st'.length) ⟨L,st'++[acc]⟩) :
  wp (aB js (ay get gt (AM .And []) m Kx 0 [])) ⟨L,st⟩ Q E:=by
 refine Fb (λk=>some (g k)) R mono hn hget hend (λk L' st' h o lt=>wp_mono (step k L' st' h o lt) (λU s' z=>?_) λU U z=>z) λacc st' h r=>hQ acc st' h ?_
 ·rw [Cw]
  exact ⟨λU=>⟨_,rfl,z⟩,λe=>by cases e⟩
 ·rw [List.filterMap_eq_map'] at r
  exact r
end
theorem DS {st st':List (List PV)}{i k:Nat}{l:List PV}{L:Nat->Option PV}(h:st[i]? = some l)(g:st <+: st')(hk:k<l.length):B0 (.lst i) k ⟨L,st'⟩ = .ok (some (l.getD k .none)) ⟨L,st'⟩:=by
 show ac (ar i) (λl=>ae l[k]?) ⟨L,st'⟩=_
 unfold ac ar
 dsimp only
 rw [AF g h]
 show R.ok l[k]? _=_
 rw [getD_eq_getElem?_getD,getElem?_eq_getElem hk];rfl
theorem Fc {st st':List (List PV)}{i:Nat}{l:List PV}{L:Nat->Option PV}(h:st[i]? = some l)(g:st <+: st'):B0 (.lst i) l.length ⟨L,st'⟩ = .ok none ⟨L,st'⟩:=by
 show ac (ar i) (λl'=>ae l'[l.length]?) ⟨L,st'⟩=_
 unfold ac ar
 dsimp only
 rw [AF g h]
 show R.ok l[l.length]? _=_
 rw [getElem?_eq_none (Nat.le_refl _)]
theorem Ry {st:List (List PV)}{a b k:Nat}{L:Nat->Option PV}(h:a+k<b):BA (a:Int) (b:Int) k ⟨L,st⟩ = .ok (some (.int ((a+k:Nat):Int))) ⟨L,st⟩:=by
 unfold BA ae
 rw [if_pos (by lia)]
 rfl
theorem RA {st:List (List PV)}{a b k:Nat}{L:Nat->Option PV}(h:b<=a+k):BA (a:Int) (b:Int) k ⟨L,st⟩ = .ok none ⟨L,st⟩:=by
 unfold BA ae
 rw [if_neg (by lia)]
def endsT:List Txt:=[[],[110]]++(range 8).map λk=>zer (k+1)
theorem FM {k:Nat}(h:k<10):endsT.getD k []=[110]\/∃ j,endsT.getD k []=zer j:=by
 rcases (by lia:k=0\/k=1\/2<=k) with rfl | rfl | q
 ·exact .inr ⟨0,rfl⟩
 ·exact .inl rfl
 ·refine .inr ⟨k - 1,?_⟩
  exact (by decide:∀ k<10,2<=k->endsT.getD k []=zer (k - 1)) k h q
theorem DT {k:Nat}(h:k<10):(endsT.getD k []).length<=8:=(by decide:∀ k<10,(endsT.getD k []).length<=8) k h
def Wi (t:Txt)(v:PV)(_:List (List PV)):Prop:=v = .str t
def Bu (b:Txt × Txt)(v:PV)(st:List (List PV)):Prop:=∃ i,v = .lst i/\st[i]? = some [.str b.1,.str b.2]
theorem Bu.mono {b:Txt × Txt}{v:PV}{st st':List (List PV)}(g:st <+: st')(h:Bu b v st):Bu b v st':=by
 obtain ⟨i,e,k⟩:=h
 exact ⟨i,e,AF g k⟩
def Hr (b:Txt × Txt):PyData:=.list [.str (txt b.1),.str (txt b.2)]
theorem Hs {st:List (List PV)}:∀ {acc:List PV} {bs:List (Txt × Txt)} {n:Nat},Cj Bu st acc bs->bs.length+4<=n->Dy st n acc=some (bs.map Hr):=by
 intro acc
 induction acc with
 | nil=>
  intro bs n h hn
  cases bs with
  | nil=>
   obtain ⟨m,rfl⟩:∃ m,n=m+1:=⟨n - 1,by simp at *;exact be (la [_,_] [([2],[4,3,0])] ([2],[4,3,0]) rfl (Mi.lcS _ _)) (la [_,_] [([2,3,0],[4])] ([2,3,0],[4]) rfl (Mi.lcC (la [_] [([9],[2])] ([3],[2]) rfl hn)))⟩
   rfl
  | cons b bs=>cases h.1
 | cons v acc ih=>
  intro bs n h hn
  cases bs with
  | nil=>cases h.1
  | cons b bs=>
   rw [length_cons] at hn
   obtain ⟨m,rfl⟩:∃ m,n=m+1:=⟨n - 1,by exact be (la [_,_] [([2],[4,3,0])] ([2],[4,3,0]) rfl (Mi.lcS _ _)) (la [_,_] [([2,3,0],[4])] ([2,3,0],[4]) rfl (Mi.lcC (la [_,_] [([2,3,0,9,0],[4])] ([3],[4]) rfl hn)))⟩
   obtain ⟨i,rfl,hi⟩:=h.2 0 v b rfl rfl
   have h1:toD st m (.lst i)=some (Hr b):=by
    obtain ⟨m',rfl⟩:∃ m',m=m'+4:=⟨m - 4,by exact be (la [_,_] [([2],[4,9,0])] ([2],[4,9,0]) rfl (Mi.lcS _ _)) (la [_,_] [([2,9,0],[4])] ([2,9,0],[4]) rfl (Mi.lcC (la [_,_] [([2,3,0,9,0],[4,3,0])] ([9],[4]) rfl hn)))⟩
    exact C1 hi (D2 rfl (D2 rfl rfl))
   exact D2 h1 (ih (n:=m) ⟨Nat.succ.inj h.1,λj w c e1 e2=>h.2 (j+1) w c e1 e2⟩ (by exact la [_,_] [([2,3,0,9,0],[4,3,0])] ([2,9,0],[4]) rfl hn))
theorem RB {st:List (List PV)}{loc:Nat->Option PV}{a b:Nat}{xs ys:List PV}{bs:List (Txt × Txt)}(ha:st[a]? = some xs)(hb:st[b]? = some ys)(hx:Cj Bu st xs bs)(hy:Cj Bu st ys bs)(hl:bs.length<=20)(ok:∀ b∈bs,okT b.1/\okT b.2):eqP (.lst a) (.lst b) ⟨loc,st⟩ = .ok true ⟨loc,st⟩:=by
 have s1:SeqAt.shaped (.list (bs.map Hr))=true:=by
  have c:∀ {l:List (Txt × Txt)},(∀ b∈l,okT b.1/\okT b.2)->PyData.canLayAll0 (l.map Hr)=true/\PyData.depthAll (l.map Hr)<=2:=by
   intro l
   induction l with
   | nil=>exact λU=>⟨rfl,aP _⟩
   | cons b l ih=>
    intro h
    have ⟨h1,h2⟩:=h b mem_cons_self
    have ⟨i1,i2⟩:=ih λc m=>h c (mem_cons_of_mem _ m)
    constructor
    ·simp [PyData.canLayAll0,Hr,PyData.canLay0,Ij h1,Ij h2,i1]
    ·simp [PyData.depthAll,Hr,PyData.depth]
     lia
  have ⟨c1,c2⟩:=c ok
  unfold SeqAt.shaped
  simp [PyData.canLay0,c1,PyData.depth]
  exact la [_] [([2],[5])] ([2],[127]) rfl c2
 refine EF rfl (C1 ha (Hs hx (by exact la [_] [([2],[41])] ([2,9,0],[127]) rfl hl))) (C1 hb (Hs hy (by exact la [_] [([2],[41])] ([2,9,0],[127]) rfl hl))) s1 s1 (SeqAt.eqv_refl _ (SeqAt.canLay_of_shaped s1))
abbrev tM7 (t:Txt)(en:Nat)(hd p:Txt)(se sa m:Nat)(s:S7)(src due an d fu co cu fa e cl:Option PV):Tb:=[none,some (.str t),some (.lst en),some (.str hd),some (.str p),some (.int se),some (.lst sa),some (.int m),some (.str s.name),some (.int (s.lack:Nat)),some (.int (s.num:Nat)),some (.str s.words),some (.int (s.since:Nat)),some (.str s.text),src,due,an,d,fu,co,cu,fa,e,cl]
theorem Sem.textLen {h:Nat}{p:Txt}{s:S7}(hs:Sem h p s):s.text.length<=p.length/\okT s.text:=by
 have fl:∀ {ts:List Txt} {cs:Txt},Units cs ts->cs.length<=ts.flatten.length:=by
  intro ts cs u
  induction u with
  | nil=>exact aR _
  | @cons c t cs ts hc u _ ih=>
   have:1<=t.length:=by
    rcases Ii u with ⟨rfl,_⟩ | ⟨r,rfl,_⟩
    ·exact aR _
    ·exact bx (aP _)
   rw [flatten_cons,length_cons,length_append];exact la [_,_,_] [([2],[4]),([3],[6])] ([2,3,0],[6,4,0]) rfl ih this
 cases hs with
 | plain u e=>exact ⟨by rw [e];exact fl u,BJ u⟩
 | named u e=>exact ⟨by rw [e,length_append];exact aQ (fl u) (bw _ _),BJ u⟩
 | figures u _ _ _ _ e=>exact ⟨by rw [e,length_append];exact aQ (fl u) (bw _ _),BJ u⟩
 | closed u e=>exact ⟨by rw [e,length_append];exact aQ (fl u) (bw _ _),BJ u⟩
 | refused u _ _ _ _ _ e=>exact ⟨by rw [e,length_append];exact aQ (fl u) (bw _ _),BJ u⟩
structure C7 (st:List (List PV))(en:Nat)(hd p:Txt)(s:S7):Prop where
 he:st[en]? = some (endsT.map .str)
 hs:Sem hd.length p s
 hl:hd.length+p.length<=1000
 op:okT p
section
variable {loc:Nat->Option PV}{st:List (List PV)}{Q:PV->PS->Prop}{E:PX->PS->Prop}
theorem Vl {a:Txt}{k:Int}{s:PS}(c:Ag k=true)(l:((replicate k.toNat a).flatten).length<=big)(h:Q (.str (replicate k.toNat a).flatten) s):wp (Ai .Mult (.str a) (.int k)) s Q E:=by
 show wp (am (Ag k) (au (replicate k.toNat a).flatten)) s Q E
 exact wpO c (ED▸⟨l,h⟩)
theorem Dk {hd z x w:Txt}{q n:Nat}(hq:q=39\/q=34)(hx:x=hd++q::z)(hl:x.length<=90000)(T:Ji q x hd.length n w)(hQ:∀ st' i,st <+: st'->st'[i]? = some [.str (B7 x n w)]->Q (.lst i) ⟨loc,st'⟩):wp (ak (Ay Kx) [.str x,.int (hd.length:Nat)]) ⟨loc,st⟩ Q E:=by
 have g:x[hd.length]? = some q:=by rw [hx,getElem?_append_right (Nat.le_refl _),Nat.sub_self];rfl
 have lt:=(bc.mp g).1
 exact Me hq g (bl lt (aQ hl (by decide))) (λL Q' E' hE=>T st L Q' E' hE) hQ
theorem Ck {hd z x t:Txt}{q n:Nat}(hq:q=39\/q=34)(hx:x=hd++q::z)(hl:x.length<=90000)(T:Gives q x hd.length n t)(hQ:Q (.tup [.int (n:Nat),.str t]) ⟨loc,st⟩):wp (ak (Ay Kx) [.str x,.int (hd.length:Nat)]) ⟨loc,st⟩ Q E:=by
 have g:x[hd.length]? = some q:=by rw [hx,getElem?_append_right (Nat.le_refl _),Nat.sub_self];rfl
 have lt:=(bc.mp g).1
 exact OG hq g (bl lt (aQ hl (by decide))) (λL Q' E' hQ=>T st L Q' E' hQ) hQ
theorem RC {t hd p:Txt}{en se sa m:Nat}{s:S7}{st0:List (List PV)}{L:Nat->Option PV}(W:C7 st0 en hd p s)(B:Loc (tM7 t en hd p se sa m s (some (.str (hd++[34]++p))) none none none none none none none none none) L) :
  wp (ac ((ac ((ac (ag [af 14,(ac (ag [af 3]) A7)]) (ak (Ay Kx)))) λa=>ac ((ac ((ac (af 8) λb=>ac (ae (.str [99,108,111,115,101,100])) λd=>ac (Ao .Eq b d) tst)) λc=>if c then (ac (ag [af 12,af 13]) EM) else (ac (ag [af 14,af 12,af 11]) (ak (BF Kx))))) λb=>ac (Ao .NotEq a b) tst)) λc=>if c then (ac (ae (.bool false)) λa=>ae (.ret a)) else (ae PFlow.next)) ⟨L,st⟩ (λf s'=>f=PFlow.next/\∃ st',st <+: st'/\At st' (tM7 t en hd p se sa m s (some (.str (hd++[34]++p))) none none none none none none none none none) s') λU U=>False:=by
 have wl:=W.hl
 have hx:hd++[34]++p=hd++34::p:=by simp
 have xl:(hd++[34]++p).length<=90000:=by rw [hx];simp;exact la [_,_] [([2,4,0],[2001])] ([2,4,3,0,0],[180001]) rfl wl
 have hlen:hd.length<=big:=An (by exact la [_,_] [([2,4,0],[2001])] ([2],[2000001]) rfl wl)
 rcases TC W.hs hx xl with ⟨hn,G⟩ | ⟨hn,T,ow,wll⟩
 ·walk_at "wp"
  ·exact hlen
  refine Ck (.inr rfl) hx xl G ?_
  refine KtI (wpB (Al (c:=true) ?_ (λU=>?_) λz=>by cases z))
  ·refine wpB (wpL B rfl (KtI (wpB (wpR (KtI (wpB (wpEqS (KtI (wpTb ⟨?_,rfl⟩)))))))))
   rw [hn];rfl
  walk_at "wp"
  ·exact (by decide:2<=big)
  exact Hj (Gu W.hs.textLen.2) (KtI (wpTb (KtI (wpR ⟨rfl,st,prefix_refl _,.mk _ rfl B⟩))))
 ·walk_at "wp"
  ·exact hlen
  refine Dk (.inr rfl) hx xl T λst1 i1 g1 h1=>?_
  refine KtI (wpB (Al (c:=false) ?_ (λz=>by cases z) λU=>?_))
  ·refine wpB (wpL B rfl (KtI (wpB (wpR (KtI (wpB (wpEqS (KtI (wpTb ⟨?_,rfl⟩)))))))))
   exact aX.mpr hn
  walk_at "wp"
  refine FK (p:=s.since) (aQ xl (by decide)) (aQ wll (by decide)) λst2 i2 g2 h2=>?_
  walk_at "wp"
  exact Hj (Gw (AF g2 h1) h2 (Gv ow)) (KtI (wpTb (KtI (wpR ⟨rfl,st2,g1.trans g2,.mk _ rfl B⟩))))
theorem RD {t hd p:Txt}{en se sa m d:Nat}{s:S7}{st0:List (List PV)}{due an:Option PV}{L:Nat->Option PV}(W:C7 st0 en hd p s)(hn:s.name=figuresN)(hd16:d<16)(B:Loc (tM7 t en hd p se sa m s (some (.str (hd++[34]++p))) due an none none none none none none none) L) :
  wp (Dv Kx) ⟨upd L 17 (.int d),st⟩ (λf s'=>(f = .next\/f = .cont)/\∃ st',st <+: st'/\At st' (tM7 t en hd p se sa m s (some (.str (hd++[34]++p))) none an none none none none none none none) s') λU U=>False:=by
 have wl:=W.hl
 have B:=B.set 17 (.int d)
 obtain ⟨ln,l8,n28⟩:0<s.lack/\s.lack<=8/\s.num<268435456:=by
  have hs:=W.hs
  revert hn
  cases hs with
  | @figures ts text f D n l u ud fl l0 fa e=>
   have:=ud.le
   exact λU=>⟨l0,by show l<=8;exact la [_,_,_] [([2,4,0],[6]),([6],[17])] ([4],[17]) rfl (aS fl) this,bl (FL fa) (Nat.pow_le_pow_right (by decide:0<16) (by exact la [_,_,_] [([2,4,0],[6]),([1,3,0],[4]),([6],[17])] ([2],[15]) rfl (aS fl) l0 this:f.length<=7))⟩
  | plain=>exact λh=>absurd h (by show plainN≠figuresN;decide)
  | named=>exact λh=>absurd h (by show namedN≠figuresN;decide)
  | closed=>exact λh=>absurd h clF
  | refused=>exact λh=>absurd h rfF
 have ⟨tl,tok⟩:=W.hs.textLen
 obtain ⟨D,hD⟩:∃ D,D=dig16.getD d 0:=⟨_,rfl⟩
 obtain ⟨full,hf⟩:∃ full,full=hd++34::(p++(replicate s.lack D++[34])):=⟨_,rfl⟩
 have ef:hd++[34]++p++(replicate s.lack [D]).flatten++[34]=full:=by
  rw [hf,show (replicate s.lack [D]).flatten=replicate s.lack D from by simp];simp
 have fl:full.length<=2000:=by rw [hf];simp;exact la [_,_,_] [([2,4,0],[2001]),([6],[17])] ([2,4,6,3,0,0,3,0,0],[4001]) rfl wl l8
 have f0:1<=full.length:=by rw [hf];simp;exact la [_,_,_] [] ([3],[2,4,6,3,0,0,3,0,0]) rfl
 have F:=TD (x:=full) W.hs hn hd16 (by rw [hf,hD]) (aQ fl (by decide))
 obtain ⟨v,hv⟩:∃ v,v=s.num*16 ^ s.lack+d*DR s.lack:=⟨_,rfl⟩
 rw [<- hv] at F
 have p16:∀ {Q:PV->PS->Prop} {s':PS},Q (.int ((16 ^ s.lack:Nat):Int)) s'->wp (Ai .Pow (.int 16) (.int (s.lack:Nat))) s' Q λU U=>False:=λh=>by
  refine wpO ?_ ?_
  ·rw [show decide ((0:Int)<=(s.lack:Nat))=true from decide_eq_true (Int.natCast_nonneg _),show decide (((s.lack:Nat):Int)<=16)=true from decide_eq_true (by lia)];rfl
  ·have:((16 ^ s.lack:Nat):Int)=(16:Int) ^ s.lack:=Int.natCast_pow ..
   rw [this] at h
   exact h
 unfold Dv
 refine wpA st (tM7 t en hd p se sa m s (some (.str (hd++[34]++p))) due an (some (.int d)) (some (.str full)) none none none none none) ?_ λL B=>?_
 ·walk_at "wp"
  refine HK (AH (aZ hd16 (by decide))) (Ea hd16) ?_
  walk_at "wp"
  refine Vl (AH (bv l8 (by decide))) ?_ ?_
  ·show ((replicate s.lack [_]).flatten).length<=big
   exact An (by simp;exact la [_] [([2],[17])] ([2],[2000001]) rfl l8)
  have e1:(replicate (s.lack:Int).toNat [([48,49,50,51,52,53,54,55,56,57,97,98,99,100,101,102]:Txt).getD d 0]).flatten=(replicate s.lack [D]).flatten:=by rw [hD];rfl
  rw [e1]
  have l2:(hd++[34]++p++(replicate s.lack [D]).flatten++[34]).length<=2000:=by rw [ef];exact fl
  have l1:(hd++[34]++p++(replicate s.lack [D]).flatten).length<=2000:=by rw [length_append] at l2;exact aQ (bw _ _) l2
  refine KtI (wpAS (An (aQ l1 (by decide))) ?_)
  refine KtI (wpB (wpR (KtI (wpAS (An (aQ l2 (by decide))) ?_))))
  walk_at "wp"
  rw [ef]
  exact ⟨rfl,(B.set 18 _ |> At.mk _ rfl)⟩
 refine wpA st (tM7 t en hd p se sa m s (some (.str (hd++[34]++p))) due an (some (.int d)) (some (.str full)) (some (.int (v:Nat))) none none none none) ?_ λL B=>?_
 ·walk_at "wp"
  refine p16 ?_
  walk_at "wp"
  refine Tl (by rw [AH (i:=(s.num:Int)) (Nat.lt_trans n28 (by decide))];rfl) ?_
  walk_at "wp"
  refine p16 ?_
  walk_at "wp"
  refine Tl (by rw [AH (i:=(d:Int)) (Nat.lt_trans hd16 (by decide))];rfl) ?_
  walk_at "wp"
  have ev:((s.num:Nat):Int)*((16 ^ s.lack:Nat):Int)+(d:Int)*(((16 ^ s.lack:Nat):Int) - 1).fdiv 15=((v:Nat):Int):=by
   rw [hv,Ro l8]
   have p1:1<=16 ^ s.lack:=Nat.one_le_pow _ _ (by decide)
   generalize 16 ^ s.lack=P at p1
   rw [show ((P:Nat):Int) - 1=((P - 1:Nat):Int) by lia,show (((P - 1:Nat):Int)).fdiv 15=(((P - 1) / 15:Nat):Int) from Hg (P - 1) 15,Int.natCast_add,Int.natCast_mul,Int.natCast_mul]
  rw [ev]
  exact ⟨rfl,(B.set 19 _ |> At.mk _ rfl)⟩
 refine wpN (λs'=>∃ st1 i,st <+: st1/\st1[i]? = some [.str (B7 full (full.length - 1) uniT)]/\At st1 (tM7 t en hd p se sa m s (some (.str (hd++[34]++p))) (some (.lst i)) an (some (.int d)) (some (.str full)) (some (.int (v:Nat))) none none none none) s') ?_ ?_
 ·walk_at "wp"
  ·exact An (aQ fl (by decide))
  rw [show (full.length:Int) - 1=((full.length - 1:Nat):Int) by lia]
  refine FK (p:=full.length - 1) (aQ fl (by decide)) (by decide) λst1 i g1 h1=>?_
  walk_at "wp"
  exact ⟨rfl,st1,i,g1,h1,(B.set 15 _ |> At.mk _ rfl)⟩
 clear B
 rintro _ ⟨st1,i,g1,h1,⟨L,rfl,B⟩⟩
 have sg:∀ {n:Nat} {L:Nat->Option PV} {st:List (List PV)} {Q:PV->PS->Prop} {E:PX->PS->Prop},(∀ b:Bool,(b=true↔AA n)->Q (.bool b) ⟨L,st⟩)->wp (ak (m_law_sign Kx) [.int n]) ⟨L,st⟩ Q E:=by
  intro n L st Q E h
  with_reducible exact Hp h
 generalize m_law_sign Kx=ms at sg ⊢
 have hlen:hd.length<=big:=An (by exact la [_,_] [([2,4,0],[2001])] ([2],[2000001]) rfl wl)
 rcases F with ⟨sv,G,ok⟩ | ⟨sv,T⟩
 ·refine wpA st1 (tM7 t en hd p se sa m s (some (.str (hd++[34]++p))) (some (.tup [.int (full.length:Nat),.str (s.text++[v])])) an (some (.int d)) (some (.str full)) (some (.int (v:Nat))) none none none none) ?_ λL B=>?_
  ·refine wpB (wpB (wpB (wpSC (wpL B rfl ?_))))
   refine wpSN (KtI (sg λb hb=>?_))
   obtain rfl:b=true:=hb.mpr sv
   refine KtI (TJ (KtI ?_))
   rw [if_pos rfl]
   walk_at "wp"
   ·exact An (aQ fl (by decide))
   refine Jd rfl sv ?_
   walk_at "wp"
   ·exact BY (aQ tl (show p.length<=1000 by exact la [_,_] [([2,4,0],[2001])] ([4],[2001]) rfl wl)) (aR 1) (by decide)
   ·exact (by decide:2<=big)
   exact ⟨rfl,(B.set 15 _ |> At.mk _ rfl)⟩
  walk_at "wp"
  ·exact hlen
  refine Ck (.inr rfl) hf (aQ fl (by decide)) G ?_
  walk_at "wp"
  refine Hj (Gu ok) (KtI (wpTb (KtI (wpR ⟨.inl rfl,st1,g1,?_⟩))))
  exact (B.drop 15 |>.drop 17 |>.drop 18 |>.drop 19 |> At.mk _ rfl)
 ·refine wpA st1 (tM7 t en hd p se sa m s (some (.str (hd++[34]++p))) (some (.lst i)) an (some (.int d)) (some (.str full)) (some (.int (v:Nat))) none none none none) ?_ λL B=>?_
  ·refine wpB (wpB (wpB (wpSC (wpL B rfl ?_))))
   refine wpSN (KtI (sg λb hb=>?_))
   obtain rfl:b=false:=by cases b with
    | false=>rfl
    | true=>exact absurd (hb.mp rfl) sv
   refine KtI (TJ (KtI ?_))
   rw [if_neg Bool.false_ne_true]
   exact wpR ⟨rfl,.mk _ rfl B⟩
  walk_at "wp"
  ·exact hlen
  refine Dk (.inr rfl) hf (aQ fl (by decide)) T λst2 j g2 h2=>?_
  walk_at "wp"
  refine Hj (Gw h2 (AF g2 h1) (Gv (show okT uniT from Bx (by decide)))) (KtI (wpTb (KtI (wpR ⟨.inl rfl,st2,g1.trans g2,?_⟩))))
  exact (B.drop 15 |>.drop 17 |>.drop 18 |>.drop 19 |> At.mk _ rfl)
end
theorem V3 {V:Type}{x:List V}{n:Nat}(h:n<=x.length):slc x none (some (n:Int))=x.take n:=by
 unfold slc bnd
 simp only [Int.natCast_nonneg,if_true,Int.toNat_natCast,Nat.min_eq_left h,drop_zero]
theorem ON {V:Type}{x:List V}{n:Nat}:slc x (some (n:Int)) none=x.drop n:=by
 unfold slc bnd
 simp only [Int.natCast_nonneg,if_true,Int.toNat_natCast,take_length]
 by_cases h:n<=x.length
 ·rw [Nat.min_eq_left h]
 ·rw [Nat.min_eq_right (by exact la [_,_] [([2,3,0],[4])] ([2],[4]) rfl (Nat.not_le.mp h)),List.drop_length,List.drop_eq_nil_of_le (by exact la [_,_] [([2,3,0],[4])] ([2],[4]) rfl (Nat.not_le.mp h))]
section
variable {loc:Nat->Option PV}{st:List (List PV)}{Q:PV->PS->Prop}{E:PX->PS->Prop}
theorem VY {i n:Nat}{a b:Option Int}{l t:List PV}(h:st[i]? = some l)(hl:l.length<=big)(e:slc l a b=t)(ht:t.length<=big)(k:Q (.lst st.length) ⟨loc,st++[t]⟩):wp (Bj a b (.lst i)) ⟨loc,st⟩ Q E:=by
 show wp (ac (ar i) λl=>am (l.length<=big) (ao (slc l a b))) _ Q E
 rw [wp_bind,Cg,h]
 dsimp only
 rw [e]
 exact wpO (decide_eq_true hl) (wpNL ht k)
end
def Fd (s:S7):List (Txt × Txt):=(range 10).filterMap λk=>(closes s (endsT.getD k [])).map λt=>(endsT.getD k [],t)
theorem Fe {k:Nat}(h:k<10):(endsT.map PV.str).getD k .none = .str (endsT.getD k []):=by
 have lt:k<endsT.length:=h
 rw [getD_eq_getElem?_getD,getElem?_map,getD_eq_getElem?_getD,getElem?_eq_getElem lt];rfl
theorem OO {a b since:Nat}{w text:Txt}:Fd ⟨plainN,a,b,w,since,text⟩=(range 10).map λk=>(endsT.getD k [],text++endsT.getD k []):=rfl
theorem OP {a b since:Nat}{w text:Txt}:Fd ⟨namedN,a,b,w,since,text⟩=[([110],text++[10])]:=rfl
theorem KL {s:S7}(h:s.name=closedN\/s.name=refusedN):Fd s=[]:=by
 unfold Fd
 refine filterMap_eq_nil_iff.mpr λk U=>?_
 unfold closes
 rcases h with h | h <;> rw [h]
 ·rw [if_neg clP,if_neg clN,if_neg clF];rfl
 ·rw [if_neg rfP,if_neg rfN,if_neg rfF];rfl
theorem KM {k:Nat}(h:k<8):endsT.getD (k+2) []=zer (k+1):=(by decide:∀ k<8,endsT.getD (k+2) []=zer (k+1)) k h
def TK (l v:Nat)(text:Txt)(k:Nat):Option (Txt × Txt):=if l<=k+1 then some (zer (k+1),text++[v]++(zer (k+1)).drop l) else none
theorem Vm {k:Nat}:zer k≠[110]:=λz=>by
 have m:110∈zer k:=by rw [z];exact mem_singleton_self _
 exact absurd (eq_of_mem_replicate m) (by decide)
theorem D4 {k:Nat}:(zer k).length=k:=length_replicate
theorem RE {V β:Type}{f g:V->Option β}:∀ {l:List V},(∀ a∈l,f a=g a)->l.filterMap f=l.filterMap g:=by
 intro l
 induction l with
 | nil=>exact λU=>rfl
 | cons a l ih=>exact λh=>by rw [filterMap_cons,filterMap_cons,h a mem_cons_self,ih λb m=>h b (mem_cons_of_mem _ m)]
theorem TL {l b since:Nat}{w text:Txt}(l0:0<l)(sc:AA (b*16 ^ l)):Fd ⟨figuresN,l,b,w,since,text⟩=(range 8).filterMap (TK l (b*16 ^ l) text):=by
 have cl:∀ e,closes ⟨figuresN,l,b,w,since,text⟩ e=if e≠[110]/\l<=e.length then some (text++[b*16 ^ l]++e.drop l) else none:=λe=>by
  unfold closes
  rw [if_neg fgP,if_neg fgN,if_pos rfl]
  dsimp only
  by_cases z:e≠[110]/\l<=e.length
  ·rw [if_pos z,if_pos ⟨sc_iff.mpr sc,z⟩]
  ·rw [if_neg z,if_neg λy=>z y.2]
 unfold Fd
 rw [show range 10=[0,1]++(range 8).map (·+2) from rfl,filterMap_append,List.filterMap_map]
 have h1:filterMap (λk=>(closes ⟨figuresN,l,b,w,since,text⟩ (endsT.getD k [])).map λt=>(endsT.getD k [],t)) [0,1]=[]:=by
  refine filterMap_eq_nil_iff.mpr λk m=>?_
  rw [cl]
  rcases mem_cons.mp m with rfl | m
  ·rw [if_neg λz=>by have z2:l<=0:=z.2;exact (Nat.not_succ_le_zero _ (la [_] [([1,3,0],[2]),([2],[1])] ([3],[1]) rfl l0 z2))];rfl
  ·rw [mem_singleton.mp m,if_neg λz=>z.1 rfl];rfl
 rw [h1,nil_append]
 refine RE λk m=>?_
 have hk:=mem_range.mp m
 show (closes _ (endsT.getD (k+2) [])).map (λt=>(endsT.getD (k+2) [],t))=TK l (b*16 ^ l) text k
 rw [KM hk,cl]
 unfold TK
 by_cases z:l<=k+1
 ·rw [if_pos ⟨Vm,by rw [D4];exact z⟩,if_pos z];rfl
 ·rw [if_neg λy=>z (by have:=y.2;rw [D4] at this;exact this),if_neg z];rfl
theorem RG {l b since:Nat}{w text:Txt}(sc:¬ AA (b*16 ^ l)):Fd ⟨figuresN,l,b,w,since,text⟩=[]:=by
 unfold Fd
 refine filterMap_eq_nil_iff.mpr λk U=>?_
 unfold closes
 rw [if_neg fgP,if_neg fgN,if_pos rfl]
 dsimp only
 rw [if_neg λz=>sc (sc_iff.mp z.1)];rfl
section
variable {st:List (List PV)}{E:PX->PS->Prop}
theorem RH {t hd p:Txt}{en se sa m i0:Nat}{s:S7}{st0:List (List PV)}{src:Txt}{L:Nat->Option PV}(W:C7 st0 en hd p s)(g0:st0 <+: st)(hi:st[i0]? = some [])(B:Loc (tM7 t en hd p se sa m s (some (.str src)) (some (.lst i0)) none none none none none none none none) L) :
  wp (ac ((ac (af 8) λa=>ac (ae (.str [112,108,97,105,110])) λb=>ac (Ao .Eq a b) tst)) λc=>if c then (ac ((ac (ac (af 2) Dx) λa=>aB [34] (ay a (ah 34) (AM .And []) ((ac (ag [af 34,(ac (af 13) λb=>ac (af 34) λd=>Ai .Add b d)]) ao)) Kx 0 []))) λa=>ac (ah 15 a) λU=>ae PFlow.next) else (ac ((ac (af 8) λa=>ac (ae (.str [110,97,109,101,100])) λb=>ac (Ao .Eq a b) tst)) λc=>if c then (ac ((ac (ag [(ac (ag [ae (.str [110]),(ac (af 13) λa=>ac (ae (.str [10])) λb=>Ai .Add a b)]) ao)]) ao)) λa=>ac (ah 15 a) λU=>ae PFlow.next) else (ac ((AM .And [(ac (af 8) λa=>ac (ae (.str [102,105,103,117,114,101,115])) λb=>ac (Ao .Eq a b) tst),(ac ((ac (ag [(ac (af 10) λa=>ac ((ac (ae (.int 16)) λb=>ac (af 9) λd=>Ai .Pow b d)) λb=>Ai .Mult a b)]) (ak (m_law_sign Kx)))) tst)])) λc=>if c then (ac ((ac (ac ((ac (af 2) λa=>ac (Ba (some (ae (.int 2)))) λb=>ac (Ba none) λd=>Bj b d a)) Dx) λa=>aB [35] (ay a (ah 35) (AM .And [(ac ((ac (ag [af 35]) A7)) λb=>ac (af 9) λd=>ac (Ao .GtE b d) tst)]) ((ac (ag [af 35,(ac ((ac (af 13) λb=>ac ((ac (ag [(ac (af 10) λd=>ac ((ac (ae (.int 16)) λe=>ac (af 9) λg=>Ai .Pow e g)) λe=>Ai .Mult d e)]) D6)) λd=>Ai .Add b d)) λb=>ac ((ac (af 35) λd=>ac (Ba (some (af 9))) λe=>ac (Ba none) λg=>Bj e g d)) λd=>Ai .Add b d)]) ao)) Kx 0 []))) λa=>ac (ah 15 a) λU=>ae PFlow.next) else (ae PFlow.next)))) ⟨L,st⟩ (λf s'=>f=PFlow.next/\∃ st' i acc,st <+: st'/\st'[i]? = some acc/\Cj Bu st' acc (Fd s)/\At st' (tM7 t en hd p se sa m s (some (.str src)) (some (.lst i)) none none none none none none none none) s') λU U=>False:=by
 have ⟨tl,tok⟩:=W.hs.textLen
 have wl:=W.hl
 have nilR:∀ {bs:List (Txt × Txt)},bs=[]->Cj Bu st [] bs:=λh=>by subst h;exact ⟨rfl,λj v b e=>by cases e⟩
 have g8:=B 8 _ rfl
 have he:=AF g0 W.he
 have hs:=W.hs
 cases hs with
 | @plain ts text u e=>
  refine Al (c:=true) (Dw g8) (λU=>?_) λz=>by cases z
  walk_at "wp"
  rw [DO]
  refine KtI (Hq (n:=10) (p:=λk=>(endsT.map PV.str).getD k .none) (λk=>(endsT.getD k [],text++endsT.getD k [])) Bu Bu.mono (by decide) (λk L' st' g lt=>DS he g lt) (λL' st' g=>Fc he g) (λk L' st' g o lt=>?_) λacc st' g r=>?_)
  ·rw [Fe lt]
   refine wpSet ?_
   have g34:upd L' 34 (.str (endsT.getD k [])) 34=some (.str (endsT.getD k [])):=upd_eq
   have g13:upd L' 34 (.str (endsT.getD k [])) 13=some (.str text):=(DL rfl).trans ((o 13 (by decide)).trans (B 13 _ rfl))
   refine wpB (wpSC (wpG g34 (wpSC (wpB (wpG g13 (KtI (wpB (wpG g34 ?_))))))))
   refine KtI (wpAS (BY (aQ tl (show p.length<=1000 by exact la [_,_] [([2,4,0],[2001])] ([4],[2001]) rfl wl)) (DT lt) (by decide)) ?_)
   refine wpSN (KtI (wpNL (by decide:2<=big) ?_))
   exact ⟨_,_,rfl,AY _,o.set (mem_singleton_self _),_,rfl,last_new⟩
  ·walk_at "wp"
   exact ⟨rfl,_,_,acc,g.trans (AY _),last_new,Cj.grow (R:=Bu) Bu.mono (AY _) (OO▸r),(B.set 15 _ |> At.mk _ rfl)⟩
 | @named ts text u e=>
  refine Al (c:=false) (Dw g8) (λz=>by cases z) λU=>?_
  refine Al (c:=true) (Dw g8) (λU=>?_) λz=>by cases z
  walk_at "wp"
  ·exact BY (aQ tl (show p.length<=1000 by exact la [_,_] [([2,4,0],[2001])] ([4],[2001]) rfl wl)) (aR 1) (by decide)
  ·exact (by decide:2<=big)
  ·exact (by decide:1<=big)
  refine ⟨rfl,_,_,_,(AY _).trans (AY _),last_new,?_,(B.set 15 _ |> At.mk _ rfl)⟩
  rw [OP]
  refine ⟨rfl,λj v b e1 e2=>?_⟩
  cases j with
  | zero=>rw [<- Option.some.inj e1,<- Option.some.inj e2];exact ⟨_,rfl,AF (AY _) last_new⟩
  | succ j=>cases e1
 | @figures ts text f D n l u ud fl l0 fa e=>
  have l8:l<=8:=by have:=ud.le;exact la [_,_,_] [([2,4,0],[6]),([6],[17])] ([4],[17]) rfl (aS fl) this
  obtain ⟨num,hnum⟩:∃ num,num=hexval f:=⟨_,rfl⟩
  have n28:num<268435456:=by rw [hnum];exact bl (FL fa) (Nat.pow_le_pow_right (by decide:0<16) (by have:=ud.le;exact la [_,_,_] [([2,4,0],[6]),([1,3,0],[4]),([6],[17])] ([2],[15]) rfl (aS fl) l0 this:f.length<=7))
  rw [<- hnum] at B ⊢
  obtain ⟨v,hv⟩:∃ v,v=num*16 ^ l:=⟨_,rfl⟩
  have p16:∀ {Q:PV->PS->Prop} {s':PS},Q (.int ((16 ^ l:Nat):Int)) s'->wp (Ai .Pow (.int 16) (.int (l:Nat))) s' Q λU U=>False:=λh=>by
   refine wpO ?_ ?_
   ·rw [show decide ((0:Int)<=(l:Nat))=true from decide_eq_true (Int.natCast_nonneg _),show decide (((l:Nat):Int)<=16)=true from decide_eq_true (by lia)];rfl
   ·have:((16 ^ l:Nat):Int)=(16:Int) ^ l:=Int.natCast_pow ..
    rw [this] at h
    exact h
  have pv:∀ {Q:PV->PS->Prop} {L:Nat->Option PV} {st:List (List PV)},L 10=some (.int num)->L 9=some (.int l)->Q (.int (v:Nat)) ⟨L,st⟩->wp (ac (af 10) λc=>ac ((ac (ae (.int 16)) λd=>ac (af 9) λe=>Ai .Pow d e)) λd=>Ai .Mult c d) ⟨L,st⟩ Q λU U=>False:=λa b h=>by
   refine wpB (wpG a (KtI (wpB (wpB (wpR (KtI (wpB (wpG b (KtI (p16 ?_)))))))))) 
   refine KtI (Tl (by rw [AH (i:=(num:Int)) (Nat.lt_trans n28 (by decide))];rfl) ?_)
   rw [hv,Int.natCast_mul] at h
   exact h
  have sg:∀ {n:Nat} {L:Nat->Option PV} {st:List (List PV)} {Q:PV->PS->Prop} {E:PX->PS->Prop},(∀ b:Bool,(b=true↔AA n)->Q (.bool b) ⟨L,st⟩)->wp (ak (m_law_sign Kx) [.int n]) ⟨L,st⟩ Q E:=by
   intro n L st Q E h
   with_reducible exact Hp h
  generalize m_law_sign Kx=ms at sg ⊢
  refine Al (c:=false) (Dw g8) (λz=>by cases z) λU=>?_
  refine Al (c:=false) (Dw g8) (λz=>by cases z) λU=>?_
  obtain ⟨sb,hsb⟩:∃ b:Bool,(b=true↔AA v):=by
   by_cases q:AA v
   ·exact ⟨true,⟨λU=>q,λU=>rfl⟩⟩
   ·exact ⟨false,⟨λ(z:false=true)=>(by cases z),λz=>absurd z q⟩⟩
  refine Al (c:=sb) (EG g8 (Gd ?_)) (λz=>?_) λz=>?_
  ·refine wpB (wpB (wpSC (pv (B 10 _ rfl) (B 9 _ rfl) ?_)))
   refine wpSN (KtI (sg λb hb=>?_))
   exact KtI (TJ ⟨Bool.eq_iff_iff.mpr (hb.trans hsb.symm),rfl⟩)
  ·have sv:AA v:=hsb.mp z
   walk_at "wp"
   refine VY (n:=0) he (by decide:10<=big) (show slc (endsT.map PV.str) (some (2:Int)) none=(endsT.map PV.str).drop 2 from ON (n:=2)) (by decide:8<=big) ?_
   walk_at "wp"
   rw [DO]
   have ez:∀ k,k<8->((endsT.map PV.str).drop 2).getD k .none = .str (zer (k+1)):=λk hk=>by
    rw [<- KM hk,<- Fe (by exact la [_] [([2,3,0],[17])] ([2,5,0,3,0],[21]) rfl hk:k+2<10),getD_eq_getElem?_getD,getElem?_drop,getD_eq_getElem?_getD,Nat.add_comm 2 k]
   refine KtI (Fb (n:=8) (p:=λk=>((endsT.map PV.str).drop 2).getD k .none) (TK l v text) Bu Bu.mono (by decide) (λk L' st' g lt=>DS last_new g lt) (λL' st' g=>Fc last_new g) (λk L' st' g o lt=>?_) λacc st' g r=>?_)
   ·rw [ez k lt]
    refine wpSet ?_
    have g35:upd L' 35 (.str (zer (k+1))) 35=some (.str (zer (k+1))):=upd_eq
    have gg:∀ i w,(i==35)=false->i∉[35]->L i=some w->upd L' 35 (.str (zer (k+1))) i=some w:=λi w h1 h2 h3=>(DL h1).trans ((o i h2).trans h3)
    have g13:=gg 13 _ rfl (by decide) (B 13 _ rfl)
    have g9:=gg 9 _ rfl (by decide) (B 9 _ rfl)
    have g10:=gg 10 _ rfl (by decide) (B 10 _ rfl)
    have oo:Off [35] L (upd L' 35 (.str (zer (k+1)))):=o.set (mem_singleton_self _)
    generalize upd L' 35 (.str (zer (k+1)))=L3 at g35 g13 g9 g10 oo
    refine wp_mono (Q:=λc s'=>c=decide (l<=k+1)/\s'=⟨L3,st'⟩) (E:=λU U=>False) (Gd ?_) (λc s' z=>?_) λU U z=>z.elim
    ·refine wpB (wpB (wpSC (wpG g35 (wpSN (KtI (wpLS (by rw [D4];exact aQ (show k+1<=8 by exact la [_] [([2,3,0],[17])] ([2,3,0],[17]) rfl lt) (by decide)) ?_))))))
     refine KtI (wpB (wpG g9 (KtI (wpB (wpGeI (KtI (wpTb ⟨?_,rfl⟩)))))))
     rw [D4]
     exact decide_eq_decide.mpr Int.ofNat_le
    ·obtain ⟨rfl,rfl⟩:=z
     refine ⟨λq=>?_,λq=>⟨if_neg (of_decide_eq_false q),L3,st',rfl,prefix_refl _,oo⟩⟩
     have q:=aY q
     have zl:(zer (k+1)).length<=8:=by rw [D4];exact la [_] [([2,3,0],[17])] ([2,3,0],[17]) rfl lt
     have zd:((zer (k+1)).drop l).length<=8:=by rw [length_drop];exact la [_,_] [([2],[17]),([4],[2])] ([4],[17]) rfl zl (Nat.sub_le _ _)
     refine ⟨_,if_pos q,?_⟩
     refine wpB (wpSC (wpG g35 (wpSC (wpB (wpB (wpG g13 (KtI (wpB (wpB (wpSC (pv g10 g9 ?_)))))))))))
     refine wpSN (KtI (Jd rfl sv ?_))
     have tv:(text++[v]).length<=1001:=by rw [length_append];exact bx (aQ tl (by exact la [_,_] [([2,4,0],[2001])] ([4],[2001]) rfl wl))
     refine KtI (wpAS (aQ tv (by decide)) ?_)
     refine KtI (wpB (wpB (wpG g35 (KtI (wpB (wpB (wpG g9 ?_)))))))
     refine KtI (wpR (KtI (wpB (wpR (KtI (He (Q9 (n:=l)) (aQ zd (by decide)) ?_))))))
     refine KtI (wpAS (BY tv zd (by decide)) ?_)
     refine wpSN (KtI (wpNL (by decide:2<=big) ?_))
     exact ⟨_,_,rfl,AY _,oo,_,rfl,last_new⟩
   ·walk_at "wp"
    rw [TL l0 (hv▸sv),<- hv]
    exact ⟨rfl,_,_,acc,((AY _).trans g).trans (AY _),last_new,Cj.grow (R:=Bu) Bu.mono (AY _) r,(B.set 15 _ |> At.mk _ rfl)⟩
  ·exact wpR ⟨rfl,st,i0,[],prefix_refl _,hi,nilR (RG (hv▸λq=>by rw [hsb.mpr q] at z;cases z)),.mk _ rfl B⟩
 | @closed ts text rest u e=>
  refine Al (c:=false) (Dw g8) (λz=>by cases z) λU=>?_
  refine Al (c:=false) (Dw g8) (λz=>by cases z) λU=>?_
  refine Al (c:=false) (BG g8 clF) (λz=>by cases z) λU=>?_
  exact wpR ⟨rfl,st,i0,[],prefix_refl _,hi,nilR (KL (.inl rfl)),.mk _ rfl B⟩
 | @refused ts text w r d k u n34 ow wl kl f e=>
  refine Al (c:=false) (Dw g8) (λz=>by cases z) λU=>?_
  refine Al (c:=false) (Dw g8) (λz=>by cases z) λU=>?_
  refine Al (c:=false) (BG g8 rfF) (λz=>by cases z) λU=>?_
  exact wpR ⟨rfl,st,i0,[],prefix_refl _,hi,nilR (KL (.inr rfl)),.mk _ rfl B⟩
end
inductive AnsV (n0:Nat)(st:List (List PV)):Option Txt->PV->Prop
 | yes {t:Txt}:AnsV n0 st (some t) (.tup [.int (n0:Nat),.str t])
 | told {j:Nat} {msg:Txt}:st[j]? = some [.str msg]->AnsV n0 st none (.lst j)
 | given {n:Nat} {t:Txt}:n<n0->AnsV n0 st none (.tup [.int (n:Nat),.str t])
theorem AnsV.mono {n0:Nat}{st st':List (List PV)}{o:Option Txt}{v:PV}(g:st <+: st')(h:AnsV n0 st o v):AnsV n0 st' o v:=by
 cases h with
 | yes=>exact .yes
 | told h=>exact .told (AF g h)
 | given h=>exact .given h
def HM (s:S7)(src:Txt)(k:Nat)(v:PV)(st:List (List PV)):Prop:=∃ i w,v = .lst i/\st[i]? = some [.str (endsT.getD k []),w]/\AnsV (src.length+(endsT.getD k []).length+1) st (closes s (endsT.getD k [])) w
theorem HM.mono {s:S7}{src:Txt}{k:Nat}{v:PV}{st st':List (List PV)}(g:st <+: st')(h:HM s src k v st):HM s src k v st':=by
 obtain ⟨i,w,e,h1,h2⟩:=h
 exact ⟨i,w,e,AF g h1,h2.mono g⟩
section
variable {st:List (List PV)}{E:PX->PS->Prop}
theorem VZ {i j n:Nat}{a b:PV}{L:Nat->Option PV}{Q:Unit->PS->Prop}(g:st[n]? = some [a,b])(h:Q () ⟨upd (upd L i a) j b,st⟩):wp (aE [ah i,ah j] (.lst n)) ⟨L,st⟩ Q E:=by
 show wp (ac (ar n) λl'=>am (l'.length==2) (aF [ah i,ah j] l')) _ Q E
 rw [wp_bind,Cg,g]
 exact wpO rfl (FJ (wpSet (FJ (wpSet (Tx h)))))
theorem Uj {a:PV}{l:List PV}{s:PS}{Q:PV->PS->Prop}(h:Q a s):wp (Au false (.tup (a::l)) (.int 0)) s Q E:=by
 show wp (am true (aw ((idx 0 (a::l).length).bind ((a::l)[·]?)))) s Q E
 exact wpO rfl h
theorem V0 {a b:PV}{l:List PV}{s:PS}{Q:PV->PS->Prop}(h:Q b s):wp (Au false (.tup (a::b::l)) (.int 1)) s Q E:=by
 show wp (am true (aw ((idx 1 (a::b::l).length).bind ((a::b::l)[·]?)))) s Q E
 refine wpO rfl ?_
 have e:idx 1 (a::b::l).length=some 1:=Ea (i:=1) (by simp)
 rw [e]
 exact h
theorem Vn {x:Txt}{i:Int}{s:PS}{Q:PV->PS->Prop}(h:Q (.bool false) s):wp (Ao .Eq (.str x) (.int i)) s Q E:=h
theorem Jl {t hd p:Txt}{en se sa m:Nat}{s:S7}{due:Option PV}{st0:List (List PV)}{L:Nat->Option PV}(W:C7 st0 en hd p s)(g0:st0 <+: st)(B:Loc (tM7 t en hd p se sa m s (some (.str (hd++[34]++p))) due none none none none none none none none) L) :
  wp (ac ((ac (ac (af 2) Dx) λa=>aB [38] (ay a (ah 38) (AM .And []) ((ac (ag [af 38,(ac (ag [(ac ((ac (af 14) λb=>ac (af 38) λc=>Ai .Add b c)) λb=>ac (ae (.str [34])) λc=>Ai .Add b c),(ac (ag [af 3]) A7)]) (ak (Ay Kx)))]) ao)) Kx 0 []))) λa=>ac (ah 16 a) λU=>ae PFlow.next) ⟨L,st⟩ (λf s'=>f=PFlow.next/\∃ st' i acc,st <+: st'/\st'[i]? = some acc/\Cj (HM s (hd++[34]++p)) st' acc (range 10)/\At st' (tM7 t en hd p se sa m s (some (.str (hd++[34]++p))) due (some (.lst i)) none none none none none none none) s') λU U=>False:=by
 have wl:=W.hl
 have he:=AF g0 W.he
 have sl:(hd++[34]++p).length=hd.length+1+p.length:=by simp;exact be (la [_,_] [] ([2,4,3,0,0],[2,3,0,4,0]) rfl) (la [_,_] [] ([2,3,0,4,0],[2,4,3,0,0]) rfl)
 walk_at "wp"
 rw [DO]
 refine KtI (Hq (n:=10) (p:=λk=>(endsT.map PV.str).getD k .none) (λk=>k) (HM s (hd++[34]++p)) HM.mono (by decide) (λk L' st' g lt=>DS he g lt) (λL' st' g=>Fc he g) (λk L' st' g o lt=>?_) λacc st' g r=>?_)
 ·rw [Fe lt]
  have el:=DT lt
  have ek:=FM lt
  refine wpSet ?_
  have gg:∀ i w,(i==38)=false->i∉[38]->L i=some w->upd L' 38 (.str (endsT.getD k [])) i=some w:=λi w h1 h2 h3=>(DL h1).trans ((o i h2).trans h3)
  have g38:upd L' 38 (.str (endsT.getD k [])) 38=some (.str (endsT.getD k [])):=upd_eq
  have g14:=gg 14 _ rfl (by decide) (B 14 _ rfl)
  have g3:=gg 3 _ rfl (by decide) (B 3 _ rfl)
  have oo:Off [38] L (upd L' 38 (.str (endsT.getD k []))):=o.set (mem_singleton_self _)
  generalize upd L' 38 (.str (endsT.getD k []))=L3 at g38 g14 g3 oo
  obtain ⟨e,he2⟩:∃ e,e=endsT.getD k []:=⟨_,rfl⟩
  rw [<- he2] at g38 el ek
  obtain ⟨x,hx⟩:∃ x,x=hd++34::(p++(e++[34])):=⟨_,rfl⟩
  have ex:hd++[34]++p++e++[34]=x:=by rw [hx];simp
  have xl:x.length=(hd++[34]++p).length+e.length+1:=by rw [<- ex,length_append,length_append];rfl
  have xs:x.length<=90000:=by rw [xl,sl];exact la [_,_,_] [([2,4,0],[2001]),([6],[17])] ([2,3,0,4,0,6,0,3,0],[180001]) rfl wl el
  have fin:∀ (w:PV) (st2:List (List PV)),st' <+: st2->AnsV x.length st2 (closes s e) w->wp (ao [.str e,w]) ⟨L3,st2⟩ (λv s3=>∃ L3 st3,s3=⟨L3,st3⟩/\st' <+: st3/\Off [38] L L3/\HM s (hd++[34]++p) k v st3) λU U=>False:=λw st2 g2 a=>by
   refine wpNL (by decide:2<=big) ⟨_,_,rfl,g2.trans (AY _),oo,_,w,rfl,by rw [<- he2];exact last_new,?_⟩
   rw [<- he2,<- xl]
   exact a.mono (AY _)
  refine wpB (wpSC (wpG g38 (wpSC (wpB (wpSC (wpB (wpB (wpG g14 ?_))))))))
  refine KtI (wpB (wpG g38 ?_))
  refine KtI (wpAS (aQ (show _<=2000 by rw [length_append,sl];exact la [_,_,_] [([2,4,0],[2001]),([6],[17])] ([2,3,0,4,0,6,0],[4001]) rfl wl el) (by decide)) ?_)
  refine KtI (wpB (wpR (KtI (wpAS (by rw [ex];exact An (aQ xs (by decide))) ?_))))
  rw [ex]
  refine wpSC (wpB (wpSC (wpG g3 ?_)))
  have hb:hd.length<=1000000:=by exact la [_,_] [([2,4,0],[2001])] ([2],[2000001]) rfl wl
  refine wpSN (KtI (wpLS (An hb) ?_))
  refine wpSN (KtI ?_)
  have K:=Nb (x:=x) W.hs ek hx xs
  generalize closes s e=o at K fin
  cases K with
  | yes G ok=>exact Ck (.inr rfl) hx xs G (wpSN (KtI (fin _ _ (prefix_refl _) .yes)))
  | told T=>exact Dk (.inr rfl) hx xs T λst2 i g2 h2=>wpSN (KtI (fin _ _ g2 (.told h2)))
  | given G lt=>exact Ck (.inr rfl) hx xs G (wpSN (KtI (fin _ _ (prefix_refl _) (.given lt))))
 ·walk_at "wp"
  rw [List.map_id'] at r
  exact ⟨rfl,_,_,acc,g.trans (AY _),last_new,Cj.grow (R:=HM s (hd++[34]++p)) HM.mono (AY _) r,(B.set 16 _ |> At.mk _ rfl)⟩
theorem Vo {hd p:Txt}{s:S7}{en:Nat}{st0:List (List PV)}(W:C7 st0 en hd p s):(Fd s).length<=20/\∀ b∈Fd s,okT b.1/\okT b.2:=by
 have wl:=W.hl
 constructor
 ·unfold Fd
  exact aQ (List.length_filterMap_le ..) (by decide)
 ·intro b m
  unfold Fd at m
  rw [List.mem_filterMap] at m
  obtain ⟨k,mk,e⟩:=m
  have lt:=mem_range.mp mk
  have K:=Nb (x:=hd++34::(p++(endsT.getD k []++[34]))) W.hs (FM lt) rfl (by have:=DT lt;simp;simp at this;exact la [_,_,_] [([2,4,0],[2001]),([6],[17])] ([2,4,6,3,0,0,3,0,0],[180001]) rfl wl this)
  have oe:okT (endsT.getD k []):=(by decide:∀ k<10,∀ c∈endsT.getD k [],c<=1114111) k lt
  cases q:closes s (endsT.getD k []) with
  | none=>rw [q] at e;cases e
  | some t=>
   rw [q] at e K
   obtain rfl:=aT e
   cases K with
   | yes _ ok=>exact ⟨oe,ok⟩
theorem RI {t hd p:Txt}{en se sa m i an:Nat}{s:S7}{accA accD:List PV}{st0:List (List PV)}{L:Nat->Option PV}(W:C7 st0 en hd p s)(han:st[an]? = some accA)(hA:Cj (HM s (hd++[34]++p)) st accA (range 10))(hdu:st[i]? = some accD)(hD:Cj Bu st accD (Fd s))
  (B:Loc (tM7 t en hd p se sa m s (some (.str (hd++[34]++p))) (some (.lst i)) (some (.lst an)) none none none none none none none) L) :
  wp (ac ((ac ((ac (ac (af 16) Dx) λa=>aB [41,42] (ay a (aE [ah 41,ah 42]) (AM .And [(ac ((ac (af 42) λb=>ac (ae (.int 0)) λd=>Au false b d)) λb=>ac ((ac ((ac (ag [(ac (af 14) λd=>ac (af 41) λe=>Ai .Add d e)]) A7)) λd=>ac (ae (.int 1)) λe=>Ai .Add d e)) λd=>ac (Ao .Eq b d) tst)]) ((ac (ag [af 41,(ac (af 42) λb=>ac (ae (.int 1)) λd=>Au false b d)]) ao)) Kx 0 []))) λa=>ac (af 15) λb=>ac (Ao .NotEq a b) tst)) λc=>if c then (ac (ae (.bool false)) λa=>ae (.ret a)) else (ae PFlow.next)) ⟨L,st⟩ (λf s'=>f=PFlow.next/\∃ st',st <+: st'/\At st' (tM7 t en hd p se sa m s (some (.str (hd++[34]++p))) none none none none none none none none none) s') λU U=>False:=by
 have wl:=W.hl
 have sl:(hd++[34]++p).length=hd.length+1+p.length:=by simp;exact be (la [_,_] [] ([2,4,3,0,0],[2,3,0,4,0]) rfl) (la [_,_] [] ([2,3,0,4,0],[2,4,3,0,0]) rfl)
 have al:accA.length=10:=hA.1
 walk_at "wp"
 rw [DO]
 refine KtI (Fb (n:=10) (p:=λk=>accA.getD k .none) (λk=>(closes s (endsT.getD k [])).map λt=>(endsT.getD k [],t)) Bu Bu.mono (by decide) (λk L' st' g lt=>DS han g (by rw [al];exact lt)) (λL' st' g=>by have:=Fc (L:=L') han g;rw [al] at this;exact this) (λk L' st' g o lt=>?_) λacc st' g r=>?_)
 ·have lk:k<accA.length:=by rw [al];exact lt
  obtain ⟨j,w,e,h1,av⟩:=hA.2 k _ k (getElem?_eq_getElem lk) (by rw [List.getElem?_range lt])
  have ev:accA.getD k .none = .lst j:=by rw [getD_eq_getElem?_getD,getElem?_eq_getElem lk];exact e
  rw [ev]
  refine VZ (AF g h1) ?_
  have av:=av.mono g
  have el:=DT lt
  obtain ⟨ee,hee⟩:∃ ee,ee=endsT.getD k []:=⟨_,rfl⟩
  rw [<- hee] at av el ⊢
  have g41:upd (upd L' 41 (.str ee)) 42 w 41=some (.str ee):=rfl
  have g42:upd (upd L' 41 (.str ee)) 42 w 42=some w:=rfl
  have g14:upd (upd L' 41 (.str ee)) 42 w 14=some (.str (hd++[34]++p)):=(DL rfl).trans ((DL rfl).trans ((o 14 (by decide)).trans (B 14 _ rfl)))
  have oo:Off [41,42] L (upd (upd L' 41 (.str ee)) 42 w):=(o.set (by decide)).set (by decide)
  generalize upd (upd L' 41 (.str ee)) 42 w=L3 at g41 g42 g14 oo
  have len:∀ {Q:PV->PS->Prop},Q (.int ((hd++[34]++p).length+ee.length+1:Nat)) ⟨L3,st'⟩->wp (ac ((ac (ag [(ac (af 14) λa=>ac (af 41) λb=>Ai .Add a b)]) A7)) λa=>ac (ae (.int 1)) λb=>Ai .Add a b) ⟨L3,st'⟩ Q λU U=>False:=λh=>by
   have ll:(hd++[34]++p++ee).length<=2000:=by rw [length_append,sl];exact la [_,_,_] [([2,4,0],[2001]),([6],[17])] ([2,3,0,4,0,6,0],[4001]) rfl wl el
   refine wpB (wpB (wpSC (wpB (wpG g14 (KtI (wpB (wpG g41 ?_)))))))
   refine KtI (wpAS (aQ ll (by decide)) ?_)
   refine wpSN (KtI (wpLS (aQ ll (by decide)) ?_))
   refine KtI (wpB (wpR (KtI (wpAI ?_))))
   rw [length_append]
   exact h
  refine wp_mono (Q:=λc s'=>c=(closes s ee).isSome/\s'=⟨L3,st'⟩) (E:=λU U=>False) (Gd ?_) (λc s' z=>?_) λU U z=>z.elim
  ·refine wpB (wpB (wpG g42 (KtI (wpB (wpR ?_)))))
   generalize closes s ee=oo2 at av
   cases av with
   | yes=>
    refine KtI (Uj ?_)
    refine KtI (wpB (len (KtI (wpB (wpEqI (KtI (wpTb ⟨?_,rfl⟩)))))))
    exact beq_self_eq_true _
   | told h=>
    refine KtI (F1 (j:=0) rfl h rfl rfl ?_)
    exact KtI (wpB (len (KtI (wpB (Vn (KtI (wpTb ⟨rfl,rfl⟩)))))))
   | given h=>
    refine KtI (Uj ?_)
    refine KtI (wpB (len (KtI (wpB (wpEqI (KtI (wpTb ⟨?_,rfl⟩)))))))
    exact aX.mpr λz=>by have:=Int.ofNat.inj z;exact (Nat.not_succ_le_zero _ (la [_,_,_] [([2,3,0],[4,6,0,3,0]),([4,6,0,3,0],[2])] ([3],[1]) rfl h (aS this.symm)))
  ·obtain ⟨rfl,rfl⟩:=z
   refine ⟨λq=>?_,λq=>?_⟩
   ·obtain ⟨tt,ht⟩:=ba.mp q
    refine ⟨(ee,tt),by rw [ht];rfl,?_⟩
    rw [ht] at av
    cases av with
    | yes=>
     refine wpB (wpSC (wpG g41 (wpSC (wpB (wpG g42 (KtI (wpB (wpR (KtI (V0 ?_))))))))))
     refine wpSN (KtI (wpNL (by decide:2<=big) ?_))
     exact ⟨_,_,rfl,AY _,oo,_,rfl,last_new⟩
   ·refine ⟨?_,L3,st',rfl,prefix_refl _,oo⟩
    cases hc:closes s ee with
    | none=>rfl
    | some tt=>rw [hc] at q;cases q
 ·have g2:st <+: st'++[acc]:=g.trans (AY _)
  walk_at "wp"
  have ⟨d1,d2⟩:=Vo W
  refine Hj (RB last_new (AF g2 hdu) (Cj.grow (R:=Bu) Bu.mono (AY _) r) (Cj.grow (R:=Bu) Bu.mono g2 hD) d1 d2) ?_
  exact KtI (wpTb (KtI (wpR ⟨rfl,_,g2,.mk _ rfl (B.drop 15 |>.drop 16)⟩)))
theorem OQ {t hd p:Txt}{en se sa m:Nat}{s:S7}{st0:List (List PV)}{L:Nat->Option PV}(W:C7 st0 en hd p s)(B:Loc (tM7 t en hd p se sa m s (some (.str (hd++[34]++p))) none none none none none none none none none) L) :
  wp (ac (ac (ag [(ac ((ac (af 8) λa=>ac (ae (.str [102,105,103,117,114,101,115])) λb=>ac (Ao .Eq a b) tst)) λc=>if c then ae (.int 16) else ae (.int 0))]) Cc) λa=>aG a (ah 17) (Dv Kx) Kx 0) ⟨L,st⟩ (λf s'=>f=PFlow.next/\∃ st',st <+: st'/\At st' (tM7 t en hd p se sa m s (some (.str (hd++[34]++p))) none none none none none none none none none) s') λU U=>False:=by
 obtain ⟨n,hn,h16⟩:∃ n:Nat,n=(if s.name=figuresN then 16 else 0)/\n<=16:=⟨_,rfl,by split;exact aR _;exact aP _⟩
 have key:∀ {Q:PV->PS->Prop},Q (.int (n:Nat)) ⟨L,st⟩->wp (ac ((ac (af 8) λa=>ac (ae (.str [102,105,103,117,114,101,115])) λb=>ac (Ao .Eq a b) tst)) λc=>if c then ae (.int 16) else ae (.int 0)) ⟨L,st⟩ Q λU U=>False:=λh=>by
  refine Al (c:=s.name==figuresN) (Dw (B 8 _ rfl)) (λz=>?_) λz=>?_
  ·rw [if_pos (eq_of_beq z)] at hn
   subst hn
   exact wpR h
  ·rw [if_neg (ne_of_beq_false z)] at hn
   subst hn
   exact wpR h
 refine wpB (wpB (wpSC (key (wpSN (KtI ?_)))))
 rw [Hf (Nat.lt_of_le_of_lt h16 (by decide))]
 refine KtI (M7 (P:=λU s'=>∃ st',st <+: st'/\At st' (tM7 t en hd p se sa m s (some (.str (hd++[34]++p))) none none none none none none none none none) s') (n:=n) (λk=>.int k) ⟨st,prefix_refl _,.mk _ rfl B⟩ (bv h16 (aZ (by decide) Kx_big)) (λk s U lt=>I8 lt) (λs U=>I9) (λk L' st' z lt=>?_) λU z=>z)
 obtain ⟨st2,g2,⟨_,e0,B2⟩⟩:=z
 cases e0
 have hf:s.name=figuresN:=by
  by_cases q:s.name=figuresN
  ·exact q
  ·rw [if_neg q] at hn;lia
 refine wp_mono (RD W hf (bl lt h16) B2) (λf s' z=>?_) λU U z=>z
 obtain ⟨h1,st3,g3,a⟩:=z
 exact ⟨h1,st3,g2.trans g3,a⟩
end
theorem Mp (c:Nat):∀ x:Txt,(Bp c x)[0]? = some (x.takeWhile (· != c)):=by
 intro x
 induction x with
 | nil=>rfl
 | cons a x ih=>
  unfold Bp
  by_cases h:a=c
  ·rw [if_pos h,h,List.takeWhile_cons,show (c != c)=false by simp];rfl
  ·rw [if_neg h,List.takeWhile_cons,show (a != c)=true from bne_iff_ne.mpr h]
   cases q:Bp c x with
   | nil=>rw [q] at ih;cases ih
   | cons y r=>rw [q] at ih;rw [Option.some.inj ih];rfl
set_option tactic.hygienic true in
theorem OR (c:Nat):∀ x:Txt,(Bp c x).length<=x.length+1:=by
 intro x
 induction x with
 | nil=>exact aR _
 | cons a x ih=>
  unfold Bp
  split
  ·exact bx ih
  ·split
   ·rename_i y r q
    rw [q] at ih
    exact Nat.le_succ_of_le ih
   ·exact bx (aP _)
def nb (p:Txt):Nat:=(p.filter λc=>!plainB c).length
theorem Ht (y:Txt):(AW y).length=nb y:=by
 have key:∀ n,n<=y.length->((range n).filter (badAt y)).length=nb (y.take n):=by
  intro n
  induction n with
  | zero=>intro _;rfl
  | succ n ih=>
   intro h
   have e:y.getD n 0=y[n]:=by rw [getD_eq_getElem?_getD,getElem?_eq_getElem h];rfl
   unfold nb
   rw [range_succ,filter_append,length_append,ih (Nat.le_of_succ_le h),List.take_succ,getElem?_eq_getElem h,filter_append,length_append]
   unfold nb
   congr 1
   show (filter (badAt y) [n]).length=(filter (λc=>!plainB c) [y[n]]).length
   rw [filter_cons,filter_cons,filter_nil,filter_nil]
   unfold badAt
   rw [e]
   cases plainB y[n] <;> rfl
 have:=key y.length (aR _)
 rw [take_length] at this
 exact this
theorem RJ (p:Txt):nb (cutL p)<=nb p:=((takeWhile_sublist _).filter _).length_le
theorem TM (p:Txt)(c:Nat):nb (p++[c])=nb p+if plainB c=true then 0 else 1:=by
 unfold nb
 rw [filter_append,length_append]
 congr 1
 rw [filter_cons,filter_nil]
 cases plainB c <;> rfl
theorem RK {h c:Nat}{p:Txt}{s:S7}(hs:Sem h p s)(hc:plainB c=false)(place:Nat):(AZ s c place).name=closedN\/(AZ s c place).name=refusedN:=by
 have lt:=Hm (CK hc)
 have k:∀ c<128,plainB c=false->c≠34/\c≠92/\namOf [c]=none/\c≠117/\c≠85/\hexd c=false:=by decide +kernel
 have ⟨k1,k2,k3,k4,k5,k6⟩:=k c lt hc
 unfold AZ
 cases hs with
 | plain=>rw [if_pos rfl,if_neg k1,if_neg k2,if_pos hc];exact .inr rfl
 | named=>rw [if_neg nmP,if_pos rfl,k3];dsimp only;rw [if_neg k4,if_neg k5];exact .inr rfl
 | figures=>rw [if_neg fgP,if_neg fgN,if_pos rfl,if_neg (by rw [k6];exact Bool.false_ne_true)];exact .inr rfl
 | closed=>rw [if_neg clP,if_neg clN,if_neg clF];exact .inl rfl
 | refused=>rw [if_neg rfP,if_neg rfN,if_neg rfF];exact .inr rfl
theorem OS {st:List (List PV)}{l:List Nat}:∀ {n:Nat},l.length<n->Dy st n (l.map λi=>PV.int (i:Nat))=some (l.map λi=>.int (i:Nat)):=by
 induction l with
 | nil=>
  intro n h
  cases n with
  | zero=>exact absurd h (br _)
  | succ n=>rfl
 | cons t l ih=>
  intro n h
  cases n with
  | zero=>exact absurd h (br _)
  | succ n=>
   cases n with
   | zero=>exact absurd (Nat.lt_of_succ_lt_succ h) (br _)
   | succ m=>exact D2 rfl (ih (Nat.lt_of_succ_lt_succ h))
theorem FN {st:List (List PV)}{i j:Nat}{l:List Nat}{loc:Nat->Option PV}(hi:st[i]? = some (l.map λi=>PV.int (i:Nat)))(hj:st[j]? = some [])(hl:l.length<=20):eqP (.lst i) (.lst j) ⟨loc,st⟩ = .ok (decide (l=[])) ⟨loc,st⟩:=by
 have s1:SeqAt.shaped (.list (l.map λi=>PyData.int (i:Nat)))=true:=by
  have c:PyData.canLayAll0 (l.map λi=>PyData.int (i:Nat))=true/\PyData.depthAll (l.map λi=>PyData.int (i:Nat))=0:=by
   induction l with
   | nil=>exact ⟨rfl,rfl⟩
   | cons a l ih=>
    clear hi
    have go:∀ l:List Nat,PyData.canLayAll0 (l.map λi=>PyData.int (i:Nat))=true/\PyData.depthAll (l.map λi=>PyData.int (i:Nat))=0:=by
     intro l
     induction l with
     | nil=>exact ⟨rfl,rfl⟩
     | cons a l ih=>exact ⟨by rw [map_cons,PyData.canLayAll0,PyData.canLay0,ih.1];rfl,by rw [map_cons,PyData.depthAll,PyData.depth,ih.2];rfl⟩
    exact go _
  unfold SeqAt.shaped
  rw [PyData.canLay0,c.1,PyData.depth,c.2]
  decide
 refine EF rfl (C1 hi (OS (by exact la [_] [([2],[41])] ([2,3,0],[127]) rfl hl))) (C1 hj rfl) s1 (by decide) ?_
 cases l with
 | nil=>simp [PyData.eqv,PyData.eqvAll]
 | cons t ts=>simp [PyData.eqv,PyData.eqvAll]
theorem RL {i:Int}{t:Txt}(h:okT t):SeqAt.shaped (.tuple [.int i,.str (txt t)])=true:=by
 unfold SeqAt.shaped
 simp [PyData.canLay0,PyData.canLayAll0,Ij h,PyData.depth,PyData.depthAll]
theorem TN {st:List (List PV)}{loc:Nat->Option PV}{i j:Int}{t u:Txt}(n:i≠j)(h:okT t)(k:okT u):eqP (.tup [.int i,.str t]) (.tup [.int j,.str u]) ⟨loc,st⟩ = .ok false ⟨loc,st⟩:=
 EF rfl rfl rfl (RL h) (RL k) (by simp [PyData.eqv,PyData.eqvAll,n])
theorem OT {st:List (List PV)}{loc:Nat->Option PV}{a:Nat}{j:Int}{w u:Txt}(ha:st[a]? = some [.str w])(h:okT w)(k:okT u):eqP (.lst a) (.tup [.int j,.str u]) ⟨loc,st⟩ = .ok false ⟨loc,st⟩:=by
 have s1:SeqAt.shaped (.list [.str (txt w)])=true:=by
  unfold SeqAt.shaped
  simp [PyData.canLay0,PyData.canLayAll0,Ij h,PyData.depth,PyData.depthAll]
 exact EF rfl (C1 ha rfl) rfl s1 (RL k) (by simp [PyData.eqv])
theorem RM {st:List (List PV)}{loc:Nat->Option PV}{b:Bool}:eqP (.bool b) (.bool b) ⟨loc,st⟩ = .ok true ⟨loc,st⟩:=
 EF rfl rfl rfl (by cases b <;> decide) (by cases b <;> decide) (by cases b <;> simp [PyData.eqv])
section
variable {st:List (List PV)}{E:PX->PS->Prop}
theorem Uk {a b:PV}{r:Bool}{s:PS}{Q:PV->PS->Prop}(h:eqP a b s = .ok r s)(hQ:Q (.bool !r) s):wp (Ao .NotEq a b) s Q E:=by
 show wp (ac (eqP a b) λr=>ae (.bool !r)) s Q E
 rw [wp_bind,Q7 h]
 exact hQ
theorem OU {t hd p:Txt}{en se sa m:Nat}{s:S7}{st0:List (List PV)}{src:Option PV}{L:Nat->Option PV}{r:M PFlow}{Q:PFlow->PS->Prop}(W:C7 st0 en hd p s)(B:Loc (tM7 t en hd p se sa m s src none none none none none none none none none) L)
  (k:∀ st' L fa,st <+: st'->st'[fa]? = some ((AW (cutL p)).map λi=>PV.int (i:Nat))->Loc (tM7 t en hd p se sa m s (some (.str (hd++[39]++p))) none none none none none (some (.str (cutL p))) (some (.lst fa)) none none) L->wp r ⟨L,st'⟩ Q E) :
  wp (aj (ac ((ac ((ac (af 3) λa=>ac (ae (.str [39])) λb=>Ai .Add a b)) λa=>ac (af 4) λb=>Ai .Add a b)) λa=>ac (ah 14 a) λU=>ae PFlow.next) (aj (ac ((ac ((ac (af 4) λa=>am (BN a) (ac (ag [ae (.str [39])]) (FE a)))) λa=>ac (ae (.int 0)) λb=>Au false a b)) λa=>ac (ah 20 a) λU=>ae PFlow.next) (aj (ac ((ac (ac (ag [(ac (ag [af 20]) A7)]) Cc) λa=>aB [44] (ay a (ah 44) (AM .And [(ac ((ac (ag [(ac (af 20) λb=>ac (af 44) λc=>Au false b c)]) (ak (A4 Kx)))) λb=>ac (ae (.str [])) λc=>ac (Ao .NotEq b c) tst)]) (af 44) Kx 0 []))) λa=>ac (ah 21 a) λU=>ae PFlow.next) r))) ⟨L,st⟩ Q E:=by
 have wl:=W.hl
 have cl:(cutL p).length<=1000:=aQ (takeWhile_sublist _).length_le (by exact la [_,_] [([2,4,0],[2001])] ([4],[2001]) rfl wl)
 refine wpA st (tM7 t en hd p se sa m s (some (.str (hd++[39]++p))) none none none none none none none none none) ?_ λL B=>?_
 ·walk_at "wp"
  ·exact BY (show hd.length<=1000 by exact la [_,_] [([2,4,0],[2001])] ([2],[2001]) rfl wl) (aR 1) (by decide)
  ·exact BY (BL (show hd.length<=1000 by exact la [_,_] [([2,4,0],[2001])] ([2],[2001]) rfl wl) (aR 1)) (show p.length<=1000 by exact la [_,_] [([2,4,0],[2001])] ([4],[2001]) rfl wl) (by decide)
  exact ⟨rfl,(B.set 14 _ |> At.mk _ rfl)⟩
 refine wpA (st++[(Bp 39 p).map .str]) (tM7 t en hd p se sa m s (some (.str (hd++[39]++p))) none none none none none (some (.str (cutL p))) none none none) ?_ λL B=>?_
 ·walk_at "wp"
  have sln:=OR 39 p
  refine Ue (by decide) (An (by exact la [_,_] [([2,4,0],[2001])] ([4],[2000001]) rfl wl)) (An (aQ sln (by exact la [_,_] [([2,4,0],[2001])] ([4,3,0],[2000001]) rfl wl))) ?_
  walk_at "wp"
  have h0:((Bp 39 p).map PV.str)[0]? = some (.str (cutL p)):=by rw [getElem?_map,Mp];rfl
  refine F1 (j:=0) rfl last_new (Ea (bc.mp h0).1) h0 ?_
  walk_at "wp"
  exact ⟨rfl,(B.set 20 _ |> At.mk _ rfl)⟩
 refine wpN (λs'=>∃ st' fa,st <+: st'/\st'[fa]? = some ((AW (cutL p)).map λi=>PV.int (i:Nat))/\At st' (tM7 t en hd p se sa m s (some (.str (hd++[39]++p))) none none none none none (some (.str (cutL p))) (some (.lst fa)) none none) s') ?_ (by rintro _ ⟨st',fa,g,h,⟨L,rfl,B⟩⟩;exact k st' L fa g h B)
 walk_at "wp"
 ·exact An (aQ cl (by decide))
 rw [Hf (Nat.lt_of_le_of_lt cl (by decide))]
 refine KtI (Fb (n:=(cutL p).length) (p:=λk=>.int k) (λk=>if badAt (cutL p) k=true then some k else none) (λ(b:Nat) v _=>v = .int (b:Nat)) (λU h=>h) (aQ cl (by decide)) (λk L' st' g lt=>I8 lt) (λL' st' g=>I9) (λk L' st' g o lt=>?_) λacc st' g r=>?_)
 ·refine wpSet ?_
  have g44:upd L' 44 (.int k) 44=some (.int k):=upd_eq
  have g20:upd L' 44 (.int k) 20=some (.str (cutL p)):=(DL rfl).trans ((o 20 (by decide)).trans (B 20 _ rfl))
  have oo:Off [44] L (upd L' 44 (.int k)):=o.set (mem_singleton_self _)
  generalize upd L' 44 (.int k)=L3 at g44 g20 oo
  refine wp_mono (Q:=λc s'=>c=badAt (cutL p) k/\s'=⟨L3,st'⟩) (E:=λU U=>False) (Gd ?_) (λc s' z=>?_) λU U z=>z.elim
  ·refine wpB (wpB (wpSC (wpB (wpG g20 (KtI (wpB (wpG g44 ?_)))))))
   refine KtI (HK (AH (bl lt (aQ cl (by decide)))) (Ea lt) ?_)
   refine wpSN (KtI (CE ?_))
   refine KtI (wpB (wpR (KtI (wpB (Ug (KtI (wpTb ⟨?_,rfl⟩)))))))
   unfold ctlW badAt
   cases plainB ((cutL p).getD k 0) <;> rfl
  ·obtain ⟨rfl,rfl⟩:=z
   exact ⟨λq=>⟨k,if_pos q,wpG g44 ⟨_,_,rfl,prefix_refl _,oo,rfl⟩⟩,λq=>⟨if_neg (by rw [q];exact bn),L3,st',rfl,prefix_refl _,oo⟩⟩
 ·walk_at "wp"
  refine ⟨rfl,_,_,((AY _).trans g).trans (AY _),last_new.trans (congrArg some ?_),(B.set 21 _ |> At.mk _ rfl)⟩
  have ef:(range (cutL p).length).filterMap (λk=>if badAt (cutL p) k=true then some k else none)=AW (cutL p):=by
   have go:∀ l:List Nat,l.filterMap (λk=>if badAt (cutL p) k=true then some k else none)=l.filter (badAt (cutL p)):=by
    intro l
    induction l with
    | nil=>rfl
    | cons a l ih=>
     rw [filterMap_cons,filter_cons,ih]
     cases badAt (cutL p) a <;> rfl
   exact go _
  rw [ef] at r
  refine ext_getElem? λj=>?_
  rw [getElem?_map]
  cases q:acc[j]? with
  | some w=>
   have lt:=(bc.mp q).1
   have eb:(AW (cutL p))[j]? = some ((AW (cutL p))[j]'(r.1▸lt)):=getElem?_eq_getElem _
   rw [eb]
   exact congrArg some (r.2 j w _ q eb)
  | none=>
   have:=bp.mp q
   rw [getElem?_eq_none (by rw [<- r.1];exact this)];rfl
abbrev V1:Txt:=[69,120,112,101,99,116,101,100,32,34,39,34,32,40,97,116,32,101,110,100,32,111,102,32,100,111,99,117,109,101,110,116,41]
theorem Mq {t hd p:Txt}{en se sa m fa:Nat}{s:S7}{st0:List (List PV)}{L:Nat->Option PV}{r:M PFlow}{Q:PFlow->PS->Prop}(W:C7 st0 en hd p s)(hnb:nb p<=12)(hfa:st[fa]? = some ((AW (cutL p)).map λi=>PV.int (i:Nat)))
  (B:Loc (tM7 t en hd p se sa m s (some (.str (hd++[39]++p))) none none none none none (some (.str (cutL p))) (some (.lst fa)) none none) L)
  (k:∀ st' L,st <+: st'->Loc (tM7 t en hd p se sa m s (some (.str (hd++[39]++p))) none none none none none (some (.str (cutL p))) (some (.lst fa)) none none) L->wp r ⟨L,st'⟩ Q E) :
  wp (aj (ac ((ac (ag [(ac ((ac ((ac (ag [af 3]) A7)) λa=>ac ((ac (ag [af 20]) A7)) λb=>Ai .Add a b)) λa=>ac (ae (.int 2)) λb=>Ai .Add a b),af 20]) EM)) λa=>ac (ah 15 a) λU=>ae PFlow.next) (aj (ac ((ac ((ac (ag [af 20]) A7)) λa=>ac ((ac (ag [af 4]) A7)) λb=>ac (Ao .Eq a b) tst)) λc=>if c then (ac ((ao [.str [69,120,112,101,99,116,101,100,32,34,39,34,32,40,97,116,32,101,110,100,32,111,102,32,100,111,99,117,109,101,110,116,41]])) λa=>ac (ah 15 a) λU=>ae PFlow.next) else (ac ((ac (af 21) λa=>ac ((ac (ag []) ao)) λb=>ac (Ao .NotEq a b) tst)) λc=>if c then (ac ((ac (ag [af 14,(ac ((ac ((ac (ag [af 3]) A7)) λa=>ac (ae (.int 1)) λb=>Ai .Add a b)) λa=>ac ((ac (af 21) λb=>ac (ae (.int 0)) λd=>Au false b d)) λb=>Ai .Add a b),(ac (ae (.str [70,111,117,110,100,32,105,110,118,97,108,105,100])) λa=>ac ((ac (ag [(ac (af 20) λb=>ac ((ac (af 21) λd=>ac (ae (.int 0)) λe=>Au false d e)) λd=>Au false b d)]) (ak (A4 Kx)))) λb=>Ai .Add a b)]) (ak (BF Kx)))) λa=>ac (ah 15 a) λU=>ae PFlow.next) else (ae PFlow.next))) (aj (ac ((ac ((ac (ag [af 14,(ac (ag [af 3]) A7)]) (ak (Ay Kx)))) λa=>ac (af 15) λb=>ac (Ao .NotEq a b) tst)) λc=>if c then (ac (ae (.bool false)) λa=>ae (.ret a)) else (ae PFlow.next)) r))) ⟨L,st⟩ Q E:=by
 have wl:=W.hl
 have cl:(cutL p).length<=1000:=aQ (takeWhile_sublist _).length_le (by exact la [_,_] [([2,4,0],[2001])] ([4],[2001]) rfl wl)
 have fl:(AW (cutL p)).length<=20:=by rw [Ht];exact aQ (RJ p) (aQ hnb (by decide))
 have hb:hd.length<=big:=An (by exact la [_,_] [([2,4,0],[2001])] ([2],[2000001]) rfl wl)
 have hx:hd++[39]++p=hd++39::p:=by simp
 have xl:(hd++[39]++p).length<=2000:=by rw [hx];simp;exact la [_,_] [([2,4,0],[2001])] ([2,4,3,0,0],[4001]) rfl wl
 have oc:okT (cutL p):=λc m=>W.op c ((takeWhile_sublist _).subset m)
 refine wpA st (tM7 t en hd p se sa m s (some (.str (hd++[39]++p))) (some (.tup [.int (hd.length+(cutL p).length+2:Nat),.str (cutL p)])) none none none none (some (.str (cutL p))) (some (.lst fa)) none none) ?_ λL B=>?_
 ·walk_at "wp"
  ·exact hb
  ·exact An (aQ cl (by decide))
  ·exact (by decide:2<=big)
  exact ⟨rfl,(B.set 15 _ |> At.mk _ rfl)⟩
 have fin:∀ (st1:List (List PV)) (due:PV) (L:Nat->Option PV),st <+: st1->Loc (tM7 t en hd p se sa m s (some (.str (hd++[39]++p))) (some due) none none none none (some (.str (cutL p))) (some (.lst fa)) none none) L ->
   (∀ {Q:PV->PS->Prop},(∀ st2 v,st1 <+: st2->eqP v due ⟨L,st2⟩ = .ok true ⟨L,st2⟩->Q v ⟨L,st2⟩)->wp (ak (Ay Kx) [.str (hd++[39]++p),.int (hd.length:Nat)]) ⟨L,st1⟩ Q λU U=>False)->wp (aj (ac ((ac ((ac (ag [af 14,(ac (ag [af 3]) A7)]) (ak (Ay Kx)))) λa=>ac (af 15) λb=>ac (Ao .NotEq a b) tst)) λc=>if c then (ac (ae (.bool false)) λa=>ae (.ret a)) else (ae PFlow.next)) r) ⟨L,st1⟩ Q E:=λst1 due L g B ans=>by
  refine wpN (λs'=>∃ st2,st <+: st2/\At st2 (tM7 t en hd p se sa m s (some (.str (hd++[39]++p))) none none none none none (some (.str (cutL p))) (some (.lst fa)) none none) s') ?_ (by rintro _ ⟨st2,g2,⟨L,rfl,B⟩⟩;exact k st2 L g2 B)
  walk_at "wp"
  ·exact hb
  refine ans λst2 v g2 ev=>?_
  refine KtI (wpB (wpL B rfl (KtI (wpB (Hj ev (KtI (wpTb (KtI (wpR ⟨rfl,st2,g.trans g2,.mk _ rfl (B.drop 15)⟩)))))))))
 have e15:∀ {n:Nat},((hd.length:Nat):Int)+(n:Nat)+2=((hd.length+n+2:Nat):Int):=by intros;exact rfl
 rcases Im p with ⟨e1,l1⟩ | ⟨rr,e1,l1⟩
 ·refine wpN (λs'=>∃ st1 i,st <+: st1/\st1[i]? = some [.str V1]/\At st1 (tM7 t en hd p se sa m s (some (.str (hd++[39]++p))) (some (.lst i)) none none none none (some (.str (cutL p))) (some (.lst fa)) none none) s') ?_ ?_
  ·refine Al (c:=true) ?_ (λU=>?_) λz=>by cases z
   ·walk_at "wp"
    ·exact An (aQ cl (by decide))
    ·exact An (by exact la [_,_] [([2,4,0],[2001])] ([4],[2000001]) rfl wl)
    refine ⟨?_,rfl⟩
    rw [l1];exact beq_self_eq_true _
   ·walk_at "wp"
    ·exact (by decide:1<=big)
    exact ⟨rfl,_,_,AY _,last_new,(B.set 15 _ |> At.mk _ rfl)⟩
  rintro _ ⟨st1,i,g,hi,⟨L,rfl,B⟩⟩
  refine fin st1 _ L g B λh=>?_
  refine Dk (.inl rfl) hx (aQ xl (by decide)) (Rv hx (e1▸Jj p) (aQ xl (by decide))) λst2 j g2 h2=>h st2 _ g2 ?_
  have ee:B7 (hd++[39]++p) (hd++[39]++p).length (Tv++[34,39,34])=V1:=by
   unfold B7 C8
   rw [if_pos (Nat.le_refl _)]
   rfl
  rw [ee] at h2
  exact Gw h2 (AF g2 hi) (Bx (by decide))
 have nle:((((cutL p).length:Nat):Int)==((p.length:Nat):Int))=false:=aX.mpr λz=>by have:=Int.ofNat.inj z;exact (Nat.not_succ_le_zero _ (la [_,_] [([2,3,0],[4]),([4],[2])] ([3],[1]) rfl l1 (aS this.symm)))
 have hx2:hd++[39]++p=hd++39::(cutL p++39::rr):=by rw [hx];conv=>lhs;rw [e1]
 rcases Jk hx2 (Jj p) (aQ xl (by decide)) with ⟨h1,G⟩ | ⟨kk,r',h1,h2,h3,T⟩
 ·refine wpN (λs'=>∃ st1,st <+: st1/\At st1 (tM7 t en hd p se sa m s (some (.str (hd++[39]++p))) (some (.tup [.int (hd.length+(cutL p).length+2:Nat),.str (cutL p)])) none none none none (some (.str (cutL p))) (some (.lst fa)) none none) s') ?_ ?_
  ·refine Al (c:=false) ?_ (λz=>by cases z) λU=>?_
   ·walk_at "wp"
    ·exact An (aQ cl (by decide))
    ·exact An (by exact la [_,_] [([2,4,0],[2001])] ([4],[2000001]) rfl wl)
    exact ⟨nle,rfl⟩
   ·walk_at "wp"
    ·exact (by decide:0<=big)
    refine Uk (FN (AF (AY _) hfa) last_new fl) (KtI (wpTb (KtI ?_)))
    rw [decide_eq_true h1,Bool.not_true,if_neg Bool.false_ne_true]
    exact wpR ⟨rfl,_,AY _,.mk _ rfl B⟩
  rintro _ ⟨st1,g,⟨L,rfl,B⟩⟩
  refine fin st1 _ L g B λh=>?_
  refine Ck (.inl rfl) hx (aQ xl (by decide)) G (h st1 _ (prefix_refl _) ?_)
  rw [show hd.length+((cutL p).length+2)=hd.length+(cutL p).length+2 by exact Nat.le_antisymm (la [_,_] [] ([2,4,5,0,0],[2,4,0,5,0]) rfl) (la [_,_] [] ([2,4,0,5,0],[2,4,5,0,0]) rfl)]
  exact Gu oc
 ·have ⟨_,⟨_,wl2⟩,_,ow,_⟩:=CL h3
  refine wpN (λs'=>∃ st1 i,st <+: st1/\st1[i]? = some [.str (B7 (hd++[39]++p) (hd.length+1+kk) (KG++ctlW ((cutL p).getD kk 0)))]/\At st1 (tM7 t en hd p se sa m s (some (.str (hd++[39]++p))) (some (.lst i)) none none none none (some (.str (cutL p))) (some (.lst fa)) none none) s') ?_ ?_
  ·refine Al (c:=false) ?_ (λz=>by cases z) λU=>?_
   ·walk_at "wp"
    ·exact An (aQ cl (by decide))
    ·exact An (by exact la [_,_] [([2,4,0],[2001])] ([4],[2000001]) rfl wl)
    exact ⟨nle,rfl⟩
   ·walk_at "wp"
    ·exact (by decide:0<=big)
    have gf:=AF (AY []) hfa
    refine Uk (FN gf last_new fl) (KtI (wpTb (KtI ?_)))
    rw [decide_eq_false (by rw [h1];exact cons_ne_nil _ _),Bool.not_false,if_pos rfl]
    have h0:((AW (cutL p)).map λi=>PV.int (i:Nat))[0]? = some (.int kk):=by rw [h1];rfl
    have i0:=Ea (bc.mp h0).1
    walk_at "wp"
    ·exact hb
    refine F1 (j:=0) rfl gf i0 h0 ?_
    walk_at "wp"
    refine F1 (j:=0) rfl gf i0 h0 ?_
    walk_at "wp"
    refine HK (AH (bl h2 (aQ cl (by decide)))) (Ea h2) ?_
    walk_at "wp"
    refine CE ?_
    walk_at "wp"
    ·exact An (aQ wl2 (by decide))
    refine FK (p:=hd.length+1+kk) (aQ xl (by decide)) (aQ wl2 (by decide)) λst2 i g2 h2=>?_
    walk_at "wp"
    exact ⟨rfl,st2,i,(AY _).trans g2,h2,(B.set 15 _ |> At.mk _ rfl)⟩
  rintro _ ⟨st1,i,g,hi,⟨L,rfl,B⟩⟩
  refine fin st1 _ L g B λh=>?_
  refine Dk (.inl rfl) hx (aQ xl (by decide)) T λst2 j g2 h2=>h st2 _ g2 ?_
  exact Gw h2 (AF g2 hi) (Gv (Bx ow))
theorem RN {t hd p:Txt}{en se sa m fa k:Nat}{s:S7}{st0:List (List PV)}{L:Nat->Option PV}(W:C7 st0 en hd p s)(hnb:nb p<=12)(hk:k<10)(hfa:st[fa]? = some ((AW (cutL p)).map λi=>PV.int (i:Nat)))
  (B:Loc (tM7 t en hd p se sa m s (some (.str (hd++[39]++p))) none none none none none (some (.str (cutL p))) (some (.lst fa)) none none) L) :
  wp (EA Kx) ⟨upd L 22 (.str (endsT.getD k [])),st⟩ (λf s'=>(f = .next\/f = .cont)/\∃ st',st <+: st'/\At st' (tM7 t en hd p se sa m s (some (.str (hd++[39]++p))) none none none none none (some (.str (cutL p))) (some (.lst fa)) none none) s') λU U=>False:=by
 have wl:=W.hl
 have cl:(cutL p).length<=1000:=aQ (takeWhile_sublist _).length_le (by exact la [_,_] [([2,4,0],[2001])] ([4],[2001]) rfl wl)
 have fl:(AW (cutL p)).length<=20:=by rw [Ht];exact aQ (RJ p) (aQ hnb (by decide))
 have hb:hd.length<=big:=An (by exact la [_,_] [([2,4,0],[2001])] ([2],[2000001]) rfl wl)
 have el:=DT hk
 have ek:=FM hk
 have B:=B.set 22 (.str (endsT.getD k []))
 generalize endsT.getD k []=e at B el ek ⊢
 obtain ⟨x,hx⟩:∃ x,x=hd++39::(p++(e++[39])):=⟨_,rfl⟩
 have ex:hd++[39]++p++e++[39]=x:=by rw [hx];simp
 have xl:x.length=(hd++[39]++p).length+e.length+1:=by rw [<- ex,length_append,length_append];rfl
 have s2:(hd++[39]++p).length<=1001:=by simp;exact la [_,_] [([2,4,0],[2001])] ([2,4,3,0,0],[2003]) rfl wl
 have xs:x.length<=90000:=by rw [xl];exact la [_,_] [([2],[17]),([4],[2003])] ([4,2,0,3,0],[180001]) rfl el s2
 have s3:(hd++[39]++p++e).length<=1009:=by rw [length_append];exact la [_,_] [([2],[17]),([4],[2003])] ([4,2,0],[2019]) rfl el s2
 have er:∀ c∈e,plainB c=true/\c≠39:=by
  rcases ek with rfl | ⟨j,rfl⟩
  ·intro c m;rw [mem_singleton.mp m];exact ⟨rfl,by decide⟩
  ·intro c m;rw [eq_of_mem_replicate m];exact ⟨rfl,by decide⟩
 have oe:okT (p++e):=C2 W.op (by
  rcases ek with rfl | ⟨j,rfl⟩
  ·exact Bx (by decide)
  ·intro c m;rw [eq_of_mem_replicate m];decide)
 have pe:(p++e).length<=1008:=by rw [length_append];exact la [_,_,_] [([2,4,0],[2001]),([6],[17])] ([4,6,0],[2017]) rfl wl el
 have K:=TE er W.op hx xs
 obtain ⟨b,hbb⟩:∃ b,b=(decide ((cutL p).length=p.length)&&decide (AW (cutL p)=[])):=⟨_,rfl⟩
 rw [<- hbb] at K
 unfold EA
 refine wpN (λs'=>∃ st1,st <+: st1/\At st1 (tM7 t en hd p se sa m s (some (.str (hd++[39]++p))) none none none none none (some (.str (cutL p))) (some (.lst fa)) (some (.str e)) (some (.bool b))) s') ?_ ?_
 ·have fin:∀ (st1:List (List PV)) (v:PV),st <+: st1->eqP v (.tup [.int (x.length:Nat),.str (p++e)]) ⟨L,st1⟩ = .ok b ⟨L,st1⟩->True:=λU U U U=>trivial
  walk_at "wp"
  ·exact An (aQ s3 (by decide))
  ·rw [ex];exact An (aQ xs (by decide))
  ·exact hb
  rw [ex]
  have e16:(((hd++[39]++p++e).length:Nat):Int)+1=((x.length:Nat):Int):=by rw [xl,length_append];exact rfl
  cases K with
  | yes G=>
   refine Ck (.inl rfl) hx xs G ?_
   walk_at "wp"
   ·exact An (aQ s3 (by decide))
   ·exact An (aQ s3 (by decide))
   ·exact An (aQ pe (by decide))
   ·exact (by decide:2<=big)
   rw [e16]
   refine M6 (Gu oe) ?_
   walk_at "wp"
   exact ⟨rfl,st,prefix_refl _,(B.set 23 _ |> At.mk _ rfl)⟩
  | @told at_ w T ow=>
   refine Dk (.inl rfl) hx xs T λst1 i g1 h1=>?_
   walk_at "wp"
   ·exact An (aQ s3 (by decide))
   ·exact An (aQ s3 (by decide))
   ·exact An (aQ pe (by decide))
   ·exact (by decide:2<=big)
   refine M6 (OT h1 (Gv ow) oe) ?_
   walk_at "wp"
   exact ⟨rfl,st1,g1,(B.set 23 _ |> At.mk _ rfl)⟩
  | @given n t' G lt ot=>
   refine Ck (.inl rfl) hx xs G ?_
   walk_at "wp"
   ·exact An (aQ s3 (by decide))
   ·exact An (aQ s3 (by decide))
   ·exact An (aQ pe (by decide))
   ·exact (by decide:2<=big)
   rw [e16]
   refine M6 (TN (λz=>by have:=Int.ofNat.inj z;exact (Nat.not_succ_le_zero _ (la [_,_] [([2,3,0],[4]),([4],[2])] ([3],[1]) rfl lt (aS this.symm)))) ot oe) ?_
   walk_at "wp"
   exact ⟨rfl,st,prefix_refl _,(B.set 23 _ |> At.mk _ rfl)⟩
 clear B
 rintro _ ⟨st1,g1,⟨L,rfl,B⟩⟩
 have hfa:=AF g1 hfa
 have key:∀ {Q:PV->PS->Prop},(∀ st2,st1 <+: st2->Q (.bool b) ⟨L,st2⟩)->wp (BK .And [(ac ((ac (ag [af 20]) A7)) λa=>ac ((ac (ag [af 4]) A7)) λc=>Ao .Eq a c),(ac (af 21) λa=>ac ((ac (ag []) ao)) λc=>Ao .Eq a c)]) ⟨L,st1⟩ Q λU U=>False:=λh=>by
  rw [Tm (by exact nofun)]
  walk_at "wp"
  ·exact An (aQ cl (by decide))
  ·exact An (by exact la [_,_] [([2,4,0],[2001])] ([4],[2000001]) rfl wl)
  rw [show ((((cutL p).length:Nat):Int)==((p.length:Nat):Int))=decide ((cutL p).length=p.length) from isZ]
  cases q:decide ((cutL p).length=p.length) with
  | false=>
   rw [q,Bool.false_and] at hbb
   show _
   have:=h st1 (prefix_refl _)
   rw [hbb] at this
   exact this
  | true=>
   rw [q,Bool.true_and] at hbb
   show wp (BK .And [_]) _ _ _
   show wp (ac (af 21) λa=>ac ((ac (ag []) ao)) λb=>Ao .Eq a b) _ _ _
   walk_at "wp"
   ·exact (by decide:0<=big)
   refine M6 (FN (AF (AY _) hfa) last_new fl) ?_
   rw [<- hbb]
   exact h _ (AY _)
 refine wpB (wpB (wpL B rfl (KtI (wpB (key λst2 g2=>?_)))))
 exact KtI (wpB (Hj RM (KtI (wpTb (KtI (wpR ⟨.inl rfl,st2,g1.trans g2,.mk _ rfl (B.drop 22 |>.drop 23)⟩))))))
end
abbrev tS7 (t:Txt)(en:Nat)(hd p:Txt)(se sa:Nat):Tb:=[none,some (.str t),some (.lst en),some (.str hd),some (.str p),some (.int se),some (.lst sa)]++replicate 17 none
inductive T7 (t:Txt)(en k:Nat)(s:PS):Prop
 | mk (st:List (List PV)) (hd p:Txt) (se sa:Nat) (c:S7) (W:C7 st en hd p c) (ha:st[sa]? = some c.row) (h1:se<=12) (h2:nb p<=se) (hl:hd.length+p.length<=20+k) (a:At st (tS7 t en hd p se sa) s):T7 t en k s
section
variable {st:List (List PV)}{E:PX->PS->Prop}
theorem Wj {i j:Nat}{a b:PV}{L:Nat->Option PV}{Q:Unit->PS->Prop}(h:Q () ⟨upd (upd L i a) j b,st⟩):wp (aE [ah i,ah j] (.tup [a,b])) ⟨L,st⟩ Q E:=wpO rfl (FJ (wpSet (FJ (wpSet (Tx h)))))
theorem Wk {i j k:Nat}{a b c:PV}{L:Nat->Option PV}{Q:Unit->PS->Prop}(h:Q () ⟨upd (upd (upd L i a) j b) k c,st⟩):wp (aE [ah i,ah j,ah k] (.tup [a,b,c])) ⟨L,st⟩ Q E:=wpO rfl (FJ (wpSet (FJ (wpSet (FJ (wpSet (Tx h)))))))
theorem V2 {X Y:Txt}{i n:Nat}{l:List PV}{L:Nat->Option PV}(g:L i=some (.lst n))(h:st[n]? = some (.str X::l)):wp (ac (ac (af i) λa=>ac (ae (.int 0)) λb=>Au false a b) λa=>ac (ae (.str Y)) λb=>ac (Ao .Eq a b) tst) ⟨L,st⟩ (λb s'=>b=(X==Y)/\s'=⟨L,st⟩) λU U=>False:=
 wpB (wpB (wpG g (KtI (wpB (wpR (KtI (F1 (j:=0) rfl h (Ea (Nat.succ_pos _)) rfl (KtI (wpB (wpR (KtI (wpB (wpEqS (KtI (wpTb ⟨rfl,rfl⟩)))))))))))))))
theorem Nd {h:Nat}:Sem h [] ⟨plainN,0,0,untT,h+1,[]⟩:=Sem.plain (ts:=[]) .nil rfl
theorem Vp {t:Txt}{en k:Nat}{L:Nat->Option PV}(ts:∀ c∈t,AA c)(tl:t.length<=80)(hk:k<t.length+1)(z:T7 t en k ⟨L,st⟩) :
  wp (EB Kx) ⟨upd L 7 (.int k),st⟩ (λf s'=>(f = .next\/f = .cont)/\T7 t en (k+1) s') λU U=>False:=by
 obtain ⟨st,hd,p,se,sa,s,W,ha,h1,h2,hl,⟨L,e0,B⟩⟩:=z
 cases e0
 have B:=B.set 7 (.int k)
 have nbp:=aQ h2 h1
 have wl:=W.hl
 have hb:hd.length<=big:=An (by exact la [_,_] [([2,4,0],[2001])] ([2],[2000001]) rfl wl)
 have pb:p.length<=big:=An (by exact la [_,_] [([2,4,0],[2001])] ([4],[2000001]) rfl wl)
 unfold EB
 refine wpA st (tM7 t en hd p se sa k s none none none none none none none none none none) ?_ λL B=>?_
 ·refine wpB (wpL B rfl (KtI (wpB (Uh ha (KtI (wpR ⟨rfl,?_⟩))))))
  exact (B.set 8 _ |>.set 9 _ |>.set 10 _ |>.set 11 _ |>.set 12 _ |>.set 13 _ |> At.mk _ rfl)
 refine wpA st (tM7 t en hd p se sa k s (some (.str (hd++[34]++p))) none none none none none none none none none) ?_ λL B=>?_
 ·walk_at "wp"
  ·exact An (by simp;exact la [_,_] [([2,4,0],[2001])] ([2],[1999999]) rfl wl)
  ·exact An (by simp;exact la [_,_] [([2,4,0],[2001])] ([2,4,3,0,0],[2000001]) rfl wl)
  exact ⟨rfl,(B.set 14 _ |> At.mk _ rfl)⟩
 refine wpN _ (RC W B) ?_
 clear B
 rintro _ ⟨st1,g1,⟨L,rfl,B⟩⟩
 refine wpA (st1++[[]]) (tM7 t en hd p se sa k s (some (.str (hd++[34]++p))) (some (.lst st1.length)) none none none none none none none none) ?_ λL B=>?_
 ·walk_at "wp"
  ·exact (by decide:0<=big)
  exact ⟨rfl,(B.set 15 _ |> At.mk _ rfl)⟩
 have g1:=g1.trans (AY [])
 refine wpN _ (RH W g1 last_new B) ?_
 clear B
 rintro _ ⟨st2,i,accD,g2,hi,hD,⟨L,rfl,B⟩⟩
 have g2:=g1.trans g2
 refine wpN _ (Jl W g2 B) ?_
 clear B
 rintro _ ⟨st3,an,accA,g3,han,hA,⟨L,rfl,B⟩⟩
 refine wpN _ (RI W han hA (AF g3 hi) (Cj.grow (R:=Bu) Bu.mono g3 hD) B) ?_
 clear B
 rintro _ ⟨st4,g4,⟨L,rfl,B⟩⟩
 refine wpN _ (OQ W B) ?_
 clear B
 rintro _ ⟨st5,g5,⟨L,rfl,B⟩⟩
 have g5:=(g2.trans g3).trans (g4.trans g5)
 refine OU W B λst6 L fa g6 hfa B=>?_
 refine Mq W nbp hfa B λst7 L g7 B=>?_
 have hfa:=AF g7 hfa
 have g7:=g5.trans (g6.trans g7)
 have he:=AF g7 W.he
 refine wpN (λs'=>∃ st',st7 <+: st'/\At st' (tM7 t en hd p se sa k s (some (.str (hd++[39]++p))) none none none none none (some (.str (cutL p))) (some (.lst fa)) none none) s') ?_ ?_
 ·refine wpB (wpB (wpL B rfl (KtI ?_)))
  rw [DO]
  refine KtI (M7 (P:=λU s'=>∃ st',st7 <+: st'/\At st' (tM7 t en hd p se sa k s (some (.str (hd++[39]++p))) none none none none none (some (.str (cutL p))) (some (.lst fa)) none none) s') (n:=10) (λk=>(endsT.map PV.str).getD k .none) ⟨st7,prefix_refl _,.mk _ rfl B⟩ (aZ (by decide) Kx_big) (λk s z lt=>?_) (λs z=>?_) (λk L' st' z lt=>?_) λU z=>z)
  ·obtain ⟨st8,g8,⟨L,rfl,_⟩⟩:=z
   exact DS he g8 lt
  ·obtain ⟨st8,g8,⟨L,rfl,_⟩⟩:=z
   exact Fc he g8
  ·obtain ⟨st8,g8,⟨_,e0,B2⟩⟩:=z
   cases e0
   rw [Fe lt]
   refine wp_mono (RN W nbp lt (AF g8 hfa) B2) (λf s' z=>?_) λU U z=>z
   obtain ⟨h1,st3,g3,a⟩:=z
   exact ⟨h1,st3,g8.trans g3,a⟩
 clear B
 rintro _ ⟨st8,g8,⟨L,rfl,B⟩⟩
 have g8:=g7.trans g8
 have he:=AF g8 W.he
 have ha:=AF g8 ha
 have hs:=W.hs
 have hp:=W.op
 clear W
 have tb:t.length<=big:=An (aQ tl (by decide))
 refine Al (c:=decide (k<t.length)) ?_ (λq=>?_) λq=>?_
 ·walk_at "wp"
  ·exact tb
  exact ⟨decide_eq_decide.mpr Int.ofNat_lt,rfl⟩
 ·have q:=aY q
  have sc:AA (t.getD k 0):=by
   rw [getD_eq_getElem?_getD,getElem?_eq_getElem q];exact ts _ (getElem_mem q)
  obtain ⟨c,hc⟩:∃ c,c=t.getD k 0:=⟨_,rfl⟩
  rw [<- hc] at sc
  have sk:Ag (k:Int)=true:=AH (bl q (aQ tl (by decide)))
  obtain ⟨s',hs'⟩:∃ s',s'=AZ s c (hd.length+1+p.length):=⟨_,rfl⟩
  have hs2:=Rt hs sc
  rw [<- hs'] at hs2
  have ep:((hd.length:Nat):Int)+1+((p.length:Nat):Int)=((hd.length+1+p.length:Nat):Int):=by exact rfl
  have txl:=(Sem.textLen hs).1
  refine wpN (λz=>∃ st9 b,st8 <+: st9/\st9[b]? = some s'.row/\At st9 (tS7 t en hd p se b |>.set 7 (some (.int k))) z) ?_ ?_
  ·walk_at "wp"
   refine HK sk (Ea q) ?_
   rw [<- hc]
   walk_at "wp"
   ·exact hb
   ·exact pb
   rw [ep]
   refine OM hs sc ha (by exact la [_,_,_] [([2,4,0],[2001]),([6],[4])] ([6],[200001]) rfl wl txl) λb st9 g9 hb9=>?_
   walk_at "wp"
   exact ⟨rfl,st9,b,g9,by rw [hs'];exact hb9,(B.set 6 _ |>.drop 8 |>.drop 9 |>.drop 10 |>.drop 11 |>.drop 12 |>.drop 13 |>.drop 14 |>.drop 20 |>.drop 21 |> At.mk _ rfl)⟩
  clear B
  rintro _ ⟨st9,b,g9,hb9,⟨L,rfl,B⟩⟩
  have he:=AF g9 he
  have pl1:(p++[c]).length=p.length+1:=by rw [length_append];rfl
  refine wpA st9 (tS7 t en hd (p++[c]) se b |>.set 7 (some (.int k))) ?_ λL B=>?_
  ·walk_at "wp"
   refine HK sk (Ea q) ?_
   rw [<- hc]
   walk_at "wp"
   ·exact An (by rw [pl1];exact la [_,_] [([2,4,0],[2001])] ([4,3,0],[2000001]) rfl wl)
   exact ⟨rfl,(B.set 4 _ |> At.mk _ rfl)⟩
  obtain ⟨cc,hcc⟩:∃ cc,cc=(s'.name==closedN||s'.name==refusedN):=⟨_,rfl⟩
  refine wpA st9 (tS7 t en hd (p++[c]) (se+if cc=true then 1 else 0) b |>.set 7 (some (.int k))) ?_ λL B=>?_
  ·refine wpB (wpL B rfl (KtI (wpB (Al (c:=cc) ?_ (λz=>?_) λz=>?_))))
   ·rw [hcc]
    exact Mn (V2 (B 6 _ rfl) hb9) (V2 (B 6 _ rfl) hb9)
   ·rw [if_pos z]
    walk_at "wp"
    exact ⟨rfl,(B.set 5 _ |> At.mk _ rfl)⟩
   ·rw [if_neg (by rw [z];exact Bool.false_ne_true)]
    walk_at "wp"
    exact ⟨rfl,(B.set 5 _ |> At.mk _ rfl)⟩
  have hn:nb (p++[c])<=se+if cc=true then 1 else 0:=by
   rw [TM]
   cases qc:plainB c with
   | true=>rw [if_pos rfl];exact aQ h2 (bw _ _)
   | false=>
    have e:cc=true:=by
     rw [hcc]
     rcases hs'▸RK hs qc (hd.length+1+p.length) with e | e
     ·rw [e];rfl
     ·rw [e];rfl
    rw [if_neg Bool.false_ne_true,if_pos e]
    exact bx h2
  generalize se+(if cc=true then 1 else 0)=se' at B hn
  have op2:okT (p++[c]):=C2 hp λx m=>by rw [mem_singleton.mp m];exact Ik sc
  refine Al (c:=decide (12<se')) ?_ (λz=>?_) λz=>?_
  ·walk_at "wp"
   exact ⟨decide_eq_decide.mpr (by lia),rfl⟩
  ·refine wpA st9 (tS7 t en (hd++(p++[c])) [] 0 b |>.set 7 (some (.int k))) ?_ λL B=>?_
   ·walk_at "wp"
    ·exact An (by rw [length_append,pl1];exact la [_,_] [([2,4,0],[2001])] ([2,4,3,0,0],[2000001]) rfl wl)
    ·exact (by decide:3<=big)
    refine Wk ?_
    refine KtI (wpR ⟨rfl,?_⟩)
    exact (B.set 3 _ |>.set 4 _ |>.set 5 _ |> At.mk _ rfl)
   have hl2:(hd++(p++[c])).length<=20+(k+1):=by rw [length_append,pl1];exact la [_,_,_] [([2,4,0],[41,6,0])] ([2,4,3,0,0],[41,6,3,0,0]) rfl hl
   generalize hd++(p++[c])=h2 at B hl2
   walk_at "wp"
   ·exact An (by exact la [_,_,_] [([2],[161]),([4,3,0],[2]),([6],[41,4,3,0,0])] ([6],[2000001]) rfl tl q hl2)
   ·exact (by decide:6<=big)
   refine ⟨.inl rfl,⟨_,h2,[],0,_,⟨plainN,0,0,untT,h2.length+1,[]⟩,⟨AF (AY _) he,Nd,by show h2.length+0<=1000;exact la [_,_,_] [([2],[161]),([4,3,0],[2]),([6],[41,4,3,0,0])] ([6,1,0],[2001]) rfl tl q hl2,λU m=>(by cases m)⟩,last_new,aP _,aR _,hl2,?_⟩⟩
   exact (B.set 6 _ |>.drop 7 |> At.mk _ rfl)
  ·have z:=of_decide_eq_false z
   refine wpR ⟨.inl rfl,⟨st9,hd,p++[c],se',b,s',⟨he,hs2,by rw [pl1];exact la [_,_,_,_] [([2],[161]),([4,6,0],[41,8,0]),([8,3,0],[2])] ([4,6,3,0,0],[2001]) rfl tl hl q,op2⟩,hb9,by exact la [_] [([2],[25])] ([2],[25]) rfl (Nat.not_lt.mp z),hn,by rw [pl1];exact la [_,_,_] [([2,4,0],[41,6,0])] ([2,4,3,0,0],[41,6,3,0,0]) rfl hl,?_⟩⟩
   exact (B.drop 7 |> At.mk _ rfl)
 ·refine wpR ⟨.inl rfl,⟨st8,hd,p,se,sa,s,⟨he,hs,wl,hp⟩,ha,h1,h2,by exact la [_,_,_] [([2,4,0],[41,6,0])] ([2,4,0],[41,6,3,0,0]) rfl hl,?_⟩⟩
  exact (B.drop 7 |>.drop 8 |>.drop 9 |>.drop 10 |>.drop 11 |>.drop 12 |>.drop 13 |>.drop 14 |>.drop 20 |>.drop 21 |> At.mk _ rfl)
theorem Mr {l:List Int}(hl:l.length<=63):wp (Id Kx) ⟨loc0 [.ints l],[]⟩ (λf U=>f = .ret (.bool true)) λU U=>False:=by
 unfold Id
 have B:=Loc.init [.ints l] 23
 generalize loc0 [PV.ints l]=L at B
 have lb:l.length<=big:=An (aQ hl (by decide))
 refine wpN (λz=>∃ st t,(∀ c∈t,AA c)/\t.length<=80/\At st (some (.ints l)::some (.str t)::replicate 22 none) z) ?_ ?_
 ·walk_at "wp"
  refine KK hl λt st U h1 h2=>?_
  walk_at "wp"
  exact ⟨rfl,st,t,h1,h2,(B.set 1 _ |> At.mk _ rfl)⟩
 clear B
 rintro _ ⟨st,t,ts,tl,⟨L,rfl,B⟩⟩
 refine wpN (λz=>∃ st en,st[en]? = some (endsT.map PV.str)/\At st (some (.ints l)::some (.str t)::some (.lst en)::replicate 21 none) z) ?_ ?_
 ·walk_at "wp"
  ·exact (by decide:2<=big)
  refine wpO rfl ?_
  refine KtI (Hq (n:=8) (p:=λk=>.int ((1+k:Nat):Int)) (λk=>zer (k+1)) Wi (λU h=>h) (by decide) (λk L' st' g lt=>Ry (a:=1) (b:=9) (by exact la [_] [([2,3,0],[17])] ([3,2,0,3,0],[19]) rfl lt)) (λL' st' g=>RA (a:=1) (b:=9) (by decide)) (λk L' st' g o lt=>?_) λacc st' g r=>?_)
  ·refine wpSet ?_
   have o2:=o.set (j:=33) (v:=.int ((1+k:Nat):Int)) (by decide)
   refine wpB (wpR (KtI (wpB (wpG rfl (KtI ?_)))))
   have e:(replicate ((1+k:Nat):Int).toNat ([48]:Txt)).flatten=zer (k+1):=by
    rw [Int.toNat_natCast,Nat.add_comm];unfold zer;simp
   refine Vl (AH (by lia)) (by rw [e,D4];exact An (by exact la [_] [([2,3,0],[17])] ([2,3,0],[2000001]) rfl lt)) ?_
   rw [e]
   exact ⟨_,_,rfl,prefix_refl _,o2,rfl⟩
  ·have e:acc=((range 8).map λk=>zer (k+1)).map PV.str:=by
    refine ext_getElem? λj=>?_
    rw [getElem?_map]
    cases q:acc[j]? with
    | some v=>
     have lt:=(bc.mp q).1
     rw [r.1] at lt
     have e2:=getElem?_eq_getElem lt
     rw [e2,show v=_ from r.2 j v _ q e2];rfl
    | none=>
     have:=bp.mp q
     rw [getElem?_eq_none (by rw [<- r.1];exact this)];rfl
   refine Gr (AF (g.trans (AY _)) last_new) last_new (by rw [e];decide) ?_
   walk_at "wp"
   refine ⟨rfl,_,_,?_,(B.set 2 _ |> At.mk _ rfl)⟩
   rw [last_new,e];rfl
 clear B
 rintro _ ⟨st,en,hen,⟨L,rfl,B⟩⟩
 have m3:l.length % 3<3:=Nat.mod_lt _ (by decide)
 obtain ⟨hd,ehd,hdl⟩:∃ hd:Txt,hd=(replicate (l.length % 3) ([13,32,61,32,49,10]:Txt)).flatten++[39,107,34,32,61,32]/\hd.length<=20:=⟨_,rfl,by simp;lia⟩
 refine wpA st (some (.ints l)::some (.str t)::some (.lst en)::some (.str hd)::replicate 20 none) ?_ λL B=>?_
 ·walk_at "wp"
  rw [Tz]
  refine ⟨decide_eq_true lb,?_⟩
  walk_at "wp"
  rw [show (l.length:Int).fmod 3=((l.length % 3:Nat):Int) from DN l.length 3]
  refine Vl (AH (aZ m3 (by decide))) ?_ ?_
  ·rw [Int.toNat_natCast];exact An (by simp;lia)
  rw [Int.toNat_natCast]
  refine KtI (wpB (wpR (KtI (wpAS (by rw [<- ehd];exact An (by exact la [_] [([2],[41])] ([2],[2000001]) rfl hdl)) ?_))))
  rw [<- ehd]
  walk_at "wp"
  exact ⟨rfl,(B.set 3 _ |> At.mk _ rfl)⟩
 refine wpA st (some (.ints l)::some (.str t)::some (.lst en)::some (.str hd)::some (.str [])::some (.int 0)::replicate 18 none) ?_ λL B=>?_
 ·walk_at "wp"
  ·exact (by decide:2<=big)
  exact Wj (KtI (wpR ⟨rfl,(B.set 4 _ |>.set 5 _ |> At.mk _ rfl)⟩))
 refine wpN (T7 t en 0) ?_ ?_
 ·walk_at "wp"
  ·exact An (by exact la [_] [([2],[41])] ([2],[2000001]) rfl hdl)
  ·exact (by decide:6<=big)
  refine ⟨rfl,⟨_,hd,[],0,_,⟨plainN,0,0,untT,hd.length+1,[]⟩,⟨AF (AY _) hen,Nd,by show hd.length+0<=1000;exact la [_] [([2],[41])] ([2,1,0],[2001]) rfl hdl,λU m=>(by cases m)⟩,last_new,aP _,aR _,hdl,?_⟩⟩
  exact (B.set 6 _ |>.drop 0 |> At.mk _ rfl)
 clear B
 intro s z
 refine wpN (λU=>True) ?_ ?_
 ·have k0:=z
  obtain ⟨st,hd,p,se,sa,c,W,ha,h1,h2,hl,⟨L,rfl,B⟩⟩:=z
  walk_at "wp"
  ·exact An (aQ tl (by decide))
  rw [show ((t.length:Nat):Int)+1=((t.length+1:Nat):Int) from rfl,Hf (Nat.lt_of_le_of_lt (Nat.succ_le_succ tl) (by decide))]
  exact KtI (M7 (P:=T7 t en) (n:=t.length+1) (λk=>.int k) k0 (bv (bx tl) (aZ (by decide) Kx_big)) (λk s U lt=>I8 lt) (λs U=>I9) (λk L st z lt=>Vp ts tl lt z) λU z=>trivial)
 rintro s _
 exact wpB (wpR (KtI (wpR rfl)))
end
theorem plain_law07 (l:List Int)(hl:l.length<=63):∃ K ps',Id K ⟨λi=>([PV.ints l])[i]?,[]⟩ = .ok (.ret (.bool true)) ps':=by
 have h:=Mr hl
 unfold wp loc0 at h
 refine ⟨Kx,?_⟩
 cases q:Id Kx ⟨λi=>([PV.ints l])[i]?,[]⟩ with
 | ok f s=>rw [q] at h;exact ⟨s,by rw [show f = .ret (.bool true) from h]⟩
 | ex e s=>rw [q] at h;exact h.elim
 | stuck=>rw [q] at h;exact h.elim
end Mi
end
end
theorem PySem.Challenge.cw_kp0046_07_holds : PySem.Challenge.rw_kp0046_07.Holds := by
  exact Mi.holds07 Mi.plain_law07
