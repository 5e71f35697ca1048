import PyProof.Rows.All
import Wide.All
import OpenK.AllK
import Wide.FinOn
import PyProof.InstEq
import PyProof.NsDelKeeps
import PyProof.ExcStrAll.ValueError
import PyProof.ExcBaseAll.ValueError
import PyProof.ExcStrCall
import PyProof.FString4
import KE.KIntText
import PyProof.ListStr
import PyProof.ListCopy
import PyProof.ListRange
import KE.KNest
import PyProof.WalkInts
import PyProof.StrCalls
import PyProof.SeqI3
import PySem.Challenge.RW_kp0046_10
set_option Elab.async false
set_option linter.all false
set_option tactic.hygienic false
set_option bootstrap.genMatcherCode false
set_option compiler.extract_closed false
set_option genSizeOf false
set_option genInjectivity false
set_option genCtorIdx false
set_option backward.linearNoConfusionType false
section
local macro_rules (kind := Lean.Parser.Command.declaration)
  | s=>do
    unless s.getHeadInfo matches .original .. do Lean.Macro.throwUnsupported
    let s:=s.setHeadInfo .none
    if s[0].getArgs.any (!·.isNone) then return s
    let f i n k:=s.setArg 0 (s[0].setArg i (.node .none `null #[.node .none k #[.atom .none n]]))
    if s[1].isOfKind `Lean.Parser.Command.theorem then return f 2 "private" `Lean.Parser.Command.private
    if s[1].isOfKind `Lean.Parser.Command.definition||s[1].isOfKind `Lean.Parser.Command.abbrev then return f 4 "noncomputable" `Lean.Parser.Command.noncomputable
    return s
open List (Perm all_cons all_eq_true any_eq_true append_assoc append_nil cons_append cons_ne_nil drop_eq_getElem_cons drop_length drop_nil drop_of_length_le drop_zero eq_nil_of_length_eq_zero filterMap_cons filter_append filter_cons filter_cons_of_neg filter_cons_of_pos filter_eq_self find?_cons flatten_cons foldl_cons forIn_cons forIn_nil getD_eq_getElem?_getD getElem?_append_left getElem?_append_right getElem?_drop getElem?_eq_getElem getElem?_eq_none getElem?_map getElem?_set_ne getElem_mem isEmpty_iff isEmpty_nil length length_append length_cons length_drop length_eq_zero_iff length_filter_le length_map length_range length_take lookup lookup_cons map map_append map_cons mem_append mem_append_left mem_append_right mem_cons mem_cons_of_mem mem_cons_self mem_filter mem_map mem_of_getElem? mem_of_mem_drop mem_range mem_singleton mem_singleton_self nil_append nodup_append nodup_cons nodup_nil not_mem_nil of_mem_zip prefix_append prefix_refl range range' range_succ replicate size_toArray take_add_one take_left take_length take_nil take_of_length_le take_succ_cons)
open Bool (and_eq_true and_eq_true_iff false_eq_true not_eq_true' or_eq_false_iff or_eq_true)
open PySem.Heap (ExtBut get?_push_of_some get?_push_size get?_some_iff get?_update_other get?_update_self lt_size)
namespace Mi
def aP:=@Nat.zero_le
def aQ:=@Nat.le_trans
def aR:=@Nat.le_refl
def aS:=@Nat.le_of_eq
def aU:=@Option.some.inj
def aV:=@Option.map_eq_some_iff
def aW:=@Option.bind_eq_some_iff
def aX:=@PySem.wpAny_mono
def aY:=@beq_eq_false_iff_ne
def aZ:=@of_decide_eq_true
def bc:=@Nat.lt_trans
def be:=@Option.isSome_iff_exists
def bf:=@List.getElem?_eq_some_iff
def bg:=@Nat.le_antisymm
def bh:=@PySem.wpAny_holding
def bj:=@PySem.wpAny_bind
def bk:=@PySem.wpAny_pure
def bl:=@Nat.lt_irrefl
def bn:=@Nat.min_eq_left
def bo:=@Bool.false_ne_true
def bp:=@Nat.lt_succ_self
def bq:=@List.getElem?_eq_none_iff
def br:=@Nat.le_of_lt
def bv:=@Nat.not_lt_zero
def bw:=@Nat.lt_of_le_of_lt
def bx:=@Nat.lt_of_lt_of_le
def bz:=@Nat.le_add_right
def bA:=@Nat.succ_le_succ
def bB:=@Nat.succ_le_of_lt
def lnO {V:Type}(f:V->V->V):List V->List V
  | y::x::t=>f x y::t
  | s=>s
def lnF {V:Type}(f:V->V->V)(v:Nat->V)(s:List V)(l:List Nat):List V:=l.foldl (λs k=>cond (Nat.beq k 0) (lnO f s) (v k::s)) s
def lnV (c:List Nat)(k:Nat):Nat:=cond (Nat.beq (k % 2) 0) (c.getD (k / 2 - 1) 0) (k / 2)
def lnX (c:List Nat)(l:List Nat):Nat:=(lnF (λx y=>x+y) (lnV c) [] l).headD 0
def lnE:List Nat->List Nat->Nat
  | a::x,b::c=>a*b+lnE x c
  | _,_=>0
def lnP:List Nat->List Nat->List Nat
  | a::x,b::y=>(a+b)::lnP x y
  | [],y=>y
  | x,[]=>x
def lnQ (k:Nat):List Nat:=cond (Nat.beq (k % 2) 0) (replicate (k / 2 - 1+1) 0++[1]) [k / 2]
def lnY (l:List Nat):List Nat:=(lnF lnP lnQ [] l).headD []
def lnG:List Nat->List Nat->Bool
  | _,[]=>true
  | [],b::y=>Nat.beq b 0&&lnG [] y
  | a::x,b::y=>Nat.ble b a&&lnG x y
def lnS (f:List Nat × List Nat->List Nat)(g:List Nat)(l:List (List Nat × List Nat)):List Nat:=l.foldr (λp s=>lnP (lnY (f p)) s) (lnY g)
def lnH (c:List Nat)(g:List Nat × List Nat)(l:List (List Nat × List Nat)):Prop:=l.foldr (λp P=>lnX c p.1<=lnX c p.2->P) (lnX c g.1<=lnX c g.2)
theorem lnN (x:List Nat):lnE x []=0:=by cases x <;> rfl
theorem M4:∀ x y c,lnE (lnP x y) c=lnE x c+lnE y c
  | x,y,[]=>by rw [lnN,lnN,lnN]
  | a::x,b::y,d::c=>by
    show (a+b)*d+lnE (lnP x y) c=a*d+lnE x c+(b*d+lnE y c)
    rw [M4,Nat.add_mul,Nat.add_assoc,Nat.add_assoc,Nat.add_left_comm (b*d)]
  | [],[],_::_=>rfl
  | [],_::_,_::_=>(Nat.zero_add _).symm
  | _::_,[],_::_=>rfl
theorem Uj:∀ i c,lnE (replicate i 0++[1]) c=c.getD i 0
  | i,[]=>lnN _
  | 0,x::c=>(congr (congrArg _ (Nat.one_mul x)) rfl).trans (Nat.add_zero x)
  | i+1,x::c=>by
    show 0*x+lnE (replicate i 0++[1]) c=c.getD i 0
    rw [Uj,Nat.zero_mul,Nat.zero_add]
theorem VM {V β:Type}{f:V->V->V}{v:Nat->V}{f':β->β->β}{v':Nat->β}(h:V->β)(hf:∀ a b,h (f a b)=f' (h a) (h b))(hv:∀ k,h (v k)=v' k)(l:List Nat):∀ (s:List V),(lnF f v s l).map h=lnF f' v' (s.map h) l:=by
  induction l with
  | nil=>exact λ_=>rfl
  | cons k l ih=>
    intro s
    refine (ih _).trans (congrArg (lnF f' v' · l) ?_)
    show (cond (Nat.beq k 0) (lnO f s) (v k::s)).map h=cond (Nat.beq k 0) (lnO f' (s.map h)) (v' k::s.map h)
    cases Nat.beq k 0 with
    | true=>
      match s with
      | y::x::t=>exact congrArg (·::t.map h) (hf x y)
      | [y]=>rfl
      | []=>rfl
    | false=>exact congrArg (·::s.map h) (hv k)
theorem lnZ {l:List (List Nat)}{m c:List Nat}(h:l.map (lnE · c)=m):lnE (l.headD []) c=m.headD 0:=by
  subst h
  cases l <;> rfl
theorem M5 (c l:List Nat):lnE (lnY l) (1::c)=lnX c l:=
  lnZ (VM (s:=[]) (lnE · (1::c)) (λa b=>M4 a b _) (λk=>by
    unfold lnQ lnV
    cases Nat.beq (k % 2) 0 with
    | true=>exact (Nat.zero_add _).trans (Uj _ _)
    | false=>exact Nat.mul_one _) l)
theorem PB:∀ x y c,lnG x y=true->lnE y c<=lnE x c
  | _,y,[],_=>by rw [lnN];exact aP _
  | _,[],_::_,_=>aP _
  | [],b::y,d::c,h=>by
    have h:=and_eq_true_iff.mp h
    show b*d+lnE y c<=0
    rw [Nat.eq_of_beq_eq_true h.1,Nat.zero_mul,Nat.zero_add]
    exact aQ (PB [] y c h.2) (aR 0)
  | a::x,b::y,d::c,h=>by
    have h:=and_eq_true_iff.mp h
    exact Nat.add_le_add (Nat.mul_le_mul_right d (Nat.le_of_ble_eq_true h.1)) (PB x y c h.2)
theorem VN (c:List Nat)(g:List Nat × List Nat)(l:List (List Nat × List Nat)):∀ (A B:Nat),A<=B->B+lnE (lnS Prod.snd g.1 l) (1::c)<=A+lnE (lnS Prod.fst g.2 l) (1::c)->lnH c g l:=by
  induction l with
  | nil=>
    intro A B h k
    have k:B+lnE (lnY g.1) (1::c)<=A+lnE (lnY g.2) (1::c):=k
    rw [M5,M5] at k
    exact Nat.le_of_add_le_add_left (aQ k (Nat.add_le_add_right h _))
  | cons p r ih=>
    intro A B h k q
    have k:B+lnE (lnP (lnY p.2) (lnS Prod.snd g.1 r)) (1::c)<=A+lnE (lnP (lnY p.1) (lnS Prod.fst g.2 r)) (1::c):=k
    rw [M4,M4,M5,M5,<- Nat.add_assoc,<- Nat.add_assoc] at k
    exact ih _ _ (Nat.add_le_add h q) k
theorem la (c:List Nat)(l:List (List Nat × List Nat))(g:List Nat × List Nat)(h:true=lnG (lnS Prod.fst g.2 l) (lnS Prod.snd g.1 l)):lnH c g l:=
  VN c g l 0 0 (aR _) (Nat.add_le_add_left (PB _ _ (1::c) h.symm) 0)
theorem lcS (a b:Nat):a<=a - b+b:=Nat.sub_le_iff_le_add.mp (aR _)
theorem lcC {a b:Nat}(h:b<=a):a - b+b<=a:=aS (Nat.sub_add_cancel h)
end Mi
nonrec theorem Mi.hideG {G:Prop}(h:∀ P:Prop,(G->P)->P):G:=h G λx=>x
local macro_rules | `(tactic| obtain $p:rcasesPatMed := $e) => do
  if p.raw[0][0][1].getNumArgs<7 then Lean.Macro.throwUnsupported
  `(tactic| (refine Mi.hideG fun P k=>?_;rcases $e:term with $p <;> (refine k ?_;clear k P)))
local macro_rules | `(tactic| cases $e:ident) => do
  let r:=Lean.mkIdent `rfl
  `(tactic| first | (exfalso;injection $e:ident;done) | obtain $r:ident:=$e:ident | (injection $e:ident with a b;cases a <;> cases b) | (injection $e:ident with a;cases a) | cases ($e))
section
open PySem PySem.W PySem.Calls PyProof.Rows
open PySem.Sem (wp)
set_option maxRecDepth 10000
namespace Mh
abbrev Kb {V β:Type}(M:Model)(A:Around)(f:V->Sem β)(Q:β->Shared->Prop)(E:Value->Shared->Prop)(a:V)(s:Shared):Prop:=wpAny M A (f a) Q E s
theorem KbI {V β:Type}{M:Model}{A:Around}{f:V->Sem β}{Q:β->Shared->Prop}{E:Value->Shared->Prop}{a:V}{s:Shared}(h:wpAny M A (f a) Q E s):Kb M A f Q E a s:=h
theorem wbK {V β:Type}{M:Model}{A:Around}{m:Sem V}{f:V->Sem β}{Q:β->Shared->Prop}{E:Value->Shared->Prop}{s:Shared}(h:wpAny M A m (Kb M A f Q E) E s):wpAny M A (m >>= f) Q E s:=wpAny_bind h
structure SX where
 sh:SharedT
 gh:List (Addr × List Str)
inductive Lf where
 | fin (f:PySem.Fin)
 | exc (x:Value)
 | susp (v:Value) (g:Bool) (l:List Value) (k:Resume->Sem PySem.Fin)
def AB (M:Model)(Γ:Ctx)(p:Pos)(t:Sem PySem.Fin)(s:Shared):Lf->Pos->Shared->Prop
 | .fin f,p',s'=>∀ Q E,Q f p' s'->wp M Γ t Q E p s
 | .exc x,p',s'=>∀ Q E,E x p' s'->wp M Γ t Q E p s
 | .susp v g l k,p',s'=>Runs M Γ p t [] s (.susp v g l k Γ.code p' []) s'
inductive Sp where
 | no
 | loop (a:Addr) (it:Value)
 | or (a b:Addr)
 | sub (a b:Addr)
def Ja:Value->Option Addr
 | .ref a=>some a
 | _=>none
def spB (n:Nat):List Value->Sp
 | [x,it]=>match Ja x with
  | some a=>match Nat.beq n 589010082235415537506245985091020404 with
   | true=>.loop a it
   | false=>match Ja it with
    | some b=>match Nat.beq n 128106689474256730729217500516147295079 with
     | true=>.or a b
     | false=>match Nat.beq n 32795229551939066288708134027670812914535 with
      | true=>.sub a b
      | false=>.no
    | none=>.no
  | none=>.no
 | _=>.no
def spOf (c:Code):Sp:=match c with
 | .builtin id args=>match args with
  | ⟨pos,kw⟩=>match kw with
   | []=>spB (code id) pos
   | _=>.no
 | _=>.no
structure Orc where
 add:Ctx->Pos->Addr->Str->Tok->SX->Option (Pos × SX)
 or:Ctx->Pos->Addr->Addr->SX->Option (Value × SX)
 sub:Ctx->Pos->Addr->Addr->SX->Option (Value × SX)
 inv:SX->Prop
def PC (a:Addr):List (Addr × List Str)->Bool
 | []=>false
 | x::r=>match Nat.beq x.1 a with
  | true=>true
  | false=>PC a r
def Uk:End->Option Result
 | .ret r=>some r
 | _=>none
def VO:Lf->Option Code
 | .fin (.again c)=>some c
 | _=>none
def bare:Resume->Bool
 | .send .none=>true
 | _=>false
def aft (ev:GenResult->SX->Option (Lf × Pos × SX))(g:Nat):End × SX->Option (Lf × Pos × SX)
 | (e,⟨⟨T,N,life,gens,drawn,toks,os⟩,gh⟩)=>cond e.quiet (ev e.result ⟨⟨T,N,life,gens.setIfInBounds g e.genState,drawn,toks,os⟩,gh⟩) none
def VP (M:Model)(rec:Ctx->Pos->SX->Option (End × SX))(ev:Ctx->Pos->Sem PySem.Fin->SX->Option (Lf × Pos × SX))(Γ:Ctx)(p:Pos)(t:Sem PySem.Fin):SX->Option (Lf × Pos × SX)
 | ⟨⟨T,N,life,gens,drawn,toks,os⟩,gh⟩=>match t with
  | .pure f=>some (.fin f,p,⟨⟨T,N,life,gens,drawn,toks,os⟩,gh⟩)
  | .raise x=>some (.exc x,p,⟨⟨T,N,life,gens,drawn,toks,os⟩,gh⟩)
  | .yield v g l k=>some (.susp v g l k,p,⟨⟨T,N,life,gens,drawn,toks,os⟩,gh⟩)
  | .rule _ k=>ev Γ p (k ()) ⟨⟨T,N,life,gens,drawn,toks,os⟩,gh⟩
  | .at p' k=>ev Γ p' (k ()) ⟨⟨T,N,life,gens,drawn,toks,os⟩,gh⟩
  | .load a _ k=>cond (Nat.blt a N) ((T.get a).bind λo=>(alive o).bind λo'=>ev Γ p (k o') ⟨⟨T,N,life,gens,drawn,toks,os⟩,gh⟩) none
  | .update a _ f k=>cond (PC a gh) none (cond (Nat.blt a N) ((T.get a).bind λo=>(alive o).bind λU=>ev Γ p (k ()) ⟨⟨T.set a f,N,life,gens,drawn,toks,os⟩,gh⟩) none)
  | .alloc o k=>match N with
   | 0=>none
   | j+1=>cond ((T.ins (j+1) o).get (j+1)).isSome (ev Γ p (k (j+1)) ⟨⟨T.ins (j+1) o,j+1+1,life,gens,drawn,toks,os⟩,gh⟩) none
  | .loadIfAlive a k=>cond (Nat.blt a N) ((T.get a).bind λo=>ev Γ p (k (alive o)) ⟨⟨T,N,life,gens,drawn,toks,os⟩,gh⟩) (ev Γ p (k none) ⟨⟨T,N,life,gens,drawn,toks,os⟩,gh⟩)
  | .point _ k=>ev Γ p (k ()) ⟨⟨T,N,life,gens,drawn,toks,os⟩,gh⟩
  | .fresh k=>ev Γ p (k toks) ⟨⟨T,N,life,gens,drawn,toks+1,os⟩,gh⟩
  | .ask k=>ev Γ p (k ⟨M.prog,M.w.params⟩) ⟨⟨T,N,life,gens,drawn,toks,os⟩,gh⟩
  | .handled own k=>ev Γ p (k (if own then Γ.own else Γ.handled)) ⟨⟨T,N,life,gens,drawn,toks,os⟩,gh⟩
  | .stack k=>ev Γ p (k ((Γ.code,p)::Γ.below)) ⟨⟨T,N,life,gens,drawn,toks,os⟩,gh⟩
  | .thread k=>ev Γ p (k 0) ⟨⟨T,N,life,gens,drawn,toks,os⟩,gh⟩
  | .genState g k=>gens[g]?.bind λst=>ev Γ p (k st.seen) ⟨⟨T,N,life,gens,drawn,toks,os⟩,gh⟩
  | .newGen c k=>ev Γ p (k gens.size) ⟨⟨T,N,life,gens.push (.fresh c),drawn,toks,os⟩,gh⟩
  | .call c h _ _ k=>(rec (Γ.enter c h p) p ⟨⟨T,N,life,gens,drawn,toks,os⟩,gh⟩).bind λr=>(Uk r.1).bind λv=>ev Γ p (k v) r.2
  | .resume g r _ k=>gens[g]?.bind λst=>match st with
   | .fresh c=>cond (bare r) ((rec (Γ.wake c p) p ⟨⟨T,N,life,gens.setIfInBounds g .running,drawn,toks,os⟩,gh⟩).bind (aft (λv=>ev Γ p (k v)) g)) none
   | .suspended Z5 _ Y5 g6 fs _=>cond fs.isEmpty ((ev (Γ.wake Y5 p) g6 (Z5 r) ⟨⟨T,N,life,gens.setIfInBounds g .running,drawn,toks,os⟩,gh⟩).bind λx=>(VO x.1).bind λc=>
     cond c.quiet ((rec ((Γ.wake Y5 p).goto c) x.2.1 x.2.2).bind (aft (λv=>ev Γ p (k v)) g)) none) none
   | _=>none
  | _=>none
def evW (M:Model)(rec:Ctx->Pos->SX->Option (End × SX)):Nat->Ctx->Pos->Sem PySem.Fin->SX->Option (Lf × Pos × SX)
 | 0=>λU U U U=>none
 | n+1=>VP M rec (evW M rec n)
def Jb:Option Value->Sem PySem.Fin
 | none=>.pure (.done .next)
 | some v=>.pure (.done (.ret v))
def Ul:Value->Option (Str × Tok)
 | .str x u=>some (x,u)
 | _=>none
def VQ (M:Model)(O:Orc)(rec:Ctx->Pos->SX->Option (End × SX))(ev:Ctx->Pos->Sem PySem.Fin->SX->Option (Lf × Pos × SX))(Γ:Ctx)(p:Pos)(S:SX):Sp->Option (End × SX)
 | .no=>(ev Γ p (M.den Γ.code) S).bind λr=>match r.1 with
  | .fin f=>match f with
   | .done f=>some (.ret (.ok f),r.2.2)
   | .again c=>cond c.quiet (rec (Γ.goto c) r.2.1 r.2.2) none
  | .exc x=>some (.ret (.error x),r.2.2)
  | .susp v g l k=>some (.susp v g l k Γ.code r.2.1 [],r.2.2)
 | .loop a it=>(ev Γ p ((pyNext it).bind Jb) S).bind λr=>match r.1 with
  | .fin f=>match f with
   | .done f=>match f with
    | .next=>some (.ret (.ok (.ret .none)),r.2.2)
    | .ret v=>(Ul v).bind λx=>(O.add Γ r.2.1 a x.1 x.2 r.2.2).bind λq=>cond Γ.code.quiet (rec (Γ.goto Γ.code) q.1 q.2) none
    | _=>none
   | _=>none
  | _=>none
 | .or a b=>(O.or Γ p a b S).bind λr=>some (.ret (.ok (.ret r.1)),r.2)
 | .sub a b=>(O.sub Γ p a b S).bind λr=>some (.ret (.ok (.ret r.1)),r.2)
def evC (M:Model)(O:Orc)(m:Nat):Nat->Ctx->Pos->SX->Option (End × SX)
 | 0=>λU U U=>none
 | d+1=>λΓ p S=>VQ M O (evC M O m d) (evW M (evC M O m d) m) Γ p S (spOf Γ.code)
structure Orc.Ok (O:Orc)(M:Model):Prop where
 up:∀ {T N life gens drawn toks os gh a f},O.inv ⟨⟨T,N,life,gens,drawn,toks,os⟩,gh⟩->PC a gh=false->O.inv ⟨⟨T.set a f,N,life,gens,drawn,toks,os⟩,gh⟩
 new:∀ {T N life gens drawn toks os gh o},O.inv ⟨⟨T,N,life,gens,drawn,toks,os⟩,gh⟩->((T.ins N o).get N).isSome=true->O.inv ⟨⟨T.ins N o,N+1,life,gens,drawn,toks,os⟩,gh⟩
 rest:∀ {T N life gens drawn toks os gh gens' toks'},O.inv ⟨⟨T,N,life,gens,drawn,toks,os⟩,gh⟩->O.inv ⟨⟨T,N,life,gens',drawn,toks',os⟩,gh⟩
 add:∀ {a x u S q S'} (Γ:Ctx) (p:Pos),O.inv S->O.add Γ p a x u S=some (q,S')->(∀ (Q:Bool->Pos->Shared->Prop) E,(∀ b,Q b q S'.sh.abs)->wp M Γ (setAdd a (.str x u)) Q E p S.sh.abs)/\O.inv S'
 or:∀ {a b S v S'} (Γ:Ctx) (p:Pos),O.inv S->Γ.code = .builtin "frozenset.__or__" ⟨[.ref a,.ref b],[]⟩->O.or Γ p a b S=some (v,S')->Runs M Γ p (M.den Γ.code) [] S.sh.abs (.ret (.ok (.ret v))) S'.sh.abs/\O.inv S'
 sub:∀ {a b S v S'} (Γ:Ctx) (p:Pos),O.inv S->Γ.code = .builtin "frozenset.__sub__" ⟨[.ref a,.ref b],[]⟩->O.sub Γ p a b S=some (v,S')->Runs M Γ p (M.den Γ.code) [] S.sh.abs (.ret (.ok (.ret v))) S'.sh.abs/\O.inv S'
 loop:∀ a it,M.den (.builtin "set.update.loop" ⟨[.ref a,it],[]⟩)=Builtin.«set.update.loop» ⟨[.ref a,it],[]⟩
theorem GQ {id:String}{n:Nat}(s:String)(hs:code s=n)(h:Nat.beq (code id) n=true):id=s:=
 code_inj _ _ ((Nat.eq_of_beq_eq_true h).trans hs.symm)
inductive SpIs (c:Code):Sp->Prop
 | no:SpIs c .no
 | loop {a it} (h:c = .builtin "set.update.loop" ⟨[.ref a,it],[]⟩):SpIs c (.loop a it)
 | or {a b} (h:c = .builtin "frozenset.__or__" ⟨[.ref a,.ref b],[]⟩):SpIs c (.or a b)
 | sub {a b} (h:c = .builtin "frozenset.__sub__" ⟨[.ref a,.ref b],[]⟩):SpIs c (.sub a b)
theorem CT {x:Value}{a:Addr}(h:Ja x=some a):x = .ref a:=by
 cases x with
 | ref b=>cases h;rfl
 | _=>exact (by cases h)
theorem UP (id:String)(x it:Value):SpIs (.builtin id ⟨[x,it],[]⟩) (spB (code id) [x,it]):=by
 unfold spB
 dsimp only
 cases hx:Ja x with
 | none=>exact .no
 | some a=>
  rw [CT hx]
  dsimp only
  cases h1:Nat.beq (code id) 589010082235415537506245985091020404 with
  | true=>exact .loop (by rw [GQ "set.update.loop" (by decide +kernel) h1])
  | false=>
   cases hi:Ja it with
   | none=>exact .no
   | some b=>
    rw [CT hi]
    dsimp only
    cases h2:Nat.beq (code id) 128106689474256730729217500516147295079 with
    | true=>exact .or (by rw [GQ "frozenset.__or__" (by decide +kernel) h2])
    | false=>
     cases h3:Nat.beq (code id) 32795229551939066288708134027670812914535 with
     | true=>exact .sub (by rw [GQ "frozenset.__sub__" (by decide +kernel) h3])
     | false=>exact .no
theorem Sv (c:Code):SpIs c (spOf c):=by
 cases c with
 | builtin id args=>
  obtain ⟨pos,kw⟩:=args
  cases kw with
  | cons=>exact .no
  | nil=>
   cases pos with
   | nil=>exact .no
   | cons x r=>
    cases r with
    | nil=>exact .no
    | cons y r=>
     cases r with
     | nil=>exact UP id x y
     | cons=>exact .no
 | _=>exact .no
theorem DE {M:Model}{Γ:Ctx}{p:Pos}{t:Sem PySem.Fin}{s:Shared}{r:Result}{s':Shared}
  (h:wp M Γ t (Sem.finPost M Γ (λr' s''=>r'=r/\s''=s')) (λe U s''=>(Except.error e:Result)=r/\s''=s') p s):Runs M Γ p t [] s (.ret r) s':=by
 obtain ⟨r',s'',a,rfl,rfl⟩:=(Sem.wp_iff_runs M Γ t _ p s).mp h
 exact a
variable {M:Model}{Γ:Ctx}{p p':Pos}{s s':Shared}{lf:Lf}
theorem AB.rule {k}{tag}(h:AB M Γ p (k ()) s lf p' s'):AB M Γ p (.rule tag k) s lf p' s':=by
 cases lf with
 | fin f=>exact λQ E q=>h Q E q
 | exc x=>exact λQ E q=>h Q E q
 | susp=>exact Runs.rule h
theorem AB.at {q}{k}(h:AB M Γ q (k ()) s lf p' s'):AB M Γ p (.at q k) s lf p' s':=by
 cases lf with
 | fin f=>exact λQ E q=>h Q E q
 | exc x=>exact λQ E q=>h Q E q
 | susp=>exact Runs.at h
theorem AB.point {l}{k}(h:AB M Γ p (k ()) s lf p' s'):AB M Γ p (.point l k) s lf p' s':=by
 cases lf with
 | fin f=>exact λQ E q=>h Q E q
 | exc x=>exact λQ E q=>h Q E q
 | susp=>exact Runs.point h
theorem AB.load {a part o}{k}(e:s.heap.get? a=some o)(h:AB M Γ p (k o) s lf p' s'):AB M Γ p (.load a part k) s lf p' s':=by
 cases lf with
 | fin f=>exact λQ E q=>⟨o,e,h Q E q⟩
 | exc x=>exact λQ E q=>⟨o,e,h Q E q⟩
 | susp=>exact Runs.load e h
theorem AB.update {a part f}{k}(e:(s.heap.get? a).isSome)(h:AB M Γ p (k ()) { s with heap:=s.heap.update a f } lf p' s'):AB M Γ p (.update a part f k) s lf p' s':=by
 cases lf with
 | fin f=>exact λQ E q=>⟨e,h Q E q⟩
 | exc x=>exact λQ E q=>⟨e,h Q E q⟩
 | susp=>exact Runs.update e h
theorem AB.alloc {o}{k}(h:AB M Γ p (k s.heap.objs.size) { s with heap:=s.heap.push o } lf p' s'):AB M Γ p (.alloc o k) s lf p' s':=by
 cases lf with
 | fin f=>exact λQ E q=>h Q E q
 | exc x=>exact λQ E q=>h Q E q
 | susp=>exact Runs.alloc h
theorem AB.loadIfAlive {a}{k}(h:AB M Γ p (k (s.heap.get? a)) s lf p' s'):AB M Γ p (.loadIfAlive a k) s lf p' s':=by
 cases lf with
 | fin f=>exact λQ E q=>h Q E q
 | exc x=>exact λQ E q=>h Q E q
 | susp=>exact Runs.loadIfAlive h
theorem AB.fresh {k}(h:AB M Γ p (k s.toks) { s with toks:=s.toks+1 } lf p' s'):AB M Γ p (.fresh k) s lf p' s':=by
 cases lf with
 | fin f=>exact λQ E q=>h Q E q
 | exc x=>exact λQ E q=>h Q E q
 | susp=>exact Runs.fresh h
theorem AB.ask {k}(h:AB M Γ p (k ⟨M.prog,M.w.params⟩) s lf p' s'):AB M Γ p (.ask k) s lf p' s':=by
 cases lf with
 | fin f=>exact λQ E q=>h Q E q
 | exc x=>exact λQ E q=>h Q E q
 | susp=>exact Runs.ask h
theorem AB.handled {own}{k}(h:AB M Γ p (k (if own then Γ.own else Γ.handled)) s lf p' s'):AB M Γ p (.handled own k) s lf p' s':=by
 cases lf with
 | fin f=>exact λQ E q=>h Q E q
 | exc x=>exact λQ E q=>h Q E q
 | susp=>exact Runs.handled h
theorem AB.stack {k}(h:AB M Γ p (k ((Γ.code,p)::Γ.below)) s lf p' s'):AB M Γ p (.stack k) s lf p' s':=by
 cases lf with
 | fin f=>exact λQ E q=>h Q E q
 | exc x=>exact λQ E q=>h Q E q
 | susp=>exact Runs.stack h
theorem AB.thread {k}(h:AB M Γ p (k 0) s lf p' s'):AB M Γ p (.thread k) s lf p' s':=by
 cases lf with
 | fin f=>exact λQ E q=>h Q E q
 | exc x=>exact λQ E q=>h Q E q
 | susp=>exact Runs.thread h
theorem AB.genState {g st}{k}(e:s.gens[g]? = some st)(h:AB M Γ p (k st.seen) s lf p' s'):AB M Γ p (.genState g k) s lf p' s':=by
 cases lf with
 | fin f=>exact λQ E q=>⟨st,e,h Q E q⟩
 | exc x=>exact λQ E q=>⟨st,e,h Q E q⟩
 | susp=>exact Runs.genState e h
theorem AB.newGen {c}{k}(h:AB M Γ p (k s.gens.size) { s with gens:=s.gens.push (.fresh c) } lf p' s'):AB M Γ p (.newGen c k) s lf p' s':=by
 cases lf with
 | fin f=>exact λQ E q=>h Q E q
 | exc x=>exact λQ E q=>h Q E q
 | susp=>exact Runs.newGen h
theorem AB.call {c h g l r c0}{k}(x:Runs M (Γ.enter c h p) p (M.den c) [] s (.ret r) c0)(y:AB M Γ p (k r) c0 lf p' s'):AB M Γ p (.call c h g l k) s lf p' s':=by
 cases lf with
 | fin f=>exact λQ E q=>⟨r,c0,x,y Q E q⟩
 | exc e=>exact λQ E q=>⟨r,c0,x,y Q E q⟩
 | susp=>exact Runs.call x y
theorem AB.resumeF {g l c u0 c0}{k}(e:s.gens[g]? = some (.fresh c))(x:Runs M (Γ.wake c p) p (M.den c) [] (s.setGen g .running) u0 c0)(q:End.quiet u0=true)
  (y:AB M Γ p (k u0.result) (c0.setGen g u0.genState) lf p' s'):AB M Γ p (.resume g (.send .none) l k) s lf p' s':=by
 have W:Wakes M Γ p g (.send .none) s u0.result (c0.setGen g u0.genState):=by
  unfold Wakes;rw [e];exact ⟨u0,c0,x,q,rfl,rfl⟩
 cases lf with
 | fin f=>exact λQ E q=>⟨_,_,W,y Q E q⟩
 | exc e=>exact λQ E q=>⟨_,_,W,y Q E q⟩
 | susp=>exact Runs.resumeFresh e x q y
theorem AB.resumeS {g r l Z5 l7 Y5 g6 cl u0 c0}{k}(e:s.gens[g]? = some (.suspended Z5 l7 Y5 g6 [] cl))(x:Runs M (Γ.wake Y5 p) g6 (Z5 r) [] (s.setGen g .running) u0 c0)(q:End.quiet u0=true)
  (y:AB M Γ p (k u0.result) (c0.setGen g u0.genState) lf p' s'):AB M Γ p (.resume g r l k) s lf p' s':=by
 have W:Wakes M Γ p g r s u0.result (c0.setGen g u0.genState):=by
  unfold Wakes;rw [e];exact ⟨u0,c0,x,q,rfl,rfl⟩
 cases lf with
 | fin f=>exact λQ E q=>⟨_,_,W,y Q E q⟩
 | exc e=>exact λQ E q=>⟨_,_,W,y Q E q⟩
 | susp=>exact Runs.resumeSuspended e x q y
theorem EU {t:Sem PySem.Fin}{c:Code}{p' s' e s''}(h:AB M Γ p t s (.fin (.again c)) p' s')(hq:c.quiet=true)
  (y:Runs M (Γ.goto c) p' (M.den c) [] s' e s''):Runs M Γ p t [] s e s'':=by
 have w:wp M (Γ.over []) t (λa q z=>a = .again c/\q=p'/\z=s') (λU U U=>False) p s:=h _ _ ⟨rfl,rfl,rfl⟩
 obtain ⟨u0,z,a,b⟩:=runs_wrap_of_wp (Γ:=Γ) (fs:=[]) (Φ:=λx z=>x=e/\z=s'') (λa=>.pure a) .raise id id t w
  (λa q z ⟨e1,e2,e3⟩=>by subst e1 e2 e3;exact ⟨e,s'',.again hq y,rfl,rfl⟩) (λU U U h=>h.elim)
 obtain ⟨rfl,rfl⟩:=b
 have:t.wrap (λa=>(.pure a:Sem PySem.Fin)) .raise id id=t:=by
  rw [<- Sem.bind_eq_wrap]
  have:=bind_pure (m:=Sem) t
  exact this
 rwa [this] at a
theorem Fp {V β:Type}{a a':V}{b b':β}{C:Prop}(h:some (a,b)=some (a',b'))(k:a'=a->b'=b->C):C:=k (congrArg Prod.fst (Option.some.inj h)).symm (congrArg Prod.snd (Option.some.inj h)).symm
theorem PD {V β γ:Type}{a a':V}{b b':β}{c c':γ}{C:Prop}(h:some (a,b,c)=some (a',b',c'))(k:a'=a->b'=b->c'=c->C):C:=
 k (congrArg Prod.fst (Option.some.inj h)).symm (congrArg (λx=>x.2.1) (Option.some.inj h)).symm (congrArg (λx=>x.2.2) (Option.some.inj h)).symm
theorem A7 {V β:Type}{o:Option V}{f:V->Option β}{b:β}{C:Prop}(h:o.bind f=some b)(k:∀ a,o=some a->f a=some b->C):C:=by
 cases o with
 | none=>cases h
 | some a=>exact k a rfl h
theorem Cd {β:Type}{c:Bool}{x:Option β}{b:β}{C:Prop}(h:cond c x none=some b)(k:c=true->x=some b->C):C:=by
 cases c with
 | false=>cases h
 | true=>exact k rfl h
theorem PE {β:Type}{c:Bool}{x:Option β}{b:β}{C:Prop}(h:cond c none x=some b)(k:c=false->x=some b->C):C:=by
 cases c with
 | false=>exact k rfl h
 | true=>cases h
theorem retOf_some {e:End}{r:Result}(h:Uk e=some r):e = .ret r:=by
 cases e with
 | ret=>cases h;rfl
 | _=>cases h
theorem agOf_some {l:Lf}{c:Code}(h:VO l=some c):l = .fin (.again c):=by
 cases l with
 | fin f=>cases f with
  | again=>cases h;rfl
  | done=>cases h
 | _=>cases h
theorem bare_is {r:Resume}(h:bare r=true):r = .send .none:=by
 cases r with
 | throw=>cases h
 | send v=>cases v with
  | none=>rfl
  | _=>cases h
def Sw (M:Model)(O:Orc)(ev:Ctx->Pos->Sem PySem.Fin->SX->Option (Lf × Pos × SX)):Prop:=∀ (Γ:Ctx) (p:Pos) (t:Sem PySem.Fin) (S:SX) (lf:Lf) (p':Pos) (S':SX),O.inv S->ev Γ p t S=some (lf,p',S') ->
   AB M Γ p t S.sh.abs lf p' S'.sh.abs/\O.inv S'
def PF (M:Model)(O:Orc)(rec:Ctx->Pos->SX->Option (End × SX)):Prop:=∀ (Γ:Ctx) (p:Pos) (S:SX) (e:End) (S':SX),O.inv S->rec Γ p S=some (e,S')->Runs M Γ p (M.den Γ.code) [] S.sh.abs e S'.sh.abs/\O.inv S'
section
variable {O:Orc}{rec:Ctx->Pos->SX->Option (End × SX)}{ev:Ctx->Pos->Sem PySem.Fin->SX->Option (Lf × Pos × SX)}
theorem PG (hO:O.Ok M)(ih:Sw M O ev){k:GenResult->Sem PySem.Fin}{g:Nat}{e:End}{m5:SX}{lf:Lf}{S':SX}(hi:O.inv m5)(h:aft (λv=>ev Γ p (k v)) g (e,m5)=some (lf,p',S')) :
  e.quiet=true/\AB M Γ p (k e.result) (m5.sh.abs.setGen g e.genState) lf p' S'.sh.abs/\O.inv S':=by
 obtain ⟨⟨T,N,life,gens,drawn,toks,os⟩,gh⟩:=m5
 exact Cd h λq h=>⟨q,ih _ _ _ _ _ _ _ (hO.rest hi) h⟩
theorem Sx (hO:O.Ok M)(hrec:PF M O rec)(ih:Sw M O ev):Sw M O (VP M rec ev):=by
 intro Γ p t S lf p' S' hi h
 obtain ⟨⟨T,N,life,gens,drawn,toks,os⟩,gh⟩:=S
 have nx:∀ {q r x S l},O.inv S->ev q r x S=some (l,p',S')->AB M q r x S.sh.abs l p' S'.sh.abs/\O.inv S':=λi h=>ih _ _ _ _ _ _ _ i h
 cases t with
 | pure f=>exact PD h λe1 e2 e3=>by subst e1 e2 e3;exact ⟨λQ E q=>q,hi⟩
 | raise x=>exact PD h λe1 e2 e3=>by subst e1 e2 e3;exact ⟨λQ E q=>q,hi⟩
 | «yield» v g l k=>exact PD h λe1 e2 e3=>by subst e1 e2 e3;exact ⟨Runs.yield,hi⟩
 | unsupported | finish | register | fork | await | choose | os=>cases h
 | rule tag k=>exact (nx hi h).imp AB.rule id
 | «at» q k=>exact (nx hi h).imp AB.at id
 | point l k=>exact (nx hi h).imp AB.point id
 | ask k=>exact (nx hi h).imp AB.ask id
 | handled own k=>exact (nx hi h).imp AB.handled id
 | stack k=>exact (nx hi h).imp AB.stack id
 | thread k=>exact (nx hi h).imp AB.thread id
 | fresh k=>exact (nx (hO.rest hi) h).imp AB.fresh id
 | newGen c k=>exact (nx (hO.rest hi) h).imp AB.newGen id
 | genState g k=>exact A7 h λst e h=>(nx hi h).imp (AB.genState e) id
 | load a q k=>exact Cd h λe h=>A7 h λo g h=>A7 h λo' al h=>(nx hi h).imp (AB.load ((abs_get (Nat.le_of_ble_eq_true e) g).trans al)) id
 | update a q f k=>
  refine PE h λz h=>Cd h λe h=>A7 h λo g h=>A7 h λo' al h=>?_
  have y:=nx (hO.up hi z) h
  refine y.imp (λy=>AB.update (by show ((absHeap T N life).get? _).isSome;rw [abs_get (Nat.le_of_ble_eq_true e) g,al];rfl) ?_) id
  show AB M Γ p (k ()) ⟨(absHeap T N life).update _ f,gens,drawn,toks,os⟩ _ _ _
  rw [<- absHeap_set g];exact y
 | alloc o k=>
  cases N with
  | zero=>cases h
  | succ N=>
   refine Cd h λe h=>?_
   refine (nx (hO.new hi e) h).imp (λy=>AB.alloc ?_) id
   show AB M Γ p (k (absHeap T (N+1) life).objs.size) ⟨(absHeap T (N+1) life).push o,gens,drawn,toks,os⟩ _ _ _
   rw [<- absHeap_ins e,absHeap_size];exact y
 | loadIfAlive a k=>
  have go:∀ x,(absHeap T N life).get? a=x->ev Γ p (k x) ⟨⟨T,N,life,gens,drawn,toks,os⟩,gh⟩=some (lf,p',S')->AB M Γ p (.loadIfAlive a k) (absHeap T N life |> λhp=>⟨hp,gens,drawn,toks,os⟩) lf p' S'.sh.abs/\O.inv S':=λx e h=>by
   subst e
   exact (nx hi h).imp AB.loadIfAlive id
  cases e:Nat.blt a N with
  | false=>
   have h:cond (Nat.blt a N) _ _=_:=h
   rw [e] at h
   exact go _ (abs_get_none λq=>by rw [show Nat.blt a N=true from Nat.ble_eq_true_of_le q] at e;cases e) h
  | true=>
   have h:cond (Nat.blt a N) _ _=_:=h
   rw [e] at h
   exact A7 h λo g h=>go _ (abs_get (Nat.le_of_ble_eq_true e) g) h
 | call c hd g l k=>
  refine A7 h λr e h=>A7 h λv ev h=>?_
  obtain ⟨en,S⟩:=r
  cases retOf_some ev
  obtain ⟨x,hi'⟩:=hrec _ _ _ _ _ hi e
  exact (nx hi' h).imp (AB.call x) id
 | resume g r l k=>
  refine A7 h λst e h=>?_
  cases st with
  | running=>cases h
  | finished=>cases h
  | fresh c=>
   refine Cd h λeb h1=>A7 h1 λen e1 h2=>?_
   cases bare_is eb
   obtain ⟨x,hi'⟩:=hrec _ _ _ _ _ (hO.rest hi) e1
   obtain ⟨eq,a,b⟩:=PG hO ih hi' h2
   exact ⟨AB.resumeF e x eq a,b⟩
  | suspended Z5 l7 Y5 g6 fs cl=>
   refine Cd h λeb h1=>A7 h1 λy e1 h2=>A7 h2 λc ec h3=>Cd h3 λhq h4=>A7 h4 λen e2 h5=>?_
   cases fs with
   | cons=>cases eb
   | nil=>
    obtain ⟨lf',q',S''⟩:=y
    cases agOf_some ec
    obtain ⟨x1,i1⟩:=ih _ _ _ _ _ _ _ (hO.rest hi) e1
    obtain ⟨x2,i2⟩:=hrec _ _ _ _ _ i1 e2
    obtain ⟨eq,a,b⟩:=PG hO ih i2 h5
    exact ⟨AB.resumeS e (EU x1 hq x2) eq a,b⟩
theorem PH (hO:O.Ok M)(hrec:PF M O rec)(n:Nat):Sw M O (evW M rec n):=by
 induction n with
 | zero=>intro _ _ _ _ _ _ _ _ h;cases h
 | succ n ih=>exact Sx hO hrec ih
end
theorem PJ {t:Sem PySem.Fin}{f:Flow}(h:AB M Γ p t s (.fin (.done f)) p' s'):Runs M Γ p t [] s (.ret (.ok f)) s':=
 DE (h _ _ ⟨rfl,rfl⟩)
theorem PK {t:Sem PySem.Fin}{x:Value}(h:AB M Γ p t s (.exc x) p' s'):Runs M Γ p t [] s (.ret (.error x)) s':=
 DE (h _ _ ⟨rfl,rfl⟩)
theorem PL {m:Sem (Option Value)}{f:Flow}(h:AB M Γ p (m.bind Jb) s (.fin (.done f)) p' s')(Q:Option Value->Pos->Shared->Prop)(E)
  (hQ:∀ o,Jb o = .pure (.done f)->Q o p' s'):wp M Γ m Q E p s:=by
 have w:=h (λa q z=>a = .done f/\q=p'/\z=s') (λU U U=>False) ⟨rfl,rfl,rfl⟩
 rw [Sem.wp_bind] at w
 refine Sem.wp_mono _ _ _ (λo q z hz=>?_) (λU U U h=>h.elim) _ _ w
 cases o with
 | none=>obtain ⟨e1,rfl,rfl⟩:=(show PySem.Fin.done .next = .done f/\q=p'/\z=s' from hz);exact hQ _ (by rw [<- e1];rfl)
 | some v=>obtain ⟨e1,rfl,rfl⟩:=(show PySem.Fin.done (.ret v) = .done f/\q=p'/\z=s' from hz);exact hQ _ (by rw [<- e1];rfl)
theorem strOf_some {v:Value}{x:Str × Tok}(h:Ul v=some x):v = .str x.1 x.2:=by
 cases v with
 | str=>cases h;rfl
 | _=>cases h
theorem UQ {O:Orc}(hO:O.Ok M)(m:Nat)(d:Nat):PF M O (evC M O m d):=by
 induction d with
 | zero=>intro _ _ _ _ _ _ h;cases h
 | succ d ih=>
  intro Γ p S e S' hi h
  have w:=PH hO ih m
  have h:VQ M O (evC M O m d) (evW M (evC M O m d) m) Γ p S (spOf Γ.code)=some (e,S'):=h
  have is:=Sv Γ.code
  generalize evW M (evC M O m d) m=ev at h w
  generalize evC M O m d=rec at h ih
  generalize spOf Γ.code=sp at h is
  cases is with
  | no=>
   refine A7 h λr e1 h=>?_
   obtain ⟨lf,p',m5⟩:=r
   obtain ⟨x,i1⟩:=w _ _ _ _ _ _ _ hi e1
   cases lf with
   | exc x'=>exact Fp h λa1 a2=>by subst a1 a2;exact ⟨PK x,i1⟩
   | susp v g l k=>exact Fp h λa1 a2=>by subst a1 a2;exact ⟨x,i1⟩
   | fin f=>
    cases f with
    | done f=>exact Fp h λa1 a2=>by subst a1 a2;exact ⟨PJ x,i1⟩
    | again c=>exact Cd h λhq h=>(ih _ _ _ _ _ i1 h).imp (EU x hq) id
  | or hc=>
   refine A7 h λr e1 h=>Fp h λa1 a2=>?_
   subst a1 a2
   exact hO.or Γ p hi hc e1
  | sub hc=>
   refine A7 h λr e1 h=>Fp h λa1 a2=>?_
   subst a1 a2
   exact hO.sub Γ p hi hc e1
  | @loop a it hc=>
   have hden:M.den Γ.code=Builtin.«set.update.loop» ⟨[.ref a,it],[]⟩:=by rw [hc];exact hO.loop a it
   refine A7 h λr e1 h=>?_
   obtain ⟨lf,p',m5⟩:=r
   obtain ⟨x,i1⟩:=w _ _ _ _ _ _ _ hi e1
   rw [hden]
   cases lf with
   | exc x'=>cases h
   | susp v g l k=>cases h
   | fin f=>
    cases f with
    | again c=>cases h
    | done f=>
     cases f with
     | brk=>cases h
     | cont=>cases h
     | next=>
      refine Fp h λa1 a2=>?_
      subst a1 a2
      refine ⟨DE ?_,i1⟩
      show wp M Γ ((pyNext it).bind _) _ _ p _
      rw [Sem.wp_bind]
      refine PL x _ _ λo ho=>?_
      cases o with
      | none=>exact ⟨rfl,rfl⟩
      | some v=>cases ho
     | ret v=>
      refine A7 h λy ey h1=>A7 h1 λq2 e2 h2=>Cd h2 λhq h3=>?_
      obtain ⟨y,u⟩:=y
      cases strOf_some ey
      obtain ⟨ha,i2⟩:=hO.add Γ p' i1 e2
      refine (ih _ _ _ _ _ i2 h3).imp (λy'=>EU (c:=Γ.code) (p':=q2.1) (s':=q2.2.sh.abs) ?_ hq y') id
      intro Q E hQ
      show wp M Γ ((pyNext it).bind _) _ _ p _
      rw [Sem.wp_bind]
      refine PL x _ _ λo ho=>?_
      cases o with
      | none=>cases ho
      | some v=>
       cases ho
       show wp M Γ ((holding [.str y u] (setAdd a (.str y u))).bind _) _ _ p' _
       rw [Sem.wp_bind,Sem.wp_holding]
       refine ha _ _ λb=>?_
       rw [hc] at hQ
       exact hQ
def nx (m i:Nat):Nat:=(i*5+1) % m
def orb (m:Nat):Nat->Nat->Nat
 | 0,i=>i
 | n+1,i=>orb m n (nx m i)
theorem Jc (m a:Nat):∀ (b i:Nat),orb m (a+b) i=orb m b (orb m a i):=by
 induction a with
 | zero=>intro b i;rw [Nat.zero_add];rfl
 | succ a ih=>intro b i;rw [show a+1+b=(a+b)+1 by exact Nat.le_antisymm (Mi.la [_,_] [] ([2,3,0,4,0],[2,4,0,3,0]) rfl) (Mi.la [_,_] [] ([2,4,0,3,0],[2,3,0,4,0]) rfl)];show orb m (a+b) (nx m i)=_;rw [ih b];rfl
def DF (m:Nat):Bool:=Nat.beq (orb m m 0) 0&&(range m).all λj=>(range m).any λn=>Nat.beq (orb m n 0) j
theorem Sy {m:Nat}(h:DF m=true)(i j:Nat)(hi:i<m)(hj:j<m):∃ n,n<m/\orb m n i=j:=by
 simp only [DF,and_eq_true,Nat.beq_eq,all_eq_true,any_eq_true,mem_range] at h
 obtain ⟨h0,h⟩:=h
 obtain ⟨a,ha,ea⟩:=h i hi
 obtain ⟨b,hb,eb⟩:=h j hj
 rcases Nat.lt_or_ge b a with q | q
 ·refine ⟨m - a+b,by exact Mi.la [_,_,_,_] [([2,3,0],[4]),([6,4,0],[8])] ([6,2,0,3,0],[8]) rfl q (Mi.lcC (Mi.la [_,_] [([2,3,0],[4])] ([2],[4]) rfl ha)),?_⟩
  rw [<- ea,<- Jc,show a+(m - a+b)=m+b by exact Nat.le_antisymm (Mi.la [_,_,_,_] [([2,4,0],[6])] ([4,2,8,0,0],[6,8,0]) rfl (Mi.lcC (Mi.la [_,_] [([2,3,0],[4])] ([2],[4]) rfl ha))) (Mi.la [_,_,_,_] [([2],[4,6,0])] ([2,8,0],[6,4,8,0,0]) rfl (Mi.lcS _ _)),Jc,h0,eb]
 ·refine ⟨b - a,by exact Mi.la [_,_,_,_] [([2,3,0],[4]),([6,8,0],[2])] ([6,3,0],[4]) rfl hb (Mi.lcC (Mi.la [_,_] [([2],[4])] ([2],[4]) rfl q)),?_⟩
  rw [<- ea,<- Jc,show a+(b - a)=b by exact Nat.le_antisymm (Mi.la [_,_,_] [([2,4,0],[6])] ([4,2,0],[6]) rfl (Mi.lcC (Mi.la [_,_] [([2],[4])] ([2],[4]) rfl q))) (Mi.la [_,_,_] [([2],[4,6,0])] ([2],[6,4,0]) rfl (Mi.lcS _ _)),eb]
theorem Sz:DF 8=true:=by decide +kernel
theorem NY:DF 128=true:=by decide +kernel
theorem Iz (mask i:Nat):i<=SetTable.runEnd mask i:=by unfold SetTable.runEnd;split <;> lia
theorem NZ {mask i:Nat}(h:i<=mask):SetTable.runEnd mask i<=mask:=by unfold SetTable.runEnd;split <;> lia
abbrev fnd (mask:Nat)(owner:Array (Option Nat))(i:Nat):Option Nat:=(range (SetTable.runEnd mask i+1 - i)).find? λk=>(owner.getD (i+k) (some 0)).isNone
theorem FW {mask fuel i p:Nat}{owner:Array (Option Nat)}:SetTable.layClean.free mask owner (fuel+1) i p=(fnd mask owner i).elim (SetTable.layClean.free mask owner fuel ((i*5+1+p / 32) % (mask+1)) (p / 32)) λk=>some (i+k):=by kernel_rfl
theorem N0 {mask:Nat}{owner:Array (Option Nat)}{fuel:Nat}:∀ {i p j:Nat},i<=mask->SetTable.layClean.free mask owner fuel i p=some j->j<=mask/\(owner.getD j (some 0))=none:=by
 induction fuel with
 | zero=>intro i p j _ h;injection h
 | succ fuel ih=>
  intro i p j hi h
  rw [FW] at h
  cases hk:fnd mask owner i with
  | some k=>
   rw [hk] at h
   obtain rfl:=Option.some.inj h
   have h1:=List.find?_some hk
   have h2:=List.mem_of_find?_eq_some hk
   rw [mem_range] at h2
   have:=NZ hi
   have:=Iz mask i
   exact ⟨by lia,by simpa using h1⟩
  | none=>
   rw [hk] at h
   exact ih (by show (i*5+1+p / 32) % (mask+1)<=mask;have:=Nat.mod_lt (i*5+1+p / 32) (show 0<mask+1 by exact Mi.la [_] [] ([1,3,0],[2,3,0]) rfl);exact Mi.la [_,_] [([2,3,0],[4,3,0])] ([2],[4]) rfl this) h
theorem Oa {mask:Nat}{owner:Array (Option Nat)}{fuel:Nat}:∀ {i:Nat} (n:Nat),n<fuel->(owner.getD (orb (mask+1) n i) (some 0))=none->(SetTable.layClean.free mask owner fuel i 0).isSome=true:=by
 induction fuel with
 | zero=>intro i n h _;exact absurd h (Nat.not_lt_zero _)
 | succ fuel ih=>
  intro i n h e
  rw [FW]
  cases hk:fnd mask owner i with
  | some k=>rfl
  | none=>
   cases n with
   | zero=>
    exfalso
    have:=List.find?_eq_none.mp hk 0 (by rw [mem_range];have:=Iz mask i;exact Mi.la [_,_,_] [([2],[4]),([4,3,0],[6,2,0])] ([1,3,0],[6]) rfl this (Mi.lcS _ _))
    apply this
    show (owner.getD (i+0) (some 0)).isNone=true
    rw [Nat.add_zero,show owner.getD i (some 0)=none from e];rfl
   | succ n=>
    show (SetTable.layClean.free mask owner fuel ((i*5+1+0 / 32) % (mask+1)) (0 / 32)).isSome=true
    have z:(0:Nat) / 32=0:=by decide
    rw [z,Nat.add_zero]
    exact ih n (Nat.lt_of_succ_lt_succ h) e
theorem PM {mask:Nat}{owner:Array (Option Nat)}{fuel:Nat}(h:∀ i,i<=mask->(SetTable.layClean.free mask owner fuel i 0).isSome=true) :
  ∀ (c i p:Nat),i<=mask->p<32 ^ c->(SetTable.layClean.free mask owner (c+fuel) i p).isSome=true:=by
 intro c
 induction c with
 | zero=>
  intro i p hi hp
  obtain rfl:p=0:=by simpa using hp
  rw [Nat.zero_add];exact h i hi
 | succ c ih=>
  intro i p hi hp
  rw [show c+1+fuel=(c+fuel)+1 by exact Nat.le_antisymm (Mi.la [_,_] [] ([2,3,0,4,0],[2,4,0,3,0]) rfl) (Mi.la [_,_] [] ([2,4,0,3,0],[2,3,0,4,0]) rfl),FW]
  cases fnd mask owner i with
  | some k=>rfl
  | none=>
   exact ih _ _ (by have:=Nat.mod_lt (i*5+1+p / 32) (show 0<mask+1 by exact Mi.la [_] [] ([1,3,0],[2,3,0]) rfl);exact Mi.la [_,_] [([2,3,0],[4,3,0])] ([2],[4]) rfl this) (by rw [Nat.div_lt_iff_lt_mul (by exact Mi.la [] [] ([1,3,0],[65]) rfl)];rw [Nat.pow_succ] at hp;exact hp)
theorem SA (h:Int):SetTable.bits h<32 ^ 13:=by
 unfold SetTable.bits
 have h1:=Int.emod_nonneg h (show (2 ^ 64:Int)≠0 by decide)
 have h2:=Int.emod_lt_of_pos h (show (0:Int)<2 ^ 64 by decide)
 have:((2:Int) ^ 64)=18446744073709551616:=by decide
 have:(32:Nat) ^ 13=36893488147419103232:=by decide
 lia
theorem J9 {mask:Nat}(ho:DF (mask+1)=true){owner:Array (Option Nat)}(j:Nat)(hj:j<=mask)(e:owner.getD j (some 0)=none)(h:Int) :
  (SetTable.layClean.free mask owner (SetTable.turns mask) (SetTable.bits h % (mask+1)) (SetTable.bits h)).isSome=true:=by
 have q:SetTable.turns mask=13+(mask+2):=by unfold SetTable.turns;exact Nat.le_antisymm (Mi.la [_] [] ([2,31,0],[27,2,5,0,0]) rfl) (Mi.la [_] [] ([27,2,5,0,0],[2,31,0]) rfl)
 rw [q]
 refine PM (λi hi=>?_) 13 _ _ (by have:=Nat.mod_lt (SetTable.bits h) (show 0<mask+1 by exact Mi.la [_] [] ([1,3,0],[2,3,0]) rfl);exact Mi.la [_,_] [([2,3,0],[4,3,0])] ([2],[4]) rfl this) (SA h)
 obtain ⟨n,hn,en⟩:=Sy ho i j (by exact Mi.la [_,_] [([2],[4])] ([2,3,0],[4,3,0]) rfl hi) (by exact Mi.la [_,_] [([2],[4])] ([2,3,0],[4,3,0]) rfl hj)
 exact Oa n (by exact Mi.la [_,_] [([2,3,0],[4,3,0])] ([2,3,0],[4,5,0]) rfl hn) (by rw [en];exact e)
def Ka (mask:Nat)(owner:Array (Option Nat))(n:Nat):Prop:=owner.size=mask+1/\(owner.toList.filterMap id).Perm (range n)
theorem FX (l:List (Option Nat)):∀ (j k:Nat),l[j]? = some none->((l.set j (some k)).filterMap id).Perm (k::l.filterMap id):=by
 induction l with
 | nil=>intro j k h;simp at h
 | cons x l ih=>
  intro j k h
  cases j with
  | zero=>
   obtain rfl:x=none:=by simpa using h
   simp
  | succ j=>
  have ih:=ih j k (by simpa using h)
  rw [List.set_cons_succ]
  cases x with
  | none=>simpa using ih
  | some y=>
   rw [List.filterMap_cons_some (by rfl),List.filterMap_cons_some (by rfl)]
   exact (ih.cons y).trans (Perm.swap ..)
theorem Kd (l:List (Option Nat)):(l.filterMap id).length<l.length->∃ j:Nat,l[j]? = some none:=by
 induction l with
 | nil=>intro h;simp at h
 | cons x l ih=>
  intro h
  cases x with
  | none=>exact ⟨0,rfl⟩
  | some y=>
   obtain ⟨j,hj⟩:=ih (by simpa using h)
   exact ⟨j+1,by simpa using hj⟩
theorem Kf {mask:Nat}(ho:DF (mask+1)=true)(l:List Int):∀ (owner:Array (Option Nat)) (k:Nat),Ka mask owner k->k+l.length<=mask ->
  ∃ owner',(l.foldl (init:=some (owner,k)) λacc h=>do
   let (owner,k) <- acc
   let j <- SetTable.layClean.free mask owner (SetTable.turns mask) (SetTable.bits h % (mask+1)) (SetTable.bits h)
   pure (owner.setIfInBounds j (some k),k+1))=some (owner',k+l.length)/\Ka mask owner' (k+l.length):=by
 induction l with
 | nil=>exact λowner k t U=>⟨owner,rfl,t⟩
 | cons h l ih=>
  intro owner k t hk
  obtain ⟨t1,t2⟩:=t
  have hlen:(owner.toList.filterMap id).length=k:=by rw [t2.length_eq,length_range]
  obtain ⟨j0,hj0⟩:=Kd owner.toList (by rw [hlen,Array.length_toList,t1];simp only [length_cons] at hk;exact Mi.la [_,_,_] [([2,4,3,0,0],[6])] ([2,3,0],[6,3,0]) rfl hk)
  have hj0':j0<=mask:=by
   have:j0<owner.toList.length:=by
    rcases Nat.lt_or_ge j0 owner.toList.length with q | q
    ·exact q
    ·rw [getElem?_eq_none q] at hj0;cases hj0
   rw [Array.length_toList,t1] at this;exact Mi.la [_,_] [([2,3,0],[4,3,0])] ([2],[4]) rfl this
  have gd:∀ j,j<=mask->owner.getD j (some 0)=(owner.toList[j]?).getD (some 0):=λj hj=>by
   rw [Array.getElem?_toList]
   have:j<owner.size:=by exact Mi.la [_,_,_] [([2,3,0],[4]),([6],[2])] ([6,3,0],[4]) rfl (Nat.le_of_eq t1.symm) hj
   simp [Array.getD,this]
  have s:=J9 ho j0 hj0' (by rw [gd j0 hj0',hj0];rfl) h
  obtain ⟨j,hj⟩:=Option.isSome_iff_exists.mp s
  obtain ⟨j1,j2⟩:=N0 (by have:=Nat.mod_lt (SetTable.bits h) (show 0<mask+1 by exact Mi.la [_] [] ([1,3,0],[2,3,0]) rfl);exact Mi.la [_,_] [([2,3,0],[4,3,0])] ([2],[4]) rfl this) hj
  have j3:owner.toList[j]? = some none:=by
   have lt:j<owner.toList.length:=by rw [Array.length_toList,t1];exact Mi.la [_,_] [([2],[4])] ([2,3,0],[4,3,0]) rfl j1
   have:=gd j j1
   rw [j2,getElem?_eq_getElem lt] at this
   rw [getElem?_eq_getElem lt]
   exact congrArg some this.symm
  have T':Ka mask (owner.setIfInBounds j (some k)) (k+1):=by
   refine ⟨by rw [Array.size_setIfInBounds,t1],?_⟩
   rw [Array.toList_setIfInBounds]
   refine (FX _ _ _ j3).trans ?_
   rw [range_succ]
   exact (t2.cons k).trans (List.perm_append_comm (l₁:=[k]))
  obtain ⟨o',e,T⟩:=ih _ (k+1) T' (by simp only [length_cons] at hk;exact Mi.la [_,_,_] [([2,4,3,0,0],[6])] ([2,3,0,4,0],[6]) rfl hk)
  refine ⟨o',?_,?_⟩
  ·rw [foldl_cons]
   show (l.foldl (init:=((SetTable.layClean.free mask owner (SetTable.turns mask) (SetTable.bits h % (mask+1)) (SetTable.bits h)).bind λj=>some (owner.setIfInBounds j (some k),k+1))) _)=_
   rw [hj]
   show (l.foldl (init:=some (owner.setIfInBounds j (some k),k+1)) _)=_
   rw [e]
   simp only [length_cons]
   rw [show k+1+l.length=k+(l.length+1) by exact Nat.le_antisymm (Mi.la [_,_] [] ([2,3,0,4,0],[2,4,3,0,0]) rfl) (Mi.la [_,_] [] ([2,4,3,0,0],[2,3,0,4,0]) rfl)]
  ·simp only [length_cons]
   rw [show k+(l.length+1)=k+1+l.length by exact Nat.le_antisymm (Mi.la [_,_] [] ([2,4,3,0,0],[2,3,0,4,0]) rfl) (Mi.la [_,_] [] ([2,3,0,4,0],[2,4,3,0,0]) rfl)]
   exact T
theorem Kg {mask:Nat}(ho:DF (mask+1)=true)(hs:Array Int)(h:hs.size<=mask):∃ owner,SetTable.layClean mask hs=some owner/\Ka mask owner hs.size:=by
 have T0:Ka mask (Array.replicate (mask+1) none) 0:=by
  refine ⟨by simp,?_⟩
  rw [Array.toList_replicate]
  have:(replicate (mask+1) (none:Option Nat)).filterMap id=[]:=by
   rw [List.filterMap_eq_nil_iff]
   intro a ha
   obtain ⟨_,rfl⟩:=List.mem_replicate.mp ha
   rfl
  rw [this];exact Perm.refl _
 obtain ⟨o,e,T⟩:=Kf ho hs.toList _ 0 T0 (by rw [Array.length_toList];exact Mi.la [_,_] [([2],[4])] ([1,2,0],[4]) rfl h)
 rw [Nat.zero_add,Array.length_toList] at T
 refine ⟨o,?_,T⟩
 unfold SetTable.layClean
 rw [<- Array.foldl_toList]
 have e':=congrArg (Option.map (·.1)) e
 exact e'
theorem Ob (l:List (Option Nat))(n:Nat):n<=l.length->((range n).filterMap λj=>((l[j]?).getD none).map λy=>(j,y)).map (·.2)=(l.take n).filterMap id:=by
 induction n with
 | zero=>intro _;simp
 | succ n ih=>
  intro h
  have ih:=ih (by exact Mi.la [_,_] [([2,3,0],[4])] ([2],[4]) rfl h)
  have lt:n<l.length:=by exact Mi.la [_,_] [([2,3,0],[4])] ([2,3,0],[4]) rfl h
  rw [range_succ,List.filterMap_append,map_append,ih,take_add_one,List.filterMap_append]
  congr 1
  have e0:l[n]? = some l[n]:=getElem?_eq_getElem lt
  rw [e0]
  rw [filterMap_cons,e0]
  cases hx:l[n] <;> simp
theorem Jd {V β:Type}{f g:V->Option β}{l:List V}:(∀ a∈l,f a=g a)->l.filterMap f=l.filterMap g:=by
 induction l with
 | nil=>exact λU=>rfl
 | cons a l ih=>
  intro h
  rw [filterMap_cons,filterMap_cons,h a mem_cons_self,ih λx hx=>h x (mem_cons_of_mem _ hx)]
theorem Oc (l:List (Option Nat))(n:Nat)(h:l.length=n):((range n).filterMap λj=>((l[j]?).getD none).map λy=>(j,y)).map (·.2)=l.filterMap id:=by
 subst h
 rw [Ob l _ (Nat.le_refl _),take_length]
theorem SD {mask:Nat}(ho:DF (mask+1)=true)(hs:Array Int)(h:hs.size<=mask)(finger moves:Nat)(led plain:Bool) :
  ∃ t order,SetTable.laid mask finger moves led plain hs=some (t,order)/\order.toList.Perm (range hs.size)/\t.place.size=hs.size/\t.dummies = #[]/\t.mask=mask:=by
 obtain ⟨o,e,t1,t2⟩:=Kg ho hs h
 refine ⟨_,_,by unfold SetTable.laid;rw [e];rfl,?_⟩
 have lp:=Oc o.toList (mask+1) (by rw [Array.length_toList,t1])
 have gd:((range (mask+1)).filterMap λj=>(o.getD j none).map λy=>(j,y))=(range (mask+1)).filterMap λj=>((o.toList[j]?).getD none).map λy=>(j,y):=by
  refine Jd λj hj=>?_
  rw [mem_range] at hj
  have:j<o.size:=by exact Mi.la [_,_,_] [([2,3,0],[4]),([6,3,0],[2,3,0])] ([6,3,0],[4]) rfl (Nat.le_of_eq t1.symm) hj
  rw [Array.getElem?_toList]
  simp [Array.getD,this]
 refine ⟨?_,?_,rfl,rfl⟩
 ·rw [List.toList_toArray,gd,lp];exact t2
 ·rw [size_toArray,length_map,gd,<- length_map (f:=λx:Nat × Nat=>x.2),lp,t2.length_eq,length_range]
def Ao (es:Array (Int × Value))(ep:Nat)(t:SetTable):Obj:={ cls:=.type "frozenset",data:=.set es ep t }
def hset (h:Heap)(a:Addr)(o:Obj):Heap:=h.update a (λU=>o)
theorem Gq {h:Heap}{a:Addr}{o:Obj}(e:h.get? a=some o):h.objs[a]? = some o:=(get?_some_iff.mp e).1
theorem Je {V:Type}{xs:Array V}{i:Nat}{f g:V->V}{x:V}(e:xs[i]? = some x)(h:f x=g x):xs.modify i f=xs.modify i g:=by
 apply Array.ext_getElem?
 intro j
 rw [Array.getElem?_modify,Array.getElem?_modify]
 by_cases q:i=j
 ·subst q;simp [e,h]
 ·simp [q]
theorem Er {h:Heap}{a:Addr}{o:Obj}{f g:Obj->Obj}(e:h.get? a=some o)(q:f o=g o):h.update a f=h.update a g:=by
 obtain ⟨objs,l⟩:=h
 show Heap.mk _ _=Heap.mk _ _
 rw [Je (Gq e) q]
theorem Kh {h:Heap}{a:Addr}{o:Obj}{es ep t}(e:h.get? a=some o):(hset h a (Ao es ep t)).get? a=some (Ao es ep t):=by
 refine get?_some_iff.mpr ⟨?_,rfl⟩
 show (h.objs.modify a λU=>Ao es ep t)[a]? = _
 rw [Array.getElem?_modify,if_pos rfl,Gq e];rfl
theorem SE {h:Heap}{a b:Addr}{o:Obj}(q:b≠a):(hset h a o).get? b=h.get? b:=Heap.get?_update_ne h b a _ q
theorem FY {h:Heap}{a:Addr}{o o':Obj}:hset (hset h a o) a o'=hset h a o':=by
 obtain ⟨objs,l⟩:=h
 show Heap.mk _ _=Heap.mk _ _
 congr 1
 apply Array.ext_getElem?
 intro j
 rw [Array.getElem?_modify,Array.getElem?_modify,Array.getElem?_modify]
 by_cases q:a=j
 ·simp only [q,if_true,Option.map_map];cases objs[j]? <;> rfl
 ·simp [q]
theorem Ce {h:Heap}{a:Addr}{es ep t es' t'}(e:h.get? a=some (Ao es ep t)):h.update a (Obj.putSet es' t')=hset h a (Ao es' (ep+1) t'):=
 Er e (putSet_of es' t' rfl)
def FZ (e:Int × Value):Str:=match e.2 with
 | .str x _=>x
 | _=>default
structure SetIs (w:World)(l:List Str)(es:Array (Int × Value))(t:SetTable):Prop where
 el:∀ e∈es.toList,∃ x u,e=(hashStr w x,.str x u)
 perm:(es.toList.map FZ).Perm l
 nd:l.Nodup
 fit:t.fits es.size=true
 lt:l.length<1000
section
variable {prog:Program}{w:World}{A:Around}{E:Value->Shared->Prop}{s:Shared}{l l':List Str}{es es':Array (Int × Value)}{t t':SetTable}{ep ep':Nat}{a b:Addr}{x:Str}{u:Tok}
theorem SetIs.elems (S:SetIs w l es t):ElemsOf (strKind prog w) es.toList:=λe he=>by
 obtain ⟨x,u,rfl⟩:=S.el e he
 exact ⟨⟨x,strKind_is prog w x u,rfl⟩,rfl⟩
theorem SetIs.size (S:SetIs w l es t):es.size=l.length:=by
 have:=S.perm.length_eq
 rwa [length_map,Array.length_toList] at this
theorem LE {e:Int × Value}(h:∃ x u,e=(hashStr w x,Value.str x u))(k:Str):(strKind prog w).is k e.2=true↔k=FZ e:=by
 obtain ⟨x,u,rfl⟩:=h
 show (strKind prog w).is k (.str x u)=true↔k=x
 exact ⟨λq=>(strKind prog w).inj _ _ _ q (strKind_is prog w x u),λq=>by subst q;exact strKind_is prog w _ u⟩
theorem SetIs.mem (S:SetIs w l es t)(k:Str):k∈l↔∃ e∈es.toList,(strKind prog w).is k e.2=true:=by
 rw [<- S.perm.mem_iff,mem_map]
 exact ⟨λ⟨e,he,q⟩=>⟨e,he,(LE (S.el e he) k).mpr q.symm⟩,λ⟨e,he,q⟩=>⟨e,he,((LE (S.el e he) k).mp q).symm⟩⟩
theorem SetIs.bound (S:SetIs w l es t):es.size<scanBound:=by
 have h1:scanBound=4096:=rfl
 have:=S.lt
 rw [S.size];lia
theorem SetIs.reperm (S:SetIs w l es t)(p:es'.toList.Perm es.toList)(f:t'.fits es'.size=true):SetIs w l es' t':=
 ⟨λe he=>S.el e (p.mem_iff.mp he),(p.map FZ).trans S.perm,S.nd,f,S.lt⟩
theorem SetIs.froz (S:SetIs w l es t){h:Heap}(e:h.get? a=some (Ao es ep t)):FrozAt (strKind prog w) h a (λk=>decide (k∈l)) l.length:=
 ⟨es,ep,t,e,S.elems,λk=>by rw [decide_eq_true_eq];exact S.mem k,S.size,S.fit⟩
theorem Od (S:SetIs w l es t)(hx:x∉l):es.toList.findIdx? (λe=>(strKind prog w).is x e.2)=none:=by
 rw [List.findIdx?_eq_none_iff]
 intro e he
 cases q:(strKind prog w).is x e.2 with
 | false=>rfl
 | true=>exact absurd ((S.mem (prog:=prog) x).mpr ⟨e,he,q⟩) hx
theorem VR (S:SetIs w l es t)(hx:x∉l)(hl:l.length+1<1000)(e:s.heap.get? a=some (Ao es ep t)){Q:Bool->Shared->Prop}
  (h:∀ es' ep' t',SetIs w (x::l) es' t'->Q true { s with heap:=hset s.heap a (Ao es' ep' t') }):wpAny (model prog w) A (setAddHashed a (.str x u) (hashStr w x)) Q E s:=by
 unfold setAddHashed setAddHashedIn
 refine wpAny_holding (wbK (wpAny_setState_of e rfl S.fit ?_))
 dsimp only
 refine KbI ?_
 rw [byScan_of rfl S.bound (S.elems (prog:=prog))]
 first | rw [if_pos rfl] | simp only [↓reduceIte]
 unfold setAddByScan
 refine wbK (wbK (wpAny_rule ?_))
 refine wbK (wpAny_setScan_of (knd:=strKind prog w) (k:=x) (strKind_is prog w x u) e rfl S.fit S.elems ?_)
 rw [Od S hx]
 dsimp only
 have hgw:∀ (b:Bool) {c0:Shared} {Q':Unit->Shared->Prop},Q' () c0->wpAny (model prog w) A (match b with | true=>rule "set.scan.the-table-gave-way" | false=>pure ()) Q' E c0:=
  λb c0 Q' hq=>by cases b <;> first | exact wpAny_pure hq | exact wpAny_rule hq
 have hperm:=layNew_perm t es (hashStr w x) (.str x u)
 have hfits:=layNew_fits t es (hashStr w x) (.str x u)
 have key:∀ es1 t1,Perm es1.toList (es.push (hashStr w x,.str x u)).toList->t1.fits es1.size=true->SetIs w (x::l) es1 t1:=by
  intro es1 t1 p f
  rw [Array.toList_push] at p
  refine ⟨λe he=>?_,?_,nodup_cons.mpr ⟨hx,S.nd⟩,f,by simpa using hl⟩
  ·rcases mem_append.mp (p.mem_iff.mp he) with q | q
   ·exact S.el e q
   ·rw [mem_singleton] at q;exact ⟨x,u,q⟩
  ·refine (p.map FZ).trans ?_
   rw [map_append]
   exact List.perm_append_comm.trans (S.perm.cons x)
 show wpAny (model prog w) A (match layNew t es (hashStr w x) (.str x u) with | (es,t,wasDummy,gave)=>_) _ _ _
 generalize layNew t es (hashStr w x) (.str x u)=L at hperm hfits ⊢
 obtain ⟨es1,t1,wasDummy,gave⟩:=L
 dsimp only at hperm hfits ⊢
 refine wbK (hgw _ ?_)
 have tail:∀ t2:SetTable,t2.fits es1.size=true->wpAny (model prog w) A (do
    storeSet a es1 t2
    if (!wasDummy&&t2.tooFull)=true then do
      (match (relayAll t2 es1 (SetTable.grown es1.size)).2.2 with | true=>rule "set.scan.the-table-gave-way" | false=>pure ())
      storeSet a (relayAll t2 es1 (SetTable.grown es1.size)).1 (relayAll t2 es1 (SetTable.grown es1.size)).2.1
      pure (some true)
     else pure (some true)) (λr s'=>wpAny (model prog w) A (match r with | some added=>pure added | none=>setAddHashedIn a (.str x u) (hashStr w x) 99999) Q E s') E s:=by
  intro t2 f2
  have S1:=key es1 t2 hperm f2
  refine wbK (wpAny_storeSet_of e rfl ?_ (fits_of_scanBound S1.bound))
  rw [Ce e]
  have e1:(hset s.heap a (Ao es1 (ep+1) t2)).get? a=some (Ao es1 (ep+1) t2):=Kh e
  split
  ·have hp:=relayAll_perm t2 es1 (SetTable.grown es1.size)
   have hf:=relayAll_fits t2 es1 (SetTable.grown es1.size)
   refine wbK (hgw _ ?_)
   have S2:=S1.reperm hp hf
   refine wbK (wpAny_storeSet_of (s:={ s with heap:=hset s.heap a (Ao es1 (ep+1) t2) }) e1 rfl ?_ (fits_of_scanBound S2.bound))
   rw [Ce (h:=hset s.heap a (Ao es1 (ep+1) t2)) e1]
   refine wpAny_pure (wpAny_pure ?_)
   show Q true { s with heap:=hset (hset s.heap a _) a _ }
   rw [FY]
   exact h _ _ _ S2
  ·exact wpAny_pure (wpAny_pure (h _ _ _ S1))
 split
 ·refine wbK ?_
  rw [hashByValue_scannable 8 (x:=.str x u) rfl]
  refine wpAny_pure ?_
  refine tail _ ?_
  split
  ·exact hfits
  ·exact SetTable.fits_plain_off hfits
 ·refine wbK (wpAny_pure ?_)
  refine KbI ?_
  first | rw [if_pos rfl] | simp only [↓reduceIte]
  exact tail _ hfits
end
section
variable {prog:Program}{w:World}{A:Around}{E:Value->Shared->Prop}{s:Shared}{l l':List Str}{es es':Array (Int × Value)}{t t':SetTable}{ep ep':Nat}{a b r o:Addr}{x:Str}{u:Tok}{led:Bool}
theorem PO (S:SetIs w l es t)(hx:x∉l)(hl:l.length+1<1000)(e:s.heap.get? a=some (Ao es ep t)){Q:Bool->Shared->Prop}
  (h:∀ es' ep' t',SetIs w (x::l) es' t'->Q true { s with heap:=hset s.heap a (Ao es' ep' t'),toks:=s.toks+1 }):wpAny (model prog w) A (setAdd a (.str x u)) Q E s:=by
 unfold setAdd
 refine wpAny_holding (wbK (wpAny_pyHash_str ?_))
 exact VR (s:={ s with toks:=s.toks+1 }) S hx hl e h
def B1 (n:Nat):Nat:=if n*5≥21 then 127 else 7
def okN (n:Nat):Bool:=decide (n≠0)&&decide (n<=B1 n)&&(decide (n*5<21)||decide (SetTable.sizeAbove (n*2)=128))
theorem LF (n:Nat):DF (B1 n+1)=true:=by
 unfold B1
 split
 ·exact NY
 ·exact Sz
theorem G5:(SetTable.fresh 0 0 led).fits 0=true:=by cases led <;> decide
theorem Jf {es:Array (Int × Value)}{order:Array Nat}(p:order.toList.Perm (range es.size)):(order.filterMap (es[·]?)).toList.Perm es.toList:=by
 rw [Array.toList_filterMap]
 refine (p.filterMap _).trans ?_
 rw [filterMap_getElem?_range]
theorem M6 {t:SetTable}{n:Nat}(h1:t.place.size=n)(h2:t.dummies = #[])(h3:n<=t.mask):t.fits n=true:=by
 unfold SetTable.fits SetTable.fill
 rw [h1,h2]
 simp
 exact h3
theorem Fq {es:Array (Int × Value)}{t':SetTable}{order:Array Nat}{lo:Option (SetTable × Array Nat)}(e:lo=some (t',order))(p:order.toList.Perm (range es.size)){Q:Array (Int × Value) × SetTable->Shared->Prop}
  (h:∀ es',es'.toList.Perm es.toList->Q (es',t') s):wpAny (model prog w) A (do
   let some (t,order):=lo | unsupported "internal:set-table-without-room"
   let es':=order.filterMap (es[·]?)
   if es'.size != es.size then unsupported "internal:set-table-lost-an-element"
   pure (es',t)) Q E s:=by
 subst e
 have rp:=Jf p
 have sz:(order.filterMap (es[·]?)).size=es.size:=by rw [<- Array.length_toList,rp.length_eq,Array.length_toList]
 dsimp only
 rw [sz]
 first | rw [if_neg (by rw [bne_self_eq_false];decide)] | simp only [bne_self_eq_false,false_eq_true,↓reduceIte]
 exact wpAny_pure (h _ rp)
theorem Jg {led:Bool}{wanted:Nat}:∃ order,(SetTable.fresh 0 0 led).relaid ((#[]:Array (Int × Value)).map (·.1)) wanted=some ({ mask:=SetTable.sizeAbove wanted - 1,place:=#[],dummies:=#[],finger:=0,led:=led,moves:=(SetTable.fresh 0 0 led).movedTo (SetTable.sizeAbove wanted - 1),plain:=true },order)/\order = #[]:=by
 unfold SetTable.relaid SetTable.laid
 have e:SetTable.layClean (SetTable.sizeAbove wanted - 1) ((#[]:Array (Int × Value)).map (·.1))=some (Array.replicate (SetTable.sizeAbove wanted - 1+1) none):=by simp [SetTable.layClean]
 rw [e]
 have z:((range (SetTable.sizeAbove wanted - 1+1)).filterMap λj=>((Array.replicate (SetTable.sizeAbove wanted - 1+1) (none:Option Nat)).getD j none).map λy=>(j,y))=[]:=by
  rw [List.filterMap_eq_nil_iff]
  intro j hj
  rw [mem_range] at hj
  simp [Array.getD,hj]
 refine ⟨#[],?_,rfl⟩
 show some (({ mask:=_,place:=(map _ _).toArray,dummies:=#[],finger:=_,led:=_,moves:=_,plain:=_ }:SetTable),(map _ _).toArray)=_
 rw [z]
 rfl
set_option tactic.hygienic true in
theorem LG (S:SetIs w l es t)(hr:s.heap.get? r=some (Ao #[] 0 (.fresh 0 0 led)))(ho:s.heap.get? o=some (Ao es ep t))(ne:r≠o)(hc:okN l.length=true){Q:Unit->Shared->Prop}
  (h:∀ es' ep' t',SetIs w l es' t'->t'.dummies = #[]->t'.mask=B1 l.length->Q () { s with heap:=hset s.heap r (Ao es' ep' t') }):wpAny (model prog w) A (setMerge r o) Q E s:=by
 simp only [okN,and_eq_true,or_eq_true,decide_eq_true_eq] at hc
 obtain ⟨⟨c1,c2⟩,c3⟩:=hc
 have hs:=S.size
 unfold setMerge
 have hb:(r==o)=false:=beq_eq_false_iff_ne.mpr ne
 rw [hb]
 first | rw [if_neg (by decide)] | simp only [Bool.not_true,false_eq_true,↓reduceIte]
 refine wbK (wpAny_setState_of ho rfl S.fit ?_)
 dsimp only
 have he:es.isEmpty=false:=by rw [Array.isEmpty_eq_false_iff];intro q;subst q;simp at hs;exact (Nat.not_succ_le_zero _ (Mi.la [_] [([3],[2]),([2],[1])] ([3],[1]) rfl (Nat.pos_of_ne_zero c1) (Nat.le_of_eq hs.symm)))
 refine KbI ?_
 rw [he]
 first | rw [if_neg (by decide)] | simp only [Bool.not_true,false_eq_true,↓reduceIte]
 -- room
 have room:∀ {Q':Unit->Shared->Prop},(∀ ep' t1,t1.dummies = #[]->t1.place = #[]->t1.mask=B1 l.length->Q' () { s with heap:=hset s.heap r (Ao #[] ep' t1) })->wpAny (model prog w) A (setRoomFor r es.size) Q' E s:=by
  intro Q' hQ
  unfold setRoomFor
  refine wbK (wpAny_setState_of hr rfl G5 ?_)
  refine KbI ?_
  dsimp only
  have rf:(SetTable.fresh 0 0 led).roomFor es.size=if (0+es.size)*5≥7*3 then some ((0+es.size)*2) else none:=rfl
  rw [rf,Nat.zero_add,hs]
  by_cases q:l.length*5≥7*3
  ·rw [if_pos q]
   dsimp only
   have c3':SetTable.sizeAbove (l.length*2)=128:=by rcases c3 with z | z;lia;exact z
   unfold setRelay
   refine wbK (wpAny_setState_of hr rfl G5 ?_)
   dsimp only
   refine KbI ?_
   rw [c3',if_neg (by rw [sizeLine_eq];lia)]
   obtain ⟨order,e1,e2⟩:=Jg (led:=led) (wanted:=l.length*2)
   rw [c3'] at e1
   refine wbK (Fq e1 (by subst e2;exact Perm.refl _) λes' p=>?_)
   obtain rfl:es' = #[]:=by
    have:es'.toList=[]:=Perm.eq_nil p
    exact Array.toList_eq_nil_iff.mp this
   refine wpAny_storeSet_of hr rfl ?_ (by simp)
   rw [Ce hr]
   refine hQ _ _ rfl rfl ?_
   show 128 - 1=B1 l.length
   unfold B1;rw [if_pos (by lia)]
  ·rw [if_neg q]
   dsimp only
   refine wpAny_pure ?_
   have e0:s.heap=hset s.heap r (Ao #[] 0 (.fresh 0 0 led)):=by
    have:=Er hr (f:=id) (g:=λU=>Ao #[] 0 (.fresh 0 0 led)) rfl
    show s.heap=s.heap.update r _
    rw [<- this]
    obtain ⟨⟨objs,lf⟩,g,d,tk,os⟩:=s
    show Heap.mk _ _=Heap.mk _ _
    congr 1
    apply Array.ext_getElem?
    intro j
    rw [Array.getElem?_modify]
    by_cases z:r=j
    ·simp [z]
    ·simp [z]
   have:=hQ 0 (.fresh 0 0 led) rfl rfl (by unfold B1;rw [if_neg (by lia)];rfl)
   rw [<- e0] at this
   exact this
 refine wbK (room λep1 t1 d1 p1 m1=>?_)
 have hr1:(hset s.heap r (Ao #[] ep1 t1)).get? r=some (Ao #[] ep1 t1):=Kh hr
 refine wbK (wpAny_setState_of (s:={ s with heap:=hset s.heap r (Ao #[] ep1 t1) }) hr1 rfl (M6 (by rw [p1];rfl) d1 (Nat.zero_le _)) ?_)
 dsimp only
 have f0:t1.fill=0:=by unfold SetTable.fill;rw [p1,d1];rfl
 refine KbI ?_
 dsimp only
 cases hroad:t1.road t with
 | oneByOne=>
  exfalso
  unfold SetTable.road at hroad
  rw [f0] at hroad
  simp only [bne_self_eq_false,false_eq_true,↓reduceIte] at hroad
  split at hroad <;> cases hroad
 | slotForSlot=>
  dsimp only
  have q:t1.mask=t.mask/\t.dummies = #[]:=by
   unfold SetTable.road at hroad
   rw [f0] at hroad
   simp only [bne_self_eq_false,false_eq_true,↓reduceIte] at hroad
   split at hroad
   ·rename_i z
    simp only [and_eq_true,beq_iff_eq,Array.isEmpty_iff] at z
    exact z
   ·cases hroad
  refine wpAny_storeSet_of (s:={ s with heap:=hset s.heap r (Ao #[] ep1 t1) }) hr1 rfl ?_ (fits_of_scanBound S.bound)
  rw [Ce (h:=hset s.heap r (Ao #[] ep1 t1)) hr1]
  show Q () { s with heap:=hset (hset s.heap r _) r _ }
  rw [FY]
  refine h _ _ _ (S.reperm (Perm.refl _) ?_) q.2 (by rw [<- q.1] at *;exact q.1▸m1)
  exact S.fit
 | clean=>
  dsimp only
  have hsz:(es.map (·.1)).size<=t1.mask:=by rw [Array.size_map,hs,m1];exact c2
  obtain ⟨t2,order,e1,e2,e3,e4,e5⟩:=SD (mask:=t1.mask) (by rw [m1];exact LF _) (es.map (·.1)) hsz t1.finger t1.moves (t1.led&&t.led) (t1.plain&&t.plain)
  rw [Array.size_map] at e2 e3
  refine wbK (Fq e1 e2 λes' p=>?_)
  have sz:es'.size=es.size:=by rw [<- Array.length_toList,p.length_eq,Array.length_toList]
  have S2:SetIs w l es' t2:=S.reperm p (M6 (by rw [e3,sz]) e4 (by rw [sz,hs,e5,m1];exact c2))
  refine KbI ?_
  dsimp only
  refine wpAny_storeSet_of (s:={ s with heap:=hset s.heap r (Ao #[] ep1 t1) }) hr1 rfl ?_ (fits_of_scanBound S2.bound)
  rw [Ce (h:=hset s.heap r (Ao #[] ep1 t1)) hr1]
  show Q () { s with heap:=hset (hset s.heap r _) r _ }
  rw [FY]
  exact h _ _ _ S2 e4 (e5.trans m1)
end
end Mh
end
section
open PySem PySem.W PySem.Calls PyProof.Rows
open PySem.Sem (wp)
open PySem.Builtin.Frozenset
set_option maxRecDepth 10000
namespace Mh
theorem VS (a b:Addr):Builtin.«frozenset.__or__» ⟨[.ref a,.ref b],[]⟩=(do
  if !(<- (isAnySet (.ref a) <&&> isAnySet (.ref b))) then do rule s!"frozenset.{"__or__"}.declined";return <- ret .notImplemented
  ret (<- (do
   let result <- copyOf (<- addrOf (.ref a))
   if (Value.ref b) != .ref (<- addrOf (.ref a)) then holding [result] (updateFrom s!"frozenset.{"__or__"}" (<- addrOf result) (.ref b))
   return result))):=rfl
theorem UR (a b:Addr):Builtin.«frozenset.__sub__» ⟨[.ref a,.ref b],[]⟩=(do
  if !(<- (isAnySet (.ref a) <&&> isAnySet (.ref b))) then do rule s!"frozenset.{"__sub__"}.declined";return <- ret .notImplemented
  ret (<- difference s!"frozenset.{"__sub__"}" (<- addrOf (.ref a)) (.ref b))):=rfl
theorem LH (a:Addr):setWalk a=(do
 let (es,epoch,t) <- setState a
 if <- setsByText then return pickOrder ((<- ask).params.setOrder a epoch) es
 if (!t.plain&&decide (es.size>1))=true then return (<- drawOrder es.size es.toList).toArray
 (if (!t.led&&decide (es.size>1))=true then unsupported "set:maker-not-led" else pure ())
 return es):=rfl
theorem G6:isSubtype (.type "frozenset") (.type "set")=pure false:=by rw [isSubtype_type];kernel_rfl
theorem Oe:isSubtype (.type "frozenset") (.type "frozenset")=pure true:=by rw [isSubtype_type];kernel_rfl
theorem Of {V:Type}{next:Nat->Nat}{fuel k:Nat}{left:List V}{out:Array V}:pickOrder.go next (fuel+1) k left out=(left[next k % left.length]?).elim out λx=>pickOrder.go next fuel (k+1) (left.eraseIdx (next k % left.length)) (out.push x):=by kernel_rfl
theorem SF {V:Type}(next:Nat->Nat)(fuel:Nat):∀ (k:Nat) (left:List V) (out:Array V),left.length<=fuel->(pickOrder.go next fuel k left out).toList.Perm (out.toList++left):=by
 induction fuel with
 | zero=>
  intro k left out h
  obtain rfl:left=[]:=length_eq_zero_iff.mp (by exact Nat.le_antisymm (Mi.la [_] [([2],[1])] ([2],[1]) rfl h) (Mi.la [_] [] ([1],[2]) rfl))
  rw [append_nil];exact Perm.refl _
 | succ fuel ih=>
  intro k left out h
  rw [Of]
  cases e:left[next k % left.length]? with
  | none=>
   have:left=[]:=by
    cases left with
    | nil=>rfl
    | cons y ys=>
     have lt:=Nat.mod_lt (next k) (show 0<(y::ys).length by simp)
     rw [getElem?_eq_getElem lt] at e;cases e
   subst this
   rw [append_nil]
   exact Perm.refl _
  | some x=>
   have lt:next k % left.length<left.length:=by
    rcases Nat.lt_or_ge (next k % left.length) left.length with q | q
    ·exact q
    ·rw [getElem?_eq_none q] at e;cases e
   have ex:left[next k % left.length]=x:=by rw [getElem?_eq_getElem lt] at e;exact Option.some.inj e
   have ih:=ih (k+1) (left.eraseIdx (next k % left.length)) (out.push x) (by rw [List.length_eraseIdx_of_lt lt];exact Mi.la [_,_,_] [([2],[4,3,0]),([6,3,0],[2])] ([6],[4]) rfl h (Mi.lcC (Mi.la [_,_] [([2,3,0],[4])] ([3],[4]) rfl lt)))
   refine ih.trans ?_
   rw [Array.toList_push,append_assoc]
   refine Perm.append_left _ ?_
   have q:∀ (l:List V) (i:Nat) (hi:i<l.length),(l[i]::l.eraseIdx i).Perm l:=by
    intro l
    induction l with
    | nil=>intro i hi;simp at hi
    | cons y ys ih=>
     intro i hi
     cases i with
     | zero=>exact Perm.refl _
     | succ i=>exact (Perm.swap ..).trans ((ih i (by simpa using hi)).cons y)
   have:=q left _ lt
   rw [ex] at this
   exact this
theorem Og {V:Type}(next:Nat->Nat)(xs:Array V):(pickOrder next xs).toList.Perm xs.toList:=by
 have:=SF next xs.size 0 xs.toList #[] (by rw [Array.length_toList];exact Nat.le_refl _)
 rw [nil_append] at this
 exact this
section
variable {prog:Program}{w:World}{A:Around}{E:Value->Shared->Prop}{s:Shared}{l l':List Str}{es es':Array (Int × Value)}{t t':SetTable}{ep ep':Nat}{a b r o:Addr}{x:Str}{u:Tok}{led:Bool}
theorem typ (e:s.heap.get? a=some (Ao es ep t)):s.TypeIs (.ref a) "frozenset":=⟨_,e,rfl⟩
theorem Ki (e:s.heap.get? a=some (Ao es ep t)){Q:Bool->Shared->Prop}(h:Q true s):wpAny (model prog w) A (isAnySet (.ref a)) Q E s:=by
 unfold isAnySet
 refine wbK (wpAny_isInstance (typ e) G6 ?_)
 exact wpAny_isInstance (typ e) Oe h
theorem PP (ea:s.heap.get? a=some (Ao es ep t))(eb:s.heap.get? b=some (Ao es' ep' t')){Q:Bool->Shared->Prop}(h:Q true s):wpAny (model prog w) A (isAnySet (.ref a) <&&> isAnySet (.ref b)) Q E s:=by
 refine wbK (Ki ea ?_)
 exact Ki eb h
theorem US {Q:Bool->Shared->Prop}(h:∀ c,Q c s):wpAny (model prog w) A setsByText Q E s:=by
 unfold setsByText
 exact wbK (wpAny_askSetting (wpAny_pure (h _)))
theorem PQ (S:SetIs w l es t)(e:s.heap.get? a=some (Ao es ep t))(c:Bool)(hc:(c||(t.led&&t.plain)||decide (es.size<=1))=true){Q:Array (Int × Value)->Shared->Prop}(h:∀ es',es'.toList.Perm es.toList->Q es' s)(hb:c=w.params.followText "set-order") :
  wpAny (model prog w) A (setWalk a) Q E s:=by
 rw [LH]
 refine wbK (wpAny_setState_of e rfl S.fit ?_)
 dsimp only
 refine wbK ?_
 unfold setsByText
 refine wbK (wpAny_askSetting (wpAny_pure ?_))
 show wpAny (model prog w) A (if (w.params.followText "set-order")=true then _ else _) _ _ _
 rw [<- hb]
 cases c with
 | true=>exact wbK (wpAny_askSetting (wpAny_pure (h _ (Og _ _))))
 | false=>
  first | rw [if_neg (by decide)] | simp only [Bool.not_true,false_eq_true,↓reduceIte]
  have h1:(!t.plain&&decide (es.size>1))=false:=by
   revert hc
   cases t.plain <;> simp
   try (intro q _;lia)
  have h2:(!t.led&&decide (es.size>1))=false:=by
   revert hc
   cases t.led <;> simp
   try (intro q;lia)
  rw [h1,h2]
  first | rw [if_neg (by decide)] | simp only [Bool.not_true,false_eq_true,↓reduceIte]
  exact wbK (wpAny_pure (wpAny_pure (h _ (Perm.refl _))))
theorem Kj (S:SetIs w l es t)(e:s.heap.get? a=some (Ao es ep t))(h1:es.size<=1){others:List Addr}{f:Option Addr}{Q:Array (Int × Value)->Shared->Prop}(h:∀ es',es'.toList.Perm es.toList->Q es' s) :
  wpAny (model prog w) A (setWalkUnseen a others f) Q E s:=by
 unfold setWalkUnseen
 refine wbK (wpAny_setState_of e rfl S.fit ?_)
 dsimp only
 unfold setsByText
 refine wbK (wbK (wpAny_askSetting (wpAny_pure ?_)))
 show wpAny (model prog w) A (if (w.params.followText "set-order"||_||_)=true then _ else _) _ _ _
 rw [if_pos (by simp [h1])]
 exact PQ S e _ (by simp [h1]) h rfl
end
section
variable {prog:Program}{w:World}{A:Around}{E:Value->Shared->Prop}{s:Shared}{l l':List Str}{es es':Array (Int × Value)}{t t':SetTable}{ep ep':Nat}{a b r o:Addr}{x:Str}{u:Tok}{led:Bool}{n:Nat}
theorem F0 {h:Heap}{o o':Obj}:hset (h.push o) h.objs.size o'=h.push o':=by
 obtain ⟨objs,lf⟩:=h
 show Heap.mk _ _=Heap.mk _ _
 congr 1
 apply Array.ext_getElem?
 intro j
 rw [Array.getElem?_modify,Array.getElem?_push,Array.getElem?_push]
 by_cases q:objs.size=j
 ·subst q;simp
 ·have:j≠objs.size:=λe=>q e.symm
  simp [q,this]
theorem Ws {Q:Value->Shared->Prop}(h:∀ led,Q (.ref s.heap.objs.size) { s with heap:=s.heap.push (Ao #[] 0 (.fresh 0 0 led)) }):wpAny (model prog w) A (newSet (.type "frozenset")) Q E s:=by
 unfold newSet
 refine wbK (US λc=>?_)
 dsimp only
 unfold newObj
 refine wbK ?_
 exact wpAny_alloc (wpAny_pure (h _))
theorem Um (S:SetIs w l es t)(e:s.heap.get? a=some (Ao es ep t))(hc:okN l.length=true){Q:Value->Shared->Prop}
  (h:∀ es' ep' t',SetIs w l es' t'->t'.dummies = #[]->t'.mask=B1 l.length->Q (.ref s.heap.objs.size) { s with heap:=s.heap.push (Ao es' ep' t') }):wpAny (model prog w) A (copyOf a) Q E s:=by
 unfold copyOf
 refine wbK ?_
 unfold baseOf
 refine wbK (wpAny_isInstance (typ e) G6 (wpAny_pure ?_))
 first | rw [if_neg (by decide)] | simp only [Bool.not_true,false_eq_true,↓reduceIte]
 refine wbK (Ws λled=>?_)
 refine wbK (wpAny_pure ?_)
 have lt:=lt_size e
 refine wbK (LG (s:={ s with heap:=s.heap.push (Ao #[] 0 (.fresh 0 0 led)) }) S (r:=s.heap.objs.size) (led:=led) (get?_push_size _ rfl) (get?_push_of_some _ e) (Nat.ne_of_gt lt) hc λes' ep' t' S' d m=>wpAny_pure ?_)
 show Q _ { s with heap:=hset (s.heap.push _) s.heap.objs.size _ }
 rw [F0]
 exact h _ _ _ S' d m
theorem PR (S:SetIs w l es t)(S':SetIs w [x] es' t')(er:s.heap.get? r=some (Ao es ep t))(eo:s.heap.get? o=some (Ao es' ep' t'))(ne:r≠o)(hx:x∉l)(hl:l.length+1<1000)(h0:l≠[])
  (hd:t.dummies = #[]) (hm:(l.length+1)*5<t.mask*3) {each:Sem Unit} (he:∀ (s':Shared) (Q:Unit->Shared->Prop),s'.heap.get? o=some (Ao es' ep' t')->Q () s'->wpAny (model prog w) A each Q E s') {Q:Unit->Shared->Prop}
  (h:∀ es' ep' t',SetIs w (x::l) es' t'->Q () { s with heap:=hset s.heap r (Ao es' ep' t') }):wpAny (model prog w) A (setMerge r o each) Q E s:=by
 have z':es'.size=1:=S'.size
 unfold setMerge
 rw [beq_eq_false_iff_ne.mpr ne]
 first | rw [if_neg (by decide)] | simp only [Bool.not_true,false_eq_true,↓reduceIte]
 refine wbK (wpAny_setState_of eo rfl S'.fit ?_)
 dsimp only
 have:es'.isEmpty=false:=by rw [Array.isEmpty_eq_false_iff];intro q;subst q;simp at z'
 refine KbI ?_
 rw [this]
 first | rw [if_neg (by decide)] | simp only [Bool.not_true,false_eq_true,↓reduceIte]
 have pl:t.place.size=l.length:=by
  have f:=S.fit
  simp only [SetTable.fits,and_eq_true,beq_iff_eq] at f
  rw [f.1,S.size]
 have fl:t.fill=l.length:=by unfold SetTable.fill;rw [hd,pl];rfl
 refine wbK ?_
 unfold setRoomFor
 refine wbK (wpAny_setState_of er rfl S.fit ?_)
 dsimp only
 have rf:t.roomFor es'.size=none:=by unfold SetTable.roomFor;rw [fl,z',if_neg (by lia)]
 refine KbI ?_
 rw [rf]
 refine wpAny_pure ?_
 refine wbK (wpAny_setState_of er rfl S.fit ?_)
 refine KbI ?_
 dsimp only
 have rd:t.road t' = .oneByOne:=by
  unfold SetTable.road
  rw [fl,if_pos]
  simp only [bne_iff_ne,ne_eq]
  intro q;exact h0 (length_eq_zero_iff.mp q)
 rw [rd]
 dsimp only
 refine wbK (Kj S' eo (by exact Mi.la [_] [([2],[3])] ([2],[3]) rfl (Nat.le_of_eq z')) λes2 p=>?_)
 obtain ⟨e1,he1⟩:∃ e1,es'.toList=[e1]:=List.length_eq_one_iff.mp (by rw [Array.length_toList];exact z')
 have he2:es2.toList=[e1]:=by rw [he1] at p;exact Perm.eq_singleton p
 obtain ⟨y,u,rfl⟩:=S'.el e1 (by rw [he1];exact mem_singleton_self _)
 have:y=x:=by
  have:=S'.perm
  rw [he1] at this
  exact List.singleton_inj.mp (Perm.eq_singleton this)
 subst this
 refine wbK (wpAny_forIn_array' _ (λrest U s'=>(rest=[(hashStr w y,.str y u)]/\s'=s)\/(rest=[]/\∃ es' ep' t',SetIs w (y::l) es' t'/\s' = { s with heap:=hset s.heap r (Ao es' ep' t') })) _ ?_ ?_ es2 _ (.inl ⟨he2,rfl⟩))
 ·rintro ⟨hh,v⟩ rest _ s' (⟨q,rfl⟩ | ⟨q,_⟩)
  ·cases q
   refine wbK (wpAny_holding (VR S hx hl er λes3 ep3 t3 S3=>?_))
   have eo':(hset s'.heap r (Ao es3 ep3 t3)).get? o=some (Ao es' ep' t'):=by rw [SE (Ne.symm ne)];exact eo
   refine wbK (he _ _ eo' ?_)
   refine wbK (wpAny_setState_of (s:={ s' with heap:=hset s'.heap r (Ao es3 ep3 t3) }) eo' rfl S'.fit ?_)
   refine KbI ?_
   first | rw [if_neg (by rw [bne_self_eq_false];decide)] | simp only [bne_self_eq_false,false_eq_true,↓reduceIte]
   exact wpAny_pure (.inr ⟨by trivial,_,_,_,S3,rfl⟩)
  ·cases q
 ·rintro _ s' (⟨q,_⟩ | ⟨_,es3,ep3,t3,S3,rfl⟩)
  ·cases q
  ·exact wpAny_pure (h _ _ _ S3)
theorem Gr (a:Addr){Q:Addr->Shared->Prop}(h:Q a s):wpAny (model prog w) A (addrOf (.ref a)) Q E s:=wpAny_pure h
theorem UT (S:SetIs w l es t)(S':SetIs w [x] es' t')(ea:s.heap.get? a=some (Ao es ep t))(eb:s.heap.get? b=some (Ao es' ep' t'))(ne:a≠b)(hx:x∉l)(hl:l.length+1<1000)(hc:okN l.length=true)
  (hm:(l.length+1)*5<B1 l.length*3) {Q:PySem.Fin->Shared->Prop} (h:∀ es' ep' t',SetIs w (x::l) es' t'->Q (.done (.ret (.ref s.heap.objs.size))) { s with heap:=s.heap.push (Ao es' ep' t') }) :
  wpAny (model prog w) A (Builtin.«frozenset.__or__» ⟨[.ref a,.ref b],[]⟩) Q E s:=by
 rw [VS]
 have h0:l≠[]:=by rintro rfl;simp [okN] at hc
 refine wbK (PP ea eb ?_)
 first | rw [if_neg (by decide)] | simp only [Bool.not_true,false_eq_true,↓reduceIte]
 refine wbK ?_
 refine wbK (Gr a ?_)
 refine wbK (Um S ea hc λes1 ep1 t1 S1 d1 m1=>?_)
 refine wbK (Gr a ?_)
 have nb:((Value.ref b) != .ref a)=true:=by
  rw [bne_iff_ne];intro q;cases q;exact ne rfl
 refine KbI ?_
 rw [nb]
 first | rw [if_pos rfl] | simp only [↓reduceIte]
 have lb:=lt_size eb
 have er:(s.heap.push (Ao es1 ep1 t1)).get? s.heap.objs.size=some (Ao es1 ep1 t1):=get?_push_size _ rfl
 have eb':(s.heap.push (Ao es1 ep1 t1)).get? b=some (Ao es' ep' t'):=get?_push_of_some _ eb
 refine wbK (Gr _ ?_)
 refine wbK (wpAny_holding ?_)
 unfold updateFrom
 refine wbK (Ki (s:={ s with heap:=s.heap.push (Ao es1 ep1 t1) }) eb' ?_)
 first | rw [if_pos rfl] | simp only [↓reduceIte]
 refine wbK (Gr b ?_)
 unfold merge
 refine wbK (wpAny_setEpoch_of (s:={ s with heap:=s.heap.push (Ao es1 ep1 t1) }) eb' rfl S'.fit ?_)
 refine PR (s:={ s with heap:=s.heap.push (Ao es1 ep1 t1) }) S1 S' er eb' (Nat.ne_of_gt lb) hx hl h0 d1 (by rw [m1];exact hm) (λs' Q' e' q=>?_) λes2 ep2 t2 S2=>?_
 ·unfold unchanged
  refine wbK (wpAny_setEpoch_of e' rfl S'.fit ?_)
  refine KbI ?_
  first | rw [if_neg (by rw [bne_self_eq_false];decide)] | simp only [bne_self_eq_false,false_eq_true,↓reduceIte]
  exact wpAny_pure q
 ·show wpAny _ _ _ _ _ { s with heap:=hset (s.heap.push _) s.heap.objs.size _ }
  rw [F0]
  exact wpAny_pure (wpAny_pure (h _ _ _ S2))
theorem Oh (S:SetIs w l es t)(e:s.heap.get? a=some (Ao es ep t)){Q:Option Nat->Shared->Prop}(h:∀ r,es.toList.findIdx? (λe=>(strKind prog w).is x e.2)=r->Q r s) :
  wpAny (model prog w) A (setFind a (.str x u) (hashStr w x)) Q E s:=by
 unfold setFind setFindIn
 refine wbK (wpAny_setState_of e rfl S.fit ?_)
 dsimp only
 refine KbI ?_
 rw [byScan_of rfl S.bound (S.elems (prog:=prog))]
 first | rw [if_pos rfl] | simp only [↓reduceIte]
 refine wbK (wpAny_rule ?_)
 refine wbK (wpAny_setScan_of (knd:=strKind prog w) (k:=x) (strKind_is prog w x u) e rfl S.fit S.elems ?_)
 cases hr:es.toList.findIdx? (λe=>(strKind prog w).is x e.2) with
 | none=>exact wpAny_pure (h _ hr)
 | some j=>exact wpAny_pure (by rw [Nat.zero_add];exact h _ hr)
theorem Fr {V:Type}(xs:Array V)(p:Nat)(hp:p<xs.size):(SetTable.eraseAt xs p).toList=xs.toList.eraseIdx p:=by
 unfold SetTable.eraseAt
 rw [Array.toList_append,Array.toList_extract,Array.toList_extract,List.eraseIdx_eq_take_drop_succ]
 simp only [List.extract_eq_take_drop,drop_zero,Nat.sub_zero]
 congr 1
 rw [take_of_length_le]
 simp
theorem SG {t:SetTable}{n:Nat}(h1:t.place.size=n)(h2:t.place.size+t.dummies.size<=t.mask):t.fits n=true:=by
 unfold SetTable.fits SetTable.fill
 simp [h1]
 rw [<- h1];exact h2
theorem SH (S:SetIs w l es t)(hd:t.dummies.size<=n)(e:s.heap.get? a=some (Ao es ep t)){Q:Bool->Shared->Prop}
  (h:∀ c es' ep' t',SetIs w (l.filter (λy=>decide (y≠x))) es' t'->t'.dummies.size<=n+1->t'.mask=t.mask->Q c { s with heap:=hset s.heap a (Ao es' ep' t') }):wpAny (model prog w) A (setDiscardHashed a (.str x u) (hashStr w x)) Q E s:=by
 unfold setDiscardHashed
 refine wbK (Oh S e λr hr=>?_)
 cases r with
 | none=>
  have hx:x∉l:=by
   rw [S.mem (prog:=prog)]
   rintro ⟨y,hy,q⟩
   have:=List.findIdx?_eq_none_iff.mp hr y hy
   rw [q] at this;cases this
  have fl:l.filter (λy=>decide (y≠x))=l:=filter_eq_self.mpr λy hy=>by rw [decide_eq_true_eq];rintro rfl;exact hx hy
  have e0:s.heap=hset s.heap a (Ao es ep t):=by
   show s.heap=s.heap.update a _
   rw [<- Er e (f:=id) (g:=λU=>Ao es ep t) rfl]
   obtain ⟨⟨objs,lf⟩,g,d,tk,os⟩:=s
   show Heap.mk _ _=Heap.mk _ _
   congr 1
   apply Array.ext_getElem?
   intro j
   rw [Array.getElem?_modify]
   by_cases z:a=j
   ·simp [z]
   ·simp [z]
  have:=h false es ep t (by rw [fl];exact S) (by exact Mi.la [_,_] [([2],[4])] ([2],[4,3,0]) rfl hd) rfl
  rw [<- e0] at this
  exact wpAny_pure this
 | some i=>
  dsimp only
  obtain ⟨hi,hp,_⟩:=List.findIdx?_eq_some_iff_getElem.mp hr
  have hi':i<es.size:=by rwa [Array.length_toList] at hi
  refine wbK (wpAny_setState_of e rfl S.fit ?_)
  refine KbI ?_
  dsimp only
  have el:=Fr es i hi'
  have hk:FZ es.toList[i]=x:=((LE (S.el _ (getElem_mem hi)) x).mp hp).symm
  have pe:((es.toList.eraseIdx i).map FZ).Perm (l.filter (λy=>decide (y≠x))):=by
   have p1:(x::(es.toList.eraseIdx i).map FZ).Perm l:=by
    have q:∀ (l:List (Int × Value)) (i:Nat) (hi:i<l.length),(l[i]::l.eraseIdx i).Perm l:=by
     intro l
     induction l with
     | nil=>intro i hi;simp at hi
     | cons y ys ih=>
      intro i hi
      cases i with
      | zero=>exact Perm.refl _
      | succ i=>exact (Perm.swap ..).trans ((ih i (by simpa using hi)).cons y)
    have:=(q es.toList i hi).map FZ
    rw [map_cons,hk] at this
    exact this.trans S.perm
   have p2:=p1.filter (λy=>decide (y≠x))
   have nd:(x::(es.toList.eraseIdx i).map FZ).Nodup:=p1.symm.nodup S.nd
   rw [nodup_cons] at nd
   rw [filter_cons_of_neg (by simp)] at p2
   rwa [filter_eq_self.mpr λy hy=>by rw [decide_eq_true_eq];rintro rfl;exact nd.1 hy] at p2
  have f:=S.fit
  simp only [SetTable.fits,and_eq_true,beq_iff_eq,decide_eq_true_eq] at f
  have ip:i<t.place.size:=by rw [f.1];exact hi'
  have dr:t.drop i = { t with place:=SetTable.eraseAt t.place i,dummies:=SetTable.insertAt t.dummies (SetTable.below t.dummies t.place[i]) t.place[i] }:=by
   unfold SetTable.drop
   rw [Array.getElem?_eq_getElem ip]
  have szp:(SetTable.eraseAt t.place i).size=t.place.size - 1:=by
   rw [<- Array.length_toList,Fr _ _ ip,List.length_eraseIdx_of_lt (by rw [Array.length_toList];exact ip),Array.length_toList]
  have szd:(SetTable.insertAt t.dummies (SetTable.below t.dummies t.place[i]) t.place[i]).size=t.dummies.size+1:=by
   rw [<- Array.length_toList,(SetTable.insertAt_perm ..).length_eq,Array.toList_push,length_append,Array.length_toList];rfl
  have sze:(SetTable.eraseAt es i).size=es.size - 1:=by
   rw [<- Array.length_toList,el,List.length_eraseIdx_of_lt hi,Array.length_toList]
  have S2:SetIs w (l.filter (λy=>decide (y≠x))) (SetTable.eraseAt es i) (t.drop i):=by
   refine ⟨λy hy=>?_,by rw [el];exact pe,S.nd.filter _,?_,Nat.lt_of_le_of_lt (length_filter_le ..) S.lt⟩
   ·rw [el] at hy
    exact S.el y (List.mem_of_mem_eraseIdx hy)
   ·rw [dr]
    have:=f.2
    unfold SetTable.fill at this
    refine SG (by show (SetTable.eraseAt t.place i).size=_;rw [szp,sze];exact Nat.le_antisymm (Mi.la [_,_,_,_] [([2],[4]),([6,3,0],[2]),([4],[8,3,0])] ([6],[8]) rfl (Nat.le_of_eq f.1) (Mi.lcC (Mi.la [_,_] [([2,3,0],[4])] ([3],[4]) rfl ip)) (Mi.lcS _ _)) (Mi.la [_,_,_,_] [([2],[4]),([6,3,0],[2]),([4],[8,3,0])] ([6],[8]) rfl (Nat.le_of_eq f.1.symm) (Mi.lcC (Mi.la [_,_] [([2,3,0],[4])] ([3],[4]) rfl hi')) (Mi.lcS _ _))) ?_
    show (SetTable.eraseAt t.place i).size+(SetTable.insertAt ..).size<=t.mask
    rw [szp,szd]
    exact Mi.la [_,_,_,_] [([2,4,0],[6]),([8,3,0],[2])] ([8,4,3,0,0],[6]) rfl this (Mi.lcC (Mi.la [_,_] [([2,3,0],[4])] ([3],[4]) rfl ip))
  refine wbK (wpAny_storeSet_of e rfl ?_ (fits_of_scanBound S2.bound))
  rw [Ce e]
  refine wbK (wpAny_point ?_)
  exact wpAny_pure (h true _ _ _ S2 (by rw [dr];show (SetTable.insertAt ..).size<=_;rw [szd];exact Mi.la [_,_] [([2],[4])] ([2,3,0],[4,3,0]) rfl hd) (by rw [dr]))
end
def eqL:List Nat->List Nat->Bool
 | [],m=>m.isEmpty
 | a::l,m=>match m with
  | []=>false
  | b::m=>match Nat.beq a b with
   | true=>eqL l m
   | false=>false
theorem eqL_iff:∀ (a b:List Nat),eqL a b=true↔a=b:=by
 intro a
 induction a with
 | nil=>exact λb=>isEmpty_iff.trans eq_comm
 | cons a l ih=>
  intro b
  cases b with
  | nil=>exact ⟨λh=>by injection h,λh=>by injection h⟩
  | cons b m=>
   show (match Nat.beq a b with
    | true=>eqL l m
    | false=>false)=true↔_
   cases q:Nat.beq a b with
   | true=>
    obtain rfl:=Nat.eq_of_beq_eq_true q
    exact (ih m).trans ⟨λh=>by rw [h],λh=>(List.cons.inj h).2⟩
   | false=>exact ⟨λh=>by injection h,λh=>by rw [(List.cons.inj h).1,Nat.beq_refl] at q;injection q⟩
def Ia (x:Str):List Str->Bool
 | []=>false
 | y::l=>match eqL x.cps.toList y.cps.toList with
  | true=>true
  | false=>Ia x l
theorem Kk (x:Str)(l:List Str):Ia x l=true↔x∈l:=by
 induction l with
 | nil=>simp [Ia]
 | cons y l ih=>
  unfold Ia
  cases q:eqL x.cps.toList y.cps.toList with
  | true=>
   have:x=y:=by
    have:=(eqL_iff _ _).mp q
    obtain ⟨⟨a⟩⟩:=x;obtain ⟨⟨b⟩⟩:=y
    simp only at this;subst this;rfl
   simp [this]
  | false=>
   have:x≠y:=by rintro rfl;rw [(eqL_iff _ _).mpr rfl] at q;cases q
   rw [mem_cons,ih];simp [this]
theorem EV {x:Str}{l}(h:Ia x l=false):x∉l:=λq=>by rw [(Kk x l).mpr q] at h;cases h
def G7 (l l':List Str):List Str:=match l with
 | []=>[]
 | y::r=>match Ia y l' with
  | true=>G7 r l'
  | false=>y::G7 r l'
theorem SJ (l l':List Str):G7 l l'=l.filter λy=>decide (y∉l'):=by
 induction l with
 | nil=>rfl
 | cons y r ih=>
  unfold G7
  cases q:Ia y l' with
  | true=>rw [filter_cons_of_neg (by simpa using (Kk y l').mp q)];exact ih
  | false=>rw [filter_cons_of_pos (by simpa using EV q)];dsimp only;rw [ih]
section
variable {prog:Program}{w:World}{A:Around}{E:Value->Shared->Prop}{s:Shared}{l l':List Str}{es es':Array (Int × Value)}{t t':SetTable}{ep ep':Nat}{a b r o:Addr}{x:Str}{u:Tok}{led:Bool}{n:Nat}
theorem UU (S:SetIs w l es t)(S':SetIs w l' es' t')(ea:s.heap.get? a=some (Ao es ep t))(eb:s.heap.get? b=some (Ao es' ep' t')){Q:Bool->Shared->Prop}(h:Q true s):wpAny (model prog w) A (setsQuiet [a,b]) Q E s:=by
 unfold setsQuiet
 refine wbK (wpAny_forIn_list _ (λrest r s'=>r.1=none/\s'=s/\∀ c∈rest,c=a\/c=b) _ ?_ ?_ _ _ ⟨rfl,rfl,λc hc=>by simpa using hc⟩)
 ·rintro c rest r s' ⟨hr,rfl,hc⟩
  have hs:∃ l₁ u6 m7 W6,SetIs w l₁ u6 W6/\s'.heap.get? c=some (Ao u6 m7 W6):=by
   rcases hc c mem_cons_self with rfl | rfl
   ·exact ⟨_,_,_,_,S,ea⟩
   ·exact ⟨_,_,_,_,S',eb⟩
  obtain ⟨l₁,u6,m7,W6,m5,u0⟩:=hs
  unfold setEntries
  refine wbK (wbK (wpAny_setState_of u0 rfl m5.fit (wpAny_pure ?_)))
  refine wbK (wpAny_forIn_array' _ (λrest r s''=>r.1=none/\s''=s'/\∀ e∈rest,e∈u6.toList) _ ?_ ?_ _ _ ⟨rfl,rfl,λe he=>he⟩)
  ·rintro ⟨hh,v⟩ rest' r' s'' ⟨hr',rfl,he⟩
   obtain ⟨y,u,q⟩:=m5.el _ (he _ mem_cons_self)
   cases q
   exact wpAny_pure ⟨rfl,rfl,λe q=>he e (mem_cons_of_mem _ q)⟩
  ·rintro ⟨r1,r2⟩ s'' ⟨hr',rfl,_⟩
   simp only at hr'
   subst hr'
   exact wpAny_pure ⟨rfl,rfl,λc q=>hc c (mem_cons_of_mem _ q)⟩
 ·rintro ⟨r1,r2⟩ s' ⟨hr,rfl,_⟩
  simp only at hr
  subst hr
  exact wpAny_pure h
theorem Kl (S:SetIs w l es t)(S':SetIs w l' es' t')(ea:s.heap.get? a=some (Ao es ep t))(eb:s.heap.get? b=some (Ao es' ep' t')){Q:Array (Int × Value)->Shared->Prop}(h:∀ es2,es2.toList.Perm es.toList->Q es2 s) :
  wpAny (model prog w) A (setWalkUnseen a [b] none) Q E s:=by
 unfold setWalkUnseen
 refine wbK (wpAny_setState_of ea rfl S.fit ?_)
 dsimp only
 unfold setsByText
 refine wbK (wbK (wpAny_askSetting (wpAny_pure ?_)))
 show wpAny (model prog w) A (if (w.params.followText "set-order"||_||_)=true then _ else _) _ _ _
 by_cases q:(w.params.followText "set-order"||t.led&&t.plain||decide (es.size<=1))=true
 ·rw [if_pos q]
  exact PQ S ea _ q h rfl
 ·rw [if_neg q]
  refine wbK (UU S S' ea eb ?_)
  first | rw [if_neg (by decide)] | simp only [Bool.not_true,false_eq_true,↓reduceIte]
  refine wbK (wpAny_rule ?_)
  exact wpAny_pure (h _ (Perm.refl _))
theorem M7 (S:SetIs w l es t)(ea:s.heap.get? a=some (Ao es ep t)){Q:Nat->Shared->Prop}(h:Q l.length s):wpAny (model prog w) A (Builtin.Frozenset.sizeOf a) Q E s:=by
 unfold Builtin.Frozenset.sizeOf setEntries
 exact wbK (wbK (wpAny_setState_of ea rfl S.fit (wpAny_pure (wpAny_pure (by rw [S.size];exact h)))))
theorem SK (S:SetIs w l es t)(S':SetIs w l' es' t')(ea:s.heap.get? a=some (Ao es ep t))(eb:s.heap.get? b=some (Ao es' ep' t'))(hc:okN l.length=true)(hq:l.length / 4>l'.length)
  (h8:¬ l'.length / 8>l.length) (hm:l'.length<=B1 l.length / 4) {Q:PySem.Fin->Shared->Prop} (h:∀ es' ep' t',SetIs w (G7 l l') es' t'->Q (.done (.ret (.ref s.heap.objs.size))) { s with heap:=s.heap.push (Ao es' ep' t') }) :
  wpAny (model prog w) A (Builtin.«frozenset.__sub__» ⟨[.ref a,.ref b],[]⟩) Q E s:=by
 rw [UR]
 refine wbK (PP ea eb ?_)
 refine KbI ?_
 rw [if_neg (by decide)]
 refine wbK (Gr a ?_)
 refine wbK ?_
 unfold difference
 refine wbK (Ki eb ?_)
 refine KbI ?_
 rw [if_neg (by decide)]
 refine wbK (Gr b ?_)
 refine wbK (M7 S' eb ?_)
 refine wbK (M7 S ea ?_)
 refine KbI ?_
 rw [if_pos hq]
 refine wbK (wpAny_rule ?_)
 refine wbK (Um S ea hc λes1 ep1 t1 S1 d1 m1=>?_)
 have lb:=lt_size eb
 have er:(s.heap.push (Ao es1 ep1 t1)).get? s.heap.objs.size=some (Ao es1 ep1 t1):=get?_push_size _ rfl
 have eb':(s.heap.push (Ao es1 ep1 t1)).get? b=some (Ao es' ep' t'):=get?_push_of_some _ eb
 refine wbK (Gr _ ?_)
 refine wbK (wpAny_holding ?_)
 unfold differenceUpdate
 have nb:((Value.ref b)==.ref s.heap.objs.size)=false:=by
  rw [beq_eq_false_iff_ne];intro q;cases q;exact Nat.lt_irrefl _ lb
 rw [nb]
 rw [if_neg (by decide)]
 refine wbK (Ki (s:={ s with heap:=s.heap.push (Ao es1 ep1 t1) }) eb' ?_)
 refine KbI ?_
 rw [if_pos rfl]
 refine wbK (Gr b ?_)
 refine wbK (M7 (s:={ s with heap:=s.heap.push (Ao es1 ep1 t1) }) S' eb' ?_)
 refine wbK (M7 (s:={ s with heap:=s.heap.push (Ao es1 ep1 t1) }) S1 er ?_)
 refine KbI ?_
 rw [if_neg h8]
 refine wbK (wpAny_setEpoch_of (s:={ s with heap:=s.heap.push (Ao es1 ep1 t1) }) eb' rfl S'.fit ?_)
 refine wbK (wpAny_holding ?_)
 refine wbK (Kl (s:={ s with heap:=s.heap.push (Ao es1 ep1 t1) }) S' S1 eb' er λes2 p2=>?_)
 refine wbK (wpAny_forIn_array' _ (λrest U s'=>∃ done es3 ep3 t3,done++rest.map FZ=es2.toList.map FZ/\(∀ e∈rest,e∈es2.toList)/\SetIs w (l.filter λy=>decide (y∉done)) es3 t3/\t3.dummies.size<=done.length/\t3.mask=B1 l.length /\
  s' = { s with heap:=s.heap.push (Ao es3 ep3 t3) }) _ ?_ ?_ es2 _ ⟨[],es1,ep1,t1,rfl,λe he=>he,?_,by rw [d1];exact Nat.zero_le _,m1,rfl⟩)
 ·rintro ⟨hh,v⟩ rest _ s' ⟨done,es3,ep3,t3,hd,hin,S3,d3,m3,rfl⟩
  obtain ⟨y,u,q⟩:=S'.el _ (p2.mem_iff.mp (hin _ mem_cons_self))
  cases q
  have er3:(s.heap.push (Ao es3 ep3 t3)).get? s.heap.objs.size=some (Ao es3 ep3 t3):=get?_push_size _ rfl
  refine wbK (wpAny_holding (SH (s:={ s with heap:=s.heap.push (Ao es3 ep3 t3) }) (n:=done.length) S3 d3 er3 λc es4 ep4 t4 S4 d4 m4=>?_))
  have eb4:(s.heap.push (Ao es4 ep4 t4)).get? b=some (Ao es' ep' t'):=get?_push_of_some _ eb
  show wpAny (model prog w) A _ _ _ { s with heap:=hset (s.heap.push _) s.heap.objs.size _ }
  rw [F0]
  unfold unchanged
  refine wbK (wbK (wpAny_setEpoch_of (s:={ s with heap:=s.heap.push (Ao es4 ep4 t4) }) eb4 rfl S'.fit ?_))
  refine KbI ?_
  rw [if_neg (by rw [bne_self_eq_false];decide)]
  refine wpAny_pure (wpAny_pure ⟨done++[y],es4,ep4,t4,?_,λe q=>hin e (mem_cons_of_mem _ q),?_,by simpa using d4,m4.trans m3,rfl⟩)
  ·rw [<- hd];simp [FZ]
  ·have:(l.filter λz=>decide (z∉done++[y]))=(l.filter λz=>decide (z∉done)).filter λz=>decide (z≠y):=by
    rw [List.filter_filter]
    congr 1
    funext z
    by_cases q1:z∈done <;> by_cases q2:z=y <;> simp [q1,q2]
   rw [this];exact S4
 ·rintro _ s' ⟨done,es3,ep3,t3,hd,_,S3,d3,m3,rfl⟩
  have er3:(s.heap.push (Ao es3 ep3 t3)).get? s.heap.objs.size=some (Ao es3 ep3 t3):=get?_push_size _ rfl
  have hp:done.Perm l':=by
   rw [List.map_nil,append_nil] at hd
   rw [hd]
   exact (p2.map FZ).trans S'.perm
  have e3:(l.filter λz=>decide (z∉done))=G7 l l':=by
   rw [SJ]
   congr 1
   funext z
   simp only [hp.mem_iff]
  rw [e3] at S3
  have hl:=hp.length_eq
  refine wpAny_pure ?_
  unfold setTidy
  refine wbK (wpAny_setState_of (s:={ s with heap:=s.heap.push (Ao es3 ep3 t3) }) er3 rfl S3.fit ?_)
  dsimp only
  have nt:t3.tooManyDummies=false:=by
   unfold SetTable.tooManyDummies
   rw [m3,decide_eq_false_iff_not]
   exact Nat.not_lt.mpr (Mi.la [_,_,_,_] [([2],[4]),([6],[8]),([8],[2])] ([6],[4]) rfl hm d3 (Nat.le_of_eq hl))
  refine KbI ?_
  rw [nt]
  rw [if_neg (by decide)]
  refine wpAny_pure (wpAny_pure (wpAny_pure (h _ _ _ S3)))
 ·have:(l.filter λy=>decide (y∉([]:List Str)))=l:=filter_eq_self.mpr λy U=>by simp
  rw [this];exact S1
end
theorem M8 {V:Type}{M:Model}{Γ:Ctx}(m:Sem V):∀ {Q:V->Pos->Shared->Prop} {p:Pos} {s:Shared},wp M Γ m Q (λU U U=>False) p s ->
  ∃ a p' s',Q a p' s'/\∀ (Q':V->Pos->Shared->Prop) E',Q' a p' s'->wp M Γ m Q' E' p s:=by
 induction m with
 | pure a=>intro Q p s h;exact ⟨a,p,s,h,λQ' E' q=>q⟩
 | raise e=>intro Q p s h;exact h.elim
 | unsupported | finish | register | «yield» | fork | await=>intro Q p s h;exact h.elim
 | rule tag k ih=>intro Q p s h;exact ih () h
 | «at» q k ih=>intro Q p s h;exact ih () h
 | load a part k ih=>
  intro Q p s h
  obtain ⟨o,ho,h⟩:=h
  obtain ⟨a,p',s',h1,h2⟩:=ih o h
  exact ⟨a,p',s',h1,λQ' E' q=>⟨o,ho,h2 Q' E' q⟩⟩
 | update a part f k ih=>
  intro Q p s h
  obtain ⟨ho,h⟩:=h
  obtain ⟨a,p',s',h1,h2⟩:=ih () h
  exact ⟨a,p',s',h1,λQ' E' q=>⟨ho,h2 Q' E' q⟩⟩
 | alloc o k ih=>intro Q p s h;exact ih _ h
 | loadIfAlive a k ih=>intro Q p s h;exact ih _ h
 | point l k ih=>intro Q p s h;exact ih () h
 | fresh k ih=>intro Q p s h;exact ih _ h
 | ask k ih=>intro Q p s h;exact ih _ h
 | choose src n k ih=>
  intro Q p s h
  obtain ⟨ho,h⟩:=h
  obtain ⟨a,p',s',h1,h2⟩:=ih _ h
  exact ⟨a,p',s',h1,λQ' E' q=>⟨ho,h2 Q' E' q⟩⟩
 | os q l k ih=>intro Q p s h;exact ih _ h
 | call c hd g l k ih=>
  intro Q p s h
  obtain ⟨r,c0,hr,h⟩:=h
  obtain ⟨a,p',s',h1,h2⟩:=ih r h
  exact ⟨a,p',s',h1,λQ' E' q=>⟨r,c0,hr,h2 Q' E' q⟩⟩
 | handled own k ih=>intro Q p s h;exact ih _ h
 | genState g k ih=>
  intro Q p s h
  obtain ⟨st,ho,h⟩:=h
  obtain ⟨a,p',s',h1,h2⟩:=ih _ h
  exact ⟨a,p',s',h1,λQ' E' q=>⟨st,ho,h2 Q' E' q⟩⟩
 | newGen c k ih=>intro Q p s h;exact ih _ h
 | resume g r l k ih=>
  intro Q p s h
  obtain ⟨res,c0,hr,h⟩:=h
  obtain ⟨a,p',s',h1,h2⟩:=ih res h
  exact ⟨a,p',s',h1,λQ' E' q=>⟨res,c0,hr,h2 Q' E' q⟩⟩
 | stack k ih=>intro Q p s h;exact ih _ h
 | thread k ih=>intro Q p s h;exact ih _ h
def Γin (Γ:Ctx):Around:=⟨Γ.handled,frameCount Γ.below+Γ.code.weight,none,none,Γ.units⟩
theorem UV (Γ:Ctx):Γ.In (Γin Γ):=⟨rfl,Nat.le_refl _,λU h=>by (cases h),λU h=>by (cases h),Nat.le_refl _⟩
theorem IA {V:Type}{M:Model}{Γ:Ctx}{m:Sem V}{Q:V->Shared->Prop}{p:Pos}{s:Shared}(h:∀ A,wpAny M A m Q (λU U=>False) s):wp M Γ m (λa U s'=>Q a s') (λU U U=>False) p s:=
 h (Γin Γ) Γ p (UV Γ)
def setData (es:Array (Int × Value))(ep:Nat)(t:SetTable)(o:Obj):Obj:={ o with data:=.set es ep t }
def EG (a:Addr):List (Addr × List Str)->Option (List Str)
 | []=>none
 | x::r=>match Nat.beq x.1 a with
  | true=>some x.2
  | false=>EG a r
def Km (a:Addr)(l:List Str):List (Addr × List Str)->List (Addr × List Str)
 | []=>[(a,l)]
 | x::r=>match Nat.beq x.1 a with
  | true=>(a,l)::r
  | false=>x::Km a l r
theorem CU (b:Addr)(x:Addr × List Str)(r):EG b (x::r)=match Nat.beq x.1 b with
  | true=>some x.2
  | false=>EG b r:=rfl
theorem Dk {a b:Nat}(h:Nat.beq a b=false):a≠b:=by rintro rfl;rw [Nat.beq_refl] at h;cases h
theorem PT (a:Addr)(l:List Str)(b:Addr)(gh:List (Addr × List Str)):EG b (Km a l gh)=if b=a then some l else EG b gh:=by
 induction gh with
 | nil=>
  show EG b [(a,l)]=_
  rw [CU]
  dsimp only
  cases q:Nat.beq a b with
  | true=>have:=Nat.eq_of_beq_eq_true q;subst this;simp
  | false=>have:=Dk q;simp [Ne.symm this,EG]
 | cons x r ih=>
  unfold Km
  cases q:Nat.beq x.1 a with
  | true=>
   have e:=Nat.eq_of_beq_eq_true q
   rw [CU,CU,e]
   dsimp only
   cases q2:Nat.beq a b with
   | true=>have:=Nat.eq_of_beq_eq_true q2;subst this;simp
   | false=>have:=Dk q2;simp [Ne.symm this]
  | false=>
   dsimp only
   rw [CU,CU,ih]
   cases q2:Nat.beq x.1 b with
   | true=>
    have e2:=Nat.eq_of_beq_eq_true q2
    have:b≠a:=by rw [<- e2];exact Dk q
    simp [this]
   | false=>rfl
theorem Oi {a:Addr}{gh:List (Addr × List Str)}:PC a gh=false->EG a gh=none:=by
 induction gh with
 | nil=>exact λU=>rfl
 | cons x r ih=>
  intro h
  unfold PC at h
  unfold EG
  cases q:Nat.beq x.1 a with
  | true=>rw [q] at h;cases h
  | false=>rw [q] at h;exact ih h
def UW:Value->Option String
 | .type c=>some c
 | _=>none
theorem Oj {v:Value}{c:String}(h:UW v=some c):v = .type c:=by cases v <;> first | (injection h;done) | (injection h with h;rw [h])
def PU:Data->Option (Array (Int × Value) × Nat × SetTable)
 | .set es ep t=>some (es,ep,t)
 | _=>none
theorem LI {d:Data}{x:Array (Int × Value) × Nat × SetTable}(h:PU d=some x):d = .set x.1 x.2.1 x.2.2:=by cases d <;> first | (injection h;done) | (injection h with h;rw [<- h])
def Un (o:Obj):Bool:=cond o.dict.isNone (cond o.slots.toList.isEmpty (match UW o.cls with
 | some c=>match PU o.data with
  | some x=>cond x.1.toList.isEmpty (Nat.beq (code c) 2165651704799132939111&&x.2.2.fits 0) false
  | none=>false
 | none=>false) false) false
def Gs (a:Addr)(T:BT)(gh:List (Addr × List Str)):Option (List Str):=match EG a gh with
 | some l=>some l
 | none=>match T.get a with
  | some o=>match Un o with
   | true=>some []
   | false=>none
  | none=>none
def Inv (w:World)(S:SX):Prop:=∀ a l,EG a S.gh=some l->a<S.sh.n/\∃ es ep t,S.sh.tree.get a=some (Ao es ep t)/\SetIs w l es t
theorem Jh {a b:Bool}(h:cond a b false=true):a=true/\b=true:=by
 cases a with
 | true=>exact ⟨rfl,h⟩
 | false=>injection h
theorem PW {o:Obj}(h:Un o=true):∃ ep t,o=Ao #[] ep t/\t.fits 0=true:=by
 obtain ⟨cls,dict,data,slots⟩:=o
 obtain ⟨h1,h⟩:=Jh h
 obtain ⟨h2,h⟩:=Jh h
 obtain rfl:=Option.isNone_iff_eq_none.mp h1
 obtain rfl:slots = #[]:=Array.toList_eq_nil_iff.mp (isEmpty_iff.mp h2)
 dsimp only at h
 cases h3:UW cls with
 | none=>rw [h3] at h;injection h
 | some c=>
  cases h4:PU data with
  | none=>rw [h3,h4] at h;injection h
  | some x=>
   rw [h3,h4] at h
   obtain ⟨h5,h⟩:=Jh h
   have h:=(and_eq_true _ _).mp h
   have h6:x.1 = #[]:=Array.toList_eq_nil_iff.mp (isEmpty_iff.mp h5)
   rw [Oj h3,LI h4,h6,GQ "frozenset" (by decide +kernel) h.1]
   exact ⟨_,_,rfl,h.2⟩
set_option tactic.hygienic true in
theorem Dl {w:World}{a:Addr}{S:SX}(hi:Inv w S)(hn:a<S.sh.n){l:List Str}(h:Gs a S.sh.tree S.gh=some l):∃ es ep t,S.sh.tree.get a=some (Ao es ep t)/\SetIs w l es t:=by
 unfold Gs at h
 split at h
 ·rename_i l' e
  cases h
  exact (hi a _ e).2
 ·split at h
  ·rename_i o e
   split at h
   ·rename_i q
    cases h
    obtain ⟨ep,t,rfl,f⟩:=PW q
    exact ⟨_,_,_,e,⟨λe he=>by simp at he,Perm.refl _,nodup_nil,f,by decide⟩⟩
   ·cases h
  ·cases h
theorem Dm {S:SX}{a:Addr}{es ep t}(hn:a<S.sh.n)(e:S.sh.tree.get a=some (Ao es ep t)):S.sh.abs.heap.get? a=some (Ao es ep t):=by
 show (absHeap S.sh.tree S.sh.n S.sh.life).get? a=_
 rw [abs_get hn e];rfl
set_option tactic.hygienic true in
theorem Ko {o o':Obj}{T:BT}:∀ {n:Nat},((T.ins n o).get n).isSome=true->((T.ins n o').get n).isSome=true:=by
 induction T with
 | nil=>
  intro n h
  have e:∀ o,BT.nil.ins n o=BT.node o .nil .nil:=λU=>rfl
  rw [e,BT.get_node] at h ⊢
  split at h <;> rename_i q
  ·rw [if_pos q];rfl
  ·split at h <;> cases h
 | node v l r ihl ihr=>
  intro n h
  rw [BT.ins_node] at h ⊢
  by_cases q:n=0
  ·rw [if_pos q] at h ⊢;rw [BT.get_node,if_pos q];rfl
  ·rw [if_neg q] at h ⊢
   by_cases q2:n % 2=1
   ·rw [if_pos q2] at h ⊢;rw [BT.get_node,if_neg q,if_pos q2] at h ⊢;exact ihl h
   ·rw [if_neg q2] at h ⊢;rw [BT.get_node,if_neg q,if_neg q2] at h ⊢;exact ihr h
def Uo (S:SX)(a:Addr)(l:List Str)(es:Array (Int × Value))(ep:Nat)(t:SetTable):SX:=match S with
 | ⟨⟨T,N,life,gens,drawn,toks,os⟩,gh⟩=>⟨⟨T.set a (setData es ep t),N,life,gens,drawn,toks+1,os⟩,Km a l gh⟩
structure Pk where
 es:Array (Int × Value)
 ep:Nat
 t:SetTable
 p:Pos
noncomputable instance:Nonempty Pk:=⟨⟨#[],0,default,default⟩⟩
def PY (prog:Program)(w:World)(Γ:Ctx)(p:Pos)(a:Addr)(x:Str)(u:Tok)(l:List Str)(S:SX)(k:Pk):Prop:=
 (∀ (Q:Bool->Pos->Shared->Prop) E,(∀ b,Q b k.p (Uo S a (x::l) k.es k.ep k.t).sh.abs)->wp (model prog w) Γ (setAdd a (.str x u)) Q E p S.sh.abs)/\SetIs w (x::l) k.es k.t
def pkA (prog:Program)(w:World)(Γ:Ctx)(p:Pos)(a:Addr)(x:Str)(u:Tok)(l:List Str)(S:SX):Pk:=Classical.epsilon (PY prog w Γ p a x u l S)
theorem VT {prog:Program}{w:World}{Γ:Ctx}{p:Pos}{a:Addr}{x:Str}{u:Tok}{l:List Str}{S:SX}(hi:Inv w S)(hn:a<S.sh.n)(hl:Gs a S.sh.tree S.gh=some l)(hx:Ia x l=false)(hb:l.length+1<1000) :
  PY prog w Γ p a x u l S (pkA prog w Γ p a x u l S):=by
 refine Classical.epsilon_spec (p:=PY prog w Γ p a x u l S) ?_
 obtain ⟨es,ep,t,e,Z⟩:=Dl hi hn hl
 have e':=Dm hn e
 have W:=IA (M:=model prog w) (Γ:=Γ) (p:=p) (m:=setAdd a (.str x u)) (s:=S.sh.abs)
  (Q:=λb s'=>∃ es' ep' t',SetIs w (x::l) es' t'/\s' = { S.sh.abs with heap:=hset S.sh.abs.heap a (Ao es' ep' t'),toks:=S.sh.abs.toks+1 })
  (λA=>PO Z (EV hx) hb e' λes' ep' t' Z'=>⟨_,_,_,Z',rfl⟩)
 obtain ⟨b,p',s',⟨es',ep',t',Z',rfl⟩,h2⟩:=M8 _ W
 refine ⟨⟨es',ep',t',p'⟩,λQ E hQ=>h2 Q E ?_,Z'⟩
 have:=hQ b
 obtain ⟨⟨T,N,life,gens,drawn,toks,os⟩,gh⟩:=S
 have hh:(absHeap (T.set a (setData es' ep' t')) N life)=hset (absHeap T N life) a (Ao es' ep' t'):=by
  rw [absHeap_set e]
  exact Er (f:=setData es' ep' t') (g:=λU=>Ao es' ep' t') e' rfl
 show Q b p' ⟨hset (absHeap T N life) a (Ao es' ep' t'),gens,drawn,toks+1,os⟩
 rw [<- hh]
 exact this
def Ji (S:SX)(l:List Str)(es:Array (Int × Value))(ep:Nat)(t:SetTable):SX:=match S with
 | ⟨⟨T,N,life,gens,drawn,toks,os⟩,gh⟩=>⟨⟨T.ins N (Ao es ep t),N+1,life,gens,drawn,toks,os⟩,(N,l)::gh⟩
def PZ (prog:Program)(w:World)(Γ:Ctx)(p:Pos)(l:List Str)(S:SX)(k:Pk):Prop:=
 Runs (model prog w) Γ p ((model prog w).den Γ.code) [] S.sh.abs (.ret (.ok (.ret (.ref S.sh.n)))) (Ji S l k.es k.ep k.t).sh.abs/\SetIs w l k.es k.t
def pkN (prog:Program)(w:World)(Γ:Ctx)(p:Pos)(l:List Str)(S:SX):Pk:=Classical.epsilon (PZ prog w Γ p l S)
theorem Up {prog:Program}{w:World}{Γ:Ctx}{p:Pos}{l:List Str}{S:SX}{id:String}{args:Args}{b:Builtin}(hc:Γ.code = .builtin id args)(hb:entryFor table id=some b)(hins:((S.sh.tree.ins S.sh.n default).get S.sh.n).isSome=true)
  (h:∀ A:Around,wpAny (model prog w) A (b args) (λf s'=>∃ es ep t,SetIs w l es t/\f = .done (.ret (.ref S.sh.n))/\s' = { S.sh.abs with heap:=S.sh.abs.heap.push (Ao es ep t) }) (λU U=>False) S.sh.abs) :
  PZ prog w Γ p l S (pkN prog w Γ p l S):=by
 refine Classical.epsilon_spec (p:=PZ prog w Γ p l S) ?_
 have hd:(model prog w).den Γ.code=b args:=by
  rw [hc]
  show (match entryFor table id with | some b=>b args | none=>unsupported ((withoutEnding? id "#data").getD id))=_
  rw [hb]
 obtain ⟨f,p',s',⟨es,ep,t,Z,rfl,rfl⟩,h2⟩:=M8 _ (IA (M:=model prog w) (Γ:=Γ) (p:=p) h)
 refine ⟨⟨es,ep,t,default⟩,?_,Z⟩
 rw [hd]
 refine DE (h2 _ _ ?_)
 obtain ⟨⟨T,N,life,gens,drawn,toks,os⟩,gh⟩:=S
 refine ⟨rfl,?_⟩
 have hh:absHeap (T.ins N (Ao es ep t)) (N+1) life=(absHeap T N life).push (Ao es ep t):=absHeap_ins (Ko (o:=default) hins)
 show (⟨(absHeap T N life).push (Ao es ep t),gens,drawn,toks,os⟩:Shared)=⟨absHeap (T.ins N (Ao es ep t)) (N+1) life,gens,drawn,toks,os⟩
 rw [hh]
def UX (a b:Addr)(x:Str)(l:List Str)(S:SX):Bool:=
 Nat.blt a S.sh.n&&Nat.blt b S.sh.n&&!Nat.beq a b&&!Ia x l&&Nat.blt (l.length+1) 1000&&okN l.length&&Nat.blt ((l.length+1)*5) (B1 l.length*3)&&((S.sh.tree.ins S.sh.n default).get S.sh.n).isSome
def SL (a b:Addr)(l l':List Str)(S:SX):Bool:=
 Nat.blt a S.sh.n&&Nat.blt b S.sh.n&&okN l.length&&Nat.blt l'.length (l.length / 4)&&!Nat.blt l.length (l'.length / 8)&&Nat.ble l'.length (B1 l.length / 4)&&((S.sh.tree.ins S.sh.n default).get S.sh.n).isSome
def VU:List Str->Option Str
 | [x]=>some x
 | _=>none
theorem SM {l:List Str}{x:Str}(h:VU l=some x):l=[x]:=by
 cases l with
 | nil=>cases h
 | cons y r=>
  cases r with
  | nil=>cases h;rfl
  | cons=>cases h
theorem F1 {a b:Bool}{C:Prop}(h:(a&&b)=true)(k:a=true->b=true->C):C:=k (and_eq_true_iff.mp h).1 (and_eq_true_iff.mp h).2
theorem VV {b:Bool}(h:(!b)=true):b=false:=by
 cases b with
 | false=>rfl
 | true=>cases h
def Uq (prog:Program)(w:World):Orc where
 add Γ p a x u S:=cond (Nat.blt a S.sh.n) ((Gs a S.sh.tree S.gh).bind λl=>cond (Ia x l) none (cond (Nat.blt (l.length+1) 1000)
  (some ((pkA prog w Γ p a x u l S).p,Uo S a (x::l) (pkA prog w Γ p a x u l S).es (pkA prog w Γ p a x u l S).ep (pkA prog w Γ p a x u l S).t)) none)) none
 or Γ p a b S:=(Gs a S.sh.tree S.gh).bind λl=>(Gs b S.sh.tree S.gh).bind λm=>(VU m).bind λx=>cond (UX a b x l S)
  (some (.ref S.sh.n,Ji S (x::l) (pkN prog w Γ p (x::l) S).es (pkN prog w Γ p (x::l) S).ep (pkN prog w Γ p (x::l) S).t)) none
 sub Γ p a b S:=(Gs a S.sh.tree S.gh).bind λl=>(Gs b S.sh.tree S.gh).bind λl'=>cond (SL a b l l' S)
  (some (.ref S.sh.n,Ji S (G7 l l') (pkN prog w Γ p (G7 l l') S).es (pkN prog w Γ p (G7 l l') S).ep (pkN prog w Γ p (G7 l l') S).t)) none
 inv:=Inv w
theorem BW {a b:Nat}(h:Nat.blt a b=true):a<b:=Nat.le_of_ble_eq_true h
theorem P0:entryFor table "frozenset.__or__" = some Builtin.«frozenset.__or__»:=entryFor_of_tree (by kernel_rfl)
theorem Ol:entryFor table "frozenset.__sub__" = some Builtin.«frozenset.__sub__»:=entryFor_of_tree (by kernel_rfl)
theorem LJ:entryFor table "set.update.loop" = some Builtin.«set.update.loop»:=entryFor_of_tree (by kernel_rfl)
theorem Kp {prog:Program}{w:World}{id:String}{b:Builtin}(hb:entryFor table id=some b)(args:Args):(model prog w).den (.builtin id args)=b args:=by
 have key:∀ (o:Option Builtin) (t:Sem PySem.Fin),o=some b->(match o with | some b=>b args | none=>t)=b args:=by
  intro o t h;subst h;rfl
 exact key (entryFor table id) _ hb
theorem P1 (prog:Program)(w:World)(args:Args):(model prog w).den (.builtin "set.update.loop" args)=Builtin.«set.update.loop» args:=Kp LJ args
theorem Kq {w:World}{S:SX}(hi:Inv w S){l es ep t}(Z:SetIs w l es t)(hins:((S.sh.tree.ins S.sh.n default).get S.sh.n).isSome=true):Inv w (Ji S l es ep t):=by
 obtain ⟨⟨T,N,life,gens,drawn,toks,os⟩,gh⟩:=S
 intro b l' h
 have hg:=BT.get_ins (Ao es ep t) T N (Ko hins)
 have h':EG b ((N,l)::gh)=some l':=h
 rw [CU] at h'
 show b<N+1/\∃ es' ep' t',(T.ins N (Ao es ep t)).get b=some (Ao es' ep' t')/\SetIs w l' es' t'
 rw [hg b]
 dsimp only at h'
 cases q:Nat.beq N b with
 | true=>
  have e:=Nat.eq_of_beq_eq_true q
  subst e
  rw [q] at h'
  cases h'
  exact ⟨Nat.lt_succ_self _,_,_,_,if_pos rfl,Z⟩
 | false=>
  rw [q] at h'
  obtain ⟨h1,h2⟩:=hi b l' h'
  rw [if_neg (Ne.symm (Dk q))]
  exact ⟨Nat.lt_succ_of_lt h1,h2⟩
theorem P2 (prog:Program)(w:World):(Uq prog w).Ok (model prog w) where
 up:=by
  intro T N life gens drawn toks os gh a f hi hg b l h
  obtain ⟨h1,es,ep,t,e,Z⟩:=hi b l h
  have ne:b≠a:=by
   rintro rfl
   have:=Oi hg
   have h':EG b gh=some l:=h
   rw [this] at h';cases h'
  refine ⟨h1,es,ep,t,?_,Z⟩
  show (T.set a f).get b=_
  rw [BT.get_set,if_neg ne]
  exact e
 new:=by
  intro T N life gens drawn toks os gh o hi hs b l h
  obtain ⟨h1,es,ep,t,e,Z⟩:=hi b l h
  refine ⟨Nat.lt_succ_of_lt h1,es,ep,t,?_,Z⟩
  show (T.ins N o).get b=_
  rw [BT.get_ins o T N hs b,if_neg (Nat.ne_of_lt h1)]
  exact e
 rest:=λhi=>hi
 add:=by
  intro a x u S q S' Γ p hi h
  refine Cd h λq1 h1=>A7 h1 λl q2 h2=>PE h2 λq3 h3=>Cd h3 λq4 h4=>Fp h4 λa1 a2=>?_
  subst a1 a2
  obtain ⟨k1,k2⟩:=VT (prog:=prog) (u:=u) (Γ:=Γ) (p:=p) hi (BW q1) q2 q3 (BW q4)
  refine ⟨k1,?_⟩
  obtain ⟨⟨T,N,life,gens,drawn,toks,os⟩,gh⟩:=S
  intro b l' hb
  obtain ⟨es,ep,t,e,_⟩:=Dl hi (BW q1) q2
  have hb':EG b (Km a (x::l) gh)=some l':=hb
  rw [PT] at hb'
  by_cases z:b=a
  ·subst z
   rw [if_pos rfl] at hb'
   cases hb'
   refine ⟨BW q1,_,(pkA prog w Γ p b x u l ⟨⟨T,N,life,gens,drawn,toks,os⟩,gh⟩).ep,_,?_,k2⟩
   show (T.set b _).get b=_
   rw [BT.get_set,if_pos rfl,show T.get b=_ from e]
   rfl
  ·rw [if_neg z] at hb'
   obtain ⟨h1,es',ep',t',e',Z⟩:=hi b l' hb'
   refine ⟨h1,es',ep',t',?_,Z⟩
   show (T.set a _).get b=_
   rw [BT.get_set,if_neg z]
   exact e'
 or:=by
  intro a b S v S' Γ p hi hc h
  refine A7 h λl q1 h1=>A7 h1 λm q2 h2=>A7 h2 λx qx h3=>Cd h3 λq3 h4=>Fp h4 λa1 a2=>?_
  subst a1 a2
  rw [SM qx] at q2
  refine F1 q3 λq c8=>F1 q λq c7=>F1 q λq c6=>F1 q λq c5=>F1 q λq c4=>F1 q λq c3=>F1 q λc1 c2=>?_
  obtain ⟨es,ep,t,e,Z⟩:=Dl hi (BW c1) q1
  obtain ⟨es',ep',t',e',Z'⟩:=Dl hi (BW c2) q2
  have sz:S.sh.abs.heap.objs.size=S.sh.n:=absHeap_size ..
  have K:=Up (prog:=prog) (w:=w) (l:=x::l) (S:=S) (p:=p) hc P0 c8 λA=>UT Z Z' (Dm (BW c1) e) (Dm (BW c2) e') (Dk (VV c3)) (EV (VV c4)) (BW c5) c6 (BW c7)
   λes2 ep2 t2 Z2=>⟨es2,ep2,t2,Z2,by rw [sz],rfl⟩
  exact ⟨K.1,Kq hi K.2 c8⟩
 sub:=by
  intro a b S v S' Γ p hi hc h
  refine A7 h λl q1 h1=>A7 h1 λl' q2 h2=>Cd h2 λq3 h3=>Fp h3 λa1 a2=>?_
  subst a1 a2
  refine F1 q3 λq c8=>F1 q λq c6=>F1 q λq c5=>F1 q λq c4=>F1 q λq c3=>F1 q λc1 c2=>?_
  obtain ⟨es,ep,t,e,Z⟩:=Dl hi (BW c1) q1
  obtain ⟨es',ep',t',e',Z'⟩:=Dl hi (BW c2) q2
  have sz:S.sh.abs.heap.objs.size=S.sh.n:=absHeap_size ..
  have K:=Up (prog:=prog) (w:=w) (l:=G7 l l') (S:=S) (p:=p) hc Ol c8 λA=>SK Z Z' (Dm (BW c1) e) (Dm (BW c2) e') c3 (BW c4)
   (λz=>by rw [show Nat.blt l.length (l'.length / 8)=true from Nat.ble_eq_true_of_le z] at c5;cases c5) (Nat.le_of_ble_eq_true c6)
   λes2 ep2 t2 Z2=>⟨es2,ep2,t2,Z2,by rw [sz],rfl⟩
  exact ⟨K.1,Kq hi K.2 c8⟩
 loop:=λa it=>P1 prog w _
end Mh
end
section
open PySem PySem.W PySem.Calls PyProof.Rows
open PySem.Sem (wp)
set_option maxRecDepth 10000
namespace Mh
def mo (p:Program)(w:World):Model:=⟨denote treeTable,p,w⟩
theorem P3 (p:Program)(w:World):mo p w=model p w:=by unfold mo;rw [<- table_eq_tree];rfl
def X6:Ctx:=⟨.builtin "claim.caller" {},none,none,[],none⟩
def bt (l:List Obj):BT:=(l.foldl (λ(x:BT × Nat) o=>(x.1.ins x.2 o,x.2+1)) (BT.nil,0)).1
def z5 (w:World)(os:OsState):SX:=⟨⟨bt (boot_heap w.params).objs.toList,11,(boot_heap w.params).life,#[],boot_drawn,boot_toks,os⟩,[]⟩
def EW (p:Program)(w:World)(os:OsState):Option (Lf × Pos × SX):=
 evW (mo p w) (evC (mo p w) (Uq p w) 100000 1000) 100000 X6 default (topStub p).cur (z5 w os)
theorem LK (w:World)(os:OsState):(z5 w os).sh.abs=⟨boot_heap w.params,#[],boot_drawn,boot_toks,os⟩:=by kernel_rfl
def SO {V:Type}(T:BT):Nat->List Obj->(List Obj->V)->Option V
 | 0,acc,k=>some (k acc)
 | n+1,acc,k=>match T.get n with
  | some ⟨c,d,dt,sl⟩=>SO T n (⟨c,d,dt,sl⟩::acc) k
  | none=>none
set_option tactic.hygienic true in
theorem SP {V:Type}(T:BT)(k:List Obj->V)(n:Nat):∀ (acc:List Obj) (a:V),SO T n acc k=some a->a=k ((range n).map (λi=>(T.get i).getD default)++acc):=by
 induction n with
 | zero=>intro acc a h;cases h;rfl
 | succ n ih=>
  intro acc a h
  unfold SO at h
  split at h
  ·rename_i c d dt sl e
   have:=ih _ _ h
   rw [this,range_succ,map_append,append_assoc]
   simp [e]
  ·cases h
def M9:Lf->Bool
 | .fin (.done (.ret .none))=>true
 | _=>false
theorem LL {l:Lf}(h:M9 l=true):l = .fin (.done (.ret .none)):=by
 cases l with
 | fin f=>
  cases f with
  | again=>cases h
  | done f=>
   cases f with
   | ret v=>
    cases v with
    | none=>rfl
    | _=>cases h
   | _=>cases h
 | _=>cases h
def Wt {V:Type}(k:Shared->V)(g:List (Addr × List Str)->Bool):SX->Option V
 | ⟨⟨T,N,life,gens,drawn,toks,os⟩,gh⟩=>cond (g gh) (SO T N [] λl=>k ⟨⟨⟨l⟩,life⟩,gens,drawn,toks,os⟩) none
def DG {V:Type}(r:Option (Lf × Pos × SX))(k:Shared->V)(g:List (Addr × List Str)->Bool):Option V:=r.bind λx=>cond (M9 x.1) (Wt k g x.2.2) none
theorem LM {V:Type}{r:Option (Lf × Pos × SX)}{k:Shared->V}{g:List (Addr × List Str)->Bool}{a:V}(h:DG r k g=some a) :
  ∃ q S,r=some (.fin (.done (.ret .none)),q,S)/\a=k S.sh.abs/\g S.gh=true:=by
 refine A7 h λx e h=>Cd h λe1 h=>?_
 obtain ⟨l,q,S⟩:=x
 obtain ⟨⟨T,N,life,gens,drawn,toks,os⟩,gh⟩:=S
 rw [show l=_ from LL e1] at e
 refine Cd h λe2 h=>⟨q,_,e,?_,e2⟩
 have:=SP T _ N [] a h
 rw [append_nil] at this
 exact this
theorem EX {g:GenState}(h:g.forget = .finished):g = .finished:=by cases g <;> first | rfl | cases h
theorem Ku {σ s:Shared}(h:σ.forget=s.forget)(hg:∀ g∈s.gens,match g with | .finished=>True | _=>False):σ=s:=by
 obtain ⟨h1,g1,d1,t1,o1⟩:=σ
 obtain ⟨h2,g2,d2,t2,o2⟩:=s
 simp only [Shared.forget,Shared.mk.injEq] at h
 obtain ⟨rfl,hm,rfl,rfl,rfl⟩:=h
 have:g1=g2:=by
  have sz:g1.size=g2.size:=by have:=congrArg Array.size hm;simpa using this
  apply Array.ext sz
  intro i hi1 hi2
  have e:(g1.map GenState.forget)[i]'(by simpa using hi1)=(g2.map GenState.forget)[i]'(by simpa using hi2):=by simp only [hm]
  rw [Array.getElem_map,Array.getElem_map] at e
  have hf:=hg g2[i] (Array.getElem_mem hi2)
  have e2:g2[i] = .finished:=by revert hf;cases g2[i] <;> simp
  rw [e2] at e ⊢
  exact EX e
 rw [this]
theorem P4 {p:Program}{w:World}{os:OsState}{q:Pos}{S:SX}(h:EW p w os=some (.fin (.done (.ret .none)),q,S))(hz:(z5 w os).sh.abs.asleep)
  (hg:∀ g∈S.sh.gens,match g with | .finished=>True | _=>False) :
  (∃ n t,schedN (denote table) p w n (.single (z5 w os).sh.abs (topStub p)) = .running (.single S.sh.abs t)/\through t=true)/\Inv w S:=by
 have hi:Inv w (z5 w os):=λa l e=>by cases e
 obtain ⟨L,hI⟩:=PH (M:=mo p w) (by rw [P3];exact P2 p w) (λΓ p' S e S' hi h=>UQ (by rw [P3];exact P2 p w) _ _ _ _ _ _ _ hi h) _ _ _ _ _ _ _ _ hi h
 refine ⟨?_,hI⟩
 rw [P3] at L
 have L':∀ (R:Result->Shared->Prop),R (.ok (.ret .none)) S.sh.abs->wp (model p w) X6 (topStub p).cur (Sem.finPost (model p w) X6 R) (λe U s'=>R (.error e) s') default (z5 w os).sh.abs:=
  λR hR=>L _ _ hR
 obtain ⟨n,r,s',c',p',hn,rfl,rfl⟩:=wp_runN (M:=model p w) (base:=[]) (c:=.builtin "claim.caller" {}) (L' (λr s'=>r = .ok (.ret .none)/\s'=S.sh.abs) ⟨rfl,rfl⟩)
 have hlc:leftWithCleanup S.sh.abs.gens=false:=leftWithCleanup_false_of_bare λx hx=>by
  have:=hg x hx
  revert this
  cases x <;> simp [GenState.bare]
 obtain ⟨N,r2,s2,hN,_⟩:=(wp_iff_halts (M:=model p w) (c:=.builtin "claim.caller" {}) (topStub p).cur (λr s'=>r = .ok (.ret .none)/\s'=S.sh.abs) default (z5 w os).sh.abs).mp
  (L' (λr s'=>(r = .ok (.ret .none)/\s'=S.sh.abs)/\leftWithCleanup s'.gens=false) ⟨⟨rfl,rfl⟩,hlc⟩)
 have hend:(outcomeOf r2).ends=true:=outcomeOf_ends r2
 obtain ⟨s3,hr3,_,hcalm⟩:=runNI_real _ _ _ hN hend
 have hne:∀ k w0,runN (model p w).den (model p w).prog (model p w).w k (z5 w os).sh.abs ⟨(topStub p).cur,.builtin "claim.caller" {},default,[]⟩≠.halted (.unsupported "lifetime:generator-with-cleanup-left-suspended") w0:=by
  intro k w0 hk
  have a:=runN_mono _ _ _ _ k _ _ _ _ hr3
  have b:=runN_mono _ _ _ k N _ _ _ _ hk
  rw [Nat.add_comm,b] at a
  injection a with a1 _
  rw [<- a1] at hend;exact absurd hend (by simp [Outcome.ends])
 obtain ⟨σ,tau,hr,hσ,htau⟩:=runNI_running_real hn
 have hsch:=(schedN_eq_runN _ _ _ _ _ hz ⟨hcalm,hne⟩ n).trans (congrArg Run.lift hr)
 obtain rfl:σ=S.sh.abs:=Ku hσ hg
 obtain ⟨cur,code,pos,stack⟩:=tau
 simp only [Thread.forget,Thread.mk.injEq,forgetAll] at htau
 obtain ⟨rfl,rfl,rfl,e5⟩:=htau
 have hst:stack=[]:=by cases stack with | nil=>rfl | cons x xs=>simp at e5
 subst hst
 exact ⟨n,_,hsch,rfl⟩
def Ur (h:Heap):List (Option Obj):=(range 11).map λb=>match Nat.beq b 3||Nat.beq b 2 with
 | true=>none
 | false=>h.objs[b]?
abbrev look {V:Type}(p q:Program)(loose:List Str)(w:World)(Yf:Shared->V)(s:Shared):=
 ((staticsOk (importedModules p.main.body) (boot_heap w.params) s.heap&&namesBound p s.heap&&gensDone s&&laidKept (boot_heap w.params) s.heap),
  openSeen q loose (importedModules p.main.body) (λU=>true) false s,Ur s.heap,s.heap.life,s.os,Yf s)
abbrev LN {V:Type}(q:Program)(loose:List Str)(w:World)(os:OsState)(Ya:V):=(true,openGood q loose,Ur (boot_heap w.params),(boot_heap w.params).life,os,Ya)
theorem LO {P:World->Prop}(r1 r2:String)(h:∀ (b1 b2:Bool) (w:World),P ((w.withFollow r1 b1).withFollow r2 b2)):∀ w,P w:=λw=>by
 have:=h (w.params.followText r1) (w.params.followText r2) w
 rw [World.withFollow_self,World.withFollow_self] at this
 exact this
theorem Om (P:Params):(boot_heap P).objs.size=11:=by kernel_rfl
def Na {V:Type}(p q:Program)(loose:List Str)(Yf:Shared->V)(Ya:World->V)(g:List (Addr × List Str)->Bool)(w:World):Prop:=
 (∃ s,AfterRun (opening p) w s)/\∀ s,AfterRun (opening p) w s->∃ W3,fenceModules? p s=some W3/\W3.gens = #[]/\∃ S:SX,Inv w S/\g S.gh=true/\Yf S.sh.abs=Ya w/\TopRan p w W3 S.sh.abs/\S.sh.abs.asleep/\leftWithCleanup S.sh.abs.gens=false /\
  S.sh.abs.heap.isNs mainGlobals=true/\Ground q loose [] (λU U=>True) w S.sh.abs (S.sh.abs.heap.nsMap mainGlobals) (S.sh.abs.heap.nsMap builtinsNs) S.sh.abs.heap
theorem UY {V:Type}{p q:Program}{loose:List Str}{Yf:Shared->V}{Ya:World->V}{g:List (Addr × List Str)->Bool}{w:World}(hopen:opening p=plainProg p.main.scope.names)(hf:∀ s,fenceModules? p s=some s)(hch:chainsOk q=true)
  (run:∀ os:OsState,DG (EW p w os) (look p q loose w Yf) g=some (LN q loose w os (Ya w))):Na p q loose Yf Ya g w:=by
 have hb:=boot_open hopen (N:=600) (by decide) hf w
 rw [<- table_eq_tree] at hb
 obtain ⟨W3,h2,hv⟩:=Option.map_eq_some_iff.mp hb
 obtain ⟨s,h4,h5⟩:=Option.bind_eq_some_iff.mp h2
 have A:=AfterImport.of_importEnds h4
 refine ⟨⟨s,A⟩,λs' hs'=>?_⟩
 obtain rfl:s'=s:=AfterImport.unique hs' A
 have z:W3.asleep:=Shared.asleep_of_life (fence_lifeW h5) A.life
 obtain ⟨h,gs,d,k,os⟩:=W3
 obtain ⟨rfl,rfl,rfl,rfl⟩:h=boot_heap w.params/\gs = #[]/\d=boot_drawn/\k=boot_toks:=by simpa using hv
 rw [<- LK] at z
 obtain ⟨qp,S,hr,hk,hg⟩:=LM (run os)
 simp only [look,LN,Prod.mk.injEq] at hk
 obtain ⟨k1,k2,k3,k4,k5,k6⟩:=hk
 simp only [eq_comm (a:=true),and_eq_true] at k1
 obtain ⟨⟨⟨a1,a2⟩,a3⟩,a4⟩:=k1
 have hfin:=gens_of_done a3
 obtain ⟨⟨n,t,hs,ht⟩,hI⟩:=P4 hr z hfin
 rw [LK] at hs
 have hlc:leftWithCleanup S.sh.abs.gens=false:=leftWithCleanup_false_of_bare λx hx=>by
  have:=hfin x hx
  revert this
  cases x <;> simp [GenState.bare]
 obtain ⟨G,_,g1,g2,g3,g4,g5⟩:=ground_of_open (w:=w) (s:=S.sh.abs) (XP:=λU U=>True) (λU U=>trivial) hch k2.symm
 rw [LK] at z
 refine ⟨⟨boot_heap w.params,#[],boot_drawn,boot_toks,os⟩,h5,rfl,S,hI,hg,k6.symm,⟨⟨n,t,hs,ht⟩,k4.symm,Shared.rest_eq k5.symm,λb o hb hn=>?_,g2,statics_of_ok a1,g3,g4,g5,hfin,names_of_bound a2,laid_of_kept a4⟩,Shared.asleep_of_life k4.symm z,hlc,g1,G⟩
 have lt:b<11:=by have:=lt_size hb;rw [Om] at this;exact this
 have e:=List.map_inj_left.mp k3 b (mem_range.mpr lt)
 have n3:b≠3:=λq=>hn (.inl q)
 have n2:b≠2:=λq=>hn (.inr (.inl q))
 have bb:(Nat.beq b 3||Nat.beq b 2)=false:=by
  rw [BT.beq_eq,BT.beq_eq];simp [n3,n2]
 simp only [bb] at e
 unfold Heap.get? at hb ⊢
 rw [<- e]
 exact hb
end Mh
end
section
open PySem PySem.W PyProof.Rows
set_option maxRecDepth 10000
namespace Mi
abbrev Txt:=List Nat
set_option genCtorIdx true in
inductive PV where
 | none
 | bool (b:Bool)
 | int (i:Int)
 | str (s:Txt)
 | tup (l:List PV)
 | lst (i:Nat)
 | ints (l:List Int)
 | rng (a b c:Int)
 | dct (ks vs:List PV)
 | fn (k:Nat)
 | fset (k:Nat)
 | mp
 deriving Inhabited
set_option genCtorIdx true in
inductive PX where
 | std (n:String)
 | toml (m:Txt)
 deriving Inhabited,DecidableEq
structure PS where
 loc:Nat->Option PV
 st:List (List PV)
set_option genCtorIdx true in
inductive R (V:Type) where
 | ok (a:V) (s:PS)
 | ex (e:PX) (s:PS)
 | stuck
abbrev M (V:Type):=PS->R V
def ae {V:Type}(a:V):M V:=λs=>.ok a s
def ac {V β:Type}(m:M V)(f:V->M β):M β:=λs=>match m s with
 | .ok a s'=>f a s'
 | .ex e s'=>.ex e s'
 | .stuck=>.stuck
def ar {V:Type}:M V:=λU=>.stuck
def aK {V:Type}(e:PX):M V:=λs=>.ex e s
def aJ {V:Type}(hd:Bool)(n:String):M V:=λs=>if hd then .stuck else .ex (.std n) s
def af (i:Nat):M PV:=λs=>match s.loc i with
 | some v=>.ok v s
 | none=>.stuck
def aj (i:Nat)(v:PV):M Unit:=λs=>.ok () { s with loc:=λj=>if j=i then some v else s.loc j }
def aw {V:Type}(o:Option V):M V:=λs=>match o with
 | some a=>.ok a s
 | none=>.stuck
def am {V:Type}(c:Bool)(m:M V):M V:=λs=>if c then m s else .stuck
def txt (s:Txt):Str:=⟨s.toArray⟩
def ctl (c:Nat):Bool:=(c<32||c==127)
def hexd (c:Nat):Bool:=(48<=c&&c<=57)||(97<=c&&c<=102)||(65<=c&&c<=70)
def Am:Nat->Nat->Bool
 | 0,c=>ctl c&&c != 9
 | 1,c=>ctl c&&c != 9&&c != 10
 | 2,c=>c==32||c==9
 | 3,c=>c==32||c==9||c==10
 | 4,c=>hexd c
 | _,c=>(48<=c&&c<=57)||(97<=c&&c<=122)||(65<=c&&c<=90)||c==45||c==95
def G8 (k:Nat):Txt->Bool
 | [c]=>Am k c
 | _=>false
def F2 (k:Nat)(x:Str):Bool:=G8 k x.cps.toList
def Es:List (Txt × Txt):=[([92,98],[8]),([92,116],[9]),([92,110],[10]),([92,102],[12]),([92,114],[13]),([92,34],[34]),([92,92],[92])]
def escT (x:Txt):Option Txt:=Es.lookup x
structure Hd where
 prog:Program
 w:World
 mg:Str->Option Value
 mb:Str->Option Value
 fnv:Nat->Addr
 setv:Nat->Option Addr
 mpv:Addr
 toml:Addr
 tabPos:Pos
 tabQ:Str
 tabP:Addr
def Bl:List Str:=["len", "chr", "ord", "abs", "str", "int", "list", "range", "sum", "min", "max", "IndexError", "ValueError", "KeyError"]
def P5:List Value:=[.type "ValueError",.type "Exception",.type "BaseException",.type "object"]
structure ClsAt (C:Addr)(h:Heap):Prop where
 at_:∃ nm q N bs hdct sn sub ab col dd k0 k1 k2 k3 k5 mN,h.get? C=some (excClassObj nm q C N bs P5 hdct sn sub ab col dd k0 k1 k2 k3 k5 "ValueError.__new__")/\h.Ns N mN /\
  ∀ x∈(["__init__", "__getattribute__", "__getattr__", "args", "__str__", "__repr__", "__new__"]:List Str),mN x=none
theorem ClsAt.keeps {C:Addr}{h h':Heap}(x:ClsAt C h)(k:∀ b o,h.get? b=some o->h'.get? b=some o):ClsAt C h':=by
 obtain ⟨nm,q,N,bs,hdct,sn,sub,ab,col,dd,k0,k1,k2,k3,k5,mN,h1,h2,h3⟩:=x.at_
 exact ⟨nm,q,N,bs,hdct,sn,sub,ab,col,dd,k0,k1,k2,k3,k5,mN,k _ _ h1,h2.keeps k,h3⟩
structure Hd.At (H:Hd)(h:Heap):Prop where
 g:h.Ns mainGlobals H.mg
 b:h.Ns builtinsNs H.mb
 lim:h.NoLimit
 sysm:(h.get? sysModules).isSome=true
 bu:∀ x:Str,x≠"__name__"->H.mb x=bootBuiltins x
 free:∀ x∈Bl,H.mg x=none
 toml:H.mg "TOMLDecodeError" = some (.ref H.toml)
 tomlC:ClsAt H.toml h
 bmain:∃ bm ob,H.mg "__builtins__" = some (.ref bm)/\bm≠builtinsNs/\h.get? bm=some ob/\ob.cls = .type "module"/\ob.dict=some builtinsNs/\ob.data = .plain
 sets:∀ k a,H.setv k=some a->∃ n,FrozAt (strKind H.prog H.w) h a (F2 k) n/\n<4096
 mp:∃ o d f,h.get? H.mpv=some o/\o.cls = .type "mappingproxy"/\o.data = .fields #[.ref d]/\(d==sysModules)=false/\h.MapOf (strKind H.prog H.w) d f /\
  ∀ x:Txt,(escT x=none->f (txt x)=none)/\∀ t,escT x=some t->∃ tk,f (txt x)=some (.str (txt t) tk)
mutual
inductive RepV (H:Hd)(h₀:Heap)(av V:List Addr)(h:Heap):PV->Value->Prop
 | none:RepV H h₀ av V h .none .none
 | bool (b:Bool):RepV H h₀ av V h (.bool b) (.bool b)
 | int (i:Int) (t:Tok):RepV H h₀ av V h (.int i) (.int i t)
 | str (s:Txt) (t:Tok):RepV H h₀ av V h (.str s) (.str (txt s) t)
 | tup {l:List PV} {a:Addr} {vs:List Value} (ha:a∉av) (hi:IsTup h a vs.toArray) (r:RepL H h₀ av V h l vs):RepV H h₀ av V h (.tup l) (.ref a)
 | lst {i:Nat} {a:Addr} (hi:V[i]? = some a):RepV H h₀ av V h (.lst i) (.ref a)
 | ints {l:List Int} {a:Addr} {vs:Array Value} (hi:h₀.IsList a vs) (hv:IntsAre vs.toList l):RepV H h₀ av V h (.ints l) (.ref a)
 | fn (k:Nat):RepV H h₀ av V h (.fn k) (.ref (H.fnv k))
 | fset (k:Nat) {a:Addr} (e:H.setv k=some a):RepV H h₀ av V h (.fset k) (.ref a)
 | mp:RepV H h₀ av V h .mp (.ref H.mpv)
 | dct {ks vs:List PV} {a:Addr} {o:Obj} {es:Array DictEntry} {ep:Nat} (ha:a∉av/\(a==sysModules)=false) (ho:h.get? a=some o) (hx:o.ExactDict) (hd:o.data = .dict es ep) (hk:KeysOf (strKind H.prog H.w) es\/KeysOf (intKind H.prog H.w) es)
   (rk:RepL H h₀ av V h ks (es.toList.map (·.key))) (rv:RepL H h₀ av V h vs (es.toList.map (·.val))):RepV H h₀ av V h (.dct ks vs) (.ref a)
inductive RepL (H:Hd)(h₀:Heap)(av V:List Addr)(h:Heap):List PV->List Value->Prop
 | nil:RepL H h₀ av V h [] []
 | cons {p:PV} {v:Value} {l:List PV} {vs:List Value} (r:RepV H h₀ av V h p v) (rs:RepL H h₀ av V h l vs):RepL H h₀ av V h (p::l) (v::vs)
end
section
variable {H:Hd}{h₀:Heap}{av V:List Addr}{h:Heap}
theorem RepL.ind {P:List PV->List Value->Prop}(h0:P [] [])(h1:∀ p v l vs,RepV H h₀ av V h p v->RepL H h₀ av V h l vs->P l vs->P (p::l) (v::vs)){l:List PV}{vs:List Value}(r:RepL H h₀ av V h l vs):P l vs:=
 RepL.rec (motive_1:=λU U U=>True) (motive_2:=λl vs U=>P l vs) trivial (λU=>trivial) (λU U=>trivial) (λU U=>trivial) (λU U U U=>trivial) (λU=>trivial) (λU U=>trivial) (λU=>trivial) (λU U U=>trivial) trivial
  (λU U U U U U U U U=>trivial) h0 (λr rs U ih=>h1 _ _ _ _ r rs ih) r
theorem RepL.length {l:List PV}{vs:List Value}(r:RepL H h₀ av V h l vs):l.length=vs.length:=
 r.ind (P:=λl vs=>l.length=vs.length) rfl λU U U U U U ih=>congrArg (·+1) ih
theorem RepL.get {l:List PV}{vs:List Value}(r:RepL H h₀ av V h l vs):∀ (i:Nat) p,l[i]? = some p->∃ v,vs[i]? = some v/\RepV H h₀ av V h p v:=
 r.ind (P:=λl vs=>∀ (i:Nat) p,l[i]? = some p->∃ v,vs[i]? = some v/\RepV H h₀ av V h p v) (λi p e=>nomatch (show none=some p from e)) λq w U U r' U ih i=>Nat.casesOn (motive:=λi=>∀ p,(q::_)[i]? = some p->∃ v,(w::_)[i]? = some v/\RepV H h₀ av V h p v) i (λp e=>⟨w,rfl,aU e▸r'⟩) λj p e=>ih j p e
theorem RepL.append {l:List PV}{vs:List Value}{l':List PV}{vs':List Value}(r:RepL H h₀ av V h l vs)(r':RepL H h₀ av V h l' vs'):RepL H h₀ av V h (l++l') (vs++vs'):=
 r.ind (P:=λl vs=>RepL H h₀ av V h (l++l') (vs++vs')) r' λU U U U q U ih=>.cons q ih
def UZ (H:Hd)(h₀:Heap)(av V:List Addr)(h:Heap):PV->Value->Prop
 | .none,v=>v = .none
 | .bool b,v=>v = .bool b
 | .int i,v=>∃ t,v = .int i t
 | .str s,v=>∃ t,v = .str (txt s) t
 | .tup l,v=>∃ a vs,v = .ref a/\a∉av/\IsTup h a vs.toArray/\RepL H h₀ av V h l vs
 | .lst i,v=>∃ a,v = .ref a/\V[i]? = some a
 | .ints l,v=>∃ a vs,v = .ref a/\h₀.IsList a vs/\IntsAre vs.toList l
 | .fn k,v=>v = .ref (H.fnv k)
 | .fset k,v=>∃ a,v = .ref a/\H.setv k=some a
 | .mp,v=>v = .ref H.mpv
 | .dct ks vs,v=>∃ a o es ep,v = .ref a/\(a∉av/\(a==sysModules)=false)/\h.get? a=some o/\o.ExactDict/\o.data = .dict es ep/\(KeysOf (strKind H.prog H.w) es\/KeysOf (intKind H.prog H.w) es)/\RepL H h₀ av V h ks (es.toList.map (·.key))/\RepL H h₀ av V h vs (es.toList.map (·.val))
 | .rng _ _ _,_=>False
theorem RepV.inv {p:PV}{v:Value}(r:RepV H h₀ av V h p v):UZ H h₀ av V h p v:=by
 cases r
 ·exact rfl
 ·exact rfl
 ·exact ⟨_,rfl⟩
 ·exact ⟨_,rfl⟩
 ·exact ⟨_,_,rfl,‹_›,‹_›,‹_›⟩
 ·exact ⟨_,rfl,‹_›⟩
 ·exact ⟨_,_,rfl,‹_›,‹_›⟩
 ·exact rfl
 ·exact ⟨_,rfl,‹_›⟩
 ·exact rfl
 ·exact ⟨_,_,_,_,rfl,‹_›,‹_›,‹_›,‹_›,‹_›,‹_›,‹_›⟩
def Nb (H:Hd)(h₀:Heap)(av V:List Addr)(h:Heap):List PV->List Value->Prop
 | [],vs=>vs=[]
 | p::l,vs=>∃ v ws,vs=v::ws/\RepV H h₀ av V h p v/\RepL H h₀ av V h l ws
theorem RepL.inv {l:List PV}{vs:List Value}(r:RepL H h₀ av V h l vs):Nb H h₀ av V h l vs:=
 r.ind (P:=Nb H h₀ av V h) rfl λU U U U q qs U=>⟨_,_,rfl,q,qs⟩
theorem DH {av' α':List Addr}{h':Heap}(ft:∀ a vs,a∉av->IsTup h a vs->a∉av'/\IsTup h' a vs)(fl:∀ (i:Nat) a,V[i]? = some a->α'[i]? = some a)(fd:∀ a o es ep,a∉av->h.get? a=some o->o.ExactDict->o.data = .dict es ep->a∉av'/\h'.get? a=some o) :
  (∀ {p:PV} {v:Value},RepV H h₀ av V h p v->RepV H h₀ av' α' h' p v)/\∀ {l:List PV} {vs:List Value},RepL H h₀ av V h l vs->RepL H h₀ av' α' h' l vs:=by
 have m1:∀ (l:List PV) (a:Addr) (vs:List Value),a∉av->IsTup h a vs.toArray->RepL H h₀ av' α' h' l vs->RepV H h₀ av' α' h' (.tup l) (.ref a):=λl a vs ha hi r=>.tup (ft a _ ha hi).1 (ft a _ ha hi).2 r
 have m2:∀ (ks vs:List PV) (a:Addr) (o:Obj) (es:Array DictEntry) (ep:Nat),(a∉av/\(a==sysModules)=false)->h.get? a=some o->o.ExactDict->o.data = .dict es ep->(KeysOf (strKind H.prog H.w) es\/KeysOf (intKind H.prog H.w) es)->RepL H h₀ av' α' h' ks (es.toList.map (·.key))->RepL H h₀ av' α' h' vs (es.toList.map (·.val))->RepV H h₀ av' α' h' (.dct ks vs) (.ref a):=
  λks vs a o es ep ha ho hx hd hk rk rv=>.dct ⟨(fd a o es ep ha.1 ho hx hd).1,ha.2⟩ (fd a o es ep ha.1 ho hx hd).2 hx hd hk rk rv
 exact ⟨λr=>RepV.rec (motive_1:=λp v U=>RepV H h₀ av' α' h' p v) (motive_2:=λl vs U=>RepL H h₀ av' α' h' l vs) .none .bool .int .str (λha hi U ih=>m1 _ _ _ ha hi ih) (λhi=>.lst (fl _ _ hi)) (λhi hv=>.ints hi hv) .fn (λk U e=>.fset k e) .mp (λha ho hx hd hk U U rk rv=>m2 _ _ _ _ _ _ ha ho hx hd hk rk rv) .nil (λU U a b=>.cons a b) r,
  λr=>RepL.rec (motive_1:=λp v U=>RepV H h₀ av' α' h' p v) (motive_2:=λl vs U=>RepL H h₀ av' α' h' l vs) .none .bool .int .str (λha hi U ih=>m1 _ _ _ ha hi ih) (λhi=>.lst (fl _ _ hi)) (λhi hv=>.ints hi hv) .fn (λk U e=>.fset k e) .mp (λha ho hx hd hk U U rk rv=>m2 _ _ _ _ _ _ ha ho hx hd hk rk rv) .nil (λU U a b=>.cons a b) r⟩
end
structure Fm where
 env:Env
 stk:List Env
 av:List Addr
 own0:List Addr
 tab:List Addr
 sc:List (Str × NameKind × Nat)
 hdl:Option Value
def Fm.own (fm:Fm):List Addr:=fm.tab++fm.own0
def Cv (H:Hd)(h:Heap)(P:Addr):Prop:=
 ∃ ps,h.get? P=some { cls:=.none,data:=.fields ps }/\(ps = #[]\/∃ c oc vs t,ps = #[rawInt H.tabPos.line,rawInt H.tabPos.col,.ref c]/\h.get? c=some oc/\oc.cls = .type "code"/\oc.data = .fields vs/\vs[1]? = some (.str H.tabQ t))
theorem Cv.keeps {H:Hd}{h h':Heap}{P:Addr}(x:Cv H h P)(k:∀ b o,h.get? b=some o->h'.get? b=some o):Cv H h' P:=by
 obtain ⟨ps,e,q⟩:=x
 refine ⟨ps,k _ _ e,?_⟩
 rcases q with q | ⟨c,oc,vs,t,q1,q2,q3⟩
 ·exact .inl q
 ·exact .inr ⟨c,oc,vs,t,q1,k _ _ q2,q3⟩
theorem Cv.same {H:Hd}{h h':Heap}{P a:Addr}(x:Cv H h P)(S:Heap.SameBut a h h')(n:∀ o vs,h.get? a=some o->o.data≠.fields vs):Cv H h' P:=by
 obtain ⟨ps,e,q⟩:=x
 refine ⟨ps,(S.2 P λz=>n _ ps (z▸e) rfl).trans e,?_⟩
 rcases q with q | ⟨c,oc,vs,t,q1,q2,q3,q4,q5⟩
 ·exact .inl q
 ·exact .inr ⟨c,oc,vs,t,q1,(S.2 c λz=>n oc vs (z▸q2) q4).trans q2,q3,q4,q5⟩
def frs (stk:List Env):List Addr:=stk.filterMap (·.frame)
structure Rel (stk:List Env)(own V:List Addr)(h h':Heap):Prop where
 keep:∀ b o,h.get? b=some o->b∉frs stk->b∉own->b∉V->h'.get? b=some o
 slot:∀ b o,h.get? b=some o->b∈frs stk->b∉own->b∉V->∃ sl,h'.get? b=some { o with slots:=sl }
 live:∀ b,h'.get? b=none->h.get? b=none
theorem Rel.refl (stk:List Env)(own V:List Addr)(h:Heap):Rel stk own V h h:=⟨λU U e U U U=>e,λU o e U U U=>⟨o.slots,e⟩,λU e=>e⟩
theorem Rel.of_keeps {stk:List Env}{own V:List Addr}{h h':Heap}(k:∀ b o,h.get? b=some o->h'.get? b=some o):Rel stk own V h h':=
 ⟨λb o e U U U=>k b o e,λb o e U U U=>⟨o.slots,k b o e⟩,λb e=>by
  cases q:h.get? b with
  | none=>rfl
  | some o=>rw [k b o q] at e;cases e⟩
theorem Rel.mono {stk:List Env}{own own' V:List Addr}{h h':Heap}(x:Rel stk own V h h')(k:∀ b∈own,b∈own'):Rel stk own' V h h':=
 ⟨λb o e h1 h2 h3=>x.keep b o e h1 (λq=>h2 (k b q)) h3,λb o e h1 h2 h3=>x.slot b o e h1 (λq=>h2 (k b q)) h3,x.live⟩
theorem Rel.trans {stk:List Env}{own V α':List Addr}{h₁ Y2 Z3:Heap}(x:Rel stk own V h₁ Y2)(y:Rel stk own α' Y2 Z3)(n:∀ a∈α',a∉V->h₁.get? a=none):Rel stk own V h₁ Z3:=by
 have q:∀ b o,h₁.get? b=some o->b∉V->b∉α':=λb o e h1 h2=>by rw [n b h2 h1] at e;cases e
 refine ⟨λb o e h1 h2 h3=>y.keep b o (x.keep b o e h1 h2 h3) h1 h2 (q b o e h3),λb o e h1 h2 h3=>?_,λb e=>x.live b (y.live b e)⟩
 obtain ⟨sl,Z0⟩:=x.slot b o e h1 h2 h3
 obtain ⟨sl',Y3⟩:=y.slot b _ Z0 h1 h2 (q b o e h3)
 exact ⟨sl',Y3⟩
structure Grow (V α':List Addr)(h:Heap):Prop where
 pre:V <+: α'
 new:∀ a∈α',a∉V->h.get? a=none
theorem Grow.refl (V:List Addr)(h:Heap):Grow V V h:=⟨prefix_refl _,λa h1 h2=>absurd h1 h2⟩
theorem Grow.trans {V α' α'':List Addr}{h h':Heap}{stk:List Env}{own:List Addr}(x:Grow V α' h)(y:Grow α' α'' h')(r:Rel stk own V h h'):Grow V α'' h:=
 ⟨x.pre.trans y.pre,λa h1 h2=>by
  by_cases q:a∈α'
  ·exact x.new a q h2
  ·exact r.live a (y.new a h1 q)⟩
inductive OptRep (H:Hd)(h₀:Heap)(av V:List Addr)(h:Heap):Option PV->Option Value->Prop
 | none:OptRep H h₀ av V h none none
 | some {p:PV} {v:Value} (r:RepV H h₀ av V h p v):OptRep H h₀ av V h (some p) (some v)
structure ListsAt (H:Hd)(h₀:Heap)(av V:List Addr)(st:List (List PV))(h:Heap):Prop where
 len:V.length=st.length
 at_:∀ (i:Nat) (l:List PV),st[i]? = some l->∃ a vs,V[i]? = some a/\h.PlainList a vs.toArray/\RepL H h₀ av V h l vs
 nodup:V.Nodup
 fresh:∀ a∈V,h₀.get? a=none
 apart:∀ a∈V,a∉av
structure Inv (H:Hd)(h₀:Heap)(fm:Fm)(V:List Addr)(ps:PS)(h:Heap):Prop where
 base:∀ b o,h₀.get? b=some o->h.get? b=some o
 loc:∃ m,h.Ns fm.env.locals m/\∀ x i,(x,NameKind.local,i)∈fm.sc->OptRep H h₀ fm.av V h (ps.loc i) (m x)
 cel:∀ x k i,(x,k,i)∈fm.sc->(k = .cell\/k = .free)->∃ c v,fm.env.cells.lookup x=some c/\c∈fm.av/\c≠fm.env.locals/\h.IsCell c v/\OptRep H h₀ fm.av V h (ps.loc i) v
 lists:ListsAt H h₀ fm.av V ps.st h
 live:∀ a∈fm.av,(h.get? a).isSome=true
 frames:h.FunFrames ⟨#[],{}⟩ fm.stk
 tabs:∀ P∈fm.tab,Cv H h P
structure FmOk (h₀:Heap)(fm:Fm):Prop where
 kind:fm.env.scope.kind = .function
 glob:fm.env.globals=mainGlobals
 bi:fm.env.builtins=builtinsNs
 locAv:fm.env.locals∈fm.av
 locOwn:fm.env.locals∈fm.own
 ownAv:∀ a∈fm.own,a∈fm.av
 frsAv:∀ a∈frs fm.stk,a∈fm.av
 fresh:∀ a∈fm.av,h₀.get? a=none
 kinds:∀ x k i,(x,k,i)∈fm.sc->fm.env.kindOf x=some k\/(k = .free/\fm.env.kindOf x=some .cell)
 once:∀ x k i y k' j,(x,k,i)∈fm.sc->(y,k',j)∈fm.sc->(i=j↔x=y)
 cellOwn:∀ x i c,(x,NameKind.cell,i)∈fm.sc->fm.env.cells.lookup x=some c->c∈fm.own
 cellApart:∀ x k i y k' j c,(x,k,i)∈fm.sc->(y,k',j)∈fm.sc->fm.env.cells.lookup x=some c->fm.env.cells.lookup y=some c->x=y
 frame:∃ e r,fm.stk=e::r/\e.frame=fm.env.frame/\fm.env.frame.isSome=true
theorem FmOk.tabAv {h₀:Heap}{fm:Fm}(F:FmOk h₀ fm):∀ b∈fm.tab,b∈fm.av:=λb m=>F.ownAv b (mem_append_left _ m)
theorem FmOk.kindX {h₀:Heap}{fm:Fm}(F:FmOk h₀ fm){x:Str}{k:NameKind}{i:Nat}(h:(x,k,i)∈fm.sc)(n:k≠.free):fm.env.kindOf x=some k:=by
 rcases F.kinds x k i h with q | q
 ·exact q
 ·exact absurd q.1 n
theorem Dn {h:Heap}{a:Addr}{vs ws:Array Value}(x:IsTup h a vs)(y:h.IsList a ws):False:=by
 obtain ⟨o,h1,h2,_⟩:=x
 obtain ⟨o',h1',h2',_⟩:=y
 rw [h1] at h1';cases h1'
 rw [h2] at h2';exact absurd h2' (by decide)
section
variable {H:Hd}{h₀ h h':Heap}{fm:Fm}{V α':List Addr}{own:List Addr}
theorem ListsAt.isList {av:List Addr}{st:List (List PV)}(x:ListsAt H h₀ av V st h){a:Addr}(m:a∈V):∃ vs,h.IsList a vs:=by
 obtain ⟨i,hi,e⟩:=List.getElem_of_mem m
 obtain ⟨a',vs,h1,h2,_⟩:=x.at_ i _ (getElem?_eq_getElem (x.len▸hi))
 rw [getElem?_eq_getElem hi,e] at h1
 cases h1
 exact ⟨_,h2.isList⟩
theorem IC {av:List Addr}{st:List (List PV)}{stk:List Env}(L:ListsAt H h₀ av V st h)(r:Rel stk own V h h')(g:V <+: α')(hf:∀ b∈frs stk,b∈av)(ho':∀ b∈own,b∈av) :
  (∀ {p:PV} {v:Value},RepV H h₀ av V h p v->RepV H h₀ av α' h' p v)/\∀ {l:List PV} {vs:List Value},RepL H h₀ av V h l vs->RepL H h₀ av α' h' l vs:=by
 refine DH (λa vs ha hi=>⟨ha,?_⟩) (λi a hi=>?_) λa o es ep ha ho hx hd=>⟨ha,r.keep _ _ ho (λq=>ha (hf _ q)) (λq=>ha (ho' _ q)) λq=>?_⟩
 ·obtain ⟨o,e1,e2,e3⟩:=hi
  refine ⟨o,r.keep _ _ e1 (λq=>ha (hf _ q)) (λq=>ha (ho' _ q)) (λq=>?_),e2,e3⟩
  obtain ⟨ws,hl⟩:=L.isList q
  exact Dn ⟨o,e1,e2,e3⟩ hl
 ·obtain ⟨t,rfl⟩:=g
  rw [getElem?_append_left (List.getElem?_eq_some_iff.mp hi).1];exact hi
 ·obtain ⟨ws,o',e1,e2,_⟩:=L.isList q
  rw [ho] at e1;cases e1
  rw [hx.1] at e2;exact absurd e2 (by decide)
theorem RepV.stays {av:List Addr}{st:List (List PV)}{stk:List Env}(L:ListsAt H h₀ av V st h)(r:Rel stk own V h h')(g:V <+: α')(hf:∀ b∈frs stk,b∈av)(ho':∀ b∈own,b∈av){p:PV}{v:Value}(x:RepV H h₀ av V h p v):RepV H h₀ av α' h' p v:=(IC L r g hf ho').1 x
theorem RepL.stays {av:List Addr}{st:List (List PV)}{stk:List Env}(L:ListsAt H h₀ av V st h)(r:Rel stk own V h h')(g:V <+: α')(hf:∀ b∈frs stk,b∈av)(ho':∀ b∈own,b∈av){l:List PV}{vs:List Value}(x:RepL H h₀ av V h l vs):RepL H h₀ av α' h' l vs:=(IC L r g hf ho').2 x
theorem OptRep.map {av av' V α':List Addr}{h h':Heap}(f:∀ {p v},RepV H h₀ av V h p v->RepV H h₀ av' α' h' p v){p:Option PV}{v:Option Value}(r:OptRep H h₀ av V h p v):OptRep H h₀ av' α' h' p v:=by
 cases r with
 | none=>exact .none
 | some q=>exact .some (f q)
theorem OptRep.stays {av:List Addr}{st:List (List PV)}{stk:List Env}(L:ListsAt H h₀ av V st h)(r:Rel stk own V h h')(g:V <+: α')(hf:∀ b∈frs stk,b∈av)(ho:∀ b∈own,b∈av)
  {p:Option PV} {v:Option Value} (x:OptRep H h₀ av V h p v):OptRep H h₀ av α' h' p v:=x.map λq=>q.stays L r g hf ho
end
end Mi
end
set_option backward.match.sparseCases false
section
open PySem PySem.W PyProof.Rows
namespace Mi
set_option genCtorIdx true in
inductive PFlow where
 | next | brk | cont
 | ret (v:PV)
 deriving Inhabited
def big:Nat:=16777216
def au (l:List PV):M PV:=λs=>if l.length<=big then .ok (.lst s.st.length) { s with st:=s.st++[l] } else .stuck
def aq (i:Nat):M (List PV):=λs=>match s.st[i]? with
 | some l=>.ok l s
 | none=>.stuck
def aG (i:Nat)(l:List PV):M Unit:=λs=>if l.length<=big then .ok () { s with st:=s.st.set i l } else .stuck
def aA (t:Txt):M PV:=λs=>if t.length<=big then .ok (.str t) s else .stuck
def ah:List (M PV)->M (List PV)
 | []=>ae []
 | m::r=>ac m λv=>ac (ah r) λvs=>ae (v::vs)
def idx (i:Int)(n:Nat):Option Nat:=
 if 0<=i then (if i.toNat<n then some i.toNat else none) else if 0<=i+n then some (i+n).toNat else none
def bnd (i:Int)(n:Nat):Nat:=if 0<=i then min i.toNat n else (i+n).toNat
def slc {V:Type}(l:List V)(a b:Option Int):List V:=
 let lo:=match a with | some i=>bnd i l.length | none=>0
 let hi:=match b with | some i=>bnd i l.length | none=>l.length
 (l.take hi).drop lo
def small (i:Int):Bool:=i.natAbs<1073741824
def asI:PV->Option Int
 | .int i=>some i
 | _=>none
def asS:PV->Option Txt
 | .str s=>some s
 | _=>none
def asL:PV->Option Nat
 | .lst i=>some i
 | _=>none
theorem AW {p:PV}{i:Int}(h:asI p=some i):p = .int i:=by cases p <;> first | (injection h;done) | (injection h with h;rw [h])
theorem Bf {p:PV}{i:Txt}(h:asS p=some i):p = .str i:=by cases p <;> first | (injection h;done) | (injection h with h;rw [h])
theorem G9 {p:PV}{i:Nat}(h:asL p=some i):p = .lst i:=by cases p <;> first | (injection h;done) | (injection h with h;rw [h])
def ap {V β:Type}:Option V->(V->M β)->M β
 | some a,f=>f a
 | none,_=>ar
theorem A8 {V β:Type}{o:Option V}{f:V->M β}{ps:PS}(ns:ap o f ps≠.stuck):∃ a,o=some a:=by
 cases o with
 | none=>exact absurd rfl ns
 | some a=>exact ⟨a,rfl⟩
theorem P6 {V β:Type}{o:Option V}{f:V->M β}{ps ps':PS}{r:β}(e:ap o f ps = .ok r ps'):∃ a,o=some a:=A8 λq=>by rw [q] at e;injection e
def un {β:Type}:List PV->(PV->List PV->Option β)->Option β
 | [],_=>none
 | p::r,f=>f p r
theorem Ha {β:Type}{l:List PV}{f:PV->List PV->Option β}{b:β}(h:un l f=some b):∃ p r,l=p::r/\f p r=some b:=by
 cases l with
 | nil=>injection h
 | cons p r=>exact ⟨p,r,rfl,h⟩
def aI {β:Type}(l:List PV)(f:PV->M β):M β:=match l with
 | []=>ar
 | p::r=>match r with
  | []=>f p
  | _::_=>ar
theorem Nc {β:Type}{l:List PV}{f:PV->M β}{ps:PS}(ns:aI l f ps≠.stuck):∃ p,l=[p]:=by
 cases l with
 | nil=>exact absurd rfl ns
 | cons p r=>
  cases r with
  | nil=>exact ⟨p,rfl⟩
  | cons=>exact absurd rfl ns
def one:Txt->Option Nat
 | []=>none
 | c::r=>cond r.isEmpty (some c) none
theorem Hb {β γ:Type}{r:List β}{x y:γ}(h:cond r.isEmpty (some x) none=some y):r=[]/\x=y:=by
 cases r with
 | nil=>exact ⟨rfl,aU h⟩
 | cons=>injection h
theorem Hc {x:Txt}{c:Nat}(h:one x=some c):x=[c]:=by
 cases x with
 | nil=>injection h
 | cons d r=>obtain ⟨e1,e2⟩:=Hb h;rw [e1,e2]
def BF (f:Int->Int->M PV)(a b:PV):M PV:=ap (asI a) λi=>ap (asI b) (f i)
theorem Jj {V β γ:Type}{o:Option V}{q:Option β}{f:V->β->M γ}{ps:PS}(ns:ap o (λi=>ap q (f i)) ps≠.stuck):∃ i j,o=some i/\q=some j:=by
 obtain ⟨i,e⟩:=A8 ns
 rw [e] at ns
 obtain ⟨j,e'⟩:=A8 (o:=q) (f:=f i) ns
 exact ⟨i,j,e,e'⟩
theorem BG {f:Int->Int->M PV}{a b:PV}{ps:PS}(ns:BF f a b ps≠.stuck):∃ i j,a = .int i/\b = .int j:=by
 obtain ⟨i,j,e,e'⟩:=Jj ns
 exact ⟨i,j,AW e,AW e'⟩
def aN {V β:Type}(o:Option V)(f:V->M β)(g:M β):M β:=match o with
 | some a=>f a
 | none=>g
def SQ (a b:PV):M PV:=aN (asI a) (λi=>ap (asI b) λj=>ae (.int (i+j))) <| aN (asS a) (λs=>ap (asS b) λt=>aA (s++t)) <| ap (asL a) λi=>ap (asL b) λj=>ac (aq i) λx=>ac (aq j) λy=>au (x++y)
theorem Nd {V β γ δ α' β' γ':Type}{o:Option V}{q:Option β}{r:Option γ}{o':Option α'}{q':Option β'}{r':Option γ'}{f:V->α'->M δ}{g:β->β'->M δ}{k:γ->γ'->M δ}{ps:PS}
  (ns:aN o (λi=>ap o' (f i)) (aN q (λi=>ap q' (g i)) (ap r λi=>ap r' (k i))) ps≠.stuck):(∃ i j,o=some i/\o'=some j)\/(∃ i j,q=some i/\q'=some j)\/∃ i j,r=some i/\r'=some j:=by
 cases o with
 | some i=>obtain ⟨j,e⟩:=A8 (f:=f i) ns;exact .inl ⟨i,j,rfl,e⟩
 | none=>
  cases q with
  | some i=>obtain ⟨j,e⟩:=A8 (f:=g i) ns;exact .inr (.inl ⟨i,j,rfl,e⟩)
  | none=>exact .inr (.inr (Jj ns))
theorem SR {a b:PV}{ps:PS}(ns:SQ a b ps≠.stuck):(∃ i j,a = .int i/\b = .int j)\/(∃ i j,a = .str i/\b = .str j)\/∃ i j,a = .lst i/\b = .lst j:=by
 rcases Nd ns with ⟨i,j,e,e'⟩ | ⟨i,j,e,e'⟩ | ⟨i,j,e,e'⟩
 ·exact .inl ⟨i,j,AW e,AW e'⟩
 ·exact .inr (.inl ⟨i,j,Bf e,Bf e'⟩)
 ·exact .inr (.inr ⟨i,j,G9 e,G9 e'⟩)
def Wu:PV->PV->M PV:=BF λa b=>ae (.int (a - b))
def Wv:PV->PV->M PV:=BF λa b=>am (small a||small b) (ae (.int (a*b)))
def Ww:PV->PV->M PV:=BF λa b=>am (b != 0&&small b) (ae (.int (a.fdiv b)))
def Wx:PV->PV->M PV:=BF λa b=>am (b != 0&&small b) (ae (.int (a.fmod b)))
def Wy:PV->PV->M PV:=BF λa b=>am (2<=a&&a<=16&&0<=b&&b<=16) (ae (.int (a ^ b.toNat)))
def AO:Operator->PV->PV->M PV
 | .Add=>SQ
 | .Sub=>Wu
 | .Mult=>Wv
 | .FloorDiv=>Ww
 | .Mod=>Wx
 | .Pow=>Wy
 | _=>λU U=>ar
def truP:PV->Option Bool
 | .bool b=>some b
 | _=>none
mutual
noncomputable def toD (st:List (List PV)):Nat->PV->Option PyData
 | 0,_=>none
 | _+1,.none=>some .none
 | _+1,.bool b=>some (.bool b)
 | _+1,.int i=>some (.int i)
 | _+1,.str s=>some (.str (txt s))
 | n+1,.tup l=>(D3 st n l).map .tuple
 | n+1,.lst i=>match st[i]? with
  | some l=>(D3 st n l).map .list
  | none=>none
 | _+1,_=>none
noncomputable def D3 (st:List (List PV)):Nat->List PV->Option (List PyData)
 | 0,_=>none
 | _+1,[]=>some []
 | n+1,p::r=>match toD st n p,D3 st n r with
  | some d,some ds=>some (d::ds)
  | _,_=>none
end
def LP (a b:Txt):Bool:=(range (b.length+1)).any λi=>(b.drop i).take a.length==a
def opE {V β:Type}(o:Option V)(f:V->β)(g:β):β:=match o with
 | some a=>f a
 | none=>g
def eqT (a b:PV):Option Bool:=opE (asS a) (λs=>opE (asS b) (λt=>some (s==t)) ((asI b).map λU=>false)) <| (asI a).bind λi=>opE (asI b) (λj=>some (i==j)) ((asS b).map λU=>false)
theorem P7 {a b:PV}{r:Bool}(h:eqT a b=some r):(∃ s t,a = .str s/\b = .str t/\(s==t)=r)\/(∃ i j,a = .int i/\b = .int j/\(i==j)=r)\/(∃ i t,a = .int i/\b = .str t/\false=r)\/∃ s j,a = .str s/\b = .int j/\false=r:=by
 have h:opE (asS a) (λs=>opE (asS b) (λt=>some (s==t)) ((asI b).map λU=>false)) ((asI a).bind λi=>opE (asI b) (λj=>some (i==j)) ((asS b).map λU=>false))=some r:=h
 cases ea:asS a with
 | some s=>
  rw [ea] at h
  cases eb:asS b with
  | some t=>rw [eb] at h;exact .inl ⟨s,t,Bf ea,Bf eb,aU h⟩
  | none=>
   rw [eb] at h
   obtain ⟨j,e,q⟩:=aV.mp h
   exact .inr (.inr (.inr ⟨s,j,Bf ea,AW e,q⟩))
 | none=>
  rw [ea] at h
  obtain ⟨i,e,h⟩:=aW.mp h
  cases eb:asI b with
  | some j=>rw [eb] at h;exact .inr (.inl ⟨i,j,AW e,AW eb,aU h⟩)
  | none=>
   rw [eb] at h
   obtain ⟨t,e',q⟩:=aV.mp h
   exact .inr (.inr (.inl ⟨i,t,AW e,Bf e',q⟩))
def eqP (a b:PV):M Bool:=λs=>match eqT a b with
 | some r=>.ok r s
 | none=>match toD s.st 64 a,toD s.st 64 b with
  | some x,some y=>if SeqAt.shaped x&&SeqAt.shaped y then .ok (PyData.eqv x y) s else .stuck
  | _,_=>.stuck
def eqI (a b:PV):Option Bool:=opE (asS a) (λs=>(asS b).map (s==·)) <| (asI a).bind λi=>(asI b).map (i==·)
theorem P8 {a b:PV}{r:Bool}(h:eqI a b=some r):(∃ s t,a = .str s/\b = .str t/\(s==t)=r)\/∃ i j,a = .int i/\b = .int j/\(i==j)=r:=by
 have h:opE (asS a) (λs=>(asS b).map (s==·)) ((asI a).bind λi=>(asI b).map (i==·))=some r:=h
 cases ea:asS a with
 | some s=>
  rw [ea] at h
  obtain ⟨t,e,q⟩:=aV.mp h
  exact .inl ⟨s,t,Bf ea,Bf e,q⟩
 | none=>
  rw [ea] at h
  obtain ⟨i,e,h⟩:=aW.mp h
  obtain ⟨j,e',q⟩:=aV.mp h
  exact .inr ⟨i,j,AW e,AW e',q⟩
def inL (x:PV):List PV->Option Bool
 | []=>some false
 | y::r=>match eqI y x,inL x r with
  | some a,some b=>some (a||b)
  | _,_=>none
def D4 (ks vs:List PV)(x:PV):Option (Option PV):=match ks,vs with
 | [],_=>some none
 | k::ks,v::vs=>match eqI k x with
  | some true=>some (some v)
  | some false=>D4 ks vs x
  | none=>none
 | _,_=>none
def EH (ks vs:List PV)(x:PV):Option (Option PV):=if ks.isEmpty then none else D4 ks vs x
def inP (x y:PV):M Bool:=match y with
 | .str b=>ap (asS x) λa=>ae (LP a b)
 | .fset k=>ap (asS x) λa=>ae (G8 k a)
 | .lst i=>ac (aq i) λl=>aw (inL x l)
 | .tup l=>aw (inL x l)
 | .dct ks vs=>aw ((EH ks vs x).map (·.isSome))
 | _=>ar
def CO:PV->Bool
 | .none=>true
 | _=>false
def isP (g:PV->Bool):PV->PV->M PV
 | a,.none=>ae (.bool (g a))
 | _,_=>ar
def Aq:CmpOp->PV->PV->M PV
 | .Eq=>λa b=>ac (eqP a b) λr=>ae (.bool r)
 | .NotEq=>λa b=>ac (eqP a b) λr=>ae (.bool !r)
 | .Lt=>BF λa b=>ae (.bool (decide (a<b)))
 | .LtE=>BF λa b=>ae (.bool (decide (a<=b)))
 | .Gt=>BF λa b=>ae (.bool (decide (a>b)))
 | .GtE=>BF λa b=>ae (.bool (decide (a≥b)))
 | .In=>λa b=>ac (inP a b) λr=>ae (.bool r)
 | .NotIn=>λa b=>ac (inP a b) λr=>ae (.bool !r)
 | .Is=>isP CO
 | .IsNot=>isP λa=>!CO a
def Ap (hd:Bool)(a b:PV):M PV:=match a with
 | .str s=>ap (asI b) λi=>am (small i) (match idx i s.length with
  | some j=>ae (.str [s.getD j 0])
  | none=>aJ hd "IndexError")
 | .lst a=>ap (asI b) λi=>am (small i) (ac (aq a) λl=>aw ((idx i l.length).bind (l[·]?)))
 | .tup l=>ap (asI b) λi=>am (small i) (aw ((idx i l.length).bind (l[·]?)))
 | .dct ks vs=>aw ((EH ks vs b).bind id)
 | .mp=>ap (asS b) λs=>match escT s with
  | some t=>ae (.str t)
  | none=>aJ hd "KeyError"
 | _=>ar
def A2 (a b:Option Int):PV->M PV
 | .str s=>aA (slc s a b)
 | .lst i=>ac (aq i) λl=>am (l.length<=big) (au (slc l a b))
 | _=>ar
def SS (a b:PV):M PV:=aN (asI a) (λi=>ap (asI b) λj=>ae (.int (i+j))) <| ap (asS a) λs=>ap (asS b) λt=>aA (s++t)
theorem ST {a b:PV}{ps:PS}(ns:SS a b ps≠.stuck):(∃ i j,a = .int i/\b = .int j)\/∃ i j,a = .str i/\b = .str j:=by
 rcases Nd (o:=none (α:=Int)) (o':=none (α:=Int)) (f:=λU U=>ar) ns with ⟨_,_,e,_⟩ | ⟨i,j,e,e'⟩ | ⟨i,j,e,e'⟩
 ·injection e
 ·exact .inl ⟨i,j,AW e,AW e'⟩
 ·exact .inr ⟨i,j,Bf e,Bf e'⟩
def Cf:Operator->PV->PV->M PV
 | .Add=>SS
 | .Sub=>BF λa b=>ae (.int (a - b))
 | .FloorDiv=>BF λa b=>am (b != 0&&small b) (ae (.int (a.fdiv b)))
 | _=>λU U=>ar
def ak (m:M PFlow)(r:M PFlow):M PFlow:=ac m λf=>match f with
 | .next=>r
 | f=>ae f
def ay (t:M Bool)(b:M PFlow):Nat->M PFlow
 | 0=>ar
 | k+1=>ac t λc=>if c then ac b λf=>match f with
   | .next=>ay t b k
   | .cont=>ay t b k
   | .brk=>ae .next
   | .ret v=>ae (.ret v)
  else ae .next
def Bg:PV->Nat->M (Option PV)
 | .lst i,k=>ac (aq i) λl=>ae l[k]?
 | .str s,k=>ae ((s[k]?).map λc=>.str [c])
 | .ints l,k=>ae ((l[k]?).map .int)
 | _,_=>ar
def EM:PV->M (Nat->M (Option PV))
 | .lst i=>ae (Bg (.lst i))
 | .str s=>ae (Bg (.str s))
 | .ints l=>ae (Bg (.ints l))
 | _=>ar
def BX (a b:Int)(k:Nat):M (Option PV):=ae (if (k:Int)<b - a then some (.int (a+k)) else none)
def VW (l:List PV):Option (Option Int × Int):=un l λp r=>(asI p).bind λi=>match r with
 | []=>some (none,i)
 | q::r=>(asI q).bind λj=>cond r.isEmpty (some (some i,j)) none
theorem SU {l:List PV}{x:Option Int × Int}(h:VW l=some x):(l=[.int x.2]/\x.1=none)\/∃ a,l=[.int a,.int x.2]/\x.1=some a:=by
 obtain ⟨p,r,rfl,h⟩:=Ha h
 obtain ⟨i,e,h⟩:=aW.mp h
 rw [AW e]
 cases r with
 | nil=>obtain rfl:=aU h;exact .inl ⟨rfl,rfl⟩
 | cons q r=>
  obtain ⟨j,e',h⟩:=aW.mp h
  obtain ⟨e1,rfl⟩:=Hb h
  rw [AW e',e1]
  exact .inr ⟨i,rfl,rfl⟩
def B3 (l:List PV):M (Nat->M (Option PV)):=ap (VW l) λx=>match x.1 with
 | none=>am (small x.2) (ae (BX 0 x.2))
 | some a=>am (small a&&small x.2) (ae (BX a x.2))
def aL:List (PV->M Unit)->List PV->M Unit
 | [],[]=>ae ()
 | f::fs,v::vs=>ac (f v) λU=>aL fs vs
 | _,_=>ar
def aH (fs:List (PV->M Unit)):PV->M Unit
 | .tup l=>am (l.length==fs.length) (aL fs l)
 | .lst i=>ac (aq i) λl=>am (l.length==fs.length) (aL fs l)
 | _=>ar
def aE (get:Nat->M (Option PV))(t:PV->M Unit)(b:M PFlow):Nat->Nat->M PFlow
 | 0,_=>ar
 | f+1,k=>ac (get k) λo=>match o with
  | none=>ae .next
  | some p=>ac (t p) λU=>ac b λfl=>match fl with
   | .next=>aE get t b f (k+1)
   | .cont=>aE get t b f (k+1)
   | .brk=>ae .next
   | .ret v=>ae (.ret v)
def He (l:List PV):M PV:=am (l.length<=big) (ae (.tup l))
def C7 (i:Int):Txt:=(Str.ofString (toString i)).cps.toList
def Wz:PV->M PV
 | .str s=>am (s.length<=big) (ae (.int s.length))
 | .lst i=>ac (aq i) λl=>am (l.length<=big) (ae (.int l.length))
 | .ints l=>am (l.length<=big) (ae (.int l.length))
 | _=>ar
def Bp (l:List PV):M PV:=aI l Wz
def On (l:List PV):M PV:=aI l λp=>ap (asI p) λi=>am (0<=i&&i<=1114111) (ae (.str [i.toNat]))
def Oo (l:List PV):M PV:=aI l λp=>ap (asS p) λs=>ap (one s) λc=>ae (.int c)
def AP:Option (M PV)->M (Option Int)
 | none=>ae none
 | some m=>ac m λv=>match v with
  | .int i=>ae (some i)
  | _=>ar
def P9:PFlow->PV
 | .ret v=>v
 | _=>.none
def ao (m:M PFlow)(l:List PV):M PV:=λs=>match m ⟨λi=>l[i]?,s.st⟩ with
 | .ok f s'=>.ok (P9 f) ⟨s.loc,s'.st⟩
 | .ex e s'=>.ex e ⟨s.loc,s'.st⟩
 | .stuck=>.stuck
def aD (X:PX->Option (M PFlow))(m:M PFlow):M PFlow:=λs=>match m s with
 | .ok f s'=>.ok f s'
 | .ex e s'=>match X e with
  | some h=>h s'
  | none=>.stuck
 | .stuck=>.stuck
def EN (n:String)(h:M PFlow):PX->Option (M PFlow)
 | .std m=>if m=n then some h else none
 | _=>none
def LQ (h:Txt->M PFlow):PX->Option (M PFlow)
 | .toml t=>some (h t)
 | _=>none
def EI:PV->M PV
 | .str s=>aA s
 | .int i=>am (small i) (ae (.str (C7 i)))
 | _=>ar
def Bv (s:Txt):Txt:=(reprText (txt s)).cps.toList
def Hf:PV->M PV
 | .str s=>aA (Bv s)
 | _=>ar
def aB:List (M PV)->Txt->M PV
 | [],acc=>aA acc
 | m::r,acc=>ac m λv=>match v with
  | .str t=>am ((acc++t).length<=big) (aB r (acc++t))
  | _=>ar
end Mi
end
section
open PySem PySem.W PyProof.Rows
set_option maxRecDepth 10000
namespace Mi
structure Wd where
 H:Hd
 h₀:Heap
 gens:Array GenState
 os:OsState
def Wd.cls (W:Wd):PX->Value
 | .std n=>.type n
 | .toml _=>.ref W.H.toml
abbrev Wd.rep (W:Wd)(fm:Fm)(V:List Addr)(h:Heap)(p:PV)(v:Value):Prop:=RepV W.H W.h₀ fm.av V h p v
structure InvS (W:Wd)(fm:Fm)(V:List Addr)(ps:PS)(s:Shared):Prop where
 inv:Inv W.H W.h₀ fm V ps s.heap
 gens:s.gens=W.gens
 os:s.os=W.os
def Fs (start h:Heap)(e:PX)(v:Option Value):Prop:=match e with
 | .std n=>n≠"code"
 | .toml m=>∃ t tk,v=some (.ref t)/\start.get? t=none/\IsTup h t #[.str (txt m) tk]
def Dg (o:Obj):Prop:=o.cls≠.none/\o.cls≠.type "code"
inductive HasTb (start h:Heap)(a:Addr)(v:Option Value):Prop
 | mk (T:Addr) (oT:Obj) (ts:Array Value) (k1:v=some (.ref T)) (k2:T≠a) (k3:h.get? T=some oT) (k4:oT.data = .fields ts) (k5:3<ts.size) (k6:start.get? T=none) (k7:Dg oT):HasTb start h a v
def SV (start h:Heap)(a:Addr)(v:Option Value):Prop:=v=some .none\/HasTb start h a v
def Us (e:PX)(v:Option Value):Prop:=match e with
 | .std _=>v=some .none
 | .toml _=>True
inductive Raised (W:Wd)(start h:Heap)(e:PX)(x:Value):Prop
 | mk (a:Addr) (oe:Obj) (vs:Array Value) (k1:x = .ref a) (k2:h.get? a=some oe) (k3:oe.cls=W.cls e) (k4:oe.data = .fields vs) (k5:5<vs.size) (k6:start.get? a=none) (k7:Fs start h e vs[0]?) (k8:SV start h a vs[1]?) (k9:Us e vs[2]?):Raised W start h e x
inductive RaisedN (W:Wd)(start h:Heap)(e:PX)(x:Value):Prop
 | mk (a:Addr) (oe:Obj) (vs:Array Value) (k1:x = .ref a) (k2:h.get? a=some oe) (k3:oe.cls=W.cls e) (k4:oe.data = .fields vs) (k5:5<vs.size) (k6:start.get? a=none) (k7:Fs start h e vs[0]?) (k8:HasTb start h a vs[1]?) (k9:Us e vs[2]?):RaisedN W start h e x
theorem RaisedN.raised {W:Wd}{start h:Heap}{e:PX}{x:Value}(r:RaisedN W start h e x):Raised W start h e x:=by
 obtain ⟨a,oe,vs,h1,h2,h3,h4,h5,h6,h7,h8,h9⟩:=r
 exact ⟨a,oe,vs,h1,h2,h3,h4,h5,h6,h7,.inr h8,h9⟩
inductive OkE (W:Wd)(fm:Fm)(V:List Addr)(h:Heap)(r:R PV)(v:Value)(s':Shared):Prop
 | mk (p:PV) (ps':PS) (α':List Addr) (k1:r = .ok p ps') (k2:InvS W fm α' ps' s') (k3:Grow V α' h) (k4:Rel fm.stk fm.tab V h s'.heap) (k5:W.rep fm α' s'.heap p v):OkE W fm V h r v s'
inductive ExE (W:Wd)(fm:Fm)(V:List Addr)(h:Heap){β:Type}(r:R β)(x:Value)(s':Shared):Prop
 | mk (e:PX) (ps':PS) (α':List Addr) (k1:r = .ex e ps') (k2:InvS W fm α' ps' s') (k3:Grow V α' h) (k4:Rel fm.stk fm.tab V h s'.heap) (k5:Raised W h s'.heap e x):ExE W fm V h r x s'
inductive FlowRep (W:Wd)(fm:Fm)(V:List Addr)(h:Heap):PFlow->Flow->Prop
 | next:FlowRep W fm V h .next .next
 | brk:FlowRep W fm V h .brk .brk
 | cont:FlowRep W fm V h .cont .cont
 | ret {p:PV} {v:Value} (r:W.rep fm V h p v):FlowRep W fm V h (.ret p) (.ret v)
inductive OkS (W:Wd)(fm:Fm)(V:List Addr)(h:Heap)(r:R PFlow)(f:Flow)(s':Shared):Prop
 | mk (p:PFlow) (ps':PS) (α':List Addr) (k1:r = .ok p ps') (k2:InvS W fm α' ps' s') (k3:Grow V α' h) (k4:Rel fm.stk fm.own V h s'.heap) (k5:FlowRep W fm α' s'.heap p f):OkS W fm V h r f s'
inductive ExS (W:Wd)(fm:Fm)(V:List Addr)(h:Heap){β:Type}(r:R β)(x:Value)(s':Shared):Prop
 | mk (e:PX) (ps':PS) (α':List Addr) (k1:r = .ex e ps') (k2:InvS W fm α' ps' s') (k3:Grow V α' h) (k4:Rel fm.stk fm.own V h s'.heap) (k5:Raised W h s'.heap e x):ExS W fm V h r x s'
structure Ctx (W:Wd)(fm:Fm)(n:Nat)(A:Around):Prop where
 frames:A.frames=some fm.stk
 depth:A.depth+n<990
 units:A.units+20*n+1000<cLine
 hdl:A.handled=fm.hdl
 tab:fm.tab=[W.H.tabP]
 fm:FmOk W.h₀ fm
 hd:W.H.At W.h₀
abbrev Wd.m (W:Wd):Model:=model W.H.prog W.H.w
def Af (W:Wd)(fm:Fm)(A:Around)(V:List Addr)(ps:PS)(s:Shared)(t:Sem Value)(m:M PV):Prop:=
 wpAny W.m A t (OkE W fm V s.heap (m ps)) (ExE W fm V s.heap (m ps)) s
abbrev SimE.T (W:Wd)(n:Nat)(fm:Fm)(e:Expr)(m:M PV):Prop:=∀ A V ps s,Ctx W fm n A->InvS W fm V ps s->m ps≠.stuck->Af W fm A V ps s (eval e fm.env) m
structure SimE (W:Wd)(n:Nat)(fm:Fm)(e:Expr)(m:M PV):Prop where
 go:SimE.T W n fm e m
noncomputable instance {W:Wd} {n:Nat} {fm:Fm} {e:Expr} {m:M PV}:CoeFun (SimE W n fm e m) (λU=>SimE.T W n fm e m):=⟨SimE.go⟩
abbrev SimS.T (W:Wd)(n:Nat)(fm:Fm)(b:List Stmt)(m:M PFlow):Prop:=∀ A V ps s,Ctx W fm n A->InvS W fm V ps s->m ps≠.stuck->wpAny W.m A (execs b fm.env) (OkS W fm V s.heap (m ps)) (ExS W fm V s.heap (m ps)) s
structure SimS (W:Wd)(n:Nat)(fm:Fm)(b:List Stmt)(m:M PFlow):Prop where
 go:SimS.T W n fm b m
noncomputable instance {W:Wd} {n:Nat} {fm:Fm} {b:List Stmt} {m:M PFlow}:CoeFun (SimS W n fm b m) (λU=>SimS.T W n fm b m):=⟨SimS.go⟩
abbrev SimT.T (W:Wd)(n:Nat)(fm:Fm)(st:Stmt)(m:M PFlow):Prop:=∀ A V ps s,Ctx W fm n A->InvS W fm V ps s->m ps≠.stuck->wpAny W.m A (exec st fm.env) (OkS W fm V s.heap (m ps)) (ExS W fm V s.heap (m ps)) s
structure SimT (W:Wd)(n:Nat)(fm:Fm)(st:Stmt)(m:M PFlow):Prop where
 go:SimT.T W n fm st m
noncomputable instance {W:Wd} {n:Nat} {fm:Fm} {st:Stmt} {m:M PFlow}:CoeFun (SimT W n fm st m) (λU=>SimT.T W n fm st m):=⟨SimT.go⟩
section
variable {W:Wd}{fm:Fm}{V α' α₁:List Addr}{h h₁:Heap}{n:Nat}{A:Around}{ps ps':PS}{s s':Shared}
theorem Fs.start {e:PX}{v:Option Value}(x:Fs h₁ h e v)(l:∀ b,h₁.get? b=none->h'.get? b=none):Fs h' h e v:=by
 cases e with
 | std n=>exact x
 | toml m=>obtain ⟨t,tk,h1,h2,h3⟩:=x;exact ⟨t,tk,h1,l t h2,h3⟩
theorem Raised.start {e:PX}{x:Value}(r:Raised W h₁ h e x)(l:∀ b,h₁.get? b=none->h'.get? b=none):Raised W h' h e x:=by
 obtain ⟨a,oe,vs,h1,h2,h3,h4,h5,h6,h7,h8,h9⟩:=r
 refine ⟨a,oe,vs,h1,h2,h3,h4,h5,l a h6,h7.start l,?_,h9⟩
 rcases h8 with q | ⟨T,oT,ts,q1,q2,q3,q4,q5,q6,q7⟩
 ·exact .inl q
 ·exact .inr ⟨T,oT,ts,q1,q2,q3,q4,q5,l T q6,q7⟩
theorem OkE.after {r:R PV}{v:Value}(q:OkE W fm α₁ h₁ r v s')(g:Grow V α₁ h)(x:Rel fm.stk fm.tab V h h₁):OkE W fm V h r v s':=by
 obtain ⟨p,ps',α',e,I,g',x',rv⟩:=q
 exact ⟨p,ps',α',e,I,g.trans g' x,x.trans x' g.new,rv⟩
theorem ExE.after {β:Type}{r:R β}{v:Value}(q:ExE W fm α₁ h₁ r v s')(g:Grow V α₁ h)(x:Rel fm.stk fm.tab V h h₁):ExE W fm V h r v s':=by
 obtain ⟨p,ps',α',e,I,g',x',rv⟩:=q
 exact ⟨p,ps',α',e,I,g.trans g' x,x.trans x' g.new,rv.start x.live⟩
theorem OkS.after {r:R PFlow}{v:Flow}(q:OkS W fm α₁ h₁ r v s')(g:Grow V α₁ h)(x:Rel fm.stk fm.own V h h₁):OkS W fm V h r v s':=by
 obtain ⟨p,ps',α',e,I,g',x',rv⟩:=q
 exact ⟨p,ps',α',e,I,g.trans g' x,x.trans x' g.new,rv⟩
theorem ExS.after {β:Type}{r:R β}{v:Value}(q:ExS W fm α₁ h₁ r v s')(g:Grow V α₁ h)(x:Rel fm.stk fm.own V h h₁):ExS W fm V h r v s':=by
 obtain ⟨p,ps',α',e,I,g',x',rv⟩:=q
 exact ⟨p,ps',α',e,I,g.trans g' x,x.trans x' g.new,rv.start x.live⟩
theorem ExE.toS {β:Type}{r:R β}{v:Value}(q:ExE W fm V h r v s'):ExS W fm V h r v s':=by
 obtain ⟨p,ps',α',e,I,g',x',rv⟩:=q
 exact ⟨p,ps',α',e,I,g',x'.mono (λU h=>mem_append_left _ h),rv⟩
theorem InvS.tok (I:InvS W fm V ps s)(t:Nat):InvS W fm V ps { s with toks:=t }:=⟨I.inv,I.gens,I.os⟩
theorem OkE.same {p:PV}{v:Value}{t:Nat}(I:InvS W fm V ps s)(r:W.rep fm V s.heap p v):OkE W fm V s.heap (.ok p ps) v { s with toks:=t }:=
 ⟨p,ps,V,rfl,I.tok t,.refl ..,.refl ..,r⟩
theorem OkE.same' {p:PV}{v:Value}(I:InvS W fm V ps s)(r:W.rep fm V s.heap p v):OkE W fm V s.heap (.ok p ps) v s:=
 ⟨p,ps,V,rfl,I,.refl ..,.refl ..,r⟩
theorem Ac {β γ:Type}{m:M β}{f:β->M γ}(h:ac m f ps≠.stuck):m ps≠.stuck:=by
 intro e;unfold ac at h;rw [e] at h;exact h rfl
theorem Ab {β γ:Type}{m:M β}{f:β->M γ}{a:β}(e:m ps = .ok a ps'):ac m f ps=f a ps':=by
 unfold ac;rw [e]
theorem GR {β γ:Type}{m:M β}{f:β->M γ}{a:PX}(e:m ps = .ex a ps'):ac m f ps = .ex a ps':=by
 unfold ac;rw [e]
theorem ExE.bind {β γ:Type}{m:M β}{f:β->M γ}{x:Value}(q:ExE W fm V h (m ps) x s'):ExE W fm V h (ac m f ps) x s':=by
 obtain ⟨p,o0,α₁,e,I,g,x,r⟩:=q
 exact ⟨p,o0,α₁,GR e,I,g,x,r⟩
theorem ExS.bind {β γ:Type}{m:M β}{f:β->M γ}{x:Value}(q:ExS W fm V h (m ps) x s'):ExS W fm V h (ac m f ps) x s':=by
 obtain ⟨p,o0,α₁,e,I,g,x,r⟩:=q
 exact ⟨p,o0,α₁,GR e,I,g,x,r⟩
theorem Af.seq {t:Sem Value}{m:M PV}{T:Value->Shared->Prop}{E:Value->Shared->Prop}(c:Af W fm A V ps s t m)
  (hk:∀ p v α₁ o0 c0,InvS W fm α₁ o0 c0->Grow V α₁ s.heap->Rel fm.stk fm.tab V s.heap c0.heap->W.rep fm α₁ c0.heap p v->m ps = .ok p o0->T v c0)
  (hx:∀ x c0,ExE W fm V s.heap (m ps) x c0->E x c0):wpAny W.m A t T E s:=
 aX c (λv c0 ⟨p,o0,α₁,e,I,g,x,r⟩=>hk p v α₁ o0 c0 I g x r e) hx
theorem InvS.stays (C:Ctx W fm n A)(I:InvS W fm V ps s)(x:Rel fm.stk fm.tab V s.heap h₁)(g:Grow V α₁ s.heap){p:PV}{v:Value}(r:W.rep fm V s.heap p v):W.rep fm α₁ h₁ p v:=
 r.stays I.inv.lists x g.pre C.fm.frsAv C.fm.tabAv
theorem Ae {i:Int}{k:Nat}{pos:Pos}:SimE W n fm (.Constant (.int i) k pos) (ae (.int i)):=.mk λA V ps s C I ns=>
 wpAny_Constant_int (OkE.same I (.int i _))
end
section
variable {W:Wd}{fm:Fm}{V α' α₁:List Addr}{h h₁:Heap}{n:Nat}{A:Around}{ps ps':PS}{s s':Shared}{hd:Bool}
theorem BU:big=sizeLine:=by decide
theorem AN (x:Txt):(txt x).length=x.length:=by simp [txt,Str.length]
theorem Et (x y:Txt):txt x++txt y=txt (x++y):=by
 apply Str.ext'
 simp [txt,Str.cps_append]
theorem BY (x:Str):txt x.cps.toList=x:=by
 apply Str.ext';simp [txt]
theorem Jk {x y:Txt}(e:txt x=txt y):x=y:=by
 have:=congrArg (λz=>z.cps.toList) e
 simpa [txt] using this
theorem Nf (x y:Txt):(txt x==txt y)=(x==y):=by
 by_cases e:x=y
 ·subst e
  have:(txt x==txt x)=true:=beq_iff_eq.mpr rfl
  rw [this];simp
 ·have h1:(txt x==txt y)=false:=aY.mpr λq=>e (Jk q)
  rw [h1];simp [e]
theorem Af.same {t:Sem Value}{p:PV}(I:InvS W fm V ps s)(h:∀ Q:Value->Shared->Prop,∀ E,(∀ v tk,W.rep fm V s.heap p v->Q v { s with toks:=tk })->wpAny W.m A t Q E s):Af W fm A V ps s t (ae p):=
 h _ _ λv tk r=>OkE.same I r
abbrev OpOk.T (W:Wd)(n:Nat)(fm:Fm)(t:Value->Value->Sem Value)(f:PV->PV->M PV):Prop:=∀ A V ps s a b va vb,Ctx W fm n A->InvS W fm V ps s->W.rep fm V s.heap a va->W.rep fm V s.heap b vb->f a b ps≠.stuck->Af W fm A V ps s (t va vb) (f a b)
structure OpOk (W:Wd)(n:Nat)(fm:Fm)(t:Value->Value->Sem Value)(f:PV->PV->M PV):Prop where
 go:OpOk.T W n fm t f
noncomputable instance {W:Wd} {n:Nat} {fm:Fm} {t:Value->Value->Sem Value} {f:PV->PV->M PV}:CoeFun (OpOk W n fm t f) (λU=>OpOk.T W n fm t f):=⟨OpOk.go⟩
theorem Af.orStuck {t:Sem Value}{c:Bool}{m:M PV}(ns:am c m ps≠.stuck)(h:c=true->m ps≠.stuck->Af W fm A V ps s t m):Af W fm A V ps s t (am c m):=by
 unfold am at ns ⊢
 cases c with
 | false=>exact absurd rfl ns
 | true=>exact h rfl ns
theorem Ft {a b:Int}(h:small b=true):Builtin.divisionGoesByPylong a b=false:=PyProof.noPylong_small (aZ h)
theorem EY {x:Int}(h:small x=true):Builtin.Int.intBits x<=64:=
 intBits_le (bc (aZ h) (by decide))
theorem Op {a b:Int}(h:(small a||small b)=true):IntMulOk a b:=by
 rcases Bool.or_eq_true_iff.mp h with q | q
 ·exact .of_left (EY q)
 ·exact .of_right (EY q)
theorem LR {a b:Int}{t u:Tok}(I:InvS W fm V ps s):Af W fm A V ps s (binaryOp .Add (.int a t) (.int b u)) (ae (.int (a+b))):=
 .same I λQ E h=>PySem.P.add_int (h _ _ (.int _ _))
theorem LT {a b:Int}{t u:Tok}(I:InvS W fm V ps s):Af W fm A V ps s (binaryOp .Sub (.int a t) (.int b u)) (ae (.int (a - b))):=
 .same I λQ E h=>PySem.P.sub_int (h _ _ (.int _ _))
theorem LU {a b:Int}{t u:Tok}(I:InvS W fm V ps s)(hm:(small a||small b)=true):Af W fm A V ps s (binaryOp .Mult (.int a t) (.int b u)) (ae (.int (a*b))):=
 .same I λQ E h=>PySem.P.mul_int (h _ _ (.int _ _)) (Op hm)
theorem LV {a b:Int}{t u:Tok}(I:InvS W fm V ps s)(hb:(b != 0&&small b)=true):Af W fm A V ps s (binaryOp .FloorDiv (.int a t) (.int b u)) (ae (.int (a.fdiv b))):=
 have hb:=and_eq_true_iff.mp hb
 .same I λQ E h=>floordiv_int (by simpa using hb.1) (h _ _ (.int _ _)) (.inl (Ft hb.2))
theorem LW {a b:Int}{t u:Tok}(I:InvS W fm V ps s)(hb:(b != 0&&small b)=true):Af W fm A V ps s (binaryOp .Mod (.int a t) (.int b u)) (ae (.int (a.fmod b))):=
 have hb:=and_eq_true_iff.mp hb
 .same I λQ E h=>mod_int' (by simpa using hb.1) (h _ _ (.int _ _))
theorem Af.str {t:Sem Value}{x:Txt}(I:InvS W fm V ps s)(ns:aA x ps≠.stuck)
  (h:x.length<=sizeLine->∀ Q:Value->Shared->Prop,∀ E,(∀ tk u,Q (.str (txt x) u) { s with toks:=tk })->wpAny W.m A t Q E s):Af W fm A V ps s t (aA x):=by
 unfold aA at ns
 by_cases q:x.length<=big
 ·have:aA x ps=ae (.str x) ps:=by unfold aA;rw [if_pos q];rfl
  unfold Af
  rw [this]
  exact h (BU▸q) _ _ λtk u=>OkE.same I (.str _ _)
 ·rw [if_neg q] at ns;exact absurd rfl ns
theorem LX {a b:Txt}{t u:Tok}(I:InvS W fm V ps s)(ns:aA (a++b) ps≠.stuck):Af W fm A V ps s (binaryOp .Add (.str (txt a) t) (.str (txt b) u)) (aA (a++b)):=
 .str I ns λhl Q E h=>PyProof.Rows.add_str (λt' tk=>Et a b▸h tk t') (by rw [AN,AN,<- length_append];exact hl)
end
section
variable {W:Wd}{fm:Fm}{V α' α₁:List Addr}{h h' h₁:Heap}{n:Nat}{A:Around}{ps ps':PS}{s s':Shared}{hd:Bool}{H:Hd}{h₀:Heap}
theorem ID {av:List Addr}(k:∀ b o,h.get? b=some o->h'.get? b=some o)(g:V <+: α') :
  (∀ {p:PV} {v:Value},RepV H h₀ av V h p v->RepV H h₀ av α' h' p v)/\∀ {l:List PV} {vs:List Value},RepL H h₀ av V h l vs->RepL H h₀ av α' h' l vs:=by
 refine DH (λa vs ha hi=>⟨ha,?_⟩) (λi a hi=>?_) λa o es ep ha ho hx hd=>⟨ha,k _ _ ho⟩
 ·obtain ⟨o,e1,e2,e3⟩:=hi;exact ⟨o,k _ _ e1,e2,e3⟩
 ·obtain ⟨t,rfl⟩:=g
  rw [getElem?_append_left (List.getElem?_eq_some_iff.mp hi).1];exact hi
theorem RepV.keeps {av:List Addr}(k:∀ b o,h.get? b=some o->h'.get? b=some o)(g:V <+: α'){p:PV}{v:Value}(x:RepV H h₀ av V h p v):RepV H h₀ av α' h' p v:=(ID k g).1 x
theorem RepL.keeps {av:List Addr}(k:∀ b o,h.get? b=some o->h'.get? b=some o)(g:V <+: α'){l:List PV}{vs:List Value}(x:RepL H h₀ av V h l vs):RepL H h₀ av α' h' l vs:=(ID k g).2 x
theorem OptRep.keeps {av:List Addr}(k:∀ b o,h.get? b=Option.some o->h'.get? b=Option.some o)(g:V <+: α'){p:Option PV}{v:Option Value}(x:OptRep H h₀ av V h p v):OptRep H h₀ av α' h' p v:=x.map λr=>r.keeps k g
theorem Jl {a:Addr}{vs:Array Value}(k:∀ b o,h.get? b=some o->h'.get? b=some o)(x:h.IsList a vs):h'.IsList a vs:=by
 obtain ⟨o,e1,e2,e3⟩:=x;exact ⟨o,k _ _ e1,e2,e3⟩
theorem Inv.keeps (I:Inv H h₀ fm V ps h)(k:∀ b o,h.get? b=some o->h'.get? b=some o):Inv H h₀ fm V ps h':=by
 obtain ⟨b,⟨m,n1,n2⟩,c,⟨l1,l2,l3,l4,l5⟩,lv,fr,tb⟩:=I
 refine ⟨λx o e=>k x o (b x o e),⟨m,n1.keeps k,λx i hx=>(n2 x i hx).keeps k (prefix_refl _)⟩,λx kk i hx hk=>?_,⟨l1,λi l e=>?_,l3,l4,l5⟩,λa ha=>?_,fr.of_keeps λx o e U=>⟨o,k x o e,rfl⟩,λP hP=>(tb P hP).keeps k⟩
 ·obtain ⟨cc,v,q1,q2,q3,q4,q5⟩:=c x kk i hx hk
  exact ⟨cc,v,q1,q2,q3,q4.keeps k,q5.keeps k (prefix_refl _)⟩
 ·obtain ⟨a,vs,q1,q2,q3⟩:=l2 i l e
  exact ⟨a,vs,q1,q2.at (k _),q3.keeps k (prefix_refl _)⟩
 ·obtain ⟨o,e⟩:=be.mp (lv a ha)
  rw [k a o e];rfl
theorem Inv.newLst (C:FmOk h₀ fm)(I:Inv H h₀ fm V ps h){l:List PV}{vs:List Value}{a:Addr}(rl:RepL H h₀ fm.av V h l vs)(k:∀ b o,h.get? b=some o->h'.get? b=some o)(ha:h.get? a=none)(hl:h'.PlainList a vs.toArray) :
  Inv H h₀ fm (V++[a]) { ps with st:=ps.st++[l] } h':=by
 obtain ⟨b,⟨m,n1,n2⟩,c,⟨l1,l2,l3,l4,l5⟩,lv,fr,tb⟩:=I.keeps k
 have pre:V <+: V++[a]:=prefix_append _ _
 have na:a∉V:=λq=>by
  obtain ⟨ws,o,e,_⟩:=I.lists.isList q
  rw [ha] at e;cases e
 have kk:∀ b o,h'.get? b=some o->h'.get? b=some o:=λU U e=>e
 refine ⟨b,⟨m,n1,λx i hx=>(n2 x i hx).keeps kk pre⟩,λx kd i hx hk=>?_,⟨by simp [l1],λi l' e=>?_,?_,λx hx=>?_,λx hx q=>?_⟩,lv,fr,tb⟩
 ·obtain ⟨cc,v,q1,q2,q3,q4,q5⟩:=c x kd i hx hk
  exact ⟨cc,v,q1,q2,q3,q4,q5.keeps kk pre⟩
 ·by_cases hi:i<ps.st.length
  ·rw [getElem?_append_left hi] at e
   obtain ⟨a',ws,q1,q2,q3⟩:=l2 i l' e
   exact ⟨a',ws,by rw [getElem?_append_left (by rw [l1];exact hi)];exact q1,q2,q3.keeps kk pre⟩
  ·have:i=ps.st.length:=by
    have:=(bf.mp e).1
    simp at this;exact bg (la [_,_] [([2,3,0],[4,3,0])] ([2],[4]) rfl this) (la [_,_] [([2],[4])] ([2],[4]) rfl (Nat.not_lt.mp hi))
   subst this
   rw [getElem?_append_right (Nat.le_refl _)] at e
   simp at e
   subst e
   exact ⟨a,vs,by rw [<- l1,getElem?_append_right (Nat.le_refl _)];simp,hl,(rl.keeps k (prefix_refl _)).keeps kk pre⟩
 ·rw [nodup_append]
  exact ⟨l3,by simp,λx hx y hy=>by simp at hy;subst hy;exact λe=>na (e▸hx)⟩
 ·rcases mem_append.mp hx with q | q
  ·exact l4 x q
  ·simp at q;subst q
   cases e:h₀.get? x with
   | none=>rfl
   | some o=>have:=I.base x o e;rw [ha] at this;cases this
 ·rcases mem_append.mp hx with p | p
  ·exact l5 x p q
  ·simp at p;subst p
   have:=I.live x q
   rw [ha] at this;cases this
theorem OkE.newLst (C:Ctx W fm n A)(I:InvS W fm V ps s){l:List PV}{vs:List Value}{a:Addr}{tk:Nat}(hb:l.length<=big)(rl:RepL W.H W.h₀ fm.av V s.heap l vs)(k:∀ b o,s.heap.get? b=some o->h'.get? b=some o)(ha:s.heap.get? a=none)(hl:h'.PlainList a vs.toArray) :
  OkE W fm V s.heap (au l ps) (.ref a) { s with heap:=h',toks:=tk }:=by
 refine ⟨.lst ps.st.length,{ ps with st:=ps.st++[l] },V++[a],by unfold au;rw [if_pos hb],⟨I.inv.newLst C.fm rl k ha hl,I.gens,I.os⟩,⟨prefix_append _ _,λx hx nx=>?_⟩,.of_keeps k,.lst ?_⟩
 ·rcases mem_append.mp hx with q | q
  ·exact absurd q nx
  ·simp at q;subst q;exact ha
 ·rw [<- I.inv.lists.len,getElem?_append_right (Nat.le_refl _)];simp
theorem F3 {l:List PV}(ns:au l ps≠.stuck):l.length<=big:=by
 unfold au at ns
 by_cases q:l.length<=big
 ·exact q
 ·rw [if_neg q] at ns;exact absurd rfl ns
theorem A5 {i:Nat}(ns:aq i ps≠.stuck):∃ l,ps.st[i]? = some l/\aq i ps = .ok l ps:=by
 unfold aq at ns ⊢
 cases e:ps.st[i]? with
 | none=>rw [e] at ns;exact absurd rfl ns
 | some l=>exact ⟨l,rfl,rfl⟩
theorem Af.newLst {t:Sem Value}{l:List PV}{vs:List Value}(C:Ctx W fm n A)(I:InvS W fm V ps s)(rl:RepL W.H W.h₀ fm.av V s.heap l vs)(ns:au l ps≠.stuck)
  (h:vs.length<=sizeLine->∀ Q:Value->Shared->Prop,∀ E,Q (.ref s.heap.objs.size) { s with heap:=s.heap.push { cls:=.type "list",data:=.seq vs.toArray } }->wpAny W.m A t Q E s) :
  Af W fm A V ps s t (au l):=by
 have hb:=F3 ns
 refine h (by rw [<- rl.length];exact BU▸hb) _ _ ?_
 exact OkE.newLst (tk:=s.toks) C I hb rl (λb o e=>get?_push_of_some _ e) (Heap.get?_none_of_le (aR _)) ⟨_,get?_push_size _ rfl⟩
theorem LY {x y:List PV}{vs ws:List Value}{a b:Addr}(C:Ctx W fm n A)(I:InvS W fm V ps s)(ha:s.heap.IsList a vs.toArray)(hb:s.heap.IsList b ws.toArray)
  (rx:RepL W.H W.h₀ fm.av V s.heap x vs) (ry:RepL W.H W.h₀ fm.av V s.heap y ws) (ns:au (x++y) ps≠.stuck) :
  Af W fm A V ps s (binaryOp .Add (.ref a) (.ref b)) (au (x++y)):=by
 refine .newLst C I (rx.append ry) ns λhl Q E hq=>?_
 obtain ⟨⟨cls,dd,data,sl⟩,ho,hc,k,hd⟩:=id ha
 obtain ⟨⟨cls2,dd2,data2,sl2⟩,ho2,hc2,k2,hd2⟩:=id hb
 simp only at hc hd hc2 hd2
 subst hc hd hc2 hd2
 have e:vs.toArray++ws.toArray=(vs++ws).toArray:=by simp
 refine concat_meets ⟨_,ho,rfl⟩ ⟨_,ho2,rfl⟩ noFill_list_add seq_list_add PySem.F.slot_list_add PySem.F.entry_list_add (PySem.F.args_list_add_2 _ _) (list_addW a b vs.toArray ws.toArray k k2 dd dd2 sl sl2 (by simpa using hl)) ⟨ho,ho2,?_⟩
 rw [e]
 exact hq
theorem DI (I:InvS W fm V ps s){i:Nat}{v:Value}{l:List PV}(r:W.rep fm V s.heap (.lst i) v)(e:ps.st[i]? = some l):∃ a vs,v = .ref a/\s.heap.IsList a vs.toArray/\RepL W.H W.h₀ fm.av V s.heap l vs:=by
 obtain ⟨a,vs,h1,h2,h3⟩:=I.inv.lists.at_ i l e
 obtain ⟨b,rfl,hi⟩:=r.inv
 obtain rfl:=aU (h1.symm.trans hi)
 exact ⟨_,_,rfl,h2.isList,h3⟩
theorem Ng (I:InvS W fm V ps s){i:Nat}{v:Value}{l:List PV}(r:W.rep fm V s.heap (.lst i) v)(e:ps.st[i]? = some l):∃ a vs,v = .ref a/\V[i]? = some a/\s.heap.PlainList a vs.toArray/\RepL W.H W.h₀ fm.av V s.heap l vs:=by
 obtain ⟨a,vs,h1,h2,h3⟩:=I.inv.lists.at_ i l e
 obtain ⟨b,rfl,hi⟩:=r.inv
 obtain rfl:=aU (h1.symm.trans hi)
 exact ⟨_,_,rfl,h1,h2,h3⟩
theorem Eu {i:Nat}{l:List PV}{β:Type}{f:List PV->M β}(e:ps.st[i]? = some l):ac (aq i) f ps=f l ps:=by
 unfold ac aq;rw [e]
theorem Af.congr {t:Sem Value}{m m':M PV}(e:m ps=m' ps)(c:Af W fm A V ps s t m'):Af W fm A V ps s t m:=by
 unfold Af at c ⊢;rw [e];exact c
theorem LZ {a b:Int}{t u:Tok}(I:InvS W fm V ps s)(hb:(2<=a&&a<=16&&0<=b&&b<=16)=true):Af W fm A V ps s (binaryOp .Pow (.int a t) (.int b u)) (ae (.int (a ^ b.toNat))):=by
 simp only [and_eq_true,decide_eq_true_eq] at hb
 obtain ⟨⟨⟨h1,h2⟩,h3⟩,h4⟩:=hb
 refine .same I λQ E h=>?_
 by_cases h0:b=0
 ·subst h0
  have e:a ^ Int.toNat 0=1:=by simp
  rw [e] at h
  exact AutoIntOps.pow_0 (by lia) (by decide) (h _ _ (.int _ _))
 ·refine AutoIntOps.pow_4 h3 (by simpa using h0) ?_ ?_ ?_ (h _ _ (.int _ _))
  ·simp;lia
  ·simp;lia
  ·have hs:Builtin.Int.intBits a<=64:=EY (by unfold small;exact decide_eq_true (by lia))
   have:((Builtin.Int.intBits a:Nat):Int)*b<=64*16:=Int.mul_le_mul (by lia) h4 h3 (by decide)
   unfold Builtin.Int.intTooBig
   simp only [decide_eq_true_eq]
   have:(1024:Int)<((bitsLine:Nat):Int):=by decide
   lia
theorem U0 (op:Operator):OpOk W n fm (binaryOp op) (AO op):=by
 refine .mk ?_
 intro A V ps s a b va vb C I ra rb ns
 cases op
 case Add=>
  have ns':SQ a b ps≠.stuck:=ns
  show Af W fm A V ps s _ (SQ a b)
  rcases SR ns' with ⟨i,j,rfl,rfl⟩ | ⟨i,j,rfl,rfl⟩ | ⟨i,j,rfl,rfl⟩
  ·obtain ⟨_,rfl⟩:=ra.inv;obtain ⟨_,rfl⟩:=rb.inv;exact LR I
  ·obtain ⟨_,rfl⟩:=ra.inv;obtain ⟨_,rfl⟩:=rb.inv;exact LX I ns'
  ·have ns':ac (aq i) (λx=>ac (aq j) λy=>au (x++y)) ps≠.stuck:=ns'
   obtain ⟨x,ex,e1⟩:=A5 (Ac ns')
   have e2:=Eu (f:=λx=>ac (aq j) λy=>au (x++y)) ex
   rw [e2] at ns'
   obtain ⟨y,ey,e3⟩:=A5 (Ac ns')
   rw [Eu ey] at ns'
   obtain ⟨aa,vs,rfl,l1,r1⟩:=DI I ra ex
   obtain ⟨bb,ws,rfl,l2,r2⟩:=DI I rb ey
   exact .congr (e2.trans (Eu ey)) (LY C I l1 l2 r1 r2 ns')
 case Sub=>
  obtain ⟨i,j,rfl,rfl⟩:=BG (show BF _ a b ps≠.stuck from ns)
  obtain ⟨_,rfl⟩:=ra.inv;obtain ⟨_,rfl⟩:=rb.inv;exact LT I
 case Mult=>
  obtain ⟨i,j,rfl,rfl⟩:=BG (show BF _ a b ps≠.stuck from ns)
  obtain ⟨_,rfl⟩:=ra.inv;obtain ⟨_,rfl⟩:=rb.inv;exact .orStuck ns λhc U=>LU I hc
 case FloorDiv=>
  obtain ⟨i,j,rfl,rfl⟩:=BG (show BF _ a b ps≠.stuck from ns)
  obtain ⟨_,rfl⟩:=ra.inv;obtain ⟨_,rfl⟩:=rb.inv;exact .orStuck ns λhc U=>LV I hc
 case Mod=>
  obtain ⟨i,j,rfl,rfl⟩:=BG (show BF _ a b ps≠.stuck from ns)
  obtain ⟨_,rfl⟩:=ra.inv;obtain ⟨_,rfl⟩:=rb.inv;exact .orStuck ns λhc U=>LW I hc
 case Pow=>
  obtain ⟨i,j,rfl,rfl⟩:=BG (show BF _ a b ps≠.stuck from ns)
  obtain ⟨_,rfl⟩:=ra.inv;obtain ⟨_,rfl⟩:=rb.inv;exact .orStuck ns λhc U=>LZ I hc
 all_goals exact absurd rfl ns
theorem L0 {st:List (List PV)}{av:List Addr}(L:ListsAt H h₀ av V st h)(k:Nat):(∀ (p:PV) (v:Value) (d:PyData),toD st k p=some d->RepV H h₀ av V h p v->∃ as,Reads h v d as) /\
  ∀ (l:List PV) (vs:List Value) (ds:List PyData),D3 st k l=some ds->RepL H h₀ av V h l vs->∃ as,ReadsAll h vs ds as:=by
 induction k with
 | zero=>exact ⟨λU U U e=>(by cases e),λU U U e=>(by cases e)⟩
 | succ k ih=>
  refine ⟨λp v d e r=>?_,λl vs ds e r=>?_⟩
  ·cases p with
   | none=>cases (show _=_ from r.inv);cases e;exact ⟨_,.none⟩
   | bool b=>cases (show _=_ from r.inv);cases e;exact ⟨_,.bool b⟩
   | int i=>obtain ⟨_,rfl⟩:=r.inv;cases e;exact ⟨_,.int i _⟩
   | str x=>obtain ⟨_,rfl⟩:=r.inv;cases e;exact ⟨_,.str _ _⟩
   | tup l=>
    obtain ⟨_,_,rfl,ha,hi,rs⟩:=r.inv
    obtain ⟨ds,e1,rfl⟩:=aV.mp (show (D3 st k l).map _=some _ from e)
    obtain ⟨as,q⟩:=ih.2 l _ ds e1 rs
    obtain ⟨o,o1,o2,m,o3⟩:=hi
    exact ⟨as,.tuple o1 o2 o3 (by simpa using q)⟩
   | lst i=>
    obtain ⟨_,rfl,hi⟩:=r.inv
    obtain ⟨l,q,e⟩:∃ l,st[i]? = some l/\(D3 st k l).map PyData.list=some _:=by
     have e:(match st[i]? with | some l=>(D3 st k l).map PyData.list | none=>none)=some _:=e
     cases q:st[i]? with
     | none=>rw [q] at e;cases e
     | some l=>rw [q] at e;exact ⟨l,rfl,e⟩
    obtain ⟨ds,e1,rfl⟩:=aV.mp (show (D3 st k l).map _=some _ from e)
    obtain ⟨a',vs,h1,h2,h3⟩:=L.at_ i l q
    rw [hi] at h1;cases h1
    obtain ⟨as,q⟩:=ih.2 l _ ds e1 h3
    obtain ⟨o,o1,o2,m,o3⟩:=h2.isList
    exact ⟨_,.list o1 o2 o3 (by simpa using q)⟩
   | _=>cases e
  ·cases r with
   | nil=>obtain rfl:=aU (show some []=some _ from e);exact ⟨_,.nil⟩
   | @cons p v l vs r rs=>
    have e:(match toD st k p,D3 st k l with
     | some d,some ds=>some (d::ds)
     | _,_=>none)=some _:=e
    cases q:toD st k p with
    | none=>rw [q] at e;cases e
    | some d=>
     cases q':D3 st k l with
     | none=>rw [q,q'] at e;cases e
     | some ds'=>
      rw [q,q'] at e;cases e
      obtain ⟨as,x⟩:=ih.1 p _ d q r
      obtain ⟨bs,y⟩:=ih.2 l _ ds' q' rs
      exact ⟨_,.cons x y⟩
theorem Cw {st:List (List PV)}{av:List Addr}(L:ListsAt H h₀ av V st h)(k:Nat)(p:PV)(v:Value)(d:PyData)(e:toD st k p=some d)(r:RepV H h₀ av V h p v):∃ as,Reads h v d as:=(L0 L k).1 p v d e r
theorem Fu (x y:Txt):((txt x).cps.toList==(txt y).cps.toList)=(x==y):=by simp [txt]
theorem Ctx.u64 (C:Ctx W fm n A):A.units+64<cLine:=by have:=C.units;lia
theorem Qa {a b:PV}(ns:eqP a b ps≠.stuck):∃ r,eqP a b ps = .ok r ps/\(eqT a b=some r\/(eqT a b=none/\∃ x y,toD ps.st 64 a=some x/\toD ps.st 64 b=some y/\SeqAt.shaped x=true/\SeqAt.shaped y=true/\r=PyData.eqv x y)):=by
 unfold eqP at ns ⊢
 cases e:eqT a b with
 | some r=>exact ⟨r,rfl,.inl rfl⟩
 | none=>
  rw [e] at ns
  cases ex:toD ps.st 64 a with
  | none=>rw [ex] at ns;exact absurd rfl ns
  | some x=>
   cases ey:toD ps.st 64 b with
   | none=>rw [ex,ey] at ns;exact absurd rfl ns
   | some y=>
    rw [ex,ey] at ns
    by_cases q:(SeqAt.shaped x&&SeqAt.shaped y)=true
    ·have q':=and_eq_true_iff.mp q
     refine ⟨PyData.eqv x y,by simp only [q,if_true],.inr ⟨rfl,x,y,rfl,rfl,q'.1,q'.2,rfl⟩⟩
    ·simp only [q,if_false] at ns;exact absurd rfl ns
theorem U1 {a b:PV}{va vb:Value}(C:Ctx W fm n A)(I:InvS W fm V ps s)(ra:W.rep fm V s.heap a va)(rb:W.rep fm V s.heap b vb)(ns:eqP a b ps≠.stuck)
  {Q:Value->Shared->Prop} {E:Value->Shared->Prop} (h:∀ r,eqP a b ps = .ok r ps->Q (.bool r) s):wpAny W.m A (compareOp .Eq va vb) Q E s:=by
 obtain ⟨r,e,q⟩:=Qa ns
 rcases q with q | ⟨_,x,y,ex,ey,sx,sy,rfl⟩
 ·have h:=h r e
  clear e ns
  rcases P7 q with ⟨_,_,rfl,rfl,rfl⟩ | ⟨_,_,rfl,rfl,rfl⟩ | ⟨_,_,rfl,rfl,rfl⟩ | ⟨_,_,rfl,rfl,rfl⟩
  ·obtain ⟨_,rfl⟩:=ra.inv;obtain ⟨_,rfl⟩:=rb.inv;exact PySem.P.eq_str (by rw [Fu];exact h)
  ·obtain ⟨_,rfl⟩:=ra.inv;obtain ⟨_,rfl⟩:=rb.inv;exact PySem.P.eq_int h
  ·obtain ⟨_,rfl⟩:=ra.inv;obtain ⟨_,rfl⟩:=rb.inv;exact EqMixed.eq_int_str h
  ·obtain ⟨_,rfl⟩:=ra.inv;obtain ⟨_,rfl⟩:=rb.inv;exact EqMixed.eq_str_int h
 ·obtain ⟨as,x1⟩:=Cw I.inv.lists _ _ _ _ ex ra
  obtain ⟨bs,x2⟩:=Cw I.inv.lists _ _ _ _ ey rb
  exact SeqAt.compareEq_shaped x1 x2 sx sy C.u64 (h _ e)
theorem U2 {a b:PV}{va vb:Value}(C:Ctx W fm n A)(I:InvS W fm V ps s)(ra:W.rep fm V s.heap a va)(rb:W.rep fm V s.heap b vb)(ns:eqP a b ps≠.stuck)
  {Q:Value->Shared->Prop} {E:Value->Shared->Prop} (h:∀ r,eqP a b ps = .ok r ps->Q (.bool (!r)) s):wpAny W.m A (compareOp .NotEq va vb) Q E s:=by
 obtain ⟨r,e,q⟩:=Qa ns
 rcases q with q | ⟨_,x,y,ex,ey,sx,sy,rfl⟩
 ·have h:=h r e
  clear e ns
  rcases P7 q with ⟨_,_,rfl,rfl,rfl⟩ | ⟨_,_,rfl,rfl,rfl⟩ | ⟨_,_,rfl,rfl,rfl⟩ | ⟨_,_,rfl,rfl,rfl⟩
  ·obtain ⟨_,rfl⟩:=ra.inv;obtain ⟨_,rfl⟩:=rb.inv;exact PySem.P.ne_str (by rw [bne,Fu];exact h)
  ·obtain ⟨_,rfl⟩:=ra.inv;obtain ⟨_,rfl⟩:=rb.inv;exact PySem.P.ne_int (by rw [bne];exact h)
  ·obtain ⟨_,rfl⟩:=ra.inv;obtain ⟨_,rfl⟩:=rb.inv;exact EqMixed.ne_int_str h
  ·obtain ⟨_,rfl⟩:=ra.inv;obtain ⟨_,rfl⟩:=rb.inv;exact EqMixed.ne_str_int h
 ·obtain ⟨as,x1⟩:=Cw I.inv.lists _ _ _ _ ex ra
  obtain ⟨bs,x2⟩:=Cw I.inv.lists _ _ _ _ ey rb
  exact SeqAt.compareNe_shaped x1 x2 sx sy C.u64 (h _ e)
theorem SW {a b:PV}{va vb:Value}{r:Bool}(e:eqI a b=some r)(ra:W.rep fm V s.heap a va)(rb:W.rep fm V s.heap b vb):SeqAt.EqAt A s va vb r:=by
 rcases P8 e with ⟨_,_,rfl,rfl,rfl⟩ | ⟨_,_,rfl,rfl,rfl⟩
 ·obtain ⟨_,rfl⟩:=ra.inv;obtain ⟨_,rfl⟩:=rb.inv;rw [<- Nf];exact (eqGives_str _ _ _ _).at A s
 ·obtain ⟨_,rfl⟩:=ra.inv;obtain ⟨_,rfl⟩:=rb.inv;exact (MeetsSeq.EqGives.int _ _ _ _).at A s
def Kv:Value->Value->Bool
 | .str y _,.str x _=>y==x
 | .int y _,.int x _=>y==x
 | _,_=>false
theorem Qb {a b:PV}{va vb:Value}{r:Bool}(e:eqI a b=some r)(ra:W.rep fm V s.heap a va)(rb:W.rep fm V s.heap b vb):Kv va vb=r:=by
 rcases P8 e with ⟨_,_,rfl,rfl,rfl⟩ | ⟨_,_,rfl,rfl,rfl⟩
 ·obtain ⟨_,rfl⟩:=ra.inv;obtain ⟨_,rfl⟩:=rb.inv;exact Nf _ _
 ·obtain ⟨_,rfl⟩:=ra.inv;obtain ⟨_,rfl⟩:=rb.inv;rfl
theorem Nh {x:PV}{vx:Value}{l:List PV}{vs:List Value}{r:Bool}(e:inL x l=some r)(rx:W.rep fm V s.heap x vx)(rl:RepL W.H W.h₀ fm.av V s.heap l vs):(∀ y∈vs,∀ A,SeqAt.EqAt A s y vx (Kv y vx))/\vs.any (Kv · vx)=r:=by
 revert r
 refine rl.ind (P:=λl vs=>∀ {r:Bool},inL x l=some r->(∀ y∈vs,∀ A,SeqAt.EqAt A s y vx (Kv y vx))/\vs.any (Kv · vx)=r) (λe=>?_) λy v l vs q qs ih r e=>?_
 ·obtain rfl:=aU e
  exact ⟨λU h=>(by cases h),rfl⟩
 ·have e:(match eqI y x,inL x l with
   | some a,some b=>some (a||b)
   | _,_=>none)=some r:=e
  cases e1:eqI y x with
  | none=>rw [e1] at e;cases e
  | some a=>
   cases e2:inL x l with
   | none=>rw [e1,e2] at e;cases e
   | some b=>
    rw [e1,e2] at e
    obtain rfl:=aU e
    obtain ⟨h1,h2⟩:=ih e2
    have h3:=Qb e1 q rx
    refine ⟨λz hz A=>?_,by rw [List.any_cons,h2,h3]⟩
    rcases mem_cons.mp hz with rfl | hz
    ·rw [h3];exact SW e1 q rx
    ·exact h1 z hz A
theorem Ni (x y:Txt):(!(Builtin.Str.occurrences (txt x) (txt y) 0 (txt x).length 1).isEmpty)=LP y x:=by
 rw [Bool.eq_iff_iff]
 rw [StrLaws.found_iff]
 unfold LP
 simp only [any_eq_true,mem_range,AN]
 constructor
 ·rintro ⟨i,h1,h2⟩
  refine ⟨i,by exact la [_,_,_] [([2,4,0],[6])] ([2,3,0],[6,3,0]) rfl h1,?_⟩
  rw [StrLaws.subAt_eq] at h2
  simpa [txt,Str.length] using h2
 ·rintro ⟨i,h1,h2⟩
  have h3:(x.drop i).take y.length=y:=by simpa using h2
  have h4:((x.drop i).take y.length).length=y.length:=by rw [h3]
  rw [length_take,length_drop] at h4
  refine ⟨i,by exact la [_,_,_,_,_] [([2],[4]),([4],[6]),([6,8,0],[10])] ([8,2,0],[10]) rfl (aS h4.symm) (Nat.min_le_right _ _) (Mi.lcC (la [_,_] [([2,3,0],[4,3,0])] ([2],[4]) rfl h1)),?_⟩
  rw [StrLaws.subAt_eq]
  simpa [txt,Str.length] using h2
theorem D5 {β:Type}{o:Option β}(ns:aw o ps≠.stuck):∃ a,o=some a/\aw o ps = .ok a ps:=by
 unfold aw at ns ⊢
 cases o with
 | none=>exact absurd rfl ns
 | some a=>exact ⟨a,rfl,rfl⟩
theorem Kw {p:PV}{v:Value}(r:W.rep fm V h p v):plainIs v .none=true/\(v==.none)=CO p:=by
 cases r <;> exact ⟨rfl,rfl⟩
theorem Fv (k:Nat)(x:Txt):F2 k (txt x)=G8 k x:=by simp [F2,txt]
theorem Hd.At.set {H:Hd}(X:H.At h₀)(b:∀ b o,h₀.get? b=some o->h.get? b=some o)(k:Nat){a:Addr}(e:H.setv k=some a):∃ n,FrozAt (strKind H.prog H.w) h a (F2 k) n/\n<4096:=by
 obtain ⟨n,⟨es,ep,t,h1,r⟩,h2⟩:=X.sets k a e
 exact ⟨n,⟨es,ep,t,b _ _ h1,r⟩,h2⟩
theorem Jm {prog:Program}{w:World}{a:Addr}{S:Str->Bool}{m:Nat}{x:Str}{t:Tok}{Q:Bool->Shared->Prop}{E:Value->Shared->Prop}(hS:FrozAt (strKind prog w) s.heap a S m)(hm:m<4096)
  (h:Q (S x) { s with toks:=s.toks+1 }):wpAny (model prog w) A (setContains a (.str x t)) Q E s:=by
 obtain ⟨es,ep,tt,ho,hel,hmem,hn,hf⟩:=hS
 have hkey:(strKind prog w).is x (.str x t)=true:=strKind_is prog w x t
 unfold setContains
 refine bh ?_
 refine bj ((strKind prog w).pyHash hkey ?_)
 refine bj (setFind_any (s:={ s with toks:=s.toks+1 }) hkey rfl ho rfl hel hmem (by rw [hn];exact hm) hf λr hr=>?_)
 refine bk ?_
 rw [hr];exact h
theorem Qc {prog:Program}{w:World}{a:Addr}{S:Str->Bool}{m:Nat}{x:Str}{t:Tok}{Q:Bool->Shared->Prop}{E:Value->Shared->Prop}(hS:FrozAt (strKind prog w) s.heap a S m)(hm:m<4096)
  (h:Q (S x) { s with toks:=s.toks+1 }):wpAny (model prog w) A (contains (.ref a) (.str x t)) Q E s:=by
 have hT:s.TypeIs (.ref a) "frozenset":=by obtain ⟨es,ep,tt,ho,_⟩:=hS;exact ⟨_,ho,rfl⟩
 unfold contains
 try with_reducible refine bh ?_
 refine bj (wpAny_specialOf hT FB.slot_frozenset_contains.lookup ?_)
 show wpAny _ _ (if (some (Value.builtin "frozenset.__contains__")==some Value.none)=true then _ else _) _ E s
 rw [if_neg (by rw [beq_builtin_none];exact Bool.false_ne_true)]
 refine bj (wpAny_callSpecialUnlessNone?_slot (name:=Str.ofString "__contains__") hT FB.slot_frozenset_contains
  (wpAny_call_entry FB.slot_frozenset_contains hT FB.entry_frozenset_contains ?_ (FB.args_frozenset_contains_2 _ _)))
 unfold Builtin.«frozenset.__contains__» Builtin.Frozenset.oneOther
 simp only [isEmpty_nil,bind_assoc]
 unfold Builtin.Frozenset.addrOf Builtin.Frozenset.withSetAsKey
 refine bj (bk ?_)
 try dsimp only
 refine bj (bk ?_)
 try dsimp only
 refine bj (wpAny_tryCatch ?_)
 refine Jm hS hm ?_
 show wpAny _ _ (ret (Value.bool (S x))) _ _ _
 exact bk ⟨_,rfl,wpAny_truthy_bool h⟩
theorem RepL.inv' {H:Hd}{h₀:Heap}{av V:List Addr}{h:Heap}{l:List PV}{v:Value}{vs:List Value}(r:RepL H h₀ av V h l (v::vs)):∃ p l',l=p::l'/\RepV H h₀ av V h p v/\RepL H h₀ av V h l' vs:=by
 cases r with
 | cons r rs=>exact ⟨_,_,rfl,r,rs⟩
theorem RepL.nil' {H:Hd}{h₀:Heap}{av V:List Addr}{h:Heap}{l:List PV}(r:RepL H h₀ av V h l []):l=[]:=by
 cases r
 rfl
theorem Hg {K:Type}[DecidableEq K]{prog:Program}{w:World}{knd:KeyKind prog w K}(enc:K->PV)(he:∀ a b,eqI (enc a) (enc b)=some (decide (a=b)))(hw:∀ {k:K} {v:Value},W.rep fm V h (enc k) v->knd.is k v=true)
  (hi:∀ {p:PV} {v:Value} {k:K},W.rep fm V h p v->knd.is k v=true->p=enc k) :
  ∀ {es:List DictEntry} {ks vs:List PV} {x:K} {r:Option PV},RepL W.H W.h₀ fm.av V h ks (es.map (·.key))->RepL W.H W.h₀ fm.av V h vs (es.map (·.val))->(∀ e∈es,∃ k,knd.is k e.key=true)->D4 ks vs (enc x)=some r ->
   match r with
   | none=>es.find? (λe=>knd.is x e.key)=none
   | some p=>∃ e,es.find? (λe=>knd.is x e.key)=some e/\W.rep fm V h p e.val:=by
 intro es
 induction es with
 | nil=>
  intro ks vs x r r1 _ _ e
  obtain rfl:=r1.nil'
  obtain rfl:=aU e
  rfl
 | cons d es ih=>
  intro ks vs x r r1 r2 hk e
  obtain ⟨p,ks,rfl,r1,rs1⟩:=RepL.inv' (v:=d.key) (vs:=es.map (·.key)) r1
  obtain ⟨u,vs,rfl,r2,rs2⟩:=RepL.inv' (v:=d.val) (vs:=es.map (·.val)) r2
  obtain ⟨k,hk0⟩:=hk d mem_cons_self
  obtain rfl:p=enc k:=hi r1 hk0
  have e:(match eqI (enc k) (enc x) with
   | some true=>some (some u)
   | some false=>D4 ks vs (enc x)
   | none=>none)=some r:=e
  rw [he] at e
  by_cases q:k=x
  ·subst q
   rw [decide_eq_true rfl] at e
   obtain rfl:=aU e
   exact ⟨d,by rw [find?_cons,hk0],r2⟩
  ·rw [decide_eq_false q] at e
   have:knd.is x d.key=false:=by
    cases z:knd.is x d.key with
    | false=>rfl
    | true=>exact absurd (knd.inj _ _ _ hk0 z) q
   have ih:=ih rs1 rs2 (λe he=>hk e (mem_cons_of_mem _ he)) e
   rw [find?_cons,this]
   exact ih
theorem RepV.atom {p:PV}{v:Value}(r:W.rep fm V h p v):(∃ a,v = .ref a)\/(∃ i t,p = .int i/\v = .int i t)\/(∃ s t,p = .str s/\v = .str (txt s) t)\/v = .none\/∃ b,v = .bool b:=by
 cases r
 ·exact .inr (.inr (.inr (.inl rfl)))
 ·exact .inr (.inr (.inr (.inr ⟨_,rfl⟩)))
 ·exact .inr (.inl ⟨_,_,rfl,rfl⟩)
 ·exact .inr (.inr (.inl ⟨_,_,rfl,rfl⟩))
 all_goals exact .inl ⟨_,rfl⟩
theorem Hh {k:Str}{p:PV}{v:Value}(r:W.rep fm V h p v)(hk:Value.isStrOf k v=true):p = .str k.cps.toList:=by
 obtain ⟨t,e⟩:=Value.isStrOf_shape hk
 rcases RepV.atom r with ⟨_,z⟩ | ⟨_,_,_,z⟩ | ⟨s,_,rfl,z⟩ | z | ⟨_,z⟩ <;> rw [z] at e <;> injection e
 subst k
 rfl
theorem Hi {k:Int}{p:PV}{v:Value}(r:W.rep fm V h p v)(hk:Value.isInt k v=true):p = .int k:=by
 obtain ⟨t,e⟩:=Value.isInt_shape hk
 rcases RepV.atom r with ⟨_,z⟩ | ⟨i,_,rfl,z⟩ | ⟨_,_,_,z⟩ | z | ⟨_,z⟩ <;> rw [z] at e <;> injection e
 subst k
 rfl
theorem Hj {a:Addr}{vs:Array Value}(x:IsTup h a vs):h.IsTuple a vs:=x
theorem Nj {K:Type}[DecidableEq K]{prog:Program}{w:World}{knd:KeyKind prog w K}{a:Addr}{o:Obj}{es:Array DictEntry}{ep:Nat}{k:K}{key:Value}{Q:Value->Shared->Prop}{E:Value->Shared->Prop}{op:CmpOp}(hop:op = .In\/op = .NotIn){r:Bool}
  (hs:(a==sysModules)=false) (ho:s.heap.get? a=some o) (hx:o.ExactDict) (hd:o.data = .dict es ep) (hk:KeysOf knd es) (hkey:knd.is k key=true) (hr:(es.toList.find? (λe=>knd.is k e.key)).isSome=r)
  (h:Q (.bool (if op = .In then r else !r)) { s with toks:=s.toks+1 }):wpAny (model prog w) A (compareOp op key (.ref a)) Q E s:=by
 have hm:s.heap.MapOf knd a (λk=>findBy knd.is es k):=⟨o,es,ep,ho,hx,hd,hk,λU=>rfl⟩
 have e:(findBy knd.is es k).isSome=r:=by
  rw [<- hr];unfold findBy;rw [Option.isSome_map]
  obtain ⟨l⟩:=es
  simp
 rcases hop with rfl | rfl
 ·exact wpAny_in_of hkey hs hm (by rw [e];exact h)
 ·exact wpAny_notIn_of hkey hs hm (by rw [e];exact h)
theorem IE {K:Type}[DecidableEq K]{prog:Program}{w:World}{knd:KeyKind prog w K}{es:Array DictEntry}(hk:KeysOf knd es):∀ e∈es.toList,∃ k,knd.is k e.key=true:=
 λe he=>let ⟨k,h1,_⟩:=hk e (Array.mem_toList_iff.mp he);⟨k,h1⟩
theorem Ky {ks vs:List PV}{es:Array DictEntry}{x:Txt}{r:Option PV}(hk:KeysOf (strKind W.H.prog W.H.w) es)
   (rk:RepL W.H W.h₀ fm.av V h ks (es.toList.map (·.key))) (rv:RepL W.H W.h₀ fm.av V h vs (es.toList.map (·.val))) (e:D4 ks vs (.str x)=some r) :
   match (generalizing:=false) r with
   | none=>es.toList.find? (λe=>(strKind W.H.prog W.H.w).is (txt x) e.key)=none
   | some p=>∃ e,es.toList.find? (λe=>(strKind W.H.prog W.H.w).is (txt x) e.key)=some e/\W.rep fm V h p e.val:=by
 refine Hg (W:=W) (fm:=fm) (V:=V) (h:=h) (knd:=strKind W.H.prog W.H.w) (λk=>.str k.cps.toList) (λa b=>?_) (λ{k v} r=>?_) (λr q=>Hh r q) rk rv (IE hk) (x:=txt x) (by simpa [txt] using e)
 ·show some (a.cps.toList==b.cps.toList)=_
  rw [SeqAt.str_beq]
  by_cases q:a=b
  ·subst q;simp [beq_iff_eq.mpr rfl]
  ·rw [beq_eq_false_iff_ne.mpr q];simp [q]
 ·obtain ⟨t,e⟩:=r.inv
  rw [e,BY]
  exact strKind_is _ _ _ _
theorem Kz {ks vs:List PV}{es:Array DictEntry}{x:Int}{r:Option PV}(hk:KeysOf (intKind W.H.prog W.H.w) es)
   (rk:RepL W.H W.h₀ fm.av V h ks (es.toList.map (·.key))) (rv:RepL W.H W.h₀ fm.av V h vs (es.toList.map (·.val))) (e:D4 ks vs (.int x)=some r) :
   match (generalizing:=false) r with
   | none=>es.toList.find? (λe=>(intKind W.H.prog W.H.w).is x e.key)=none
   | some p=>∃ e,es.toList.find? (λe=>(intKind W.H.prog W.H.w).is x e.key)=some e/\W.rep fm V h p e.val:=by
 refine Hg (W:=W) (fm:=fm) (V:=V) (h:=h) (knd:=intKind W.H.prog W.H.w) (λk=>.int k) (λa b=>?_) (λ{k v} r=>?_) (λr q=>Hi r q) rk rv (IE hk) e
 ·show some (a==b)=_
  congr 1
 ·obtain ⟨_,rfl⟩:=r.inv
  exact intKind_is _ _ _ _
theorem Gu {K:Type}[DecidableEq K]{knd:KeyKind W.H.prog W.H.w K}(enc:K->PV)(hs:∀ {q:PV} {v:Value} {k:K},W.rep fm V h q v->knd.is k v=true->q=enc k){ks vs:List PV}{es:Array DictEntry}{p:PV}{r:Option PV}(hk:KeysOf knd es)(rk:RepL W.H W.h₀ fm.av V h ks (es.toList.map (·.key)))(e:EH ks vs p=some r) :
  ∃ k r,eqI (enc k) p=some r:=by
 cases ks with
 | nil=>injection e
 | cons k ks=>
  cases hl:es.toList with
  | nil=>rw [hl] at rk;cases rk
  | cons d l=>
   rw [hl] at rk
   obtain ⟨_,_,ez,q,qs⟩:=rk.inv
   obtain ⟨kk,h1,_⟩:=hk d (Array.mem_toList_iff.mp (by rw [hl];exact mem_cons_self))
   rw [<- (List.cons.inj ez).1] at q
   obtain rfl:=hs q h1
   refine ⟨kk,?_⟩
   cases z:eqI (enc kk) p with
   | some r=>exact ⟨r,rfl⟩
   | none=>
    cases vs with
    | nil=>injection e
    | cons w vs=>
     have e:(match eqI (enc kk) p with
      | some true=>some (some w)
      | some false=>D4 ks vs p
      | none=>none)=some r:=e
     rw [z] at e;injection e
theorem Hk {ks vs:List PV}{es:Array DictEntry}{p:PV}{v:Value}{r:Option PV}(hk:KeysOf (strKind W.H.prog W.H.w) es)(rk:RepL W.H W.h₀ fm.av V h ks (es.toList.map (·.key)))(rp:W.rep fm V h p v)(e:EH ks vs p=some r) :
  ∃ x,p = .str x:=by
 obtain ⟨k,_,e⟩:=Gu (λk:Str=>.str k.cps.toList) (λq e=>Hh q e) hk rk e
 obtain ⟨t,e,_⟩:=aV.mp (show (asS p).map _=_ from e)
 exact ⟨t,Bf e⟩
theorem Gv {ks vs:List PV}{es:Array DictEntry}{p:PV}{v:Value}{r:Option PV}(hk:KeysOf (intKind W.H.prog W.H.w) es)(rk:RepL W.H W.h₀ fm.av V h ks (es.toList.map (·.key)))(rp:W.rep fm V h p v)(e:EH ks vs p=some r) :
  ∃ x,p = .int x:=by
 obtain ⟨k,_,e⟩:=Gu (λk:Int=>.int k) (λq e=>Hi q e) hk rk e
 obtain ⟨t,e,_⟩:=aV.mp (show (asI p).map _=_ from e)
 exact ⟨t,AW e⟩
theorem KA {x:PV}{y:PV}(ns:inP x y ps≠.stuck):∃ r,inP x y ps = .ok r ps:=by
 cases y with
 | str b=>obtain ⟨a,e⟩:=A8 ns;rw [Bf e];exact ⟨_,rfl⟩
 | fset k=>obtain ⟨a,e⟩:=A8 ns;rw [Bf e];exact ⟨_,rfl⟩
 | lst i=>
  obtain ⟨l,e,e'⟩:=A5 (Ac ns)
  have ns:ac (aq i) (λl=>aw (inL x l)) ps≠.stuck:=ns
  rw [Eu e] at ns
  obtain ⟨a,_,q⟩:=D5 ns
  exact ⟨a,(Eu e).trans q⟩
 | tup l=>obtain ⟨a,_,q⟩:=D5 ns;exact ⟨a,q⟩
 | dct ks vs=>obtain ⟨a,_,q⟩:=D5 ns;exact ⟨a,q⟩
 | _=>exact absurd rfl ns
theorem DJ {ks vs:List PV}{p:PV}{r:Option PV}(e:EH ks vs p=some r):D4 ks vs p=some r:=by
 unfold EH at e
 split at e
 ·cases e
 ·exact e
def inR (op:CmpOp)(r:Bool):Bool:=if op = .In then r else !r
theorem Qd {op:CmpOp}(hop:op = .In\/op = .NotIn){a b:PV}{va vb:Value}(C:Ctx W fm n A)(I:InvS W fm V ps s)(ra:W.rep fm V s.heap a va)(rb:W.rep fm V s.heap b vb){r:Bool}(e:inP a b ps = .ok r ps)
  {Q:Value->Shared->Prop} {E:Value->Shared->Prop} (h:∀ tk,Q (.bool (inR op r)) { s with toks:=tk }):wpAny W.m A (compareOp op va vb) Q E s:=by
 have h0:Q (.bool (inR op r)) s:=h s.toks
 cases b with
 | str b=>
  obtain ⟨x,ea⟩:=P6 e
  obtain rfl:=Bf ea
  cases e;obtain ⟨_,rfl⟩:=ra.inv;obtain ⟨_,rfl⟩:=rb.inv
  rcases hop with rfl | rfl
  ·exact PySem.P.in_str (by rw [Ni];exact h0)
  ·exact PySem.P.notIn_str (by rw [Ni];exact h0)
 | fset k=>
  obtain ⟨x,ea⟩:=P6 e
  obtain rfl:=Bf ea
  cases e;obtain ⟨tk,rfl⟩:=ra.inv;obtain ⟨a,rfl,hka⟩:=rb.inv
  obtain ⟨m,hS,hm⟩:=C.hd.set I.inv.base k hka
  rcases hop with rfl | rfl
  ·show wpAny _ _ (do return Value.bool (<- contains (.ref a) (.str (txt x) tk))) _ _ s
   exact bj (Qc hS hm (bk (by rw [Fv];exact h _)))
  ·show wpAny _ _ (do return Value.bool (!(<- contains (.ref a) (.str (txt x) tk)))) _ _ s
   exact bj (Qc hS hm (bk (by rw [Fv];exact h _)))
 | lst i=>
  have e:ac (aq i) (λl=>aw (inL a l)) ps = .ok r ps:=e
  have ns:aq i ps≠.stuck:=by
   intro q;unfold ac at e;rw [q] at e;cases e
  obtain ⟨l,el,_⟩:=A5 ns
  rw [Eu el] at e
  obtain ⟨aa,vs,rfl,hl,rl⟩:=DI I rb el
  have:inL a l=some r:=by
   have e:aw (inL a l) ps = .ok r ps:=e
   unfold aw at e
   cases q:inL a l with
   | none=>rw [q] at e;cases e
   | some z=>rw [q] at e;cases e;rfl
  obtain ⟨k1,k2⟩:=Nh this ra rl
  rcases hop with rfl | rfl
  ·exact SeqAt.in_listAt _ hl (λy hy=>k1 y (by simpa using hy) _) (by simpa [k2,inR] using h0)
  ·exact SeqAt.notIn_listAt _ hl (λy hy=>k1 y (by simpa using hy) _) (by simpa [k2,inR] using h0)
 | tup l=>
  obtain ⟨_,_,rfl,hna,hi,rl⟩:=rb.inv
  have:inL a l=some r:=by
   have e:aw (inL a l) ps = .ok r ps:=e
   unfold aw at e
   cases q:inL a l with
   | none=>rw [q] at e;cases e
   | some z=>rw [q] at e;cases e;rfl
  obtain ⟨k1,k2⟩:=Nh this ra rl
  rcases hop with rfl | rfl
  ·exact SeqAt.in_tupleAt _ (Hj hi) (λy hy=>k1 y (by simpa using hy) _) (by simpa [k2,inR] using h0)
  ·exact SeqAt.notIn_tupleAt _ (Hj hi) (λy hy=>k1 y (by simpa using hy) _) (by simpa [k2,inR] using h0)
 | dct ks vs=>
  have:∃ z,EH ks vs a=some z/\z.isSome=r:=by
   have e:aw ((EH ks vs a).map (·.isSome)) ps = .ok r ps:=e
   unfold aw at e
   cases q:EH ks vs a with
   | none=>rw [q] at e;cases e
   | some z=>rw [q] at e;cases e;exact ⟨z,rfl,rfl⟩
  obtain ⟨z,ez,rfl⟩:=this
  obtain ⟨_,o,es,ep,rfl,hna,ho,hx,hd,hk,rk,rv⟩:=rb.inv
  rcases hk with hk | hk
  ·obtain ⟨x,rfl⟩:=Hk hk rk ra ez
   ·obtain ⟨_,rfl⟩:=ra.inv
    refine Nj hop hna.2 ho hx hd hk (strKind_is _ _ _ _) ?_ (h _)
    have:=Ky hk rk rv (DJ ez)
    cases z with
    | none=>simp only at this;rw [this];rfl
    | some p=>obtain ⟨e,e1,_⟩:=this;rw [e1];rfl
  ·obtain ⟨x,rfl⟩:=Gv hk rk ra ez
   ·obtain ⟨_,rfl⟩:=ra.inv
    refine Nj hop hna.2 ho hx hd hk (intKind_is _ _ _ _) ?_ (h _)
    have:=Kz hk rk rv (DJ ez)
    cases z with
    | none=>simp only at this;rw [this];rfl
    | some p=>obtain ⟨e,e1,_⟩:=this;rw [e1];rfl
 | _=>injection e
theorem EZ (op:CmpOp):OpOk W n fm (compareOp op) (Aq op):=by
 refine .mk ?_
 intro A V ps s a b va vb C I ra rb ns
 have key:∀ {m:M Bool} {f:Bool->M PV} {r:Bool},m ps = .ok r ps->(∀ r,f r=ae (PV.bool (inR op r)))->∀ tk,OkE W fm V s.heap (ac m f ps) (.bool (inR op r)) { s with toks:=tk }:=λe hf tk=>by
  rw [Ab e,hf];exact .same I (.bool _)
 cases op with
 | Eq=>
  have ns':ac (eqP a b) (λr=>ae (PV.bool r)) ps≠.stuck:=ns
  exact U1 C I ra rb (Ac ns') λr e=>by
   show OkE W fm V s.heap (ac (eqP a b) (λr=>ae (PV.bool r)) ps) _ _
   rw [Ab e];exact .same' I (.bool _)
 | NotEq=>
  have ns':ac (eqP a b) (λr=>ae (PV.bool !r)) ps≠.stuck:=ns
  exact U2 C I ra rb (Ac ns') λr e=>by
   show OkE W fm V s.heap (ac (eqP a b) (λr=>ae (PV.bool !r)) ps) _ _
   rw [Ab e];exact .same' I (.bool _)
 | In=>
  have ns':ac (inP a b) (λr=>ae (PV.bool r)) ps≠.stuck:=ns
  obtain ⟨r,e⟩:=KA (Ac ns')
  exact Qd (.inl rfl) C I ra rb e λtk=>key e (λU=>rfl) tk
 | NotIn=>
  have ns':ac (inP a b) (λr=>ae (PV.bool !r)) ps≠.stuck:=ns
  obtain ⟨r,e⟩:=KA (Ac ns')
  exact Qd (.inr rfl) C I ra rb e λtk=>key e (λU=>rfl) tk
 | Lt=>
  obtain ⟨i,j,rfl,rfl⟩:=BG (show BF _ a b ps≠.stuck from ns)
  obtain ⟨_,rfl⟩:=ra.inv;obtain ⟨_,rfl⟩:=rb.inv
  exact PySem.P.lt_int (.same' I (.bool _))
 | LtE=>
  obtain ⟨i,j,rfl,rfl⟩:=BG (show BF _ a b ps≠.stuck from ns)
  obtain ⟨_,rfl⟩:=ra.inv;obtain ⟨_,rfl⟩:=rb.inv
  exact PySem.P.le_int (.same' I (.bool _))
 | Gt=>
  obtain ⟨i,j,rfl,rfl⟩:=BG (show BF _ a b ps≠.stuck from ns)
  obtain ⟨_,rfl⟩:=ra.inv;obtain ⟨_,rfl⟩:=rb.inv
  exact PySem.P.gt_int (.same' I (.bool _))
 | GtE=>
  obtain ⟨i,j,rfl,rfl⟩:=BG (show BF _ a b ps≠.stuck from ns)
  obtain ⟨_,rfl⟩:=ra.inv;obtain ⟨_,rfl⟩:=rb.inv
  exact PySem.P.ge_int (.same' I (.bool _))
 | Is=>
  cases b <;> (try exact absurd rfl ns)
  obtain ⟨h1,h2⟩:=Kw ra
  cases (show _=_ from rb.inv)
  exact wpAny_is_plain h1 (by rw [h2];exact .same' I (.bool _))
 | IsNot=>
  cases b <;> (try exact absurd rfl ns)
  obtain ⟨h1,h2⟩:=Kw ra
  cases (show _=_ from rb.inv)
  refine wpAny_isNot_plain h1 ?_
  rw [h2]
  exact .same' I (.bool _)
theorem GS {x:Str}{k:Nat}{pos:Pos}:SimE W n fm (.Constant (.str x) k pos) (ae (.str x.cps.toList)):=.mk λA V ps s C I ns=>
 show wpAny _ _ (mkText x) _ _ _ from wpAny_mkText (OkE.same I (by
  have:=RepV.str (H:=W.H) (h₀:=W.h₀) (av:=fm.av) (V:=V) (h:=s.heap) x.cps.toList s.toks
  rwa [BY] at this))
theorem Bw {b:Bool}{k:Nat}{pos:Pos}:SimE W n fm (.Constant (.bool b) k pos) (ae (.bool b)):=.mk λA V ps s C I ns=>
 show wpAny _ _ (pure (Value.bool b)) _ _ _ from bk (.same' I (.bool b))
theorem D6 {k:Nat}{pos:Pos}:SimE W n fm (.Constant .none k pos) (ae .none):=.mk λA V ps s C I ns=>
 show wpAny _ _ (pure Value.none) _ _ _ from bk (.same' I .none)
theorem Jn {i:Nat}(ns:af i ps≠.stuck):∃ v,ps.loc i=some v/\af i ps = .ok v ps:=by
 unfold af at ns ⊢
 cases e:ps.loc i with
 | none=>rw [e] at ns;exact absurd rfl ns
 | some v=>exact ⟨v,rfl,rfl⟩
theorem Hl {x:Str}{k:NameKind}{i:Nat}(C:Ctx W fm n A)(I:InvS W fm V ps s)(hm:(x,k,i)∈fm.sc)(hk:k = .local\/k = .cell\/k = .free)(hc:(x==("__classdict__":Str))=false){p:PV}(e:ps.loc i=some p)
  {Q:Value->Shared->Prop} {E:Value->Shared->Prop} (h:∀ v,W.rep fm V s.heap p v->Q v s):wpAny W.m A (loadName fm.env x) Q E s:=by
 have kd:=C.fm.kinds x k i hm
 rcases hk with rfl | hk
 ·have kd:=C.fm.kindX hm (by decide)
  obtain ⟨m,n1,n2⟩:=I.inv.loc
  have q:=n2 x i hm
  rw [e] at q
  cases hv:m x with
  | none=>rw [hv] at q;cases q
  | some v=>
   rw [hv] at q
   cases q with
   | some r=>exact wpAny_loadName_local C.fm.kind kd n1 hv (h v r)
 ·obtain ⟨c,v,h1,h2,h3,h4,h5⟩:=I.inv.cel x k i hm hk
  rw [e] at h5
  cases h5 with
  | some r=>
   rcases hk with rfl | rfl
   ·exact wpAny_loadName_cell C.fm.kind (C.fm.kindX hm (by decide)) h1 h4 (h _ r)
   ·rcases kd with kd | ⟨_,kd⟩
    ·exact wpAny_loadName_free C.fm.kind kd h1 h4 (h _ r) hc
    ·exact wpAny_loadName_cell C.fm.kind kd h1 h4 (h _ r)
theorem GT {x:Str}{k:NameKind}{i:Nat}{pos:Pos}(hm:(x,k,i)∈fm.sc)(hk:k = .local\/k = .cell\/k = .free)(hc:(x==("__classdict__":Str))=false)(hd:(x==("__debug__":Str))=false) :
  SimE W n fm (.Name x pos) (af i):=.mk λA V ps s C I ns=>by
 obtain ⟨p,e,e'⟩:=Jn ns
 unfold Af
 rw [e']
 exact wpAny_Name (Hl C I hm hk hc e λv r=>.same' I r) hd
theorem Hm {x:Str}{i:Nat}{pos:Pos}{p:PV}{v:Value}(hm:(x,NameKind.globalImplicit,i)∈fm.sc)(hv:W.H.mg x=some v)(hr:∀ V h,W.rep fm V h p v)(hd:(x==("__debug__":Str))=false) :
  SimE W n fm (.Name x pos) (ae p):=.mk λA V ps s C I ns=>
 Calls.Name_function_global C.fm.kind (C.fm.kindX hm (by decide)) (Calls.loadGlobal_global (env:=fm.env) (by rw [C.fm.glob];exact C.hd.g.keeps I.inv.base) hv (.same' I (hr _ _))) hd
theorem As {l r:Expr}{op:Operator}{pos:Pos}{ml mr:M PV}(hl:SimE W n fm l ml)(hr:SimE W n fm r mr) :
  SimE W n fm (.BinOp l op r pos) (ac ml λa=>ac mr λb=>AO op a b):=.mk λA V ps s C I ns=>by
 refine wpAny_BinOp (Af.seq (hl A V ps s C I (Ac ns)) (λa va α₁ o0 c0 s0 d0 l0 ra u0=>?_) λx c0 q=>q.bind)
 rw [Ab u0] at ns ⊢
 refine Af.seq (hr A α₁ o0 c0 C s0 (Ac ns)) (λb vb X0 Y1 w0 w1 y0 W0 rb Z0=>?_) λx c0 q=>q.bind.after d0 l0
 rw [Ab Z0] at ns ⊢
 exact aX (U0 op A X0 Y1 w0 a b va vb C w1 (s0.stays C W0 y0 ra) rb ns) (λU U q=>(q.after y0 W0).after d0 l0) (λU U q=>(q.after y0 W0).after d0 l0)
theorem SY {l r:Expr}{op:CmpOp}{pos:Pos}{ml mr:M PV}(hl:SimE W n fm l ml)(hr:SimE W n fm r mr)(hm:behindInMarks op r=false) :
  SimE W n fm (.Compare l [op] [r] pos) (ac ml λa=>ac mr λb=>Aq op a b):=.mk λA V ps s C I ns=>by
 refine wpAny_Compare1 (Af.seq (hl A V ps s C I (Ac ns)) (λa va α₁ o0 c0 s0 d0 l0 ra u0=>?_) λx c0 q=>q.bind) hm
 rw [Ab u0] at ns ⊢
 refine Af.seq (hr A α₁ o0 c0 C s0 (Ac ns)) (λb vb X0 Y1 w0 w1 y0 W0 rb Z0=>?_) λx c0 q=>q.bind.after d0 l0
 rw [Ab Z0] at ns ⊢
 exact aX (EZ op A X0 Y1 w0 a b va vb C w1 (s0.stays C W0 y0 ra) rb ns) (λU U q=>(q.after y0 W0).after d0 l0) (λU U q=>(q.after y0 W0).after d0 l0)
end
inductive All2 {V β:Type}(P:V->β->Prop):List V->List β->Prop
 | nil:All2 P [] []
 | cons {a:V} {b:β} {l:List V} {l':List β} (h:P a b) (t:All2 P l l'):All2 P (a::l) (b::l')
section
variable {W:Wd}{fm:Fm}{V α' α₁:List Addr}{h h' h₁:Heap}{n:Nat}{A:Around}{ps ps':PS}{s s':Shared}{hd:Bool}{H:Hd}{h₀:Heap}
inductive OkB (W:Wd)(fm:Fm)(V:List Addr)(h:Heap)(r:R Bool)(v:Bool)(s':Shared):Prop
 | mk (ps':PS) (α':List Addr) (k1:r = .ok v ps') (k2:InvS W fm α' ps' s') (k3:Grow V α' h) (k4:Rel fm.stk fm.tab V h s'.heap):OkB W fm V h r v s'
abbrev SimB.T (W:Wd)(n:Nat)(fm:Fm)(e:Expr)(m:M Bool):Prop:=∀ A V ps s,Ctx W fm n A->InvS W fm V ps s->m ps≠.stuck->wpAny W.m A (isTrue e fm.env (eval e fm.env)) (OkB W fm V s.heap (m ps)) (ExE W fm V s.heap (m ps)) s
structure SimB (W:Wd)(n:Nat)(fm:Fm)(e:Expr)(m:M Bool):Prop where
 go:SimB.T W n fm e m
noncomputable instance {W:Wd} {n:Nat} {fm:Fm} {e:Expr} {m:M Bool}:CoeFun (SimB W n fm e m) (λU=>SimB.T W n fm e m):=⟨SimB.go⟩
theorem OkB.after {r:R Bool}{v:Bool}(q:OkB W fm α₁ h₁ r v s')(g:Grow V α₁ h)(x:Rel fm.stk fm.tab V h h₁):OkB W fm V h r v s':=by
 obtain ⟨ps',α',e,I,g',x'⟩:=q
 exact ⟨ps',α',e,I,g.trans g' x,x.trans x' g.new⟩
theorem OkB.same (I:InvS W fm V ps s){b:Bool}:OkB W fm V s.heap (.ok b ps) b s:=⟨ps,V,rfl,I,.refl ..,.refl ..⟩
def tst (v:PV):M Bool:=aw (truP v)
theorem DK {p:PV}{v:Value}{b:Bool}(r:W.rep fm V h p v)(e:truP p=some b):v = .bool b:=by
 cases p <;> cases e
 exact r.inv
theorem Jo {p:PV}(ns:tst p ps≠.stuck):∃ b,truP p=some b/\tst p ps = .ok b ps:=D5 ns
theorem CV {p:PV}{v:Value}(I:InvS W fm V ps s)(r:W.rep fm V s.heap p v)(ns:tst p ps≠.stuck){E:Value->Shared->Prop}:wpAny W.m A (truthy v) (OkB W fm V s.heap (tst p ps)) E s:=by
 obtain ⟨b,e,e'⟩:=Jo ns
 rw [e',DK r e]
 exact wpAny_truthy_bool (.same I)
theorem Qe {l r:Expr}{op:CmpOp}{pos:Pos}{ml mr:M PV}(hl:SimE W n fm l ml)(hr:SimE W n fm r mr)(hm:behindInMarks op r=false) :
  SimB W n fm (.Compare l [op] [r] pos) (ac ml λa=>ac mr λb=>ac (Aq op a b) tst):=.mk λA V ps s C I ns=>by
 refine wpAny_isTrue_Compare1 (Af.seq (hl A V ps s C I (Ac ns)) (λa va α₁ o0 c0 s0 d0 l0 ra u0=>?_) λx c0 q=>q.bind) hm
 rw [Ab u0] at ns ⊢
 refine Af.seq (hr A α₁ o0 c0 C s0 (Ac ns)) (λb vb X0 Y1 w0 w1 y0 W0 rb Z0=>?_) λx c0 q=>q.bind.after d0 l0
 rw [Ab Z0] at ns ⊢
 refine Af.seq (EZ op A X0 Y1 w0 a b va vb C w1 (s0.stays C W0 y0 ra) rb (Ac ns)) (λc vc W4 j4 w3 Z1 u3 v3 rc Y3=>?_) λx c0 q=>(q.bind.after y0 W0).after d0 l0
 rw [Ab Y3] at ns ⊢
 exact aX (CV Z1 rc ns) (λU U q=>((q.after u3 v3).after y0 W0).after d0 l0) (λU U q=>q)
theorem A9 {e:Expr}{m:M PV}(he:SimE W n fm e m)(hv:∀ env whole,isTrue e env whole=(do let v <- whole;standAt e.pos;holding [v] (truthy v))):SimB W n fm e (ac m tst):=.mk λA V ps s C I ns=>by
 rw [hv]
 refine bj (Af.seq (he A V ps s C I (Ac ns)) (λa va α₁ o0 c0 s0 d0 l0 ra u0=>?_) λx c0 q=>q.bind)
 rw [Ab u0] at ns ⊢
 exact bj (wpAny_standAt (bh (aX (CV s0 ra ns) (λU U q=>q.after d0 l0) (λU U q=>q))))
theorem D7 {e:Expr}{pos:Pos}{m:M Bool}(he:SimB W n fm e m):SimB W n fm (.UnaryOp .Not e pos) (ac m λb=>ae !b):=.mk λA V ps s C I ns=>by
 rw [arm_isTrue_UnaryOp]
 refine bj (aX (he A V ps s C I (Ac ns)) (λb c0 q=>?_) (λU U q=>q.bind))
 obtain ⟨o0,α₁,u0,s0,d0,l0⟩:=q
 rw [Ab u0]
 exact bk ⟨o0,α₁,rfl,s0,d0,l0⟩
def Hn:BoolOp->Bool->Bool
 | .And,b=>!b
 | .Or,b=>b
def AC (op:BoolOp):List (M Bool)->M Bool
 | []=>ae (op==.And)
 | m::r=>ac m λb=>if Hn op b then ae b else AC op r
set_option backward.match.sparseCases true in
theorem Jp {op:BoolOp}{e:Expr}{es:List Expr}{env:Env}:allTrue op (e::es) env=(do match op,<- isTrue e env (eval e env) with | .And,false=>pure false | .Or,true=>pure true | _,_=>allTrue op es env):=rfl
theorem Qf {op:BoolOp}:∀ {es:List Expr} {ms:List (M Bool)},All2 (SimB W n fm) es ms->∀ A V ps s,Ctx W fm n A->InvS W fm V ps s->AC op ms ps≠.stuck->wpAny W.m A (allTrue op es fm.env) (OkB W fm V s.heap (AC op ms ps)) (ExE W fm V s.heap (AC op ms ps)) s:=by
 intro _ _ hS
 induction hS with
 | nil=>
  intro A V ps s C I ns
  exact bk (.same I)
 | @cons e m es ms q qs ih=>
  intro A V ps s C I ns
  rw [Jp]
  unfold AC at ns ⊢
  refine bj (aX (q A V ps s C I (Ac ns)) (λb c0 z=>?_) (λU U z=>z.bind))
  obtain ⟨o0,α₁,u0,s0,d0,l0⟩:=z
  rw [Ab u0] at ns ⊢
  have rest:AC op ms o0≠.stuck->wpAny W.m A (allTrue op es fm.env) (OkB W fm V s.heap (AC op ms o0)) (ExE W fm V s.heap (AC op ms o0)) c0:=λz=>
   aX (ih A α₁ o0 c0 C s0 z) (λU U q=>q.after d0 l0) (λU U q=>q.after d0 l0)
  cases op <;> cases b
  ·exact bk ⟨o0,α₁,rfl,s0,d0,l0⟩
  ·exact rest ns
  ·exact rest ns
  ·exact bk ⟨o0,α₁,rfl,s0,d0,l0⟩
theorem AG {op:BoolOp}{es:List Expr}{pos:Pos}{ms:List (M Bool)}(hs:All2 (SimB W n fm) es ms):SimB W n fm (.BoolOp op es pos) (AC op ms):=.mk λA V ps s C I ns=>by
 rw [arm_isTrue_BoolOp];exact Qf hs A V ps s C I ns
theorem Bk {t b o:Expr}{pos:Pos}{mt:M Bool}{mb mo:M PV}(ht:SimB W n fm t mt)(hb:SimE W n fm b mb)(ho:SimE W n fm o mo):SimE W n fm (.IfExp t b o pos) (ac mt λc=>if c then mb else mo):=.mk λA V ps s C I ns=>by
 show wpAny _ _ (do if <- isTrue t fm.env (eval t fm.env) then eval b fm.env else eval o fm.env) _ _ _
 refine bj (aX (ht A V ps s C I (Ac ns)) (λc c0 z=>?_) (λU U z=>z.bind))
 obtain ⟨o0,α₁,u0,s0,d0,l0⟩:=z
 rw [Ab u0] at ns ⊢
 cases c
 ·exact aX (ho A α₁ o0 c0 C s0 ns) (λU U q=>q.after d0 l0) (λU U q=>q.after d0 l0)
 ·exact aX (hb A α₁ o0 c0 C s0 ns) (λU U q=>q.after d0 l0) (λU U q=>q.after d0 l0)
def BC (op:BoolOp):List (M PV)->M PV
 | []=>ar
 | [m]=>m
 | m::r=>ac m λv=>ac (tst v) λb=>if Hn op b then ae v else BC op r
set_option backward.match.sparseCases true in
theorem KB {pos:Pos}{op:BoolOp}{x y:Sem Value}{r:List (Sem Value)}:boolOp pos op (x::y::r)=(do
  let v <- x
  standAt pos
  let t <- holding [v] (truthy v)
  match op,t with
  | .And,false | .Or,true=>pure v
  | _,_=>boolOp pos op (y::r)):=rfl
theorem L1 {op:BoolOp}{m m':M PV}{r:List (M PV)}:BC op (m::m'::r)=ac m λv=>ac (tst v) λb=>if Hn op b then ae v else BC op (m'::r):=rfl
theorem Ib {e:Expr}{es:List Expr}{env:Env}:evalEach (e::es) env=eval e env::evalEach es env:=rfl
theorem Ic {op:BoolOp}{pos:Pos}{es:List Expr}{ms:List (M PV)}(qs:All2 (SimE W n fm) es ms):∀ {e:Expr} {m:M PV},SimE W n fm e m->∀ A V ps s,Ctx W fm n A->InvS W fm V ps s->BC op (m::ms) ps≠.stuck->Af W fm A V ps s (boolOp pos op (eval e fm.env::evalEach es fm.env)) (BC op (m::ms)):=by
 induction qs with
 | nil=>intro e m q A V ps s C I ns;exact q A V ps s C I ns
 | @cons e' m' es ms q' qs ih=>
  intro e m q A V ps s C I ns
  unfold Af
  rw [L1] at ns ⊢
  rw [Ib,KB]
  refine bj (Af.seq (q A V ps s C I (Ac ns)) (λv va α₁ o0 c0 s0 d0 l0 ra u0=>?_) λx c0 q=>q.bind)
  rw [Ab u0] at ns ⊢
  refine bj (wpAny_standAt (bj (bh ?_)))
  obtain ⟨b,tb,eb⟩:=Jo (Ac ns)
  rw [Ab eb] at ns ⊢
  have hv:=DK ra tb
  subst hv
  refine wpAny_truthy_bool ?_
  have rest:BC op (m'::ms) o0≠.stuck->wpAny W.m A (boolOp pos op (eval e' fm.env::evalEach es fm.env)) (OkE W fm V s.heap (BC op (m'::ms) o0)) (ExE W fm V s.heap (BC op (m'::ms) o0)) c0:=λz=>
   aX (ih q' A α₁ o0 c0 C s0 z) (λU U q=>q.after d0 l0) (λU U q=>q.after d0 l0)
  have done:OkE W fm V s.heap (ae v o0) (.bool b) c0:=⟨v,o0,α₁,rfl,s0,d0,l0,ra⟩
  cases op <;> cases b
  ·exact bk done
  ·exact rest ns
  ·exact rest ns
  ·exact bk done
theorem CW {op:BoolOp}{es:List Expr}{pos:Pos}{ms:List (M PV)}(hs:All2 (SimE W n fm) es ms):SimE W n fm (.BoolOp op es pos) (BC op ms):=.mk λA V ps s C I ns=>
 by cases hs with
 | nil=>exact absurd rfl ns
 | cons q qs=>exact Ic qs q A V ps s C I ns
end
section
variable {W:Wd}{fm:Fm}{V α' α₁:List Addr}{h h' h₁:Heap}{n:Nat}{A:Around}{ps ps':PS}{s s':Shared}{H:Hd}{h₀:Heap}
theorem AH (h:Heap):h.get? h.objs.size=none:=by
 cases q:h.get? h.objs.size with
 | none=>rfl
 | some o=>exact absurd (lt_size q) (bl _)
theorem F4 {e:Addr}{cls:String}{tk:Nat}(I:InvS W fm V ps s)(x:Heap.NewExc s.heap h' e cls){β:Type}(hc:cls≠"code":=by decide):ExE W fm V s.heap (.ex (.std cls) ps:R β) (.ref e) { s with heap:=h',toks:=tk }:=by
 obtain ⟨ob,t,h1,h2,h3⟩:=x.there
 refine ⟨.std cls,ps,V,rfl,⟨I.inv.keeps x.keeps,I.gens,I.os⟩,.refl ..,.of_keeps x.keeps,e,ob,_,rfl,h1,h2,h3,by simp,x.new,hc,.inl rfl,rfl⟩
theorem F5 {β:Type}{hd:Bool}{nm:String}(ns:(aJ hd nm:M β) ps≠.stuck):hd=false/\(aJ hd nm:M β) ps = .ex (.std nm) ps:=by
 unfold aJ at ns ⊢
 cases hd
 ·exact ⟨rfl,rfl⟩
 ·exact absurd rfl ns
theorem Ah {β:Type}{c:Bool}{m:M β}(ns:am c m ps≠.stuck):c=true/\am c m ps=m ps:=by
 unfold am at ns ⊢
 cases c
 ·exact absurd rfl ns
 ·exact ⟨rfl,rfl⟩
theorem Jq (i:Int)(n:Nat):seqIndex? i n=idx i n:=by
 unfold seqIndex? idx
 by_cases h0:0<=i
 ·have:¬ i<0:=by lia
  simp only [this,if_false,h0,if_true,decide_true,Bool.true_and]
  by_cases h1:i.toNat<n
  ·have:i<n:=by lia
   simp [h1,this]
  ·have:¬ i<n:=by lia
   simp [h1,this]
 ·have:i<0:=by lia
  simp only [this,if_true,h0,if_false]
  by_cases h1:0<=i+n
  ·have:i+n<n:=by lia
   simp [h1,this]
  ·simp [h1]
theorem U3 {i:Int}{n j:Nat}(h:idx i n=some j):j<n:=by
 unfold idx at h
 split at h <;> split at h <;> cases h <;> lia
theorem Ho {i:Int}(h:small i=true):-(2 ^ 63:Int)<=i/\i<2 ^ 63:=by
 unfold small at h
 rw [decide_eq_true_eq] at h
 have:((2:Int) ^ 63)=9223372036854775808:=by decide
 omega
theorem IF {i:Int}(h:small i=true):(decide (i < -(2 ^ 63:Int))||decide (i≥2 ^ 63))=false:=by
 have:=Ho h
 simp only [or_eq_false_iff,decide_eq_false_iff_not]
 lia
theorem Fw {value slice:Expr}{o i:Value}{T id:String}{m:M PV}(hT:s.TypeIs o T)(hl:typeLookup (.type T) "__getitem__" = pure (some (.builtin id)))(hs:∀ o i,∃ ops,subscripted slice false o i=operate ops (getItem o i))
  (g:Af W fm A V ps s (getItem o i) m):Af W fm A V ps s (subscriptTail value slice o i) m:=by
 obtain ⟨ops,e⟩:=hs o i
 exact tail_any hT hl g e
theorem Jr:Slot "mappingproxy" "__getitem__" "mappingproxy.__getitem__":=
 .of (owner:="mappingproxy") (n:="__getitem__") (by rw [typeLookup_type,builtinLookup_eq_fast];kernel_rfl) (by decide +kernel) (by decide +kernel) (by decide +kernel)
  (by first | exact .inl (by decide +kernel) | exact .inr (by decide +kernel)) (by rw [isSubtype_type];kernel_rfl)
theorem Qg:entryFor table "mappingproxy.__getitem__" = some Builtin.«mappingproxy.__getitem__»:=entryFor_of_tree (by kernel_rfl)
theorem Oq (hd:Bool)(x:Txt)(i:Int):Ap hd (.str x) (.int i)=am (small i) (match idx i x.length with
  | some j=>ae (.str [x.getD j 0])
  | none=>aJ hd "IndexError"):=rfl
theorem IG (hd:Bool)(k:Nat)(i:Int):Ap hd (.lst k) (.int i)=am (small i) (ac (aq k) λl=>aw ((idx i l.length).bind (l[·]?))):=rfl
theorem Os (hd:Bool)(l:List PV)(i:Int):Ap hd (.tup l) (.int i)=am (small i) (aw ((idx i l.length).bind (l[·]?))):=rfl
theorem Ot (hd:Bool)(ks vs:List PV)(x:PV):Ap hd (.dct ks vs) x=aw ((EH ks vs x).bind id):=rfl
theorem Qh (hd:Bool)(x:Txt):Ap hd .mp (.str x)=match escT x with
  | some t=>ae (.str t)
  | none=>aJ hd "KeyError":=rfl
theorem Qi {x:Txt}{i:Int}{t u:Tok}(hA:A.handled=fm.hdl)(I:InvS W fm V ps s)(ns:Ap fm.hdl.isSome (.str x) (.int i) ps≠.stuck) :
  Af W fm A V ps s (getItem (.str (txt x) t) (.int i u)) (Ap fm.hdl.isSome (.str x) (.int i)):=by
 rw [Oq] at ns ⊢
 obtain ⟨hs,e⟩:=Ah ns
 rw [e] at ns
 refine Af.congr e ?_
 cases q:idx i x.length with
 | some j=>
  have lt:=U3 q
  refine PySem.P.getItem_str (c:=x.getD j 0) (IF hs) ?_ ?_
  ·rw [Jq,AN,q]
   show (txt x).cps[j]? = _
   simp [txt,lt]
  ·exact OkE.same I (.str [x.getD j 0] _)
 | none=>
  simp only [q] at ns
  obtain ⟨h1,h2⟩:=F5 ns
  have hh:A.handled=none:=by rw [hA];exact Option.isNone_iff_eq_none.mp (by cases hq:fm.hdl <;> simp_all)
  refine Af.congr (m':=λps=>.ex (.std "IndexError") ps) h2 ?_
  exact getItem_meets (typeIs_str s (txt x) t) (by decide) F.slot_str_getitem F.entry_str_getitem (F.args_str_getitem_2 _ (.int i u))
   (raises_str_getitem (txt x) i t u (IF hs) (by rw [Jq,AN,q];rfl)) ⟨hh,λh' tk e x=>F4 I x⟩
set_option tactic.hygienic true in
theorem KC {v:Value}{k:Nat}{i:Int}{u:Tok}(I:InvS W fm V ps s)(r:W.rep fm V s.heap (.lst k) v)(ns:Ap fm.hdl.isSome (.lst k) (.int i) ps≠.stuck) :
  Af W fm A V ps s (getItem v (.int i u)) (Ap fm.hdl.isSome (.lst k) (.int i)):=by
 rw [IG] at ns ⊢
 obtain ⟨hs,e⟩:=Ah ns
 rw [e] at ns
 refine Af.congr e ?_
 obtain ⟨l,e1,e2⟩:=A5 (Ac ns)
 rw [Ab e2] at ns
 refine Af.congr (Ab e2) ?_
 obtain ⟨p,e3,e4⟩:=D5 ns
 obtain ⟨a,vs,rfl,hl,rl⟩:=DI I r e1
 refine Af.congr (m':=ae p) e4 ?_
 cases q:idx i l.length with
 | none=>rw [q] at e3;cases e3
 | some j=>
  rw [q] at e3
  obtain ⟨v,hv,rv⟩:=rl.get j p e3
  have len:=rl.length
  have b:=Ho hs
  unfold idx at q
  by_cases h0:0<=i
  ·rw [if_pos h0] at q
   split at q <;> cases q
   exact wpAny_getItem_list hl h0 b.2 (by simpa using hv) (OkE.same' I rv)
  ·rw [if_neg h0] at q
   split at q <;> cases q
   rename_i h1
   refine wpAny_getItem_list_neg hl (by lia) (by rw [size_toArray,<- len];lia) b.1 ?_ (OkE.same' I rv)
   rw [size_toArray,<- len]
   simpa using hv
theorem Qj {v:Value}{l:List PV}{i:Int}{u:Tok}(I:InvS W fm V ps s)(r:W.rep fm V s.heap (.tup l) v)(ns:Ap fm.hdl.isSome (.tup l) (.int i) ps≠.stuck) :
  Af W fm A V ps s (getItem v (.int i u)) (Ap fm.hdl.isSome (.tup l) (.int i)):=by
 rw [Os] at ns ⊢
 obtain ⟨hs,e⟩:=Ah ns
 rw [e] at ns
 refine Af.congr e ?_
 obtain ⟨p,e3,e4⟩:=D5 ns
 refine Af.congr (m':=ae p) e4 ?_
 obtain ⟨a,vs,rfl,ha,hi,rl⟩:=r.inv
 ·cases q:idx i l.length with
  | none=>rw [q] at e3;cases e3
  | some j=>
   rw [q] at e3
   obtain ⟨v,hv,rv⟩:=rl.get j p e3
   have b:=Ho hs
   exact getItem_tuple (j:=j) hi b.1 b.2 (by rw [size_toArray,<- rl.length,Jq];exact q) (by simpa using hv) (OkE.same' I rv)
theorem Qk {v vx:Value}{ks vs:List PV}{x:PV}(I:InvS W fm V ps s)(r:W.rep fm V s.heap (.dct ks vs) v)(rx:W.rep fm V s.heap x vx)(ns:Ap fm.hdl.isSome (.dct ks vs) x ps≠.stuck) :
  Af W fm A V ps s (getItem v vx) (Ap fm.hdl.isSome (.dct ks vs) x):=by
 rw [Ot] at ns ⊢
 obtain ⟨p,e3,e4⟩:=D5 ns
 refine Af.congr (m':=ae p) e4 ?_
 have e6:EH ks vs x=some (some p):=by
  cases q:EH ks vs x with
  | none=>rw [q] at e3;cases e3
  | some r=>rw [q] at e3;exact congrArg some e3
 obtain ⟨a,o,es,ep,rfl,ha,ho,hx,hd,hk,rk,rv⟩:=r.inv
 rcases hk with hk | hk
 ·obtain ⟨y,rfl⟩:=Hk hk rk rx e6
  obtain ⟨_,rfl⟩:=rx.inv
  obtain ⟨d,f1,f2⟩:=Ky hk rk rv (DJ e6)
  have hm:s.heap.MapOf (strKind W.H.prog W.H.w) _ (λk=>findBy (strKind W.H.prog W.H.w).is _ k):=⟨_,_,_,ho,hx,hd,hk,λU=>rfl⟩
  refine wpAny_getItem_of (strKind_is _ _ _ _) hm (v:=d.val) ?_ (OkE.same I f2)
  unfold findBy
  obtain ⟨l⟩:=es
  simp only at f1
  simp [f1]
 ·obtain ⟨y,rfl⟩:=Gv hk rk rx e6
  obtain ⟨_,rfl⟩:=rx.inv
  obtain ⟨d,f1,f2⟩:=Kz hk rk rv (DJ e6)
  have hm:s.heap.MapOf (intKind W.H.prog W.H.w) _ (λk=>findBy (intKind W.H.prog W.H.w).is _ k):=⟨_,_,_,ho,hx,hd,hk,λU=>rfl⟩
  refine wpAny_getItem_of (intKind_is _ _ _ _) hm (v:=d.val) ?_ (OkE.same I f2)
  unfold findBy
  obtain ⟨l⟩:=es
  simp only at f1
  simp [f1]
theorem SZ {v:Value}{x:Txt}{u:Tok}(C:Ctx W fm n A)(I:InvS W fm V ps s)(r:W.rep fm V s.heap .mp v)(ns:Ap fm.hdl.isSome .mp (.str x) ps≠.stuck) :
  Af W fm A V ps s (getItem v (.str (txt x) u)) (Ap fm.hdl.isSome .mp (.str x)):=by
 rw [Qh] at ns ⊢
 obtain rfl:_=_:=r.inv
 obtain ⟨o,d,f,ho,hc,hd,hlo,hm,hf⟩:=C.hd.mp
 have ho:=I.inv.base _ _ ho
 have hm:s.heap.MapOf (strKind W.H.prog W.H.w) d f:=by
  obtain ⟨o',es,ep,q1,q2⟩:=hm
  exact ⟨o',es,ep,I.inv.base _ _ q1,q2⟩
 have hT:s.TypeIs (.ref W.H.mpv) "mappingproxy":=⟨o,ho,hc⟩
 have go:∀ {Q:Value->Shared->Prop} {E:Value->Shared->Prop},wpAny W.m A.in1 (getItem (.ref d) (.str (txt x) u)) Q E s->wpAny W.m A (getItem (.ref W.H.mpv) (.str (txt x) u)) Q E s:=λ{Q E} h=>
  wpAny_getItem_slot hT (by decide) Jr (wpAny_call_entry Jr hT Qg (by
   show wpAny _ _ (do let m <- field (.ref W.H.mpv) 0;let v <- getItem m (.str (txt x) u);ret v) _ _ _
   exact bj (wpAny_field ho hd rfl (bj (aX h (λv s' q=>bk ⟨v,rfl,q⟩) λU U q=>q)))) (by unfold argsOk;kernel_rfl))
 cases q:escT x with
 | some t=>
  obtain ⟨tk,e⟩:=(hf x).2 t q
  exact go (wpAny_getItem_of (strKind_is _ _ _ _) hm e (OkE.same I (.str t tk)))
 | none=>
  simp only [q] at ns
  obtain ⟨h1,h2⟩:=F5 ns
  have hh:A.in1.handled=none:=by
   show A.handled=none
   rw [C.hdl];exact Option.isNone_iff_eq_none.mp (by cases hq:fm.hdl <;> simp_all)
  refine Af.congr (m':=λps=>.ex (.std "KeyError") ps) h2 ?_
  exact go (wpAny_getItem_missing_of (strKind_is _ _ _ _) hlo hh hm ((hf x).1 q) λh' e x=>F4 I x)
theorem S0 {a b:PV}{va vb:Value}{value slice:Expr}(C:Ctx W fm n A)(I:InvS W fm V ps s)(ra:W.rep fm V s.heap a va)(rb:W.rep fm V s.heap b vb)(hs:∀ o i,∃ ops,subscripted slice false o i=operate ops (getItem o i))
  (ns:Ap fm.hdl.isSome a b ps≠.stuck):Af W fm A V ps s (subscriptTail value slice va vb) (Ap fm.hdl.isSome a b):=by
 cases a with
 | str x=>
  obtain ⟨i,eb⟩:=A8 ns
  obtain rfl:=AW eb
  obtain ⟨_,rfl⟩:=ra.inv;obtain ⟨_,rfl⟩:=rb.inv
  exact Fw (T:="str") rfl F.slot_str_getitem.lookup hs (Qi C.hdl I ns)
 | lst k=>
  obtain ⟨i,eb⟩:=A8 ns
  obtain rfl:=AW eb
  obtain ⟨_,rfl⟩:=rb.inv
  have ns':=ns
  rw [IG] at ns'
  obtain ⟨hq,e⟩:=Ah ns'
  rw [e] at ns'
  obtain ⟨l,e1,e2⟩:=A5 (Ac ns')
  obtain ⟨a,vs,rfl,hl,rl⟩:=DI I ra e1
  exact Fw hl.typeIs slot_list_getitem.lookup hs (KC I ra ns)
 | tup l=>
  obtain ⟨i,eb⟩:=A8 ns
  obtain rfl:=AW eb
  obtain ⟨_,rfl⟩:=rb.inv
  have g:=λ(u:Tok)=>Qj (A:=A) (u:=u) I ra ns
  obtain ⟨_,_,rfl,ha,hi,rl⟩:=ra.inv
  exact Fw hi.typeIs slot_tuple_getitem.lookup hs (g _)
 | dct ks vs=>
  have g:=Qk (A:=A) I ra rb ns
  obtain ⟨_,o,es,ep,rfl,hna,ho,hx,_⟩:=ra.inv
  exact Fw ⟨_,ho,hx.1⟩ slot_dict_getitem.lookup hs g
 | mp=>
  obtain ⟨x,eb⟩:=A8 ns
  obtain rfl:=Bf eb
  obtain ⟨_,rfl⟩:=rb.inv
  have g:=λ(u:Tok)=>SZ (u:=u) C I ra ns
  obtain rfl:_=_:=ra.inv
  obtain ⟨o,d,f,ho,hc,_⟩:=C.hd.mp
  exact Fw ⟨o,I.inv.base _ _ ho,hc⟩ Jr.lookup hs (g _)
 | _=>exact absurd rfl ns
theorem Ql {e i:Expr}{pos:Pos}{me mi:M PV}{hd:Bool}(hh:fm.hdl.isSome=hd)(he:SimE W n fm e me)(hi:SimE W n fm i mi)(hs:∀ o v,∃ ops,subscripted i false o v=operate ops (getItem o v)) :
  SimE W n fm (.Subscript e i pos) (ac me λa=>ac mi λb=>Ap hd a b):=.mk λA V ps s C I ns=>by
 subst hh
 refine Subscript_ (Af.seq (he A V ps s C I (Ac ns)) (λa va α₁ o0 c0 s0 d0 l0 ra u0=>?_) λx c0 q=>q.bind)
 rw [Ab u0] at ns ⊢
 refine Af.seq (hi A α₁ o0 c0 C s0 (Ac ns)) (λb vb X0 Y1 w0 w1 y0 W0 rb Z0=>?_) λx c0 q=>q.bind.after d0 l0
 rw [Ab Z0] at ns ⊢
 exact aX (S0 C w1 (s0.stays C W0 y0 ra) rb hs ns) (λU U q=>(q.after y0 W0).after d0 l0) (λU U q=>(q.after y0 W0).after d0 l0)
theorem Hp {β:Type}(l:List β)(lo hi:Nat)(hh:hi<=l.length):((range (hi - lo)).map (λk=>lo+k)).filterMap (l[·]?)=(l.take hi).drop lo:=by
 rw [List.filterMap_map]
 apply List.ext_getElem?
 intro i
 have e:(range (hi - lo)).filterMap ((λx=>l[x]?)∘λk=>lo+k)=(l.take hi).drop lo:=by
  generalize hd:hi - lo=d
  induction d generalizing hi with
  | zero=>
   rw [drop_of_length_le (by rw [length_take];exact la [_,_,_,_] [([2],[1]),([4],[6]),([6],[2,8,0])] ([4],[8]) rfl (Nat.le_of_eq hd) (Nat.min_le_left _ _) (Mi.lcS _ _))];rfl
  | succ d ih=>
   obtain ⟨k,rfl⟩:∃ k,hi=k+1:=⟨hi - 1,by omega⟩
   have e1:=ih k (by exact la [_,_] [([2,3,0],[4])] ([2],[4]) rfl hh) (by omega)
   have lt:k<l.length:=by exact la [_,_] [([2,3,0],[4])] ([2,3,0],[4]) rfl hh
   have e2:l.take (k+1)=l.take k++[l[k]]:=by
    rw [take_add_one,getElem?_eq_getElem lt];rfl
   rw [range_succ,List.filterMap_append,e1,e2,List.drop_append_of_le_length (by rw [length_take];omega)]
   congr 1
   have:lo+d=k:=by omega
   simp [this,getElem?_eq_getElem lt]
 rw [e]
theorem KD (i:Int)(n:Nat):max 0 (min (if i<0 then i+n else i) n)=(bnd i n:Int):=by
 have max0:∀ m:Nat,max 0 (min (m:Int) n)=((min m n:Nat):Int):=λm=>by lia
 unfold bnd
 by_cases h:0<=i
 ·rw [if_neg (Int.not_lt.mpr h),if_pos h]
  obtain ⟨m,rfl⟩:=Int.eq_ofNat_of_zero_le h
  exact max0 m
 ·have lt:=Int.not_le.mp h
  rw [if_pos lt,if_neg h]
  by_cases g:0<=i+n
  ·obtain ⟨m,e⟩:=Int.eq_ofNat_of_zero_le g
   have le:m<=n:=by lia
   rw [e]
   exact (max0 m).trans (congrArg Nat.cast (bn le))
  ·have g:=Int.le_of_lt (Int.not_le.mp g)
   rw [Int.toNat_of_nonpos g]
   exact Int.max_eq_left (Int.le_trans (Int.min_le_left ..) g)
theorem bnd_le (i:Int)(n:Nat):bnd i n<=n:=by
 unfold bnd;split <;> lia
theorem Gw (lo hi:Nat):sliceRange (lo:Int) (hi:Int) 1=(range (hi - lo)).map (λk=>lo+k):=by
 unfold sliceRange
 simp only [show (1:Int)>0 by decide,if_true]
 by_cases q:lo<hi
 ·rw [if_pos (by lia)]
  have:(((hi:Int) - lo+1 - 1) / 1).toNat=hi - lo:=by rw [Int.ediv_one];lia
  rw [this]
  refine List.map_congr_left λk U=>?_
  lia
 ·rw [if_neg (by lia),show hi - lo=0 by lia];rfl
def loB (a:Option Int)(n:Nat):Nat:=match a with | some i=>bnd i n | none=>0
def hiB (b:Option Int)(n:Nat):Nat:=match b with | some i=>bnd i n | none=>n
theorem L3 (b:Option Int)(n:Nat):hiB b n<=n:=by cases b <;> simp [hiB,bnd_le]
theorem Hq {β:Type}(l:List β)(a b:Option Int):slc l a b=(l.take (hiB b l.length)).drop (loB a l.length):=rfl
theorem Qm (a b:Option Int)(n:Nat):Builtin.Str.strSliceIndices a b 1 n=(range (hiB b n - loB a n)).map (λk=>loB a n+k):=by
 rw [<- Gw]
 unfold Builtin.Str.strSliceIndices
 cases a <;> cases b <;> simp only [show (1:Int)>0 by decide,if_true,loB,hiB,KD] <;> rfl
theorem U4 (a b:Option Int)(n:Nat):sliceRange (sliceBounds a b none n).1 (sliceBounds a b none n).2.1 (sliceBounds a b none n).2.2=(range (hiB b n - loB a n)).map (λk=>loB a n+k):=by
 rw [<- Gw]
 unfold sliceBounds
 cases a <;> cases b <;> simp only [Option.getD_none,show (1:Int)>0 by decide,if_true,loB,hiB,KD] <;> rfl
set_option tactic.hygienic true in
theorem Ou (x:Txt)(a b:Option Int):(if ((1:Int)==1&&(Builtin.Str.strSliceIndices a b 1 (txt x).length).length==(txt x).length)=true then txt x else ⟨((Builtin.Str.strSliceIndices a b 1 (txt x).length).filterMap ((txt x).cps[·]?)).toArray⟩)=txt (slc x a b):=by
 have e:((Builtin.Str.strSliceIndices a b 1 (txt x).length).filterMap ((txt x).cps[·]?))=slc x a b:=by
  rw [Qm,Hq,AN]
  have:=Hp x (loB a x.length) (hiB b x.length) (L3 _ _)
  rw [<- this]
  refine congrFun (congrArg _ (funext λk=>?_)) _
  simp [txt]
 split
 ·rename_i q
  simp only [and_eq_true,beq_iff_eq] at q
  obtain ⟨_,q⟩:=q
  rw [Qm,length_map,length_range,AN] at q
  have h1:=L3 b x.length
  have:slc x a b=x:=by
   rw [Hq]
   have e1:hiB b x.length=x.length:=by exact bg (la [_,_] [([2],[4])] ([2],[4]) rfl h1) (la [_,_,_] [([2],[4]),([4],[6])] ([2],[6]) rfl (aS q.symm) (Nat.sub_le _ _))
   have e2:loB a x.length=0\/x.length=0:=by lia
   rw [e1,take_length]
   rcases e2 with e2 | e2
   ·rw [e2];rfl
   ·rw [length_eq_zero_iff.mp e2];simp
  rw [this]
 ·rw [e];rfl
theorem Qn (vs:List Value)(a b:Option Int):(slicePick vs.toArray a b none).toList=slc vs a b:=by
 unfold slicePick
 rw [List.toList_toArray,U4,size_toArray,Hq]
 have:=Hp vs (loB a vs.length) (hiB b vs.length) (L3 _ _)
 rw [<- this]
 refine congrFun (congrArg _ (funext λk=>?_)) _
 simp
theorem RepL.take {av:List Addr}{l:List PV}{vs:List Value}(k:Nat)(r:RepL H h₀ av V h l vs):RepL H h₀ av V h (l.take k) (vs.take k):=by
 revert k
 refine r.ind (P:=λl vs=>∀ k,RepL H h₀ av V h (l.take k) (vs.take k)) (λk=>by rw [take_nil,take_nil];exact .nil) λp v l vs q U ih k=>?_
 cases k with
 | zero=>exact .nil
 | succ k=>exact .cons q (ih k)
theorem RepL.drop {av:List Addr}{l:List PV}{vs:List Value}(k:Nat)(r:RepL H h₀ av V h l vs):RepL H h₀ av V h (l.drop k) (vs.drop k):=by
 revert k
 refine r.ind (P:=λl vs=>∀ k,RepL H h₀ av V h (l.drop k) (vs.drop k)) (λk=>by rw [drop_nil,drop_nil];exact .nil) λp v l vs q qs ih k=>?_
 cases k with
 | zero=>exact .cons q qs
 | succ k=>exact ih k
theorem RepL.slc {av:List Addr}{l:List PV}{vs:List Value}(a b:Option Int)(r:RepL H h₀ av V h l vs):RepL H h₀ av V h (slc l a b) (slc vs a b):=by
 rw [Hq,Hq,<- r.length];exact (r.take _).drop _
inductive SimO (W:Wd)(n:Nat)(fm:Fm):Option Expr->Option (M PV)->Prop
 | none:SimO W n fm none none
 | some {e:Expr} {m:M PV} (x:SimE W n fm e m):SimO W n fm (some e) (some m)
def OkP (W:Wd)(fm:Fm)(V:List Addr)(h:Heap)(r:R (Option Int))(v:Value)(s':Shared):Prop:=
 ∃ a ps' α',r = .ok a ps'/\InvS W fm α' ps' s'/\Grow V α' h/\Rel fm.stk fm.tab V h s'.heap/\∃ p:Option (Int × Tok),v=partValue p/\p.map (·.1)=a
set_option tactic.hygienic true in
theorem Nk {oe:Option Expr}{om:Option (M PV)}(q:SimO W n fm oe om)(C:Ctx W fm n A)(I:InvS W fm V ps s)(ns:AP om ps≠.stuck) :
  wpAny W.m A (evalPart oe fm.env) (OkP W fm V s.heap (AP om ps)) (ExE W fm V s.heap (AP om ps)) s:=by
 cases q with
 | none=>exact bk ⟨none,ps,V,rfl,I,.refl ..,.refl ..,none,rfl,rfl⟩
 | @some e m x=>
  rw [evalPart_some]
  have ns':ac m (λv=>match v with
   | .int i=>ae (some i)
   | _=>ar) ps≠.stuck:=ns
  refine Af.seq (x A V ps s C I (Ac ns')) (λp v α₁ o0 c0 s0 d0 l0 Y0 u0=>?_) λx c0 q=>?_
  ·rw [Ab u0] at ns'
   cases p <;> (try exact absurd rfl ns')
   rename_i i
   obtain ⟨t,rfl⟩:=Y0.inv
   exact ⟨some i,o0,α₁,(Ab u0).trans rfl,s0,d0,l0,some (i,t),rfl,rfl⟩
  ·exact q.bind
theorem Nl (a:Option (Int × Tok)):IsPart (partValue a) (a.map (·.1)):=by
 cases a with
 | none=>exact .none
 | some x=>exact .int x.1 x.2
theorem Qo {p:PV}{v:Value}{a b:Option (Int × Tok)}{value slice:Expr}(C:Ctx W fm n A)(I:InvS W fm V ps s)(r:W.rep fm V s.heap p v)(hs:∀ o i,∃ ops,subscripted slice false o i=operate ops (getItem o i))
  (ns:A2 (a.map (·.1)) (b.map (·.1)) p ps≠.stuck):wpAny W.m A (subscriptTail value slice v (.ref s.heap.objs.size)) (OkE W fm V s.heap (A2 (a.map (·.1)) (b.map (·.1)) p ps)) (ExE W fm V s.heap (A2 (a.map (·.1)) (b.map (·.1)) p ps))
   { s with heap:=s.heap.push { cls:=.type "slice",data:=.fields #[partValue a,partValue b,.none] } }:=by
 have k:∀ c o,s.heap.get? c=some o->(s.heap.push { cls:=.type "slice",data:=.fields #[partValue a,partValue b,.none] }).get? c=some o:=λc o e=>get?_push_of_some _ e
 have I':InvS W fm V ps { s with heap:=s.heap.push { cls:=.type "slice",data:=.fields #[partValue a,partValue b,.none] } }:=⟨I.inv.keeps k,I.gens,I.os⟩
 obtain ⟨ops,e⟩:=hs v (.ref s.heap.objs.size)
 cases p with
 | str x=>
  have ns':aA (slc x (a.map (·.1)) (b.map (·.1))) ps≠.stuck:=ns
  have hb:(slc x (a.map (·.1)) (b.map (·.1))).length<=big:=by
   unfold aA at ns'
   split at ns'
   ·assumption
   ·exact absurd rfl ns'
  have e1:A2 (a.map (·.1)) (b.map (·.1)) (.str x) ps = .ok (.str (slc x (a.map (·.1)) (b.map (·.1)))) ps:=by
   show aA _ ps=_
   unfold aA;rw [if_pos hb]
  rw [e1]
  obtain ⟨t,rfl⟩:=r.inv
  refine tail_any (T:="str") (typeIs_str _ _ _) F.slot_str_getitem.lookup (wpAny_getItem_str_slice (l:=a) (u:=b) (st:=none) ⟨_,get?_push_size _ rfl,rfl,rfl⟩ rfl ?_) e
  refine post_val_or_str ?_
  have st:=Ou x (a.map (·.1)) (b.map (·.1))
  refine ⟨?_,λt' tk=>?_⟩
  ·show (if ((1:Int)==1&&(Builtin.Str.strSliceIndices (a.map (·.1)) (b.map (·.1)) 1 (txt x).length).length==(txt x).length)=true then txt x else ⟨((Builtin.Str.strSliceIndices (a.map (·.1)) (b.map (·.1)) 1 (txt x).length).filterMap ((txt x).cps[·]?)).toArray⟩).length<=sizeLine
   rw [st,AN,<- BU];exact hb
  ·show OkE W fm V s.heap (.ok _ ps) (.str (if ((1:Int)==1&&(Builtin.Str.strSliceIndices (a.map (·.1)) (b.map (·.1)) 1 (txt x).length).length==(txt x).length)=true then txt x else ⟨((Builtin.Str.strSliceIndices (a.map (·.1)) (b.map (·.1)) 1 (txt x).length).filterMap ((txt x).cps[·]?)).toArray⟩) t') _
   rw [st]
   exact ⟨_,ps,V,rfl,I'.tok tk,.refl ..,.of_keeps k,.str _ _⟩
 | lst i=>
  have ns':ac (aq i) (λl=>am (l.length<=big) (au (slc l (a.map (·.1)) (b.map (·.1))))) ps≠.stuck:=ns
  obtain ⟨l,e1,e2⟩:=A5 (Ac ns')
  rw [Ab e2] at ns'
  obtain ⟨c,e3⟩:=Ah ns'
  rw [e3] at ns'
  have e4:A2 (a.map (·.1)) (b.map (·.1)) (.lst i) ps=au (slc l (a.map (·.1)) (b.map (·.1))) ps:=(Ab e2).trans e3
  rw [e4]
  obtain ⟨ad,vs,rfl,hl,rl⟩:=DI I r e1
  have hl':=Jl k hl
  have rl':=RepL.keeps k (prefix_refl _) rl
  rw [decide_eq_true_eq] at c
  refine tail_any hl'.typeIs slot_list_getitem.lookup (wpAny_getItem_list_slice hl' ⟨_,get?_push_size _ rfl,rfl,rfl⟩ (Nl a) (Nl b) .none (by simp) ?_ (by rw [size_toArray,<- rl.length,<- BU];exact c)) e
  have hlb:(slc l (a.map (·.1)) (b.map (·.1))).length<=big:=F3 ns'
  have k2:∀ c o,s.heap.get? c=some o->((s.heap.push { cls:=.type "slice",data:=.fields #[partValue a,partValue b,.none] }).push { cls:=.type "list",data:=.seq (slicePick vs.toArray (a.map (·.1)) (b.map (·.1)) none) }).get? c=some o:=
   λc o e=>get?_push_of_some _ (k c o e)
  refine OkE.newLst (a:=(s.heap.push { cls:=.type "slice",data:=.fields #[partValue a,partValue b,.none] }).objs.size) C I hlb (RepL.slc (a.map (·.1)) (b.map (·.1)) rl) k2 ?_ ⟨0,?_⟩
  ·cases q:s.heap.get? (s.heap.push { cls:=.type "slice",data:=.fields #[partValue a,partValue b,.none] }).objs.size with
   | none=>rfl
   | some o=>have:=lt_size q;rw [Heap.size_push] at this;exact absurd this (Nat.not_lt_of_le (Nat.le_succ _))
  ·have:=Qn vs (a.map (·.1)) (b.map (·.1))
   rw [<- this]
   exact get?_push_size _ rfl
 | _=>exact absurd rfl ns
theorem AU {e:Expr}{l u:Option Expr}{p pos:Pos}{me:M PV}{ml mu:Option (M PV)}(he:SimE W n fm e me)(hl:SimO W n fm l ml)(hu:SimO W n fm u mu) :
  SimE W n fm (.Subscript e (.Slice l u none p) pos) (ac me λv=>ac (AP ml) λa=>ac (AP mu) λb=>A2 a b v):=.mk λA V ps s C I ns=>by
 refine Subscript_ (Af.seq (he A V ps s C I (Ac ns)) (λv va α₁ o0 c0 s0 d0 l0 ra u0=>?_) λx c0 q=>q.bind)
 rw [Ab u0] at ns ⊢
 refine wpAny_Slice (aX (Nk hl C s0 (Ac ns)) (λvl w0 q=>?_) λx w0 q=>q.bind.after d0 l0)
 obtain ⟨a,Y1,X0,Z0,w1,y0,W0,pa,rfl,rfl⟩:=q
 rw [Ab Z0] at ns ⊢
 refine aX (Nk hu C w1 (Ac ns)) (λvu w3 q=>?_) λx w3 q=>(q.bind.after y0 W0).after d0 l0
 obtain ⟨b,j4,W4,Y3,Z1,u3,v3,pb,rfl,rfl⟩:=q
 rw [Ab Y3] at ns ⊢
 refine bk ?_
 exact aX (Qo C Z1 (w1.stays C v3 u3 (s0.stays C W0 y0 ra)) (λo i=>⟨_,rfl⟩) ns) (λU U q=>((q.after u3 v3).after y0 W0).after d0 l0) (λU U q=>((q.after u3 v3).after y0 W0).after d0 l0)
end
inductive SimL (W:Wd)(n:Nat)(fm:Fm):List Expr->List (M PV)->Prop
 | nil:SimL W n fm [] []
 | cons {e:Expr} {m:M PV} {es:List Expr} {ms:List (M PV)} (x:SimE W n fm e m) (hs:∀ rest env,starEach (e::rest) env=(false,eval e env)::starEach rest env) (t:SimL W n fm es ms):SimL W n fm (e::es) (m::ms)
section
variable {W:Wd}{fm:Fm}{V α' α₁:List Addr}{h h' h₁:Heap}{n:Nat}{A:Around}{ps ps':PS}{s s':Shared}{H:Hd}{h₀:Heap}
inductive OkL (W:Wd)(fm:Fm)(V:List Addr)(h:Heap)(r:R (List PV))(vs:List Value)(s':Shared):Prop
 | mk (l:List PV) (ps':PS) (α':List Addr) (k1:r = .ok l ps') (k2:InvS W fm α' ps' s') (k3:Grow V α' h) (k4:Rel fm.stk fm.tab V h s'.heap) (k5:RepL W.H W.h₀ fm.av α' s'.heap l vs):OkL W fm V h r vs s'
theorem InvS.staysL (C:Ctx W fm n A)(I:InvS W fm V ps s)(x:Rel fm.stk fm.tab V s.heap h₁)(g:Grow V α₁ s.heap){p:List PV}{v:List Value}(r:RepL W.H W.h₀ fm.av V s.heap p v):RepL W.H W.h₀ fm.av α₁ h₁ p v:=
 RepL.stays I.inv.lists x g.pre C.fm.frsAv C.fm.tabAv r
theorem CX {pos:Pos}:∀ {es:List Expr} {ms:List (M PV)},SimL W n fm es ms->∀ A V ps s,Ctx W fm n A->InvS W fm V ps s->ah ms ps≠.stuck ->
  wpAny W.m A (spliced (backTo pos (starEach es fm.env))) (OkL W fm V s.heap (ah ms ps)) (ExE W fm V s.heap (ah ms ps)) s:=by
 intro _ _ hS
 induction hS with
 | nil=>
  intro A V ps s C I ns
  exact Calls.spliced_nil ⟨[],ps,V,rfl,I,.refl ..,.refl ..,.nil⟩
 | @cons e m es ms q hs qs ih=>
  intro A V ps s C I ns
  rw [hs]
  have ns':ac m (λv=>ac (ah ms) λvs=>ae (v::vs)) ps≠.stuck:=ns
  show wpAny W.m A (spliced ((false,eval e fm.env)::backTo pos (starEach es fm.env))) (OkL W fm V s.heap (ac m (λv=>ac (ah ms) λvs=>ae (v::vs)) ps)) (ExE W fm V s.heap (ac m (λv=>ac (ah ms) λvs=>ae (v::vs)) ps)) s
  refine Calls.spliced_cons (Af.seq (q A V ps s C I (Ac ns')) (λp v α₁ o0 c0 s0 d0 l0 Y0 u0=>?_) λx c0 q=>q.bind)
  rw [Ab u0] at ns' ⊢
  refine aX (ih A α₁ o0 c0 C s0 (Ac ns')) (λvs w0 q=>?_) λx w0 q=>q.bind.after d0 l0
  obtain ⟨l,Y1,X0,Z0,w1,y0,W0,u4⟩:=q
  rw [Ab Z0]
  exact ⟨p::l,Y1,X0,rfl,w1,d0.trans y0 l0,l0.trans W0 d0.new,.cons (s0.stays C W0 y0 Y0) u4⟩
theorem SimL.plain {pos:Pos}:∀ {es:List Expr} {ms:List (M PV)},SimL W n fm es ms->∀ env,(backTo pos (starEach es env)).any (·.1)=false:=by
 intro _ _ hS
 induction hS with
 | nil=>
  intro _
  exact rfl
 | @cons e m es ms q hs qs ih=>
  intro env
  rw [hs];exact ih env
theorem B4 {es:List Expr}{ms:List (M PV)}{pos:Pos}(q:SimL W n fm es ms):SimE W n fm (.List es pos) (ac (ah ms) au):=.mk λA V ps s C I ns=>by
 refine wpAny_List_spliced (aX (CX q A V ps s C I (Ac ns)) (λvs c0 z=>?_) λx c0 z=>z.bind)
 obtain ⟨l,o0,α₁,u0,s0,d0,l0,Y0⟩:=z
 rw [Ab u0] at ns ⊢
 have hb:=F3 ns
 refine ⟨by rw [<- BU,<- Y0.length];exact hb,?_⟩
 exact (OkE.newLst C s0 hb Y0 (λU U e=>get?_push_of_some _ e) (AH _) ⟨0,get?_push_size _ rfl⟩).after d0 l0
theorem A6 (I:InvS W fm V ps s){a:Addr}(e:s.heap.get? a=none):a∉fm.av:=λm=>by
 have:=I.inv.live a m
 rw [e] at this;cases this
theorem BZ {es:List Expr}{ms:List (M PV)}{k:Nat}{pos:Pos}(q:SimL W n fm es ms):SimE W n fm (.Tuple es k pos) (ac (ah ms) He):=.mk λA V ps s C I ns=>by
 refine wpAny_Tuple_spliced (aX (CX q A V ps s C I (Ac ns)) (λvs c0 z=>?_) λx c0 z=>z.bind)
 obtain ⟨l,o0,α₁,u0,s0,d0,l0,Y0⟩:=z
 rw [Ab u0] at ns ⊢
 obtain ⟨c,e⟩:=Ah ns
 rw [decide_eq_true_eq] at c
 refine ⟨by rw [<- BU,<- Y0.length];exact c,?_⟩
 show OkE W fm V s.heap (am _ _ o0) _ _
 rw [e]
 have k:=λb o (e:c0.heap.get? b=some o)=>get?_push_of_some ({ cls:=.type "tuple",data:=.seq vs.toArray }:Obj) e
 have hn:c0.heap.get? c0.heap.objs.size=none:=AH _
 exact OkE.after (α₁:=α₁) (h₁:=c0.heap) ⟨.tup l,o0,α₁,rfl,⟨s0.inv.keeps k,s0.gens,s0.os⟩,.refl ..,.of_keeps k,.tup (A6 s0 hn) ⟨_,get?_push_size _ rfl,rfl,0,rfl⟩ (Y0.keeps k (prefix_refl _))⟩ d0 l0
abbrev OpCall.T (W:Wd)(n:Nat)(fm:Fm)(f:Value)(g:List PV->M PV):Prop:=∀ A V ps s l vs,Ctx W fm n A->InvS W fm V ps s->RepL W.H W.h₀ fm.av V s.heap l vs->g l ps≠.stuck->Af W fm A V ps s (call f vs) (g l)
structure OpCall (W:Wd)(n:Nat)(fm:Fm)(f:Value)(g:List PV->M PV):Prop where
 go:OpCall.T W n fm f g
noncomputable instance {W:Wd} {n:Nat} {fm:Fm} {f:Value} {g:List PV->M PV}:CoeFun (OpCall W n fm f g) (λU=>OpCall.T W n fm f g):=⟨OpCall.go⟩
theorem A3 {f:Value}{args:List (Bool × Sem Value)}{Q:Args->Shared->Prop}{E:Value->Shared->Prop}(hp:args.any (·.1)=false)(h:wpAny W.m A (spliced args) (λvs s'=>Q ⟨vs,[]⟩ s') E s):wpAny W.m A (evalArgs f true args []) Q E s:=by
 cases args with
 | nil=>
  unfold evalArgs
  show wpAny W.m A (spliced [] >>= _) Q E s
  refine bj (aX h (λvs s' h'=>bj (bk ?_)) λU U x=>x)
  refine bh ?_
  exact bj (bk (bj (bk (bk h'))))
 | cons a r=>
  obtain ⟨b,x⟩:=a
  have:b=false:=by simpa using (List.any_eq_false.mp hp (b,x) mem_cons_self)
  subst this
  exact Calls.evalArgs_plain h
theorem BL {x:Str}{i:Nat}{v:Value}(C:Ctx W fm n A)(I:InvS W fm V ps s)(hf:x∈Bl)(hn:x≠"__name__")(hb:bootBuiltins x=some v){Q:Value->Shared->Prop}{E:Value->Shared->Prop}(hm:(x,NameKind.globalImplicit,i)∈fm.sc){pos:Pos}(hd:(x==("__debug__":Str))=false)
  (h:Q v s):wpAny W.m A (eval (.Name x pos) fm.env) Q E s:=
 Calls.Name_function_global C.fm.kind (C.fm.kindX hm (by decide)) (Calls.loadGlobal_builtin (env:=fm.env) (by rw [C.fm.glob];exact C.hd.g.keeps I.inv.base) (C.hd.free x hf) (by rw [C.fm.bi];exact C.hd.b.keeps I.inv.base) ((C.hd.bu x hn).trans hb) h) hd
theorem L4 {x:Str}{i:Nat}{id:String}{np pos:Pos}{es:List Expr}{ms:List (M PV)}{g:List PV->M PV}(hm:(x,NameKind.globalImplicit,i)∈fm.sc)(hf:x∈Bl)(hn:x≠"__name__")(hd:(x==("__debug__":Str))=false)(hb:bootBuiltins x=some (.builtin id))
  (q:SimL W n fm es ms) (op:OpCall W n fm (.builtin id) g):SimE W n fm (.Call (.Name x np) es [] pos) (ac (ah ms) g):=.mk λA V ps s C I ns=>by
 show wpAny W.m A (do callWith pos (<- eval (.Name x np) fm.env) [] (backTo pos (starEach es fm.env)) (backToKw pos (keywordEach [] fm.env))) _ _ s
 refine bj (BL C I hf hn hb hm hd ?_)
 refine Calls.callWith_builtin (q.plain _) (A3 (q.plain _) (aX (CX q A V ps s C I (Ac ns)) (λvs c0 z=>?_) λx c0 z=>z.bind))
 obtain ⟨l,o0,α₁,u0,s0,d0,l0,Y0⟩:=z
 rw [Ab u0] at ns ⊢
 exact aX (op A α₁ o0 c0 l vs C s0 Y0 ns) (λU U q=>q.after d0 l0) (λU U q=>q.after d0 l0)
theorem L5 {x:Str}{i:Nat}{T:String}{np pos:Pos}{es:List Expr}{ms:List (M PV)}{g:List PV->M PV}(hm:(x,NameKind.globalImplicit,i)∈fm.sc)(hf:x∈Bl)(hn:x≠"__name__")(hd:(x==("__debug__":Str))=false)(hb:bootBuiltins x=some (.type T))
  (q:SimL W n fm es ms) (op:OpCall W n fm (.type T) g):SimE W n fm (.Call (.Name x np) es [] pos) (ac (ah ms) g):=.mk λA V ps s C I ns=>by
 show wpAny W.m A (do callWith pos (<- eval (.Name x np) fm.env) [] (backTo pos (starEach es fm.env)) (backToKw pos (keywordEach [] fm.env))) _ _ s
 refine bj (BL C I hf hn hb hm hd ?_)
 refine PySem.callWith_type (q.plain _) (A3 (q.plain _) (aX (CX q A V ps s C I (Ac ns)) (λvs c0 z=>?_) λx c0 z=>z.bind))
 obtain ⟨l,o0,α₁,u0,s0,d0,l0,Y0⟩:=z
 rw [Ab u0] at ns ⊢
 exact aX (op A α₁ o0 c0 l vs C s0 Y0 ns) (λU U q=>q.after d0 l0) (λU U q=>q.after d0 l0)
theorem L6 {k:Nat}(h:k<=big):(k:Int)<2 ^ 63:=by
 have:big=16777216:=rfl
 have:((2:Int) ^ 63)=9223372036854775808:=by decide
 lia
theorem Fx {β:Type}{f:PV->M β}{l:List PV}{vs:List Value}(r:RepL W.H W.h₀ fm.av V h l vs)(ns:aI l f ps≠.stuck):∃ p v,l=[p]/\vs=[v]/\W.rep fm V h p v/\f p ps≠.stuck:=by
 obtain ⟨p,rfl⟩:=Nc ns
 obtain ⟨v,ws,rfl,r1,r2⟩:=r.inv
 obtain rfl:ws=[]:=r2.inv
 exact ⟨p,v,rfl,rfl,r1,ns⟩
set_option tactic.hygienic true in
theorem Ax:OpCall W n fm (.builtin "len") Bp:=by
 refine .mk ?_
 intro A V ps s l vs C I r0 ns
 obtain ⟨p,v,rfl,rfl,r,nq⟩:=Fx r0 ns
 clear r0
 cases p <;> (try exact absurd rfl ns)
 ·rename_i x
  obtain ⟨t,rfl⟩:=r.inv
  have ns':am (x.length<=big) (ae (PV.int x.length)) ps≠.stuck:=ns
  obtain ⟨c,e⟩:=Ah ns'
  rw [decide_eq_true_eq] at c
  refine Af.congr (m':=ae (PV.int x.length)) e ?_
  have:=L6 c
  refine PySem.P.len_str (by rw [AN];lia) ?_
  rw [AN]
  exact OkE.same I (.int _ _)
 ·rename_i i
  have ns':ac (aq i) (λl=>am (l.length<=big) (ae (PV.int l.length))) ps≠.stuck:=ns
  obtain ⟨l,e1,e2⟩:=A5 (Ac ns')
  rw [Ab e2] at ns'
  obtain ⟨c,e⟩:=Ah ns'
  rw [decide_eq_true_eq] at c
  refine Af.congr (m':=ae (PV.int l.length)) ((Ab e2).trans e) ?_
  obtain ⟨a,vs,rfl,hl,rl⟩:=DI I r e1
  have sz:vs.toArray.size=l.length:=by rw [size_toArray,rl.length]
  refine Calls.call_len_list hl (by rw [sz];exact L6 c) ?_
  rw [sz]
  exact OkE.same I (.int _ _)
 ·rename_i xs
  obtain ⟨a,vs,rfl,hi,hv⟩:=r.inv
  have ns':am (xs.length<=big) (ae (PV.int xs.length)) ps≠.stuck:=ns
  obtain ⟨c,e⟩:=Ah ns'
  rw [decide_eq_true_eq] at c
  refine Af.congr (m':=ae (PV.int xs.length)) e ?_
  obtain ⟨o,e1,e2⟩:=hi
  have sz:=IntsAre.length hv
  rw [Array.length_toList] at sz
  refine Calls.call_len_list ⟨o,I.inv.base _ _ e1,e2⟩ (by rw [sz];exact L6 c) ?_
  rw [sz]
  exact OkE.same I (.int _ _)
theorem KF:OpCall W n fm (.builtin "chr") On:=by
 refine .mk ?_
 intro A V ps s l vs C I r0 ns
 obtain ⟨p,v,rfl,rfl,r,nq⟩:=Fx r0 ns
 clear r0
 obtain ⟨i,e⟩:=A8 nq
 obtain rfl:=AW e
 obtain ⟨t,rfl⟩:=r.inv
 have ns':am (0<=i&&i<=1114111) (ae (PV.str [i.toNat])) ps≠.stuck:=ns
 obtain ⟨c,e⟩:=Ah ns'
 simp only [and_eq_true,decide_eq_true_eq] at c
 refine Af.congr (m':=ae (PV.str [i.toNat])) e ?_
 refine PySem.P.chr_of_int (by simp only [or_eq_false_iff,decide_eq_false_iff_not];lia) ?_
 exact OkE.same I (.str [i.toNat] _)
theorem Fy:OpCall W n fm (.builtin "ord") Oo:=by
 refine .mk ?_
 intro A V ps s l vs C I r0 ns
 obtain ⟨p,v,rfl,rfl,r,nq⟩:=Fx r0 ns
 clear r0
 obtain ⟨x,e⟩:=A8 nq
 obtain rfl:=Bf e
 obtain ⟨t,rfl⟩:=r.inv
 obtain ⟨c,e⟩:=A8 (o:=one x) nq
 obtain rfl:=Hc e
 exact PySem.P.ord_of_char (OkE.same I (.int (c:Int) _))
end
def cutH (h:Heap)(l:List Addr):Heap:=⟨h.objs.mapIdx λi o=>if i∈l then { o with data:=.freed } else o,h.life⟩
theorem Qp {h:Heap}{l:List Addr}{b:Addr}(m:b∈l):(cutH h l).get? b=none:=by
 cases q:(cutH h l).get? b with
 | none=>rfl
 | some o=>
  obtain ⟨e,f⟩:=get?_some_iff.mp q
  have e:(h.objs.mapIdx λi o=>if i∈l then { o with data:=.freed } else o)[b]? = some o:=e
  rw [Array.getElem?_mapIdx] at e
  obtain ⟨o',_,rfl⟩:=aV.mp e
  rw [if_pos m] at f
  injection f
theorem Nm {h:Heap}{l:List Addr}{b:Addr}(m:b∉l):(cutH h l).get? b=h.get? b:=by
 have same:∀ x:Option Obj,x.map (λo=>if b∈l then { o with data:=.freed } else o)=x:=λx=>by
  cases x with
  | none=>rfl
  | some o=>exact congrArg some (if_neg m)
 have e:(cutH h l).objs[b]? = h.objs[b]?:=by
  show (h.objs.mapIdx λi o=>if i∈l then { o with data:=.freed } else o)[b]? = _
  rw [Array.getElem?_mapIdx];exact same _
 exact Option.ext λo=>by rw [get?_some_iff,get?_some_iff,e]
theorem IH (h:Heap)(l:List Addr):∀ b o,(cutH h l).get? b=some o->h.get? b=some o:=λb o e=>by
 by_cases m:b∈l
 ·rw [Qp m] at e;cases e
 ·rwa [Nm m] at e
section
variable {W:Wd}{fm:Fm}{V α' α₁:List Addr}{h h' h₁ start:Heap}{n:Nat}{A:Around}{ps ps':PS}{s s':Shared}{H:Hd}{h₀:Heap}{own:List Addr}
structure Turn0 (stk:List Env)(c:List Addr)(h h':Heap):Prop where
 keep:∀ b o,h.get? b=some o->b∉frs stk->b∉c->h'.get? b=some o
 slot:∀ b o,h.get? b=some o->b∈frs stk->b∉c->∃ sl,h'.get? b=some { o with slots:=sl }
 frames:h'.FunFrames ⟨#[],{}⟩ stk
 flds:∀ b∈c,∃ o vs,h.get? b=some o/\o.data = .fields vs/\Dg o
structure Turn (stk:List Env)(c:List Addr)(h h':Heap):Prop extends Turn0 stk c h h' where
 live:∀ b∈c,(h'.get? b).isSome=true
theorem Turn0.at (T:Turn0 fm.stk c h h'){b:Addr}{o:Obj}(e:h.get? b=some o)(nf:∀ vs,o.data≠.fields vs):∃ sl,h'.get? b=some { o with slots:=sl }:=by
 have nc:b∉c:=λm=>by obtain ⟨o',vs,e',d,_⟩:=T.flds b m;rw [e] at e';cases e';exact nf vs d
 by_cases m:b∈frs fm.stk
 ·exact T.slot b o e m nc
 ·exact ⟨o.slots,T.keep b o e m nc⟩
theorem Turn0.keep' (T:Turn0 fm.stk c h h'){b:Addr}{o:Obj}(e:h.get? b=some o)(nf:∀ vs,o.data≠.fields vs)(m:b∉frs fm.stk):h'.get? b=some o:=
 T.keep b o e m λm=>by obtain ⟨o',vs,e',d,_⟩:=T.flds b m;rw [e] at e';cases e';exact nf vs d
theorem KG (T:Turn0 fm.stk c h h')(hf:∀ b∈frs fm.stk,b∈fm.av):(∀ {p:PV} {v:Value},RepV H h₀ fm.av V h p v->RepV H h₀ fm.av V h' p v)/\∀ {l:List PV} {vs:List Value},RepL H h₀ fm.av V h l vs->RepL H h₀ fm.av V h' l vs:=by
 refine DH (λa vs ha hi=>⟨ha,?_⟩) (λi a hi=>hi) λa o es ep ha ho hx hd=>⟨ha,T.keep' ho (λws q=>by rw [hd] at q;cases q) λq=>ha (hf _ q)⟩
 obtain ⟨o,e1,e2,k,e3⟩:=hi
 exact ⟨o,T.keep' e1 (λws q=>by rw [e3] at q;cases q) (λq=>ha (hf _ q)),e2,k,e3⟩
theorem RepV.turn (T:Turn0 fm.stk c h h')(hf:∀ b∈frs fm.stk,b∈fm.av){p:PV}{v:Value}(x:RepV H h₀ fm.av V h p v):RepV H h₀ fm.av V h' p v:=(KG T hf).1 x
theorem RepL.turn (T:Turn0 fm.stk c h h')(hf:∀ b∈frs fm.stk,b∈fm.av){l:List PV}{vs:List Value}(x:RepL H h₀ fm.av V h l vs):RepL H h₀ fm.av V h' l vs:=(KG T hf).2 x
theorem OptRep.turn (T:Turn0 fm.stk c h h')(hf:∀ b∈frs fm.stk,b∈fm.av){p:Option PV}{v:Option Value}(x:OptRep H h₀ fm.av V h p v):OptRep H h₀ fm.av V h' p v:=x.map λr=>r.turn T hf
theorem Cv.turn {P:Addr}(x:Cv H h P)(F:h.FunFrames ⟨#[],{}⟩ fm.stk)(T:Turn0 fm.stk c h h'):Cv H h' P:=by
 have nfr:∀ b o vs,h.get? b=some o->o.data = .fields vs->b∉frs fm.stk:=λb o vs e d m=>by
  obtain ⟨_,o',ho,nf⟩:=Heap.FunFrames.mem F m
  rw [e] at ho;cases ho;exact nf vs d
 obtain ⟨ps,e,q⟩:=x
 refine ⟨ps,T.keep P _ e (nfr _ _ _ e rfl) (λm=>?_),?_⟩
 ·obtain ⟨o,vs,e1,_,p⟩:=T.flds P m
  rw [e] at e1;cases e1;exact p.1 rfl
 ·rcases q with q | ⟨k,oc,vs,t,q1,q2,q3,q4,q5⟩
  ·exact .inl q
  ·refine .inr ⟨k,oc,vs,t,q1,T.keep k _ q2 (nfr _ _ _ q2 q4) (λm=>?_),q3,q4,q5⟩
   obtain ⟨o,vs,e1,_,p⟩:=T.flds k m
   rw [q2] at e1;cases e1;exact p.2 q3
theorem Inv.turn0 (F:FmOk h₀ fm)(I:Inv H h₀ fm V ps h)(T:Turn0 fm.stk c h h')(live:∀ b∈c,b∈fm.av->(h'.get? b).isSome=true)(hc:∀ b∈c,h₀.get? b=none):Inv H h₀ fm V ps h':=by
 have rep:=λ{p v}=>OptRep.turn (H:=H) (h₀:=h₀) (V:=V) (p:=p) (v:=v) T F.frsAv
 refine ⟨λb o e=>?_,?_,?_,?_,?_,T.frames,λP hP=>(I.tabs P hP).turn I.frames T⟩
 ·refine T.keep b o (I.base b o e) (λm=>?_) (λm=>?_)
  ·rw [F.fresh b (F.frsAv b m)] at e;cases e
  ·rw [hc b m] at e;cases e
 ·obtain ⟨m,⟨o,es,ep,h1,h2,h3⟩,k⟩:=I.loc
  obtain ⟨sl,e⟩:=T.at h1 λvs q=>by rw [h2] at q;cases q
  exact ⟨m,⟨_,es,ep,e,h2,h3⟩,λx i hm=>rep (k x i hm)⟩
 ·intro x k i hm hk
  obtain ⟨cc,v,h1,h2,h3,h4,h5⟩:=I.cel x k i hm hk
  refine ⟨cc,v,h1,h2,h3,?_,rep h5⟩
  obtain ⟨o,e1,e2⟩:=h4
  obtain ⟨sl,e⟩:=T.at e1 λvs q=>by rw [e2] at q;cases q
  exact ⟨_,e,e2⟩
 ·refine ⟨I.lists.len,λi l e=>?_,I.lists.nodup,I.lists.fresh,I.lists.apart⟩
  obtain ⟨a,vs,h1,h2,h3⟩:=I.lists.at_ i l e
  refine ⟨a,vs,h1,?_,RepL.turn T F.frsAv h3⟩
  obtain ⟨k,e1⟩:=h2
  exact ⟨k,T.keep' e1 (λws q=>by cases q) (λq=>I.lists.apart a (mem_of_getElem? h1) (F.frsAv _ q))⟩
 ·intro a ha
  have:=I.live a ha
  cases q:h.get? a with
  | none=>rw [q] at this;cases this
  | some o=>
   by_cases m:a∈c
   ·exact live a m ha
   ·by_cases m2:a∈frs fm.stk
    ·obtain ⟨sl,e⟩:=T.slot a o q m2 m;rw [e];rfl
    ·rw [T.keep a o q m2 m];rfl
theorem Inv.turn (F:FmOk h₀ fm)(I:Inv H h₀ fm V ps h)(T:Turn fm.stk c h h')(hc:∀ b∈c,h₀.get? b=none):Inv H h₀ fm V ps h':=I.turn0 F T.toTurn0 (λb m U=>T.live b m) hc
theorem Rel.turn0 (R:Rel fm.stk own V start h)(T:Turn0 fm.stk c h h')(hc:∀ b∈c,start.get? b=none):Rel fm.stk own V start h':=by
 refine ⟨λb o e h1 h2 h3=>T.keep b o (R.keep b o e h1 h2 h3) h1 (λm=>by rw [hc b m] at e;cases e),λb o e h1 h2 h3=>?_,λb e=>?_⟩
 ·obtain ⟨sl,e1⟩:=R.slot b o e h1 h2 h3
  obtain ⟨sl',e2⟩:=T.slot b _ e1 h1 λm=>by rw [hc b m] at e;cases e
  exact ⟨sl',e2⟩
 ·cases q:start.get? b with
  | none=>rfl
  | some o=>
   cases q2:h.get? b with
   | none=>rw [R.live b q2] at q;cases q
   | some o2=>
    by_cases m:b∈c
    ·rw [hc b m] at q;cases q
    ·by_cases m2:b∈frs fm.stk
     ·obtain ⟨sl,e2⟩:=T.slot b o2 q2 m2 m;rw [e2] at e;cases e
     ·rw [T.keep b o2 q2 m2 m] at e;cases e
theorem Rel.turn (R:Rel fm.stk own V start h)(T:Turn fm.stk c h h')(hc:∀ b∈c,start.get? b=none):Rel fm.stk own V start h':=R.turn0 T.toTurn0 hc
end
section
variable {W:Wd}{fm:Fm}{V α' α₁ W1:List Addr}{h h' h₁ start:Heap}{n:Nat}{A:Around}{ps ps':PS}{s s':Shared}{H:Hd}{h₀:Heap}{own:List Addr}{e:PX}{x:Value}
theorem Turn.set (F:h.FunFrames ⟨#[],{}⟩ fm.stk){a:Addr}{o:Obj}{vs:Array Value}(ha:h.get? a=some o)(hd:o.data = .fields vs)(pf:Dg o)(f:Array Value->Array Value):Turn fm.stk [a] h (h.update a (Obj.mapFields f)) /\
  (h.update a (Obj.mapFields f)).get? a=some (o.mapFields f)/\(o.mapFields f).data = .fields (f vs):=by
 have hd':=Obj.data_mapFields hd f
 have e1:=get?_update_self (Obj.mapFields f) ha (Obj.isFreed_of_fields hd')
 have ne:∀ b,b≠a->(h.update a (Obj.mapFields f)).get? b=h.get? b:=λb q=>get?_update_other _ _ (Ne.symm q)
 refine ⟨⟨⟨λb o' e' U m=>by rw [ne b (λq=>m (by rw [q];exact mem_singleton_self _))];exact e',λb o' e' U m=>⟨o'.slots,by rw [ne b (λq=>m (by rw [q];exact mem_singleton_self _))];exact e'⟩,F.of_keeps λb o' e' nf=>?_,λb m=>?_⟩,λb m=>?_⟩,e1,hd'⟩
 ·have:b≠a:=λq=>by rw [q,ha] at e';cases e';exact nf vs hd
  exact ⟨o',(ne b this).trans e',rfl⟩
 ·rw [mem_singleton.mp m];exact ⟨o,vs,ha,hd,pf⟩
 ·rw [mem_singleton.mp m,e1];rfl
theorem Turn.trans {stk:List Env}{c c':List Addr}(T:Turn stk c h h₁)(T':Turn stk c' h₁ h')(hc:∀ b∈c,b∈c'->True)(hs:∀ b∈c',b∈c\/∃ o vs,h.get? b=some o/\o.data = .fields vs/\Dg o)(hl:∀ b∈c,(h'.get? b).isSome=true):Turn stk (c++c') h h':=by
 refine ⟨⟨λb o e1 m1 m2=>?_,λb o e1 m1 m2=>?_,T'.frames,λb m=>?_⟩,λb m=>?_⟩
 ·exact T'.keep b o (T.keep b o e1 m1 λq=>m2 (mem_append_left _ q)) m1 λq=>m2 (mem_append_right _ q)
 ·obtain ⟨sl,e2⟩:=T.slot b o e1 m1 λq=>m2 (mem_append_left _ q)
  obtain ⟨sl',e3⟩:=T'.slot b _ e2 m1 λq=>m2 (mem_append_right _ q)
  exact ⟨sl',e3⟩
 ·rcases mem_append.mp m with q | q
  ·exact T.flds b q
  ·rcases hs b q with q | q
   ·exact T.flds b q
   ·exact q
 ·rcases mem_append.mp m with q | q
  ·exact hl b q
  ·exact T'.live b q
theorem Turn.push {stk:List Env}(F:h.FunFrames ⟨#[],{}⟩ stk)(o:Obj):Turn stk [] h (h.push o):=
 ⟨⟨λb o' e' U U=>get?_push_of_some _ e',λb o' e' U U=>⟨o'.slots,get?_push_of_some _ e'⟩,F.of_keeps λb o' e' U=>⟨o',get?_push_of_some _ e',rfl⟩,λb m=>(by cases m)⟩,λb m=>(by cases m)⟩
theorem Turn.slots {stk:List Env}(F:h.FunFrames ⟨#[],{}⟩ stk)(S:Heap.SlotsOnly (frs stk) h h'):Turn stk [] h h':=
 ⟨⟨λb o e m U=>(S.2.1 b m).trans e,λb o e U U=>S.2.2 b o e,F.of_keeps λb o e U=>by obtain ⟨sl,q⟩:=S.2.2 b o e;exact ⟨_,q,rfl⟩,λb m=>(by cases m)⟩,λb m=>(by cases m)⟩
theorem L7 {M:Model}{base:Heap}{e env:Env}{outer:List Env}{L:Addr}{Q:Value->Shared->Prop}{E:Value->Shared->Prop}(hfr:A.frames=some (e::outer))(hl:s.heap.FunFrames base (e::outer))(he:e.frame=env.frame)
  (hf:env.frame=some L) (h:∀ h',Heap.SlotsOnly ((e::outer).filterMap (·.frame)) s.heap h'->Q (.ref L) { s with heap:=h' }):wpAny M A (PySem.frameOf env) Q E s:=by
 unfold PySem.frameOf
 refine bj (wpAny_frameEnvs hfr ?_)
 have hdw:((e::outer).dropWhile λx=>x.frame != env.frame)=e::outer:=by simp [List.dropWhile,he]
 rw [hdw]
 unfold frameObject
 refine bj (bj (wpAny_readyFrames_fun hl λh₁ i5=>bk ?_))
 rw [he,hf]
 exact bk (h h₁ i5)
theorem KH {a L:Addr}{oe:Obj}{vs:Array Value}{head:Value}{hn:Bool}(hfr:A.frames=some fm.stk)(F:s.heap.FunFrames ⟨#[],{}⟩ fm.stk)(hst:∃ e r,fm.stk=e::r/\e.frame=fm.env.frame)(hf:fm.env.frame=some L)
  (ha:s.heap.get? a=some oe) (hd:oe.data = .fields vs) (pf:Dg oe) (hsz:1<vs.size) {Q:Unit->Shared->Prop} {E:Value->Shared->Prop}
  (hQ:∀ h' T oT ts,Turn fm.stk [a] s.heap h'->h'.get? a=some (oe.mapFields (·.setIfInBounds 1 (.ref T)))->(oe.mapFields (·.setIfInBounds 1 (.ref T))).data = .fields (vs.setIfInBounds 1 (.ref T))->s.heap.get? T=none->T≠a->h'.get? T=some oT->oT.data = .fields ts->3<ts.size->Dg oT->Q () { s with heap:=h' }) :
  wpAny W.m A (do let f <- frameOf fm.env;let pl <- entryPlaceOf L hn;let b <- EntryCells.newEntry head f .none (rawInt L) .none pl;setField (.ref a) 1 b) Q E s:=by
 obtain ⟨er,r,hr,her⟩:=hst
 have F':s.heap.FunFrames ⟨#[],{}⟩ (er::r):=hr▸F
 refine bj (L7 (hfr.trans (congrArg some hr)) F' her hf λh₁ i5=>?_)
 refine bj (wpAny_entryPlaceOf λpl hpl=>?_)
 unfold EntryCells.newEntry newFields
 refine bj (wpAny_newObj_type ?_ (hpl.sizeOk5 _ _ _ _ _))
 rw [<- hr] at i5
 have T1:Turn fm.stk [] s.heap h₁:=Turn.slots F i5
 have na:a∉frs fm.stk:=λm=>by
  obtain ⟨_,o,ho,nf⟩:=Heap.FunFrames.mem F m
  rw [ha] at ho;cases ho;exact nf vs hd
 have o7:h₁.get? a=some oe:=(i5.2.1 a na).trans ha
 have T2:=Turn.push T1.frames { cls:=.type "traceback",dict:=none,data:=.fields ([head,.ref L,.none,rawInt L,.none]++(if pl.isEmpty then replicate 6 Value.none else pl)).toArray }
 have r7:=get?_push_of_some { cls:=.type "traceback",dict:=none,data:=.fields ([head,.ref L,.none,rawInt L,.none]++(if pl.isEmpty then replicate 6 Value.none else pl)).toArray } o7
 refine wpAny_setField r7 hd hsz ?_
 obtain ⟨T3,e3,d3⟩:=Turn.set (fm:=fm) T2.frames r7 hd pf (·.setIfInBounds 1 (.ref h₁.objs.size))
 have T12:Turn fm.stk ([]++[]) s.heap _:=T1.trans T2 (λU U U=>trivial) (λb m=>(by cases m)) (λb m=>(by cases m))
 have T123:Turn fm.stk ([]++[]++[a]) s.heap _:=T12.trans T3 (λU U U=>trivial) (λb m=>.inr (by rw [mem_singleton.mp m];exact ⟨oe,vs,ha,hd,pf⟩)) (λb m=>(by cases m))
 have nT:h₁.objs.size≠a:=Nat.ne_of_gt (lt_size o7)
 have fresh:s.heap.get? h₁.objs.size=none:=by rw [i5.1];exact AH _
 refine hQ _ h₁.objs.size _ _ T123 e3 d3 fresh nT ((get?_update_other _ _ (Ne.symm nT)).trans (get?_push_size _ rfl)) rfl ?_ ⟨(λq=>(by cases q)),λq=>absurd (Value.type.inj q) (by decide)⟩
 simp
theorem L8 {c:List Addr}{a:Addr}{vs:Array Value}(x:IsTup h a vs)(T:Turn0 fm.stk c h h'):IsTup h' a vs:=by
 obtain ⟨o,e1,e2,k,e3⟩:=x
 obtain ⟨sl,e⟩:=T.at e1 λws q=>by rw [e3] at q;cases q
 exact ⟨_,e,e2,k,e3⟩
theorem Fs.turn {c:List Addr}{v:Option Value}(x:Fs start h e v)(T:Turn fm.stk c h h'):Fs start h' e v:=by
 cases e with
 | std n=>exact x
 | toml m=>obtain ⟨t,tk,h1,h2,h3⟩:=x;exact ⟨t,tk,h1,h2,L8 h3 T.toTurn0⟩
theorem Qq {oe:Obj}{v:Option Value}(hc:oe.cls=W.cls e)(x:Fs start h e v):Dg oe:=by
 unfold Dg
 rw [hc]
 cases e with
 | std n=>exact ⟨(λq=>(by cases q)),λq=>x (Value.type.inj q)⟩
 | toml m=>exact ⟨(λq=>(by cases q)),λq=>(by cases q)⟩
theorem GU (C:Ctx W fm n A)(I:InvS W fm V ps s)(R:Rel fm.stk own W1 start s.heap)(hs0:∀ b,start.get? b=none->W.h₀.get? b=none)(X:Raised W start s.heap e x){Q:Unit->Shared->Prop}{E:Value->Shared->Prop}
  (h:∀ h',InvS W fm V ps { s with heap:=h' }->Rel fm.stk own W1 start h'->RaisedN W start h' e x->Q () { s with heap:=h' }):wpAny W.m A (noteFrame x fm.env) Q E s:=by
 obtain ⟨a,oe,vs,rfl,ha,hc,hd,hsz,hna,harg,htb,hctx⟩:=X
 obtain ⟨fe,fr,hst,hfe,hsome⟩:=C.fm.frame
 obtain ⟨L,hf⟩:=be.mp hsome
 have hst':∃ e r,fm.stk=e::r/\e.frame=fm.env.frame:=⟨fe,fr,hst,hfe⟩
 have F:=I.inv.frames
 have h1v:vs[1]? = some (vs[1]'(by exact la [_] [([11,3,0],[2])] ([3,3,0],[2]) rfl hsz)):=Array.getElem?_eq_getElem _
 unfold noteFrame
 simp only [hf]
 refine bj (wpAny_field ha hd h1v ?_)
 have pf:=Qq hc harg
 rcases htb with q | ⟨T,oT,ts,q,nTa,hT,hdT,h3,nT,pT⟩
 ·rw [h1v] at q
  rw [Option.some.inj q]
  rw [if_neg (by decide)]
  refine KH C.frames F hst' hf ha hd pf (by exact la [_] [([11,3,0],[2])] ([3,3,0],[2]) rfl hsz) λh' T oT ts Tn e1 d1 f1 f2 f3 f4 f5 f6=>?_
  have hc0:∀ b∈[a],start.get? b=none:=λb m=>by rw [mem_singleton.mp m];exact hna
  refine h h' ⟨I.inv.turn C.fm Tn λb m=>hs0 b (hc0 b m),I.gens,I.os⟩ (R.turn Tn hc0) ⟨a,_,_,rfl,e1,(Obj.cls_mapFields _ _).trans hc,d1,by simpa using hsz,hna,?_,?_,?_⟩
  ·rw [Array.getElem?_setIfInBounds_ne (by decide)];exact harg.turn Tn
  ·exact ⟨T,oT,ts,(by simp [show 1<vs.size by exact la [_] [([11,3,0],[2])] ([3,3,0],[2]) rfl hsz]:(vs.setIfInBounds 1 (Value.ref T))[1]? = some (Value.ref T)),f2,f3,f4,f5,R.live T f1,f6⟩
  ·rw [Array.getElem?_setIfInBounds_ne (by decide)];exact hctx
 ·rw [h1v] at q
  rw [Option.some.inj q]
  rw [if_pos (show (Value.ref T != Value.none)=true from by simp)]
  have h3v:ts[3]? = some (ts[3]'h3):=Array.getElem?_eq_getElem _
  refine bj (wpAny_field hT hdT h3v ?_)
  by_cases z:(ts[3]'h3==rawInt L)=true
  ·rw [if_pos z]
   refine bk ?_
   exact h s.heap I R ⟨a,oe,vs,rfl,ha,hc,hd,hsz,hna,harg,⟨T,oT,ts,h1v.trans q,nTa,hT,hdT,h3,nT,pT⟩,hctx⟩
  ·rw [if_neg z]
   refine bj (wpAny_setField hT hdT h3 ?_)
   obtain ⟨T1,e1,d1⟩:=Turn.set (fm:=fm) F hT hdT pT (·.setIfInBounds 3 .none)
   have ha1:(s.heap.update T (Obj.mapFields (·.setIfInBounds 3 .none))).get? a=some oe:=(get?_update_other _ _ nTa).trans ha
   refine KH (s:={ s with heap:=s.heap.update T (Obj.mapFields (·.setIfInBounds 3 .none)) }) C.frames T1.frames hst' hf ha1 hd pf (by exact la [_] [([11,3,0],[2])] ([3,3,0],[2]) rfl hsz) λh' T' oT' ts' Tn e2 d2 f1 f2 f3 f4 f5 f6=>?_
   have T12:Turn fm.stk ([T]++[a]) s.heap h':=T1.trans Tn (λU U U=>trivial) (λb m=>.inr (by rw [mem_singleton.mp m];exact ⟨oe,vs,ha,hd,pf⟩)) (λb m=>by
    rw [mem_singleton.mp m]
    have na:T∉frs fm.stk:=λm=>by
     obtain ⟨_,o,ho,nf⟩:=Heap.FunFrames.mem F m
     rw [hT] at ho;cases ho;exact nf ts hdT
    rw [Tn.keep T _ e1 na λq=>nTa (mem_singleton.mp q)];rfl)
   have hc0:∀ b∈[T]++[a],start.get? b=none:=λb m=>by
    rcases mem_append.mp m with q | q
    ·rw [mem_singleton.mp q];exact nT
    ·rw [mem_singleton.mp q];exact hna
   have live1:∀ b,(s.heap.update T (Obj.mapFields (·.setIfInBounds 3 .none))).get? b=none->s.heap.get? b=none:=λb q=>by
    by_cases z:b=T
    ·rw [z,e1] at q;cases q
    ·rwa [get?_update_other _ _ (Ne.symm z)] at q
   refine h h' ⟨I.inv.turn C.fm T12 λb m=>hs0 b (hc0 b m),I.gens,I.os⟩ (R.turn T12 hc0) ⟨a,_,_,rfl,e2,(Obj.cls_mapFields _ _).trans hc,d2,by simpa using hsz,hna,?_,?_,?_⟩
   ·rw [Array.getElem?_setIfInBounds_ne (by decide)];exact harg.turn T12
   ·exact ⟨T',oT',ts',(by simp [show 1<vs.size by exact la [_] [([11,3,0],[2])] ([3,3,0],[2]) rfl hsz]:(vs.setIfInBounds 1 (Value.ref T'))[1]? = some (Value.ref T')),f2,f3,f4,f5,R.live T' (live1 T' f1),f6⟩
   ·rw [Array.getElem?_setIfInBounds_ne (by decide)];exact hctx
theorem Cg (C:Ctx W fm n A)(I:InvS W fm V ps s)(R:Rel fm.stk own W1 start s.heap)(hs0:∀ b,start.get? b=none->W.h₀.get? b=none)(X:RaisedN W start s.heap e x)(fl:Option Addr){Q:Unit->Shared->Prop}{E:Value->Shared->Prop}
  (h:∀ h',InvS W fm V ps { s with heap:=h' }->Rel fm.stk own W1 start h'->RaisedN W start h' e x->Q () { s with heap:=h' }):wpAny W.m A (setFlight x fl) Q E s:=by
 obtain ⟨a,oe,vs,rfl,ha,hc,hd,hsz,hna,harg,⟨T,oT,ts,q,nTa,hT,hdT,h3,nT,pT⟩,hctx⟩:=X
 have F:=I.inv.frames
 unfold setFlight
 refine bj (wpAny_field ha hd q ?_)
 rw [if_pos (show (Value.ref T != Value.none)=true from by simp)]
 refine wpAny_setField hT hdT h3 ?_
 obtain ⟨T1,e1,d1⟩:=Turn.set (fm:=fm) F hT hdT pT (·.setIfInBounds 3 (fl.elim Value.none λf=>rawInt f))
 have hc0:∀ b∈[T],start.get? b=none:=λb m=>by rw [mem_singleton.mp m];exact nT
 refine h _ ⟨I.inv.turn C.fm T1 λb m=>hs0 b (hc0 b m),I.gens,I.os⟩ (R.turn T1 hc0) ⟨a,oe,vs,rfl,(get?_update_other _ _ nTa).trans ha,hc,hd,hsz,hna,harg.turn T1,?_,hctx⟩
 exact ⟨T,_,_,q,nTa,e1,d1,by simpa using h3,nT,by unfold Dg;rw [Obj.cls_mapFields];exact pT⟩
theorem SameBut.rel {a:Addr}(S:Heap.SameBut a h h')(ha:(h'.get? a).isSome=true)(m:a∈own)(stk:List Env)(V:List Addr):Rel stk own V h h':=
 ⟨λb o e U h2 U=>(S.2 b λq=>h2 (q▸m)).trans e,λb o e U h2 U=>⟨o.slots,(S.2 b λq=>h2 (q▸m)).trans e⟩,λb e=>by
  by_cases q:b=a
  ·rw [q] at e;rw [e] at ha;cases ha
  ·rw [<- S.2 b q];exact e⟩
theorem KI {a:Addr}(S:Heap.SameBut a h h')(ha:a∈fm.av)(hα:∀ b∈V,b≠a):(∀ {p:PV} {v:Value},RepV H h₀ fm.av V h p v->RepV H h₀ fm.av V h' p v)/\∀ {l:List PV} {vs:List Value},RepL H h₀ fm.av V h l vs->RepL H h₀ fm.av V h' l vs:=by
 refine DH (λb vs hn hi=>⟨hn,?_⟩) (λi a hi=>hi) λb o es ep hn ho hx hd=>⟨hn,(S.2 _ λq=>hn (by rw [q];exact ha)).trans ho⟩
 obtain ⟨o,e1,e2⟩:=hi
 exact ⟨o,(S.2 _ λq=>hn (by rw [q];exact ha)).trans e1,e2⟩
theorem RepV.same {a:Addr}(S:Heap.SameBut a h h')(ha:a∈fm.av)(hα:∀ b∈V,b≠a){p:PV}{v:Value}(x:RepV H h₀ fm.av V h p v):RepV H h₀ fm.av V h' p v:=(KI S ha hα).1 x
theorem RepL.same {a:Addr}(S:Heap.SameBut a h h')(ha:a∈fm.av)(hα:∀ b∈V,b≠a){l:List PV}{vs:List Value}(x:RepL H h₀ fm.av V h l vs):RepL H h₀ fm.av V h' l vs:=(KI S ha hα).2 x
theorem OptRep.same {a:Addr}(S:Heap.SameBut a h h')(ha:a∈fm.av)(hα:∀ b∈V,b≠a){p:Option PV}{v:Option Value}(x:OptRep H h₀ fm.av V h p v):OptRep H h₀ fm.av V h' p v:=x.map λr=>r.same S ha hα
theorem Inv.mine (F:FmOk h₀ fm)(I:Inv H h₀ fm V ps h){a:Addr}(S:Heap.SameBut a h h')(ha:a∈fm.av)(hs:(h'.get? a).isSome=true)(nf:∀ o,h.get? a=some o->(∀ vs,o.data≠.fields vs)/\∃ o',h'.get? a=some o'/\∀ vs,o'.data≠.fields vs){ps':PS}(hst:ps'.st=ps.st)
  (loc:∃ m,h'.Ns fm.env.locals m/\∀ x i,(x,NameKind.local,i)∈fm.sc->OptRep H h₀ fm.av V h' (ps'.loc i) (m x))
  (cel:∀ x k i,(x,k,i)∈fm.sc->(k = .cell\/k = .free)->∃ c v,fm.env.cells.lookup x=some c/\c∈fm.av/\c≠fm.env.locals/\h'.IsCell c v/\OptRep H h₀ fm.av V h' (ps'.loc i) v):Inv H h₀ fm V ps' h':=by
 have hα:∀ b∈V,b≠a:=λb m q=>I.lists.apart b m (q▸ha)
 refine ⟨λb o e=>(S.2 b λq=>?_).trans (I.base b o e),loc,cel,⟨by rw [hst];exact I.lists.len,λi l e=>?_,I.lists.nodup,I.lists.fresh,I.lists.apart⟩,λb m=>?_,?_,λP hP=>(I.tabs P hP).same S λo vs e=>(nf o e).1 vs⟩
 ·rw [q,F.fresh a ha] at e;cases e
 ·rw [hst] at e
  obtain ⟨b,vs,h1,h2,h3⟩:=I.lists.at_ i l e
  obtain ⟨k,e1⟩:=h2
  exact ⟨b,vs,h1,⟨k,(S.2 b (hα b (mem_of_getElem? h1))).trans e1⟩,RepL.same S ha hα h3⟩
 ·by_cases q:b=a
  ·rw [q];exact hs
  ·rw [S.2 b q];exact I.live b m
 ·have go:∀ l:List Env,h.FunFrames ⟨#[],{}⟩ l->h'.FunFrames ⟨#[],{}⟩ l:=by
   intro l
   induction l with
   | nil=>exact λU=>trivial
   | cons env rest ih=>
    rintro ⟨h1,⟨L,o,h2,h3,h4,h5⟩,h6⟩
    refine ⟨h1,?_,ih h6⟩
    by_cases q:L=a
    ·obtain ⟨_,o',e1,e2⟩:=nf o (q▸h4)
     exact ⟨L,o',h2,h3,by rw [q];exact e1,e2⟩
    ·exact ⟨L,o,h2,h3,(S.2 L q).trans h4,h5⟩
  exact go _ I.frames
theorem D8 {x:Str}{k:NameKind}{i:Nat}(C:Ctx W fm n A)(I:InvS W fm V ps s)(hm:(x,k,i)∈fm.sc)(hk:k = .local\/k = .cell){p:PV}{v:Value}(r:W.rep fm V s.heap p v){Q:Unit->Shared->Prop}{E:Value->Shared->Prop}
  (h:∀ s',InvS W fm V { ps with loc:=λj=>if j=i then some p else ps.loc j } s'->Rel fm.stk fm.own V s.heap s'.heap->Q () s'):wpAny W.m A (storeName fm.env x v) Q E s:=by
 have kd:=C.fm.kindX hm (by rcases hk with rfl | rfl <;> decide)
 rcases hk with rfl | rfl
 ·obtain ⟨m,n1,n2⟩:=I.inv.loc
  refine wpAny_storeName_local kd n1 (λh' hn S=>?_) (by simp [C.fm.kind])
  have hα:∀ b∈V,b≠fm.env.locals:=λb m q=>I.inv.lists.apart b m (q▸C.fm.locAv)
  obtain ⟨o',es,ep,e1,e2,e3⟩:=id hn
  have live:(h'.get? fm.env.locals).isSome=true:=by rw [e1];rfl
  refine h _ ⟨I.inv.mine C.fm S C.fm.locAv live (λo eo=>⟨(λvs q=>by obtain ⟨oo,_,_,f1,f2,_⟩:=n1;rw [eo] at f1;cases f1;rw [f2] at q;cases q),o',e1,λvs q=>by rw [e2] at q;cases q⟩) rfl ⟨_,hn,λy j hy=>?_⟩ λy kk j hy hkk=>?_,I.gens,I.os⟩ (SameBut.rel S live C.fm.locOwn _ _)
  ·by_cases q:y=x
   ·have:=(C.fm.once _ _ _ _ _ _ hy hm).mpr q
    subst q this
    simp only [if_true]
    exact .some (r.same S C.fm.locAv hα)
   ·have:j≠i:=λz=>q ((C.fm.once _ _ _ _ _ _ hy hm).mp z)
    simp only [if_neg q,if_neg this]
    exact (n2 y j hy).same S C.fm.locAv hα
  ·obtain ⟨c,v,q1,q2,q3,⟨o,q4,q4'⟩,q5⟩:=I.inv.cel y kk j hy hkk
   refine ⟨c,v,q1,q2,q3,⟨o,(S.2 c q3).trans q4,q4'⟩,?_⟩
   have:j≠i:=λz=>by
    have:=(C.fm.once _ _ _ _ _ _ hy hm).mp z
    subst this
    have k1:=C.fm.kinds _ _ _ hy
    rw [kd] at k1
    rcases k1 with k1 | ⟨_,k1⟩
    ·cases k1
     rcases hkk with q | q <;> cases q
    ·cases k1
   simp only [if_neg this]
   exact q5.same S C.fm.locAv hα
 ·obtain ⟨c,v0,q1,q2,q3,q4,q5⟩:=I.inv.cel x .cell i hm (.inl rfl)
  refine wpAny_storeName_cell C.fm.kind kd q1 q4 λh' hc S=>?_
  have hα:∀ b∈V,b≠c:=λb m q=>I.inv.lists.apart b m (q▸q2)
  obtain ⟨o',e1,e2⟩:=id hc
  have live:(h'.get? c).isSome=true:=by rw [e1];rfl
  refine h _ ⟨I.inv.mine C.fm S q2 live (λo eo=>⟨(λvs q=>by obtain ⟨oo,f1,f2⟩:=q4;rw [eo] at f1;cases f1;rw [f2] at q;cases q),o',e1,λvs q=>by rw [e2] at q;cases q⟩) rfl ?_ λy kk j hy hkk=>?_,I.gens,I.os⟩ (SameBut.rel S live (C.fm.cellOwn x i c hm q1) _ _)
  ·obtain ⟨m,⟨o,es,ep,n1,n2,n3⟩,n4⟩:=I.inv.loc
   refine ⟨m,⟨o,es,ep,(S.2 _ (Ne.symm q3)).trans n1,n2,n3⟩,λy j hy=>?_⟩
   have:j≠i:=λz=>by
    have:=(C.fm.once _ _ _ _ _ _ hy hm).mp z
    subst this
    have k1:=C.fm.kindX hy (by decide)
    rw [kd] at k1
    cases k1
   simp only [if_neg this]
   exact (n4 y j hy).same S q2 hα
  ·obtain ⟨c',v',r1,r2,r3,⟨o,r4,r4'⟩,r5⟩:=I.inv.cel y kk j hy hkk
   by_cases q:c'=c
   ·subst q
    have:=C.fm.cellApart _ _ _ _ _ _ _ hy hm r1 q1
    subst this
    have:=(C.fm.once _ _ _ _ _ _ hy hm).mpr rfl
    subst this
    exact ⟨c',some v,r1,r2,r3,hc,by simp only [if_true];exact .some (r.same S q2 hα)⟩
   ·have:j≠i:=λz=>by
     have:=(C.fm.once _ _ _ _ _ _ hy hm).mp z
     subst this
     rw [q1] at r1;exact q (aU r1).symm
    refine ⟨c',v',r1,r2,r3,⟨o,(S.2 c' q).trans r4,r4'⟩,?_⟩
    simp only [if_neg this]
    exact r5.same S q2 hα
theorem Rel.up (r:Rel fm.stk fm.tab V h h'):Rel fm.stk fm.own V h h':=r.mono λU q=>mem_append_left _ q
theorem Qr (op:Operator){a b:PV}{va vb:Value}(C:Ctx W fm n A)(I:InvS W fm V ps s)(ra:W.rep fm V s.heap a va)(rb:W.rep fm V s.heap b vb)(ns:Cf op a b ps≠.stuck):Af W fm A V ps s (inplaceOp op va vb) (Cf op a b):=by
 cases op with
 | Add=>
  have ns':SS a b ps≠.stuck:=ns
  show Af W fm A V ps s _ (SS a b)
  rcases ST ns' with ⟨_,_,rfl,rfl⟩ | ⟨_,_,rfl,rfl⟩
  ·obtain ⟨_,rfl⟩:=ra.inv;obtain ⟨_,rfl⟩:=rb.inv;exact AutoIntOps.iadd_0 (OkE.same I (.int _ _))
  ·obtain ⟨_,rfl⟩:=ra.inv;obtain ⟨_,rfl⟩:=rb.inv
   exact Af.str I ns' λhl Q E h=>SB.iadd (λt' k=>Et _ _▸h k t') (by rw [AN,AN,<- length_append];exact hl)
 | Sub=>
  obtain ⟨i,j,rfl,rfl⟩:=BG (show BF _ a b ps≠.stuck from ns)
  obtain ⟨_,rfl⟩:=ra.inv;obtain ⟨_,rfl⟩:=rb.inv
  exact AutoIntOps.isub_0 (OkE.same I (.int _ _))
 | FloorDiv=>
  obtain ⟨i,j,rfl,rfl⟩:=BG (show BF _ a b ps≠.stuck from ns)
  obtain ⟨_,rfl⟩:=ra.inv;obtain ⟨_,rfl⟩:=rb.inv
  have ns':am (j != 0&&small j) (ae (PV.int (i.fdiv j))) ps≠.stuck:=ns
  obtain ⟨c,e⟩:=Ah ns'
  refine Af.congr (m':=ae (PV.int (i.fdiv j))) e ?_
  rw [and_eq_true] at c
  exact AutoIntOps.ifloordiv_1 (by simpa using c.1) (by rw [Ft c.2];exact bo) (OkE.same I (.int _ _))
 | _=>exact absurd rfl ns
theorem KJ {x:Str}{k:NameKind}{i:Nat}{p pos:Pos}{v:Expr}{m:M PV}(hm:(x,k,i)∈fm.sc)(hk:k = .local\/k = .cell)(hv:SimE W n fm v m)(hs:∀ env,swapsWith v (some (.Name x p)) pos.line env=pure false) :
  SimT W n fm (.Assign [.Name x p] v pos) (ac m λa=>ac (aj i a) λU=>ae .next):=.mk λA V ps s C I ns=>by
 refine wpAny_Assign_Name (Af.seq (hv A V ps s C I (Ac ns)) (λa va α₁ o0 c0 s0 d0 l0 ra u0=>?_) λx c0 q=>q.toS.bind) (hs _)
 rw [Ab u0]
 refine D8 C s0 hm hk ra λs' I' R'=>?_
 exact OkS.after ⟨.next,_,α₁,rfl,I',.refl ..,R',.next⟩ d0 l0.up
theorem Qs {x:Str}{k:NameKind}{i:Nat}{p pos:Pos}{op:Operator}{v:Expr}{m:M PV}(hm:(x,k,i)∈fm.sc)(hk:k = .local\/k = .cell)(hc:(x==("__classdict__":Str))=false)(hv:SimE W n fm v m) :
  SimT W n fm (.AugAssign (.Name x p) op v pos) (ac (af i) λa=>ac m λb=>ac (Cf op a b) λr=>ac (aj i r) λU=>ae .next):=.mk λA V ps s C I ns=>by
 obtain ⟨a,ea,ea'⟩:=Jn (Ac ns)
 rw [Ab ea'] at ns ⊢
 refine wpAny_AugAssign_Name (Hl C I hm (by rcases hk with q | q <;> simp [q]) hc ea λva ra=>?_)
 refine Af.seq (hv A V ps s C I (Ac ns)) (λb vb α₁ o0 c0 s0 d0 l0 rb u0=>?_) λx c0 q=>q.toS.bind
 rw [Ab u0] at ns ⊢
 refine Af.seq (Qr op C s0 (I.stays C l0 d0 ra) rb (Ac ns)) (λr vr X0 Y1 w0 w1 y0 W0 rr Z0=>?_) λx c0 q=>(q.bind.after d0 l0).toS
 rw [Ab Z0]
 refine D8 C w1 hm hk rr λs' I' R'=>?_
 exact (OkS.after ⟨.next,_,X0,rfl,I',.refl ..,R',.next⟩ y0 W0.up).after d0 l0.up
theorem An {v:Expr}{pos:Pos}{m:M PV}(hv:SimE W n fm v m):SimT W n fm (.Return (some v) pos) (ac m λa=>ae (.ret a)):=.mk λA V ps s C I ns=>by
 refine wpAny_Return_some (Af.seq (hv A V ps s C I (Ac ns)) (λa va α₁ o0 c0 s0 d0 l0 ra u0=>?_) λx c0 q=>q.toS.bind)
 rw [Ab u0]
 exact ⟨.ret a,o0,α₁,rfl,s0,d0,l0.up,.ret ra⟩
theorem Do {v:Expr}{pos:Pos}{m:M PV}(hv:SimE W n fm v m)(hi:∀ env:Env,env.scope.kind = .function->interactive env=false)(hs:∀ env,swapsWith v none pos.line env=pure false):SimT W n fm (.Expr v pos) (ac m λU=>ae .next):=.mk λA V ps s C I ns=>by
 refine wpAny_Expr_any (Af.seq (hv A V ps s C I (Ac ns)) (λa va α₁ o0 c0 s0 d0 l0 ra u0=>?_) λx c0 q=>q.toS.bind) (hi _ C.fm.kind) (hs _)
 rw [Ab u0]
 exact ⟨.next,o0,α₁,rfl,s0,d0,l0.up,.next⟩
theorem II {pos:Pos}:SimT W n fm (.Continue pos) (ae .cont):=.mk λA V ps s C I ns=>wpAny_Continue ⟨.cont,ps,V,rfl,I,.refl ..,.refl ..,.cont⟩
theorem Ov {pos:Pos}:SimT W n fm (.Pass pos) (ae .next):=.mk λA V ps s C I ns=>by
 show wpAny _ _ (do standAt pos;pure Flow.next) _ _ _
 exact bj (wpAny_standAt (bk ⟨.next,ps,V,rfl,I,.refl ..,.refl ..,.next⟩))
theorem Ay:SimS W n fm [] (ae .next):=.mk λA V ps s C I ns=>wpAny_execs_nil ⟨.next,ps,V,rfl,I,.refl ..,.refl ..,.next⟩
theorem Aa {st:Stmt}{b:List Stmt}{m r:M PFlow}(hm:SimT W n fm st m)(hr:SimS W n fm b r):SimS W n fm (st::b) (ak m r):=.mk λA V ps s C I ns=>by
 unfold ak at ns ⊢
 refine wpAny_execs_cons (aX (hm A V ps s C I (Ac ns)) (λf c0 q=>?_) λx c0 q=>q.bind)
 obtain ⟨f,o0,α₁,u0,s0,d0,l0,rf⟩:=q
 rw [Ab u0] at ns ⊢
 cases rf with
 | next=>exact aX (hr A α₁ o0 c0 C s0 ns) (λU U q=>q.after d0 l0) λU U q=>q.after d0 l0
 | brk=>exact ⟨.brk,o0,α₁,rfl,s0,d0,l0,.brk⟩
 | cont=>exact ⟨.cont,o0,α₁,rfl,s0,d0,l0,.cont⟩
 | ret r=>exact ⟨.ret _,o0,α₁,rfl,s0,d0,l0,.ret r⟩
theorem L9 (m:M PFlow):ak m (ae .next)=m:=by
 funext ps
 unfold ak ac
 cases m ps with
 | ok f s=>cases f <;> rfl
 | ex e s=>rfl
 | stuck=>rfl
theorem Ad {st:Stmt}{m:M PFlow}(hm:SimT W n fm st m):SimS W n fm [st] m:=by
 have:=Aa hm (Ay (W:=W) (n:=n) (fm:=fm))
 rwa [L9] at this
theorem AJ {t:Expr}{b o:List Stmt}{pos:Pos}{mt:M Bool}{mb mo:M PFlow}(ht:SimB W n fm t mt)(hb:SimS W n fm b mb)(ho:SimS W n fm o mo):SimT W n fm (.If t b o pos) (ac mt λc=>if c then mb else mo):=.mk λA V ps s C I ns=>by
 refine wpAny_If (aX (ht A V ps s C I (Ac ns)) (λc c0 z=>?_) λx c0 z=>z.toS.bind)
 obtain ⟨o0,α₁,u0,s0,d0,l0⟩:=z
 rw [Ab u0] at ns ⊢
 cases c
 ·exact aX (ho A α₁ o0 c0 C s0 ns) (λU U q=>q.after d0 l0.up) λU U q=>q.after d0 l0.up
 ·exact aX (hb A α₁ o0 c0 C s0 ns) (λU U q=>q.after d0 l0.up) λU U q=>q.after d0 l0.up
inductive ExN (W:Wd)(fm:Fm)(V:List Addr)(h:Heap)(r:R PFlow)(x:Value)(s':Shared):Prop
 | mk (e:PX) (ps':PS) (α':List Addr) (k1:r = .ex e ps') (k2:InvS W fm α' ps' s') (k3:Grow V α' h) (k4:Rel fm.stk fm.own V h s'.heap) (k5:RaisedN W h s'.heap e x):ExN W fm V h r x s'
def Js (W:Wd)(fm:Fm)(V:List Addr)(h:Heap)(r:R PFlow):Result->Shared->Prop
 | .ok f,s'=>OkS W fm V h r f s'
 | .error x,s'=>ExN W fm V h r x s'
theorem InvS.none (I:InvS W fm V ps s):∀ b,s.heap.get? b=none->W.h₀.get? b=none:=λb q=>by
 cases z:W.h₀.get? b with
 | none=>rfl
 | some o=>rw [I.inv.base b o z] at q;cases q
theorem Fz {r:R PFlow}(C:Ctx W fm n A)(hs0:∀ b,h.get? b=none->W.h₀.get? b=none)(q:ExS W fm V h r x s):notedBy W.m A fm.env (λe s'=>Js W fm V h r (.error e) s') x s:=by
 obtain ⟨e,ps',α',er,I,g,R,X⟩:=q
 unfold notedBy
 exact GU C I R hs0 X λh' I' R' X'=>⟨e,ps',α',er,I',g,R',X'⟩
theorem GV {r:R PFlow}(C:Ctx W fm n A)(hs0:∀ b,h.get? b=none->W.h₀.get? b=none)(q:Js W fm V h r (.error x) s):cameBackBy W.m A fm.env (ExS W fm V h r) x s:=by
 obtain ⟨e,ps',α',er,I,g,R,X⟩:=q
 have X':=X
 obtain ⟨a,oe,vs,rfl,ha,hc,hd,hsz,hna,harg,⟨T,oT,ts,q,nTa,hT,hdT,h3,nT,pT⟩,hctx⟩:=X'
 unfold cameBackBy
 refine bj (wpAny_field ha hd q ?_)
 rw [if_neg (show ¬ ((Value.ref T==Value.none)=true) from by simp)]
 refine Cg C I R hs0 X _ λh' I' R' X'=>?_
 exact ⟨e,ps',α',er,I',g,R',X'.raised⟩
theorem Cj {t:Expr}{b:List Stmt}{pos:Pos}{mt:M Bool}{mb:M PFlow}(ht:SimB W n fm t mt)(hb:SimS W n fm b mb)(K:Nat):SimT W n fm (.While t b [] pos) (ay mt mb K):=.mk λA V ps s C I ns=>by
 have hs0:=I.none
 refine wpAny_While (codeAny_mono (R:=Js W fm V s.heap (ay mt mb K ps)) ?_ λr s' q=>?_)
 ·refine codeAny_whileLoop (λk s'=>∃ ps' α',ay mt mb K ps=ay mt mb k ps'/\InvS W fm α' ps' s'/\Grow V α' s.heap/\Rel fm.stk fm.own V s.heap s'.heap) ?_ K ⟨ps,V,rfl,I,.refl ..,.refl ..⟩
  rintro k c0 ⟨o0,α₁,u0,s0,d0,l0⟩
  rw [u0] at ns ⊢
  cases k with
  | zero=>exact absurd rfl ns
  | succ k=>
   have ns':ac mt (λc=>if c then ac mb λf=>match f with
    | .next=>ay mt mb k
    | .cont=>ay mt mb k
    | .brk=>ae .next
    | .ret v=>ae (.ret v)
    else ae .next) o0≠.stuck:=ns
   have eq:ay mt mb (k+1) o0=ac mt (λc=>if c then ac mb λf=>match f with
    | .next=>ay mt mb k
    | .cont=>ay mt mb k
    | .brk=>ae .next
    | .ret v=>ae (.ret v)
    else ae .next) o0:=rfl
   refine aX (ht A α₁ o0 c0 C s0 (Ac ns')) (λc w0 z=>?_) λx w0 z=>Fz C hs0 (by rw [eq];exact ExS.after z.toS.bind d0 l0)
   obtain ⟨Y1,X0,Z0,w1,y0,W0⟩:=z
   rw [Ab Z0] at ns' eq
   have g12:=d0.trans y0 l0
   have x12:=l0.trans W0.up d0.new
   cases c with
   | false=>
    simp only [false_eq_true,if_false] at eq ⊢
    rw [eq]
    exact wpAny_execs_nil ⟨.next,Y1,X0,rfl,w1,g12,x12,.next⟩
   | true=>
    simp only [if_true] at eq ns' ⊢
    refine aX (hb A X0 Y1 w0 C w1 (Ac ns')) (λf w3 z=>?_) λx w3 z=>Fz C hs0 (by rw [eq];exact ExS.after z.bind g12 x12)
    obtain ⟨f,j4,W4,Y3,Z1,u3,v3,rf⟩:=z
    rw [Ab Y3] at ns' eq
    have g123:=g12.trans u3 x12
    have x123:=x12.trans v3 g12.new
    cases rf with
    | next=>exact ⟨k,bp k,j4,W4,eq,Z1,g123,x123⟩
    | cont=>exact ⟨k,bp k,j4,W4,eq,Z1,g123,x123⟩
    | brk=>rw [eq];exact ⟨.next,j4,W4,rfl,Z1,g123,x123,.next⟩
    | ret r=>rw [eq];exact ⟨.ret _,j4,W4,rfl,Z1,g123,x123,.ret r⟩
 ·cases r with
  | ok f=>exact q
  | error x=>exact GV C hs0 q
end
def B5:List String:=["list_iterator", "str_ascii_iterator", "str_iterator", "range_iterator"]
structure ItOk (W:Wd)(fm:Fm)(W1:List Addr)(I:Addr)(get:Nat->M (Option PV))(St:Nat->Heap->Prop):Prop where
 self:∀ (A:Around) s k (Q:Value->Shared->Prop) (E:Value->Shared->Prop),St k s.heap->Q (.ref I) s->wpAny W.m A (pyIter (.ref I)) Q E s
 stay:∀ k h h',St k h->(∀ o,h.get? I=some o->h'.get? I=some o)->St k h'
 flds:∀ k h,St k h->∃ o vs,h.get? I=some o/\o.data = .fields vs/\∃ c,o.cls = .type c/\c∈B5
 next:∀ (fm:Fm) (A:Around) V ps s k (Q:Option Value->Shared->Prop) (E:Value->Shared->Prop),A.handled=none->W1 <+: V->FmOk W.h₀ fm->InvS W fm V ps s->St k s.heap->get k ps≠.stuck ->
  (∀ o r h' tk,get k ps = .ok o ps->(∀ b ob,b≠I->s.heap.get? b=some ob->h'.get? b=some ob)->(match (generalizing:=false) o,r with
   | none,none=>True
   | some p,some v=>W.rep fm V h' p v/\St (k+1) h'
   | _,_=>False)->Q r { s with heap:=h',toks:=tk })->wpAny W.m A (pyNext (.ref I)) Q E s
theorem ItOk.to {W:Wd}{fm:Fm}{W1:List Addr}{I:Addr}{get:Nat->M (Option PV)}{St:Nat->Heap->Prop}(x:ItOk W fm W1 I get St)(fm':Fm):ItOk W fm' W1 I get St:=⟨x.self,x.stay,x.flds,x.next⟩
inductive ItRes (W:Wd)(fm:Fm)(V:List Addr)(h:Heap)(r:R (Nat->M (Option PV)))(it:Value)(w0:Shared):Prop
 | mk (get:Nat->M (Option PV)) (ps':PS) (α':List Addr) (I:Addr) (St:Nat->Heap->Prop) (k1:r = .ok get ps') (k2:it = .ref I) (k3:InvS W fm α' ps' w0) (k4:Grow V α' h) (k5:Rel fm.stk fm.tab V h w0.heap) (k6:h.get? I=none) (k7:I∉fm.av) (k8:ItOk W fm α' I get St) (k9:St 0 w0.heap):ItRes W fm V h r it w0
abbrev SimI.T (W:Wd)(n:Nat)(fm:Fm)(e:Expr)(mi:M (Nat->M (Option PV))):Prop:=∀ A V ps s,Ctx W fm n A->InvS W fm V ps s->mi ps≠.stuck->wpAny W.m A (eval e fm.env) (λx c0=>wpAny W.m A (pyIter x) (λit w0=>
  ItRes W fm V s.heap (mi ps) it w0) (ExE W fm V s.heap (mi ps)) c0) (ExE W fm V s.heap (mi ps)) s
structure SimI (W:Wd)(n:Nat)(fm:Fm)(e:Expr)(mi:M (Nat->M (Option PV))):Prop where
 go:SimI.T W n fm e mi
noncomputable instance {W:Wd} {n:Nat} {fm:Fm} {e:Expr} {mi:M (Nat->M (Option PV))}:CoeFun (SimI W n fm e mi) (λU=>SimI.T W n fm e mi):=⟨SimI.go⟩
section
variable {W:Wd}{fm:Fm}{V α' α₁ W1:List Addr}{h h' h₁ start:Heap}{n:Nat}{A:Around}{ps ps':PS}{s s':Shared}{H:Hd}{h₀:Heap}{own:List Addr}{e:PX}{x:Value}{I:Addr}
theorem Turn0.one (F:h.FunFrames ⟨#[],{}⟩ fm.stk)(hI:∃ o vs,h.get? I=some o/\o.data = .fields vs/\∃ c,o.cls = .type c/\c∈B5)(k:∀ b o,b≠I->h.get? b=some o->h'.get? b=some o):Turn0 fm.stk [I] h h':=by
 obtain ⟨oI,vs,eI,dI,ci,hci,hw⟩:=hI
 have nf:∀ b o,h.get? b=some o->(∀ vs,o.data≠.fields vs)->h'.get? b=some o:=λb o e q=>k b o (λz=>by rw [z,eI] at e;cases e;exact q vs dI) e
 exact ⟨λb o e U m=>k b o (λz=>m (by rw [z];exact mem_singleton_self _)) e,λb o e U m=>⟨o.slots,k b o (λz=>m (by rw [z];exact mem_singleton_self _)) e⟩,
  F.of_keeps λb o e q=>⟨o,nf b o e q,rfl⟩,λb m=>by rw [mem_singleton.mp m];exact ⟨oI,vs,eI,dI,by unfold Dg;rw [hci];exact ⟨(λq=>(by cases q)),λq=>absurd (Value.type.inj q▸hw) (by decide)⟩⟩⟩
theorem ItOk.list {i:Nat}{ax:Addr}(hi:V[i]? = some ax)(hne:ax≠I):ItOk W fm V I (Bg (.lst i)) (λk h=>h.IsListIter I ax k) where
 self:=λA s k Q E st h=>wpAny_pyIter_listiter st h
 stay:=λk h h' st q=>by obtain ⟨o,e,r⟩:=st;exact ⟨o,q o e,r⟩
 flds:=λk h st=>by obtain ⟨o,e,c,d⟩:=st;exact ⟨o,_,e,d,_,c,by simp [B5]⟩
 next:=by
  intro fm A α' ps s k Q E hh hp F J st ns hQ
  have ns':ac (aq i) (λl=>ae l[k]?) ps≠.stuck:=ns
  obtain ⟨l,e1,e2⟩:=A5 (Ac ns')
  have e3:Bg (.lst i) k ps = .ok l[k]? ps:=Ab e2
  obtain ⟨a,vs,h1,h2',h3⟩:=J.inv.lists.at_ i l e1
  have h2:=h2'.isList
  have:a=ax:=by
   obtain ⟨t,rfl⟩:=hp
   rw [getElem?_append_left (List.getElem?_eq_some_iff.mp hi).1,hi] at h1
   exact (aU h1).symm
  subst this
  obtain ⟨oI,eI,cI,dI⟩:=id st
  cases q:l[k]? with
  | none=>
   refine wpAny_pyNext_list_end hh st h2 ?_ λh' S=>?_
   ·rw [List.getElem?_toArray,List.getElem?_eq_none_iff,<- h3.length];exact bq.mp q
   ·exact hQ none none h' _ (by rw [e3,q]) S trivial
  | some p=>
   obtain ⟨v,hv,r⟩:=h3.get k p q
   refine wpAny_pyNext_list_item st h2 (x:=v) (by simpa using hv) λh' st' S=>?_
   have kk:∀ b o,b≠I->s.heap.get? b=some o->h'.get? b=some o:=λb o z e=>(S.2 b z).trans e
   exact hQ (some p) (some v) h' _ (by rw [e3,q]) kk ⟨RepV.turn (Turn0.one J.inv.frames ⟨oI,_,eI,dI,_,cI,by simp [B5]⟩ kk) F.frsAv r,st'⟩
theorem ItOk.ints {l:List Int}{a:Addr}{vs:Array Value}(hl:W.h₀.IsList a vs)(hv:IntsAre vs.toList l)(hne:a≠I):ItOk W fm V I (Bg (.ints l)) (λk h=>h.IsListIter I a k) where
 self:=λA s k Q E st h=>wpAny_pyIter_listiter st h
 stay:=λk h h' st q=>by obtain ⟨o,e,r⟩:=st;exact ⟨o,q o e,r⟩
 flds:=λk h st=>by obtain ⟨o,e,c,d⟩:=st;exact ⟨o,_,e,d,_,c,by simp [B5]⟩
 next:=by
  intro fm A α' ps s k Q E hh hp F J st ns hQ
  have hl':s.heap.IsList a vs:=by obtain ⟨o,e,r⟩:=hl;exact ⟨o,J.inv.base _ _ e,r⟩
  have len:vs.size=l.length:=by rw [<- Array.length_toList];exact hv.length
  cases q:l[k]? with
  | none=>
   refine wpAny_pyNext_list_end hh st hl' ?_ λh' S=>?_
   ·rw [Array.getElem?_eq_none_iff,len];exact bq.mp q
   ·exact hQ none none h' _ (by show R.ok ((l[k]?).map PV.int) ps=_;rw [q];rfl) S trivial
  | some i=>
   obtain ⟨t,ht⟩:=hv.get k _ q
   refine wpAny_pyNext_list_item st hl' (x:=.int i t) (by rw [<- Array.getElem?_toList];exact ht) λh' st' S=>?_
   exact hQ (some (.int i)) (some (.int i t)) h' _ (by show R.ok ((l[k]?).map PV.int) ps=_;rw [q];rfl) (λb o z e=>(S.2 b z).trans e) ⟨.int i t,st'⟩
theorem ItOk.strA {x:Txt}{t:Tok}:ItOk W fm V I (Bg (.str x)) (λk h=>h.IsStrIter I "str_ascii_iterator" (txt x) t k) where
 self:=λA s k Q E st h=>wpAny_pyIter_striter_ascii st h
 stay:=λk h h' st q=>by obtain ⟨o,e,r⟩:=st;exact ⟨o,q o e,r⟩
 flds:=λk h st=>by obtain ⟨o,e,c,d⟩:=st;exact ⟨o,_,e,d,_,c,by simp [B5]⟩
 next:=by
  intro fm A α' ps s k Q E hh hp F J st ns hQ
  cases q:x[k]? with
  | none=>
   refine wpAny_pyNext_ascii_end hh st (by simp [txt];exact bq.mp q) λh' S=>?_
   exact hQ none none h' _ (by show R.ok ((x[k]?).map _) ps=_;rw [q];rfl) S trivial
  | some c=>
   refine wpAny_pyNext_ascii_item st (c:=c) (by simp [txt,q]) λh' st' S=>?_
   exact hQ (some (.str [c])) (some _) h' _ (by show R.ok ((x[k]?).map _) ps=_;rw [q];rfl) (λb o z e=>(S.2 b z).trans e) ⟨.str [c] _,st'⟩
theorem ItOk.strW {x:Txt}{t:Tok}:ItOk W fm V I (Bg (.str x)) (λk h=>h.IsStrIter I "str_iterator" (txt x) t k) where
 self:=λA s k Q E st h=>wpAny_pyIter_striter_wide st h
 stay:=λk h h' st q=>by obtain ⟨o,e,r⟩:=st;exact ⟨o,q o e,r⟩
 flds:=λk h st=>by obtain ⟨o,e,c,d⟩:=st;exact ⟨o,_,e,d,_,c,by simp [B5]⟩
 next:=by
  intro fm A α' ps s k Q E hh hp F J st ns hQ
  cases q:x[k]? with
  | none=>
   refine wpAny_pyNext_wide_end hh st (by simp [txt];exact bq.mp q) λh' S=>?_
   exact hQ none none h' _ (by show R.ok ((x[k]?).map _) ps=_;rw [q];rfl) S trivial
  | some c=>
   refine wpAny_pyNext_wide_item st (c:=c) (by simp [txt,q]) λh' st' S=>?_
   exact hQ (some (.str [c])) (some _) h' _ (by show R.ok ((x[k]?).map _) ps=_;rw [q];rfl) (λb o z e=>(S.2 b z).trans e) ⟨.str [c] _,st'⟩
theorem ItOk.rng {a b:Int}:ItOk W fm V I (BX a b) (λk h=>IsRangeIter h I (a+k) ((if a<b then b - a else 0) - k) 1) where
 self:=λA s k Q E st h=>wpAny_pyIter_rangeiter st h
 stay:=λk h h' e q=>q _ e
 flds:=λk h e=>⟨_,_,e,rfl,_,rfl,by simp [B5]⟩
 next:=by
  intro fm A α' ps s k Q E hh hp F J st ns hQ
  by_cases q:(k:Int)<b - a
  ·have hab:a<b:=by lia
   rw [if_pos hab] at st
   refine wpAny_pyNext_range_item st (by lia) λh' st' S=>?_
   refine hQ (some (.int (a+k))) (some _) h' _ (by show R.ok (if _ then _ else _) ps=_;rw [if_pos q]) (λb o z e=>(S.2 b z).trans e) ⟨.int _ _,?_⟩
   show IsRangeIter h' I (a+((k+1:Nat):Int)) ((if a<b then b - a else 0) - ((k+1:Nat):Int)) 1
   rw [if_pos hab,show a+((k+1:Nat):Int)=a+k+1 by lia,show (b - a - ((k+1:Nat):Int))=b - a - k - 1 by lia]
   exact st'
  ·refine wpAny_pyNext_range_end hh st (by split <;> lia) λh' S=>?_
   exact hQ none none h' _ (by show R.ok (if _ then _ else _) ps=_;rw [if_neg q]) S trivial
theorem Bm (I:InvS W fm V ps s)(o:Obj):InvS W fm V ps { s with heap:=s.heap.push o }:=⟨I.inv.keeps λU U e=>get?_push_of_some o e,I.gens,I.os⟩
theorem Bx (r:Rel fm.stk own V start s.heap)(o:Obj):Rel fm.stk own V start (s.heap.push o):=r.trans (.of_keeps (V:=V) λU U e=>get?_push_of_some o e) λa m q=>absurd m q
set_option tactic.hygienic true in
theorem Cy {e:Expr}{m:M PV}(he:SimE W n fm e m):SimI W n fm e (ac m EM):=.mk λA V ps s C I ns=>by
 refine Af.seq (he A V ps s C I (Ac ns)) (λp v α₁ o0 c0 s0 d0 l0 Y0 u0=>?_) λx c0 q=>q.bind
 rw [Ab u0] at ns
 have fresh:s.heap.get? c0.heap.objs.size=none:=l0.live _ (AH _)
 have nav:c0.heap.objs.size∉fm.av:=A6 s0 (AH _)
 have ne:∀ a o,c0.heap.get? a=some o->a≠c0.heap.objs.size:=λa o q z=>by rw [z,AH] at q;cases q
 cases p <;> (try exact absurd rfl ns)
 ·rename_i t
  obtain ⟨tk,rfl⟩:=Y0.inv
  cases ha:(txt t).cps.all (· < 128)
  ·exact wpAny_pyIter_wide ha ⟨_,o0,α₁,c0.heap.objs.size,_,(Ab u0).trans rfl,rfl,Bm s0 _,d0,Bx l0 _,fresh,nav,ItOk.strW,⟨_,get?_push_size _ rfl,rfl,rfl⟩⟩
  ·exact wpAny_pyIter_ascii ha ⟨_,o0,α₁,c0.heap.objs.size,_,(Ab u0).trans rfl,rfl,Bm s0 _,d0,Bx l0 _,fresh,nav,ItOk.strA,⟨_,get?_push_size _ rfl,rfl,rfl⟩⟩
 ·rename_i i
  obtain ⟨a,rfl,hi⟩:=Y0.inv
  ·have hl:∃ vs,c0.heap.IsList a vs:=s0.inv.lists.isList (mem_of_getElem? hi)
   obtain ⟨vs,hl⟩:=hl
   have nI:a≠c0.heap.objs.size:=by obtain ⟨o,q,_⟩:=hl;exact ne a o q
   exact wpAny_pyIter_list hl ⟨_,o0,α₁,c0.heap.objs.size,_,(Ab u0).trans rfl,rfl,Bm s0 _,d0,Bx l0 _,fresh,nav,ItOk.list hi nI,⟨_,get?_push_size _ rfl,rfl,rfl⟩⟩
 ·rename_i l
  obtain ⟨a,vs,rfl,hl,hv⟩:=Y0.inv
  ·have hl':c0.heap.IsList a vs:=by obtain ⟨o,q,r⟩:=hl;exact ⟨o,s0.inv.base _ _ q,r⟩
   have nI:a≠c0.heap.objs.size:=by obtain ⟨o,q,_⟩:=hl';exact ne a o q
   exact wpAny_pyIter_list hl' ⟨_,o0,α₁,c0.heap.objs.size,_,(Ab u0).trans rfl,rfl,Bm s0 _,d0,Bx l0 _,fresh,nav,ItOk.ints hl hv nI,⟨_,get?_push_size _ rfl,rfl,rfl⟩⟩
theorem D9 {i:Int}(h:small i=true):-(2 ^ 62:Int)<=i/\i<2 ^ 62:=by
 unfold small at h
 rw [decide_eq_true_eq] at h
 have:((2:Int) ^ 62)=4611686018427387904:=by decide
 omega
theorem Ow {l:List PV}(ns:B3 l ps≠.stuck):(∃ b,l=[.int b])\/∃ a b,l=[.int a,.int b]:=by
 obtain ⟨x,e⟩:=A8 ns
 rcases SU e with ⟨e,_⟩ | ⟨a,e,_⟩
 ·exact .inl ⟨_,e⟩
 ·exact .inr ⟨_,_,e⟩
theorem Ck {x:Str}{i:Nat}{np pos:Pos}{es:List Expr}{ms:List (M PV)}(hm:(x,NameKind.globalImplicit,i)∈fm.sc)(hf:x∈Bl)(hn:x≠"__name__")(hd:(x==("__debug__":Str))=false)(hb:bootBuiltins x=some (.type "range"))
  (q:SimL W n fm es ms):SimI W n fm (.Call (.Name x np) es [] pos) (ac (ah ms) B3):=.mk λA V ps s C I ns=>by
 show wpAny W.m A (do callWith pos (<- eval (.Name x np) fm.env) [] (backTo pos (starEach es fm.env)) (backToKw pos (keywordEach [] fm.env))) _ _ s
 refine bj (BL C I hf hn hb hm hd ?_)
 refine PySem.callWith_type (q.plain _) (A3 (q.plain _) (aX (CX q A V ps s C I (Ac ns)) (λvs c0 z=>?_) λx c0 z=>z.bind))
 obtain ⟨l,o0,α₁,u0,s0,d0,l0,Y0⟩:=z
 rw [Ab u0] at ns
 have fin:∀ (o:Obj) (a b:Int) (t u v:Tok) tk,o = { cls:=.type "range",data:=.fields #[.int a t,.int b u,.int 1 v] }->small a=true->small b=true->B3 l o0 = .ok (BX a b) o0 ->
   wpAny W.m A (pyIter (.ref c0.heap.objs.size)) (λit w0=>ItRes W fm V s.heap (ac (ah ms) B3 ps) it w0)
    (ExE W fm V s.heap (ac (ah ms) B3 ps)) { c0 with heap:=c0.heap.push o,toks:=tk }:=by
  rintro o a b t u v tk rfl ha hb' er
  have a62:=D9 ha
  have b62:=D9 hb'
  have I2:=(Bm s0 { cls:=.type "range",data:=.fields #[.int a t,.int b u,.int 1 v] }).tok tk
  refine wpAny_pyIter_range (s:={ c0 with heap:=c0.heap.push { cls:=.type "range",data:=.fields #[.int a t,.int b u,.int 1 v] },toks:=tk }) (IsRange.new ..) (small_one a62.1 a62.2 b62.1 b62.2) ?_
  refine ⟨BX a b,o0,α₁,_,_,(Ab u0).trans er,rfl,Bm I2 _,d0,Bx (s:={ c0 with heap:=c0.heap.push _,toks:=tk }) (Bx l0 _) _,?_,A6 I2 (AH _),ItOk.rng (a:=a) (b:=b),?_⟩
  ·exact (Bx l0 { cls:=.type "range",data:=.fields #[.int a t,.int b u,.int 1 v] }).live _ (AH _)
  ·show IsRangeIter _ _ (a+((0:Nat):Int)) _ _
   rw [show a+((0:Nat):Int)=a by lia,show ((if a<b then b - a else 0) - ((0:Nat):Int))=Builtin.Range.rangeSize a b 1 by rw [rangeSize_one];lia]
   exact get?_push_size _ rfl
 have ns1:B3 l o0≠.stuck:=ns
 rcases Ow ns1 with ⟨b,rfl⟩ | ⟨a,b,rfl⟩
 ·obtain ⟨_,_,rfl,r,rs⟩:=Y0.inv
  obtain ⟨t,rfl⟩:=r.inv
  obtain rfl:=rs.inv
  have ns':am (small b) (ae (BX 0 b)) o0≠.stuck:=ns
  obtain ⟨c,e⟩:=Ah ns'
  exact call_range_1 (fin _ 0 b _ _ _ _ rfl (by decide) c e)
 ·obtain ⟨_,_,rfl,r,rs⟩:=Y0.inv
  obtain ⟨_,_,rfl,r',rs2⟩:=rs.inv
  obtain rfl:=rs2.inv
  obtain ⟨t,rfl⟩:=r.inv
  obtain ⟨u,rfl⟩:=r'.inv
  have ns':am (small a&&small b) (ae (BX a b)) o0≠.stuck:=ns
  obtain ⟨c,e⟩:=Ah ns'
  rw [and_eq_true] at c
  exact call_range_2 (fin _ a b _ _ _ _ rfl c.1 c.2 e)
end
section
variable {prog:Program}{w:World}{A:Around}{E:Value->Shared->Prop}{s:Shared}
theorem Ox {it t:Addr}{items:Array Value}(hne:t≠it):∀ (n i:Nat) (s:Shared) (Q:List Value->Shared->Prop),s.heap.IsListIter it t i->s.heap.IsList t items->i+n<=items.size ->
  (∀ h',h'.IsListIter it t (i+n)->Heap.SameBut it s.heap h'->Q ((items.toList.drop i).take n) { s with heap:=h' })->wpAny (model prog w) A (draw (.ref it) n) Q E s:=by
 intro n
 induction n with
 | zero=>
  intro i s Q hit _ _ hQ
  show wpAny _ _ (pure []) Q E s
  exact bk (by simpa using hQ s.heap hit (Heap.SameBut.refl ..))
 | succ n ih=>
  intro i s Q hit ht hle hQ
  have hlt:i<items.size:=by exact la [_,_,_] [([2,4,3,0,0],[6])] ([2,3,0],[6]) rfl hle
  show wpAny _ _ (pyNext (.ref it) >>= _) Q E s
  refine bj (wpAny_pyNext_list_item hit ht (x:=items[i]) (by simp [hlt]) λh₁ Y6 i5=>?_)
  refine bj (bh (ih (i+1) _ _ Y6 (ht.extBut i5.extBut hne) (by exact la [_,_,_] [([2,4,3,0,0],[6])] ([2,3,0,4,0],[6]) rfl hle) λY2 W7 X7=>bk ?_))
  have hd:items.toList.drop i=items[i]::items.toList.drop (i+1):=by simp [drop_eq_getElem_cons,hlt]
  have:=hQ Y2 (by rw [show i+(n+1)=i+1+n by exact Nat.le_antisymm (la [_,_] [] ([2,4,3,0,0],[2,3,0,4,0]) rfl) (la [_,_] [] ([2,3,0,4,0],[2,4,3,0,0]) rfl)];exact W7) (i5.trans X7)
  rw [hd,take_succ_cons] at this
  exact this
theorem F6 {t:Addr}{items:Array Value}{Q:List Value->Shared->Prop}(hh:A.handled=none)(ht:s.heap.IsList t items)
  (hQ:∀ h',ExtBut s.heap.objs.size s.heap h'->Q items.toList { s with heap:=h' }):wpAny (model prog w) A (unpackItems (.ref t) items.size none) Q E s:=by
 have hlt:t≠s.heap.objs.size:=by obtain ⟨o,ho,_⟩:=ht;exact Nat.ne_of_lt (lt_size ho)
 unfold unpackItems
 refine bj ?_
 ·unfold notIterableAtAll
  refine bj (wpAny_specialOf ht.typeIs slot_list_iter.lookup ?_)
  refine bk ?_
  simp only [false_eq_true,if_false]
  refine bj (bh (wpAny_pyIter_list ht ?_))
  refine bj (bh (Ox hlt items.size 0 _ _ ⟨_,get?_push_size _ rfl,rfl,rfl⟩ (ht.push _) (by exact la [_] [] ([1,2,0],[2]) rfl) λh₁ Y6 i5=>?_))
  have hall:List.take items.size (List.drop 0 items.toList)=items.toList:=by
   rw [drop_zero];exact take_of_length_le (by simp)
  rw [hall]
  rw [if_neg (by simp)]
  have Y7:h₁.IsList t items:=(ht.push _).extBut i5.extBut hlt
  refine bj (bh (wpAny_pyNext_list_end hh Y6 Y7 (by simp) λY2 Z7=>?_))
  simp only [Option.isSome_none,false_eq_true,if_false]
  refine bk (hQ Y2 λb o hb e=>Z7 b o hb (i5.extBut b o hb (get?_push_of_some _ e)))
end
inductive OkG (W:Wd)(fm:Fm)(V:List Addr)(h:Heap)(r:R Unit)(s':Shared):Prop
 | mk (ps':PS) (k1:r = .ok () ps') (k2:InvS W fm V ps' s') (k3:Rel fm.stk fm.own V h s'.heap):OkG W fm V h r s'
abbrev SimG.T (W:Wd)(n:Nat)(fm:Fm)(t:Expr)(f:PV->M Unit):Prop:=∀ A V ps s p v,Ctx W fm n A->InvS W fm V ps s->W.rep fm V s.heap p v->f p ps≠.stuck->wpAny W.m A (assign t fm.env v) (λU s'=>OkG W fm V s.heap (f p ps) s') (λU U=>False) s
structure SimG (W:Wd)(n:Nat)(fm:Fm)(t:Expr)(f:PV->M Unit):Prop where
 go:SimG.T W n fm t f
noncomputable instance {W:Wd} {n:Nat} {fm:Fm} {t:Expr} {f:PV->M Unit}:CoeFun (SimG W n fm t f) (λU=>SimG.T W n fm t f):=⟨SimG.go⟩
inductive SimGs (W:Wd)(n:Nat)(fm:Fm):List Expr->List (PV->M Unit)->Prop
 | nil:SimGs W n fm [] []
 | cons {t:Expr} {f:PV->M Unit} {ts:List Expr} {fs:List (PV->M Unit)} (x:SimG W n fm t f) (hs:∀ rest env,assignEach (t::rest) env=(false,assign t env)::assignEach rest env) (r:SimGs W n fm ts fs):SimGs W n fm (t::ts) (f::fs)
section
variable {W:Wd}{fm:Fm}{V α' α₁ W1:List Addr}{h h' h₁ start:Heap}{n:Nat}{A:Around}{ps ps':PS}{s s':Shared}{H:Hd}{h₀:Heap}{own:List Addr}{e:PX}{x:Value}{I:Addr}
theorem Oy {x:Str}{k:NameKind}{i:Nat}{p:Pos}(hm:(x,k,i)∈fm.sc)(hk:k = .local\/k = .cell):SimG W n fm (.Name x p) (aj i):=.mk λA V ps s q v C J r ns=>
 wpAny_assign_Name (D8 C J hm hk r λs' J' R'=>⟨_,rfl,J',R'⟩)
theorem SimGs.plain:∀ {ts:List Expr} {fs:List (PV->M Unit)},SimGs W n fm ts fs->∀ env,(assignEach ts env).length=fs.length/\(assignEach ts env).findIdx? (·.1)=none:=by
 intro _ _ hS
 induction hS with
 | nil=>
  intro env
  exact ⟨rfl,rfl⟩
 | @cons t f ts fs x hs r ih=>
  intro env
  obtain ⟨h1,h2⟩:=ih env
  rw [hs]
  exact ⟨by simp [h1],by simp [List.findIdx?_cons,h2]⟩
set_option tactic.hygienic true in
theorem S5 (C:Ctx W fm n A):∀ {ts:List Expr} {fs:List (PV->M Unit)},SimGs W n fm ts fs->∀ (l:List PV) (vs:List Value) (ps:PS) (s:Shared),InvS W fm V ps s->RepL W.H W.h₀ fm.av V s.heap l vs->aL fs l ps≠.stuck ->
  wpAny W.m A (assignInOrder ((assignEach ts fm.env).map (·.2)) vs) (λU s'=>OkG W fm V s.heap (aL fs l ps) s') (λU U=>False) s:=by
 intro _ _ hS
 induction hS with
 | nil=>
  intro l vs ps s J r ns
  cases r with
  | nil=>exact assignInOrder_nil ⟨ps,rfl,J,.refl ..⟩
  | cons r rs=>exact absurd rfl ns
 | @cons t f ts fs x hs q ih=>
  intro l vs ps s J r ns
  cases r with
  | nil=>exact absurd rfl ns
  | cons r rs=>
   rename_i p v l vs
   have ns':ac (f p) (λU=>aL fs l) ps≠.stuck:=ns
   have eq:aL (f::fs) (p::l) ps=ac (f p) (λU=>aL fs l) ps:=rfl
   rw [hs,eq]
   refine assignInOrder_cons (aX (x A V ps s p v C J r (Ac ns')) (λU c0 z=>?_) λU U z=>z.elim)
   obtain ⟨o0,u0,o5,i4⟩:=z
   rw [Ab u0] at ns' ⊢
   refine aX (ih l vs o0 c0 o5 (RepL.stays J.inv.lists i4 (prefix_refl _) C.fm.frsAv C.fm.ownAv rs) ns') (λU w0 z=>?_) λU U z=>z
   obtain ⟨Y1,Z0,W5,j5⟩:=z
   exact ⟨Y1,Z0,W5,i4.trans j5 λa m q=>absurd m q⟩
theorem U5 {l:List PV}{v:Value}(r:W.rep fm V h (.tup l) v):∃ a vs,v = .ref a/\IsTup h a vs.toArray/\RepL W.H W.h₀ fm.av V h l vs:=by
 obtain ⟨_,_,rfl,_,hi,rs⟩:=r.inv
 exact ⟨_,_,rfl,hi,rs⟩
theorem Inv.extBut (J:InvS W fm V ps s)(he:ExtBut s.heap.objs.size s.heap h'):InvS W fm V ps { s with heap:=h' }/\∀ b o,s.heap.get? b=some o->h'.get? b=some o:=by
 have k:∀ b o,s.heap.get? b=some o->h'.get? b=some o:=λb o e=>he b o (λq=>by rw [q,AH] at e;cases e) e
 exact ⟨⟨J.inv.keeps k,J.gens,J.os⟩,k⟩
set_option tactic.hygienic true in
theorem Hr {fs:List (PV->M Unit)}{p:PV}{v:Value}(C:Ctx W fm n A)(hh:fm.hdl=none)(J:InvS W fm V ps s)(r:W.rep fm V s.heap p v)(ns:aH fs p ps≠.stuck){Q:List Value->Shared->Prop}{E:Value->Shared->Prop}
  (hQ:∀ l vs h',aH fs p ps=aL fs l ps->l.length=fs.length->InvS W fm V ps { s with heap:=h' }->(∀ b o,s.heap.get? b=some o->h'.get? b=some o)->RepL W.H W.h₀ fm.av V h' l vs->Q vs { s with heap:=h' }):wpAny W.m A (unpackItems v fs.length none) Q E s:=by
 have hA:A.handled=none:=C.hdl.trans hh
 cases p <;> (try exact absurd rfl ns)
 ·rename_i l
  have ns':am (l.length==fs.length) (aL fs l) ps≠.stuck:=ns
  obtain ⟨c,e⟩:=Ah ns'
  have c':l.length=fs.length:=by simpa using c
  obtain ⟨a,vs,rfl,hi,rs⟩:=U5 r
  have:fs.length=vs.toArray.size:=by rw [size_toArray,<- rs.length,c']
  rw [this]
  refine unpackItems_tuple hA hi λh' he=>?_
  obtain ⟨J',k⟩:=Inv.extBut J he
  exact hQ l vs h' e c' J' k (rs.keeps k (prefix_refl _))
 ·rename_i i
  have ns':ac (aq i) (λl=>am (l.length==fs.length) (aL fs l)) ps≠.stuck:=ns
  obtain ⟨l,e1,e2⟩:=A5 (Ac ns')
  have e3:aH fs (.lst i) ps=am (l.length==fs.length) (aL fs l) ps:=Ab e2
  rw [Ab e2] at ns'
  obtain ⟨c,e⟩:=Ah ns'
  have c':l.length=fs.length:=by simpa using c
  obtain ⟨a,vs,rfl,hl,rs⟩:=DI J r e1
  have:fs.length=vs.toArray.size:=by rw [size_toArray,<- rs.length,c']
  rw [this]
  refine F6 hA hl λh' he=>?_
  obtain ⟨J',k⟩:=Inv.extBut J he
  exact hQ l vs h' (e3.trans e) c' J' k (rs.keeps k (prefix_refl _))
theorem Hs {ts:List Expr}{fs:List (PV->M Unit)}{k:Nat}{pos:Pos}(hh:fm.hdl=none)(q:SimGs W n fm ts fs):SimG W n fm (.Tuple ts k pos) (aH fs):=.mk λA V ps s p v C J r ns=>by
 obtain ⟨p1,p2⟩:=q.plain fm.env
 rw [PyProof.Rows.assign_Tuple]
 refine bj (wpAny_standAt ?_)
 unfold unpack
 rw [p1,p2]
 refine bj (bh (Hr C hh J r ns λl vs h' e c J' k rs=>?_))
 rw [e] at ns ⊢
 refine aX (S5 C q l vs ps _ J' rs ns) (λU c0 z=>?_) λU U z=>z
 obtain ⟨o0,u0,o5,i4⟩:=z
 exact ⟨o0,u0,o5,(Rel.of_keeps k).trans i4 λa m q=>absurd m q⟩
theorem Ea {ts:List Expr}{fs:List (PV->M Unit)}{k:Nat}{tpos pos:Pos}{v:Expr}{m:M PV}(hh:fm.hdl=none)(q:SimGs W n fm ts fs)(hv:SimE W n fm v m)
  (hs:∀ env,swapsWithSole [.Tuple ts k tpos] v pos.line env=pure false) (hw:∀ env,swappedStores [.Tuple ts k tpos] v env=pure none) :
  SimT W n fm (.Assign [.Tuple ts k tpos] v pos) (ac m λa=>ac (aH fs a) λU=>ae .next):=.mk λA V ps s C J ns=>by
 refine Assign_Tuple (Af.seq (hv A V ps s C J (Ac ns)) (λa va α₁ o0 c0 o5 d0 l0 ra u0=>?_) λx c0 q=>q.toS.bind) (hs _) (hw _)
 rw [Ab u0] at ns ⊢
 refine aX (Hs hh q A α₁ o0 c0 a va C o5 ra (Ac ns)) (λU w0 z=>?_) λU U z=>z.elim
 obtain ⟨Y1,Z0,W5,j5⟩:=z
 rw [Ab Z0]
 exact OkS.after ⟨.next,Y1,α₁,rfl,W5,.refl ..,j5,.next⟩ d0 l0.up
set_option backward.match.sparseCases true in
theorem IJ {t:Expr}{I:Addr}{v:Value}{o:Obj}{vs:Array Value}{c:String}(ho:s.heap.get? I=some o)(hd:o.data = .fields vs)(hc:o.cls = .type c)(hw:c∈B5){Q:Unit->Shared->Prop}{E:Value->Shared->Prop}(h:Q () s):wpAny W.m A (letOwnedTupleGo t (.ref I) v) Q E s:=by
 have key:∀ a,(["enumerate", "zip", "dict_itemiterator", "dict_reverseitemiterator", "odict_iterator", "itertools.zip_longest", "itertools.pairwise"].contains c&&vs[0]?==some (rawInt a))=false:=λa=>by
  have:["enumerate", "zip", "dict_itemiterator", "dict_reverseitemiterator", "odict_iterator", "itertools.zip_longest", "itertools.pairwise"].contains c=false:=by
   simp only [B5,mem_cons,not_mem_nil,or_false] at hw
   rcases hw with rfl | rfl | rfl | rfl <;> decide
  rw [this];rfl
 have go:∀ a,wpAny W.m A (do
   let o <- load I
   match o.cls,o.data with
   | .type n,.fields vs=>
    if ["enumerate", "zip", "dict_itemiterator", "dict_reverseitemiterator", "odict_iterator", "itertools.zip_longest", "itertools.pairwise"].contains n&&vs[0]?==some (rawInt a) then do
     rule "for.unpacks-the-owned-tuple"
     updateField I 0 .none
    else pure ()
   | _,_=>pure ():Sem Unit) Q E s:=λa=>by
  refine bj (wpAny_load ho ?_)
  rw [hc,hd]
  dsimp only
  rw [if_neg (by rw [key a];exact Bool.false_ne_true)]
  exact bk h
 have two:wpAny W.m A (letOwnedTupleGo (.Tuple [] default default) (.ref I) v) Q E s:=by cases v <;> first | exact bk h | exact go _
 cases t <;> first | exact bk h | exact two
theorem ItOk.notMem {get:Nat->M (Option PV)}{St:Nat->Heap->Prop}{k:Nat}(q:ItOk W fm V I get St)(F:FmOk W.h₀ fm)(J:InvS W fm α₁ ps s)(st:St k s.heap)(nav:I∉fm.av):I∉frs fm.stk/\I∉fm.own/\I∉α₁:=by
 refine ⟨λm=>nav (F.frsAv _ m),λm=>nav (F.ownAv _ m),λm=>?_⟩
 obtain ⟨o,vs,e,d,_⟩:=q.flds _ _ st
 obtain ⟨ws,o',e',_,k,d'⟩:=J.inv.lists.isList m
 rw [e] at e';cases e'
 rw [d] at d';cases d'
theorem ItOk.kept {get:Nat->M (Option PV)}{St:Nat->Heap->Prop}{k:Nat}(q:ItOk W fm W1 I get St)(F:FmOk W.h₀ fm)(J:InvS W fm α₁ ps s)(st:St k s.heap)(nav:I∉fm.av){own:List Addr}(ho:∀ b∈own,b∈fm.own)(R:Rel fm.stk own α₁ s.heap h'):St k h':=by
 obtain ⟨n1,n2,n3⟩:=q.notMem F J st nav
 exact q.stay k _ _ st λo e=>R.keep I o e n1 (λm=>n2 (ho _ m)) n3
theorem ItOk.turned {get:Nat->M (Option PV)}{St:Nat->Heap->Prop}{k:Nat}(q:ItOk W fm W1 I get St)(F:FmOk W.h₀ fm)(J:InvS W fm α₁ ps s)(st:St k s.heap)(nav:I∉fm.av)(nb:W.h₀.get? I=none)
  {tk:Nat} (kk:∀ b ob,b≠I->s.heap.get? b=some ob->h'.get? b=some ob):InvS W fm α₁ ps { s with heap:=h',toks:=tk }:=by
 obtain ⟨o,vs,e,d,hc⟩:=q.flds _ _ st
 refine ⟨J.inv.turn0 F (Turn0.one J.inv.frames ⟨o,vs,e,d,hc⟩ kk) (λb m mm=>?_) (λb m=>?_),J.gens,J.os⟩
 ·rw [mem_singleton.mp m] at mm;exact absurd mm nav
 ·rw [mem_singleton.mp m];exact nb
theorem B6 {t it:Expr}{b:List Stmt}{pos:Pos}{mi:M (Nat->M (Option PV))}{mt:PV->M Unit}{mb:M PFlow}(hh:fm.hdl=none)(hi:SimI W n fm it mi)(hg:SimG W n fm t mt)(hb:SimS W n fm b mb)(hs:∀ env x,foldedSetIterable it env x=pure x)(K:Nat) :
  SimT W n fm (.For t it b [] pos) (ac mi λget=>aE get mt mb K 0):=.mk λA V ps s C J ns=>by
 have hs0:=J.none
 have hA:A.handled=none:=C.hdl.trans hh
 refine wpAny_For (aX (hi A V ps s C J (Ac ns)) (λx c0 z=>aX z (λiv w0 z=>?_) λx w0 z=>z.toS.bind) λx w0 z=>z.toS.bind) (hs _)
 obtain ⟨get,Y1,X0,I,St,Z0,rfl,W5,y0,W0,fresh,nav,it,st⟩:=z
 have nb:W.h₀.get? I=none:=hs0 _ fresh
 rw [Ab Z0] at ns ⊢
 generalize hR:aE get mt mb K 0 Y1=R0 at ns ⊢
 refine codeAny_mono (R:=Js W fm V s.heap R0) ?_ λr s' q=>?_
 ·refine codeAny_forLoop_any (λk s'=>∃ j ps' α',R0=aE get mt mb k j ps'/\InvS W fm α' ps' s'/\Grow V α' s.heap/\Rel fm.stk fm.own V s.heap s'.heap/\X0 <+: α'/\St j s'.heap) ?_ K ⟨0,Y1,X0,hR.symm,W5,y0,W0.up,prefix_refl _,st⟩
  rintro k c0 ⟨j,o0,α₁,u0,o5,d0,l0,Z6,b7⟩
  cases k with
  | zero=>exact absurd u0 ns
  | succ k=>
   have eq:R0=ac (get j) (λo=>match o with
    | none=>ae .next
    | some p=>ac (mt p) λU=>ac mb λfl=>match fl with
     | .next=>aE get mt mb k (j+1)
     | .cont=>aE get mt mb k (j+1)
     | .brk=>ae .next
     | .ret v=>ae (.ret v)) o0:=u0
   refine it.next fm A α₁ o0 c0 j _ _ hA Z6 C.fm o5 b7 (Ac (eq▸ns)) λo r h' tk eo kk rr=>?_
   rw [Ab eo] at eq
   have J1':InvS W fm α₁ o0 { c0 with heap:=h',toks:=tk }:=it.turned C.fm o5 b7 nav nb kk
   have x1':Rel fm.stk fm.own V s.heap h':=by
    obtain ⟨ob,vs,eI,dI,hcl⟩:=it.flds _ _ b7
    exact l0.turn0 (Turn0.one o5.inv.frames ⟨ob,vs,eI,dI,hcl⟩ kk) λb m=>by rw [mem_singleton.mp m];exact fresh
   cases o with
   | none=>
    cases r with
    | some _=>exact rr.elim
    | none=>exact wpAny_execs_nil ⟨.next,o0,α₁,eq,J1',d0,x1',.next⟩
   | some p=>
    cases r with
    | none=>exact rr.elim
    | some v=>
    obtain ⟨rp,st2⟩:=rr
    obtain ⟨ob,vs,eI,dI,c,hc,hw⟩:=it.flds _ _ st2
    refine IJ (s:={ c0 with heap:=h',toks:=tk }) eI dI hc hw ?_
    have eq2:R0=ac (mt p) (λU=>ac mb λfl=>match fl with
     | .next=>aE get mt mb k (j+1)
     | .cont=>aE get mt mb k (j+1)
     | .brk=>ae .next
     | .ret v=>ae (.ret v)) o0:=eq
    refine aX (hg A α₁ o0 { c0 with heap:=h',toks:=tk } p v C J1' rp (Ac (eq2▸ns))) (λU w3 z=>?_) λU U z=>z.elim
    obtain ⟨j4,Y3,s7,v4⟩:=z
    rw [Ab Y3] at eq2
    have st3:St (j+1) w3.heap:=it.kept C.fm J1' st2 nav (λU q=>q) v4
    have x3:Rel fm.stk fm.own V s.heap w3.heap:=x1'.trans v4 d0.new
    refine aX (hb A α₁ j4 w3 C s7 (Ac (eq2▸ns))) (λf w4 z=>?_) λx w4 z=>Fz C hs0 (ExS.after (eq2▸z.bind) d0 x3)
    obtain ⟨f,u5,v5,X5,v6,y4,X4,rf⟩:=z
    rw [Ab X5] at eq2
    have g4:=d0.trans y4 x3
    have x4:=x3.trans X4 d0.new
    have st4:St (j+1) w4.heap:=it.kept C.fm s7 st3 nav (λU q=>q) X4
    cases rf with
    | next=>exact ⟨k,bp k,j+1,u5,v5,eq2,v6,g4,x4,Z6.trans y4.pre,st4⟩
    | cont=>exact ⟨k,bp k,j+1,u5,v5,eq2,v6,g4,x4,Z6.trans y4.pre,st4⟩
    | brk=>exact ⟨.next,u5,v5,eq2,v6,g4,x4,.next⟩
    | ret r=>exact ⟨.ret _,u5,v5,eq2,v6,g4,x4,.ret r⟩
 ·cases r with
  | ok f=>exact q
  | error x=>exact GV C hs0 q
end
structure Fi where
 scope:Scope
 body:List Stmt
 params:List Str
 sc:List (Str × NameKind × Nat)
structure Fi.Ok (fi:Fi):Prop where
 kind:fi.scope.kind = .function
 co:fi.scope.isCoroutine=false
 gen:fi.scope.isGenerator=false
 kinds:∀ x k i,(x,k,i)∈fi.sc->fi.scope.names.lookup x=some k
 once:∀ x k i y k' j,(x,k,i)∈fi.sc->(y,k',j)∈fi.sc->(i=j↔x=y)
 nodup:fi.params.Nodup
 parK:∀ p∈fi.params,fi.scope.names.lookup p=some .local\/fi.scope.names.lookup p=some .cell
 parI:∀ x k i,(x,k,i)∈fi.sc->k = .local\/k = .cell->∀ j,fi.params[j]? = some x↔(i=j/\j<fi.params.length)
 noFree:∀ x k i,(x,k,i)∈fi.sc->k≠.free
structure FnAt (h:Heap)(a:Addr)(fd:FuncData)(fi:Fi):Prop where
 obj:∃ o,h.get? a=some o/\o.data = .func fd
 scope:fd.scope=fi.scope
 body:fd.body = .stmts fi.body
 clo:fd.closure=[]
 glob:fd.globals=mainGlobals
 bi:fd.builtins=builtinsNs
 code:h.CodeRec fd.code fd.qualname
section
variable {W:Wd}{fm:Fm}{V α' α₁ W1:List Addr}{h h' h₁ start:Heap}{n:Nat}{A:Around}{ps ps':PS}{s s':Shared}{H:Hd}{h₀:Heap}{own av av':List Addr}{e:PX}{x:Value}{I:Addr}
theorem KK (k:∀ a∈av,a∈av'):(∀ {p:PV} {v:Value},RepV H h₀ av' V h p v->RepV H h₀ av V h p v)/\∀ {l:List PV} {vs:List Value},RepL H h₀ av' V h l vs->RepL H h₀ av V h l vs:=
 DH (λa vs ha hi=>⟨λq=>ha (k _ q),hi⟩) (λi a hi=>hi) λa o es ep ha ho hx hd=>⟨λq=>ha (k _ q),ho⟩
theorem RepV.weak (k:∀ a∈av,a∈av'){p:PV}{v:Value}(x:RepV H h₀ av' V h p v):RepV H h₀ av V h p v:=(KK k).1 x
theorem RepL.weak (k:∀ a∈av,a∈av'){l:List PV}{vs:List Value}(x:RepL H h₀ av' V h l vs):RepL H h₀ av V h l vs:=(KK k).2 x
theorem Ht (k:∀ a∈av',a∈av\/h.get? a=Option.none):(∀ {p:PV} {v:Value},RepV H h₀ av V h p v->RepV H h₀ av' V h p v)/\∀ {l:List PV} {vs:List Value},RepL H h₀ av V h l vs->RepL H h₀ av' V h l vs:=by
 have k':∀ a o,a∉av->h.get? a=some o->a∉av':=λa o ha e q=>(k a q).elim ha λz=>nomatch z.symm.trans e
 exact DH (λa vs ha hi=>⟨k' a _ ha hi.choose_spec.1,hi⟩) (λi a hi=>hi) λa o es ep ha ho hx hd=>⟨k' a o ha ho,ho⟩
theorem RepV.strong (k:∀ a∈av',a∈av\/h.get? a=Option.none){p:PV}{v:Value}(x:RepV H h₀ av V h p v):RepV H h₀ av' V h p v:=(Ht k).1 x
theorem RepL.strong (k:∀ a∈av',a∈av\/h.get? a=none){l:List PV}{vs:List Value}(x:RepL H h₀ av V h l vs):RepL H h₀ av' V h l vs:=(Ht k).2 x
theorem Inv.carry (F:FmOk h₀ fm)(I:Inv H h₀ fm V ps h)(R:Rel fm.stk fm.tab V h h'){st':List (List PV)}(L':ListsAt H h₀ fm.av α' st' h')(g:Grow V α' h)(fr:h'.FunFrames ⟨#[],{}⟩ fm.stk)(tb:∀ P∈fm.tab,Cv H h' P):Inv H h₀ fm α' ⟨ps.loc,st'⟩ h':=by
 have rep:=λ{p v}=>OptRep.stays (H:=H) (h₀:=h₀) (p:=p) (v:=v) I.lists R g.pre F.frsAv F.tabAv
 have at_:∀ b o,b∈fm.av->b∉fm.tab->h.get? b=some o->∃ sl,h'.get? b=some { o with slots:=sl }:=λb o m nt e=>by
  by_cases q:b∈frs fm.stk
  ·exact R.slot b o e q nt λz=>I.lists.apart b z m
  ·exact ⟨o.slots,R.keep b o e q nt λz=>I.lists.apart b z m⟩
 have nt:∀ b o,h.get? b=some o->(∀ vs,o.data≠.fields vs)->b∉fm.tab:=λb o e n m=>by
  obtain ⟨ps,e',_⟩:=I.tabs b m
  rw [e] at e';cases e';exact n ps rfl
 refine ⟨λb o e=>R.keep b o (I.base b o e) (λm=>?_) (λm=>?_) (λm=>?_),?_,?_,L',?_,fr,tb⟩
 ·rw [F.fresh b (F.frsAv b m)] at e;cases e
 ·rw [F.fresh b (F.tabAv b m)] at e;cases e
 ·rw [I.lists.fresh b m] at e;cases e
 ·obtain ⟨m,⟨o,es,ep,h1,h2,h3⟩,k⟩:=I.loc
  obtain ⟨sl,e⟩:=at_ _ _ F.locAv (nt _ _ h1 λvs q=>by rw [h2] at q;cases q) h1
  exact ⟨m,⟨_,es,ep,e,h2,h3⟩,λx i hm=>rep (k x i hm)⟩
 ·intro x k i hm hk
  obtain ⟨cc,v,h1,h2,h3,⟨o,e1,e2⟩,h5⟩:=I.cel x k i hm hk
  obtain ⟨sl,e⟩:=at_ _ _ h2 (nt _ _ e1 λvs q=>by rw [e2] at q;cases q) e1
  exact ⟨cc,v,h1,h2,h3,⟨_,e,e2⟩,rep h5⟩
 ·intro a ha
  have:=I.live a ha
  cases q:h.get? a with
  | none=>rw [q] at this;cases this
  | some o=>
   by_cases z:a∈fm.tab
   ·obtain ⟨ps,e,_⟩:=tb a z
    rw [e];rfl
   ·obtain ⟨sl,e⟩:=at_ a o ha z q;rw [e];rfl
theorem KL {B:List (Str × Value)->(Str->Option Value)->Str->Option Value}{x:Str}(h0:∀ m,B [] m x=m x)(h1:∀ p v r m,∃ m',B ((p,v)::r) m x=B r m' x/\m' x=if p=x then some v else m x):∀ (ps:List Str) (vs:List Value) (m:Str->Option Value),ps.Nodup->ps.length=vs.length->∀ (i:Nat) (b:Bool),(∀ j,ps[j]? = some x↔(i=j/\b=true)) ->
  B (ps.zip vs) m x=if b then vs[i]? else m x:=by
 intro ps
 induction ps with
 | nil=>
  intro vs m _ _ i b hi
  cases b with
  | false=>exact h0 m
  | true=>have:=(hi i).mpr ⟨rfl,rfl⟩;injection this
 | cons p ps ih=>
  intro vs m nd hl i b hi
  cases vs with
  | nil=>injection hl
  | cons v vs=>
   have nd':=nodup_cons.mp nd
   have hl:=Nat.succ.inj hl
   obtain ⟨m',e,em⟩:=h1 p v (ps.zip vs) m
   refine Eq.trans e ?_
   by_cases q:p=x
   ·subst q
    obtain ⟨rfl,rfl⟩:=(hi 0).mp rfl
    rw [ih vs m' nd'.2 hl 0 false λj=>⟨λe=>absurd (mem_of_getElem? e) nd'.1,λe=>(by have:=e.2;cases this)⟩]
    exact em.trans (if_pos rfl)
   ·rw [if_neg q] at em
    cases b with
    | false=>
     rw [ih vs m' nd'.2 hl i false λj=>⟨λe=>(by have:=((hi (j+1)).mp e).2;cases this),λe=>(by have:=e.2;cases this)⟩]
     exact em
    | true=>
     cases i with
     | zero=>exact absurd (aU ((hi 0).mpr ⟨rfl,rfl⟩)) q
     | succ i=>exact ih vs m' nd'.2 hl i true λj=>⟨λe=>⟨Nat.succ.inj ((hi (j+1)).mp e).1,rfl⟩,λe=>(hi (j+1)).mpr ⟨congrArg Nat.succ e.1,rfl⟩⟩
theorem Oz (kindOf:Str->Option NameKind){x:Str}(hx:kindOf x=some .local):∀ (ps:List Str) (vs:List Value) (m:Str->Option Value),ps.Nodup->ps.length=vs.length->∀ (i:Nat) (b:Bool),(∀ j,ps[j]? = some x↔(i=j/\b=true)) ->
  bindL kindOf (ps.zip vs) m x=if b then vs[i]? else m x:=
 KL (B:=bindL kindOf) (λU=>rfl) λp v r m=>⟨_,rfl,by
  by_cases q:p=x
  ·subst q;rw [if_pos hx,if_pos rfl]
  ·rw [if_neg q];split
   ·exact if_neg (Ne.symm q)
   ·rfl⟩
theorem OA (kindOf:Str->Option NameKind){x:Str}(hx:kindOf x≠some .local):∀ (ps:List Str) (vs:List Value) (m:Str->Option Value),ps.Nodup->ps.length=vs.length->∀ (i:Nat) (b:Bool),(∀ j,ps[j]? = some x↔(i=j/\b=true)) ->
  bindC kindOf (ps.zip vs) m x=if b then vs[i]? else m x:=
 KL (B:=bindC kindOf) (λU=>rfl) λp v r m=>⟨_,rfl,by
  by_cases q:p=x
  ·subst q;rw [if_neg hx,if_pos rfl]
  ·rw [if_neg q];split
   ·rfl
   ·exact if_neg (Ne.symm q)⟩
set_option tactic.hygienic true in
theorem Cq {x:Str}(names:List (Str × NameKind)):∀ (k:Nat) (acc:List (Str × Addr)),names.lookup x=some .cell\/(acc.lookup x).isSome=true->((cellsFrom k names acc).lookup x).isSome=true:=by
 induction names with
 | nil=>
  intro k acc h
  rcases h with h | h
  ·cases h
  ·exact h
 | cons p r ih=>
  obtain ⟨y,kd⟩:=p
  intro k acc h
  unfold cellsFrom
  split
  ·refine ih _ _ ?_
   by_cases q:x=y
   ·subst q;right;simp
   ·rcases h with h | h
    ·left;rw [lookup_cons,show (x==y)=false from by simpa using q] at h;exact h
    ·right;rw [lookup_cons,show (x==y)=false from by simpa using q];exact h
  ·rename_i nk
   refine ih _ _ ?_
   by_cases q:x=y
   ·subst q
    rcases h with h | h
    ·simp at h;exact absurd (by rw [h];rfl) nk
    ·exact .inr h
   ·rcases h with h | h
    ·left;rw [lookup_cons,show (x==y)=false from by simpa using q] at h;exact h
    ·exact .inr h
end
def Bn (fd:FuncData)(fi:Fi)(L a:Addr):Env:=newEnv fi.scope L mainGlobals (cellsFrom (L+1) fi.scope.names []) (fd.qualname++".<locals>.") (some a) fd.code none builtinsNs
def Ev (cs:List (Str × Addr)):List Addr:=cs.filterMap λp=>cs.lookup p.1
theorem Cr {cs:List (Str × Addr)}{c:Addr}:c∈Ev cs↔∃ y,cs.lookup y=some c:=by
 unfold Ev
 rw [List.mem_filterMap]
 constructor
 ·rintro ⟨p,_,e⟩;exact ⟨p.1,e⟩
 ·rintro ⟨y,e⟩;exact ⟨(y,c),mem_of_lookup e,e⟩
def AT (fm:Fm)(fd:FuncData)(fi:Fi)(L a:Addr):Fm:=
 { env:=Bn fd fi L a,stk:=Bn fd fi L a::fm.stk,av:=L::Ev (cellsFrom (L+1) fi.scope.names [])++fm.av,own0:=L::Ev (cellsFrom (L+1) fi.scope.names []),tab:=fm.tab,sc:=fi.sc,hdl:=fm.hdl }
section
variable {W:Wd}{fm:Fm}{V α' α₁ W1:List Addr}{h h' h₁ start:Heap}{n:Nat}{A:Around}{ps ps':PS}{s s' c0:Shared}{H:Hd}{h₀:Heap}{own av av':List Addr}{e:PX}{x:Value}{fd:FuncData}{fi:Fi}{a:Addr}{vs:List Value}{l:List PV}
theorem InvS.free (I:InvS W fm V ps s){c:Addr}(hc:s.heap.objs.size<=c):s.heap.get? c=Option.none/\W.h₀.get? c=Option.none/\c∉fm.av:=by
 have h1:s.heap.get? c=Option.none:=Heap.get?_none_of_le hc
 refine ⟨h1,I.none c h1,λm=>?_⟩
 have:=I.inv.live c m
 rw [h1] at this;cases this
theorem F7 (X:InCallC s s.heap.objs.size m (cellsFrom (s.heap.objs.size+1) fi.scope.names []) cm c0):∀ b∈(AT fm fd fi s.heap.objs.size a).own0,s.heap.objs.size<=b:=by
 intro b hb
 rcases mem_cons.mp hb with q | q
 ·rw [q];exact aR _
 ·obtain ⟨y,hy⟩:=Cr.mp q
  exact br (X.above y b (mem_of_lookup hy))
theorem Hu (t1:∀ b∈fm.tab,b∈fm.av)(t2:∀ b∈frs fm.stk,b∈fm.av)(t3:∀ b∈fm.av,W.h₀.get? b=none)(I:InvS W fm V ps s)(ok:fi.Ok)
  (X:InCallC s s.heap.objs.size m (cellsFrom (s.heap.objs.size+1) fi.scope.names []) cm c0):FmOk W.h₀ (AT fm fd fi s.heap.objs.size a) where
 kind:=ok.kind
 glob:=rfl
 bi:=rfl
 locAv:=mem_cons_self ..
 locOwn:=mem_append_right _ (mem_cons_self ..)
 ownAv:=λb m=>by
  rcases mem_append.mp m with m | m
  ·exact mem_append_right _ (t1 b m)
  ·exact mem_append_left _ m
 frsAv:=λb m=>by
  rcases mem_cons.mp (show b∈s.heap.objs.size::frs fm.stk from m) with q | q
  ·rw [q];exact mem_append_left _ (mem_cons_self ..)
  ·exact mem_append_right _ (t2 b q)
 fresh:=λb m=>by
  rcases mem_append.mp m with q | q
  ·exact (I.free (F7 (fm:=fm) (fd:=fd) (a:=a) X b q)).2.1
  ·exact t3 b q
 kinds:=λx k i h=>.inl (ok.kinds x k i h)
 once:=ok.once
 cellOwn:=λx i c hm hc=>mem_append_right _ (mem_cons_of_mem _ (Cr.mpr ⟨x,hc⟩))
 cellApart:=λx k i y k' j c h1 h2 h3 h4=>name_of_addr X.apart (mem_of_lookup h3) (mem_of_lookup h4)
 frame:=⟨_,_,rfl,rfl,rfl⟩
theorem IK (F:FmOk W.h₀ fm)(I:InvS W fm V ps s)(ok:fi.Ok)
  (X:InCallC s s.heap.objs.size m (cellsFrom (s.heap.objs.size+1) fi.scope.names []) cm c0):FmOk W.h₀ (AT fm fd fi s.heap.objs.size a):=Hu F.tabAv F.frsAv F.fresh I ok X
theorem E0 (I:InvS W fm V ps s)(ok:fi.Ok)(hl:fi.params.length=vs.length)(rl:RepL W.H W.h₀ fm.av V s.heap l vs)
  (X:InCallC s s.heap.objs.size (bindL (Bn fd fi s.heap.objs.size a).kindOf (fi.params.zip vs) λU=>none) (cellsFrom (s.heap.objs.size+1) fi.scope.names []) (bindC (Bn fd fi s.heap.objs.size a).kindOf (fi.params.zip vs) λU=>none) c0) :
  InvS W (AT fm fd fi s.heap.objs.size a) V ⟨λi=>l[i]?,ps.st⟩ c0:=by
 have kp:=X.toInCall.keep
 obtain ⟨Y2,tk,rfl⟩:=X.toInCall.same
 have fr:∀ b∈(AT fm fd fi s.heap.objs.size a).av,b∈fm.av\/s.heap.get? b=none:=λb m=>by
  rcases mem_append.mp m with q | q
  ·exact .inr (I.free (F7 (fm:=fm) (fd:=fd) (a:=a) X b q)).1
  ·exact .inl q
 have rl':RepL W.H W.h₀ (AT fm fd fi s.heap.objs.size a).av V Y2 l vs:=(rl.strong fr).keeps kp (prefix_refl _)
 have arg:∀ i:Nat,OptRep W.H W.h₀ (AT fm fd fi s.heap.objs.size a).av V Y2 (l[i]?) (vs[i]?):=λ(i:Nat)=>by
  cases q:(l[i]?) with
  | none=>
   rw [List.getElem?_eq_none_iff] at q
   rw [List.getElem?_eq_none_iff.mpr (by rw [<- rl.length];exact q)];exact .none
  | some p=>obtain ⟨v,hv,r⟩:=rl'.get i p q;rw [hv];exact .some r
 have argN:∀ i:Nat,¬ i<fi.params.length->l[i]? = none:=λ(i:Nat) q=>bq.mpr (by rw [rl.length,<- hl];exact la [_,_] [([2],[4])] ([2],[4]) rfl (Nat.not_lt.mp q))
 have par:∀ x k i,(x,k,i)∈fi.sc->k = .local\/k = .cell->∀ j,fi.params[j]? = some x↔(i=j/\decide (i<fi.params.length)=true):=λx k i hm hk j=>by
  rw [ok.parI x k i hm hk j]
  constructor
  ·rintro ⟨rfl,q⟩;exact ⟨rfl,by simpa using q⟩
  ·rintro ⟨rfl,q⟩;exact ⟨rfl,by simpa using q⟩
 refine ⟨⟨λb o e=>kp b o (I.inv.base b o e),⟨_,X.toInCall.ns,λx i hm=>?_⟩,λx k i hm hk=>?_,⟨I.inv.lists.len,λi li e=>?_,I.inv.lists.nodup,I.inv.lists.fresh,λb m q=>?_⟩,λb m=>?_,?_,λP hP=>(I.inv.tabs P hP).keeps kp⟩,I.gens,I.os⟩
 ·rw [Oz _ (ok.kinds x _ i hm) _ _ _ ok.nodup hl i (decide (i<fi.params.length)) (par x _ i hm (.inl rfl))]
  show OptRep _ _ _ _ _ l[i]? _
  by_cases q:i<fi.params.length
  ·simp only [q,decide_true,if_true];exact arg i
  ·simp only [q,decide_false,false_eq_true,if_false];rw [argN i q];exact .none
 ·have hk:k = .cell:=hk.resolve_right (ok.noFree x k i hm)
  subst hk
  obtain ⟨c,hc⟩:=be.mp (Cq (x:=x) fi.scope.names (s.heap.objs.size+1) [] (.inl (ok.kinds x _ i hm)))
  have kd:(Bn fd fi s.heap.objs.size a).kindOf x≠some .local:=by
   show fi.scope.names.lookup x≠_
   rw [ok.kinds x _ i hm];decide
  refine ⟨c,_,hc,mem_append_left _ (mem_cons_of_mem _ (Cr.mpr ⟨x,hc⟩)),Nat.ne_of_gt (X.above x c (mem_of_lookup hc)),X.cell x c hc,?_⟩
  rw [OA _ kd _ _ _ ok.nodup hl i (decide (i<fi.params.length)) (par x _ i hm (.inr rfl))]
  show OptRep _ _ _ _ _ l[i]? _
  by_cases q:i<fi.params.length
  ·simp only [q,decide_true,if_true];exact arg i
  ·simp only [q,decide_false,false_eq_true,if_false];rw [argN i q];exact .none
 ·obtain ⟨b,ws,h1,⟨k,e1⟩,h3⟩:=I.inv.lists.at_ i li e
  exact ⟨b,ws,h1,⟨k,kp _ _ e1⟩,(h3.strong fr).keeps kp (prefix_refl _)⟩
 ·obtain ⟨ws,o,e1,_⟩:=I.inv.lists.isList m
  rcases fr b q with z | z
  ·exact I.inv.lists.apart b m z
  ·rw [z] at e1;cases e1
 ·rcases mem_append.mp m with q | q
  ·rcases mem_cons.mp q with q | q
   ·obtain ⟨o,es,ep,e1,_⟩:=X.toInCall.ns
    rw [q,e1];rfl
   ·obtain ⟨y,hy⟩:=Cr.mp q
    obtain ⟨o,e1,_⟩:=X.cell y b hy
    rw [e1];rfl
  ·have:=I.inv.live b q
   cases z:s.heap.get? b with
   | none=>rw [z] at this;cases this
   | some o=>rw [kp b o z];rfl
 ·obtain ⟨o,es,ep,e1,e2,_⟩:=X.toInCall.ns
  refine ⟨by show fi.scope.kind≠_;rw [ok.kind];decide,⟨_,o,rfl,rfl,e1,λvs q=>by rw [e2] at q;cases q⟩,?_⟩
  exact I.inv.frames.of_keeps λb o e U=>⟨o,kp b o e,rfl⟩
theorem Da (F:FmOk W.h₀ fm)(I:InvS W fm V ps s)(X:InCallC s s.heap.objs.size m (cellsFrom (s.heap.objs.size+1) fi.scope.names []) cm c0)
  (I1:InvS W (AT fm fd fi s.heap.objs.size a) α' ps' s') (g:Grow V α' c0.heap) (R:Rel (AT fm fd fi s.heap.objs.size a).stk (AT fm fd fi s.heap.objs.size a).own V c0.heap s'.heap) :
  InvS W fm α' ⟨ps.loc,ps'.st⟩ s'/\Grow V α' s.heap/\Rel fm.stk fm.tab V s.heap s'.heap:=by
 have kp:=X.toInCall.keep
 have av:∀ b,b∈fm.av->b∈(AT fm fd fi s.heap.objs.size a).av:=λb m=>mem_append_right _ m
 have nown:∀ b o,s.heap.get? b=some o->b∉fm.tab->b∉(AT fm fd fi s.heap.objs.size a).own:=λb o e nt m=>by
  have m:=(mem_append.mp m).resolve_left nt
  have:=(I.free (F7 (fm:=fm) (fd:=fd) (a:=a) X b m)).1
  rw [this] at e;cases e
 have none':∀ b,c0.heap.get? b=none->s.heap.get? b=none:=λb e=>by
  cases q:s.heap.get? b with
  | none=>rfl
  | some o=>rw [kp b o q] at e;cases e
 have nL:∀ b o,s.heap.get? b=some o->b≠s.heap.objs.size:=λb o e q=>by rw [q,AH] at e;cases e
 have Rr:Rel fm.stk fm.tab V s.heap s'.heap:=by
  refine ⟨λb o e h1 h2 h3=>R.keep b o (kp b o e) (λm=>?_) (nown b o e h2) h3,λb o e h1 h2 h3=>R.slot b o (kp b o e) (mem_cons_of_mem _ h1) (nown b o e h2) h3,λb e=>none' b (R.live b e)⟩
  rcases mem_cons.mp (show b∈s.heap.objs.size::frs fm.stk from m) with q | q
  ·exact nL b o e q
  ·exact h1 q
 have g':Grow V α' s.heap:=⟨g.pre,λb m q=>none' b (g.new b m q)⟩
 refine ⟨⟨I.inv.carry F Rr ⟨I1.inv.lists.len,λi li e=>?_,I1.inv.lists.nodup,I1.inv.lists.fresh,λb m q=>I1.inv.lists.apart b m (av b q)⟩ g' I1.inv.frames.2.2 I1.inv.tabs,I1.gens,I1.os⟩,g',Rr⟩
 obtain ⟨b,ws,h1,h2,h3⟩:=I1.inv.lists.at_ i li e
 exact ⟨b,ws,h1,h2,h3.weak av⟩
theorem S7 {m:M PFlow}(h:m ⟨λi=>l[i]?,ps.st⟩ = .ok f ps'):ao m l ps = .ok (P9 f) ⟨ps.loc,ps'.st⟩:=by
 unfold ao;rw [h]
theorem S8 {m:M PFlow}(h:m ⟨λi=>l[i]?,ps.st⟩ = .ex e ps'):ao m l ps = .ex e ⟨ps.loc,ps'.st⟩:=by
 unfold ao;rw [h]
theorem S9 {m:M PFlow}(h:ao m l ps≠.stuck):m ⟨λi=>l[i]?,ps.st⟩≠.stuck:=by
 intro e;unfold ao at h;rw [e] at h;exact h rfl
theorem Jt {m:M PFlow}{pos:List Value}{kw:List (Str × Value)}(C:Ctx W fm (n+1) A)(I:InvS W fm V ps s)(Fa:FnAt s.heap a fd fi)(ok:fi.Ok)(hb:BindsTo s fd ⟨pos,kw⟩ (fi.params.zip vs))(hl:fi.params.length=vs.length)
  (rl:RepL W.H W.h₀ fm.av V s.heap l vs) (body:∀ fm':Fm,fm'.sc=fi.sc->fm'.env.scope=fi.scope->fm'.hdl=fm.hdl->SimS W n fm' fi.body m) (ns:ao m l ps≠.stuck) :
  Af W fm A V ps s (call (.ref a) pos kw) (ao m l):=by
 obtain ⟨⟨o,ho,hd⟩,hscope,hbody,hclo,hglob,hbi,hcode⟩:=Fa
 have lim:s.heap.NoLimit:=C.hd.lim.keeps I.inv.base
 have hdep:=C.depth
 refine wpAny_call (codeAny_call_function (by show A.depth<1000;exact la [_,_] [([2,4,3,0,0,3,0],[1981])] ([2,3,0],[2001]) rfl hdep) ho hd (by rw [hscope];exact ok.co) (by rw [hscope];exact ok.gen) hbody hcode (hb _ _ _ _ ?_))
 rw [hscope,hglob,hclo,hbi]
 refine wpAny_newFunctionEnv_cells ok.kind (λp hp=>?_) λenv he c0 X=>?_
 ·have hm:p.1∈fi.params:=(of_mem_zip (show (p.1,p.2)∈fi.params.zip vs from hp)).1
  rcases ok.parK p.1 hm with q | q
  ·exact .inl q
  ·exact .inr ⟨q,Cq _ _ _ (.inl q)⟩
 ·have he':env=Bn fd fi s.heap.objs.size a:=he
  subst he'
  refine ⟨lim.keeps X.toInCall.keep,codeAny_func ?_⟩
  have F':=IK (fd:=fd) (a:=a) C.fm I ok X
  have I':=E0 (fd:=fd) (a:=a) (ps:=ps) I ok hl rl X
  have C':Ctx W (AT fm fd fi s.heap.objs.size a) n (A.deeper (Bn fd fi s.heap.objs.size a)):=by
   refine ⟨Around.frames_deeper C.frames,?_,?_,C.hdl,C.tab,F',C.hd⟩
   ·show A.depth+1+n<990;exact la [_,_] [([2,4,3,0,0,3,0],[1981])] ([2,3,0,4,0,3,0],[1981]) rfl hdep
   ·have:=C.units
    show A.units+3+20*n+1000<cLine;lia
  have ns':=S9 ns
  refine aX (body (AT fm fd fi s.heap.objs.size a) rfl rfl rfl _ V _ c0 C' I' ns') (λf s' z=>?_) λx s' z=>?_
  ·obtain ⟨p,o0,α₁,u0,s0,d0,i4,rf⟩:=z
   obtain ⟨J,g,R⟩:=Da C.fm I X s0 d0 i4
   refine ⟨P9 p,_,α₁,S7 u0,J,g,R,?_⟩
   have av:∀ b,b∈fm.av->b∈(AT fm fd fi s.heap.objs.size a).av:=λb m=>mem_append_right _ m
   cases rf with
   | next=>exact .none
   | brk=>exact .none
   | cont=>exact .none
   | ret r=>exact RepV.weak av r
  ·obtain ⟨e,o0,α₁,u0,s0,d0,i4,i6⟩:=z
   have hs0:=I'.none
   unfold leaving
   refine bj (GU C' s0 i4 hs0 i6 λY2 w1 j5 j6=>Cg C' w1 j5 hs0 j6 _ λZ3 Z1 v4 w5=>?_)
   obtain ⟨J,g,R⟩:=Da C.fm I X Z1 d0 v4
   refine ⟨e,_,α₁,S8 u0,J,g,R,w5.raised.start λb q=>?_⟩
   cases z:s.heap.get? b with
   | none=>rfl
   | some o=>rw [X.toInCall.keep b o z] at q;cases q
end
inductive SimKw (W:Wd)(n:Nat)(fm:Fm):List Keyword->List (M PV)->Prop
 | nil:SimKw W n fm [] []
 | cons {nm:Str} {e:Expr} {p:Pos} {m:M PV} {ks:List Keyword} {ms:List (M PV)} (x:SimE W n fm e m) (t:SimKw W n fm ks ms):SimKw W n fm (⟨some nm,e,p⟩::ks) (m::ms)
def DL (ks:List Keyword):List Str:=ks.filterMap (·.arg)
section
variable {W:Wd}{fm:Fm}{V α' α₁ W1:List Addr}{h h' h₁ start:Heap}{n:Nat}{A:Around}{ps ps':PS}{s s' c0:Shared}{H:Hd}{h₀:Heap}{own av av':List Addr}{e:PX}{x:Value}{fd:FuncData}{fi:Fi}{a:Addr}{vs:List Value}{l:List PV}
theorem FnAt.keeps (F:FnAt h a fd fi)(k:∀ b o,h.get? b=some o->h'.get? b=some o):FnAt h' a fd fi:=
 ⟨let ⟨o,e,d⟩:=F.obj;⟨o,k _ _ e,d⟩,F.scope,F.body,F.clo,F.glob,F.bi,F.code.keeps k⟩
theorem FA:∀ {ms:List (M PV)} {ps:PS} {l:List PV} {ps':PS},ah ms ps = .ok l ps'->l.length=ms.length:=by
 intro ms
 induction ms with
 | nil=>
  intro ps l ps' e
  have:R.ok ([]:List PV) ps = .ok l ps':=e
  cases this;rfl
 | cons m ms ih=>
  intro ps l ps' e
  have e':ac m (λv=>ac (ah ms) λvs=>ae (v::vs)) ps = .ok l ps':=e
  unfold ac at e'
  cases q:m ps with
  | ok v p1=>
   rw [q] at e'
   simp only at e'
   cases q2:ah ms p1 with
   | ok vs p2=>
    rw [q2] at e'
    have:R.ok (v::vs) p2 = .ok l ps':=e'
    cases this
    simp [ih q2]
   | ex e p2=>rw [q2] at e';cases e'
   | stuck=>rw [q2] at e';cases e'
  | ex e p1=>rw [q] at e';cases e'
  | stuck=>rw [q] at e';cases e'
theorem SimKw.some:∀ {ks:List Keyword} {ms:List (M PV)},SimKw W n fm ks ms->∀ pos env,(backToKw pos (keywordEach ks env)).all (·.1.isSome)=true/\(backToKw pos (keywordEach ks env)).filterMap (·.1)=DL ks/\ks.length=ms.length/\(DL ks).length=ms.length:=by
 intro _ _ hS
 induction hS with
 | nil=>
  intro pos env
  exact ⟨rfl,rfl,rfl,rfl⟩
 | @cons nm e p m ks ms x t ih=>
  intro pos env
  obtain ⟨h1,h2,h3,h4⟩:=ih pos env
  refine ⟨?_,?_,by simp [h3],by simp [DL] at h4 ⊢;exact h4⟩
  ·show ((_::backToKw pos (keywordEach ks env)).all _)=true
   rw [all_cons,h1];rfl
  ·show List.filterMap _ (_::backToKw pos (keywordEach ks env))=_
   rw [filterMap_cons,h2];rfl
theorem Mb {pos:Pos}:∀ {ks:List Keyword} {ms:List (M PV)},SimKw W n fm ks ms->∀ A V ps s,Ctx W fm n A->InvS W fm V ps s->ah ms ps≠.stuck ->
  wpAny W.m A (evalAll ((backToKw pos (keywordEach ks fm.env)).map (·.2))) (OkL W fm V s.heap (ah ms ps)) (ExE W fm V s.heap (ah ms ps)) s:=by
 intro _ _ hS
 induction hS with
 | nil=>
  intro A V ps s C I ns
  exact wpAny_evalAll_nil ⟨[],ps,V,rfl,I,.refl ..,.refl ..,.nil⟩
 | @cons nm e p m ks ms q qs ih=>
  intro A V ps s C I ns
  have ns':ac m (λv=>ac (ah ms) λvs=>ae (v::vs)) ps≠.stuck:=ns
  have eq:ah (m::ms) ps=ac m (λv=>ac (ah ms) λvs=>ae (v::vs)) ps:=rfl
  rw [eq]
  refine wpAny_evalAll_cons (bj ?_)
  refine Af.seq (q A V ps s C I (Ac ns')) (λp v α₁ o0 c0 s0 d0 l0 Y0 u0=>bj (wpAny_standAt (bk ?_))) λx c0 q=>q.bind
  rw [Ab u0] at ns' ⊢
  refine aX (ih A α₁ o0 c0 C s0 (Ac ns')) (λvs w0 q=>?_) λx w0 q=>q.bind.after d0 l0
  obtain ⟨l,Y1,X0,Z0,w1,y0,W0,u4⟩:=q
  rw [Ab Z0]
  exact ⟨p::l,Y1,X0,rfl,w1,d0.trans y0 l0,l0.trans W0 d0.new,.cons (s0.stays C W0 y0 Y0) u4⟩
def EO (W:Wd)(fd:FuncData)(fi:Fi)(np:Nat)(kws:List Str)(ext:List Value):Prop:=
 fi.params.length=np+kws.length+ext.length/\∀ s vs ks,(∀ b o,W.h₀.get? b=some o->s.heap.get? b=some o)->vs.length=np->ks.length=kws.length->BindsTo s fd ⟨vs,kws.zip ks⟩ (fi.params.zip (vs++(ks++ext)))
theorem Gx {es:List Expr}{ms:List (M PV)}{pos:Pos}{m:M PFlow}{ext:List PV}{extv:List Value}(C:Ctx W fm (n+1) A)(I:InvS W fm V ps s)(q:SimL W (n+1) fm es ms)(Fa:FnAt W.h₀ a fd fi)(ok:fi.Ok)(hb:EO W fd fi ms.length [] extv)
  (hx:∀ av V h,RepL W.H W.h₀ av V h ext extv) (body:∀ fm':Fm,fm'.sc=fi.sc->fm'.env.scope=fi.scope->fm'.hdl=fm.hdl->SimS W n fm' fi.body m) (ns:ac (ah ms) (λl=>ao m (l++ext)) ps≠.stuck) :
  Af W fm A V ps s (callWith pos (.ref a) [] (backTo pos (starEach es fm.env)) (backToKw pos (keywordEach [] fm.env))) (ac (ah ms) λl=>ao m (l++ext)):=by
 obtain ⟨o,ho,hd⟩:=Fa.obj
 refine callWith_function_kw (o:=o) (fd:=fd) (A3 (q.plain _) (aX (CX q A V ps s C I (Ac ns)) (λvs c0 z=>?_) λx c0 z=>z.bind))
 obtain ⟨l,o0,α₁,u0,s0,d0,l0,Y0⟩:=z
 rw [Ab u0] at ns ⊢
 refine ⟨⟨s0.inv.base _ _ ho,hd⟩,?_⟩
 have hlen:vs.length=ms.length:=by rw [<- Y0.length,FA u0]
 have b:=hb.2 c0 vs [] s0.inv.base hlen rfl
 refine aX (Jt (l:=l++ext) (vs:=vs++extv) C s0 (Fa.keeps s0.inv.base) ok b (by rw [hb.1,length_append,hlen];simp) (Y0.append (hx _ _ _)) body ns) (λU U q=>q.after d0 l0) (λU U q=>q.after d0 l0)
theorem Qt {e:Expr}{es:List Expr}{ks:List Keyword}{ms mks:List (M PV)}{pos:Pos}{m:M PFlow}(C:Ctx W fm (n+1) A)(I:InvS W fm V ps s)(q:SimL W (n+1) fm (e::es) ms)(qk:SimKw W (n+1) fm ks mks)(Fa:FnAt W.h₀ a fd fi)(ok:fi.Ok)(hb:EO W fd fi ms.length (DL ks) [])
  (body:∀ fm':Fm,fm'.sc=fi.sc->fm'.env.scope=fi.scope->fm'.hdl=fm.hdl->SimS W n fm' fi.body m) (ns:ac (ah ms) (λl=>ac (ah mks) λlk=>ao m (l++lk)) ps≠.stuck) :
  Af W fm A V ps s (callWith pos (.ref a) [] (backTo pos (starEach (e::es) fm.env)) (backToKw pos (keywordEach ks fm.env))) (ac (ah ms) λl=>ac (ah mks) λlk=>ao m (l++lk)):=by
 obtain ⟨o,ho,hd⟩:=Fa.obj
 obtain ⟨k1,k2,k3,k4⟩:=qk.some pos fm.env
 have sq:=CX (pos:=pos) q A V ps s C I (Ac ns)
 cases q with
 | @cons _ m0 _ ms0 q0 hs qs=>
  rw [hs] at sq ⊢
  refine callWith_function_kw (o:=o) (fd:=fd) (evalArgs_kw k1 (aX sq (λvs c0 z=>?_) λx c0 z=>z.bind))
  obtain ⟨l,o0,α₁,u0,s0,d0,l0,Y0⟩:=z
  rw [Ab u0] at ns ⊢
  refine aX (Mb qk A α₁ o0 c0 C s0 (Ac ns)) (λvk w0 z=>?_) λx w0 z=>z.bind.after d0 l0
  obtain ⟨lk,Y1,X0,Z0,w1,y0,W0,u4⟩:=z
  rw [Ab Z0] at ns ⊢
  refine ⟨⟨w1.inv.base _ _ ho,hd⟩,?_⟩
  rw [k2]
  have hlen:vs.length=(m0::ms0).length:=by rw [<- Y0.length,FA u0]
  have hlen2:vk.length=(DL ks).length:=by rw [<- u4.length,FA Z0,k4]
  have b:=hb.2 w0 vs vk w1.inv.base hlen hlen2
  rw [append_nil] at b
  refine aX (Jt (l:=l++lk) (vs:=vs++vk) C w1 (Fa.keeps w1.inv.base) ok b (by rw [hb.1,length_append,hlen,hlen2];simp) ((s0.staysL C W0 y0 Y0).append u4) body ns) (λU U q=>(q.after y0 W0).after d0 l0) (λU U q=>(q.after y0 W0).after d0 l0)
theorem GW {x:Str}{i:Nat}{v:Value}(C:Ctx W fm n A)(I:InvS W fm V ps s)(hv:W.H.mg x=some v){Q:Value->Shared->Prop}{E:Value->Shared->Prop}(hm:(x,NameKind.globalImplicit,i)∈fm.sc){pos:Pos}(hd:(x==("__debug__":Str))=false)
  (h:Q v s):wpAny W.m A (eval (.Name x pos) fm.env) Q E s:=
 Calls.Name_function_global C.fm.kind (C.fm.kindX hm (by decide)) (Calls.loadGlobal_global (env:=fm.env) (by rw [C.fm.glob];exact C.hd.g.keeps I.inv.base) hv h) hd
theorem OB {x:Str}{i:Nat}{np pos:Pos}{es:List Expr}{ms:List (M PV)}{m:M PFlow}(hm:(x,NameKind.globalImplicit,i)∈fm.sc)(hd:(x==("__debug__":Str))=false)(hv:W.H.mg x=some (.ref a))(q:SimL W (n+1) fm es ms)(Fa:FnAt W.h₀ a fd fi)(ok:fi.Ok)(hb:EO W fd fi ms.length [] [])
  (body:∀ fm':Fm,fm'.sc=fi.sc->fm'.env.scope=fi.scope->fm'.hdl=fm.hdl->SimS W n fm' fi.body m):SimE W (n+1) fm (.Call (.Name x np) es [] pos) (ac (ah ms) (ao m)):=.mk λA V ps s C I ns=>by
 rw [arm_eval_Call_Name']
 refine bj (GW C I hv hm hd ?_)
 have e:(λl=>ao m (l++[]))=ao m:=funext λl=>by rw [append_nil]
 have:=Gx (ext:=[]) (extv:=[]) (pos:=pos) C I q Fa ok hb (λU U U=>.nil) body (by rw [e];exact ns)
 rw [e] at this
 exact this
theorem Ju {x:Str}{i:Nat}{np pos:Pos}{e:Expr}{es:List Expr}{ks:List Keyword}{ms mks:List (M PV)}{m:M PFlow}(hm:(x,NameKind.globalImplicit,i)∈fm.sc)(hd:(x==("__debug__":Str))=false)(hv:W.H.mg x=some (.ref a))(q:SimL W (n+1) fm (e::es) ms)(qk:SimKw W (n+1) fm ks mks)
  (Fa:FnAt W.h₀ a fd fi) (ok:fi.Ok) (hb:EO W fd fi ms.length (DL ks) []) (body:∀ fm':Fm,fm'.sc=fi.sc->fm'.env.scope=fi.scope->fm'.hdl=fm.hdl->SimS W n fm' fi.body m) :
  SimE W (n+1) fm (.Call (.Name x np) (e::es) ks pos) (ac (ah ms) λl=>ac (ah mks) λlk=>ao m (l++lk)):=.mk λA V ps s C I ns=>by
 rw [arm_eval_Call_Name']
 refine bj (GW C I hv hm hd ?_)
 exact Qt (pos:=pos) C I q qk Fa ok hb body ns
end
structure StdX (T:String):Prop where
 exc:isSubtype (.type T) (.type "BaseException")=pure true
 nt:isSubtype (.type ((Manifest.find? T).elim "type" λx=>x.metatype)) (.type "tuple")=pure false
 self:isSubtype (.type T) (.type T)=pure true
theorem E1:StdX "IndexError":=⟨by rw [isSubtype_type];kernel_rfl,by rw [isSubtype_type];kernel_rfl,by rw [isSubtype_type];kernel_rfl⟩
theorem Mc:StdX "ValueError":=⟨by rw [isSubtype_type];kernel_rfl,by rw [isSubtype_type];kernel_rfl,by rw [isSubtype_type];kernel_rfl⟩
theorem Qu:StdX "KeyError":=⟨by rw [isSubtype_type];kernel_rfl,by rw [isSubtype_type];kernel_rfl,by rw [isSubtype_type];kernel_rfl⟩
def Fm.mark (fm:Fm)(x:Value):Fm:={ fm with hdl:=some x }
section
variable {W:Wd}{fm:Fm}{V α' α₁ W1:List Addr}{h h' h₁ start:Heap}{n:Nat}{A:Around}{ps ps':PS}{s s' c0:Shared}{H:Hd}{h₀:Heap}{own av av':List Addr}{e:PX}{x y:Value}
theorem InvS.mark (I:InvS W fm V ps s):InvS W (fm.mark y) V ps s:=⟨⟨I.inv.base,I.inv.loc,I.inv.cel,I.inv.lists,I.inv.live,I.inv.frames,I.inv.tabs⟩,I.gens,I.os⟩
theorem InvS.unmark (I:InvS W (fm.mark y) V ps s):InvS W fm V ps s:=⟨⟨I.inv.base,I.inv.loc,I.inv.cel,I.inv.lists,I.inv.live,I.inv.frames,I.inv.tabs⟩,I.gens,I.os⟩
theorem FmOk.mark (F:FmOk h₀ fm):FmOk h₀ (fm.mark y):=⟨F.kind,F.glob,F.bi,F.locAv,F.locOwn,F.ownAv,F.frsAv,F.fresh,F.kinds,F.once,F.cellOwn,F.cellApart,F.frame⟩
theorem Ctx.mark (C:Ctx W fm n A):Ctx W (fm.mark y) n (A.mark (some y)):=⟨C.frames,C.depth,C.units,rfl,C.tab,C.fm.mark,C.hd⟩
theorem OkS.unmark {r:R PFlow}{f:Flow}(q:OkS W (fm.mark y) V h r f s):OkS W fm V h r f s:=by
 obtain ⟨p,ps',α',e,I,g,R,rf⟩:=q
 exact ⟨p,ps',α',e,I.unmark,g,R,by cases rf with
  | next=>exact .next
  | brk=>exact .brk
  | cont=>exact .cont
  | ret r=>exact .ret r⟩
theorem Js.unmark {r:R PFlow}{f:Result}(q:Js W (fm.mark y) V h r f s):Js W fm V h r f s:=by
 cases f with
 | ok f=>exact OkS.unmark (y:=y) q
 | error x=>
  obtain ⟨e,ps',α',er,I,g,R,X⟩:=q
  exact ⟨e,ps',α',er,I.unmark,g,R,X⟩
theorem E2 {r:R PFlow}(C:Ctx W fm n A)(hs0:∀ b,h.get? b=none->W.h₀.get? b=none)(q:ExS W (fm.mark y) V h r x s) :
  notedBy W.m (A.mark (some y)) fm.env (cameBackBy W.m A fm.env (ExS W fm V h r)) x s:=by
 have:=Fz C.mark hs0 q
 unfold notedBy at this ⊢
 exact aX this (λU U z=>GV C hs0 (Js.unmark z)) λU U z=>GV C hs0 (Js.unmark z)
theorem Ta {X:PX->Option (M PFlow)}{m:M PFlow}{f:PFlow}(q:m ps = .ok f ps'):aD X m ps = .ok f ps':=by unfold aD;rw [q]
theorem Tc {X:PX->Option (M PFlow)}{m:M PFlow}{e:PX}(q:m ps = .ex e ps')(ns:aD X m ps≠.stuck):∃ hm,X e=some hm/\aD X m ps=hm ps':=by
 unfold aD at ns ⊢
 rw [q] at ns ⊢
 dsimp only at ns ⊢
 cases z:X e with
 | none=>rw [z] at ns;exact absurd rfl ns
 | some hm=>exact ⟨hm,rfl,rfl⟩
theorem Td {X:PX->Option (M PFlow)}{m:M PFlow}(ns:aD X m ps≠.stuck):m ps≠.stuck:=by
 intro q;unfold aD at ns;rw [q] at ns;exact ns rfl
theorem F8 {b:List Stmt}{hd:ExceptHandler}{pos:Pos}{m:M PFlow}{X:PX->Option (M PFlow)}(hb:SimS W n fm b m)
  (hh:∀ A V ps s e x hm (W1:List Addr) (start:Heap),Ctx W fm n A->(∀ b,start.get? b=none->W.h₀.get? b=none)->(∀ b∈fm.av,(start.get? b).isSome=true)->InvS W fm V ps s->Grow W1 V start->Rel fm.stk fm.own W1 start s.heap->RaisedN W start s.heap e x->X e=some hm->hm ps≠.stuck ->
   wpAny W.m A (handleBy x fm.env [hd]) (OkS W fm W1 start (hm ps)) (ExS W fm W1 start (hm ps)) s) :
  SimT W n fm (.Try b [hd] [] [] pos) (aD X m):=.mk λA V ps s C I ns=>by
 have hs0:=I.none
 refine wpAny_Try_except (aX (hb A V ps s C I (Td ns)) (λf c0 z=>?_) λx c0 z=>?_)
 ·obtain ⟨p,o0,α₁,u0,s0,d0,i4,rf⟩:=z
  rw [Ta u0]
  cases rf with
  | next=>exact wpAny_execs_nil ⟨.next,o0,α₁,rfl,s0,d0,i4,.next⟩
  | brk=>exact ⟨.brk,o0,α₁,rfl,s0,d0,i4,.brk⟩
  | cont=>exact ⟨.cont,o0,α₁,rfl,s0,d0,i4,.cont⟩
  | ret r=>exact ⟨.ret _,o0,α₁,rfl,s0,d0,i4,.ret r⟩
 ·obtain ⟨e,o0,α₁,u0,s0,d0,i4,i6⟩:=z
  obtain ⟨hm,hX,eq⟩:=Tc u0 ns
  rw [eq] at ns ⊢
  exact GU C s0 i4 hs0 i6 λY2 w1 j5 j6=>Cg C w1 j5 hs0 j6 _ λZ3 Z1 v4 w5=>hh A α₁ o0 _ e x hm V s.heap C hs0 I.inv.live Z1 d0 v4 w5 hX ns
theorem KM {T:String}{t:Str}{i:Nat}{tp hp pos:Pos}{b:List Stmt}{b0:Stmt}{suite:List Stmt}{m hm:M PFlow}(F:StdX T)(ht:(t,NameKind.globalImplicit,i)∈fm.sc)(hf:t∈Bl)(hn:t≠"__name__")(hd:(t==("__debug__":Str))=false)(hbt:bootBuiltins t=some (.type T))
  (hb:SimS W n fm b m) (hh:∀ y,SimS W n (fm.mark y) (b0::suite) hm):SimT W n fm (.Try b [.ExceptHandler (some (.Name t tp)) none (b0::suite) hp] [] [] pos) (aD (EN T hm) m):=by
 refine F8 hb λA V ps s e x hm' W1 start C hs0 U I g R X hX ns=>?_
 cases e with
 | toml t=>exact (by cases hX)
 | std c=>
  by_cases hc:c=T
  ·subst hc
   have hX:some hm=some hm':=(if_pos rfl:(if c=c then some hm else none)=some hm).symm.trans hX
   obtain rfl:=aU hX
   have X':=X
   obtain ⟨a,oe,vs,rfl,ha,hcl,hrest⟩:=X
   refine wpAny_handleBy_cons (codeAny_handlers_test (BL (C.mark (y:=.ref a)) I.mark hf hn hbt ht hd ?_)) (by intro q;cases q)
   refine wpAny_excMatches_type ⟨oe,ha,hcl⟩ F.exc F.nt F.self ?_
   refine codeAny_handlers_suite ?_
   refine Cg (C.mark (y:=.ref a)) I.mark R hs0 X' _ λZ3 Z1 v4 w5=>?_
   refine aX (hh (.ref a) _ V ps _ C.mark Z1 ns) (λf w4 z=>?_) λy w4 z=>?_
   ·exact OkS.unmark (y:=.ref a) (z.after g v4)
   ·exact E2 (y:=.ref a) C hs0 (z.after g v4)
  ·have hX:none=some hm':=(if_neg hc:(if c=T then some hm else none)=none).symm.trans hX
   exact (by cases hX)
end
end Mi
end
section
open PySem PySem.W PyProof.Rows
set_option maxRecDepth 100000
namespace Mi
section
variable {prog:Program}{w:World}{A:Around}{E:Value->Shared->Prop}{h:Heap}{g:Array GenState}{d:Drawn}{t:Nat}{os:OsState}{C e:Addr}{m:Txt}
theorem Te:P5.contains (.type "BaseException")=true:=by decide +kernel
end
end Mi
end
section
open PySem PySem.W PyProof.Rows
set_option maxRecDepth 10000
namespace Mi
section
variable {M:Model}{A:Around}{E:Value->Shared->Prop}{s:Shared}{env:Env}
end
section
variable {W:Wd}{fm:Fm}{V α' α₁ W1:List Addr}{h h' h₁ start:Heap}{n:Nat}{A:Around}{ps ps':PS}{s s' c0:Shared}{H:Hd}{h₀:Heap}{own av av':List Addr}{e:PX}{y:Value}{x:Str}{t:Txt}
noncomputable instance {W:Wd} {n:Nat} {fm:Fm} {x:Str} {t:Txt} {e:Expr} {m:M PV}:CoeFun (SimEx W n fm x t e m) (λU=>SimEx.T W n fm x t e m):=⟨SimEx.go⟩
noncomputable instance {W:Wd} {n:Nat} {fm:Fm} {x:Str} {t:Txt} {b:List Stmt} {m:M PFlow}:CoeFun (SimSx W n fm x t b m) (λU=>SimSx.T W n fm x t b m):=⟨SimSx.go⟩
theorem Qv (F:FmOk W.h₀ fm)(I:InvS W fm V ps s)(hx:∀ k i,(x,k,i)∉fm.sc){m:Str->Option Value}{v:Option Value}{tk:Nat}(hns:s.heap.Ns fm.env.locals m)(hn:h'.Ns fm.env.locals (λy=>if y=x then v else m y))(S:Heap.SameBut fm.env.locals s.heap h') :
  InvS W fm V ps { s with heap:=h',toks:=tk }/\Rel fm.stk fm.own V s.heap h':=by
 obtain ⟨o',es,ep,e1,e2,e3⟩:=id hn
 have live:(h'.get? fm.env.locals).isSome=true:=by rw [e1];rfl
 have hα:∀ b∈V,b≠fm.env.locals:=λb m q=>I.inv.lists.apart b m (q▸F.locAv)
 refine ⟨⟨I.inv.mine F S F.locAv live (λo eo=>⟨(λvs q=>by obtain ⟨oo,_,_,f1,f2,_⟩:=hns;rw [eo] at f1;cases f1;rw [f2] at q;cases q),o',e1,λvs q=>by rw [e2] at q;cases q⟩) rfl ?_ λz k i hz hk=>?_,I.gens,I.os⟩,SameBut.rel S live F.locOwn _ _⟩
 ·obtain ⟨m',n1,n2⟩:=I.inv.loc
  have:m'=m:=funext λz=>by
   obtain ⟨o1,es1,ep1,a1,a2,a3,a4⟩:=n1
   obtain ⟨o2,es2,ep2,b1,b2,b3,b4⟩:=hns
   rw [a1] at b1;cases b1;rw [a2] at b2;cases b2
   rw [<- a4,<- b4]
  subst this
  refine ⟨_,hn,λz i hz=>?_⟩
  have:z≠x:=λq=>hx _ _ (q▸hz)
  simp only [if_neg this]
  exact (n2 z i hz).same S F.locAv hα
 ·obtain ⟨c,v',q1,q2,q3,⟨o,q4,q4'⟩,q5⟩:=I.inv.cel z k i hz hk
  exact ⟨c,v',q1,q2,q3,⟨o,(S.2 c q3).trans q4,q4'⟩,q5.same S F.locAv hα⟩
theorem IL {i:Nat}(C:Ctx W fm n A)(I:InvS W fm V ps s){Q:Value->Shared->Prop}{E:Value->Shared->Prop}(hm:(("TOMLDecodeError":Str),NameKind.globalImplicit,i)∈fm.sc){pos:Pos}
  (h:Q (.ref W.H.toml) s):wpAny W.m A (eval (.Name "TOMLDecodeError" pos) fm.env) Q E s:=GW C I C.hd.toml hm (by decide +kernel) h
theorem Jv {a:Addr}{o:Obj}(K:ClsAt W.H.toml s.heap)(ho:s.heap.get? a=some o)(hc:o.cls = .ref W.H.toml){Q:Bool->Shared->Prop}{E:Value->Shared->Prop}(h:Q true s):wpAny W.m A (excMatches (.ref a) (.ref W.H.toml)) Q E s:=by
 obtain ⟨nm,q,N,bs,hdct,sn,sub,ab,col,dd,k0,k1,k2,k3,k5,mN,hC,_⟩:=K.at_
 obtain ⟨hp,g,d,tk',os⟩:=s
 exact wpAny_excMatches_sub_self hC ho hc Te h
theorem FD {i:Nat}{tp hp pos:Pos}{b:List Stmt}{b0:Stmt}{suite:List Stmt}{m hm:M PFlow}(ht:(("TOMLDecodeError":Str),NameKind.globalImplicit,i)∈fm.sc)
  (hb:SimS W n fm b m) (hh:∀ y,SimS W n (fm.mark y) (b0::suite) hm):SimT W n fm (.Try b [.ExceptHandler (some (.Name "TOMLDecodeError" tp)) none (b0::suite) hp] [] [] pos) (aD (LQ λU=>hm) m):=by
 refine F8 hb λA V ps s e x hm' W1 start C hs0 U I g R X hX ns=>?_
 cases e with
 | std c=>exact (by cases hX)
 | toml t=>
  obtain rfl:=aU (show some hm=some hm' from hX)
  have X':=X
  obtain ⟨a,oe,vs,rfl,ha,hcl,hrest⟩:=X
  refine wpAny_handleBy_cons (codeAny_handlers_test (IL (C.mark (y:=.ref a)) I.mark ht ?_)) (by intro q;cases q)
  refine Jv (C.hd.tomlC.keeps I.inv.base) ha hcl ?_
  refine codeAny_handlers_suite ?_
  refine Cg (C.mark (y:=.ref a)) I.mark R hs0 X' _ λZ3 Z1 v4 w5=>?_
  refine aX (hh (.ref a) _ V ps _ C.mark Z1 ns) (λf w4 z=>?_) λy w4 z=>?_
  ·exact OkS.unmark (y:=.ref a) (z.after g v4)
  ·exact E2 (y:=.ref a) C hs0 (z.after g v4)
end
end Mi
end
section
open PySem PySem.W PyProof.Rows
set_option maxRecDepth 100000
namespace Mi
inductive MadeAt (C:Addr)(h:Heap)(e:Addr)(m:Txt):Prop
 | mk (o:Obj) (vs:Array Value) (T:Addr) (tk:Tok) (k1:h.get? e=some o) (k2:o.cls = .ref C) (k3:o.data = .fields vs) (k4:5<vs.size) (k5:vs[0]? = some (.ref T)) (k6:vs[1]? = some .none) (k7:IsTup h T #[.str (txt m) tk]):MadeAt C h e m
section
variable {M:Model}{A:Around}{E:Value->Shared->Prop}{s:Shared}{C e:Addr}
theorem IM {o:Obj}(K:ClsAt C s.heap)(he:s.heap.get? e=some o)(hc:o.cls = .ref C){vs:Array Value}(hd:o.data = .fields vs){c:String}{Q:Value->Shared->Prop}(h:Q (.ref e) s):wpAny M A (excFromValue (.ref e) c) Q E s:=by
 obtain ⟨nm,q,N,bs,hdct,sn,sub,ab,col,dd,k0,k1,k2,k3,k5,mN,hC,_⟩:=K.at_
 obtain ⟨hp,g,d,tk,os⟩:=s
 obtain ⟨cls,dct,data,sl⟩:=o
 simp only at hc hd
 subst hc hd
 have hcB:(Value.ref C::P5).contains (.type "BaseException")=true:=by rw [List.contains_cons,show P5.contains (.type "BaseException")=true from by decide +kernel,Bool.or_true]
 unfold excFromValue isExcClass
 repeat (first | with_reducible refine wpAny_loadPart_at he ?_ | with_reducible refine wpAny_loadPart_at hC ?_ | (with_reducible refine wpAny_isSubtype_exc hC ?_;rw [hcB]) | wp_step)
 exact h
theorem Tf {o:Obj}(K:ClsAt C s.heap)(he:s.heap.get? e=some o)(hc:o.cls = .ref C){vs:Array Value}(hd:o.data = .fields vs){Q:Value->Shared->Prop}(h:Q (.ref e) s):wpAny M A (raisedInstance (.ref e)) Q E s:=by
 obtain ⟨nm,q,N,bs,hdct,sn,sub,ab,col,dd,k0,k1,k2,k3,k5,mN,hC,_⟩:=K.at_
 obtain ⟨hp,g,d,tk,os⟩:=s
 obtain ⟨cls,dct,data,sl⟩:=o
 simp only at hc hd
 subst hc hd
 unfold raisedInstance
 repeat (first | with_reducible refine wpAny_loadPart_at he ?_ | with_reducible refine wpAny_loadPart_at hC ?_ | wp_step)
 exact h
theorem Tg {o:Obj}(K:ClsAt C s.heap)(he:s.heap.get? e=some o)(hc:o.cls = .ref C){vs:Array Value}(hd:o.data = .fields vs){Q:Bool->Shared->Prop}(h:Q false s):wpAny M A (isType (.ref e)) Q E s:=by
 obtain ⟨nm,q,N,bs,hdct,sn,sub,ab,col,dd,k0,k1,k2,k3,k5,mN,hC,_⟩:=K.at_
 obtain ⟨hp,g,d,tk,os⟩:=s
 obtain ⟨cls,dct,data,sl⟩:=o
 simp only at hc hd
 subst hc hd
 unfold isType
 repeat (first | with_reducible refine wpAny_loadPart_at he ?_ | with_reducible refine wpAny_loadPart_at hC ?_ | wp_step)
 exact h
end
def AV (h:Heap)(e:Addr)(k:Nat)(x:Value):Heap:=h.update e (Obj.mapFields (·.setIfInBounds k x))
theorem MadeAt.set {C e:Addr}{h:Heap}{m:Txt}(X:MadeAt C h e m){k:Nat}{x:Value}(h0:k≠0)(h1:k≠1):MadeAt C (AV h e k x) e m:=by
 obtain ⟨o,vs,T,tk,he,hc,hd,hsz,v0,v1,oT,t1,t2,kk,t3⟩:=X
 have hd':=Obj.data_mapFields hd (·.setIfInBounds k x)
 have nT:T≠e:=λq=>by rw [q,he] at t1;cases t1;rw [hd] at t3;cases t3
 refine ⟨_,_,T,tk,get?_update_self (Obj.mapFields (·.setIfInBounds k x)) he (Obj.isFreed_of_fields hd'),(Obj.cls_mapFields _ _).trans hc,hd',by simpa using hsz,?_,?_,oT,(get?_update_other _ _ (Ne.symm nT)).trans t1,t2,kk,t3⟩
 ·rw [Array.getElem?_setIfInBounds_ne h0];exact v0
 ·rw [Array.getElem?_setIfInBounds_ne h1];exact v1
section
variable {prog:Program}{w:World}{A:Around}{E:Value->Shared->Prop}{s:Shared}{C e:Addr}{m:Txt}
theorem Dh {k:Nat}{x:Value}{Q:Unit->Shared->Prop}(X:MadeAt C s.heap e m)(hk:k<=5)(h:Q () { s with heap:=AV s.heap e k x }):wpAny (model prog w) A (setField (.ref e) k x) Q E s:=by
 obtain ⟨o,vs,T,tk,he,hc,hd,hsz,v0,v1,hT⟩:=X
 exact wpAny_setField he hd (by exact la [_,_] [([2],[11]),([11,3,0],[4])] ([2,3,0],[4]) rfl hk hsz) h
theorem Hv {fl:Option Addr}{Q:Unit->Shared->Prop}(X:MadeAt C s.heap e m)(h:Q () s):wpAny (model prog w) A (setFlight (.ref e) fl) Q E s:=by
 obtain ⟨o,vs,T,tk,he,hc,hd,hsz,v0,v1,hT⟩:=X
 unfold setFlight
 refine bj (wpAny_field he hd v1 ?_)
 rw [if_neg (by decide)]
 exact bk h
theorem Id:entryFor table "proto.unchain" = some Builtin.«proto.unchain»:=entryFor_of_tree (by kernel_rfl)
theorem Ie {V:Type}{Q:V->Shared->Prop}(X:MadeAt C s.heap e m)
  (h:(A.handled=none/\E (.ref e) s)\/∃ a o vs,A.handled=some (.ref a)/\a≠e/\s.heap.get? a=some o/\o.data = .fields vs/\vs[2]? = some .none/\E (.ref e) { s with heap:=AV s.heap e 2 (.ref a) }):wpAny (model prog w) A (raiseNew (.ref e):Sem V) Q E s:=by
 rcases h with ⟨hh,h⟩ | ⟨a,o,vs,hh,ne,ho,hd,h2,h⟩
 ·exact wpAny_raiseNew_none hh h
 ·unfold raiseNew
  refine bj (wpAny_handled ?_)
  rw [hh]
  dsimp only
  rw [if_pos (show (Value.ref a != Value.ref e)=true from by simpa using ne)]
  have un:wpAny (model prog w) A (runValue (.builtin "proto.unchain" ⟨[.ref e,.ref a,.ref a,.bool false],[]⟩)) (λU s'=>s'=s) E s:=by
   refine wpAny_runValue (codeAny_builtin Id ?_)
   unfold Builtin.«proto.unchain»
   show wpAny _ _ (field (.ref a) 2 >>= _) _ _ s
   refine bj (wpAny_field ho hd h2 ?_)
   rw [if_pos (by rfl)]
   exact bk rfl
  refine bj (bh (aX un (λU s' q=>?_) λU U z=>z))
  subst q
  exact bj (Dh X (by exact la [] [] ([5],[11]) rfl) (wpAny_throw h))
end
section
variable {prog:Program}{w:World}{A:Around}{E:Value->Shared->Prop}{s:Shared}{C e:Addr}{m:Txt}{env:Env}
def Jw (A:Around)(h:Heap)(e:Addr)(E:Heap->Prop):Prop:=
 (A.handled=none/\E h)\/∃ a o vs,A.handled=some (.ref a)/\a≠e/\h.get? a=some o/\o.data = .fields vs/\vs[2]? = some .none/\E (AV h e 2 (.ref a))
theorem IN {Q:Flow->Shared->Prop}(K:ClsAt C s.heap)(X:MadeAt C s.heap e m)(h:Jw A s.heap e λh'=>E (.ref e) { s with heap:=h' }) :
  wpAny (model prog w) A (do
   let e <- if <- isType (.ref e) then holding [.ref e] (raisedFor (.ref e) (.ref e)) else raisedInstance (.ref e)
   setFlight e none
   raiseNew e:Sem Flow) Q E s:=by
 obtain ⟨o,vs,T,tk,he,hc,hd,hsz,v0,v1,hT⟩:=id X
 refine bj (Tg K he hc hd ?_)
 simp only [false_eq_true,if_false]
 refine bj (Tf K he hc hd ?_)
 refine bj (Hv X ?_)
 refine Ie X ?_
 rcases h with ⟨h1,h2⟩ | ⟨a,oa,va,h1,h2,h3,h4,h5,h6⟩
 ·exact .inl ⟨h1,h2⟩
 ·exact .inr ⟨a,oa,va,h1,h2,h3,h4,h5,h6⟩
theorem IO {k:Nat}{x:Value}(K:ClsAt C s.heap)(X:MadeAt C s.heap e m):ClsAt C (AV s.heap e k x):=by
 obtain ⟨nm,q,N,bs,hdct,sn,sub,ab,col,dd,k0,k1,k2,k3,k5,mN,hC,⟨oN,es,ep,n1,n2,n3⟩,hno⟩:=K.at_
 obtain ⟨o,vs,T,tk,he,hc,hd,_⟩:=X
 have nC:C≠e:=λq=>by rw [q,he] at hC;cases hC;cases hd
 have nN:N≠e:=λq=>by rw [q,he] at n1;cases n1;rw [hd] at n2;cases n2
 exact ⟨nm,q,N,bs,hdct,sn,sub,ab,col,dd,k0,k1,k2,k3,k5,mN,(get?_update_other _ _ (Ne.symm nC)).trans hC,⟨oN,es,ep,(get?_update_other _ _ (Ne.symm nN)).trans n1,n2,n3⟩,hno⟩
theorem GD {x:Sem Value}{Q:Flow->Shared->Prop}
  (h:wpAny (model prog w) A x (λv c0=>∃ e m,v = .ref e/\ClsAt C c0.heap/\MadeAt C c0.heap e m/\Jw A c0.heap e λh'=>E (.ref e) { c0 with heap:=h' }) E s):wpAny (model prog w) A (raiseStmt env (some x) none) Q E s:=by
 unfold raiseStmt
 refine bj (aX h (λv c0 z=>?_) λU U z=>z)
 obtain ⟨e,m,rfl,K,X,R⟩:=z
 obtain ⟨o,vs,T,tk,he,hc,hd,_⟩:=id X
 refine bj (bk (bj (bh (IM K he hc hd ?_))))
 exact IN K X R
theorem Hw {x:Sem Value}{pos:Pos}{k:Nat}{Q:Flow->Shared->Prop}
  (h:wpAny (model prog w) A x (λv c0=>∃ e m,v = .ref e/\ClsAt C c0.heap/\MadeAt C c0.heap e m/\Jw A (AV (AV c0.heap e 3 .none) e 4 (.bool true)) e λh'=>E (.ref e) { c0 with heap:=h' }) E s) (c:Sem Value) (hc0:∀ (s:Shared) (Q:Value->Shared->Prop),Q .none s->wpAny (model prog w) A c Q E s) :
  wpAny (model prog w) A (raiseStmt env (some x) (some c)) Q E s:=by
 unfold raiseStmt
 refine bj (aX h (λv c0 z=>?_) λU U z=>z)
 obtain ⟨e,m,rfl,K,X,R⟩:=z
 obtain ⟨o,vs,T,tk,he,hc,hd,_⟩:=id X
 refine bj (bh (hc0 _ _ ?_))
 refine bj (bk ?_)
 refine bj (bh (IM K he hc hd ?_))
 dsimp only
 rw [if_pos (show (Value.none==Value.none)=true from rfl)]
 refine bj (bk ?_)
 refine bj (Dh X (by exact la [] [] ([7],[11]) rfl) ?_)
 refine bj (Dh (s:={ c0 with heap:=AV c0.heap e 3 .none }) (X.set (by decide) (by decide)) (by exact la [] [] ([9],[11]) rfl) ?_)
 exact IN (s:={ c0 with heap:=AV (AV c0.heap e 3 .none) e 4 (.bool true) }) (IO (s:={ c0 with heap:=AV c0.heap e 3 .none }) (IO K X) (X.set (by decide) (by decide))) ((X.set (by decide) (by decide)).set (by decide) (by decide)) R
end
inductive NewExc (C:Addr)(start h:Heap)(e:Addr)(m:Txt):Prop
 | mk (k1:start.get? e=none) (o:Obj) (vs:Array Value) (T:Addr) (tk:Tok) (k2:h.get? e=some o) (k3:o.cls = .ref C) (k4:o.data = .fields vs) (k5:5<vs.size) (k6:vs[0]? = some (.ref T)) (k7:vs[1]? = some .none) (k8:IsTup h T #[.str (txt m) tk]) (k9:start.get? T=none):NewExc C start h e m
section
variable {W:Wd}{fm:Fm}{V α' α₁ W1:List Addr}{h h' h₁ start:Heap}{n:Nat}{A:Around}{ps ps':PS}{s s' c0:Shared}{H:Hd}{h₀:Heap}{own av av':List Addr}{y:Value}{x:Str}{t m:Txt}{C e:Addr}
theorem NewExc.made (X:NewExc C start h e m):MadeAt C h e m:=by
 obtain ⟨_,o,vs,T,tk,h1,h2,h3,h4,h5,h6,h7,_⟩:=X
 exact ⟨o,vs,T,tk,h1,h2,h3,h4,h5,h6,h7⟩
theorem NewExc.set (X:NewExc C start h e m){k:Nat}{x:Value}(k0:k≠0)(k1:k≠1):NewExc C start (AV h e k x) e m:=by
 obtain ⟨hn,o,vs,T,tk,he,hc,hd,hsz,v0,v1,⟨oT,t1,t2,kk,t3⟩,hT⟩:=X
 have hd':=Obj.data_mapFields hd (·.setIfInBounds k x)
 have nT:T≠e:=λq=>by rw [q,he] at t1;cases t1;rw [hd] at t3;cases t3
 refine ⟨hn,_,_,T,tk,get?_update_self (Obj.mapFields (·.setIfInBounds k x)) he (Obj.isFreed_of_fields hd'),(Obj.cls_mapFields _ _).trans hc,hd',by simpa using hsz,?_,?_,⟨oT,(get?_update_other _ _ (Ne.symm nT)).trans t1,t2,kk,t3⟩,hT⟩
 ·rw [Array.getElem?_setIfInBounds_ne k0];exact v0
 ·rw [Array.getElem?_setIfInBounds_ne k1];exact v1
theorem NewExc.raised (X:NewExc W.H.toml start h e m):Raised W start h (.toml m) (.ref e):=by
 obtain ⟨hn,o,vs,T,tk,he,hc,hd,hsz,v0,v1,hI,hT⟩:=X
 exact ⟨e,o,vs,rfl,he,hc,hd,hsz,hn,⟨T,tk,v0,hT,hI⟩,.inl v1,trivial⟩
theorem NewExc.turn (X:NewExc C start h e m)(F:h.FunFrames ⟨#[],{}⟩ fm.stk)(k:Nat)(x:Value):Turn fm.stk [e] h (AV h e k x):=by
 obtain ⟨hn,o,vs,T,tk,he,hc,hd,_⟩:=X
 exact (Turn.set (fm:=fm) F he hd ⟨(by rw [hc];exact λq=>(by cases q)),by rw [hc];exact λq=>(by cases q)⟩ (·.setIfInBounds k x)).1
inductive XcRes (W:Wd)(fm:Fm)(V:List Addr)(h:Heap)(r:R Txt)(v:Value)(s':Shared):Prop
 | mk (a:Addr) (t:Txt) (ps':PS) (α':List Addr) (k1:r = .ok t ps') (k2:v = .ref a) (k3:InvS W fm α' ps' s') (k4:Grow V α' h) (k5:Rel fm.stk fm.tab V h s'.heap) (k6:NewExc W.H.toml h s'.heap a t):XcRes W fm V h r v s'
abbrev SimXc.T (W:Wd)(n:Nat)(fm:Fm)(e:Expr)(mx:M Txt):Prop:=∀ A V ps s,Ctx W fm n A->InvS W fm V ps s->mx ps≠.stuck->wpAny W.m A (eval e fm.env) (λv s'=>XcRes W fm V s.heap (mx ps) v s') (ExE W fm V s.heap (mx ps)) s
structure SimXc (W:Wd)(n:Nat)(fm:Fm)(e:Expr)(mx:M Txt):Prop where
 go:SimXc.T W n fm e mx
noncomputable instance {W:Wd} {n:Nat} {fm:Fm} {e:Expr} {mx:M Txt}:CoeFun (SimXc W n fm e mx) (λU=>SimXc.T W n fm e mx):=⟨SimXc.go⟩
inductive HdlAt (h:Heap)(fm:Fm)(a:Addr):Prop
 | mk (o:Obj) (vs:Array Value) (k1:h.get? a=some o) (k2:o.data = .fields vs) (k3:vs[2]? = some .none):HdlAt h fm a
theorem HdlAt.rel (F:FmOk W.h₀ fm)(I:InvS W fm V ps s){a:Addr}(hav:a∉fm.av)(ho:∀ b∈own,b∈fm.av)(R:Rel fm.stk own V s.heap h')(q:HdlAt s.heap fm a):HdlAt h' fm a:=by
 obtain ⟨o,vs,he,hd,h2⟩:=q
 have nα:a∉V:=λz=>by
  obtain ⟨ws,o',e',_,k',d'⟩:=I.inv.lists.isList z
  rw [he] at e';cases e';rw [hd] at d';cases d'
 exact ⟨o,vs,R.keep _ _ he (λz=>hav (F.frsAv _ z)) (λz=>hav (ho _ z)) nα,hd,h2⟩
theorem Cz {v:Expr}{pos:Pos}{mx:M Txt}(hh:fm.hdl=none)(hv:SimXc W n fm v mx):SimT W n fm (.Raise (some v) none pos) (ac mx λt=>aK (.toml t)):=.mk λA V ps s C I ns=>by
 have hA:A.handled=none:=C.hdl.trans hh
 rw [arm_exec_Raise]
 refine bj (wpAny_standAt (GD (C:=W.H.toml) ?_))
 refine bj (aX (hv A V ps s C I (Ac ns)) (λv s' z=>bj (wpAny_standAt (bk ?_))) λx s' z=>z.toS.bind)
 obtain ⟨a,t,ps',α',e,rfl,I',g,R,X⟩:=z
 refine ⟨a,t,rfl,C.hd.tomlC.keeps I'.inv.base,X.made,.inl ⟨hA,?_⟩⟩
 exact ⟨.toml t,ps',α',by rw [Ab e];rfl,I',g,R.up,X.raised⟩
theorem NewExc.step (C:Ctx W fm n A)(I:InvS W fm V ps s)(hs0:∀ b,start.get? b=none->W.h₀.get? b=none)(X:NewExc W.H.toml start s.heap e m)(R:Rel fm.stk own W1 start s.heap){k:Nat}{x:Value}(k0:k≠0)(k1:k≠1) :
  InvS W fm V ps { s with heap:=AV s.heap e k x }/\Rel fm.stk own W1 start (AV s.heap e k x)/\NewExc W.H.toml start (AV s.heap e k x) e m:=by
 have T:=X.turn (fm:=fm) I.inv.frames k x
 have hc:∀ b∈[e],start.get? b=none:=λb q=>by rw [mem_singleton.mp q];exact X.1
 exact ⟨⟨I.inv.turn C.fm T λb q=>hs0 b (hc b q),I.gens,I.os⟩,R.turn T hc,X.set k0 k1⟩
abbrev SimSh.T (W:Wd)(n:Nat)(fm:Fm)(b:List Stmt)(m:M PFlow):Prop:=∀ A V ps s a,Ctx W fm n A->InvS W fm V ps s->fm.hdl=some (.ref a)->a∉fm.av->HdlAt s.heap fm a->m ps≠.stuck->wpAny W.m A (execs b fm.env) (OkS W fm V s.heap (m ps)) (ExS W fm V s.heap (m ps)) s
structure SimSh (W:Wd)(n:Nat)(fm:Fm)(b:List Stmt)(m:M PFlow):Prop where
 go:SimSh.T W n fm b m
noncomputable instance {W:Wd} {n:Nat} {fm:Fm} {b:List Stmt} {m:M PFlow}:CoeFun (SimSh W n fm b m) (λU=>SimSh.T W n fm b m):=⟨SimSh.go⟩
theorem Md {p:Pos}{k:Nat}{pos:Pos}{env:Env}{E:Value->Shared->Prop}(s:Shared)(Q:Value->Shared->Prop)(h:Q .none s):wpAny W.m A (do let v <- eval (.Constant .none k p) env;standAt pos;pure v) Q E s:=
 bj (bk (bj (wpAny_standAt (bk h))))
theorem E3 {v:Expr}{k:Nat}{p pos:Pos}{b:List Stmt}{mx:M Txt}(hv:SimXc W n fm v mx):SimSh W n fm (.Raise (some v) (some (.Constant .none k p)) pos::b) (ac mx λt=>aK (.toml t)):=.mk λA V ps s a C I hh hav hat ns=>by
 have hA:A.handled=some (.ref a):=C.hdl.trans hh
 have hs0:=I.none
 refine wpAny_execs_cons ?_
 rw [arm_exec_Raise]
 refine bj (wpAny_standAt (Hw (C:=W.H.toml) (pos:=pos) (k:=k) ?_ _ λs Q h=>Md s Q h))
 refine bj (aX (hv A V ps s C I (Ac ns)) (λv s' z=>bj (wpAny_standAt (bk ?_))) λx s' z=>z.toS.bind)
 obtain ⟨e,t,ps',α',er,rfl,I',g,R,X⟩:=z
 obtain ⟨o,vs,ho,hd,h2⟩:=HdlAt.rel (own:=fm.tab) C.fm I hav C.fm.tabAv R hat
 have ne:a≠e:=λq=>by
  obtain ⟨o',vs',h1,_⟩:=hat
  rw [q,X.1] at h1;cases h1
 obtain ⟨I1,R1,X1⟩:=X.step C I' hs0 R.up (k:=3) (x:=.none) (by decide) (by decide)
 obtain ⟨I2,R2,X2⟩:=X1.step C I1 hs0 R1 (k:=4) (x:=.bool true) (by decide) (by decide)
 obtain ⟨I3,R3,X3⟩:=X2.step C I2 hs0 R2 (k:=2) (x:=.ref a) (by decide) (by decide)
 refine ⟨e,t,rfl,C.hd.tomlC.keeps I'.inv.base,X.made,.inr ⟨a,o,vs,hA,ne,?_,hd,h2,?_⟩⟩
 ·exact (get?_update_other _ _ (Ne.symm ne)).trans ((get?_update_other _ _ (Ne.symm ne)).trans ho)
 ·exact ⟨.toml t,ps',α',by rw [Ab er];rfl,I3,g,R3,X3.raised⟩
end
end Mi
end
section
open PySem PySem.W PyProof.Rows
set_option maxRecDepth 10000
namespace Mi
section
variable {W:Wd}{fm:Fm}{V α' α₁ W1:List Addr}{h h' h₁ start:Heap}{n:Nat}{A:Around}{ps ps':PS}{s s' c0:Shared}{H:Hd}{h₀:Heap}{own av av':List Addr}{y:Value}{x:Str}{t m:Txt}{C e:Addr}
theorem Me {st:Stmt}{b:List Stmt}{m r:M PFlow}(hm:SimT W n fm st m)(hr:SimSh W n fm b r):SimSh W n fm (st::b) (ak m r):=.mk λA V ps s a C I hh hav hat ns=>by
 unfold ak at ns ⊢
 refine wpAny_execs_cons (aX (hm A V ps s C I (Ac ns)) (λf c0 q=>?_) λx c0 q=>q.bind)
 obtain ⟨f,o0,α₁,u0,s0,d0,l0,rf⟩:=q
 rw [Ab u0] at ns ⊢
 cases rf with
 | next=>exact aX (hr A α₁ o0 c0 a C s0 hh hav (HdlAt.rel C.fm I hav C.fm.ownAv l0 hat) ns) (λU U q=>q.after d0 l0) λU U q=>q.after d0 l0
 | brk=>exact ⟨.brk,o0,α₁,rfl,s0,d0,l0,.brk⟩
 | cont=>exact ⟨.cont,o0,α₁,rfl,s0,d0,l0,.cont⟩
 | ret r=>exact ⟨.ret _,o0,α₁,rfl,s0,d0,l0,.ret r⟩
theorem Qw {t:Expr}{b:List Stmt}{pos:Pos}{mt:M Bool}{mb:M PFlow}(ht:SimB W n fm t mt)(hb:SimSh W n fm b mb):SimSh W n fm [.If t b [] pos] (ac mt λc=>if c then mb else ae .next):=.mk λA V ps s a C I hh hav hat ns=>by
 have key:wpAny W.m A (exec (.If t b [] pos) fm.env) (OkS W fm V s.heap (ac mt (λc=>if c then mb else ae .next) ps)) (ExS W fm V s.heap (ac mt (λc=>if c then mb else ae .next) ps)) s:=by
  refine wpAny_If (aX (ht A V ps s C I (Ac ns)) (λc c0 z=>?_) λx c0 z=>z.toS.bind)
  obtain ⟨o0,α₁,u0,s0,d0,l0⟩:=z
  rw [Ab u0] at ns ⊢
  cases c
  ·exact wpAny_execs_nil ⟨.next,o0,α₁,rfl,s0,d0,l0.up,.next⟩
  ·exact aX (hb A α₁ o0 c0 a C s0 hh hav (HdlAt.rel (own:=fm.tab) C.fm I hav C.fm.tabAv l0 hat) ns) (λU U q=>q.after d0 l0.up) λU U q=>q.after d0 l0.up
 refine wpAny_execs_cons (aX key (λf c0 z=>?_) λU U z=>z)
 obtain ⟨p,o0,α₁,u0,s0,d0,l0,rf⟩:=z
 cases rf with
 | next=>exact wpAny_execs_nil ⟨.next,o0,α₁,u0,s0,d0,l0,.next⟩
 | brk=>exact ⟨.brk,o0,α₁,u0,s0,d0,l0,.brk⟩
 | cont=>exact ⟨.cont,o0,α₁,u0,s0,d0,l0,.cont⟩
 | ret r=>exact ⟨.ret _,o0,α₁,u0,s0,d0,l0,.ret r⟩
theorem F9 {T:String}{t:Str}{i:Nat}{tp hp pos:Pos}{b:List Stmt}{b0:Stmt}{suite:List Stmt}{m hm:M PFlow}(F:StdX T)(ht:(t,NameKind.globalImplicit,i)∈fm.sc)(hf:t∈Bl)(hn:t≠"__name__")(hd:(t==("__debug__":Str))=false)(hbt:bootBuiltins t=some (.type T))
  (hb:SimS W n fm b m) (hh:∀ y,SimSh W n (fm.mark y) (b0::suite) hm):SimT W n fm (.Try b [.ExceptHandler (some (.Name t tp)) none (b0::suite) hp] [] [] pos) (aD (EN T hm) m):=by
 refine F8 hb λA V ps s e x hm' W1 start C hs0 hlive I g R X hX ns=>?_
 cases e with
 | toml t=>exact (by cases hX)
 | std c=>
  by_cases hc:c=T
  ·subst hc
   have hX:some hm=some hm':=(if_pos rfl:(if c=c then some hm else none)=some hm).symm.trans hX
   obtain rfl:=aU hX
   have X':=X
   obtain ⟨a,oe,vs,rfl,ha,hcl,hrest⟩:=X
   refine wpAny_handleBy_cons (codeAny_handlers_test (BL (C.mark (y:=.ref a)) I.mark hf hn hbt ht hd ?_)) (by intro q;cases q)
   refine wpAny_excMatches_type ⟨oe,ha,hcl⟩ F.exc F.nt F.self ?_
   refine codeAny_handlers_suite ?_
   refine Cg (C.mark (y:=.ref a)) I.mark R hs0 X' _ λZ3 Z1 v4 w5=>?_
   obtain ⟨a',oe',vs',ea,ha',hc',hd',hsz',hna',_,_,hctx⟩:=w5
   cases ea
   have hav:a∉fm.av:=λq=>by have:=hlive a q;rw [hna'] at this;cases this
   refine aX (hh (.ref a) _ V ps _ a C.mark Z1 rfl hav ⟨oe',vs',ha',hd',hctx⟩ ns) (λf w4 z=>?_) λy w4 z=>?_
   ·exact OkS.unmark (y:=.ref a) (z.after g v4)
   ·exact E2 (y:=.ref a) C hs0 (z.after g v4)
  ·have hX:none=some hm':=(if_neg hc:(if c=T then some hm else none)=none).symm.trans hX
   exact (by cases hX)
end
section
variable {W:Wd}{fm:Fm}{V α' α₁ W1:List Addr}{h h' h₁ start:Heap}{n:Nat}{A:Around}{ps ps':PS}{s s' c0:Shared}{H:Hd}{h₀:Heap}
theorem Hx {x:Txt}(ns:aA x ps≠.stuck):x.length<=sizeLine/\aA x ps = .ok (.str x) ps:=by
 unfold aA at ns ⊢
 by_cases q:x.length<=big
 ·rw [if_pos q];exact ⟨BU▸q,rfl⟩
 ·rw [if_neg q] at ns;exact absurd rfl ns
theorem IP {i:Int}(h:small i=true):i.natAbs.log2<1920:=by
 have:i.natAbs<1073741824:=aZ h
 by_cases z:i.natAbs=0
 ·rw [z];decide
 ·have:=(Nat.log2_lt z).mpr (show i.natAbs<2 ^ 30 from this)
  exact la [_] [([2,3,0],[61])] ([2,3,0],[3841]) rfl this
theorem Nn (i:Int):txt (C7 i)=Str.ofString (toString i):=BY _
set_option tactic.hygienic true in
theorem Jx {v:Expr}{pos:Pos}{m:M PV}(hv:SimE W n fm v m):SimE W n fm (.FormattedValue v (-1) none pos) (ac m EI):=.mk λA V ps s C I ns=>by
 refine wpAny_FormattedValue_plain (Af.seq (hv A V ps s C I (Ac ns)) (λp v α₁ o0 c0 s0 d0 l0 Y0 u0=>?_) λx c0 q=>q.bind)
 rw [Ab u0] at ns ⊢
 cases p <;> (try exact absurd rfl ns)
 ·rename_i i
  obtain ⟨t,rfl⟩:=Y0.inv
  have ns':am (small i) (ae (PV.str (C7 i))) o0≠.stuck:=ns
  obtain ⟨c,e⟩:=Ah ns'
  refine aX (Q:=OkE W fm α₁ c0.heap (ae (PV.str (C7 i)) o0)) (E:=λU U=>False) ?_ (λU U q=>?_) λU U z=>z.elim
  ·refine wpAny_formatField_int (IP c) ?_
   have:=OkE.same (t:=c0.toks+1+1) s0 (RepV.str (H:=W.H) (h₀:=W.h₀) (av:=fm.av) (V:=α₁) (h:=c0.heap) (C7 i) (c0.toks+1))
   rw [Nn] at this
   exact this
  ·have eq:EI (.int i) o0=ae (PV.str (C7 i)) o0:=e
   rw [eq];exact q.after d0 l0
 ·rename_i x
  obtain ⟨t,rfl⟩:=Y0.inv
  have ns':aA x o0≠.stuck:=ns
  obtain ⟨hl,e⟩:=Hx ns'
  have eq:EI (.str x) o0 = .ok (.str x) o0:=e
  rw [eq]
  exact wpAny_formatField_str ((OkE.same' s0 (.str x t)).after d0 l0) ((OkE.same (t:=c0.toks+1) s0 (.str x c0.toks)).after d0 l0) (by rw [AN];exact hl)
set_option tactic.hygienic true in
theorem Hy {v:Expr}{pos:Pos}{m:M PV}(hv:SimE W n fm v m):SimE W n fm (.FormattedValue v 114 none pos) (ac m Hf):=.mk λA V ps s C I ns=>by
 refine wpAny_FormattedValue_repr (Af.seq (hv A V ps s C I (Ac ns)) (λp v α₁ o0 c0 s0 d0 l0 Y0 u0=>?_) λx c0 q=>q.bind)
 rw [Ab u0] at ns ⊢
 cases p <;> (try exact absurd rfl ns)
 rename_i x
 obtain ⟨t,rfl⟩:=Y0.inv
 have ns':aA (Bv x) o0≠.stuck:=ns
 obtain ⟨hl,e⟩:=Hx ns'
 have eq:Hf (.str x) o0 = .ok (.str (Bv x)) o0:=e
 have et:reprText (txt x)=txt (Bv x):=(BY _).symm
 rw [eq]
 refine pyReprObj_str ?_ (by rw [et,AN];exact hl)
 rw [et]
 exact wpAny_formatField_str ((OkE.same (t:=c0.toks+1) s0 (.str (Bv x) _)).after d0 l0) ((OkE.same (t:=c0.toks+1+1) s0 (.str (Bv x) _)).after d0 l0) (by rw [AN];exact hl)
set_option tactic.hygienic true in
theorem Qx {R0:R PV}(C:Ctx W fm n A):∀ {es:List Expr} {ms:List (M PV)},All2 (SimE W n fm) es ms->∀ (acc:Txt) (V:List Addr) (ps:PS) (s:Shared),InvS W fm V ps s->Grow W1 V start->Rel fm.stk fm.tab W1 start s.heap->R0=aB ms acc ps->R0≠.stuck ->
  Joins W.m A (ExE W fm W1 start R0) (evalEach es fm.env) (txt acc) (λout c0=>out.length<=sizeLine/\OkE W fm W1 start R0 (.str out c0.toks) { c0 with toks:=c0.toks+1 }) s:=by
 intro _ _ hS
 induction hS with
 | nil=>
  intro acc V ps s I g x e ns
  have ns':aA acc ps≠.stuck:=by rw [e] at ns;exact ns
  obtain ⟨hl,e'⟩:=Hx ns'
  refine ⟨by rw [AN];exact hl,.str acc,ps,V,e.trans e',I.tok _,g,x,.str acc _⟩
 | @cons v m es ms q qs ih=>
  intro acc V ps s I g x e ns
  have eq:R0=ac m (λv=>match v with
   | .str t=>am ((acc++t).length<=big) (aB ms (acc++t))
   | _=>ar) ps:=e
  show wpAny W.m A (eval v fm.env) _ _ s
  refine Af.seq (q A V ps s C I (Ac (eq▸ns))) (λp v α₁ o0 c0 s0 d0 l0 Y0 u0=>?_) λy c0 z=>by rw [eq];exact z.bind.after g x
  rw [Ab u0] at eq
  cases p <;> (try exact absurd eq ns)
  rename_i t
  obtain ⟨tk,rfl⟩:=Y0.inv
  have eq:R0=am ((acc++t).length<=big) (aB ms (acc++t)) o0:=eq
  have ns':am ((acc++t).length<=big) (aB ms (acc++t)) o0≠.stuck:=λz=>ns (eq.trans z)
  obtain ⟨c,e2⟩:=Ah ns'
  rw [decide_eq_true_eq] at c
  refine ⟨txt t,tk,rfl,by rw [Et,AN,<- BU];exact c,?_⟩
  rw [Et]
  exact ih (acc++t) α₁ o0 c0 s0 (g.trans d0 x) (x.trans l0 g.new) (eq.trans e2) ns
theorem DM {e1 e2:Expr}{es:List Expr}{ms:List (M PV)}{pos:Pos}(q:All2 (SimE W n fm) (e1::e2::es) ms):SimE W n fm (.JoinedStr (e1::e2::es) pos) (aB ms []):=.mk λA V ps s C I ns=>
 wpAny_JoinedStr (Qx C q [] V ps s I (.refl ..) (.refl ..) rfl ns)
end
def OC:PV->M PV
 | .int i=>ae (.int (-i))
 | _=>ar
def Ga (Y4 Z4:CmpOp)(a b:PV)(mc:M PV):M PV:=
 ac (Aq Y4 a b) λc=>ac (tst c) λt=>if t then ac mc λd=>Aq Z4 b d else ae c
def Th {K:Type}(enc:K->PV)(ks:List K)(l:List PV):M PV:=ae (.dct (ks.map enc) l)
section
variable {W:Wd}{fm:Fm}{V α' α₁ W1:List Addr}{h h' h₁ start:Heap}{n:Nat}{A:Around}{ps ps':PS}{s s' c0:Shared}{H:Hd}{h₀:Heap}
theorem Jy {e:Expr}{pos:Pos}{m:M PV}(he:SimE W n fm e m):SimE W n fm (.UnaryOp .USub e pos) (ac m OC):=.mk λA V ps s C I ns=>by
 refine wpAny_UnaryOp (Af.seq (he A V ps s C I (Ac ns)) (λa va α₁ o0 c0 s0 d0 l0 ra u0=>?_) λx c0 q=>q.bind)
 rw [Ab u0] at ns ⊢
 cases a <;> (try exact absurd rfl ns)
 obtain ⟨_,rfl⟩:=ra.inv
 exact PySem.P.neg_int ((OkE.same s0 (.int _ _)).after d0 l0)
theorem IQ {l Y0 u4:Expr}{Y4 Z4:CmpOp}{pos:Pos}{ml l6 m6:M PV}(hl:SimE W n fm l ml)(h1:SimE W n fm Y0 l6)(h2:SimE W n fm u4 m6)(hm:lastMarks [Y4,Z4] [Y0,u4]=false) :
  SimE W n fm (.Compare l [Y4,Z4] [Y0,u4] pos) (ac ml λa=>ac l6 λb=>Ga Y4 Z4 a b m6):=.mk λA V ps s C I ns=>by
 refine Compare_chain (Af.seq (hl A V ps s C I (Ac ns)) (λa va α₁ o0 c0 s0 d0 l0 ra u0=>?_) λx c0 q=>q.bind) hm
 rw [Ab u0] at ns ⊢
 refine chain_link (Af.seq (h1 A α₁ o0 c0 C s0 (Ac ns)) (λb vb X0 Y1 w0 w1 y0 W0 rb Z0=>?_) λx c0 q=>q.bind.after d0 l0)
 rw [Ab Z0] at ns ⊢
 unfold Ga at ns ⊢
 refine Af.seq (EZ Y4 A X0 Y1 w0 a b va vb C w1 (s0.stays C W0 y0 ra) rb (Ac ns)) (λc vc W4 j4 w3 Z1 u3 v3 rc Y3=>?_) λx c0 q=>(q.bind.after y0 W0).after d0 l0
 rw [Ab Y3] at ns ⊢
 obtain ⟨t,tb,et⟩:=Jo (Ac ns)
 rw [Ab et] at ns ⊢
 have hv:=DK rc tb
 subst hv
 refine wpAny_truthy_bool ?_
 cases t with
 | false=>
  simp only [false_eq_true,if_false]
  exact ((OkE.same' Z1 rc).after u3 v3 |>.after y0 W0).after d0 l0
 | true=>
  simp only [if_true] at ns ⊢
  refine chain_last (Af.seq (h2 A W4 j4 w3 C Z1 (Ac ns)) (λd vd v5 u5 w4 y5 y4 X4 rd X5=>?_) λx c0 q=>((q.bind.after u3 v3).after y0 W0).after d0 l0)
  rw [Ab X5] at ns ⊢
  have rb':=Z1.stays C X4 y4 (w1.stays C v3 u3 rb)
  exact aX (EZ Z4 A v5 u5 w4 b d vb vd C y5 rb' rd ns) (λU U q=>(((q.after y4 X4).after u3 v3).after y0 W0).after d0 l0) (λU U q=>(((q.after y4 X4).after u3 v3).after y0 W0).after d0 l0)
def Ut (W:Wd)(fm:Fm){K:Type}[DecidableEq K](knd:KeyKind W.H.prog W.H.w K)(e:Expr)(k:K):Prop:=
 ∀ A s (Q:Value->Shared->Prop) (E:Value->Shared->Prop),(∀ v tk,knd.is k v=true->Q v { s with toks:=tk })->wpAny W.m A (eval e fm.env) Q E s
theorem WA {i:Int}{k:Nat}{pos:Pos}:Ut W fm (intKind _ _) (.Constant (.int i) k pos) i:=λA s Q E h=>wpAny_Constant_int (h _ _ (intKind_is _ _ _ _))
def Fm.more (fm:Fm)(D:Addr):Fm:={ fm with av:=D::fm.av }
inductive SimD (W:Wd)(n:Nat)(fm:Fm){K:Type}[DecidableEq K](knd:KeyKind W.H.prog W.H.w K):List (Option Expr)->List Expr->List K->List (M PV)->Prop
 | nil:SimD W n fm knd [] [] [] []
 | cons {ke ve:Expr} {k:K} {m:M PV} {kes:List (Option Expr)} {ves:List Expr} {ks:List K} {ms:List (M PV)} (hk:∀ D,Ut W (fm.more D) knd ke k) (hv:∀ D,SimE W n (fm.more D) ve m) (r:SimD W n fm knd kes ves ks ms):SimD W n fm knd (some ke::kes) (ve::ves) (k::ks) (m::ms)
variable {K:Type}[DecidableEq K]{knd:KeyKind W.H.prog W.H.w K}
theorem SimD.facts:∀ {kes:List (Option Expr)} {ves:List Expr} {ks:List K} {ms:List (M PV)},SimD W n fm knd kes ves ks ms->kes.all (·.isSome)=true/\kes.length=ves.length/\kes.length=ks.length:=by
 intro _ _ _ _ hS
 induction hS with
 | nil=>

  exact ⟨rfl,rfl,rfl⟩
 | @cons ke ve k m kes ves ks ms hk hv r ih=>

  obtain ⟨h1,h2,h3⟩:=ih
  exact ⟨by simp [h1],by simp [h2],by simp [h3]⟩
theorem Qy {pos:Pos}{D:Addr}:∀ {kes:List (Option Expr)} {ves:List Expr} {ks:List K} {ms:List (M PV)},SimD W n fm knd kes ves ks ms->∀ A V ps s,Ctx W (fm.more D) n A->InvS W (fm.more D) V ps s->ah ms ps≠.stuck ->
  wpAny W.m A (evalPairs (pairTrees kes ves (fm.more D).env pos)) (λvs s'=>OkL W (fm.more D) V s.heap (ah ms ps) (vs.map (·.2)) s'/\Carries knd vs (ks.zip (vs.map (·.2)))/\vs.length=ks.length) (ExE W (fm.more D) V s.heap (ah ms ps)) s:=by
 intro _ _ _ _ hS
 induction hS with
 | nil=>
  intro A V ps s C I ns
  exact pairTrees_nil_walk ⟨⟨[],ps,V,rfl,I,.refl ..,.refl ..,.nil⟩,trivial,rfl⟩
 | @cons ke ve k m kes ves ks ms hk hv r ih=>
  intro A V ps s C I ns
  have ns':ac m (λv=>ac (ah ms) λvs=>ae (v::vs)) ps≠.stuck:=ns
  have eq:ah (m::ms) ps=ac m (λv=>ac (ah ms) λvs=>ae (v::vs)) ps:=rfl
  rw [eq]
  refine pairTrees_cons_walk (hk D A s _ _ λkv tk hkv=>?_)
  refine Af.seq (hv D A V ps { s with toks:=tk } C (I.tok tk) (Ac ns')) (λp v α₁ o0 c0 s0 d0 l0 Y0 u0=>?_) λx c0 q=>q.bind
  rw [Ab u0] at ns' ⊢
  refine aX (ih A α₁ o0 c0 C s0 (Ac ns')) (λvs w0 q=>?_) λx w0 q=>q.bind.after d0 l0
  obtain ⟨⟨l,Y1,X0,Z0,w1,y0,W0,u4⟩,hc,hl⟩:=q
  rw [Ab Z0]
  exact ⟨⟨p::l,Y1,X0,rfl,w1,d0.trans y0 l0,l0.trans W0 d0.new,.cons (s0.stays C W0 y0 Y0) u4⟩,⟨hkv,rfl,hc⟩,by simp [hl]⟩
theorem Mf (acc:List (K × Value))(k:K)(v:Value)(hn:k∉acc.map (·.1)):stored acc k v=acc++[(k,v)]:=by
 unfold stored
 rw [if_neg]
 intro q
 obtain ⟨kv,h1,h2⟩:=any_eq_true.mp q
 exact hn (mem_map.mpr ⟨kv,h1,by simpa using h2⟩)
theorem Mg (kvs:List (K × Value)):∀ (acc:List (K × Value)),((acc++kvs).map (·.1)).Nodup->merged acc kvs=acc++kvs:=by
 induction kvs with
 | nil=>intro acc _;simp [merged]
 | cons p kvs ih=>
  obtain ⟨k,v⟩:=p
  intro acc h
  have hk:k∉acc.map (·.1):=by
   intro q
   rw [map_append,nodup_append] at h
   exact h.2.2 k q k (by simp) rfl
  have:=ih (acc++[(k,v)]) (by simpa using h)
  show merged (stored acc k v) kvs=_
  rw [Mf acc k v hk,this];simp
theorem OD (enc:K->PV)(he:∀ {V:List Addr} {h:Heap} {k:K} {v:Value},knd.is k v=true->W.rep fm V h (enc k) v){ks:List K}:∀ {es:List DictEntry} {l:List PV} {vs:List Value},Pairs knd es (ks.zip vs)->ks.length=vs.length->RepL W.H W.h₀ fm.av V h l vs ->
  RepL W.H W.h₀ fm.av V h (ks.map enc) (es.map (·.key))/\RepL W.H W.h₀ fm.av V h l (es.map (·.val)):=by
 induction ks with
 | nil=>
  intro es l vs p hl r
  cases eq_nil_of_length_eq_zero hl.symm
  cases p;cases r;exact ⟨.nil,.nil⟩
 | cons k ks ih=>
  intro es l vs p hl r
  cases vs with
  | nil=>cases hl
  | cons v vs=>
   cases p with
   | cons h1 h2 p=>
    obtain ⟨_,_,rfl,r,rs⟩:=r.inv'
    obtain ⟨q1,q2⟩:=ih p (Nat.succ.inj hl) rs
    exact ⟨.cons (he h1) q1,.cons (by have h2:_=v:=h2;subst h2;exact r) q2⟩
theorem Ti {ks:List K}:∀ {vs:List Value},ks.length=vs.length->(ks.zip vs).map (·.1)=ks:=by
 induction ks with
 | nil=>exact λU=>rfl
 | cons k ks ih=>
  intro vs h
  cases vs with
  | nil=>cases h
  | cons v vs=>exact congrArg (k::·) (ih (Nat.succ.inj h))
theorem Ctx.more {D:Addr}(C:Ctx W fm n A)(hD:W.h₀.get? D=Option.none):Ctx W (fm.more D) n A:=
 ⟨C.frames,C.depth,C.units,C.hdl,C.tab,⟨C.fm.kind,C.fm.glob,C.fm.bi,mem_cons_of_mem _ C.fm.locAv,C.fm.locOwn,λa h=>mem_cons_of_mem _ (C.fm.ownAv a h),λa h=>mem_cons_of_mem _ (C.fm.frsAv a h),λa h=>by
  rcases mem_cons.mp h with q | q
  ·rw [q];exact hD
  ·exact C.fm.fresh a q,C.fm.kinds,C.fm.once,C.fm.cellOwn,C.fm.cellApart,C.fm.frame⟩,C.hd⟩
theorem InvS.more {D:Addr}(I:InvS W fm V ps s)(nD:s.heap.get? D=Option.none)(x:Rel fm.stk fm.tab V s.heap s'.heap)(J:InvS W fm V ps s')(hs:(s'.heap.get? D).isSome=true)(kp:∀ b o,s.heap.get? b=some o->s'.heap.get? b=some o):InvS W (fm.more D) V ps s':=by
 have st:∀ a∈(fm.more D).av,a∈fm.av\/s.heap.get? a=Option.none:=λa h=>by
  rcases mem_cons.mp h with q | q
  ·rw [q];exact .inr nD
  ·exact .inl q
 have nα:D∉V:=λz=>by
  obtain ⟨ws,o,e,_⟩:=I.inv.lists.isList z
  rw [nD] at e;cases e
 have pre:V <+: V:=prefix_refl _
 have rep:∀ {p v},OptRep W.H W.h₀ fm.av V s.heap p v->OptRep W.H W.h₀ (fm.more D).av V s'.heap p v:=λr=>r.map λr=>(r.strong st).keeps kp pre
 refine ⟨⟨J.inv.base,?_,λx k i hx hk=>?_,⟨I.inv.lists.len,λi l e=>?_,I.inv.lists.nodup,I.inv.lists.fresh,λa m q=>?_⟩,λa m=>?_,J.inv.frames,J.inv.tabs⟩,J.gens,J.os⟩
 ·obtain ⟨m,n1,n2⟩:=I.inv.loc
  exact ⟨m,n1.keeps kp,λx i hm=>rep (n2 x i hm)⟩
 ·obtain ⟨c,v,q1,q2,q3,⟨o,q4,q4'⟩,q5⟩:=I.inv.cel x k i hx hk
  exact ⟨c,v,q1,mem_cons_of_mem _ q2,q3,⟨o,kp _ _ q4,q4'⟩,rep q5⟩
 ·obtain ⟨a,vs,h1,h2,h3⟩:=I.inv.lists.at_ i l e
  exact ⟨a,vs,h1,h2.at (kp _),(h3.strong st).keeps kp pre⟩
 ·rcases mem_cons.mp q with q | q
  ·exact nα (q▸m)
  ·exact I.inv.lists.apart a m q
 ·rcases mem_cons.mp m with q | q
  ·rw [q];exact hs
  ·exact J.inv.live a q
theorem InvS.less {D:Addr}(I:InvS W (fm.more D) V ps s)(hD:∀ v,¬ s.heap.IsCell D v):InvS W fm V ps s:=by
 have wk:∀ a,a∈fm.av->a∈(fm.more D).av:=λa m=>mem_cons_of_mem _ m
 have rep:∀ {p v},OptRep W.H W.h₀ (fm.more D).av V s.heap p v->OptRep W.H W.h₀ fm.av V s.heap p v:=λr=>r.map λr=>r.weak wk
 refine ⟨⟨I.inv.base,?_,λx k i hx hk=>?_,⟨I.inv.lists.len,λi l e=>?_,I.inv.lists.nodup,I.inv.lists.fresh,λa m q=>I.inv.lists.apart a m (wk a q)⟩,λa m=>I.inv.live a (wk a m),I.inv.frames,I.inv.tabs⟩,I.gens,I.os⟩
 ·obtain ⟨m,n1,n2⟩:=I.inv.loc
  exact ⟨m,n1,λx i hm=>rep (n2 x i hm)⟩
 ·obtain ⟨c,v,q1,q2,q3,q4,q5⟩:=I.inv.cel x k i hx hk
  refine ⟨c,v,q1,?_,q3,q4,rep q5⟩
  rcases mem_cons.mp q2 with z | z
  ·exact absurd q4 (z▸hD v)
  ·exact z
 ·obtain ⟨a,vs,h1,h2,h3⟩:=I.inv.lists.at_ i l e
  exact ⟨a,vs,h1,h2,h3.weak wk⟩
theorem ExE.less {D:Addr}{β:Type}{r:R β}{x:Value}(hD:∀ v,¬ s'.heap.IsCell D v)(q:ExE W (fm.more D) V h r x s'):ExE W fm V h r x s':=by
 obtain ⟨e,ps',α',er,I,g,R,X⟩:=q
 exact ⟨e,ps',α',er,I.less hD,g,R,X⟩
theorem Qz (enc:K->PV)(he:∀ {V:List Addr} {h:Heap} {k:K} {v:Value},knd.is k v=true->W.rep fm V h (enc k) v)
  (fin:∀ {ks vs:List PV} {a:Addr} {o:Obj} {es:Array DictEntry} {ep:Nat} {V:List Addr} {h:Heap},(a∉fm.av/\(a==sysModules)=false)->h.get? a=some o->o.ExactDict->o.data = .dict es ep->KeysOf knd es ->
   RepL W.H W.h₀ fm.av V h ks (es.toList.map (·.key))->RepL W.H W.h₀ fm.av V h vs (es.toList.map (·.val))->W.rep fm V h (.dct ks vs) (.ref a))
  {kes:List (Option Expr)} {ves:List Expr} {ks:List K} {ms:List (M PV)} {pos:Pos} (q:SimD W n fm knd kes ves ks ms) (hn:ks.Nodup) (h0:kes≠[]) (hlen:kes.length<=15) :
  SimE W n fm (.Dict kes ves pos) (ac (ah ms) (Th enc ks)):=.mk λA V ps s C I ns=>by
 obtain ⟨f1,f2,f3⟩:=q.facts
 have nD:s.heap.get? s.heap.objs.size=none:=AH _
 have navD:s.heap.objs.size∉fm.av:=A6 I nD
 have nα:s.heap.objs.size∉V:=λz=>by
  obtain ⟨ws,o,e,_⟩:=I.inv.lists.isList z
  rw [nD] at e;cases e
 have kp:∀ b o,s.heap.get? b=some o->(s.heap.push { cls:=.type "dict",data:=.dict #[] }).get? b=some o:=λb o e=>get?_push_of_some _ e
 have nDt:s.heap.objs.size∉fm.tab:=λm=>navD (C.fm.tabAv _ m)
 have P:InvS W (fm.more s.heap.objs.size) V ps { s with heap:=s.heap.push { cls:=.type "dict",data:=.dict #[] } }:=I.more nD (.of_keeps kp) (Bm I _) (by rw [get?_push_size _ rfl];rfl) kp
 refine wpAny_Dict_walk (knd:=knd) f1 f2 h0 hlen ?_
 refine aX (Qy (D:=s.heap.objs.size) q A V ps _ (C.more (I.none _ nD)) P (Ac ns)) (λvs c0 z=>?_) λx c0 z=>?_
 rotate_left
 ·have z2:=z
  obtain ⟨_,_,_,_,_,_,Rz,_⟩:=z2
  refine ExE.less (λv hv=>?_) (z.bind.after (.refl ..) (.of_keeps kp))
  have eD:=Rz.keep _ _ (get?_push_size _ rfl) (λz=>navD (C.fm.frsAv _ z)) nDt nα
  obtain ⟨o,e1,e2⟩:=hv
  rw [eD] at e1;cases e1;cases e2
 obtain ⟨⟨l,o0,α₁,u0,s0,d0,l0,Y0⟩,hc,hl⟩:=z
 rw [Ab u0]
 have hl2:ks.length=(vs.map (·.2)).length:=by rw [length_map,hl]
 have keepD:∀ o,(s.heap.push { cls:=.type "dict",data:=.dict #[] }).get? s.heap.objs.size=some o->c0.heap.get? s.heap.objs.size=some o:=λo e=>
  l0.keep _ o e (λz=>navD (C.fm.frsAv _ z)) nDt nα
 refine ⟨ks.zip (vs.map (·.2)),hc,(Heap.DictOf.new s.heap).at keepD,λh' hd hs=>?_⟩
 rw [Mg _ [] (by rw [nil_append,Ti hl2];exact hn),nil_append] at hd
 obtain ⟨o,es,ep,ho,hx,hdt,hk,hp,_⟩:=hd
 have nsys:(s.heap.objs.size==sysModules)=false:=by
  refine aY.mpr λz=>?_
  obtain ⟨o,eo⟩:=be.mp C.hd.sysm
  have:=I.inv.base _ _ eo
  rw [<- z,nD] at this;cases this
 have mem:s.heap.objs.size∈(fm.more s.heap.objs.size).av:=mem_cons_self ..
 have hα:∀ b∈α₁,b≠s.heap.objs.size:=λb m q=>s0.inv.lists.apart b m (q▸mem)
 have J:InvS W (fm.more s.heap.objs.size) α₁ o0 { c0 with heap:=h',toks:=c0.toks+vs.length }:=by
  refine ⟨s0.inv.mine (C.more (I.none _ nD)).fm hs mem (by rw [ho];rfl) (λo' eo=>⟨(λvs q=>by rw [keepD _ (get?_push_size _ rfl)] at eo;cases eo;cases q),o,ho,λvs q=>by rw [hdt] at q;cases q⟩) rfl ?_ λx k i hx hkk=>?_,s0.gens,s0.os⟩
  ·obtain ⟨m,⟨oL,eL,epL,n1,n2,n3⟩,nr⟩:=s0.inv.loc
   have nL:fm.env.locals≠s.heap.objs.size:=λq=>navD (q▸C.fm.locAv)
   exact ⟨m,⟨oL,eL,epL,(hs.2 _ nL).trans n1,n2,n3⟩,λx i hm=>(nr x i hm).same hs mem hα⟩
  ·obtain ⟨c,v,q1,q2,q3,⟨oc,q4,q4'⟩,q5⟩:=s0.inv.cel x k i hx hkk
   refine ⟨c,v,q1,q2,q3,⟨oc,(hs.2 c λq=>?_).trans q4,q4'⟩,q5.same hs mem hα⟩
   have eD:=keepD _ (get?_push_size _ rfl)
   rw [q,eD] at q4;cases q4;cases q4'
 have x2:Rel fm.stk fm.tab V s.heap h':=by
  have x0:=(Rel.of_keeps (stk:=fm.stk) (own:=fm.tab) (V:=V) kp).trans l0 λa m q=>absurd m q
  exact ⟨λb o e m1 m2 m3=>(hs.2 b λq=>by rw [q,nD] at e;cases e).trans (x0.keep b o e m1 m2 m3),λb o e m1 m2 m3=>by
   obtain ⟨sl,e'⟩:=x0.slot b o e m1 m2 m3
   exact ⟨sl,(hs.2 b λq=>by rw [q,nD] at e;cases e).trans e'⟩,λb e=>by
   by_cases q:b=s.heap.objs.size
   ·rw [q];exact nD
   ·exact x0.live b ((hs.2 b q).symm.trans e)⟩
 obtain ⟨q1,q2⟩:=OD (fm:=fm) enc he hp hl2 (RepL.weak (λa m=>mem_cons_of_mem _ m) (RepL.same (fm:=fm.more s.heap.objs.size) hs mem hα Y0))
 exact ⟨.dct (ks.map enc) l,o0,α₁,rfl,J.less (λv hv=>by obtain ⟨oc,e1,e2⟩:=hv;rw [ho] at e1;cases e1;rw [hdt] at e2;cases e2),⟨d0.pre,λa m q=>Rel.live (Rel.of_keeps (stk:=fm.stk) (own:=fm.tab) (V:=V) kp) a (d0.new a m q)⟩,x2,fin ⟨navD,nsys⟩ ho hx hdt hk q1 q2⟩
theorem OE {kes:List (Option Expr)}{ves:List Expr}{ks:List Int}{ms:List (M PV)}{pos:Pos}(q:SimD W n fm (intKind _ _) kes ves ks ms)(hn:ks.Nodup)(h0:kes≠[])(hlen:kes.length<=15) :
  SimE W n fm (.Dict kes ves pos) (ac (ah ms) (Th .int ks)):=
 Qz .int (λh=>by obtain ⟨t,rfl⟩:=Value.isInt_shape h;exact .int _ t) (λh1 h2 h3 h4 h5 h6 h7=>.dct h1 h2 h3 h4 (.inr h5) h6 h7) q hn h0 hlen
end
def aF (js:List Nat)(m:M PV):M PV:=λs=>match m ⟨λi=>if i∈js then none else s.loc i,s.st⟩ with
 | .ok v s'=>.ok v ⟨s.loc,s'.st⟩
 | _=>.stuck
def Ig (cells:List (Str × Addr)):List (Str × NameKind)->List (Str × Addr)->List (Str × Addr)
 | [],acc=>acc
 | (x,k)::r,acc=>Ig cells r (if k==.free then (x,(cells.lookup x).getD 0)::acc else acc)
theorem Tj {env:Env}:∀ (names:List (Str × NameKind)) (acc:List (Str × Addr)),(∀ y∈names,y.2 = .free->(env.cells.lookup y.1).isSome=true) ->
  (forIn names acc λ(x:Str × NameKind) (cs:List (Str × Addr))=>(if (x.2==.free)=true then do let c <- cellOf env x.1;pure (ForInStep.yield ((x.1,c)::cs)) else pure (ForInStep.yield cs):Sem _))=pure (Ig env.cells names acc):=by
 intro names
 induction names with
 | nil=>intro acc _;rw [forIn_nil];rfl
 | cons xk r ih=>
  intro acc h
  obtain ⟨x,k⟩:=xk
  rw [forIn_cons]
  by_cases q:k = .free
  ·subst q
   obtain ⟨c,hc⟩:=be.mp (h (x,.free) mem_cons_self rfl)
   simp only at hc
   have e:cellOf env x=pure c:=by unfold cellOf;rw [hc]
   simp only [beq_self_eq_true,if_true,e,pure_bind]
   rw [ih _ λy hy=>h y (mem_cons_of_mem _ hy)]
   show _=pure (Ig env.cells r (if (NameKind.free==NameKind.free)=true then (x,(env.cells.lookup x).getD 0)::acc else acc))
   rw [hc];rfl
  ·have:(k==NameKind.free)=false:=by simpa using q
   simp only [this,false_eq_true,if_false,pure_bind]
   rw [ih _ λy hy=>h y (mem_cons_of_mem _ hy)]
   show _=pure (Ig env.cells r (if (k==.free)=true then (x,(env.cells.lookup x).getD 0)::acc else acc))
   rw [this];rfl
theorem Ih {env:Env}{scope:Scope}(h:∀ y∈scope.names,y.2 = .free->(env.cells.lookup y.1).isSome=true):closureFor scope env=pure (Ig env.cells scope.names []):=by
 have:=Tj (env:=env) scope.names [] h
 unfold closureFor
 show (forIn scope.names [] _ >>= _)=_
 have e:∀ (f g:Str × NameKind->List (Str × Addr)->Sem (ForInStep (List (Str × Addr)))),(∀ x cs,f x cs=g x cs)->(forIn scope.names [] f)=forIn scope.names [] g:=λf g h=>by
  have:f=g:=funext λx=>funext λcs=>h x cs
  rw [this]
 rw [e _ (λ(x:Str × NameKind) (cs:List (Str × Addr))=>(if (x.2==.free)=true then do let c <- cellOf env x.1;pure (ForInStep.yield ((x.1,c)::cs)) else pure (ForInStep.yield cs):Sem _)) (λx cs=>rfl),this]
 rfl
theorem Hz {cells:List (Str × Addr)}{x:Str}{c:Addr}:∀ {names:List (Str × NameKind)} {acc:List (Str × Addr)},(∀ y∈names,y.2 = .free->(cells.lookup y.1).isSome=true)->(Ig cells names acc).lookup x=some c ->
  ((x,NameKind.free)∈names/\cells.lookup x=some c)\/acc.lookup x=some c:=by
 intro names
 induction names with
 | nil=>exact λU h=>.inr h
 | cons yk r ih=>
  intro acc hs h
  obtain ⟨y,k⟩:=yk
  have ih:=ih (λy hy=>hs y (mem_cons_of_mem _ hy)) h
  rcases ih with ⟨h1,h2⟩ | ih
  ·exact .inl ⟨mem_cons_of_mem _ h1,h2⟩
  ·by_cases q:k = .free
   ·subst q
    simp only [beq_self_eq_true,if_true,lookup_cons] at ih
    by_cases z:x=y
    ·subst z
     simp only [beq_self_eq_true] at ih
     obtain ⟨c',hc'⟩:=be.mp (hs (x,.free) mem_cons_self rfl)
     simp only at hc'
     rw [hc'] at ih
     simp only [Option.getD_some] at ih
     exact .inl ⟨mem_cons_self,by rw [hc',<- ih]⟩
    ·rw [show (x==y)=false from by simpa using z] at ih
     exact .inr ih
   ·have:(k==NameKind.free)=false:=by simpa using q
    simp only [this,false_eq_true,if_false] at ih
    exact .inr ih
theorem QC {cells:List (Str × Addr)}{x:Str}:∀ {names:List (Str × NameKind)} {acc:List (Str × Addr)},((x,NameKind.free)∈names\/(acc.lookup x).isSome=true)->((Ig cells names acc).lookup x).isSome=true:=by
 intro names
 induction names with
 | nil=>
  intro acc h
  rcases h with h | h
  ·cases h
  ·exact h
 | cons yk r ih=>
  intro acc h
  obtain ⟨y,k⟩:=yk
  refine ih ?_
  by_cases q:k = .free
  ·subst q
   simp only [beq_self_eq_true,if_true,lookup_cons]
   by_cases z:x=y
   ·subst z;right;simp
   ·rw [show (x==y)=false from by simpa using z]
    rcases h with h | h
    ·rcases mem_cons.mp h with h | h
     ·injection h with h;exact absurd h z
     ·exact .inl h
    ·exact .inr h
  ·have:(k==NameKind.free)=false:=by simpa using q
   simp only [this,false_eq_true,if_false]
   rcases h with h | h
   ·rcases mem_cons.mp h with h | h
    ·injection h with _ h;exact absurd h.symm q
    ·exact .inl h
   ·exact .inr h
theorem HA {env:Env}{x:Str}{k:NameKind}{names:List (Str × NameKind)}:names.lookup x=some k ->
  (names.map λ(n,k)=>if (k==NameKind.free&&env.scope.kind==.function&&env.kindOf n==some .cell) then (n,NameKind.cell) else (n,k)).lookup x=some k \/
   (k = .free/\(names.map λ(n,k)=>if (k==NameKind.free&&env.scope.kind==.function&&env.kindOf n==some .cell) then (n,NameKind.cell) else (n,k)).lookup x=some .cell):=by
 induction names with
 | nil=>intro h;simp at h
 | cons p r ih=>
  obtain ⟨y,k'⟩:=p
  intro h
  show lookup x ((if (k'==NameKind.free&&env.scope.kind==.function&&env.kindOf y==some .cell)=true then (y,NameKind.cell) else (y,k'))::_)=_\/(_/\lookup x ((if (k'==NameKind.free&&env.scope.kind==.function&&env.kindOf y==some .cell)=true then (y,NameKind.cell) else (y,k'))::_)=_)
  cases hx:x==y with
  | true=>
   simp only [lookup_cons,hx] at h
   cases (h)
   by_cases hc:(k==NameKind.free&&env.scope.kind==.function&&env.kindOf y==some .cell)=true
   ·rw [if_pos hc]
    simp only [and_eq_true,beq_iff_eq] at hc
    exact .inr ⟨hc.1.1,by simp [lookup_cons,hx]⟩
   ·rw [if_neg hc]
    exact .inl (by simp [lookup_cons,hx])
  | false=>
   simp only [lookup_cons,hx] at h
   by_cases hc:(k'==NameKind.free&&env.scope.kind==.function&&env.kindOf y==some .cell)=true
   ·rw [if_pos hc];simp only [lookup_cons,hx];exact ih h
   ·rw [if_neg hc];simp only [lookup_cons,hx];exact ih h
structure Ci (osc:List (Str × NameKind × Nat))(scope:Scope)(sc:List (Str × NameKind × Nat))(js:List Nat):Prop where
 kind:scope.kind = .function
 noCell:∀ y∈scope.names,y.2≠.cell
 names:∀ y∈scope.names,y.2 = .local->scope.names.lookup y.1=some .local
 free:∀ y∈scope.names,y.2 = .free->∃ k i,(y.1,k,i)∈osc/\(k = .cell\/k = .free)
 look:∀ x k i,(x,k,i)∈sc->k≠.cell/\scope.names.lookup x=some k
 cap:∀ x i,(x,NameKind.free,i)∈sc->∃ k,(x,k,i)∈osc/\(k = .cell\/k = .free)
 loc:∀ x k i,(x,k,i)∈sc->(k = .local↔i∈js)
 once:∀ x k i y k' j,(x,k,i)∈sc->(y,k',j)∈sc->(i=j↔x=y)
def ciB (osc:List (Str × NameKind × Nat))(scope:Scope)(sc:List (Str × NameKind × Nat))(js:List Nat):Bool:=
 decide (scope.kind = .function)&&scope.names.all (λy=>decide (y.2≠.cell))&&scope.names.all (λy=>!decide (y.2 = .local)||decide (scope.names.lookup y.1=some .local)) &&
 scope.names.all (λy=>!decide (y.2 = .free)||osc.any λe=>decide (e.1=y.1)&&(decide (e.2.1 = .cell)||decide (e.2.1 = .free))) &&
 sc.all (λe=>decide (e.2.1≠.cell)&&decide (scope.names.lookup e.1=some e.2.1)) &&
 sc.all (λe=>!decide (e.2.1 = .free)||osc.any λo=>decide (o.1=e.1)&&decide (o.2.2=e.2.2)&&(decide (o.2.1 = .cell)||decide (o.2.1 = .free))) &&
 sc.all (λe=>decide (e.2.1 = .local)==decide (e.2.2∈js)) &&
 sc.all (λe=>sc.all λo=>decide (e.2.2=o.2.2)==decide (e.1=o.1))
theorem Ci.of {osc:List (Str × NameKind × Nat)}{scope:Scope}{sc:List (Str × NameKind × Nat)}{js:List Nat}(h:ciB osc scope sc js=true):Ci osc scope sc js:=by
 unfold ciB at h
 simp only [and_eq_true,all_eq_true,decide_eq_true_eq,or_eq_true,not_eq_true',decide_eq_false_iff_not,any_eq_true,beq_iff_eq] at h
 obtain ⟨⟨⟨⟨⟨⟨⟨h1,h2⟩,h3⟩,h4⟩,h5⟩,h6⟩,h7⟩,h8⟩:=h
 refine ⟨h1,h2,λy hy q=>(h3 y hy).resolve_left λz=>z q,λy hy q=>?_,λx k i hm=>h5 _ hm,λx i hm=>?_,λx k i hm=>?_,λx k i y k' j hm hm'=>?_⟩
 ·obtain ⟨⟨x,k,i⟩,e1,e2,e3⟩:=(h4 y hy).resolve_left λz=>z q
  exact ⟨k,i,by have e2:x=y.1:=e2;rw [<- e2];exact e1,e3⟩
 ·obtain ⟨⟨x',k,i'⟩,e1,⟨e2,e2'⟩,e3⟩:=(h6 _ hm).resolve_left λz=>z rfl
  have e2:x'=x:=e2
  have e2':i'=i:=e2'
  subst e2 e2'
  exact ⟨k,e1,e3⟩
 ·have:=h7 _ hm
  exact decide_eq_decide.mp this
 ·have:=h8 _ hm _ hm'
  exact decide_eq_decide.mp this
section
variable {W:Wd}{fm:Fm}{V α' α₁ W1:List Addr}{h h' h₁ Y2 Z3 start:Heap}{n:Nat}{A:Around}{ps ps':PS}{s s' c0:Shared}{H:Hd}{h₀:Heap}{own:List Addr}
theorem QD:∀ {es:List Expr} {ms:List (M Bool)},All2 (SimB W n fm) es ms->∀ A V ps s,Ctx W fm n A->InvS W fm V ps s->AC .And ms ps≠.stuck ->
  wpAny W.m A (forIn es true λc r=>if r=true then do let ok <- isTrue c fm.env (eval c fm.env);pure (ForInStep.yield ok) else pure (ForInStep.yield r)) (OkB W fm V s.heap (AC .And ms ps)) (ExE W fm V s.heap (AC .And ms ps)) s:=by
 intro _ _ hS
 induction hS with
 | nil=>
  intro A V ps s C I ns
  rw [forIn_nil]
  exact bk (.same I)
 | @cons e m es ms q qs ih=>
  intro A V ps s C I ns
  unfold AC at ns ⊢
  rw [forIn_cons]
  refine bj ?_
  simp only [if_true]
  refine bj (aX (q A V ps s C I (Ac ns)) (λb c0 z=>?_) (λU U z=>z.bind))
  obtain ⟨o0,α₁,u0,s0,d0,l0⟩:=z
  rw [Ab u0] at ns ⊢
  refine bk ?_
  cases b with
  | true=>exact aX (ih A α₁ o0 c0 C s0 ns) (λU U q=>q.after d0 l0) (λU U q=>q.after d0 l0)
  | false=>
   have go:∀ es:List Expr,(forIn es false λc r=>if r=true then do let ok <- isTrue c fm.env (eval c fm.env);pure (ForInStep.yield ok) else pure (ForInStep.yield r):Sem Bool)=pure false:=by
    intro es
    induction es with
    | nil=>rw [forIn_nil]
    | cons e es ih=>
     rw [forIn_cons]
     simp only [false_eq_true,if_false,pure_bind]
     exact ih
   show wpAny W.m A (forIn es false _) _ _ _
   rw [go]
   exact bk ⟨o0,α₁,rfl,s0,d0,l0⟩
theorem Rel.fresh {stk:List Env}{tab:List Addr}(x:Rel stk tab V h₁ Y2)(y:Rel stk own α' Y2 Z3)(n:∀ a∈α',a∉V->h₁.get? a=none)(f:∀ a∈own,a∈tab\/h₁.get? a=none):Rel stk tab V h₁ Z3:=by
 have q:∀ b o,h₁.get? b=some o->b∉V->b∉α':=λb o e h1 h2=>by rw [n b h2 h1] at e;cases e
 have q2:∀ b o,h₁.get? b=some o->b∉tab->b∉own:=λb o e nt h2=>by rw [(f b h2).resolve_left nt] at e;cases e
 refine ⟨λb o e h1 h2 h3=>y.keep b o (x.keep b o e h1 h2 h3) h1 (q2 b o e h2) (q b o e h3),λb o e h1 h2 h3=>?_,λb e=>x.live b (y.live b e)⟩
 obtain ⟨sl,Z0⟩:=x.slot b o e h1 h2 h3
 obtain ⟨sl',Y3⟩:=y.slot b _ Z0 h1 (q2 b o e h2) (q b o e h3)
 exact ⟨sl',Y3⟩
theorem InvS.poke (F:FmOk W.h₀ fm)(I:InvS W fm V ps s){a:Addr}(m:a∈fm.av)(nl:a≠fm.env.locals)(nc:∀ v,¬ s.heap.IsCell a v)(nf:∀ o vs,s.heap.get? a=some o->o.data≠.fields vs)(S:Heap.SameBut a s.heap h'){o:Obj}(ho:h'.get? a=some o)(hd:∀ vs,o.data≠.fields vs){tk:Nat} :
  InvS W fm V ps { s with heap:=h',toks:=tk }:=by
 have hα:∀ b∈V,b≠a:=λb m' q=>I.inv.lists.apart b m' (q▸m)
 refine ⟨I.inv.mine F S m (by rw [ho];rfl) (λo' eo=>⟨λvs=>nf o' vs eo,o,ho,hd⟩) rfl ?_ λx k i hx hkk=>?_,I.gens,I.os⟩
 ·obtain ⟨mm,⟨oL,eL,epL,n1,n2,n3⟩,nr⟩:=I.inv.loc
  exact ⟨mm,⟨oL,eL,epL,(S.2 _ nl.symm).trans n1,n2,n3⟩,λx i hm=>(nr x i hm).same S m hα⟩
 ·obtain ⟨c,v,q1,q2,q3,q4,q5⟩:=I.inv.cel x k i hx hkk
  refine ⟨c,v,q1,q2,q3,?_,q5.same S m hα⟩
  have:c≠a:=λq=>nc v (q▸q4)
  obtain ⟨oc,e1,e2⟩:=q4
  exact ⟨oc,(S.2 c this).trans e1,e2⟩
def AK (fm:Fm)(scope:Scope)(sc:List (Str × NameKind × Nat))(D C:Addr):Fm:=
 { env:=compEnvC scope (Ig fm.env.cells scope.names []) C fm.env,stk:=fm.stk,av:=D::C::fm.av,own0:=[C],tab:=fm.tab,sc:=sc,hdl:=fm.hdl }
theorem Ci.cells {scope:Scope}{sc:List (Str × NameKind × Nat)}{js:List Nat}(ci:Ci fm.sc scope sc js)(I:InvS W fm V ps s):∀ y∈scope.names,y.2 = .free->(fm.env.cells.lookup y.1).isSome=true:=λy hy q=>by
 obtain ⟨k,i,h1,h2⟩:=ci.free y hy q
 obtain ⟨c,v,q1,_⟩:=I.inv.cel _ _ _ h1 h2
 rw [q1];rfl
theorem OF {scope:Scope}{sc:List (Str × NameKind × Nat)}{js:List Nat}{D C:Addr}(ci:Ci fm.sc scope sc js)(F:FmOk W.h₀ fm)(I:InvS W fm V ps s)(hD:W.h₀.get? D=none)(hC:W.h₀.get? C=none):FmOk W.h₀ (AK fm scope sc D C) where
 kind:=ci.kind
 glob:=F.glob
 bi:=F.bi
 locAv:=mem_cons_of_mem _ (mem_cons_self ..)
 locOwn:=mem_append_right _ (mem_cons_self ..)
 ownAv:=λa h=>by
  rcases mem_append.mp h with h | h
  ·exact mem_cons_of_mem _ (mem_cons_of_mem _ (F.tabAv a h))
  ·rw [mem_singleton.mp h];exact mem_cons_of_mem _ (mem_cons_self ..)
 frsAv:=λa h=>mem_cons_of_mem _ (mem_cons_of_mem _ (F.frsAv a h))
 fresh:=λa h=>by
  rcases mem_cons.mp h with q | q
  ·rw [q];exact hD
  ·rcases mem_cons.mp q with q | q
   ·rw [q];exact hC
   ·exact F.fresh a q
 kinds:=λx k i hm=>HA (ci.look x k i hm).2
 once:=ci.once
 cellOwn:=λx i c hm U=>absurd rfl (ci.look x _ i hm).1
 cellApart:=λx k i y k' j c h1 h2 h3 h4=>by
  have hs:=ci.cells I
  obtain ⟨a1,a2⟩:=(Hz hs h3).resolve_right (by simp)
  obtain ⟨b1,b2⟩:=(Hz hs h4).resolve_right (by simp)
  obtain ⟨kx,ix,ex,_⟩:=ci.free _ a1 rfl
  obtain ⟨ky,iy,ey,_⟩:=ci.free _ b1 rfl
  exact F.cellApart _ _ _ _ _ _ _ ex ey a2 b2
 frame:=F.frame
end
section
variable {W:Wd}{fm:Fm}{V α' α₁ X0 W1:List Addr}{h h' h₁ Y2 Z3 start:Heap}{n:Nat}{A:Around}{ps ps':PS}{s s' c0 w0:Shared}{H:Hd}{h₀:Heap}{own:List Addr}
theorem QE {js:List Nat}{m:M PV}(ns:aF js m ps≠.stuck):∃ v s',m ⟨λi=>if i∈js then none else ps.loc i,ps.st⟩ = .ok v s'/\aF js m ps = .ok v ⟨ps.loc,s'.st⟩:=by
 unfold aF at ns ⊢
 cases q:m ⟨λi=>if i∈js then none else ps.loc i,ps.st⟩ with
 | ok v s'=>exact ⟨v,s',rfl,rfl⟩
 | ex e s'=>rw [q] at ns;exact absurd rfl ns
 | stuck=>rw [q] at ns;exact absurd rfl ns
theorem Mj {scope:Scope}{sc:List (Str × NameKind × Nat)}{js:List Nat}{D C:Addr}(ci:Ci fm.sc scope sc js)(F:FmOk W.h₀ fm)(I:InvS W fm V ps s)(hD:s.heap.get? D=none)(hC:s.heap.get? C=none)
  (kp:∀ b o,s.heap.get? b=some o->h₁.get? b=some o) (hns:h₁.Ns C λU=>none) (hDl:(h₁.get? D).isSome=true) {tk:Nat} :
  InvS W (AK fm scope sc D C) V ⟨λi=>if i∈js then none else ps.loc i,ps.st⟩ { s with heap:=h₁,toks:=tk }:=by
 have st:∀ a∈(AK fm scope sc D C).av,a∈fm.av\/s.heap.get? a=Option.none:=λa h=>by
  rcases mem_cons.mp h with q | q
  ·rw [q];exact .inr hD
  ·rcases mem_cons.mp q with q | q
   ·rw [q];exact .inr hC
   ·exact .inl q
 have pre:V <+: V:=prefix_refl _
 have rep:∀ {p v},OptRep W.H W.h₀ fm.av V s.heap p v->OptRep W.H W.h₀ (AK fm scope sc D C).av V h₁ p v:=λr=>r.map λr=>(r.strong st).keeps kp pre
 have nα:∀ b,s.heap.get? b=none->b∉V:=λb e z=>by
  obtain ⟨ws,o,e',_⟩:=I.inv.lists.isList z
  rw [e] at e';cases e'
 refine ⟨⟨λb o e=>kp b o (I.inv.base b o e),⟨_,hns,λx i hm=>?_⟩,λx k i hm hk=>?_,⟨I.inv.lists.len,λi l e=>?_,I.inv.lists.nodup,I.inv.lists.fresh,λa m q=>?_⟩,λa m=>?_,?_,?_⟩,I.gens,I.os⟩
 ·have:=(ci.loc x _ i hm).mp rfl
  simp only [this,if_true]
  exact .none
 ·have hk:k = .free:=hk.resolve_left (ci.look x k i hm).1
  subst hk
  obtain ⟨k',h1,h2⟩:=ci.cap x i hm
  obtain ⟨c,v,q1,q2,q3,⟨o,q4,q4'⟩,q5⟩:=I.inv.cel x k' i h1 h2
  have hin:(x,NameKind.free)∈scope.names:=mem_of_lookup (ci.look x _ i hm).2
  obtain ⟨c',hc'⟩:=be.mp (QC (cells:=fm.env.cells) (acc:=[]) (.inl hin))
  obtain ⟨_,e2⟩:=(Hz (ci.cells I) hc').resolve_right (by simp)
  rw [q1] at e2;cases e2
  have nj:i∉js:=λz=>by have:=(ci.loc x _ i hm).mpr z;cases this
  refine ⟨c,v,hc',mem_cons_of_mem _ (mem_cons_of_mem _ q2),λq=>?_,⟨o,kp _ _ q4,q4'⟩,?_⟩
  ·have:s.heap.get? C=some o:=by rw [<- (show c=C from q)];exact q4
   rw [hC] at this;cases this
  ·simp only [nj,if_false]
   exact rep q5
 ·obtain ⟨a,vs,h1,h2,h3⟩:=I.inv.lists.at_ i l e
  exact ⟨a,vs,h1,h2.at (kp _),(h3.strong st).keeps kp pre⟩
 ·rcases st a q with z | z
  ·exact I.inv.lists.apart a m z
  ·exact nα a z m
 ·rcases mem_cons.mp m with q | q
  ·rw [q];exact hDl
  ·rcases mem_cons.mp q with q | q
   ·obtain ⟨o,_,_,e,_⟩:=hns
    rw [q,e];rfl
   ·obtain ⟨o,e⟩:=be.mp (I.inv.live a q)
    rw [kp a o e];rfl
 ·exact I.inv.frames.of_keeps λb o e U=>⟨o,kp b o e,rfl⟩
 ·exact λP hP=>(I.inv.tabs P hP).keeps kp
theorem FunFrames.but {a:Addr}(S:Heap.SameBut a h h'){l:List Env}(nb:∀ b∈frs l,b≠a)(x:h.FunFrames ⟨#[],{}⟩ l):h'.FunFrames ⟨#[],{}⟩ l:=by
 induction l with
 | nil=>exact trivial
 | cons env rest ih=>
  obtain ⟨h1,⟨L,o,h2,h3,h4,h5⟩,h6⟩:=x
  have e:frs (env::rest)=L::frs rest:=by unfold frs;rw [filterMap_cons,h2]
  rw [e] at nb
  exact ⟨h1,⟨L,o,h2,h3,(S.2 L (nb L (mem_cons_self ..))).trans h4,h5⟩,ih (λb m=>nb b (mem_cons_of_mem _ m)) h6⟩
theorem KN {scope:Scope}{sc:List (Str × NameKind × Nat)}{D C:Addr}{acc:List PV}{vs:List Value}(F:FmOk W.h₀ fm)(I:InvS W fm V ps s)(hD:s.heap.get? D=none)(hC:s.heap.get? C=none)(hDC:D≠C)
  (J:InvS W (AK fm scope sc D C) α' ps' s') (g:Grow V α' s.heap) (R:Rel fm.stk fm.tab V s.heap s'.heap) (hl:s'.heap.PlainList D vs.toArray) (rl:RepL W.H W.h₀ (AK fm scope sc D C).av α' s'.heap acc vs) (S:Heap.SameBut C s'.heap h') :
  InvS W fm (α'++[D]) ⟨ps.loc,ps'.st++[acc]⟩ { s' with heap:=h' }/\Grow V (α'++[D]) s.heap/\Rel fm.stk fm.tab V s.heap h'/\(α'++[D])[ps'.st.length]? = some D:=by
 have wk:∀ a,a∈fm.av->a∈(AK fm scope sc D C).av:=λa m=>mem_cons_of_mem _ (mem_cons_of_mem _ m)
 have mC:C∈(AK fm scope sc D C).av:=mem_cons_of_mem _ (mem_cons_self ..)
 have mD:D∈(AK fm scope sc D C).av:=mem_cons_self ..
 have hαC:∀ b∈α',b≠C:=λb m q=>J.inv.lists.apart b m (q▸mC)
 have hαD:D∉α':=λm=>J.inv.lists.apart D m mD
 have CH:∀ b o,s.heap.get? b=some o->b≠C:=λb o e q=>by rw [q,hC] at e;cases e
 have nfC:∀ o vs,s'.heap.get? C=some o->o.data≠.fields vs:=λo vs e q=>by
  obtain ⟨mm,⟨oL,eL,epL,n1,n2,_⟩,_⟩:=J.inv.loc
  rw [show s'.heap.get? C=some oL from n1] at e;cases e
  rw [n2] at q;cases q
 have R':Rel fm.stk fm.tab V s.heap h':=⟨λb o e m1 m2 m3=>(S.2 b (CH b o e)).trans (R.keep b o e m1 m2 m3),λb o e m1 m2 m3=>by
   obtain ⟨sl,e'⟩:=R.slot b o e m1 m2 m3
   exact ⟨sl,(S.2 b (CH b o e)).trans e'⟩,λb e=>by
   by_cases q:b=C
   ·rw [q];exact hC
   ·exact R.live b ((S.2 b q).symm.trans e)⟩
 have g':Grow V (α'++[D]) s.heap:=⟨g.pre.trans (prefix_append _ _),λa m q=>by
  rcases mem_append.mp m with m | m
  ·exact g.new a m q
  ·rw [mem_singleton.mp m];exact hD⟩
 have fr:h'.FunFrames ⟨#[],{}⟩ fm.stk:=by
  refine FunFrames.but S (λb m q=>?_) J.inv.frames
  have:=I.inv.live b (F.frsAv b m)
  rw [q,hC] at this;cases this
 have stp:α' <+: α'++[D]:=prefix_append _ _
 have kk:∀ b o,h'.get? b=some o->h'.get? b=some o:=λU U e=>e
 have lift:∀ {l:List PV} {ws:List Value},RepL W.H W.h₀ (AK fm scope sc D C).av α' s'.heap l ws->RepL W.H W.h₀ fm.av (α'++[D]) h' l ws:=λr=>
  RepL.keeps kk stp (RepL.weak wk (RepL.same (fm:=AK fm scope sc D C) S mC hαC r))
 refine ⟨⟨I.inv.carry F R' ⟨by simp [J.inv.lists.len],λi l e=>?_,?_,λa m=>?_,λa m q=>?_⟩ g' fr λP hP=>(J.inv.tabs P hP).same S nfC,J.gens,J.os⟩,g',R',?_⟩
 ·by_cases hi:i<ps'.st.length
  ·rw [getElem?_append_left hi] at e
   obtain ⟨a,ws,q1,⟨k,q2⟩,q3⟩:=J.inv.lists.at_ i l e
   exact ⟨a,ws,by rw [getElem?_append_left (by rw [J.inv.lists.len];exact hi)];exact q1,⟨k,(S.2 a (hαC a (mem_of_getElem? q1))).trans q2⟩,lift q3⟩
  ·have:i=ps'.st.length:=by
    have:=(bf.mp e).1
    simp at this;exact bg (la [_,_] [([2,3,0],[4,3,0])] ([2],[4]) rfl this) (la [_,_] [([2],[4])] ([2],[4]) rfl (Nat.not_lt.mp hi))
   subst this
   rw [getElem?_append_right (Nat.le_refl _)] at e
   simp at e
   subst e
   obtain ⟨k,q2⟩:=hl
   exact ⟨D,vs,by rw [<- J.inv.lists.len,getElem?_append_right (Nat.le_refl _)];simp,⟨k,(S.2 D hDC).trans q2⟩,lift rl⟩
 ·rw [nodup_append]
  exact ⟨J.inv.lists.nodup,by simp,λx hx y hy=>by simp at hy;subst hy;exact λe=>hαD (e▸hx)⟩
 ·rcases mem_append.mp m with q | q
  ·exact J.inv.lists.fresh a q
  ·rw [mem_singleton.mp q];exact I.none _ hD
 ·rcases mem_append.mp m with p | p
  ·exact J.inv.lists.apart a p (wk a q)
  ·rw [mem_singleton.mp p] at q
   have:=I.inv.live D q
   rw [hD] at this;cases this
 ·rw [<- J.inv.lists.len,getElem?_append_right (Nat.le_refl _)];simp
theorem E4 {D:Addr}{ws:Array Value}(R:Rel fm.stk own V h h')(x:h.PlainList D ws)(n1:D∉frs fm.stk)(n2:D∉own)(n3:D∉V):h'.PlainList D ws:=by
 obtain ⟨k,e⟩:=x
 exact ⟨k,R.keep D _ e n1 n2 n3⟩
inductive CompI (W:Wd)(fm F:Fm)(X0:List Addr)(B:Heap)(D:Addr)(St:Nat->Heap->Prop)(run:Nat->Nat->List PV->PS->Prop)(k:Nat)(s':Shared):Prop
 | mk (i:Nat) (ps':PS) (α':List Addr) (acc:List PV) (vs:List Value) (e:run k i acc ps') (I:InvS W F α' ps' s') (g:Grow X0 α' B) (x:Rel fm.stk fm.tab X0 B s'.heap) (l:s'.heap.PlainList D vs.toArray) (r:RepL W.H W.h₀ F.av α' s'.heap acc vs) (t:St i s'.heap):CompI W fm F X0 B D St run k s'
end
structure MethAt (T id:String)(name:Str):Prop where
 pa:PlainAttrs T
 slot:Slot T name id
 ty:typeOf (.builtin id)=pure (.type "method_descriptor")
def B7:PV->Bool
 | .str _=>true
 | _=>false
def DN:PV->Bool
 | .lst _=>true
 | _=>false
def IR:PV->Bool
 | .fset _=>true
 | _=>false
def HB (sep:Txt):List Txt->Txt
 | []=>[]
 | t::r=>r.foldl (λacc p=>acc++sep++p) t
def DO:List PV->Option (List Txt)
 | []=>some []
 | p::r=>(asS p).bind λs=>(DO r).map (s::·)
def Eb (l:List Txt):Nat:=(l.map (·.length)).sum
def CP (v:PV)(l:List PV):M PV:=ap (asL v) λi=>aI l λx=>ac (aq i) λl=>am (l.length+1<=big) (ac (aG i (l++[x])) λU=>ae .none)
def No (v:PV)(l:List PV):M PV:=ap (asS v) λsep=>aI l λp=>ap (asL p) λi=>ac (aq i) λl=>ac (aw (DO l)) λts=>am (Eb ts+ts.length*sep.length<=big) (ae (.str (HB sep ts)))
def findFrom (x y:Txt)(lo:Nat):Option Nat:=(range' lo (x.length+1 - lo)).find? λi=>decide (i+y.length<=x.length)&&((x.drop i).take y.length==y)
def VX (l:List PV):Option (Txt × Option Int):=un l λp r=>(asS p).bind λs=>match r with
 | []=>some (s,none)
 | q::r=>(asI q).bind λi=>cond r.isEmpty (some (s,some i)) none
theorem Tk {l:List PV}{x:Txt × Option Int}(h:VX l=some x):(l=[.str x.1]/\x.2=none)\/∃ i,l=[.str x.1,.int i]/\x.2=some i:=by
 obtain ⟨p,r,rfl,h⟩:=Ha h
 obtain ⟨s,e,h⟩:=aW.mp h
 rw [Bf e]
 cases r with
 | nil=>obtain rfl:=aU h;exact .inl ⟨rfl,rfl⟩
 | cons q r=>
  obtain ⟨i,e',h⟩:=aW.mp h
  obtain ⟨e1,rfl⟩:=Hb h
  rw [AW e',e1]
  exact .inr ⟨i,rfl,rfl⟩
def E5 (hd:Bool)(v:PV)(l:List PV):M PV:=ap (asS v) λx=>ap (VX l) λy=>match y.2 with
 | none=>(match findFrom x y.1 0 with
  | some i=>ae (.int i)
  | none=>ar)
 | some p=>am (0<=p&&small p) (match findFrom x y.1 p.toNat with
  | some i=>ae (.int i)
  | none=>aJ hd "ValueError")
section
variable {W:Wd}{fm:Fm}{V α' α₁ X0 W1:List Addr}{h h' h₁ Y2 Z3 start:Heap}{n:Nat}{A:Around}{ps ps':PS}{s s' c0 w0:Shared}{H:Hd}{h₀:Heap}{own:List Addr}
def KO (W:Wd)(fm:Fm)(K:PV->Bool)(T:String):Prop:=∀ n A V ps s p v,Ctx W fm n A->InvS W fm V ps s->K p=true->W.rep fm V s.heap p v->s.TypeIs v T/\(∀ a,v = .ref a->∃ ob,s.heap.get? a=some ob/\ob.dict=none)
theorem Gb {p:PV}(h:B7 p=true):∃ x,p = .str x:=by
 cases p with
 | str x=>exact ⟨x,rfl⟩
 | _=>cases h
theorem QF {p:PV}(h:DN p=true):∃ i,p = .lst i:=by
 cases p with
 | lst i=>exact ⟨i,rfl⟩
 | _=>cases h
theorem QG {p:PV}(h:IR p=true):∃ k,p = .fset k:=by
 cases p with
 | fset k=>exact ⟨k,rfl⟩
 | _=>cases h
abbrev OpMeth.T (W:Wd)(n:Nat)(fm:Fm)(K:PV->Bool)(id:String)(g:PV->List PV->M PV):Prop:=∀ A V ps s p v l vs,Ctx W fm n A->InvS W fm V ps s->K p=true->W.rep fm V s.heap p v->RepL W.H W.h₀ fm.av V s.heap l vs->g p l ps≠.stuck->Af W fm A V ps s (call (.builtin id) (v::vs)) (g p l)
structure OpMeth (W:Wd)(n:Nat)(fm:Fm)(K:PV->Bool)(id:String)(g:PV->List PV->M PV):Prop where
 go:OpMeth.T W n fm K id g
noncomputable instance {W:Wd} {n:Nat} {fm:Fm} {K:PV->Bool} {id:String} {g:PV->List PV->M PV}:CoeFun (OpMeth W n fm K id g) (λU=>OpMeth.T W n fm K id g):=⟨OpMeth.go⟩
theorem Dp:KO W fm B7 "str":=λn A V ps s p v C I hK r=>by
 obtain ⟨x,rfl⟩:=Gb hK
 obtain ⟨_,rfl⟩:=r.inv
 exact ⟨typeIs_str _ _ _,λU e=>(by cases e)⟩
theorem Ec:KO W fm DN "list":=λn A V ps s p v C I hK r=>by
 obtain ⟨i,rfl⟩:=QF hK
 obtain ⟨a,rfl,hi⟩:=r.inv
 ·have lt:=(bf.mp hi).1
  obtain ⟨a',vs,h1,h2,_⟩:=I.inv.lists.at_ i _ (getElem?_eq_getElem (I.inv.lists.len▸lt))
  obtain rfl:=aU (hi.symm.trans h1)
  obtain ⟨k,eo⟩:=h2
  exact ⟨⟨_,eo,rfl⟩,λb eb=>by cases eb;exact ⟨_,eo,rfl⟩⟩
theorem Np:KO W fm IR "frozenset":=λn A V ps s p v C I hK r=>by
 obtain ⟨x,rfl⟩:=QG hK
 obtain ⟨_,rfl,e⟩:=r.inv
 ·obtain ⟨m,⟨es,ep,t,ho,_⟩,_⟩:=C.hd.set I.inv.base _ e
  exact ⟨⟨_,ho,rfl⟩,λb eb=>by cases eb;exact ⟨_,ho,rfl⟩⟩
theorem QH {o:Expr}{name:Str}{apos pos:Pos}{es:List Expr}{mo:M PV}{ms:List (M PV)}{g:PV->List PV->M PV}{K:PV->Bool}{T id:String}(ho:SimE W n fm o mo)(q:SimL W n fm es ms)(Ma:MethAt T id name)(KT:KO W fm K T)(op:OpMeth W n fm K id g)
  (hbase:∀ env,attributeBase o name env (eval o env)=eval o env) (hlen:es.length<30) (hline:(apos.endLine==pos.line)=true) :
  SimE W n fm (.Call (.Attribute o name apos) es [] pos) (ac mo λp=>am (K p) (ac (ah ms) (g p))):=.mk λA V ps s C I ns=>by
 have hpl:(backTo pos (starEach es fm.env)).all (λx=>!x.1)=true:=by
  have:=q.plain (pos:=pos) fm.env
  rw [List.any_eq_false] at this
  rw [all_eq_true]
  intro x hx
  simpa using this x hx
 refine wpAny_Call_method_lateS (hbase _) (by rw [hpl];exact decide_eq_true hlen) hline (Af.seq (ho A V ps s C I (Ac ns)) (λp v α₁ o0 c0 s0 d0 l0 Y0 u0=>?_) λx c0 q=>q.bind)
 rw [Ab u0] at ns ⊢
 obtain ⟨c,e⟩:=Ah ns
 rw [e] at ns ⊢
 obtain ⟨k1,k2⟩:=KT n A α₁ o0 c0 p v C s0 c Y0
 refine ⟨T,id,Ma.pa,Ma.slot,Ma.ty,k1,k2,?_⟩
 refine Calls.callWith_builtin (q.plain _) (A3 (q.plain _) (aX (CX q A α₁ o0 c0 C s0 (Ac ns)) (λvs w0 z=>?_) λx c0 z=>z.bind.after d0 l0))
 obtain ⟨l,Y1,X0,Z0,w1,y0,W0,u4⟩:=z
 rw [Ab Z0] at ns ⊢
 exact aX (op A X0 Y1 w0 p v l vs C w1 c (s0.stays C W0 y0 Y0) u4 ns) (λU U q=>(q.after y0 W0).after d0 l0) (λU U q=>(q.after y0 W0).after d0 l0)
theorem KP {av:List Addr}{a:Addr}(S:Heap.SameBut a h h')(hl:∃ ws,h.IsList a ws):(∀ {p:PV} {v:Value},RepV H h₀ av V h p v->RepV H h₀ av V h' p v)/\∀ {l:List PV} {vs:List Value},RepL H h₀ av V h l vs->RepL H h₀ av V h' l vs:=by
 refine DH (λb vs hn hi=>⟨hn,?_⟩) (λi a hi=>hi) λb o es ep hn ho hx hd=>⟨hn,(S.2 _ λq=>?_).trans ho⟩
 ·obtain ⟨o,e1,e2⟩:=hi
  refine ⟨o,(S.2 _ λq=>?_).trans e1,e2⟩
  obtain ⟨ws,hl⟩:=hl
  exact Dn ⟨o,e1,e2⟩ (q▸hl)
 ·obtain ⟨ws,o',e1,e2,_⟩:=hl
  rw [<- q,ho] at e1;cases e1
  rw [hx.1] at e2;exact absurd e2 (by decide)
theorem RepV.butL {av:List Addr}{a:Addr}(S:Heap.SameBut a h h')(hl:∃ ws,h.IsList a ws){p:PV}{v:Value}(x:RepV H h₀ av V h p v):RepV H h₀ av V h' p v:=(KP S hl).1 x
theorem RepL.butL {av:List Addr}{a:Addr}(S:Heap.SameBut a h h')(hl:∃ ws,h.IsList a ws){l:List PV}{vs:List Value}(x:RepL H h₀ av V h l vs):RepL H h₀ av V h' l vs:=(KP S hl).2 x
theorem InvS.setLst (F:FmOk W.h₀ fm)(I:InvS W fm V ps s){i:Nat}{a:Addr}{l:List PV}{vs ws:List Value}(hi:V[i]? = some a)(hl:s.heap.PlainList a vs.toArray)(S:Heap.SameBut a s.heap h')(hl':h'.PlainList a ws.toArray)(r:RepL W.H W.h₀ fm.av V s.heap l ws){tk:Nat} :
  InvS W fm V { ps with st:=ps.st.set i l } { s with heap:=h',toks:=tk }/\Rel fm.stk fm.tab V s.heap h':=by
 have hL:∃ ws,s.heap.IsList a ws:=⟨_,hl.isList⟩
 have ma:=mem_of_getElem? hi
 have nav:a∉fm.av:=I.inv.lists.apart a ma
 have rep:∀ {p v},OptRep W.H W.h₀ fm.av V s.heap p v->OptRep W.H W.h₀ fm.av V h' p v:=λr=>by
  match r with
  | .none=>exact .none
  | .some r=>exact .some (r.butL S hL)
 have nfr:a∉frs fm.stk:=λm=>nav (F.frsAv _ m)
 have lt:=(bf.mp hi).1
 refine ⟨⟨⟨λb o e=>(S.2 b λq=>?_).trans (I.inv.base b o e),?_,λx k i hx hkk=>?_,⟨by simp [I.inv.lists.len],λj l' e=>?_,I.inv.lists.nodup,I.inv.lists.fresh,I.inv.lists.apart⟩,λb m=>?_,?_,λP hP=>(I.inv.tabs P hP).same S λo vs e q=>by
  obtain ⟨k,e'⟩:=hl
  rw [e'] at e;cases e;cases q⟩,I.gens,I.os⟩,⟨λb o e U U m=>(S.2 b λq=>m (q▸ma)).trans e,λb o e m U m2=>⟨o.slots,(S.2 b λq=>m2 (q▸ma)).trans e⟩,λb e=>?_⟩⟩
 ·rw [q,I.inv.lists.fresh a ma] at e;cases e
 ·obtain ⟨mm,⟨oL,eL,epL,n1,n2,n3⟩,nr⟩:=I.inv.loc
  exact ⟨mm,⟨oL,eL,epL,(S.2 _ λq=>nav (q▸F.locAv)).trans n1,n2,n3⟩,λx i hm=>rep (nr x i hm)⟩
 ·obtain ⟨c,v,q1,q2,q3,⟨oc,q4,q4'⟩,q5⟩:=I.inv.cel x k i hx hkk
  exact ⟨c,v,q1,q2,q3,⟨oc,(S.2 c λq=>nav (q▸q2)).trans q4,q4'⟩,rep q5⟩
 ·by_cases q:j=i
  ·subst q
   rw [List.getElem?_set_self (by rw [<- I.inv.lists.len];exact lt)] at e
   cases e
   exact ⟨a,ws,hi,hl',r.butL S hL⟩
  ·rw [getElem?_set_ne (Ne.symm q)] at e
   obtain ⟨b,us,h1,⟨k,h2⟩,h3⟩:=I.inv.lists.at_ j l' e
   have:b≠a:=λz=>by
    subst z
    have lj:=(bf.mp h1).1
    exact q ((List.getElem?_inj lj I.inv.lists.nodup).mp (h1.trans hi.symm))
   exact ⟨b,us,h1,⟨k,(S.2 b this).trans h2⟩,h3.butL S hL⟩
 ·by_cases q:b=a
  ·exact absurd m (q▸nav)
  ·rw [S.2 b q];exact I.inv.live b m
 ·exact FunFrames.but S (λb m q=>nfr (q▸m)) I.inv.frames
 ·by_cases q:b=a
  ·obtain ⟨k,e'⟩:=hl'
   rw [q,e'] at e;cases e
  ·rwa [S.2 b q] at e
theorem CA:MethAt "list" "list.append" "append":=⟨by first | exact PySem.F.plainAttrs_list | exact F.plainAttrs_list,slot_list_append,by first | exact F.type_list_append | (rw [typeOf_builtin];kernel_rfl)⟩
theorem Dq:OpMeth W n fm DN "list.append" CP:=.mk λA V ps s p v l vs C I hK r rl ns=>by
 obtain ⟨i,rfl⟩:=QF hK
 obtain ⟨x,vx,rfl,rfl,rx,nq⟩:=Fx (f:=λx=>ac (aq i) λl=>am (l.length+1<=big) (ac (aG i (l++[x])) λU=>ae PV.none)) rl ns
 ··have ns':ac (aq i) (λl=>am (l.length+1<=big) (ac (aG i (l++[x])) λU=>ae PV.none)) ps≠.stuck:=ns
   obtain ⟨l,e1,e2⟩:=A5 (Ac ns')
   rw [Ab e2] at ns'
   obtain ⟨c,e3⟩:=Ah ns'
   rw [decide_eq_true_eq] at c
   have e4:aG i (l++[x]) ps = .ok () { ps with st:=ps.st.set i (l++[x]) }:=by
    unfold aG;rw [if_pos (by simpa using c)]
   have e5:CP (.lst i) [x] ps = .ok PV.none { ps with st:=ps.st.set i (l++[x]) }:=(Ab e2).trans (e3.trans (Ab e4))
   obtain ⟨a,ws,rfl,hi,hl,rw'⟩:=Ng I r e1
   unfold Af
   rw [e5]
   refine wpAny_list_append_plain hl (λh' hl' S=>?_) (by rw [size_toArray,<- rw'.length,<- BU];lia)
   obtain ⟨J,R⟩:=I.setLst (l:=l++[x]) (ws:=ws++[vx]) (tk:=s.toks) C.fm hi hl S (by simpa using hl') (rw'.append (.cons rx .nil))
   exact ⟨.none,_,V,rfl,J,.refl ..,R,.none⟩
end
end Mi
end
section
open PySem PySem.W PyProof.Rows
open PySem.Builtin PySem.Builtin.Str
set_option maxRecDepth 10000
namespace Mi
section
variable {W:Wd}{fm:Fm}{V α' α₁ X0 W1:List Addr}{h h' h₁ Y2 Z3 start:Heap}{n:Nat}{A:Around}{ps ps':PS}{s s' c0 w0:Shared}{H:Hd}{h₀:Heap}{own:List Addr}
theorem Tl:∀ {l:List PV} {vs:List Value} {ts:List Txt},DO l=some ts->RepL H h₀ α₁ V h l vs->∃ lt:List (Str × Tok),vs=strValues lt/\lt.map (·.1)=ts.map txt:=by
 intro l
 induction l with
 | nil=>intro _ _ e r;cases r;cases e;exact ⟨[],rfl,rfl⟩
 | cons p l ih=>
  intro _ ts e r
  obtain ⟨v0,vs0,rfl,r,rs⟩:=r.inv
  obtain ⟨x,ex,e0⟩:=aW.mp (show (asS p).bind (λx=>(DO l).map (x::·))=some ts from e)
  clear e
  obtain rfl:=Bf ex
  have e:=e0
  cases q:DO l with
  | none=>rw [q] at e;cases e
  | some ts'=>
   rw [q] at e
   have e:some (x::ts')=some ts:=e
   cases e
   obtain ⟨lt,h1,h2⟩:=ih q rs
   obtain ⟨t,rfl⟩:=r.inv
   ·exact ⟨(txt x,t)::lt,by rw [h1];rfl,by rw [map_cons,h2];rfl⟩
theorem QI (sep:Txt)(ts:List Txt):Txt.join (txt sep) (ts.map txt)=txt (HB sep ts):=by
 show glued _ _=_
 apply Str.ext'
 cases ts with
 | nil=>rfl
 | cons t r=>
  show (r.map txt).foldl (λacc p=>acc++(txt sep).cps++p.cps) (txt t).cps=_
  have:∀ (r:List Txt) (acc:Txt),(r.map txt).foldl (λacc p=>acc++(txt sep).cps++p.cps) acc.toArray=(r.foldl (λacc p=>acc++sep++p) acc).toArray:=by
   intro r
   induction r with
   | nil=>intro acc;rfl
   | cons p r ih=>
    intro acc
    rw [map_cons,foldl_cons,foldl_cons,<- ih]
    congr 1
    simp [txt]
  exact this r t
theorem Ml (ts:List Txt):((ts.map txt).map (·.length)).sum=Eb ts:=by
 unfold Eb
 rw [List.map_map]
 exact congrArg List.sum (List.map_congr_left λt U=>AN t)
theorem OG:MethAt "str" "str.join" "join":=⟨PySem.F.plainAttrs_str,PySem.F.slot_str_join,PySem.F.type_str_join⟩
theorem Tm:OpMeth W n fm B7 "str.join" No:=.mk λA V ps s p v l vs C I hK r rl ns=>by
 obtain ⟨sep,rfl⟩:=Gb hK
 obtain ⟨x,vx,rfl,rfl,rx,nq⟩:=Fx (f:=λp=>ap (asL p) λi=>ac (aq i) λl=>ac (aw (DO l)) λts=>am (Eb ts+ts.length*sep.length<=big) (ae (PV.str (HB sep ts)))) rl ns
 obtain ⟨i,e⟩:=A8 nq
 obtain rfl:=G9 e
 have ns':ac (aq i) (λl=>ac (aw (DO l)) λts=>am (Eb ts+ts.length*sep.length<=big) (ae (PV.str (HB sep ts)))) ps≠.stuck:=ns
 obtain ⟨l,e1,e2⟩:=A5 (Ac ns')
 rw [Ab e2] at ns'
 obtain ⟨ts,e3,e4⟩:=D5 (Ac ns')
 rw [Ab e4] at ns'
 obtain ⟨c,e5⟩:=Ah ns'
 rw [decide_eq_true_eq] at c
 have e6:No (.str sep) [.lst i] ps = .ok (.str (HB sep ts)) ps:=(Ab e2).trans ((Ab e4).trans e5)
 obtain ⟨a,ws,rfl,hl,rw'⟩:=DI I rx e1
 obtain ⟨lt,q1,q2⟩:=Tl e3 rw'
 unfold Af
 rw [e6]
 obtain ⟨t,rfl⟩:=r.inv
 refine SC.join (by rw [q1] at hl;exact hl) q2 ?_ λt' k=>?_
 ·unfold JoinOk
  rw [StrLaws.joinTotal,Ml,length_map,AN]
  unfold tooLong
  rw [decide_eq_false (by rw [<- BU];lia)];rfl
 ·rw [QI]
  exact OkE.same I (.str _ _)
theorem Jz (x y:Str)(i:Int)(t u v:Tok)(k:Nat)(rest:List Nat)(h:occurrences x y (fromIndex x.length i) x.length 1=k::rest):Gives («str.index» ⟨[.str x t,.str y u,.int i v],[]⟩) (.int k):=by
 show Gives (match occurrences x y (fromIndex x.length i) (min x.length x.length) 1 with | i::_=>retInt i | []=>(do rule "str.index.not-found";raiseError "ValueError" "substring not found")) _
 rw [Nat.min_self,h]
 exact .of_eq rfl
theorem Ii (x y:Str)(i:Int)(t u v:Tok)(h:occurrences x y (fromIndex x.length i) x.length 1=[]):Meets («str.index» ⟨[.str x t,.str y u,.int i v],[]⟩) (raisesNew "ValueError"):=by
 intro prog w A R s hS
 show wpAny _ _ (match occurrences x y (fromIndex x.length i) (min x.length x.length) 1 with | i::_=>retInt i | []=>_) _ _ s
 rw [Nat.min_self,h]
 first
  | exact bj (wpAny_rule (by exact_raiseError plainExc_ValueError hS.1 hS.2))
  | exact bj (wpAny_rule (bj (by exact_raiseError plainExc_ValueError hS.1 hS.2)))
def AtT (x y:Txt)(i:Nat):Prop:=i+y.length<=x.length/\(x.drop i).take y.length=y
theorem GX (x y:Txt)(i:Nat):StrLaws.At (txt x) (txt y) (txt x).length i↔AtT x y i:=by
 unfold StrLaws.At AtT
 rw [StrLaws.subAt_eq,AN,AN]
 simp [txt]
theorem Gc (x y:Txt)(lo:Nat):(findFrom x y lo=none/\∀ i,lo<=i->¬ AtT x y i)\/∃ i,findFrom x y lo=some i/\lo<=i/\AtT x y i/\∀ k,lo<=k->k<i->¬ AtT x y k:=by
 have pi:∀ i,(decide (i+y.length<=x.length)&&((x.drop i).take y.length==y))=true↔AtT x y i:=λi=>by
  unfold AtT;simp
 cases q:findFrom x y lo with
 | none=>
  refine .inl ⟨rfl,λi hi ha=>?_⟩
  unfold findFrom at q
  rw [List.find?_eq_none] at q
  exact q i (List.mem_range'_1.mpr ⟨hi,by have:=ha.1;exact la [_,_,_,_,_] [([2,4,0],[6]),([6,3,0],[8,10,0])] ([2,3,0],[10,8,0]) rfl this (Mi.lcS _ _)⟩) ((pi i).mpr ha)
 | some i=>
  refine .inr ⟨i,rfl,?_⟩
  unfold findFrom at q
  rw [List.find?_range'_eq_some] at q
  obtain ⟨h1,h2,h3⟩:=q
  have h2:=List.mem_range'_1.mp h2
  refine ⟨h2.1,(pi i).mp h1,λk k1 k2 ha=>?_⟩
  have:=h3 k k1 k2
  rw [(pi k).mpr ha] at this
  simp at this
theorem KQ (x y:Txt)(lo:Nat):match findFrom x y lo with
  | none=>occurrences (txt x) (txt y) lo (txt x).length 1=[]
  | some i=>∃ r,occurrences (txt x) (txt y) lo (txt x).length 1=i::r:=by
 rcases StrLaws.occ_head_from (txt x) (txt y) lo 1 (aR _) with ⟨o1,o2⟩ | ⟨i,r,o1,o2,o3,o4⟩ <;> rcases Gc x y lo with ⟨f1,f2⟩ | ⟨j,f1,f2,f3,f4⟩
 ·rw [f1];exact o1
 ·exact absurd ((GX x y j).mpr f3) (o2 j f2)
 ·exact absurd ((GX x y i).mp o3) (f2 i o2)
 ·rw [f1]
  have:i=j:=by
   rcases Nat.lt_trichotomy i j with q | q | q
   ·exact absurd ((GX x y i).mp o3) (f4 i o2 q)
   ·exact q
   ·exact absurd ((GX x y j).mpr f3) (o4 j f2 q)
  subst this
  exact ⟨r,o1⟩
theorem Mm:MethAt "str" "str.index" "index":=⟨PySem.F.plainAttrs_str,PySem.F.slot_str_index,PySem.F.type_str_index⟩
theorem QJ:OpMeth W n fm B7 "str.index" (E5 fm.hdl.isSome):=.mk λA V ps s p v l vs C I hK r rl ns=>by
 obtain ⟨x,rfl⟩:=Gb hK
 obtain ⟨t,rfl⟩:=r.inv
 obtain ⟨⟨y,oi⟩,e⟩:=A8 (f:=λy:Txt × Option Int=>match y.2 with
  | none=>(match findFrom x y.1 0 with
   | some i=>ae (PV.int i)
   | none=>ar)
  | some p=>am (0<=p&&small p) (match findFrom x y.1 p.toNat with
   | some i=>ae (PV.int i)
   | none=>aJ fm.hdl.isSome "ValueError")) ns
 rcases Tk e with ⟨rfl,_⟩ | ⟨i,rfl,_⟩
 ·obtain ⟨vy,ws,rfl,rx,rs⟩:=rl.inv
  obtain rfl:ws=[]:=rs.inv
  obtain ⟨u,rfl⟩:=rx.inv
  ·have ns':(match findFrom x y 0 with
    | some i=>ae (PV.int i)
    | none=>ar) ps≠.stuck:=ns
   have oc:=KQ x y 0
   unfold Af
   show wpAny _ _ _ (OkE W fm V s.heap ((match findFrom x y 0 with
    | some i=>ae (PV.int i)
    | none=>ar) ps)) _ _
   cases q:findFrom x y 0 with
   | none=>rw [q] at ns';exact absurd rfl ns'
   | some i=>
    rw [q] at oc
    obtain ⟨r,oc⟩:=oc
    exact SC.index oc (OkE.same I (.int _ _))
 ·obtain ⟨vy,ws,rfl,rx,rs⟩:=rl.inv
  obtain ⟨vz,ws,rfl,rz,rs⟩:=rs.inv
  obtain rfl:ws=[]:=rs.inv
  obtain ⟨u,rfl⟩:=rx.inv
  obtain ⟨v,rfl⟩:=rz.inv
  ··have ns':am (0<=i&&small i) (match findFrom x y i.toNat with
     | some i=>ae (PV.int i)
     | none=>aJ fm.hdl.isSome "ValueError") ps≠.stuck:=ns
    obtain ⟨c,e⟩:=Ah ns'
    rw [e] at ns'
    refine Af.congr (m:=E5 fm.hdl.isSome (.str x) [.str y,.int i]) e ?_
    rw [and_eq_true,decide_eq_true_eq] at c
    have fi:fromIndex (txt x).length i=i.toNat:=by
     unfold fromIndex
     rw [if_neg (by lia)]
     congr 1;lia
    have oc:=KQ x y i.toNat
    cases q:findFrom x y i.toNat with
    | none=>
     simp only [q] at ns' oc
     obtain ⟨h1,h2⟩:=F5 ns'
     have hh:A.handled=none:=by rw [C.hdl];exact Option.isNone_iff_eq_none.mp (by cases hq:fm.hdl <;> simp_all)
     refine Af.congr (m':=λps=>.ex (.std "ValueError") ps) h2 ?_
     exact call_meets F.slot_str_index (typeIs_str _ _ _) F.entry_str_index (F.args_str_index_3 _ _ _) (Ii (txt x) (txt y) i t u v (by rw [fi];exact oc)) ⟨hh,λh' tk e x=>F4 I x⟩
    | some k=>
     simp only [q] at ns' oc
     obtain ⟨r,oc⟩:=oc
     exact call_gives F.slot_str_index (typeIs_str _ _ _) F.entry_str_index (F.args_str_index_3 _ _ _) (Jz (txt x) (txt y) i t u v k r (by rw [fi];exact oc)) (OkE.same I (.int _ _))
end
end Mi
end
section
open PySem PySem.W PyProof.Rows
open PySem.Builtin PySem.Builtin.Str
set_option maxRecDepth 100000
namespace Mi
theorem EP:PlainAttrs "frozenset":=
 ⟨⟨"object.__getattribute__",by rw [typeLookup_type,builtinLookup_eq_fast];kernel_rfl,by decide +kernel⟩,by rw [typeLookup_type,builtinLookup_eq_fast];kernel_rfl⟩
def asF:PV->Option Nat
 | .fset k=>some k
 | _=>none
def OH (v:PV)(l:List PV):M PV:=ap (asF v) λk=>aI l λp=>ap (asS p) λx=>ae (.bool (x.all λc=>!Am k c))
def OI (v:PV)(l:List PV):M PV:=ap (asF v) λk=>aI l λp=>ap (asS p) λx=>ae (.bool (x.all λc=>Am k c))
section
variable {W:Wd}{fm:Fm}{V α' α₁ X0 W1:List Addr}{h h' h₁ Y2 Z3 start:Heap}{n:Nat}{A:Around}{ps ps':PS}{s s' c0 w0:Shared}{H:Hd}{h₀:Heap}{own:List Addr}{E:Value->Shared->Prop}
theorem KR {x:Txt}{i:Nat}:Bg (.str x) i ps = .ok ((x[i]?).map λc=>PV.str [c]) ps:=rfl
theorem CJ:Slot "frozenset" "isdisjoint" "frozenset.isdisjoint":=
 .of (owner:="frozenset") (n:="isdisjoint") (by rw [typeLookup_type,builtinLookup_eq_fast];kernel_rfl) (by decide +kernel) (by decide +kernel) (by decide +kernel)
  (by first | exact .inl (by decide +kernel) | exact .inr (by decide +kernel)) (by rw [isSubtype_type];kernel_rfl)
theorem GE:typeOf (.builtin "frozenset.isdisjoint")=pure (.type "method_descriptor"):=by show builtinType _=_;rw [builtinType_eq_fast];kernel_rfl
theorem GF (a b:Value):argsOk "frozenset.isdisjoint" ⟨[a,b],[]⟩:=by
 unfold argsOk;kernel_rfl
theorem Gd:entryFor table "frozenset.isdisjoint" = some Builtin.«frozenset.isdisjoint»:=entryFor_of_tree (by kernel_rfl)
theorem Bd:plainId "frozenset.isdisjoint.loop" = true:=by decide +kernel
theorem DY:entryFor table "frozenset.isdisjoint.loop" = some Builtin.«frozenset.isdisjoint.loop»:=entryFor_of_tree (by kernel_rfl)
theorem GG:MethAt "frozenset" "frozenset.isdisjoint" "isdisjoint":=⟨EP,CJ,GE⟩
theorem KS {It:Addr}{x:Txt}{St:Nat->Heap->Prop}(hA:A.handled=none)(F:FmOk W.h₀ fm)(nav:It∉fm.av)(freshI:start.get? It=none)(h0I:W.h₀.get? It=none)(itk:ItOk W fm V It (Bg (.str x)) St)
  {i:Nat} {s:Shared} (J:InvS W fm V ps s) (R:Rel fm.stk fm.tab V start s.heap) (st:St i s.heap) {Q:Option Value->Shared->Prop} {E:Value->Shared->Prop}
  (h0:x[i]? = none->∀ s',InvS W fm V ps s'->Rel fm.stk fm.tab V start s'.heap->Q none s')
  (h1:∀ c t s',x[i]? = some c->InvS W fm V ps s'->Rel fm.stk fm.tab V start s'.heap->St (i+1) s'.heap->Q (some (.str (txt [c]) t)) s'):wpAny W.m A (pyNext (.ref It)) Q E s:=by
 refine itk.next fm A V ps s i _ _ hA (prefix_refl _) F J st (by rw [KR];exact λq=>(by cases q)) λo r h' tk eo kk rr=>?_
 rw [KR] at eo
 obtain ⟨ob,vs,eI,dI,cI⟩:=itk.flds _ _ st
 have J2:=itk.turned (tk:=tk) F J st nav h0I kk
 have R2:=R.turn0 (Turn0.one J.inv.frames ⟨ob,vs,eI,dI,cI⟩ kk) (λb m=>by rw [mem_singleton.mp m];exact freshI)
 cases e:x[i]? with
 | none=>
  rw [e] at eo
  cases eo
  cases r with
  | some v=>exact rr.elim
  | none=>exact h0 e _ J2 R2
 | some c=>
  rw [e] at eo
  cases eo
  cases r with
  | none=>exact rr.elim
  | some v=>
   obtain ⟨rp,st2⟩:=rr
   obtain ⟨t,rfl⟩:=rp.inv
   exact h1 c t _ e J2 R2 st2
theorem IS {x:Txt}{i:Nat}{f:Nat->Bool}(e:x[i]? = none):(x.drop i).all f=true:=by
 rw [drop_of_length_le (List.getElem?_eq_none_iff.mp e)];rfl
theorem IT {x:Txt}{i c:Nat}{f:Nat->Bool}(e:x[i]? = some c):(x.drop i).all f=(f c&&(x.drop (i+1)).all f):=by
 obtain ⟨lt,e⟩:=bf.mp e
 rw [drop_eq_getElem_cons lt,all_cons,e]
set_option backward.match.sparseCases true in
theorem GH {S It:Addr}{k m:Nat}{x:Txt}{St:Nat->Heap->Prop}(hS:FrozAt (strKind W.H.prog W.H.w) W.h₀ S (F2 k) m)(hm:m<4096)(hA:A.handled=none)(F:FmOk W.h₀ fm)(nav:It∉fm.av)(freshI:start.get? It=none)(h0I:W.h₀.get? It=none)
  (itk:ItOk W fm V It (Bg (.str x)) St) (d:Nat):∀ (i:Nat) (s:Shared),x.length<i+d->i<=x.length->InvS W fm V ps s->Rel fm.stk fm.tab V start s.heap->St i s.heap ->
  codeAny W.m A (.builtin "frozenset.isdisjoint.loop" ⟨[.ref S,.ref It],[]⟩) (λr s'=>match r with
   | .ok (.ret v)=>OkE W fm V start (.ok (.bool ((x.drop i).all λc=>!Am k c)) ps) v s'
   | .ok _=>False
   | .error e=>E e s') s:=by
 have done:∀ (b:Bool) (s:Shared),InvS W fm V ps s->Rel fm.stk fm.tab V start s.heap->OkE W fm V start (.ok (.bool b) ps) (.bool b) s:=λb s J R=>⟨_,ps,V,rfl,J,.refl ..,R,.bool _⟩
 induction d with
 | zero=>intro i s hd hi;exact absurd hd (Nat.not_lt.mpr hi)
 | succ d ih=>
  intro i s hd hi J R st
  refine codeAny_builtin DY ?_
  rw [Around.under_plainId Bd _]
  show wpAny _ A.in1 (pyNext (.ref It) >>= _) _ _ s
  refine bj (KS (A:=A.in1) hA F nav freshI h0I itk J R st (λe s' J R=>bk ?_) λc t s' e J R st=>?_)
  ·rw [IS e];exact done true _ J R
  rw [IT e]
  have lt:=(bf.mp e).1
  obtain ⟨es,ep,tt,ho,hr⟩:=hS
  refine bj (bh (Jm (s:=s') (S:=F2 k) ⟨es,ep,tt,J.inv.base _ _ ho,hr⟩ hm ?_))
  rw [Fv]
  show wpAny _ _ (if Am k c=true then _ else _) _ _ _
  cases q:Am k c with
  | true=>rw [if_pos rfl,Bool.not_true,Bool.false_and];exact bk (done false _ (J.tok _) R)
  | false=>rw [if_neg (by decide),Bool.not_false,Bool.true_and];exact bk ⟨plainId_quiet Bd _,ih (i+1) _ (by exact la [_,_,_] [([2,3,0],[4,6,3,0,0])] ([2,3,0],[4,3,0,6,0]) rfl hd) lt (J.tok _) R st⟩
theorem Nq {l:List PV}{f:Txt->M PV}(ns:aI l (λp=>ap (asS p) f) ps≠.stuck):∃ x,l=[.str x]:=by
 obtain ⟨p,rfl⟩:=Nc ns
 obtain ⟨x,e⟩:=A8 (f:=f) ns
 exact ⟨x,by rw [Bf e]⟩
set_option backward.match.sparseCases true in
theorem Ij (hh:fm.hdl=none):OpMeth W n fm IR "frozenset.isdisjoint" OH:=.mk λA V ps s p v l vs C I hK r rl ns=>by
 have hA:A.handled=none:=C.hdl.trans hh
 obtain ⟨k,rfl⟩:=QG hK
 obtain ⟨x,rfl⟩:=Nq (f:=λx=>ae (.bool (x.all λc=>!Am k c))) ns
 obtain ⟨vx,ws,rfl,rx,rs⟩:=rl.inv
 cases (show ws=[] from rs.inv)
 obtain ⟨t,rfl⟩:=rx.inv
 obtain ⟨S,rfl,e⟩:=r.inv
 obtain ⟨m,hS,hm⟩:=C.hd.sets k S e
 have hS':=hS
 obtain ⟨es,ep,tt,ho,_⟩:=hS'
 have hT:s.TypeIs (.ref S) "frozenset":=⟨_,I.inv.base _ _ ho,rfl⟩
 have fresh:s.heap.get? s.heap.objs.size=none:=AH _
 have nav:=A6 I fresh
 have fin:∀ (St:Nat->Heap->Prop) o,ItOk W fm V s.heap.objs.size (Bg (.str x)) St->St 0 (s.heap.push o) ->
   codeAny W.m A (.builtin "frozenset.isdisjoint.loop" ⟨[.ref S,.ref s.heap.objs.size],[]⟩) (λr s'=>match r with
    | .ok (.ret v)=>OkE W fm V s.heap (OH (.fset k) [.str x] ps) v s'
    | .ok _=>False
    | .error e=>ExE W fm V s.heap (OH (.fset k) [.str x] ps) e s') { s with heap:=s.heap.push o }:=λSt o itk st=>by
  have:=GH (E:=ExE W fm V s.heap (OH (.fset k) [.str x] ps)) hS hm hA C.fm nav fresh (I.none _ fresh) itk (x.length+1) 0 { s with heap:=s.heap.push o } (by exact la [_] [] ([2,3,0],[1,2,3,0,0]) rfl) (aP _) (Bm I o) (.of_keeps λb ob e=>get?_push_of_some _ e) st
  exact this
 refine wpAny_call (codeAny_call_builtin CJ.plain Gd (CJ.check _ _ _ _ _ _ _ _ hT (GF _ _) ?_))
 unfold Builtin.«frozenset.isdisjoint» Frozenset.oneOther
 unfold Frozenset.addrOf
 refine bj (bj (bk (bk ?_)))
 dsimp only
 rw [if_neg (by simp)]
 refine bj (wpAny_typeOf (typeIs_str _ _ _) ?_)
 rw [if_neg (by decide)]
 cases ha:(txt x).cps.all (· < 128)
 ·exact bj (wpAny_pyIter_wide ha (bk ⟨plainId_quiet Bd _,fin _ _ ItOk.strW ⟨_,get?_push_size _ rfl,rfl,rfl⟩⟩))
 ·exact bj (wpAny_pyIter_ascii ha (bk ⟨plainId_quiet Bd _,fin _ _ ItOk.strA ⟨_,get?_push_size _ rfl,rfl,rfl⟩⟩))
theorem CK:Slot "frozenset" "issuperset" "frozenset.issuperset":=
 .of (owner:="frozenset") (n:="issuperset") (by rw [typeLookup_type,builtinLookup_eq_fast];kernel_rfl) (by decide +kernel) (by decide +kernel) (by decide +kernel)
  (by first | exact .inl (by decide +kernel) | exact .inr (by decide +kernel)) (by rw [isSubtype_type];kernel_rfl)
theorem GI:typeOf (.builtin "frozenset.issuperset")=pure (.type "method_descriptor"):=by show builtinType _=_;rw [builtinType_eq_fast];kernel_rfl
theorem GJ (a b:Value):argsOk "frozenset.issuperset" ⟨[a,b],[]⟩:=by
 unfold argsOk;kernel_rfl
theorem Ge:entryFor table "frozenset.issuperset" = some Builtin.«frozenset.issuperset»:=entryFor_of_tree (by kernel_rfl)
theorem Be:plainId "frozenset.issuperset.loop" = true:=by decide +kernel
theorem DZ:entryFor table "frozenset.issuperset.loop" = some Builtin.«frozenset.issuperset.loop»:=entryFor_of_tree (by kernel_rfl)
theorem GK:MethAt "frozenset" "frozenset.issuperset" "issuperset":=⟨EP,CK,GI⟩
set_option backward.match.sparseCases true in
theorem GL {S It:Addr}{k m:Nat}{x:Txt}{St:Nat->Heap->Prop}(hS:FrozAt (strKind W.H.prog W.H.w) W.h₀ S (F2 k) m)(hm:m<4096)(hA:A.handled=none)(F:FmOk W.h₀ fm)(nav:It∉fm.av)(freshI:start.get? It=none)(h0I:W.h₀.get? It=none)
  (itk:ItOk W fm V It (Bg (.str x)) St) (d:Nat):∀ (i:Nat) (s:Shared),x.length<i+d->i<=x.length->InvS W fm V ps s->Rel fm.stk fm.tab V start s.heap->St i s.heap ->
  codeAny W.m A (.builtin "frozenset.issuperset.loop" ⟨[.ref S,.ref It],[]⟩) (λr s'=>match r with
   | .ok (.ret v)=>OkE W fm V start (.ok (.bool ((x.drop i).all λc=>Am k c)) ps) v s'
   | .ok _=>False
   | .error e=>E e s') s:=by
 have done:∀ (b:Bool) (s:Shared),InvS W fm V ps s->Rel fm.stk fm.tab V start s.heap->OkE W fm V start (.ok (.bool b) ps) (.bool b) s:=λb s J R=>⟨_,ps,V,rfl,J,.refl ..,R,.bool _⟩
 induction d with
 | zero=>intro i s hd hi;exact absurd hd (Nat.not_lt.mpr hi)
 | succ d ih=>
  intro i s hd hi J R st
  refine codeAny_builtin DZ ?_
  rw [Around.under_plainId Be _]
  show wpAny _ A.in1 (pyNext (.ref It) >>= _) _ _ s
  refine bj (KS (A:=A.in1) hA F nav freshI h0I itk J R st (λe s' J R=>bk ?_) λc t s' e J R st=>?_)
  ·rw [IS e];exact done true _ J R
  rw [IT e]
  have lt:=(bf.mp e).1
  obtain ⟨es,ep,tt,ho,hr⟩:=hS
  refine bj (bh (Jm (s:=s') (S:=F2 k) ⟨es,ep,tt,J.inv.base _ _ ho,hr⟩ hm ?_))
  rw [Fv]
  show wpAny _ _ (if Am k c=true then _ else _) _ _ _
  cases q:Am k c with
  | true=>rw [if_pos rfl,Bool.true_and];exact bk ⟨plainId_quiet Be _,ih (i+1) _ (by exact la [_,_,_] [([2,3,0],[4,6,3,0,0])] ([2,3,0],[4,3,0,6,0]) rfl hd) lt (J.tok _) R st⟩
  | false=>rw [if_neg (by decide),Bool.false_and];exact bk (done false _ (J.tok _) R)
set_option backward.match.sparseCases true in
theorem Ik (hh:fm.hdl=none):OpMeth W n fm IR "frozenset.issuperset" OI:=.mk λA V ps s p v l vs C I hK r rl ns=>by
 have hA:A.handled=none:=C.hdl.trans hh
 obtain ⟨k,rfl⟩:=QG hK
 obtain ⟨x,rfl⟩:=Nq (f:=λx=>ae (.bool (x.all λc=>Am k c))) ns
 obtain ⟨vx,ws,rfl,rx,rs⟩:=rl.inv
 cases (show ws=[] from rs.inv)
 obtain ⟨t,rfl⟩:=rx.inv
 obtain ⟨S,rfl,e⟩:=r.inv
 obtain ⟨m,hS,hm⟩:=C.hd.sets k S e
 have hS':=hS
 obtain ⟨es,ep,tt,ho,_⟩:=hS'
 have hT:s.TypeIs (.ref S) "frozenset":=⟨_,I.inv.base _ _ ho,rfl⟩
 have fresh:s.heap.get? s.heap.objs.size=none:=AH _
 have nav:=A6 I fresh
 have fin:∀ (St:Nat->Heap->Prop) o,ItOk W fm V s.heap.objs.size (Bg (.str x)) St->St 0 (s.heap.push o) ->
   codeAny W.m A (.builtin "frozenset.issuperset.loop" ⟨[.ref S,.ref s.heap.objs.size],[]⟩) (λr s'=>match r with
    | .ok (.ret v)=>OkE W fm V s.heap (OI (.fset k) [.str x] ps) v s'
    | .ok _=>False
    | .error e=>ExE W fm V s.heap (OI (.fset k) [.str x] ps) e s') { s with heap:=s.heap.push o }:=λSt o itk st=>by
  have:=GL (E:=ExE W fm V s.heap (OI (.fset k) [.str x] ps)) hS hm hA C.fm nav fresh (I.none _ fresh) itk (x.length+1) 0 { s with heap:=s.heap.push o } (by exact la [_] [] ([2,3,0],[1,2,3,0,0]) rfl) (aP _) (Bm I o) (.of_keeps λb ob e=>get?_push_of_some _ e) st
  exact this
 refine wpAny_call (codeAny_call_builtin CK.plain Ge (CK.check _ _ _ _ _ _ _ _ hT (GJ _ _) ?_))
 unfold Builtin.«frozenset.issuperset» Frozenset.oneOther
 unfold Frozenset.addrOf
 refine bj (bj (bk (bk ?_)))
 dsimp only
 refine bj (m:=Frozenset.isAnySet (.str (txt x) t)) ?_
 unfold Frozenset.isAnySet
 refine bj (wpAny_isInstance (typeIs_str s (txt x) t) (b:=false) (by kernel_rfl) ?_)
 refine bj (bk ?_)
 refine wpAny_isInstance (typeIs_str s (txt x) t) (b:=false) (by kernel_rfl) ?_
 rw [if_neg (by decide)]
 cases ha:(txt x).cps.all (· < 128)
 ·exact bj (wpAny_pyIter_wide ha (bk ⟨plainId_quiet Be _,fin _ _ ItOk.strW ⟨_,get?_push_size _ rfl,rfl,rfl⟩⟩))
 ·exact bj (wpAny_pyIter_ascii ha (bk ⟨plainId_quiet Be _,fin _ _ ItOk.strA ⟨_,get?_push_size _ rfl,rfl,rfl⟩⟩))
end
end Mi
end
section
open PySem PySem.W PyProof.Rows
open PySem.Builtin PySem.Builtin.Str PySem.NumText
set_option maxRecDepth 100000
namespace Mi
def Bo (c:Nat):Nat:=if c<=57 then c - 48 else if 97<=c then c - 87 else c - 55
def hexval (x:Txt):Nat:=x.foldl (λa c=>a*16+Bo c) 0
theorem Ew {c:Nat}(h:hexd c=true):c<128:=by
 unfold hexd at h
 simp only [or_eq_true,and_eq_true,decide_eq_true_eq] at h
 lia
theorem Cl {c:Nat}(h:hexd c=true):digit? c=some (Bo c)/\Bo c<16/\c≠95/\c≠0/\blank c=false/\c≠45/\c≠43/\c<128/\c≠120/\c≠88:=
 (by decide +kernel:∀ c<128,hexd c=true->digit? c=some (Bo c)/\Bo c<16/\c≠95/\c≠0/\blank c=false/\c≠45/\c≠43/\c<128/\c≠120/\c≠88) c (Ew h) h
theorem Mn (x:Txt):∀ (acc:Array Nat) (b:Bool),x.all hexd=true->x.foldlM (step 16) (acc,b)=some (acc++(x.map Bo).toArray,b||!x.isEmpty):=by
 induction x with
 | nil=>intro acc b _;simp
 | cons c x ih=>
  intro acc b h
  rw [all_cons,and_eq_true] at h
  obtain ⟨d1,d2,d3,_⟩:=Cl h.1
  rw [List.foldlM_cons]
  have e:step 16 (acc,b) c=some (acc.push (Bo c),true):=by
   unfold NumText.step
   simp only [beq_iff_eq,d3,if_false,d1,d2,if_true]
  rw [e]
  show x.foldlM (step 16) (acc.push (Bo c),true)=_
  rw [ih _ _ h.2]
  simp
theorem EQ (x:Txt)(h:x.all hexd=true):x.dropWhile blank=x:=by
 cases x with
 | nil=>rfl
 | cons c x=>
  rw [all_cons,and_eq_true] at h
  obtain ⟨_,_,_,_,d5,_⟩:=Cl h.1
  rw [List.dropWhile_cons,d5];rfl
theorem To (x:Txt)(h:x.all hexd=true):x.reverse.all hexd=true:=by rw [List.all_reverse];exact h
theorem QK (x:Txt)(h:x.all hexd=true):sign x=(false,x):=by
 cases x with
 | nil=>rfl
 | cons c x=>
  rw [all_cons,and_eq_true] at h
  obtain ⟨_,_,_,_,_,d6,d7,_⟩:=Cl h.1
  unfold sign
  delta NumText.sign.match_1
  exact (dif_neg d6).trans (dif_neg d7)
theorem Mp (x:Txt)(h:x.all hexd=true):prefix? x≠some 16:=by
 cases x with
 | nil=>exact nofun
 | cons a x=>
  cases x with
  | nil=>
   by_cases q:a=48
   ·subst q;exact nofun
   ·unfold prefix?
    delta NumText.prefix?.match_1
    exact λz=>nomatch (dif_neg q).symm.trans z
  | cons c r=>
   by_cases q:a=48
   ·subst q
    rw [all_cons,and_eq_true,all_cons,and_eq_true] at h
    obtain ⟨_,_,_,_,_,_,_,_,d9,d10⟩:=Cl h.2.1
    show (if (c==120||c==88)=true then some 16 else if (c==111||c==79)=true then some 8 else if (c==98||c==66)=true then some 2 else none)≠some 16
    rw [if_neg (by simp [d9,d10])]
    by_cases q1:(c==111||c==79)=true
    ·rw [if_pos q1];exact nofun
    ·rw [if_neg q1]
     by_cases q2:(c==98||c==66)=true
     ·rw [if_pos q2];exact nofun
     ·rw [if_neg q2];exact nofun
   ·unfold prefix?
    delta NumText.prefix?.match_1
    exact λz=>nomatch (dif_neg q).symm.trans z
theorem OJ (x:Txt)(h:x.all hexd=true):based 16 x=(16,false,x):=by
 have hp:=Mp x h
 unfold based
 cases e:prefix? x with
 | none=>rfl
 | some p=>
  have:p≠16:=λz=>hp (e.trans (congrArg some z))
  exact if_neg (by simp;exact λe=>this e.symm)
theorem U6 (x:Txt)(h:x.all hexd=true)(ne:x≠[]):(int_private% "readNumeral") 0 16 x=(int_private% "Numeral.value") (hexval x):=by
 have e1:=EQ x h
 have e2:=QK x h
 have e3:=OJ x h
 have e4:=EQ x.reverse (To x h)
 refine (readNumeral_eq 0 16 x).trans ?_
 rw [e1,e2]
 simp only [e3,e4,List.reverse_reverse]
 unfold digits?
 rw [Mn x #[] false h]
 have:x.isEmpty=false:=by cases x with
  | nil=>exact absurd rfl ne
  | cons=>rfl
 simp only [this,Option.bind_some,Bool.not_false,Bool.or_true,if_true]
 unfold judge
 simp only [Array.empty_append]
 have ev:(x.map Bo).toArray.foldl (λacc d=>acc*16+d) 0=hexval x:=by
  rw [List.foldl_toArray,List.foldl_map];rfl
 rw [if_neg (by simp),if_neg (by simp),ev]
 rfl
theorem OK {M:Model}{A:Around}{E:Value->Shared->Prop}{s:Shared}{Q:Value->Shared->Prop}{v:Value}{text:List Nat}{n:Int}
  (hs:(text.takeWhile (· != 0)).length<=640) (hr:(int_private% "readNumeral") 0 16 (text.takeWhile (· != 0))=(int_private% "Numeral.value") n)
  (ha:((text.takeWhile (· != 0)).length==text.length)=true) (h:Q (.int n s.toks) { s with toks:=s.toks+1 }) :
  wpAny M A ((int_private% "intFromText") v text 16) Q E s:=by
 obtain ⟨hp,g,d,tk,os⟩:=s
 repeat (any_goals (first
  | assumption
  | (with_reducible refine wpAny_ite_true (decide_eq_true hs) ?_)
  | (with_reducible refine wpAny_ite_true (decide_eq_true ha) ?_)
  | wp_step))
 all_goals (try rw [hr])
 all_goals (try dsimp only)
 repeat (any_goals (first
  | assumption
  | (with_reducible refine wpAny_ite_true (decide_eq_true hs) ?_)
  | (with_reducible refine wpAny_ite_true (decide_eq_true ha) ?_)
  | wp_step))
theorem HC (x:Txt)(h:x.all hexd=true):x.takeWhile (· != 0)=x:=by
 induction x with
 | nil=>rfl
 | cons c x ih=>
  rw [all_cons,and_eq_true] at h
  obtain ⟨_,_,_,d4,_⟩:=Cl h.1
  rw [List.takeWhile_cons,if_pos (by simpa using d4),ih h.2]
set_option maxHeartbeats 4000000 in
theorem OL {x:Txt}{u v:Tok}(h:x.all hexd=true)(ne:x≠[])(hl:x.length<=640):Gives (Builtin.«int.__new__» ⟨[.type "int",.str (txt x) u,.int 16 v],[]⟩) (.int (hexval x)):=
 .of_wp λM A E s Q hq=>by
  obtain ⟨hp,g,d,tk,os⟩:=s
  have f1:=F.conv_sub_int
  have f2:=F.madeHere_int
  have f6:typeOf (.str (txt x) u)=pure (.type "str"):=rfl
  have e0:(txt x).cps.all (· < 128)=true:=by
   rw [<- Array.all_toList]
   show x.toArray.toList.all _=true
   rw [List.toList_toArray,all_eq_true]
   intro c hc
   obtain ⟨_,_,_,_,_,_,_,d8,_⟩:=Cl (all_eq_true.mp h c hc)
   exact decide_eq_true d8
  have e1:(txt x).cps.toList=x:=by simp [txt]
  have hs:(x.takeWhile (· != 0)).length<=640:=by rw [HC x h];exact hl
  have hr:(int_private% "readNumeral") 0 16 (x.takeWhile (· != 0))=(int_private% "Numeral.value") (hexval x):=by rw [HC x h];exact U6 x h ne
  have ha:((x.takeWhile (· != 0)).length==x.length)=true:=by rw [HC x h];exact beq_self_eq_true _
  have hk:=W.KIN.Hid.mk (And.intro hs (And.intro hr ha))
  clear hs hr ha hl h ne
  repeat (any_goals (first
   | assumption
   | ((with_reducible show wpAny _ _ ((int_private% "intFromText") _ _ _) _ _ _);simp only [e0,e1,if_true];refine OK hk.out.1 hk.out.2.1 hk.out.2.2 ?_)
   | wp_step))
  all_goals first | exact ⟨_,rfl,hq⟩ | skip
end Mi
end
section
open PySem PySem.W PyProof.Rows
open PySem.Builtin PySem.Builtin.Str
set_option maxRecDepth 100000
namespace Mi
def WB (x:Txt × Int):M PV:=am (x.2==16&&!x.1.isEmpty&&x.1.all hexd&&x.1.length<=640) (ae (.int (hexval x.1)))
def Uu (l:List PV):Option (Txt × Int):=un l λp r=>(asS p).bind λs=>un r λq r=>(asI q).bind λi=>cond r.isEmpty (some (s,i)) none
def Tp (l:List PV):M PV:=ap (Uu l) WB
theorem QM {l:List PV}{x:Txt × Int}(h:Uu l=some x):l=[.str x.1,.int x.2]:=by
 obtain ⟨p,r,rfl,h⟩:=Ha h
 obtain ⟨s,e,h⟩:=aW.mp h
 obtain ⟨q,r,rfl,h⟩:=Ha h
 obtain ⟨i,e',h⟩:=aW.mp h
 obtain ⟨e1,rfl⟩:=Hb h
 rw [Bf e,AW e',e1]
theorem HD (a b:Value):checkTypeCall "int" ⟨[a,b],[]⟩=pure ():=by kernel_rfl
theorem Il (a b:Value):checkBuiltinCall "int.__new__" ⟨[.type "int",a,b],[]⟩=pure ():=by kernel_rfl
theorem E6 (a b c:Value):argsOk "object.__init__" ⟨[a,b,c],[]⟩:=by unfold argsOk;kernel_rfl
section
variable {W:Wd}{fm:Fm}{V α' α₁ X0 W1:List Addr}{h h' h₁ Y2 Z3 start:Heap}{n:Nat}{A:Around}{ps ps':PS}{s s' c0 w0:Shared}{H:Hd}{h₀:Heap}{own:List Addr}{E:Value->Shared->Prop}
theorem Mq:OpCall W n fm (.type "int") Tp:=.mk λA V ps s l vs C I rl ns=>by
 obtain ⟨⟨x,b⟩,e⟩:=A8 ns
 obtain rfl:=QM e
 obtain ⟨va,ws,rfl,ra,rs⟩:=rl.inv
 obtain ⟨vb,ws,rfl,rb,rs⟩:=rs.inv
 obtain rfl:ws=[]:=rs.inv
 have ns':am (b==16&&!x.isEmpty&&x.all hexd&&x.length<=640) (ae (PV.int (hexval x))) ps≠.stuck:=ns
 obtain ⟨c,e⟩:=Ah ns'
 refine Af.congr (m':=ae (PV.int (hexval x))) e ?_
 simp only [and_eq_true,decide_eq_true_eq,beq_iff_eq,not_eq_true'] at c
 obtain ⟨⟨⟨rfl,c2⟩,c3⟩,c4⟩:=c
 obtain ⟨_,rfl⟩:=ra.inv;obtain ⟨_,rfl⟩:=rb.inv
 exact callType_new F.called_int F.newNe_int (HD _ _) (Il _ _) (λobj=>E6 obj _ _) F.entry_int_new (OL c3 (by intro q;rw [q] at c2;cases c2) c4).meets
  (show (Made.int (hexval x)).post _ s from ⟨rfl,OkE.same I (.int _ _)⟩)
end
end Mi
end
section
open PySem PySem.W PyProof.Rows
set_option maxRecDepth 100000
namespace Mi
def JA (h:Heap)(f:Addr)(fd:FuncData)(fi:Fi):Prop:=
 (∃ o,h.get? f=some o/\o.data = .func fd)/\fd.scope=fi.scope/\fd.body = .stmts fi.body/\fd.closure=[]/\fd.globals=mainGlobals/\fd.builtins=builtinsNs /\
  ∃ c oc vs t,fd.code = .ref c/\h.get? c=some oc/\oc.cls = .type "code"/\oc.data = .fields vs/\vs[1]? = some (.str fd.qualname t)
theorem JA.fnAt {h:Heap}{f:Addr}{fd:FuncData}{fi:Fi}(x:JA h f fd fi):FnAt h f fd fi:=by
 obtain ⟨h1,h2,h3,h4,h5,h6,c,oc,vs,t,e1,e2,e3,e4,e5⟩:=x
 exact ⟨h1,h2,h3,h4,h5,h6,c,oc,vs,t,e1,e2,e4,e5⟩
section
variable {W:Wd}{fm:Fm}{V α' α₁ X0 W1:List Addr}{h h' h₁ Y2 Z3 start:Heap}{n:Nat}{A:Around}{ps ps':PS}{s s' c0 w0:Shared}{H:Hd}{h₀:Heap}{own:List Addr}{E:Value->Shared->Prop}
theorem InvS.tabStep (F:FmOk W.h₀ fm)(I:InvS W fm V ps s){P:Addr}(hP:P∈fm.tab)(x:ExtBut P s.heap h')(lv:(h'.get? P).isSome=true)(tb:∀ Q∈fm.tab,Cv W.H h' Q){tk:Nat} :
  InvS W fm V ps { s with heap:=h',toks:=tk }/\Rel fm.stk fm.tab V s.heap h':=by
 have neT:∀ b,b∉fm.tab->b≠P:=λb m q=>m (q▸hP)
 have R:Rel fm.stk fm.tab V s.heap h':=⟨λb o e U m U=>x b o (neT b m) e,λb o e U m U=>⟨o.slots,x b o (neT b m) e⟩,λb e=>by
  cases q:s.heap.get? b with
  | none=>rfl
  | some o=>
   by_cases z:b=P
   ·rw [z] at e;rw [e] at lv;cases lv
   ·rw [x b o z q] at e;cases e⟩
 have pav:=F.tabAv P hP
 refine ⟨⟨I.inv.carry F R ⟨I.inv.lists.len,λi l e=>?_,I.inv.lists.nodup,I.inv.lists.fresh,I.inv.lists.apart⟩ (.refl ..) ?_ tb,I.gens,I.os⟩,R⟩
 ·obtain ⟨a,vs,h1,⟨k,h2⟩,h3⟩:=I.inv.lists.at_ i l e
  exact ⟨a,vs,h1,⟨k,x a _ (λq=>I.inv.lists.apart a (mem_of_getElem? h1) (q▸pav)) h2⟩,RepL.stays I.inv.lists R (prefix_refl _) F.frsAv F.tabAv h3⟩
 ·refine I.inv.frames.of_keeps λb o e nf=>⟨o,x b o (λq=>?_) e,rfl⟩
  obtain ⟨ps0,e0,_⟩:=I.inv.tabs P hP
  rw [q,e0] at e;cases e;exact nf ps0 rfl
theorem GM {name qual:Str}{params:Arguments}{body:List Stmt}{scope:Scope}{pos:Pos}{fl:Nat}{c P:Addr}{fi:Fi}{Q:Value->Shared->Prop}(C:Ctx W fm n A)(I:InvS W fm V ps s)(hc:fm.env.code = .ref c)(hcd:CodeHd W.h₀ c P)(hP:fm.tab=[P])
  (hp:pos=W.H.tabPos) (hq:qual=W.H.tabQ) (hfree:∀ y∈scope.names,y.2≠.free) (hs:scope=fi.scope) (hb:body=fi.body) (hbm:∃ bm ob,W.H.mg "__builtins__" = some (.ref bm)/\bm≠builtinsNs/\W.h₀.get? bm=some ob/\ob.cls = .type "module"/\ob.dict=some builtinsNs/\ob.data = .plain)
  (h:∀ f doc ctv c' s',InvS W fm V ps s'->Rel fm.stk fm.tab V s.heap s'.heap->f∉fm.av->s.heap.get? f=none->JA s'.heap f (fnX name qual params body scope [] .none .none doc ((W.H.mg "__name__").getD .none) none (.ref c') ctv) fi->Q (.ref f) s') :
  wpAny W.m A (makeFunction name qual params (.stmts body) scope fm.env [] [] [] pos fl) Q E s:=by
 have hPm:P∈fm.tab:=by rw [hP];exact mem_singleton_self _
 have hcl:closureFor scope fm.env=pure []:=closureFor_none hfree
 have hg:s.heap.Ns mainGlobals W.H.mg:=C.hd.g.keeps I.inv.base
 have hcd':=hcd.keeps I.inv.base
 obtain ⟨bm,ob,b1,b2,b3,b4,b5,b6⟩:=hbm
 obtain ⟨ps0,eP,ht⟩:=I.inv.tabs P hPm
 have pav:=C.fm.tabAv P hPm
 have notP:∀ b o,W.h₀.get? b=some o->b≠P:=λb o e q=>by rw [q,C.fm.fresh P pav] at e;cases e
 have hgP:mainGlobals≠P:=by
  obtain ⟨o,_,_,e,_⟩:=C.hd.g
  exact notP _ _ e
 have hbG:bm≠mainGlobals:=λq=>by
  obtain ⟨o,es,ep,e,hd,_⟩:=C.hd.g
  rw [q,e] at b3;cases b3;rw [hd] at b6;cases b6
 rcases ht with rfl | ⟨k,oc,vs,t,rfl,k1,k2,k3,k4⟩
 ·rw [makeFunction_eq]
  simp only [List.zip_nil_right,List.filterMap_nil,isEmpty_nil,if_true,pure_bind]
  unfold makeTail
  rw [hcl,C.fm.glob,C.fm.bi]
  refine bj (bk ?_)
  simp only [isEmpty_nil,if_true]
  refine bj (bk ?_)
  refine bj (wpAny_functionCodeX hc (hcd'.code eP trivial) (hcd'.tab eP) rfl λc' h' tk hx hge hlt U hrec htb htc=>?_)
  have hg':=hg.extBut hx hgP
  refine bj (wpAny_builtinsFor hg' b1 b2 (hx _ _ (notP _ _ b3) (I.inv.base _ _ b3)) b4 b5 b6 ?_)
  refine bj (wpAny_nsGet hg' ?_)
  obtain ⟨P',hP',_,⟨⟨oc,vs,q1,q2,q3,q4⟩,_⟩⟩:=htc
  obtain ⟨j8,l8,m8,t7,Z0,g1,g2,g3⟩:=hrec
  cases Z0
  rw [q1] at g1;cases g1
  rw [q3] at g2;cases g2
  have tb:∀ Q∈fm.tab,Cv W.H h' Q:=λQ hQ=>by
   rw [hP] at hQ
   rw [mem_singleton.mp hQ]
   exact ⟨_,htb.2,.inr ⟨c',_,_,t7,by rw [<- hp];rfl,q1,q2,q3,by rw [<- hq];exact g3⟩⟩
  have fin:∀ (doc:Value) (tk:Nat),wpAny W.m A (newObj (.type "function") (.func (fnX name qual params body scope [] .none .none doc ((W.H.mg "__name__").getD .none) none (.ref c') .none))) Q E { s with heap:=h',toks:=tk }:=λdoc tk=>by
   obtain ⟨J,R⟩:=I.tabStep (tk:=tk) C.fm hPm hx (by rw [htb.2];rfl) tb
   have fr:=A6 J (AH _)
   refine wpAny_newObj_type (h _ _ _ _ _ (Bm J _) (Bx (s:={ s with heap:=h',toks:=tk }) R _) fr (R.live _ (AH _)) ⟨⟨_,get?_push_size _ rfl,rfl⟩,hs,by rw [<- hb],rfl,rfl,rfl,c',_,_,t7,rfl,get?_push_of_some _ q1,q2,q3,g3⟩) (by size_fits)
  cases hdoc:docOf body with
  | none=>exact bj (bk (fin _ _))
  | some t=>exact bj (wpAny_mkText (fin _ _))
 ·refine makeFunction_hit (mg:=W.H.mg) (cv:=.ref k) hcl C.fm.glob hg hc hcd' eP trivial (by rw [hp];simp [codeAmong,rawInt]) ⟨bm,ob,b1,b2,hbG,notP _ _ b3,I.inv.base _ _ b3,b4,b5,b6⟩ λctv doc h' tk hk hsz=>?_
  have J:InvS W fm V ps { s with heap:=h',toks:=tk }:=⟨I.inv.keeps hk,I.gens,I.os⟩
  have R:Rel fm.stk fm.tab V s.heap h':=.of_keeps hk
  exact h _ doc ctv k _ (Bm J _) (Bx (s:={ s with heap:=h',toks:=tk }) R _) (A6 J (AH _)) (R.live _ (AH _)) ⟨⟨_,get?_push_size _ rfl,rfl⟩,hs,by rw [<- hb],rfl,rfl,rfl,k,oc,vs,t,rfl,get?_push_of_some _ (hk _ _ k1),k2,k3,by rw [hq];exact k4⟩
end
end Mi
end
section
open PySem PySem.W PyProof.Rows
open PySem.Builtin PySem.Builtin.Str
set_option maxRecDepth 100000
namespace Mi
def posns (c:Nat)(x:Txt)(hi:Nat):List Nat:=(range hi).filter λi=>x[i]?==some c
def Nr (l:List PV):Option (Nat × Int × Int):=un l λp r=>(asS p).bind λs=>(one s).bind λc=>un r λq r=>(asI q).bind λa=>un r λq r=>(asI q).bind λb=>cond r.isEmpty (some (c,a,b)) none
theorem QN {l:List PV}{x:Nat × Int × Int}(h:Nr l=some x):l=[.str [x.1],.int x.2.1,.int x.2.2]:=by
 obtain ⟨p,r,rfl,h⟩:=Ha h
 obtain ⟨s,es,h⟩:=aW.mp h
 obtain ⟨c,ec,h⟩:=aW.mp h
 obtain ⟨q,r,rfl,h⟩:=Ha h
 obtain ⟨a,ea,h⟩:=aW.mp h
 obtain ⟨q',r,rfl,h⟩:=Ha h
 obtain ⟨b,eb,h⟩:=aW.mp h
 obtain ⟨rfl,rfl⟩:=Hb h
 rw [Bf es,Hc ec,AW ea,AW eb]
def HE (v:PV)(l:List PV):M PV:=ap (asS v) λx=>ap (Nr l) λq=>am (q.2.1==0&&0<=q.2.2&&small q.2.2) (ae (.int (posns q.1 x (min q.2.2.toNat x.length)).length))
def FE (v:PV)(l:List PV):M PV:=ap (asS v) λx=>ap (Nr l) λq=>am (q.2.1==0&&0<=q.2.2&&small q.2.2) (match (posns q.1 x (min q.2.2.toNat x.length)).getLast? with
  | some i=>ae (.int i)
  | none=>ar)
theorem JB (x:Txt)(c hi i:Nat)(hh:hi<=x.length):(i+(⟨#[c]⟩:Str).length<=hi/\subAt (txt x) ⟨#[c]⟩ i=true)↔i<hi/\x[i]? = some c:=by
 have e:(⟨#[c]⟩:Str).length=1:=rfl
 have:subAt (txt x) ⟨#[c]⟩ i=true↔x[i]? = some c:=by
  rw [StrLaws.subAt_eq]
  simp only [e,txt]
  exact StrLaws.take1_drop
 rw [this,e]
 constructor
 ·rintro ⟨h1,h2⟩;exact ⟨by exact la [_,_] [([2,3,0],[4])] ([2,3,0],[4]) rfl h1,h2⟩
 ·rintro ⟨h1,h2⟩;exact ⟨by exact la [_,_] [([2,3,0],[4])] ([2,3,0],[4]) rfl h1,h2⟩
theorem Tq (x:Txt)(c hi limit:Nat)(hh:hi<=x.length)(l:List Nat):∀ (found:Array Nat) (free:Nat),(∀ i∈l,free<=i)->l.Pairwise (· < ·)->found.size+l.length<=limit ->
  (forIn l (found,free) (StrLaws.occBody (txt x) ⟨#[c]⟩ hi limit)).run.fst.toList=found.toList++l.filter λi=>decide (i<hi)&&(x[i]?==some c):=by
 induction l with
 | nil=>intro found free _ _ _;simp
 | cons a l ih=>
  intro found free hf hp hl
  have hp':=List.pairwise_cons.mp hp
  rw [forIn_cons]
  unfold StrLaws.occBody
  have hfa:=hf a mem_cons_self
  simp only [length_cons] at hl
  by_cases q:a<hi/\x[a]? = some c
  ·have q':=(JB x c hi a hh).mpr q
   rw [if_pos ⟨⟨⟨by show found.size<limit;exact la [_,_,_] [([2,4,3,0,0],[6])] ([2,3,0],[6]) rfl hl,hfa⟩,q'.1⟩,q'.2⟩]
   refine (ih (found.push a) (a+1) (λi m=>hp'.1 i m) hp'.2 (by simp;exact la [_,_,_] [([2,4,3,0,0],[6])] ([2,3,0,4,0],[6]) rfl hl)).trans ?_
   rw [filter_cons,if_pos (by simp [q.1,q.2])]
   simp
  ·have q':¬ (((((found,free):Array Nat × Nat).fst.size<limit/\((found,free):Array Nat × Nat).snd<=a)/\a+(⟨#[c]⟩:Str).length<=hi)/\subAt (txt x) ⟨#[c]⟩ a=true):=λz=>q ((JB x c hi a hh).mp ⟨z.1.2,z.2⟩)
   rw [if_neg q']
   refine (ih found free (λi m=>hf i (mem_cons_of_mem _ m)) hp'.2 (by exact la [_,_,_] [([2,4,3,0,0],[6])] ([2,4,0],[6]) rfl hl)).trans ?_
   rw [filter_cons,if_neg (by simpa using λh=>by simpa using λz=>q ⟨h,z⟩)]
theorem IU (c:Nat)(x:Txt)(hi:Nat):((range' 0 (hi+1 - 0)).filter λi=>decide (i<hi)&&(x[i]?==some c))=posns c x hi:=by
 rw [Nat.sub_zero,<- List.range_eq_range',range_succ,filter_append]
 have e1:[hi].filter (λi=>decide (i<hi)&&(x[i]?==some c))=[]:=by simp
 rw [e1,append_nil]
 unfold posns
 exact List.filter_congr λi m=>by rw [mem_range] at m;simp [m]
theorem QP (x:Txt)(c hi:Nat)(hh:hi<=x.length)(l:List Nat):∀ (st:Option Nat),(forIn l st (StrLaws.lastBody (txt x) ⟨#[c]⟩ hi)).run=match (l.filter λi=>decide (i<hi)&&(x[i]?==some c)).getLast? with | some a=>some a | none=>st:=by
 induction l with
 | nil=>intro st;simp
 | cons a l ih=>
  intro st
  rw [forIn_cons]
  unfold StrLaws.lastBody
  by_cases q:a<hi/\x[a]? = some c
  ·rw [if_pos ((JB x c hi a hh).mpr q)]
   refine (ih (some a)).trans ?_
   rw [filter_cons,if_pos (by simp [q.1,q.2]),List.getLast?_cons]
   cases (l.filter λi=>decide (i<hi)&&(x[i]?==some c)).getLast? <;> rfl
  ·rw [if_neg λz=>q ((JB x c hi a hh).mp z)]
   refine (ih st).trans ?_
   rw [filter_cons,if_neg (by simpa using λh=>by simpa using λz=>q ⟨h,z⟩)]
theorem JC (x y:Str)(i j:Int)(t u v z:Tok):Gives («str.count» ⟨[.str x t,.str y u,.int i v,.int j z],[]⟩) (.int (occurrences x y (fromIndex x.length i) (min (fromIndex x.length j) x.length) (x.length+1)).length):=by
 show Gives (retInt (occurrences x y (fromIndex x.length i) (min (fromIndex x.length j) x.length) (x.length+1)).length) _
 exact .of_eq rfl
theorem Im (x y:Str)(i j:Int)(t u v z:Tok)(k:Nat)(h:lastOccurrence x y (fromIndex x.length i) (min (fromIndex x.length j) x.length)=some k):Gives («str.rindex» ⟨[.str x t,.str y u,.int i v,.int j z],[]⟩) (.int k):=by
 show Gives (match lastOccurrence x y (fromIndex x.length i) (min (fromIndex x.length j) x.length) with | some i=>retInt i | none=>(do rule "str.rindex.not-found";raiseError "ValueError" "substring not found")) _
 rw [h]
 exact .of_eq rfl
section
variable {W:Wd}{fm:Fm}{V α' α₁ X0 W1:List Addr}{h h' h₁ Y2 Z3 start:Heap}{n:Nat}{A:Around}{ps ps':PS}{s s' c0 w0:Shared}{H:Hd}{h₀:Heap}{own:List Addr}{E:Value->Shared->Prop}
theorem FF {len:Nat}{b:Int}(h:0<=b):fromIndex len b=b.toNat:=by
 unfold fromIndex
 rw [if_neg (by lia)]
 congr 1;lia
theorem HF {β:Type}{f:Nat × Int × Int->M β}{l:List PV}{vs:List Value}(r:RepL W.H W.h₀ fm.av V h l vs)(ns:ap (Nr l) f ps≠.stuck):∃ c a b t u v,l=[.str [c],.int a,.int b]/\vs=[.str (txt [c]) t,.int a u,.int b v]:=by
 obtain ⟨⟨c,a,b⟩,e⟩:=A8 ns
 obtain rfl:=QN e
 obtain ⟨_,_,rfl,r1,s1⟩:=r.inv
 obtain ⟨_,_,rfl,r2,s2⟩:=s1.inv
 obtain ⟨_,_,rfl,r3,s3⟩:=s2.inv
 obtain ⟨_,rfl⟩:=r1.inv;obtain ⟨_,rfl⟩:=r2.inv;obtain ⟨_,rfl⟩:=r3.inv
 obtain rfl:_=[]:=s3.inv
 exact ⟨c,a,b,_,_,_,rfl,rfl⟩
theorem Mr:MethAt "str" "str.count" "count":=⟨PySem.F.plainAttrs_str,PySem.F.slot_str_count,PySem.F.type_str_count⟩
theorem KU:MethAt "str" "str.rindex" "rindex":=⟨PySem.F.plainAttrs_str,PySem.F.slot_str_rindex,PySem.F.type_str_rindex⟩
theorem QQ:OpMeth W n fm B7 "str.count" HE:=.mk λA V ps s p v l vs C I hK r rl ns=>by
 obtain ⟨x,rfl⟩:=Gb hK
 obtain ⟨c,a,b,t,u,v,rfl,rfl⟩:=HF rl ns
 obtain ⟨t0,rfl⟩:=r.inv
 have ns':am (a==0&&0<=b&&small b) (ae (PV.int (posns c x (min b.toNat x.length)).length)) ps≠.stuck:=ns
 obtain ⟨cc,e⟩:=Ah ns'
 simp only [and_eq_true,decide_eq_true_eq,beq_iff_eq] at cc
 obtain ⟨⟨rfl,hb⟩,_⟩:=cc
 refine Af.congr (m:=HE (.str x) [.str [c],.int 0,.int b]) e ?_
 have f0:fromIndex (txt x).length 0=0:=FF (by lia)
 have key:occurrences (txt x) (txt [c]) (fromIndex (txt x).length 0) (min (fromIndex (txt x).length b) (txt x).length) ((txt x).length+1)=posns c x (min b.toNat x.length):=by
  rw [f0,FF hb,AN,StrLaws.occ_eq]
  have:=Tq x c (min b.toNat x.length) (x.length+1) (by exact la [_,_] [([2],[4])] ([2],[4]) rfl (Nat.min_le_right _ _)) (range' 0 (min b.toNat x.length+1 - 0)) #[] 0 (λU U=>aP _) (List.pairwise_lt_range' ..) (by simp;exact la [_,_] [([2],[4])] ([2],[4]) rfl (Nat.min_le_right _ _))
  exact this.trans (by rw [IU];simp)
 have g:=JC (txt x) (txt [c]) 0 b t0 t u v
 rw [key] at g
 exact call_gives F.slot_str_count (typeIs_str _ _ _) F.entry_str_count (F.args_str_count_4 _ _ _ _) g (OkE.same I (.int _ _))
theorem OM:OpMeth W n fm B7 "str.rindex" FE:=.mk λA V ps s p v l vs C I hK r rl ns=>by
 obtain ⟨x,rfl⟩:=Gb hK
 obtain ⟨c,a,b,t,u,v,rfl,rfl⟩:=HF rl ns
 obtain ⟨t0,rfl⟩:=r.inv
 have ns':am (a==0&&0<=b&&small b) (match (posns c x (min b.toNat x.length)).getLast? with
  | some i=>ae (PV.int i)
  | none=>ar) ps≠.stuck:=ns
 obtain ⟨cc,e⟩:=Ah ns'
 rw [e] at ns'
 simp only [and_eq_true,decide_eq_true_eq,beq_iff_eq] at cc
 obtain ⟨⟨rfl,hb⟩,_⟩:=cc
 refine Af.congr (m:=FE (.str x) [.str [c],.int 0,.int b]) e ?_
 have f0:fromIndex (txt x).length 0=0:=FF (by lia)
 have key:lastOccurrence (txt x) (txt [c]) (fromIndex (txt x).length 0) (min (fromIndex (txt x).length b) (txt x).length)=(posns c x (min b.toNat x.length)).getLast?:=by
  rw [f0,FF hb,AN,StrLaws.last_eq]
  have:=QP x c (min b.toNat x.length) (by exact la [_,_] [([2],[4])] ([2],[4]) rfl (Nat.min_le_right _ _)) (range' 0 (min b.toNat x.length+1 - 0)) none
  refine this.trans ?_
  rw [IU]
  cases (posns c x (min b.toNat x.length)).getLast? <;> rfl
 cases q:(posns c x (min b.toNat x.length)).getLast? with
 | none=>rw [q] at ns';exact absurd rfl ns'
 | some k=>
  simp only [q] at ns' ⊢
  exact call_gives F.slot_str_rindex (typeIs_str _ _ _) F.entry_str_rindex (F.args_str_rindex_4 _ _ _ _) (Im (txt x) (txt [c]) 0 b t0 t u v k (key.trans q)) (OkE.same I (.int _ _))
end
end Mi
end
section
open PySem PySem.W PyProof.Rows
set_option maxRecDepth 100000
namespace Mi
abbrev SimF.T (W:Wd)(n:Nat)(fm:Fm)(P:Heap->Prop)(e:Expr)(m:M PV):Prop:=∀ A V ps s,Ctx W fm n A->InvS W fm V ps s->P s.heap->m ps≠.stuck->Af W fm A V ps s (eval e fm.env) m
structure SimF (W:Wd)(n:Nat)(fm:Fm)(P:Heap->Prop)(e:Expr)(m:M PV):Prop where
 go:SimF.T W n fm P e m
noncomputable instance {W:Wd} {n:Nat} {fm:Fm} {P:Heap->Prop} {e:Expr} {m:M PV}:CoeFun (SimF W n fm P e m) (λU=>SimF.T W n fm P e m):=⟨SimF.go⟩
def QR (W:Wd)(fm:Fm)(P:Heap->Prop):Prop:=∀ V ps s h',FmOk W.h₀ fm->InvS W fm V ps s->P s.heap->Rel fm.stk fm.tab V s.heap h'->P h'
inductive CrAt (fm:Fm)(x:Str)(fi:Fi)(f:Addr)(of:Obj)(fd:FuncData)(h:Heap):Prop
 | mk (m:Str->Option Value) (k1:h.Ns fm.env.locals m) (k2:m x=some (.ref f)) (k3:f∉fm.av) (k4:h.get? f=some of) (k5:of.data = .func fd) (k6:JA h f fd fi):CrAt fm x fi f of fd h
def aC (m:M Txt)(l:List PV):M Txt:=λs=>match m ⟨λi=>l[i]?,s.st⟩ with
 | .ok t s'=>.ok t ⟨s.loc,s'.st⟩
 | .ex e s'=>.ex e ⟨s.loc,s'.st⟩
 | .stuck=>.stuck
def Uv (v:PV):M Txt:=match v with
 | .str t=>ae t
 | _=>ar
def EJ (m2:M PFlow):M Txt:=
 ac (aB [ac (af 2) EI,ae (.str (" (at ":Str).cps.toList),ac (ac (ah [af 0,af 1]) (ao m2)) EI,ae (.str (")":Str).cps.toList)] []) Uv
section
variable {W:Wd}{fm:Fm}{V α' α₁ X0 W1:List Addr}{h h' h₁ Y2 Z3 start:Heap}{n:Nat}{A:Around}{ps ps':PS}{s s' c0 w0:Shared}{H:Hd}{h₀:Heap}{own:List Addr}{E:Value->Shared->Prop}{P:Heap->Prop}
theorem SimE.toF {e:Expr}{m:M PV}(h:SimE W n fm e m):SimF W n fm P e m:=.mk λA V ps s C I U ns=>h A V ps s C I ns
theorem CrAt.stay {x:Str}{fi:Fi}{f:Addr}{of:Obj}{fd:FuncData}:QR W fm (CrAt fm x fi f of fd):=λα ps s h' F I q R=>by
 obtain ⟨m,⟨oL,es,ep,n1,n2,n3⟩,hm,fav,f1,f2,⟨_,g1,g2,g3,g4,g5,c,oc,vs,t,c1,c2,c3,c4,c5⟩⟩:=q
 have nL:fm.env.locals∉fm.tab:=λm=>by
  obtain ⟨ps,e',_⟩:=I.inv.tabs _ m
  rw [n1] at e';cases e';cases n2
 have at_:∃ sl,h'.get? fm.env.locals=some { oL with slots:=sl }:=by
  by_cases q:fm.env.locals∈frs fm.stk
  ·exact R.slot _ _ n1 q nL λz=>I.inv.lists.apart _ z F.locAv
  ·exact ⟨oL.slots,R.keep _ _ n1 q nL λz=>I.inv.lists.apart _ z F.locAv⟩
 obtain ⟨sl,e1⟩:=at_
 have fk:h'.get? f=some of:=R.keep _ _ f1 (λz=>fav (F.frsAv _ z)) (λz=>fav (F.tabAv _ z)) λz=>by
  obtain ⟨ws,o',e',_,k',d'⟩:=I.inv.lists.isList z
  rw [f1] at e';cases e';rw [f2] at d';cases d'
 have ck:h'.get? c=some oc:=R.keep _ _ c2 (λz=>by
  obtain ⟨_,o',ho',nf⟩:=Heap.FunFrames.mem I.inv.frames z
  rw [c2] at ho';cases ho';exact nf vs c4) (λz=>by
  obtain ⟨ps,e',_⟩:=I.inv.tabs _ z
  rw [c2] at e';cases e';cases c3) λz=>by
  obtain ⟨ws,o',e',_,k',d'⟩:=I.inv.lists.isList z
  rw [c2] at e';cases e';rw [c4] at d';cases d'
 exact ⟨m,⟨_,es,ep,e1,n2,n3⟩,hm,fav,fk,f2,⟨⟨of,fk,f2⟩,g1,g2,g3,g4,g5,c,oc,vs,t,c1,ck,c3,c4,c5⟩⟩
set_option tactic.hygienic true in
theorem QS {v:Expr}{pos:Pos}{m:M PV}(hv:SimF W n fm P v m):SimF W n fm P (.FormattedValue v (-1) none pos) (ac m EI):=.mk λA V ps s C I hP ns=>by
 refine wpAny_FormattedValue_plain (Af.seq (hv A V ps s C I hP (Ac ns)) (λp v α₁ o0 c0 s0 d0 l0 Y0 u0=>?_) λx c0 q=>q.bind)
 rw [Ab u0] at ns ⊢
 cases p <;> (try exact absurd rfl ns)
 ·rename_i i
  obtain ⟨t,rfl⟩:=Y0.inv
  have ns':am (small i) (ae (PV.str (C7 i))) o0≠.stuck:=ns
  obtain ⟨c,e⟩:=Ah ns'
  refine aX (Q:=OkE W fm α₁ c0.heap (ae (PV.str (C7 i)) o0)) (E:=λU U=>False) ?_ (λU U q=>?_) λU U z=>z.elim
  ·refine wpAny_formatField_int (IP c) ?_
   have:=OkE.same (t:=c0.toks+1+1) s0 (RepV.str (H:=W.H) (h₀:=W.h₀) (av:=fm.av) (V:=α₁) (h:=c0.heap) (C7 i) (c0.toks+1))
   rw [Nn] at this
   exact this
  ·have eq:EI (.int i) o0=ae (PV.str (C7 i)) o0:=e
   rw [eq];exact q.after d0 l0
 ·rename_i x
  obtain ⟨t,rfl⟩:=Y0.inv
  have ns':aA x o0≠.stuck:=ns
  obtain ⟨hl,e⟩:=Hx ns'
  have eq:EI (.str x) o0 = .ok (.str x) o0:=e
  rw [eq]
  exact wpAny_formatField_str ((OkE.same' s0 (.str x t)).after d0 l0) ((OkE.same (t:=c0.toks+1) s0 (.str x c0.toks)).after d0 l0) (by rw [AN];exact hl)
set_option tactic.hygienic true in
theorem ON (st:QR W fm P){R0:R PV}(C:Ctx W fm n A):∀ {es:List Expr} {ms:List (M PV)},All2 (SimF W n fm P) es ms->∀ (acc:Txt) (V:List Addr) (ps:PS) (s:Shared),InvS W fm V ps s->P s.heap->Grow W1 V start->Rel fm.stk fm.tab W1 start s.heap->R0=aB ms acc ps->R0≠.stuck ->
  Joins W.m A (ExE W fm W1 start R0) (evalEach es fm.env) (txt acc) (λout c0=>out.length<=sizeLine/\OkE W fm W1 start R0 (.str out c0.toks) { c0 with toks:=c0.toks+1 }) s:=by
 intro _ _ hS
 induction hS with
 | nil=>
  intro acc V ps s I hP g x e ns
  have ns':aA acc ps≠.stuck:=by rw [e] at ns;exact ns
  obtain ⟨hl,e'⟩:=Hx ns'
  refine ⟨by rw [AN];exact hl,.str acc,ps,V,e.trans e',I.tok _,g,x,.str acc _⟩
 | @cons v m es ms q qs ih=>
  intro acc V ps s I hP g x e ns
  have eq:R0=ac m (λv=>match v with
   | .str t=>am ((acc++t).length<=big) (aB ms (acc++t))
   | _=>ar) ps:=e
  show wpAny W.m A (eval v fm.env) _ _ s
  refine Af.seq (q A V ps s C I hP (Ac (eq▸ns))) (λp v α₁ o0 c0 s0 d0 l0 Y0 u0=>?_) λy c0 z=>by rw [eq];exact z.bind.after g x
  rw [Ab u0] at eq
  cases p <;> (try exact absurd eq ns)
  rename_i t
  obtain ⟨tk,rfl⟩:=Y0.inv
  have eq:R0=am ((acc++t).length<=big) (aB ms (acc++t)) o0:=eq
  have ns':am ((acc++t).length<=big) (aB ms (acc++t)) o0≠.stuck:=λz=>ns (eq.trans z)
  obtain ⟨c,e2⟩:=Ah ns'
  rw [decide_eq_true_eq] at c
  refine ⟨txt t,tk,rfl,by rw [Et,AN,<- BU];exact c,?_⟩
  rw [Et]
  exact ih (acc++t) α₁ o0 c0 s0 (st _ _ _ _ C.fm I hP l0) (g.trans d0 x) (x.trans l0 g.new) (eq.trans e2) ns
theorem KV (st:QR W fm P){e1 e2:Expr}{es:List Expr}{ms:List (M PV)}{pos:Pos}(q:All2 (SimF W n fm P) (e1::e2::es) ms):SimF W n fm P (.JoinedStr (e1::e2::es) pos) (aB ms []):=.mk λA V ps s C I hP ns=>
 wpAny_JoinedStr (ON st C q [] V ps s I hP (.refl ..) (.refl ..) rfl ns)
theorem VY {x:Str}{fi:Fi}{f:Addr}{of:Obj}{fd:FuncData}{np pos:Pos}{e0:Expr}{es:List Expr}{ms:List (M PV)}{m:M PFlow}(hk:fm.env.kindOf x=some .local)(hd:(x==("__debug__":Str))=false)(q:SimL W (n+1) fm (e0::es) ms)(ok:fi.Ok)
  (hlen:fi.params.length=ms.length) (hb:∀ s vs,vs.length=ms.length->BindsTo s fd ⟨vs,[]⟩ (fi.params.zip vs)) (body:∀ fm':Fm,fm'.sc=fi.sc->fm'.env.scope=fi.scope->fm'.hdl=fm.hdl->SimS W n fm' fi.body m) :
  SimF W (n+1) fm (CrAt fm x fi f of fd) (.Call (.Name x np) (e0::es) [] pos) (ac (ah ms) (ao m)):=.mk λA V ps s C I hP ns=>by
 have hP0:=hP
 obtain ⟨mL,hns,hm,fav,f1,f2,N⟩:=hP0
 unfold Af
 rw [arm_eval_Call_Name']
 refine bj (wpAny_Name (wpAny_loadName_local C.fm.kind hk hns hm ?_) hd)
 refine callWith_function_kw (fd:=fd) (o:=of) (A3 (q.plain _) (aX (CX q A V ps s C I (Ac ns)) (λvs c0 z=>?_) λx c0 z=>z.bind))
 obtain ⟨l,o0,α₁,u0,s0,d0,l0,Y0⟩:=z
 rw [Ab u0] at ns ⊢
 obtain ⟨_,_,_,_,f1',_,e7⟩:=CrAt.stay (W:=W) (fm:=fm) V ps s c0.heap C.fm I hP l0
 refine ⟨⟨f1',f2⟩,?_⟩
 have len:vs.length=ms.length:=by rw [<- Y0.length,FA u0]
 exact aX (Jt (l:=l) (vs:=vs) C s0 e7.fnAt ok (hb c0 vs len) (by rw [hlen,len]) Y0 body ns) (λU U q=>q.after d0 l0) (λU U q=>q.after d0 l0)
theorem NewExc.since {C e:Addr}{m:Txt}(X:NewExc C h₁ h e m)(l:∀ b,h₁.get? b=none->Y2.get? b=none):NewExc C Y2 h e m:=by
 obtain ⟨a,o,vs,T,tk,h1,h2,h3,h4,h5,h6,h7,h8⟩:=X
 exact ⟨l _ a,o,vs,T,tk,h1,h2,h3,h4,h5,h6,h7,l _ h8⟩
theorem QT {t:Txt}{tk:Tok}{Q:Value->Shared->Prop}(C:Ctx W fm n A)(I:InvS W fm V ps s)(h:∀ e s',InvS W fm V ps s'->Rel fm.stk fm.tab V s.heap s'.heap->NewExc W.H.toml s.heap s'.heap e t->Q (.ref e) s') :
  wpAny W.m A (call (.ref W.H.toml) [.str (txt t) tk]) Q E s:=by
 obtain ⟨nm,q,N,bs,hdct,sn,sub,ab,col,dd,k0,k1,k2,k3,k5,mN,hC,hN,hno⟩:=(C.hd.tomlC.keeps I.inv.base).at_
 have hni:mN "__init__" = none:=hno _ (by decide +kernel)
 obtain ⟨hp,g,d,tk',os⟩:=s
 refine wpAny_call_exc_subT (hrest:=by simp [sizeLine]) PySem.F.excBase_ValueError .base hC hN hni λh' e X=>?_
 obtain ⟨T,hT,nT,hI⟩:=X.there
 refine h e _ ⟨I.inv.keeps X.keeps,I.gens,I.os⟩ (.of_keeps X.keeps) ⟨X.new,_,_,T,tk,hT,rfl,rfl,by simp,rfl,rfl,⟨_,hI,rfl,0,rfl⟩,nT⟩
theorem OO {pos:Pos}{args:List (Bool × Sem Value)}{Q:Value->Shared->Prop}(hplain:args.any (·.1)=false)
  (h:wpAny W.m A (evalArgs (.ref W.H.toml) true args []) (λa c0=>a.kw=[]/\ClsAt W.H.toml c0.heap/\wpAny W.m A (call (.ref W.H.toml) a.pos) Q E c0) E s) :
  wpAny W.m A (callWith pos (.ref W.H.toml) [] args []) Q E s:=by
 refine bj (bh (aX h (λa c0 h₁=>bj (wpAny_standAt ?_)) λU U x=>x))
 obtain ⟨apos,akw⟩:=a
 obtain ⟨hkw,K,h₁⟩:=h₁
 obtain rfl:akw=[]:=hkw
 obtain ⟨nm,q,N,bs,hdct,sn,sub,ab,col,dd,k0,k1,k2,k3,k5,mN,hC,hN,hno⟩:=K.at_
 obtain ⟨hp,g,d,tk,os⟩:=c0
 rw [hplain]
 refine bj (wpAny_keeperOf_exc hC ?_)
 exact bj (aX h₁ (λr w0 hr=>bj (bh (wpAny_point (bk hr)))) λU U x=>x)
inductive OkX (W:Wd)(fm:Fm)(V:List Addr)(h:Heap)(r:R Txt)(f:Flow)(s':Shared):Prop
 | mk (a:Addr) (t:Txt) (ps':PS) (α':List Addr) (k1:f = .ret (.ref a)) (k2:r = .ok t ps') (k3:InvS W fm α' ps' s') (k4:Grow V α' h) (k5:Rel fm.stk fm.own V h s'.heap) (k6:NewExc W.H.toml h s'.heap a t):OkX W fm V h r f s'
def Gy:List (Str × NameKind × Nat):=[(("src":Str),NameKind.local,0),(("pos":Str),NameKind.local,1),(("msg":Str),NameKind.local,2),(("TOMLDecodeError":Str),NameKind.globalImplicit,3)]
structure SufFm (W:Wd)(fm:Fm)(c P:Addr):Prop where
 sc:fm.sc=Gy
 kind:fm.env.kindOf "coord_repr" = some .local
 code:fm.env.code = .ref c
 head:CodeHd W.h₀ c P
 tab:fm.tab=[P]
 qual:fm.env.qual++("coord_repr":Str)=W.H.tabQ
set_option tactic.hygienic true in
theorem KW {fi:Fi}{params:Arguments}{scope:Scope}{body:List Stmt}{c P:Addr}{m2:M PFlow}{dp p1 p2 p3 p4 p5 p6 p7 p8 p9 p10 p11 p12 p13:Pos}{k1 k2:Nat}(S:SufFm W fm c P)(hp:dp=W.H.tabPos)(hd0:params.defaults=[])(hk0:params.kw_defaults=[])(ha:∀ env,annTrees params none env=[])
  (hfree:∀ y∈scope.names,y.2≠.free) (hs:scope=fi.scope) (hb:body=fi.body) (hlen:fi.params.length=2) (hbd:∀ doc pm c' ctv s vs,vs.length=2->BindsTo s (fnX "coord_repr" W.H.tabQ params body scope [] .none .none doc pm none (.ref c') ctv) ⟨vs,[]⟩ (fi.params.zip vs))
  (ok:fi.Ok) (hbody:∀ fm':Fm,fm'.sc=fi.sc->fm'.env.scope=fi.scope->fm'.hdl=fm.hdl->SimS W n fm' fi.body m2) (C:Ctx W fm (n+1) A) (I:InvS W fm V ps s) (ns:EJ m2 ps≠.stuck) :
  wpAny W.m A (execs [.FunctionDef "coord_repr" params body [] none [] scope none "coord_repr" dp,
   .Return (some (.Call (.Name "TOMLDecodeError" p1) [.JoinedStr [.FormattedValue (.Name "msg" p2) (-1) none p3,.Constant (.str " (at ") k1 p4,.FormattedValue (.Call (.Name "coord_repr" p5) [.Name "src" p6,.Name "pos" p7] [] p8) (-1) none p9,.Constant (.str ")") k2 p10] p11] [] p12)) p13] fm.env)
   (OkX W fm V s.heap (EJ m2 ps)) (ExS W fm V s.heap (EJ m2 ps)) s:=by
 have i0:(("src":Str),NameKind.local,0)∈fm.sc:=by rw [S.sc];simp [Gy]
 have i1:(("pos":Str),NameKind.local,1)∈fm.sc:=by rw [S.sc];simp [Gy]
 have i2:(("msg":Str),NameKind.local,2)∈fm.sc:=by rw [S.sc];simp [Gy]
 have i3:(("TOMLDecodeError":Str),NameKind.globalImplicit,3)∈fm.sc:=by rw [S.sc];simp [Gy]
 have hx:∀ k i,(("coord_repr":Str),k,i)∉fm.sc:=λk i=>by
  rw [S.sc]
  intro q
  simp only [Gy,mem_cons,Prod.mk.injEq,not_mem_nil,or_false] at q
  rcases q with q | q | q | q <;> exact absurd q.1 (by decide +kernel)
 refine wpAny_execs_cons (nestDef_K hd0 hk0 (ha _) ?_)
 have eq:qualnameIn fm.env ("coord_repr":Str) ("coord_repr":Str)=W.H.tabQ:=by
  unfold qualnameIn
  rw [S.kind,if_neg (by decide)]
  exact S.qual
 rw [eq]
 refine GM C I S.code S.head S.tab hp rfl hfree hs hb C.hd.bmain λf doc ctv c' c0 J R fav fnew N=>?_
 obtain ⟨mL,hns,hloc⟩:=J.inv.loc
 refine wpAny_storeName_local S.kind hns (λY2 u7 w6=>?_) (by simp [C.fm.kind])
 obtain ⟨W5,j5⟩:=Qv (tk:=c0.toks+1) C.fm J hx hns u7 w6
 have fL:f≠fm.env.locals:=λq=>fav (q▸C.fm.locAv)
 obtain ⟨⟨of,of1,of2⟩,N1,N2,N3,N4,N5,cc,oc,vs,t,N6,N7,N8,N9,N10⟩:=N
 have cL:cc≠fm.env.locals:=λq=>by
  obtain ⟨o,_,_,e,d,_⟩:=hns
  rw [q,e] at N7;cases N7;rw [d] at N9;cases N9
 have cr:CrAt fm "coord_repr" fi f of (fnX "coord_repr" W.H.tabQ params body scope [] .none .none doc ((W.H.mg "__name__").getD .none) none (.ref c') ctv) Y2:=⟨_,u7,by simp,fav,(w6.2 f fL).trans of1,of2,⟨⟨of,(w6.2 f fL).trans of1,of2⟩,N1,N2,N3,N4,N5,cc,oc,vs,t,N6,(w6.2 cc cL).trans N7,N8,N9,N10⟩⟩
 have R02:=(R.up).trans j5 λa m q=>absurd m q
 have hcall:=VY (fd:=(fnX "coord_repr" W.H.tabQ params body scope [] .none .none doc ((W.H.mg "__name__").getD .none) none (.ref c') ctv)) (W:=W) (n:=n) (np:=p5) (pos:=p8) (f:=f) (of:=of) S.kind (by decide +kernel) (.cons (GT (pos:=p6) i0 (.inl rfl) (by decide +kernel) (by decide +kernel)) (λU U=>rfl) (.cons (GT (pos:=p7) i1 (.inl rfl) (by decide +kernel) (by decide +kernel)) (λU U=>rfl) .nil)) ok hlen (hbd doc _ c' ctv) hbody
 have parts:All2 (SimF W (n+1) fm (CrAt fm "coord_repr" fi f of (fnX "coord_repr" W.H.tabQ params body scope [] .none .none doc ((W.H.mg "__name__").getD .none) none (.ref c') ctv))) [.FormattedValue (.Name "msg" p2) (-1) none p3,.Constant (.str " (at ") k1 p4,.FormattedValue (.Call (.Name "coord_repr" p5) [.Name "src" p6,.Name "pos" p7] [] p8) (-1) none p9,.Constant (.str ")") k2 p10]
   [ac (af 2) EI,ae (.str (" (at ":Str).cps.toList),ac (ac (ah [af 0,af 1]) (ao m2)) EI,ae (.str (")":Str).cps.toList)]:=
  .cons (Jx (GT i2 (.inl rfl) (by decide +kernel) (by decide +kernel))).toF (.cons GS.toF (.cons (QS hcall) (.cons GS.toF .nil)))
 unfold EJ at ns ⊢
 refine wpAny_execs_cons (wpAny_Return_some ?_)
 rw [arm_eval_Call_Name']
 refine bj (IL (s:={ c0 with heap:=Y2,toks:=c0.toks+1 }) C W5 i3 ?_)
 refine OO rfl (A3 rfl (Calls.spliced_cons ?_))
 have nsJ:=Ac ns
 have hj:=KV (pos:=p11) CrAt.stay parts
 have ex:∀ {β:Type} {r:Mi.R β} {x:Value} {w3:Shared},ExE W fm V Y2 r x w3->ExS W fm V s.heap r x w3:=λq=>ExS.after q.toS (.refl ..) R02
 refine Af.seq (hj A V ps { c0 with heap:=Y2,toks:=c0.toks+1 } C W5 cr nsJ) (λp v α₁ o0 w3 Z1 u3 v3 b8 Y3=>?_) λx w3 q=>ex q.bind
 rw [Ab Y3] at ns ⊢
 cases p <;> (try exact absurd rfl ns)
 rename_i t
 obtain ⟨tk,rfl⟩:=b8.inv
 refine Calls.spliced_nil ⟨rfl,C.hd.tomlC.keeps Z1.inv.base,?_⟩
 have R3:=R02.trans v3.up λa m q=>absurd m q
 have g3:Grow V α₁ s.heap:=⟨u3.pre,λa m q=>R02.live a (u3.new a m q)⟩
 refine QT C Z1 λe w4 y5 e8 X=>?_
 exact ⟨e,t,o0,α₁,rfl,rfl,y5,g3,R3.trans e8.up g3.new,X.since λb q=>R3.live b q⟩
end
section
variable {W:Wd}{fm:Fm}{V α' α₁ X0 W1:List Addr}{h h' h₁ Y2 Z3 start:Heap}{n:Nat}{A:Around}{ps ps':PS}{s s' c0 w0:Shared}{H:Hd}{h₀:Heap}{own:List Addr}{E:Value->Shared->Prop}{P:Heap->Prop}{fd:FuncData}{fi:Fi}{a:Addr}{vs:List Value}{l:List PV}
theorem QU {m:M Txt}{t:Txt}(h:m ⟨λi=>l[i]?,ps.st⟩ = .ok t ps'):aC m l ps = .ok t ⟨ps.loc,ps'.st⟩:=by
 unfold aC;rw [h]
theorem QV {m:M Txt}{e:PX}(h:m ⟨λi=>l[i]?,ps.st⟩ = .ex e ps'):aC m l ps = .ex e ⟨ps.loc,ps'.st⟩:=by
 unfold aC;rw [h]
theorem QW {m:M Txt}(h:aC m l ps≠.stuck):m ⟨λi=>l[i]?,ps.st⟩≠.stuck:=by
 intro e;unfold aC at h;rw [e] at h;exact h rfl
theorem QX {m:M Txt}{pos:List Value}{kw:List (Str × Value)}(C:Ctx W fm (n+1) A)(I:InvS W fm V ps s)(Fa:FnAt s.heap a fd fi)(ok:fi.Ok)(hb:BindsTo s fd ⟨pos,kw⟩ (fi.params.zip vs))(hl:fi.params.length=vs.length)
  (rl:RepL W.H W.h₀ fm.av V s.heap l vs) (body:∀ L A V ps s,Ctx W (AT fm fd fi L a) n A->InvS W (AT fm fd fi L a) V ps s->m ps≠.stuck->wpAny W.m A (execs fi.body (AT fm fd fi L a).env) (OkX W (AT fm fd fi L a) V s.heap (m ps)) (ExS W (AT fm fd fi L a) V s.heap (m ps)) s) (ns:aC m l ps≠.stuck) :
  wpAny W.m A (call (.ref a) pos kw) (λv s'=>∃ e t ps' α',aC m l ps = .ok t ps'/\v = .ref e/\InvS W fm α' ps' s'/\Grow V α' s.heap/\Rel fm.stk fm.tab V s.heap s'.heap/\NewExc W.H.toml s.heap s'.heap e t) (ExE W fm V s.heap (aC m l ps)) s:=by
 obtain ⟨⟨o,ho,hd⟩,hscope,hbody,hclo,hglob,hbi,hcode⟩:=Fa
 have lim:s.heap.NoLimit:=C.hd.lim.keeps I.inv.base
 have hdep:=C.depth
 refine wpAny_call (codeAny_call_function (by show A.depth<1000;exact la [_,_] [([2,4,3,0,0,3,0],[1981])] ([2,3,0],[2001]) rfl hdep) ho hd (by rw [hscope];exact ok.co) (by rw [hscope];exact ok.gen) hbody hcode (hb _ _ _ _ ?_))
 rw [hscope,hglob,hclo,hbi]
 refine wpAny_newFunctionEnv_cells ok.kind (λp hp=>?_) λenv he c0 X=>?_
 ·have hm:p.1∈fi.params:=(of_mem_zip (show (p.1,p.2)∈fi.params.zip vs from hp)).1
  rcases ok.parK p.1 hm with q | q
  ·exact .inl q
  ·exact .inr ⟨q,Cq _ _ _ (.inl q)⟩
 ·have he':env=Bn fd fi s.heap.objs.size a:=he
  subst he'
  refine ⟨lim.keeps X.toInCall.keep,codeAny_func ?_⟩
  have F':=IK (fd:=fd) (a:=a) C.fm I ok X
  have I':=E0 (fd:=fd) (a:=a) (ps:=ps) I ok hl rl X
  have C':Ctx W (AT fm fd fi s.heap.objs.size a) n (A.deeper (Bn fd fi s.heap.objs.size a)):=by
   refine ⟨Around.frames_deeper C.frames,?_,?_,C.hdl,C.tab,F',C.hd⟩
   ·show A.depth+1+n<990;exact la [_,_] [([2,4,3,0,0,3,0],[1981])] ([2,3,0,4,0,3,0],[1981]) rfl hdep
   ·have:=C.units
    show A.units+3+20*n+1000<cLine;lia
  have ns':=QW ns
  have up:∀ b,c0.heap.get? b=none->s.heap.get? b=none:=λb q=>by
   cases z:s.heap.get? b with
   | none=>rfl
   | some o=>rw [X.toInCall.keep b o z] at q;cases q
  refine aX (body s.heap.objs.size _ V _ c0 C' I' ns') (λf s' z=>?_) λx s' z=>?_
  ·obtain ⟨e,t,o0,α₁,rfl,u0,s0,d0,i4,e7⟩:=z
   obtain ⟨J,g,R⟩:=Da C.fm I X s0 d0 i4
   exact ⟨e,t,_,α₁,QU u0,rfl,J,g,R,e7.since up⟩
  ·obtain ⟨e,o0,α₁,u0,s0,d0,i4,i6⟩:=z
   have hs0:=I'.none
   unfold leaving
   refine bj (GU C' s0 i4 hs0 i6 λY2 w1 j5 j6=>Cg C' w1 j5 hs0 j6 _ λZ3 Z1 v4 w5=>?_)
   obtain ⟨J,g,R⟩:=Da C.fm I X Z1 d0 v4
   exact ⟨e,_,α₁,QV u0,J,g,R,w5.raised.start up⟩
theorem OP {x:Str}{i:Nat}{np pos:Pos}{es:List Expr}{ms:List (M PV)}{m:M Txt}(hm:(x,NameKind.globalImplicit,i)∈fm.sc)(hd:(x==("__debug__":Str))=false)(hv:W.H.mg x=some (.ref a))(q:SimL W (n+1) fm es ms)(Fa:FnAt W.h₀ a fd fi)(ok:fi.Ok)(hb:EO W fd fi ms.length [] [])
  (body:∀ L A V ps s,Ctx W (AT fm fd fi L a) n A->InvS W (AT fm fd fi L a) V ps s->m ps≠.stuck->wpAny W.m A (execs fi.body (AT fm fd fi L a).env) (OkX W (AT fm fd fi L a) V s.heap (m ps)) (ExS W (AT fm fd fi L a) V s.heap (m ps)) s) :
  SimXc W (n+1) fm (.Call (.Name x np) es [] pos) (ac (ah ms) (aC m)):=.mk λA V ps s C I ns=>by
 rw [arm_eval_Call_Name']
 refine bj (GW C I hv hm hd ?_)
 obtain ⟨o,ho,hdt⟩:=Fa.obj
 refine callWith_function_kw (o:=o) (fd:=fd) (A3 (q.plain _) (aX (CX q A V ps s C I (Ac ns)) (λvs c0 z=>?_) λx c0 z=>z.bind))
 obtain ⟨l,o0,α₁,u0,s0,d0,l0,Y0⟩:=z
 rw [Ab u0] at ns ⊢
 refine ⟨⟨s0.inv.base _ _ ho,hdt⟩,?_⟩
 have hlen:vs.length=ms.length:=by rw [<- Y0.length,FA u0]
 have b:=hb.2 c0 vs [] s0.inv.base hlen rfl
 rw [append_nil,append_nil] at b
 refine aX (QX (l:=l) (vs:=vs) C s0 (Fa.keeps s0.inv.base) ok b (by rw [hb.1,hlen];simp) Y0 body ns) (λv w0 z=>?_) (λU U q=>q.after d0 l0)
 obtain ⟨e,t,Y1,X0,Z0,rfl,w1,y0,W0,X⟩:=z
 exact ⟨e,t,Y1,X0,Z0,rfl,w1,d0.trans y0 l0,l0.trans W0 d0.new,X.since l0.live⟩
end
def fiB (fi:Fi):Bool:=
 decide (fi.scope.kind = .function)&&!fi.scope.isCoroutine&&!fi.scope.isGenerator &&
 fi.sc.all (λe=>decide (fi.scope.names.lookup e.1=some e.2.1)&&decide (e.2.1≠.free)) &&
 fi.sc.all (λe=>fi.sc.all λo=>decide (e.2.2=o.2.2)==decide (e.1=o.1)) &&
 decide fi.params.Nodup &&
 fi.params.all (λp=>decide (fi.scope.names.lookup p=some .local)||decide (fi.scope.names.lookup p=some .cell)) &&
 fi.sc.all (λe=>!(decide (e.2.1 = .local)||decide (e.2.1 = .cell))||((range fi.params.length).all λj=>decide (fi.params[j]? = some e.1)==decide (e.2.2=j)))
theorem Fi.Ok.of {fi:Fi}(h:fiB fi=true):fi.Ok:=by
 unfold fiB at h
 simp only [and_eq_true,all_eq_true,decide_eq_true_eq,or_eq_true,not_eq_true',beq_iff_eq,mem_range] at h
 obtain ⟨⟨⟨⟨⟨⟨⟨h1,h2⟩,h3⟩,h4⟩,h5⟩,h6⟩,h7⟩,h8⟩:=h
 refine ⟨h1,h2,h3,λx k i m=>(h4 _ m).1,λx k i y k' j m m'=>decide_eq_decide.mp (h5 _ m _ m'),h6,h7,λx k i m hk j=>?_,λx k i m=>(h4 _ m).2⟩
 have:=(h8 _ m).resolve_left (by
  intro q
  rcases hk with rfl | rfl <;> simp at q)
 constructor
 ·intro e
  have lt:=(bf.mp e).1
  exact ⟨(decide_eq_decide.mp (this j lt)).mp e,lt⟩
 ·rintro ⟨e,lt⟩
  exact (decide_eq_decide.mp (this j lt)).mpr e
theorem scm {fm:Fm}{sc:List (Str × NameKind × Nat)}(h:fm.sc=sc)(k:Nat){e:Str × NameKind × Nat}(q:sc[k]? = some e):e∈fm.sc:=h▸mem_of_getElem? q
def DP (W:Wd)(x:Str)(fi:Fi)(np:Nat)(kws:List Str)(ext:List Value):Prop:=∃ a fd,W.H.mg x=some (.ref a)/\FnAt W.h₀ a fd fi/\EO W fd fi np kws ext
def aM (T:Nat->Option (M PFlow × List PV))(ms:List (M PV)):PV->M PV
 | .fn k=>match T k with
  | some (m,ext)=>ac (ah ms) λl=>ao m (l++ext)
  | none=>ar
 | _=>ar
section
variable {W:Wd}{fm:Fm}{V α' α₁ X0 W1:List Addr}{h h' h₁ Y2 Z3 start:Heap}{n k:Nat}{A:Around}{ps ps':PS}{s s' c0 w0:Shared}{fi:Fi}
theorem Ctx.down (C:Ctx W fm k A)(h:n<=k):Ctx W fm n A:=⟨C.frames,by have:=C.depth;exact la [_,_,_] [([2],[4]),([6,4,0,3,0],[1981])] ([6,2,0,3,0],[1981]) rfl h this,by have:=C.units;lia,C.hdl,C.tab,C.fm,C.hd⟩
theorem SimS.up {b:List Stmt}{m:M PFlow}(x:SimS W n fm b m)(h:n<=k):SimS W k fm b m:=.mk λA V ps s C I ns=>x A V ps s (C.down h) I ns
theorem Ms {e:Expr}:SimB W n fm e ar:=.mk λA V ps s C I ns=>absurd rfl ns
theorem Mt {e:Stmt}:SimT W n fm e ar:=.mk λA V ps s C I ns=>absurd rfl ns
theorem Mu {e:List Stmt}:SimS W n fm e ar:=.mk λA V ps s C I ns=>absurd rfl ns
theorem QY {x:Str}{k:Nat}{pos:Pos}{t:Txt}(h:x.cps.toList=t):SimE W n fm (.Constant (.str x) k pos) (ae (.str t)):=h▸GS
theorem Mv {x:Str}{i:Nat}{np pos:Pos}{es:List Expr}{ms:List (M PV)}{m:M PFlow}(F:DP W x fi ms.length [] [])(ok:fi.Ok)(hm:(x,NameKind.globalImplicit,i)∈fm.sc)(hd:(x==("__debug__":Str))=false)(q:SimL W (n+1) fm es ms)
  (body:∀ fm':Fm,fm'.sc=fi.sc->fm'.env.scope=fi.scope->fm'.hdl=fm.hdl->SimS W n fm' fi.body m):SimE W (n+1) fm (.Call (.Name x np) es [] pos) (ac (ah ms) (ao m)):=by
 obtain ⟨a,fd,hv,Fa,hb⟩:=F
 exact OB hm hd hv q Fa ok hb body
theorem ER {x:Str}{i:Nat}{np pos:Pos}{e:Expr}{es:List Expr}{ks:List Keyword}{ms mks:List (M PV)}{m:M PFlow}(F:DP W x fi ms.length (DL ks) [])(ok:fi.Ok)(hm:(x,NameKind.globalImplicit,i)∈fm.sc)(hd:(x==("__debug__":Str))=false)(q:SimL W (n+1) fm (e::es) ms)(qk:SimKw W (n+1) fm ks mks)
  (body:∀ fm':Fm,fm'.sc=fi.sc->fm'.env.scope=fi.scope->fm'.hdl=fm.hdl->SimS W n fm' fi.body m) :
  SimE W (n+1) fm (.Call (.Name x np) (e::es) ks pos) (ac (ah ms) λl=>ac (ah mks) λlk=>ao m (l++lk)):=by
 obtain ⟨a,fd,hv,Fa,hb⟩:=F
 exact Ju hm hd hv q qk Fa ok hb body
def Uw (W:Wd)(fi fi2:Fi):Prop:=∃ a fd c,W.H.mg "suffixed_err" = some (.ref a)/\FnAt W.h₀ a fd fi/\EO W fd fi 3 [] []/\fd.code = .ref c/\CodeHd W.h₀ c W.H.tabP/\fd.qualname++(".<locals>.":Str)++("coord_repr":Str)=W.H.tabQ
theorem KX {i:Nat}{fi2:Fi}{np pos:Pos}{es:List Expr}{m1 m2 m3:M PV}{params:Arguments}{mc:M PFlow}{dp p1 p2 p3 p4 p5 p6 p7 p8 p9 p10 p11 p12 p13:Pos}{k1 k2:Nat}(F:Uw W fi fi2)(ok:fi.Ok)(ok2:fi2.Ok)(hsc:fi.sc=Gy)(hcr:fi.scope.names.lookup (("coord_repr":Str))=some NameKind.local)
  (hbody:fi.body=[.FunctionDef "coord_repr" params fi2.body [] none [] fi2.scope none "coord_repr" dp,
   .Return (some (.Call (.Name "TOMLDecodeError" p1) [.JoinedStr [.FormattedValue (.Name "msg" p2) (-1) none p3,.Constant (.str " (at ") k1 p4,.FormattedValue (.Call (.Name "coord_repr" p5) [.Name "src" p6,.Name "pos" p7] [] p8) (-1) none p9,.Constant (.str ")") k2 p10] p11] [] p12)) p13])
  (hp:dp=W.H.tabPos) (hd0:params.defaults=[]) (hk0:params.kw_defaults=[]) (ha:∀ env,annTrees params none env=[]) (hfree:∀ y∈fi2.scope.names,y.2≠.free) (hlen:fi2.params.length=2)
  (hbd:∀ doc pm c' ctv q v w,bindArgs (fnX "coord_repr" q params fi2.body fi2.scope [] .none .none doc pm none (.ref c') ctv) ⟨[v,w],[]⟩=pure (fi2.params.zip [v,w])) (hm:(("suffixed_err":Str),NameKind.globalImplicit,i)∈fm.sc) (q:SimL W (n+2) fm es [m1,m2,m3])
  (body:∀ fm':Fm,fm'.sc=fi2.sc->fm'.env.scope=fi2.scope->fm'.hdl=fm.hdl->SimS W n fm' fi2.body mc) :
  SimXc W (n+2) fm (.Call (.Name "suffixed_err" np) es [] pos) (ac (ah [m1,m2,m3]) (aC (EJ mc))):=by
 obtain ⟨a,fd,c,hv,Fa,hb,hc,hcd,hq⟩:=F
 refine OP hm (by decide +kernel) hv q Fa ok hb λL A V ps s C I ns=>?_
 rw [hbody]
 refine KW (c:=c) (P:=W.H.tabP) (fi:=fi2) ⟨hsc,hcr,hc,hcd,C.tab,hq⟩ hp hd0 hk0 ha hfree rfl rfl hlen (λdoc pm c' ctv s vs hl=>?_) ok2 body C I ns
 cases vs with
 | nil=>cases hl
 | cons v vs=>
  cases vs with
  | nil=>cases hl
  | cons w vs=>
   cases vs with
   | nil=>exact BindsTo.of_eq (hbd doc pm c' ctv _ v w)
   | cons=>cases hl
theorem KY {T:Nat->Option (M PFlow × List PV)}{ms:List (M PV)}:aM T ms (.fn k)=match T k with
  | some (m,ext)=>ac (ah ms) λl=>ao m (l++ext)
  | none=>ar:=rfl
set_option tactic.hygienic true in
theorem OQ {x:Str}{kd:NameKind}{i:Nat}{np pos:Pos}{es:List Expr}{ms:List (M PV)}{T:Nat->Option (M PFlow × List PV)}(hm:(x,kd,i)∈fm.sc)(hk:kd = .local\/kd = .cell\/kd = .free)(hc:(x==("__classdict__":Str))=false)(hd:(x==("__debug__":Str))=false)(q:SimL W (n+1) fm es ms)
  (hT:∀ k m ext,T k=some (m,ext)->∃ fd fi extv,FnAt W.h₀ (W.H.fnv k) fd fi/\fi.Ok/\EO W fd fi ms.length [] extv/\(∀ av V h,RepL W.H W.h₀ av V h ext extv)/\∀ fm':Fm,fm'.sc=fi.sc->fm'.env.scope=fi.scope->fm'.hdl=fm.hdl->SimS W n fm' fi.body m) :
  SimE W (n+1) fm (.Call (.Name x np) es [] pos) (ac (af i) (aM T ms)):=.mk λA V ps s C I ns=>by
 obtain ⟨p,e,e'⟩:=Jn (Ac ns)
 unfold Af
 rw [Ab e'] at ns ⊢
 rw [arm_eval_Call_Name']
 refine bj (wpAny_Name (Hl C I hm hk hc e λv r=>?_) hd)
 cases p <;> first | exact absurd rfl ns | skip
 rename_i k
 cases q2:T k with
 | none=>
  have:aM T ms (.fn k) ps = .stuck:=by rw [KY,q2];rfl
  exact absurd this ns
 | some mt=>
  obtain ⟨m,ext⟩:=mt
  have eq:aM T ms (.fn k)=ac (ah ms) λl=>ao m (l++ext):=by rw [KY,q2]
  rw [eq] at ns ⊢
  obtain ⟨fd,fi,extv,Fa,ok,hb,hx,body⟩:=hT k m ext q2
  obtain rfl:_=_:=r.inv
  exact Gx (pos:=pos) C I q Fa ok hb hx body ns
end
def AR:Stmt->List Stmt
 | .FunctionDef _ _ b _ _ _ _ _ _ _=>b
 | _=>[]
def AQ:Stmt->Scope
 | .FunctionDef _ _ _ _ _ _ s _ _ _=>s
 | _=>default
def HG:Stmt->Arguments
 | .FunctionDef _ a _ _ _ _ _ _ _ _=>a
 | _=>default
def Nt:Stmt->Pos
 | .FunctionDef _ _ _ _ _ _ _ _ _ p=>p
 | _=>default
def KZ (e:Expr):Bool:=Nat.beq e.ctorIdx 22
def QZ (e:Expr):Bool:=Nat.ble 8 e.ctorIdx&&Nat.ble e.ctorIdx 10
def VZ (e:Expr):Bool:=!(Nat.beq e.ctorIdx 0||(Nat.beq e.ctorIdx 3||(Nat.beq e.ctorIdx 5||Nat.beq e.ctorIdx 15)))
def JD (e:Expr):Bool:=Nat.beq e.ctorIdx 7
def WC (e:Expr):Bool:=Nat.beq e.ctorIdx 25
theorem Nu {e:Expr}(h:KZ e=false):∀ rest env,starEach (e::rest) env=(false,eval e env)::starEach rest env:=by
 intro rest env
 cases e <;> first | rfl | cases h
theorem U7 {e:Expr}(h:KZ e=false):∀ rest env,assignEach (e::rest) env=(false,assign e env)::assignEach rest env:=by
 intro rest env
 cases e <;> first | rfl | cases h
theorem Tr {e:Expr}:∀ o i,∃ ops,subscripted e false o i=operate ops (getItem o i):=by
 intro o i
 cases e with
 | Slice a b c p=>cases c <;> exact ⟨_,rfl⟩
 | _=>exact ⟨_,rfl⟩
theorem DQ {v:Expr}{x:Option Expr}{l:Nat}(h:QZ v=false):∀ env,swapsWith v x l env=pure false:=by
 intro env
 cases v <;> first | rfl | cases h
theorem JE {t v:Expr}{l:Nat}(h:QZ v=false):∀ env,swapsWithSole [t] v l env=pure false:=λenv=>DQ h env
theorem JF {ts:List Expr}{k:Nat}{p:Pos}{v:Expr}(h:WC v=false):∀ env,swappedStores [.Tuple ts k p] v env=pure none:=by
 intro env
 cases v <;> first | rfl | cases h
theorem Bq {e:Expr}(h:VZ e=true):∀ env whole,isTrue e env whole=(do let v <- whole;standAt e.pos;holding [v] (truthy v)):=by
 intro env whole
 cases e <;> first | rfl | cases h
theorem Br {e:Expr}(h:JD e=false):∀ env x,foldedSetIterable e env x=pure x:=by
 intro env x
 cases e <;> first | rfl | cases h
theorem CY {op:CmpOp}{e:Expr}(h:JD e=false):behindInMarks op e=false:=by
 cases e <;> first | rfl | cases h
theorem JG {o1 o2:CmpOp}{e1 e2:Expr}(h:JD e2=false):lastMarks [o1,o2] [e1,e2]=false:=CY h
theorem Ed:∀ env:Env,env.scope.kind = .function->interactive env=false:=λenv h=>by unfold interactive;rw [h];rfl
def Q0 (e:Expr):Bool:=!Nat.beq e.ctorIdx 16
theorem Ts {o:Expr}{name:Str}(h:Q0 o=true):∀ env,attributeBase o name env (eval o env)=eval o env:=by
 intro env
 cases o <;> first | rfl | cases h
section
variable {W:Wd}{fm:Fm}{V α' α₁ X0 W1:List Addr}{h h' h₁ Y2 Z3 start:Heap}{n k:Nat}{A:Around}{ps ps':PS}{s s' c0 w0:Shared}{fi:Fi}
theorem OR (hh:fm.hdl=none):OpMeth W n fm B7 "str.index" (E5 false):=by
 have:=QJ (W:=W) (n:=n) (fm:=fm)
 rw [hh] at this
 exact this
theorem Ex {x:Str}{i:Nat}{pos:Pos}(hv:∃ a,W.H.mg x=some (.ref a)/\W.H.setv k=some a)(hm:(x,NameKind.globalImplicit,i)∈fm.sc)(hd:(x==("__debug__":Str))=false):SimE W n fm (.Name x pos) (ae (.fset k)):=by
 obtain ⟨a,h1,h2⟩:=hv
 exact Hm hm h1 (λU U=>.fset k h2) hd
theorem Nv {x:Str}{i:Nat}{pos:Pos}(hv:W.H.mg x=some (.ref (W.H.fnv k)))(hm:(x,NameKind.globalImplicit,i)∈fm.sc)(hd:(x==("__debug__":Str))=false):SimE W n fm (.Name x pos) (ae (.fn k)):=Hm hm hv (λU U=>.fn k) hd
theorem Tt {x:Str}{i:Nat}{pos:Pos}(hv:W.H.mg x=some (.ref W.H.mpv))(hm:(x,NameKind.globalImplicit,i)∈fm.sc)(hd:(x==("__debug__":Str))=false):SimE W n fm (.Name x pos) (ae .mp):=Hm hm hv (λU U=>.mp) hd
end
def HH (e:Expr):Option PV:=match e with
 | .Constant c _ _=>match c with
  | .int i=>some (.int i)
  | .str x=>some (.str x.cps.toList)
  | _=>none
 | _=>none
def Ee:List Expr->Option (List PV)
 | []=>some []
 | e::es=>(HH e).bind λv=>(Ee es).bind λvs=>some (v::vs)
def Ux:PV->Option Int
 | .int i=>some i
 | _=>none
def U8 (e:Option Expr):Option Int:=(e.bind HH).bind Ux
def Gf:List (Option Expr)->Option (List Int)
 | []=>some []
 | e::es=>(U8 e).bind λi=>(Gf es).bind λl=>some (i::l)
theorem Mw {V β:Type}{o:Option V}{f:V->Option β}{b:β}{C:Prop}(h:o.bind f=some b)(k:∀ a,o=some a->f a=some b->C):C:=by
 cases o with
 | none=>cases h
 | some a=>exact k a rfl h
inductive ConstAt:Expr->PV->Prop
 | int {i:Int} {k:Nat} {p:Pos}:ConstAt (.Constant (.int i) k p) (.int i)
 | str {x:Str} {k:Nat} {p:Pos}:ConstAt (.Constant (.str x) k p) (.str x.cps.toList)
theorem constOne_at {e:Expr}{v:PV}(h:HH e=some v):ConstAt e v:=by
 cases e with
 | Constant c k p=>
  cases c with
  | int i=>cases h;exact .int
  | str x=>cases h;exact .str
  | _=>cases h
 | _=>cases h
theorem intOf_is {v:PV}{i:Int}(h:Ux v=some i):v = .int i:=by
 cases v with
 | int=>cases h;rfl
 | _=>cases h
section
variable {W:Wd}{fm:Fm}{n:Nat}
theorem HI:∀ (l:List PV),ah (l.map ae)=ae l
 | []=>rfl
 | v::l=>by
  show ac (ae v) (λv=>ac (ah (l.map ae)) λvs=>ae (v::vs))=_
  rw [HI l];rfl
theorem ConstAt.sim {e:Expr}{v:PV}(c:ConstAt e v):SimE W n fm e (ae v):=by
 cases c with
 | int=>exact Ae
 | str=>exact GS
theorem ConstAt.star {e:Expr}{v:PV}(c:ConstAt e v):KZ e=false:=by
 cases c <;> rfl
theorem JH {es:List Expr}:∀ {vs:List PV},Ee es=some vs->SimL W n fm es (vs.map ae):=by
 induction es with
 | nil=>intro vs h;cases h;exact .nil
 | cons e es ih=>
  intro vs h
  refine Mw h λv h1 h=>Mw h λvs' h2 h=>?_
  cases h
  exact .cons (constOne_at h1).sim (Nu (constOne_at h1).star) (ih h2)
theorem OS {es:List Expr}{vs:List PV}{pos:Pos}(h:Ee es=some vs):SimE W n fm (.List es pos) (au vs):=by
 have:=B4 (pos:=pos) (JH (W:=W) (n:=n) (fm:=fm) h)
 rw [HI] at this
 exact this
theorem Io {kes:List (Option Expr)}:∀ {ves:List Expr} {ks:List Int} {vs:List PV},Gf kes=some ks->Ee ves=some vs->kes.length=ves.length->SimD W n fm (intKind _ _) kes ves ks (vs.map ae):=by
 induction kes with
 | nil=>
  intro ves ks vs h1 h2 h3
  cases ves with
  | nil=>cases h1;cases h2;exact .nil
  | cons=>cases h3
 | cons ke kes ih=>
  intro ves ks vs h1 h2 h3
  cases ves with
  | nil=>cases h3
  | cons e es=>
   refine Mw h1 λi q1 a1=>Mw a1 λl q2 a2=>Mw h2 λv p1 a3=>Mw a3 λvs' p2 a4=>Mw q1 λu u1 u2=>?_
   obtain ⟨e',rfl,e1⟩:=aW.mp u1
   cases a2;cases a4
   cases intOf_is u2
   cases constOne_at e1
   exact .cons (λU=>WA) (λU=>(constOne_at p1).sim) (ih q2 p2 (Nat.succ.inj h3))
theorem OT {kes:List (Option Expr)}{ves:List Expr}{ks:List Int}{vs:List PV}{pos:Pos}(h1:Gf kes=some ks)(h2:Ee ves=some vs)(hl:kes.length=ves.length)(hn:ks.Nodup)(h0:kes≠[])(hlen:kes.length<=15) :
  SimE W n fm (.Dict kes ves pos) (Th .int ks vs):=by
 have:=OE (pos:=pos) (Io (W:=W) (n:=n) (fm:=fm) h1 h2 hl) hn h0 hlen
 rw [HI] at this
 exact this
end
end Mi
end
section
open PySem PySem.W PyProof.Rows
set_option maxRecDepth 10000
namespace Mi
section
variable {W:Wd}{fm:Fm}{n:Nat}{sc:List (Str × NameKind × Nat)}{x:Str}{k:NameKind}{i:Nat}{p pos np:Pos}{e l r:Expr}{es:List Expr}{m ml mr:M PV}{ms:List (M PV)}
def ckL (k:NameKind):Bool:=decide (k = .local\/k = .cell)
def ckV (x:Str)(k:NameKind):Bool:=decide (k = .local\/k = .cell\/k = .free)&&(!(x==("__classdict__":Str))&&!(x==("__debug__":Str)))
def ckB (x:Str):Bool:=decide (x∈Bl)&&(decide (x≠("__name__":Str))&&!(x==("__debug__":Str)))
theorem Ba {a b:Bool}(h:(a&&b)=true):a=true/\b=true:=and_eq_true_iff.mp h
theorem E7 {a:Bool}(h:(!a)=true):a=false:=not_eq_true' a▸h
theorem sv (h:fm.sc=sc)(j:Nat)(q:sc[j]? = some (x,k,i))(c:ckV x k=true:=by decide +kernel):SimE W n fm (.Name x pos) (af i):=GT (scm h j q) (aZ (Ba c).1) (E7 (Ba (Ba c).2).1) (E7 (Ba (Ba c).2).2)
theorem sl (h:KZ e=false)(a:SimE W n fm e m)(b:SimL W n fm es ms):SimL W n fm (e::es) (m::ms):=.cons a (Nu h) b
theorem cb {id:String}{g:List PV->M PV}(h:fm.sc=sc)(j:Nat)(q:sc[j]? = some (x,.globalImplicit,i))(a:SimL W n fm es ms)(o:OpCall W n fm (.builtin id) g)(c:ckB x=true:=by decide +kernel)(h4:bootBuiltins x=some (.builtin id):=by kernel_rfl) :
  SimE W n fm (.Call (.Name x np) es [] pos) (ac (ah ms) g):=L4 (scm h j q) (aZ (Ba c).1) (aZ (Ba (Ba c).2).1) (E7 (Ba (Ba c).2).2) h4 a o
theorem ct {T:String}{g:List PV->M PV}(h:fm.sc=sc)(j:Nat)(q:sc[j]? = some (x,.globalImplicit,i))(a:SimL W n fm es ms)(o:OpCall W n fm (.type T) g)(c:ckB x=true:=by decide +kernel)(h4:bootBuiltins x=some (.type T):=by kernel_rfl) :
  SimE W n fm (.Call (.Name x np) es [] pos) (ac (ah ms) g):=L5 (scm h j q) (aZ (Ba c).1) (aZ (Ba (Ba c).2).1) (E7 (Ba (Ba c).2).2) h4 a o
theorem sa {v:Expr}(h:fm.sc=sc)(j:Nat)(q:sc[j]? = some (x,k,i))(hs:(ckL k&&!QZ v)=true)(a:SimE W n fm v m):SimT W n fm (.Assign [.Name x p] v pos) (ac m λa=>ac (aj i a) λU=>ae .next):=KJ (scm h j q) (aZ (Ba hs).1) a (DQ (E7 (Ba hs).2))
theorem sg {op:Operator}{v:Expr}(h:fm.sc=sc)(j:Nat)(q:sc[j]? = some (x,k,i))(a:SimE W n fm v m)(c:(ckL k&&!(x==("__classdict__":Str)))=true:=by decide +kernel) :
  SimT W n fm (.AugAssign (.Name x p) op v pos) (ac (af i) λa=>ac m λb=>ac (Cf op a b) λr=>ac (aj i r) λU=>ae .next):=Qs (scm h j q) (aZ (Ba c).1) (E7 (Ba c).2) a
theorem cm {op:CmpOp}(h:JD r=false)(a:SimE W n fm l ml)(b:SimE W n fm r mr):SimB W n fm (.Compare l [op] [r] pos) (ac ml λa=>ac mr λb=>ac (Aq op a b) tst):=Qe a b (CY h)
theorem ss {kk:Nat}{t:Txt}(h:x.cps.toList=t:=by kernel_rfl):SimE W n fm (.Constant (.str x) kk pos) (ae (.str t)):=QY h
theorem gn (h:fm.sc=sc)(j:Nat)(q:sc[j]? = some (x,k,i))(hk:ckL k=true):SimG W n fm (.Name x p) (aj i):=Oy (scm h j q) (aZ hk)
theorem gs {t:Expr}{f:PV->M Unit}{ts:List Expr}{fs:List (PV->M Unit)}(h:KZ t=false)(a:SimG W n fm t f)(b:SimGs W n fm ts fs):SimGs W n fm (t::ts) (f::fs):=.cons a (U7 h) b
theorem it {me mi:M PV}{ix:Expr}(hh:fm.hdl=none)(a:SimE W n fm e me)(b:SimE W n fm ix mi):SimE W n fm (.Subscript e ix pos) (ac me λa=>ac mi λb=>Ap false a b):=Ql (by rw [hh];rfl) a b Tr
theorem fc {fi:Fi}{a:Nat}{mm:M PFlow}(F:DP W x fi ms.length [] [])(ok:fi.Ok)(h:fm.sc=sc)(j:Nat)(q:sc[j]? = some (x,.globalImplicit,i))(A:SimL W (n+1) fm es ms)(hh:fm.hdl=none)(s:∀ {fm':Fm},fm'.sc=fi.sc->fm'.env.scope=fi.scope->fm'.hdl=none->SimS W a fm' fi.body mm)(c:(decide (a<=n)&&!(x==("__debug__":Str)))=true:=by decide +kernel) :
  SimE W (n+1) fm (.Call (.Name x np) es [] pos) (ac (ah ms) (ao mm)):=Mv F ok (scm h j q) (E7 (Ba c).2) A λfm' hs he hd=>(s hs he (hd.trans hh)).up (aZ (Ba c).1)
end
section
variable {W:Wd}{fm:Fm}{n:Nat}{pos:Pos}{l r:Expr}{es:List Expr}{m ml mr:M PV}{ms:List (M PV)}
theorem ce {op:CmpOp}(h:JD r=false)(a:SimE W n fm l ml)(b:SimE W n fm r mr):SimE W n fm (.Compare l [op] [r] pos) (ac ml λa=>ac mr λb=>Aq op a b):=SY a b (CY h)
theorem me {o:Expr}{name:Str}{apos:Pos}{mo:M PV}{g:PV->List PV->M PV}{K:PV->Bool}{T id:String}(hb:Q0 o=true)(hc:(decide (es.length<30)&&(apos.endLine==pos.line))=true)(ho:SimE W n fm o mo)(q:SimL W n fm es ms)(Ma:MethAt T id name)(KT:KO W fm K T)(op:OpMeth W n fm K id g) :
  SimE W n fm (.Call (.Attribute o name apos) es [] pos) (ac mo λp=>am (K p) (ac (ah ms) (g p))):=QH ho q Ma KT op (Ts hb) (aZ (Ba hc).1) (Ba hc).2
end
end Mi
end
section
open PySem PySem.W PyProof.Rows
open PySem.Builtin PySem.Builtin.Str
set_option maxRecDepth 100000
namespace Mi
section
variable {prog:Program}{w:World}{A:Around}{E:Value->Shared->Prop}{s:Shared}{x y:Str}{t u:Tok}{Q:Value->Shared->Prop}
end
section
variable {W:Wd}{fm:Fm}{V:List Addr}{h:Heap}{n:Nat}{A:Around}{ps:PS}{s:Shared}
end
end Mi
end
section
open PySem PySem.W PyProof.Rows
set_option maxRecDepth 100000
namespace Mi
section
variable {W:Wd}{fm:Fm}{n:Nat}{x:Str}{t:Txt}
variable {V:List Addr}{A:Around}{ps:PS}{s:Shared}
def HJ (Y4 Z4:CmpOp)(a b:PV)(mc:M PV):M Bool:=
 ac (Aq Y4 a b) λc=>ac (tst c) λt=>if t then ac mc λd=>ac (Aq Z4 b d) tst else ae false
theorem Mx {l Y0 u4:Expr}{Y4 Z4:CmpOp}{pos:Pos}{ml l6 m6:M PV}(hl:SimE W n fm l ml)(h1:SimE W n fm Y0 l6)(h2:SimE W n fm u4 m6)(hm:lastMarks [Y4,Z4] [Y0,u4]=false) :
  SimB W n fm (.Compare l [Y4,Z4] [Y0,u4] pos) (ac ml λa=>ac l6 λb=>HJ Y4 Z4 a b m6):=.mk λA V ps s C I ns=>by
 refine isTrue_chain (Af.seq (hl A V ps s C I (Ac ns)) (λa va α₁ o0 c0 s0 d0 l0 ra u0=>?_) λx c0 q=>q.bind) hm
 rw [Ab u0] at ns ⊢
 refine test_link (Af.seq (h1 A α₁ o0 c0 C s0 (Ac ns)) (λb vb X0 Y1 w0 w1 y0 W0 rb Z0=>?_) λx c0 q=>q.bind.after d0 l0)
 rw [Ab Z0] at ns ⊢
 unfold HJ at ns ⊢
 refine Af.seq (EZ Y4 A X0 Y1 w0 a b va vb C w1 (s0.stays C W0 y0 ra) rb (Ac ns)) (λc vc W4 j4 w3 Z1 u3 v3 rc Y3=>?_) λx c0 q=>(q.bind.after y0 W0).after d0 l0
 rw [Ab Y3] at ns ⊢
 obtain ⟨t,tb,et⟩:=Jo (Ac ns)
 rw [Ab et] at ns ⊢
 have hv:=DK rc tb
 subst hv
 refine wpAny_truthy_bool ?_
 cases t with
 | false=>
  simp only [false_eq_true,if_false]
  exact ⟨j4,W4,rfl,Z1,(d0.trans y0 l0).trans u3 (l0.trans W0 d0.new),(l0.trans W0 d0.new).trans v3 (d0.trans y0 l0).new⟩
 | true=>
  simp only [if_true] at ns ⊢
  refine test_last (Af.seq (h2 A W4 j4 w3 C Z1 (Ac ns)) (λd vd v5 u5 w4 y5 y4 X4 rd X5=>?_) λx c0 q=>((q.bind.after u3 v3).after y0 W0).after d0 l0)
  rw [Ab X5] at ns ⊢
  have rb':=Z1.stays C X4 y4 (w1.stays C v3 u3 rb)
  refine Af.seq (EZ Z4 A v5 u5 w4 b d vb vd C y5 rb' rd (Ac ns)) (λc vc v7 f8 y6 f7 r6 s6 rc g7=>?_) λx c0 q=>(((q.bind.after y4 X4).after u3 v3).after y0 W0).after d0 l0
  rw [Ab g7] at ns ⊢
  exact aX (CV f7 rc ns) (λU U q=>((((q.after r6 s6).after y4 X4).after u3 v3).after y0 W0).after d0 l0) (λU U q=>q)
end
def HK (v:PV)(l:List PV):M PV:=ap (asS v) λx=>am (l.isEmpty&&(x.all (λc=>decide (c<128))&&decide (x.length<=1000000))) (ae (.str (x.map lo1)))
section
variable {W:Wd}{fm:Fm}{n:Nat}
theorem HL:MethAt "str" "str.lower" "lower":=⟨PySem.F.plainAttrs_str,PySem.F.slot_str_lower,PySem.F.type_str_lower⟩
theorem IV {x:Txt}(h:∀ c∈x,c<128):Txt.lower (txt x)=txt (x.map lo1):=by
 rw [lower_ascii (λc m=>h c (by simpa [txt] using m))]
 simp [txt]
theorem K0:OpMeth W n fm B7 "str.lower" HK:=.mk λA V ps s p v l vs C I hK r rl ns=>by
 obtain ⟨x,rfl⟩:=Gb hK
 obtain ⟨t0,rfl⟩:=r.inv
 have ns':am (l.isEmpty&&(x.all (λc=>decide (c<128))&&decide (x.length<=1000000))) (ae (PV.str (x.map lo1))) ps≠.stuck:=ns
 obtain ⟨cc,e⟩:=Ah ns'
 simp only [and_eq_true,decide_eq_true_eq,isEmpty_iff,all_eq_true] at cc
 obtain ⟨rfl,ha,hl⟩:=cc
 cases rl
 refine Af.congr (m:=HK (.str x) []) e ?_
 refine SC.lower (by rw [IV ha,AN,length_map];exact PyProof.Rows.short24 (aQ hl (by decide))) ?_
 rw [IV ha]
 exact ⟨_,ps,V,rfl,⟨I.inv,I.gens,I.os⟩,.refl ..,.refl ..,.str _ _⟩
end
section
variable {W:Wd}{fm:Fm}{n:Nat}{H:Hd}{h₀:Heap}{av V:List Addr}{h:Heap}
end
end Mi
end
section
open PySem PySem.W PyProof.Rows
set_option maxRecDepth 10000
namespace Mi
section
variable {W:Wd}{fm:Fm}{V α' α₁ X0 W1:List Addr}{h h' h₁ Y2 Z3 start:Heap}{n:Nat}{A:Around}{ps ps':PS}{s s' c0 w0:Shared}{H:Hd}{h₀:Heap}{own:List Addr}{C D:Addr}{st':List (List PV)}
theorem Inv.carryMore (F:FmOk h₀ fm)(I:Inv H h₀ fm V ps h)(hC:h.get? C=Option.none)(R:Rel fm.stk fm.tab V h h')(K:Inv H h₀ fm α' ⟨ps.loc,st'⟩ h')(L':ListsAt H h₀ (fm.more C).av α' st' h')(g:Grow V α' h)(hs:(h'.get? C).isSome=true):Inv H h₀ (fm.more C) α' ⟨ps.loc,st'⟩ h':=by
 have st:∀ a∈(fm.more C).av,a∈fm.av\/h.get? a=Option.none:=λa m=>by
  rcases mem_cons.mp m with q | q
  ·rw [q];exact .inr hC
  ·exact .inl q
 have nα:C∉V:=λz=>by
  obtain ⟨ws,o,e,_⟩:=I.lists.isList z
  rw [hC] at e;cases e
 have L:ListsAt H h₀ (fm.more C).av V ps.st h:=⟨I.lists.len,λi l e=>by
   obtain ⟨a,vs,h1,h2,h3⟩:=I.lists.at_ i l e
   exact ⟨a,vs,h1,h2,h3.strong st⟩,I.lists.nodup,I.lists.fresh,λa m q=>by
   rcases mem_cons.mp q with q | q
   ·exact nα (q▸m)
   ·exact I.lists.apart a m q⟩
 have rep:∀ {p v},OptRep H h₀ fm.av V h p v->OptRep H h₀ (fm.more C).av α' h' p v:=λr=>OptRep.stays L R g.pre (λb m=>mem_cons_of_mem _ (F.frsAv b m)) (λb m=>mem_cons_of_mem _ (F.tabAv b m)) (r.map λr=>r.strong st)
 have at_:∀ b o,b∈fm.av->b∉fm.tab->h.get? b=some o->∃ sl,h'.get? b=some { o with slots:=sl }:=λb o m nt e=>by
  by_cases q:b∈frs fm.stk
  ·exact R.slot b o e q nt λz=>I.lists.apart b z m
  ·exact ⟨o.slots,R.keep b o e q nt λz=>I.lists.apart b z m⟩
 have nt:∀ b o,h.get? b=some o->(∀ vs,o.data≠.fields vs)->b∉fm.tab:=λb o e n m=>by
  obtain ⟨ps,e',_⟩:=I.tabs b m
  rw [e] at e';cases e';exact n ps rfl
 refine ⟨K.base,?_,?_,L',?_,K.frames,K.tabs⟩
 ·obtain ⟨m,⟨o,es,ep,h1,h2,h3⟩,k⟩:=I.loc
  obtain ⟨sl,e⟩:=at_ _ _ F.locAv (nt _ _ h1 λvs q=>by rw [h2] at q;cases q) h1
  exact ⟨m,⟨_,es,ep,e,h2,h3⟩,λx i hm=>rep (k x i hm)⟩
 ·intro x k i hm hk
  obtain ⟨cc,v,h1,h2,h3,⟨o,e1,e2⟩,h5⟩:=I.cel x k i hm hk
  obtain ⟨sl,e⟩:=at_ _ _ h2 (nt _ _ e1 λvs q=>by rw [e2] at q;cases q) e1
  exact ⟨cc,v,h1,mem_cons_of_mem _ h2,h3,⟨_,e,e2⟩,rep h5⟩
 ·intro a ha
  rcases mem_cons.mp ha with q | q
  ·rw [q];exact hs
  ·exact K.live a q
theorem K4 {scope:Scope}{sc:List (Str × NameKind × Nat)}{acc:List PV}{vs:List Value}(F:FmOk W.h₀ fm)(I:InvS W fm V ps s)(hD:s.heap.get? D=Option.none)(hC:s.heap.get? C=Option.none)(hDC:D≠C)
  (J:InvS W (AK fm scope sc D C) α' ps' s') (g:Grow V α' s.heap) (R:Rel fm.stk fm.tab V s.heap s'.heap) (hl:s'.heap.PlainList D vs.toArray) (rl:RepL W.H W.h₀ (AK fm scope sc D C).av α' s'.heap acc vs) :
  InvS W (fm.more C) (α'++[D]) ⟨ps.loc,ps'.st++[acc]⟩ s'/\Grow V (α'++[D]) s.heap/\(α'++[D])[ps'.st.length]? = some D:=by
 obtain ⟨K,g',R',hiD⟩:=KN F I hD hC hDC J g R hl rl (.refl ..)
 have mC:C∈(AK fm scope sc D C).av:=mem_cons_of_mem _ (mem_cons_self ..)
 have wk:∀ a,a∈(fm.more C).av->a∈(AK fm scope sc D C).av:=λa m=>mem_cons_of_mem _ m
 have stp:α' <+: α'++[D]:=prefix_append _ _
 have kk:∀ b o,s'.heap.get? b=some o->s'.heap.get? b=some o:=λU U e=>e
 have lift:∀ {l:List PV} {ws:List Value},RepL W.H W.h₀ (AK fm scope sc D C).av α' s'.heap l ws->RepL W.H W.h₀ (fm.more C).av (α'++[D]) s'.heap l ws:=λr=>RepL.keeps kk stp (RepL.weak wk r)
 refine ⟨⟨I.inv.carryMore F hC R K.inv ⟨K.inv.lists.len,λi l e=>?_,K.inv.lists.nodup,K.inv.lists.fresh,λa m q=>?_⟩ g' (J.inv.live C mC),J.gens,J.os⟩,g',hiD⟩
 ·by_cases hi:i<ps'.st.length
  ·rw [getElem?_append_left hi] at e
   obtain ⟨a,ws,q1,q2,q3⟩:=J.inv.lists.at_ i l e
   exact ⟨a,ws,by rw [getElem?_append_left (by rw [J.inv.lists.len];exact hi)];exact q1,q2,lift q3⟩
  ·have:i=ps'.st.length:=by
    have:=(bf.mp e).1
    simp at this;exact bg (la [_,_] [([2,3,0],[4,3,0])] ([2],[4]) rfl this) (la [_,_] [([2],[4])] ([2],[4]) rfl (Nat.not_lt.mp hi))
   subst this
   rw [getElem?_append_right (Nat.le_refl _)] at e
   simp at e
   subst e
   exact ⟨D,vs,hiD,hl,lift rl⟩
 ·rcases mem_cons.mp q with q | q
  ·rcases mem_append.mp m with p | p
   ·exact J.inv.lists.apart a p (q▸mC)
   ·rw [mem_singleton.mp p] at q;exact hDC q
  ·exact K.inv.lists.apart a m q
theorem InvS.shed (F:FmOk W.h₀ fm)(J:InvS W (fm.more C) V ps s)(hC0:W.h₀.get? C=Option.none)(nav:C∉fm.av)(nf:∀ o vs,s.heap.get? C=some o->o.data≠.fields vs)(nc:∀ v,¬ s.heap.IsCell C v)(S:Heap.SameBut C s.heap h'):InvS W fm V ps { s with heap:=h' }:=by
 have mC:C∈(fm.more C).av:=mem_cons_self ..
 have wk:∀ a,a∈fm.av->a∈(fm.more C).av:=λa m=>mem_cons_of_mem _ m
 have hαC:∀ b∈V,b≠C:=λb m q=>J.inv.lists.apart b m (q▸mC)
 have ne:∀ b∈fm.av,b≠C:=λb m q=>nav (q▸m)
 have rep:∀ {p v},OptRep W.H W.h₀ (fm.more C).av V s.heap p v->OptRep W.H W.h₀ fm.av V h' p v:=λr=>(OptRep.same (fm:=fm.more C) S mC hαC r).map λr=>r.weak wk
 refine ⟨⟨λb o e=>?_,?_,λx k i hx hk=>?_,⟨J.inv.lists.len,λi l e=>?_,J.inv.lists.nodup,J.inv.lists.fresh,λa m q=>J.inv.lists.apart a m (wk a q)⟩,λa m=>?_,?_,λP hP=>(J.inv.tabs P hP).same S nf⟩,J.gens,J.os⟩
 ·have hb:b≠C:=λq=>by rw [q,hC0] at e;cases e
  exact (S.2 b hb).trans (J.inv.base b o e)
 ·obtain ⟨m,n1,n2⟩:=J.inv.loc
  exact ⟨m,n1.sameBut S (ne _ F.locAv),λx i hm=>rep (n2 x i hm)⟩
 ·obtain ⟨c,v,q1,q2,q3,q4,q5⟩:=J.inv.cel x k i hx hk
  have hc:c≠C:=λz=>nc v (z▸q4)
  exact ⟨c,v,q1,(mem_cons.mp q2).resolve_left hc,q3,q4.sameBut S hc,rep q5⟩
 ·obtain ⟨a,vs,h1,⟨k,h2⟩,h3⟩:=J.inv.lists.at_ i l e
  exact ⟨a,vs,h1,⟨k,(S.2 a (hαC a (mem_of_getElem? h1))).trans h2⟩,RepL.weak wk (RepL.same (fm:=fm.more C) S mC hαC h3)⟩
 ·show (h'.get? a).isSome=true
  rw [S.2 a (ne a m)]
  exact J.inv.live a (wk a m)
 ·exact FunFrames.but S (λb m=>ne b (F.frsAv b m)) J.inv.frames
end
section
variable {W:Wd}{fm:Fm}{n:Nat}
structure SimU (W:Wd)(n:Nat)(fm:Fm)(e:Expr)(m:M PV):Prop where
 toE:SimE W n fm e m
 sw:∀ x p l env,∃ b,swapsWith e (some (.Name x p)) l env=pure b
 us:∀ A V ps s,Ctx W fm n A->InvS W fm V ps s->m ps≠.stuck->∀ {u:Value->Sem Unit} {Q:Unit->Shared->Prop} {E:Value->Shared->Prop},(∀ x s',ExE W fm V s.heap (m ps) x s'->E x s') ->
  (∀ (β:List Addr) (ps':PS) (i:Nat) (D C:Addr) (s':Shared),m ps = .ok (.lst i) ps'->s.heap.get? C=none->(∃ m,s'.heap.Ns C m)->InvS W (fm.more C) β ps' s'->Grow V β s.heap->Rel fm.stk fm.tab V s.heap s'.heap->β[i]? = some D ->
   wpAny W.m A (u (.ref D)) (λU s''=>∃ m,s''.heap.Ns C m/\∀ h',Heap.SameBut C s''.heap h'->Q () { s'' with heap:=h' }) E s')->wpAny W.m A (evalThenUse e fm.env u) Q E s
variable {V β:List Addr}{A:Around}{ps ps':PS}{s s' s'':Shared}{h':Heap}{C D:Addr}
theorem Tu (R:Rel fm.stk fm.own V s.heap s''.heap)(hC:s.heap.get? C=none)(S:Heap.SameBut C s''.heap h'):Rel fm.stk fm.own V s.heap h':=by
 have CH:∀ b o,s.heap.get? b=some o->b≠C:=λb o e q=>by rw [q,hC] at e;cases e
 exact ⟨λb o e m1 m2 m3=>(S.2 b (CH b o e)).trans (R.keep b o e m1 m2 m3),λb o e m1 m2 m3=>by
  obtain ⟨sl,e'⟩:=R.slot b o e m1 m2 m3
  exact ⟨sl,(S.2 b (CH b o e)).trans e'⟩,λb e=>by
  by_cases q:b=C
  ·rw [q];exact hC
  ·exact R.live b ((S.2 b q).symm.trans e)⟩
theorem K5 {m:Str->Option Value}(x:s.heap.Ns C m):(∀ o vs,s.heap.get? C=some o->o.data≠.fields vs)/\∀ v,¬ s.heap.IsCell C v:=by
 obtain ⟨o,es,ep,e,d,_⟩:=x
 refine ⟨λo' vs e' q=>?_,λv z=>?_⟩
 ·rw [e] at e';cases e';rw [d] at q;cases q
 ·obtain ⟨o',e',q⟩:=z
  rw [e] at e';cases e';rw [d] at q;cases q
theorem FG {y:Str}{k:NameKind}{i:Nat}{p pos:Pos}{v:Expr}{m:M PV}(hm:(y,k,i)∈fm.sc)(hk:k = .local\/k = .cell)(hv:SimU W n fm v m) :
  SimT W n fm (.Assign [.Name y p] v pos) (ac m λa=>ac (aj i a) λU=>ae .next):=.mk λA V ps s Cx I ns=>by
 obtain ⟨b,hb⟩:=hv.sw y p pos.line fm.env
 cases b with
 | false=>
  refine wpAny_Assign_Name (Af.seq (hv.toE A V ps s Cx I (Ac ns)) (λa va α₁ o0 c0 s0 d0 l0 ra u0=>?_) λx c0 q=>q.toS.bind) hb
  rw [Ab u0]
  refine D8 Cx s0 hm hk ra λs' I' R'=>?_
  exact OkS.after ⟨.next,_,α₁,rfl,I',.refl ..,R',.next⟩ d0 l0.up
 | true=>
  rw [exec_Assign_Name_used _ _ _ _ hb]
  refine bj (wpAny_standAt (bj (hv.us A V ps s Cx I (Ac ns) (λx s' q=>q.toS.bind) λβ ps' i' D C s' e nC hns J g R hi=>?_)))
  obtain ⟨mm,hns⟩:=hns
  have nav:C∉fm.av:=A6 I nC
  refine wpAny_assign_Name (D8 (fm:=fm.more C) (Cx.more (I.none _ nC)) J hm hk (.lst hi) λs'' I' R'=>?_)
  obtain ⟨oc,es,ep,n1,n2,n3⟩:=hns
  have kc:s''.heap.get? C=some oc:=R'.keep C oc n1 (λz=>nav (Cx.fm.frsAv _ z)) (λz=>nav (Cx.fm.ownAv _ z)) λz=>J.inv.lists.apart C z (mem_cons_self ..)
  have hns':s''.heap.Ns C mm:=⟨oc,es,ep,kc,n2,n3⟩
  obtain ⟨f1,f2⟩:=K5 hns'
  refine ⟨mm,hns',λh' S=>bk ?_⟩
  rw [Ab e]
  exact ⟨.next,_,β,rfl,I'.shed Cx.fm (I.none _ nC) nav f1 f2 S,g,Tu (R.up.trans R' g.new) nC S,.next⟩
end
def az (get:Nat->M (Option PV))(gt:PV->M Unit)(t:M Bool)(m:M PV):Nat->Nat->List PV->M PV
 | 0,_,_=>ar
 | f+1,k,acc=>ac (get k) λo=>match o with
  | none=>au acc
  | some p=>ac (gt p) λU=>ac t λc=>if c then ac m λv=>am (acc.length+1<=big) (az get gt t m f (k+1) (acc++[v])) else az get gt t m f (k+1) acc
def Q1 (m:Model)(A:Around)(elt target:Expr)(ifs:List Expr)(it acc:Value)(env:Env)(R:Result->Shared->Prop)(X:Shared->Prop)(s:Shared):Prop:=
 let N:=notedBy m A env λe s'=>R (.error e) s'
 wpAny m A (pyNext it) (λr c0=>match r with
  | none=>R (.ok .next) c0
  | some v=>wpAny m A (letOwnedTupleGo target it v) (λU W3=>wpAny m A (assign target env v) (λU w0=>wpAny m A (forIn ifs true λc r=>if r=true then do let ok <- isTrue c env (eval c env);pure (ForInStep.yield ok) else pure (ForInStep.yield r))
   (λok w3=>if ok=true then wpAny m A (eval elt env) (λx w4=>wpAny m A (call (.builtin "list.append") [acc,x]) (λU y6=>X y6) N w4) N w3 else X w3) N w0) N W3) N c0) N s
theorem My {prog:Program}{w:World}{A:Around}{s:Shared}{elt target iter:Expr}{ifs:List Expr}{scope:Scope}{pos:Pos}{it acc:Value}{env:Env}{R:Result->Shared->Prop}(I:Nat->Shared->Prop)
  (turn:∀ n s,I n s->Q1 (model prog w) A elt target ifs it acc env R (λs'=>∃ m,m<n/\I m s') s) (n:Nat) (h:I n s) :
  codeAny (model prog w) A (.compLoop (.ListComp elt [⟨target,iter,ifs,0⟩] scope pos) 0 it acc env) R s:=by
 refine codeAny_loop rfl I (λk t hI=>?_) n h
 refine wpAny_noted (m:=compTurn (.ListComp elt [⟨target,iter,ifs,0⟩] scope pos) 0 it acc env) ?_
 have tn:=turn k t hI
 unfold Q1 at tn
 dsimp only at tn
 rw [compTurn_list]
 refine bj (wpAny_standAt (bj (aX tn (λr c0 z=>?_) λU U z=>z)))
 cases r with
 | none=>exact bk z
 | some v=>
  refine bj (aX z (λU W3 z=>bj (aX z (λU w0 z=>bj (aX z (λok w3 z=>?_) λU U z=>z)) λU U z=>z)) λU U z=>z)
  cases ok with
  | false=>exact bk ⟨rfl,z⟩
  | true=>exact bj (bj (aX z (λx w4 z=>bj (aX z (λU y6 z=>bk (bk ⟨rfl,z⟩)) λU U z=>z)) λU U z=>z))
section
variable {W:Wd}{fm:Fm}{n:Nat}
theorem HM {elt iter:Expr}{tg:Expr}{pos:Pos}{ifs:List Expr}{scope:Scope}{sc:List (Str × NameKind × Nat)}{js:List Nat}{gt:PV->M Unit}{mi:M (Nat->M (Option PV))}{mc:List (M Bool)}{me:M PV}(hh:fm.hdl=none)(ci:Ci fm.sc scope sc js)(hx:∀ fm':Fm,fm'.sc=sc->fm'.hdl=none->SimG W n fm' tg gt)
  (hi:SimI W n fm iter mi) (hc:∀ fm':Fm,fm'.sc=sc->fm'.hdl=none->All2 (SimB W n fm') ifs mc) (he:∀ fm':Fm,fm'.sc=sc->fm'.hdl=none->SimE W n fm' elt me) (hs:∀ env x,foldedSetIterable iter env x=pure x) (K:Nat) {A:Around} {V:List Addr} {ps:PS} {s:Shared} (Cx:Ctx W fm n A) (I0:InvS W fm V ps s) (ns:(ac mi λget=>aF js (az get gt (AC .And mc) me K 0 [])) ps≠.stuck) {use:Option (Value->Sem Unit)} {Q E:Value->Shared->Prop}
  (hE:∀ x s',ExE W fm V s.heap ((ac mi λget=>aF js (az get gt (AC .And mc) me K 0 [])) ps) x s'->E x s')
  (fin:∀ (β:List Addr) (ps':PS) (i:Nat) (D C:Addr) (s':Shared),(ac mi λget=>aF js (az get gt (AC .And mc) me K 0 [])) ps = .ok (.lst i) ps'->s.heap.get? C=none->(∃ m,s'.heap.Ns C m)->InvS W (fm.more C) β ps' s'->Grow V β s.heap->Rel fm.stk fm.tab V s.heap s'.heap->β[i]? = some D->compPost W.m A E use Q (.ref D) C (.ok .next) s') {p0:Pos} :
  wpAny W.m A (comprehension (.ListComp elt [⟨tg,iter,ifs,0⟩] scope pos) scope fm.env p0 (newList []) false (eval iter fm.env) use) Q E s:=by
 have hA:A.handled=none:=Cx.hdl.trans hh
 refine wpAny_comprehension_free (cl:=Ig fm.env.cells scope.names []) rfl (hs _) (Ih (ci.cells I0)) ci.kind ci.names ?_
 refine aX (hi A V ps s Cx I0 (Ac ns)) (λxv c0 z=>aX z (λit w0 z=>?_) λU U z=>hE _ _ z.bind) λU U z=>hE _ _ z.bind
 obtain ⟨get,Y1,X0,It,St,Z0,rfl,I,y0,W0,freshI,nav,itk,st⟩:=z
 rw [Ab Z0] at ns
 refine wpAny_newObj_type (wpAny_newFunctionEnv ci.noCell (by intro y hy;simp at hy) (λh₁ i7 z6=>?_) ci.kind)
 dsimp only at i7 z6 ⊢
 generalize hH2:w0.heap.push { cls:=.type "list",dict:=none,data:=.seq ([]:List Value).toArray } = H2 at i7 z6 ⊢
 have hC:H2.objs.size=w0.heap.objs.size+1:=by rw [<- hH2,Heap.size_push]
 have hDC:w0.heap.objs.size≠H2.objs.size:=by rw [hC];exact Nat.ne_of_lt (bp _)
 have below:∀ b,b<w0.heap.objs.size->b≠H2.objs.size:=λb hb=>by rw [hC];exact Nat.ne_of_lt (Nat.lt_succ_of_lt hb)
 have old:∀ b o,w0.heap.get? b=some o->h₁.get? b=some o:=λb o e=>z6.extBut b o (below b (lt_size e)) (get?_push_of_some _ (hH2▸get?_push_of_some _ e))
 have hacc:h₁.PlainList w0.heap.objs.size ([]:List Value).toArray:=⟨0,z6.extBut _ _ hDC (get?_push_of_some _ (hH2▸get?_push_size _ rfl))⟩
 have nD:w0.heap.get? w0.heap.objs.size=none:=AH _
 have nC:w0.heap.get? H2.objs.size=none:=Heap.get?_none_of_le (by rw [hC];exact Nat.le_succ _)
 have hs0:=I.none
 have FC:FmOk W.h₀ (AK fm scope sc w0.heap.objs.size H2.objs.size):=OF ci Cx.fm I (hs0 _ nD) (hs0 _ nC)
 have CC:Ctx W (AK fm scope sc w0.heap.objs.size H2.objs.size) n A:=⟨Cx.frames,Cx.depth,Cx.units,Cx.hdl,Cx.tab,FC,Cx.hd⟩
 have I1:InvS W (AK fm scope sc w0.heap.objs.size H2.objs.size) X0 ⟨λi=>if i∈js then none else Y1.loc i,Y1.st⟩ { w0 with heap:=h₁,toks:=w0.toks+([]:List (Str × Value)).length }:=
  Mj ci Cx.fm I nD nC old (by simpa using i7) (by obtain ⟨o,e⟩:=hacc;rw [e];rfl)
 obtain ⟨rv,rs,eR,eS⟩:=QE ns
 obtain ⟨oI,vsI,eI,dI,cI⟩:=itk.flds _ _ st
 have ItD:It≠w0.heap.objs.size:=λq=>by rw [q,nD] at eI;cases eI
 have ItC':It≠H2.objs.size:=λq=>by rw [q,nC] at eI;cases eI
 have navC:It∉(AK fm scope sc w0.heap.objs.size H2.objs.size).av:=λm=>by
  rcases mem_cons.mp m with q | q
  ·exact ItD q
  ·rcases mem_cons.mp q with q | q
   ·exact ItC' q
   ·exact nav q
 have mC:H2.objs.size∈(AK fm scope sc w0.heap.objs.size H2.objs.size).av:=mem_cons_of_mem _ (mem_cons_self ..)
 have mD:w0.heap.objs.size∈(AK fm scope sc w0.heap.objs.size H2.objs.size).av:=mem_cons_self ..
 have Dfr:w0.heap.objs.size∉frs fm.stk:=λm=>A6 I nD (Cx.fm.frsAv _ m)
 have Dtab:w0.heap.objs.size∉fm.tab:=λm=>A6 I nD (Cx.fm.tabAv _ m)
 -- the heap less the walker
 have T0:Turn0 fm.stk [It] w0.heap (cutH w0.heap [It]):=Turn0.one I.inv.frames ⟨oI,vsI,eI,dI,cI⟩ λb o q e=>by rw [Nm (by simpa using q)];exact e
 have IB:InvS W fm X0 Y1 { w0 with heap:=cutH w0.heap [It] }:=⟨I.inv.turn0 Cx.fm T0 (λb m q=>absurd q (by rw [mem_singleton.mp m];exact nav)) (λb m=>by rw [mem_singleton.mp m];exact I0.none _ freshI),I.gens,I.os⟩
 have cutI:(cutH w0.heap [It]).get? It=none:=Qp (mem_singleton_self _)
 have cutN:∀ b,w0.heap.get? b=none->(cutH w0.heap [It]).get? b=none:=λb e=>by
  cases q:(cutH w0.heap [It]).get? b with
  | none=>rfl
  | some o=>rw [IH _ _ _ _ q] at e;cases e
 have xB:Rel fm.stk fm.tab V s.heap (cutH w0.heap [It]):=W0.turn0 T0 λb m=>by rw [mem_singleton.mp m];exact freshI
 have stays:∀ b o,(cutH w0.heap [It]).get? b=some o->w0.heap.get? b=some o:=λb o e=>IH _ _ _ _ e
 generalize w0.heap.objs.size=D at *
 generalize H2.objs.size=C at *
 generalize cutH w0.heap [It]=B at *
 have loop:∀ w3:Shared,w3 = { w0 with heap:=h₁,toks:=w0.toks+([]:List (Str × Value)).length } ->
   codeAny W.m A (.compLoop (.ListComp elt [⟨tg,iter,ifs,0⟩] scope pos) 0 (.ref It) (.ref D) (compEnvC scope (Ig fm.env.cells scope.names []) C fm.env))
    (compPost W.m A E use Q (.ref D) C) w3:=by
  rintro w3 rfl
  have fin2:∀ (α':List Addr) (acc:List PV) (vs:List Value) (ps':PS) (s':Shared),au acc ps' = .ok rv rs->InvS W (AK fm scope sc D C) α' ps' s'->Grow X0 α' B->Rel fm.stk fm.tab X0 B s'.heap->s'.heap.PlainList D vs.toArray->RepL W.H W.h₀ (AK fm scope sc D C).av α' s'.heap acc vs->compPost W.m A E use Q (.ref D) C (.ok .next) s':=λα' acc vs ps' s' eq J g R hl rl=>by
   unfold au at eq
   split at eq
   ·cases eq
    obtain ⟨mL,nL,_⟩:=J.inv.loc
    obtain ⟨K1,K2,K3⟩:=K4 Cx.fm IB (cutN _ nD) (cutN _ nC) hDC J g R hl rl
    exact fin _ _ _ _ _ _ ((Ab Z0).trans eS) (xB.live C (cutN _ nC)) ⟨mL,nL⟩ K1 (y0.trans K2 xB) (xB.trans R y0.new) K3
   ·cases eq
  generalize compPost W.m A E use Q (.ref D) C=RR at fin2 ⊢
  obtain ⟨CI,mkI,elI⟩:∃ CI:Nat->Shared->Prop,(∀ k s,CompI W fm (AK fm scope sc D C) X0 B D St (λk i acc ps=>az get gt (AC .And mc) me k i acc ps = .ok rv rs) k s->CI k s)/\(∀ k s,CI k s->CompI W fm (AK fm scope sc D C) X0 B D St (λk i acc ps=>az get gt (AC .And mc) me k i acc ps = .ok rv rs) k s):=⟨_,λU U h=>h,λU U h=>h⟩
  refine My CI ?_ K (mkI _ _
   ⟨0,_,X0,[],[],eR,I1,.refl ..,.of_keeps λb o e=>old b o (stays b o e),hacc,.nil,itk.stay _ _ _ st λo e=>old _ o e⟩)
  intro k s' hi
  unfold Q1
  dsimp only
  generalize notedBy _ _ _ _=EE
  obtain ⟨i,ps',α',acc,vs,e',I',g',x',hl',rl',st'⟩:=elI _ _ hi
  clear hi elI
  cases k with
  | zero=>
   have e':az get gt (AC .And mc) me 0 i acc ps' = .ok rv rs:=e'
   cases e'
  | succ k=>
   have eq:ac (get i) (λo=>match o with
    | none=>au acc
    | some p=>ac (gt p) λU=>ac (AC .And mc) λc=>if c then ac me λv=>am (acc.length+1<=big) (az get gt (AC .And mc) me k (i+1) (acc++[v])) else az get gt (AC .And mc) me k (i+1) acc) ps' = .ok rv rs:=e'
   have nns:∀ {r:R PV},r = .ok rv rs->r≠.stuck:=λe q=>by rw [q] at e;cases e
   have ItC:=itk.to (AK fm scope sc D C)
   have Dα:∀ {β ps s},InvS W (AK fm scope sc D C) β ps s->D∉β:=λJ m=>J.inv.lists.apart _ m mD
   refine ItC.next (AK fm scope sc D C) A α' ps' s' i _ _ hA g'.pre FC I' st' (Ac (nns eq)) λo r h2 tk eo kk rr=>?_
   rw [Ab eo] at eq
   obtain ⟨oJ,vsJ,eJ,dJ,cJ⟩:=itk.flds _ _ st'
   have T1:Turn0 fm.stk [It] s'.heap h2:=Turn0.one I'.inv.frames ⟨oJ,vsJ,eJ,dJ,cJ⟩ kk
   have J:InvS W (AK fm scope sc D C) α' ps' { s' with heap:=h2,toks:=tk }:=ItC.turned FC I' st' navC (I0.none _ freshI) kk
   have x1:Rel fm.stk fm.tab X0 (B) h2:=x'.turn0 T1 λb m=>by rw [mem_singleton.mp m];exact cutI
   have hl1:h2.PlainList D vs.toArray:=by
    obtain ⟨oD,e⟩:=hl'
    exact ⟨oD,kk _ _ (Ne.symm ItD) e⟩
   have rl1:RepL W.H W.h₀ (AK fm scope sc D C).av α' h2 acc vs:=RepL.turn (fm:=AK fm scope sc D C) T1 FC.frsAv rl'
   cases o with
   | none=>
    cases r with
    | some _=>exact rr.elim
    | none=>
    exact fin2 _ _ _ _ _ eq J g' x1 hl1 rl1
   | some p=>
    cases r with
    | none=>exact rr.elim
    | some v=>
    obtain ⟨rp,st2⟩:=rr
    have eq:ac (gt p) (λU=>ac (AC .And mc) λc=>if c then ac me λv=>am (acc.length+1<=big) (az get gt (AC .And mc) me k (i+1) (acc++[v])) else az get gt (AC .And mc) me k (i+1) acc) ps' = .ok rv rs:=eq
    obtain ⟨oN,vsN,eN,dN,cN,hcN,hwN⟩:=ItC.flds _ _ st2
    refine IJ (s:={ s' with heap:=h2,toks:=tk }) eN dN hcN hwN ?_
    refine aX (hx _ rfl (Cx.hdl▸hA) A α' ps' _ p v CC J rp (Ac (nns eq))) (λU s3 z=>?_) λU U z=>z.elim
    obtain ⟨ps3,e3,J3,R3⟩:=z
    rw [Ab e3] at eq
    have x3:Rel fm.stk fm.tab X0 (B) s3.heap:=x1.fresh R3 g'.new λa m=>by
     rcases mem_append.mp m with m | m
     ·exact .inl m
     ·rw [mem_singleton.mp m];exact .inr (cutN _ nC)
    have hl3:=E4 R3 hl1 Dfr (λm=>by
     rcases mem_append.mp m with m | m
     ·exact Dtab m
     ·exact hDC (mem_singleton.mp m)) (Dα J)
    have rl3:=RepL.stays J.inv.lists R3 (prefix_refl _) FC.frsAv FC.ownAv rl1
    have st3:St (i+1) s3.heap:=ItC.kept FC J st2 navC (λU q=>q) R3
    have bad:∀ {β:Type} {x:Value} {s} {r:R β},ExE W (AK fm scope sc D C) α' s3.heap r x s->(∀ e q,r≠.ex e q)->False:=λq n=>by
     obtain ⟨e,ps,V,er,_⟩:=q
     exact n e ps er
    refine aX (QD (hc _ rfl (Cx.hdl▸hA)) A α' _ s3 CC J3 (Ac (nns eq))) (λc s4 z=>?_) λy s4 z=>(bad z λe q er=>by rw [GR er] at eq;cases eq).elim
    obtain ⟨ps4,α4,e4,J4,g4,R4⟩:=z
    rw [Ab e4] at eq
    have x4:=x3.trans R4 g'.new
    have g4':=g'.trans g4 x3
    have hl4:=E4 R4 hl3 Dfr Dtab (Dα J3)
    have rl4:=J3.staysL CC R4 g4 rl3
    have st4:St (i+1) s4.heap:=ItC.kept FC J3 st3 navC (λU q=>mem_append_left _ q) R4
    cases c with
    | false=>
     simp only [false_eq_true,if_false] at eq ⊢
     exact ⟨k,bp k,mkI _ _ ⟨i+1,ps4,α4,acc,vs,eq,J4,g4',x4,hl4,rl4,st4⟩⟩
    | true=>
     simp only [if_true] at eq ⊢
     have bad:∀ {β:Type} {x:Value} {s} {r:R β},ExE W (AK fm scope sc D C) α4 s4.heap r x s->(∀ e q,r≠.ex e q)->False:=λq n=>by
      obtain ⟨e,ps,V,er,_⟩:=q
      exact n e ps er
     refine aX (he _ rfl (Cx.hdl▸hA) A α4 ps4 s4 CC J4 (Ac (nns eq))) (λy s5 z=>?_) λy s5 z=>(bad z λe q er=>by rw [GR er] at eq;cases eq).elim
     obtain ⟨q,ps5,α5,e5,J5,g5,R5,rq⟩:=z
     rw [Ab e5] at eq
     have x5:=x4.trans R5 g4'.new
     have g5':=g4'.trans g5 x4
     have hl5:=E4 R5 hl4 Dfr Dtab (Dα J4)
     have rl5:=J4.staysL CC R5 g5 rl4
     have st5:St (i+1) s5.heap:=ItC.kept FC J4 st4 navC (λU q=>mem_append_left _ q) R5
     obtain ⟨hb,eb⟩:=Ah (nns eq)
     rw [eb] at eq
     rw [decide_eq_true_eq] at hb
     refine wpAny_list_append_plain hl5 (λh6 hl6 S6=>?_) (by rw [size_toArray,<- rl5.length,<- BU];lia)
     have hα5:∀ b∈α5,b≠D:=λb m z=>Dα J5 (z▸m)
     obtain ⟨o6,eo6,_,k6,d6⟩:=hl6.isList
     have J6:InvS W (AK fm scope sc D C) α5 ps5 { s5 with heap:=h6 }:=J5.poke (tk:=s5.toks) FC mD hDC (λv hv=>by
      obtain ⟨oc,e1,e2⟩:=hv
      obtain ⟨od,e3,_,kd,d3⟩:=hl5.isList
      rw [e3] at e1;cases e1;rw [d3] at e2;cases e2) (λo vs e q=>by
      obtain ⟨od,e3,_,kd,d3⟩:=hl5.isList
      rw [e3] at e;cases e;rw [d3] at q;cases q) S6 eo6 (λvs q=>by rw [d6] at q;cases q)
     have live6:(h6.get? D).isSome=true:=by rw [eo6];rfl
     have R6:Rel fm.stk [D] α5 s5.heap h6:=SameBut.rel S6 live6 (mem_singleton_self _) _ _
     have x6:Rel fm.stk fm.tab X0 (B) h6:=x5.fresh R6 g5'.new λa m=>by rw [mem_singleton.mp m];exact .inr (cutN _ nD)
     refine ⟨k,bp k,mkI _ _ ⟨i+1,ps5,α5,acc++[q],vs++[y],eq,J6,g5',x6,by simpa using hl6,?_,itk.stay _ _ _ st5 λo e=>(S6.2 It ItD).trans e⟩⟩
     exact RepL.append (RepL.same S6 mD hα5 rl5) (.cons (RepV.same S6 mD hα5 rq) .nil)
 exact codeAny_compStart_list (loop _ rfl) (itk.self A _ 0 _ _ (itk.stay _ _ _ st λo e=>old _ o e) (loop _ rfl))
variable {V β:List Addr}{A:Around}{ps ps':PS}{s s' s'':Shared}{h':Heap}{C D:Addr}
theorem Cm {elt iter:Expr}{tg:Expr}{pos:Pos}{ifs:List Expr}{scope:Scope}{sc:List (Str × NameKind × Nat)}{js:List Nat}{gt:PV->M Unit}{mi:M (Nat->M (Option PV))}{mc:List (M Bool)}{me:M PV}(hh:fm.hdl=none)(ci:Ci fm.sc scope sc js)(hx:∀ fm':Fm,fm'.sc=sc->fm'.hdl=none->SimG W n fm' tg gt)
  (hi:SimI W n fm iter mi) (hc:∀ fm':Fm,fm'.sc=sc->fm'.hdl=none->All2 (SimB W n fm') ifs mc) (he:∀ fm':Fm,fm'.sc=sc->fm'.hdl=none->SimE W n fm' elt me) (hs:∀ env x,foldedSetIterable iter env x=pure x) (K:Nat) :
  SimU W n fm (.ListComp elt [⟨tg,iter,ifs,0⟩] scope pos) (ac mi λget=>aF js (az get gt (AC .And mc) me K 0 [])) where
 toE:=.mk λA V ps s Cx I0 ns=>by
  unfold Af
  rw [eval_ListComp]
  refine HM hh ci hx hi hc he hs K Cx I0 ns (λU U z=>z) λβ ps' i D C s' e nC hm J g R hi=>?_
  obtain ⟨m,hm⟩:=hm
  obtain ⟨f1,f2⟩:=K5 hm
  have nav:C∉fm.av:=A6 I0 nC
  refine ⟨m,hm,λh' S=>?_⟩
  refine ⟨.lst i,ps',β,e,J.shed Cx.fm (I0.none _ nC) nav f1 f2 S,g,?_,.lst hi⟩
  have CH:∀ b o,s.heap.get? b=some o->b≠C:=λb o e q=>by rw [q,nC] at e;cases e
  exact ⟨λb o e m1 m2 m3=>(S.2 b (CH b o e)).trans (R.keep b o e m1 m2 m3),λb o e m1 m2 m3=>by
   obtain ⟨sl,e'⟩:=R.slot b o e m1 m2 m3
   exact ⟨sl,(S.2 b (CH b o e)).trans e'⟩,λb e=>by
   by_cases q:b=C
   ·rw [q];exact nC
   ·exact R.live b ((S.2 b q).symm.trans e)⟩
 sw:=λx p l env=>⟨_,rfl⟩
 us:=λA V ps s Cx I0 ns {u Q E} hE fin=>by
  show wpAny W.m A (do let _ <- comprehension (.ListComp elt [⟨tg,iter,ifs,0⟩] scope pos) scope fm.env iter.pos (newList []) false (eval iter fm.env) (some u)) Q E s
  refine bj (aX (HM hh ci hx hi hc he hs K (Q:=λU s'=>Q () s') Cx I0 ns hE λβ ps' i D C s' e nC hm J g R hi=>?_) (λU U q=>bk q) λU U q=>q)
  exact fin β ps' i D C s' e nC hm J g R hi
end
section
variable {W:Wd}{fm:Fm}{V α' α₁:List Addr}{h h':Heap}{n:Nat}{A:Around}{ps ps':PS}{s s':Shared}
end
section
variable {W:Wd}{fm:Fm}{n:Nat}
end
section
variable {W:Wd}{fm:Fm}{V:List Addr}{n:Nat}{A:Around}{ps:PS}{s:Shared}{x:Str}{t:Txt}
def eqB (a b:PV):M Bool:=λs=>match toD s.st 20000000 a,toD s.st 20000000 b with
 | some x,some y=>if SeqAt.shaped x&&SeqAt.shaped y then .ok (PyData.eqv x y) s else .stuck
 | _,_=>.stuck
def neB (a b:PV):M PV:=ac (eqB a b) λr=>ae (.bool !r)
theorem Q2 {a b:PV}(ns:eqB a b ps≠.stuck):∃ x y,eqB a b ps = .ok (PyData.eqv x y) ps/\toD ps.st 20000000 a=some x/\toD ps.st 20000000 b=some y/\SeqAt.shaped x=true/\SeqAt.shaped y=true:=by
 unfold eqB at ns ⊢
 cases ex:toD ps.st 20000000 a with
 | none=>rw [ex] at ns;exact absurd rfl ns
 | some x=>
  cases ey:toD ps.st 20000000 b with
  | none=>rw [ex,ey] at ns;exact absurd rfl ns
  | some y=>
   rw [ex,ey] at ns
   by_cases q:(SeqAt.shaped x&&SeqAt.shaped y)=true
   ·have q':=and_eq_true_iff.mp q
    exact ⟨x,y,by simp only [q,if_true],rfl,rfl,q'.1,q'.2⟩
   ·simp only [q,if_false] at ns;exact absurd rfl ns
theorem U9 {a b:PV}{va vb:Value}(C:Ctx W fm n A)(I:InvS W fm V ps s)(ra:W.rep fm V s.heap a va)(rb:W.rep fm V s.heap b vb)(ns:neB a b ps≠.stuck):Af W fm A V ps s (compareOp .NotEq va vb) (neB a b):=by
 obtain ⟨x,y,e,ex,ey,sx,sy⟩:=Q2 (Ac ns)
 obtain ⟨as,x1⟩:=Cw I.inv.lists _ _ _ _ ex ra
 obtain ⟨bs,x2⟩:=Cw I.inv.lists _ _ _ _ ey rb
 unfold Af
 rw [show neB a b ps = .ok (.bool !(PyData.eqv x y)) ps from Ab e]
 exact SeqAt.compareNe_shaped x1 x2 sx sy C.u64 (.same' I (.bool _))
theorem cmL {l r:Expr}{pos:Pos}{ml mr:M PV}(h:JD r=false)(hl:SimE W n fm l ml)(hr:SimE W n fm r mr) :
  SimB W n fm (.Compare l [.NotEq] [r] pos) (ac ml λa=>ac mr λb=>ac (neB a b) tst):=.mk λA V ps s C I ns=>by
 refine wpAny_isTrue_Compare1 (Af.seq (hl A V ps s C I (Ac ns)) (λa va α₁ o0 c0 s0 d0 l0 ra u0=>?_) λx c0 q=>q.bind) (CY h)
 rw [Ab u0] at ns ⊢
 refine Af.seq (hr A α₁ o0 c0 C s0 (Ac ns)) (λb vb X0 Y1 w0 w1 y0 W0 rb Z0=>?_) λx c0 q=>q.bind.after d0 l0
 rw [Ab Z0] at ns ⊢
 refine Af.seq (U9 C w1 (s0.stays C W0 y0 ra) rb (Ac ns)) (λc vc W4 j4 w3 Z1 u3 v3 rc Y3=>?_) λx c0 q=>(q.bind.after y0 W0).after d0 l0
 rw [Ab Y3] at ns ⊢
 exact aX (CV Z1 rc ns) (λU U q=>((q.after u3 v3).after y0 W0).after d0 l0) (λU U q=>q)
def eqL (a b:PV):M PV:=ac (eqB a b) λr=>ae (.bool r)
theorem Q3 {a b:PV}{va vb:Value}(C:Ctx W fm n A)(I:InvS W fm V ps s)(ra:W.rep fm V s.heap a va)(rb:W.rep fm V s.heap b vb)(ns:eqL a b ps≠.stuck):Af W fm A V ps s (compareOp .Eq va vb) (eqL a b):=by
 obtain ⟨x,y,e,ex,ey,sx,sy⟩:=Q2 (Ac ns)
 obtain ⟨as,x1⟩:=Cw I.inv.lists _ _ _ _ ex ra
 obtain ⟨bs,x2⟩:=Cw I.inv.lists _ _ _ _ ey rb
 unfold Af
 rw [show eqL a b ps = .ok (.bool (PyData.eqv x y)) ps from Ab e]
 exact SeqAt.compareEq_shaped x1 x2 sx sy C.u64 (.same' I (.bool _))
theorem cmE {l r:Expr}{pos:Pos}{ml mr:M PV}(h:JD r=false)(hl:SimE W n fm l ml)(hr:SimE W n fm r mr) :
  SimB W n fm (.Compare l [.Eq] [r] pos) (ac ml λa=>ac mr λb=>ac (eqL a b) tst):=.mk λA V ps s C I ns=>by
 refine wpAny_isTrue_Compare1 (Af.seq (hl A V ps s C I (Ac ns)) (λa va α₁ o0 c0 s0 d0 l0 ra u0=>?_) λx c0 q=>q.bind) (CY h)
 rw [Ab u0] at ns ⊢
 refine Af.seq (hr A α₁ o0 c0 C s0 (Ac ns)) (λb vb X0 Y1 w0 w1 y0 W0 rb Z0=>?_) λx c0 q=>q.bind.after d0 l0
 rw [Ab Z0] at ns ⊢
 refine Af.seq (Q3 C w1 (s0.stays C W0 y0 ra) rb (Ac ns)) (λc vc W4 j4 w3 Z1 u3 v3 rc Y3=>?_) λx c0 q=>(q.bind.after y0 W0).after d0 l0
 rw [Ab Y3] at ns ⊢
 exact aX (CV Z1 rc ns) (λU U q=>((q.after u3 v3).after y0 W0).after d0 l0) (λU U q=>q)
end
section
variable {W:Wd}{fm:Fm}{n i:Nat}{x:Str}{np pos:Pos}{es:List Expr}{ms:List (M PV)}{sc:List (Str × NameKind × Nat)}
end
section
variable {W:Wd}{fm:Fm}{V:List Addr}{n:Nat}{A:Around}{ps:PS}{s:Shared}
end
section
variable {W:Wd}{fm:Fm}{V:List Addr}{n:Nat}{A:Around}{ps:PS}{s:Shared}{E:Value->Shared->Prop}
def Dr (a b r:PV):M Unit:=ap (asL a) λi=>ap (asI b) λk=>ac (aq i) λl=>am (decide (0<=k)&&decide (k.toNat<l.length)) (aG i (l.set k.toNat r))
theorem Ip {l:Addr}{items:Array Value}{k:Int}{t:Tok}{v:Value}{Q:Unit->Shared->Prop}(hl:s.heap.PlainList l items)
  (h0:0<=k) (hfit:k<2 ^ 63) (hn:k<items.size)
  (hQ:∀ h',h'.PlainList l (items.setIfInBounds k.toNat v)->Heap.SameBut l s.heap h'->Q () { s with heap:=h' }) :
  wpAny W.m A (setItem (.ref l) (.int k t) v) Q E s:=by
 obtain ⟨n,ho⟩:=id hl
 have hL:=hl.isList
 unfold setItem
 try with_reducible refine bh ?_
 first | refine bj (bk ?_) | skip
 refine bj (wpAny_sequenceKey hL.typeIs (by decide) ?_)
 refine bj (wpAny_callSpecial?_slot (name:=Str.ofString "__setitem__") hL.typeIs slot_list_setitem
  (wpAny_call_entry slot_list_setitem hL.typeIs entry_list_setitem ?_ (args_list_setitem _ _ _)))
 show wpAny _ _ (Builtin.List.listSubscript? (.int k t) >>= _) _ _ s
 refine bj (wpAny_listSubscript_int (fitsIndex_of h0 hfit) ?_)
 clear hfit
 obtain ⟨j,rfl⟩:=Int.eq_ofNat_of_zero_le h0
 have hj:j<items.size:=by lia
 have hx':items[j]? = some items[j]:=Array.getElem?_eq_getElem hj
 show wpAny _ _ ((seqItemAt l j >>= λr=>pure (r.map (j,·))) >>= _) _ _ s
 refine bj (bj (wpAny_seqItemAt ho rfl (bk ?_)))
 rw [hx']
 show wpAny _ _ (setSeqItemAt l j v >>= _) _ _ s
 have hfin:(s.heap.update l (Obj.mapSeq (·.setIfInBounds j v))).PlainList l (items.setIfInBounds j v):=
  ⟨_,get?_update_self _ ho (Obj.isFreed_of_seq rfl)⟩
 refine bj (wpAny_setSeqItemAt ho rfl ?_)
 first
  | exact bj (bk (bk ⟨.none,rfl,bk (hQ _ hfin (Heap.SameBut.update ..))⟩))
  | exact bk ⟨.none,rfl,bk (hQ _ hfin (Heap.SameBut.update ..))⟩
theorem RepL.set {H:Hd}{h₀:Heap}{av V:List Addr}{h:Heap}{l:List PV}{vs:List Value}(x:RepL H h₀ av V h l vs){p:PV}{v:Value}(r:RepV H h₀ av V h p v):∀ j,RepL H h₀ av V h (l.set j p) (vs.set j v):=by
 induction l generalizing vs with
 | nil=>intro j;obtain rfl:=x.inv;exact x
 | cons q l ih=>
  obtain ⟨_,_,rfl,r',rs⟩:=x.inv
  intro j
  cases j with
  | zero=>exact .cons r rs
  | succ j=>exact .cons r' (ih rs j)
theorem Mz {a b r:PV}{va vb vr:Value}(C:Ctx W fm n A)(I:InvS W fm V ps s)(ra:W.rep fm V s.heap a va)(rb:W.rep fm V s.heap b vb)(rr:W.rep fm V s.heap r vr)(ns:Dr a b r ps≠.stuck){Q:Unit->Shared->Prop}
  (h:∀ ps' s',Dr a b r ps = .ok () ps'->InvS W fm V ps' s'->Rel fm.stk fm.tab V s.heap s'.heap->Q () s'):wpAny W.m A (setItem va vb vr) Q E s:=by
 obtain ⟨i,k,ea,eb⟩:=Jj ns
 obtain rfl:=G9 ea
 obtain rfl:=AW eb
 have ns':ac (aq i) (λl=>am (decide (0<=k)&&decide (k.toNat<l.length)) (aG i (l.set k.toNat r))) ps≠.stuck:=ns
 obtain ⟨l,e1,e2⟩:=A5 (Ac ns')
 rw [Ab e2] at ns'
 obtain ⟨c,e3⟩:=Ah ns'
 rw [e3] at ns'
 rw [and_eq_true,decide_eq_true_eq,decide_eq_true_eq] at c
 have lb:l.length<=big:=by
  by_cases q:l.length<=big
  ·exact q
  ·exfalso;apply ns';unfold aG;rw [if_neg (by rw [List.length_set];exact q)]
 have e4:aG i (l.set k.toNat r) ps = .ok () { ps with st:=ps.st.set i (l.set k.toNat r) }:=by
  unfold aG;rw [if_pos (by rw [List.length_set];exact lb)]
 have e5:Dr (.lst i) (.int k) r ps = .ok () { ps with st:=ps.st.set i (l.set k.toNat r) }:=(Ab e2).trans (e3.trans e4)
 obtain ⟨a,ws,rfl,hi,hl,rw'⟩:=Ng I ra e1
 obtain ⟨_,rfl⟩:=rb.inv
 have len:=rw'.length
 have bb:big=16777216:=rfl
 refine Ip hl c.1 ?_ ?_ λh' hl' S=>?_
 ·have:(2:Int) ^ 63=9223372036854775808:=by decide
  lia
 ·rw [size_toArray];lia
 ·rw [List.setIfInBounds_toArray] at hl'
  obtain ⟨J,R⟩:=I.setLst (tk:=s.toks) C.fm hi hl S hl' (rw'.set rr k.toNat)
  exact h _ _ e5 J R
theorem JI {o i v:Expr}{tpos pos:Pos}{op:Operator}{mo mi m:M PV}(hh:fm.hdl=none)(ho:SimE W n fm o mo)(hi:SimE W n fm i mi)(hv:SimE W n fm v m)
  (hs:∀ ov iv new,augStore i ov iv new=(do holding [new,ov,iv] (setItem ov iv new);release [new,ov,iv] [];pure .next)) :
  SimT W n fm (.AugAssign (.Subscript o i tpos) op v pos) (ac mo λa=>ac mi λb=>am (asL a).isSome (am (asI b).isSome (ac (Ap false a b) λx=>ac m λy=>ac (Cf op x y) λr=>ac (Dr a b r) λU=>ae .next))):=.mk λA V ps s C I ns=>by
 refine wpAny_AugAssign_SubscriptAny ?_ hs
 refine Af.seq (ho A V ps s C I (Ac ns)) (λa va α₁ o0 c0 s0 d0 l0 ra u0=>?_) λx c0 q=>q.toS.bind
 rw [Ab u0] at ns ⊢
 refine Af.seq (hi A α₁ o0 c0 C s0 (Ac ns)) (λb vb X0 Y1 w0 w1 y0 W0 rb Z0=>?_) λx c0 q=>(q.bind.after d0 l0).toS
 rw [Ab Z0] at ns ⊢
 have ra2:=s0.stays C W0 y0 ra
 obtain ⟨c1,e3⟩:=Ah ns
 rw [e3] at ns ⊢
 obtain ⟨c2,e4⟩:=Ah ns
 rw [e4] at ns ⊢
 obtain ⟨k,ea⟩:=be.mp c1
 obtain ⟨j,eb⟩:=be.mp c2
 obtain rfl:=G9 ea
 obtain rfl:=AW eb
 obtain ⟨u,rfl⟩:=rb.inv
 have hhf:fm.hdl.isSome=false:=by rw [hh];rfl
 have ci:Af W fm A X0 Y1 w0 (getItem va (.int j u)) (Ap false (.lst k) (.int j)):=hhf▸KC w1 ra2 (by rw [hhf];exact Ac ns)
 refine Af.seq ci (λx vx W4 j4 w3 Z1 u3 v3 rx Y3=>?_) λx c0 q=>((q.bind.after y0 W0).after d0 l0).toS
 rw [Ab Y3] at ns ⊢
 refine Af.seq (hv A W4 j4 w3 C Z1 (Ac ns)) (λy vy v5 u5 w4 y5 y4 X4 ry X5=>?_) λx c0 q=>(((q.bind.after u3 v3).after y0 W0).after d0 l0).toS
 rw [Ab X5] at ns ⊢
 refine Af.seq (Qr op C y5 (Z1.stays C X4 y4 rx) ry (Ac ns)) (λr vr v7 f8 y6 f7 r6 s6 rr g7=>?_) λx c0 q=>((((q.bind.after y4 X4).after u3 v3).after y0 W0).after d0 l0).toS
 rw [Ab g7] at ns ⊢
 refine Mz C f7 (y5.stays C s6 r6 (Z1.stays C X4 y4 (w1.stays C v3 u3 ra2))) (y5.stays C s6 r6 (Z1.stays C X4 y4 (w1.stays C v3 u3 rb))) rr (Ac ns) λo8 q8 g8 J R=>?_
 rw [Ab g8]
 exact ((((OkS.after ⟨.next,_,v7,rfl,J,.refl ..,R.up,.next⟩ r6 s6.up).after y4 X4.up).after u3 v3.up).after y0 W0.up).after d0 l0.up
def Ds (a b:Int)(k:Nat):M (Option PV):=ae (if (k:Int)<a - b then some (.int (a - k)) else none)
theorem ItOk.rngD {a b:Int}{J:Addr}:ItOk W fm V J (Ds a b) (λk h=>IsRangeIter h J (a - k) ((if b<a then a - b else 0) - k) (-1)) where
 self:=λA s k Q E st h=>wpAny_pyIter_rangeiter st h
 stay:=λk h h' e q=>q _ e
 flds:=λk h e=>⟨_,_,e,rfl,_,rfl,by simp [B5]⟩
 next:=by
  intro fm A α' ps s k Q E hh hp F I st ns hQ
  by_cases q:(k:Int)<a - b
  ·have hab:b<a:=by lia
   rw [if_pos hab] at st
   refine wpAny_pyNext_range_item st (by lia) λh' st' S=>?_
   refine hQ (some (.int (a - k))) (some _) h' _ (by show R.ok (if _ then _ else _) ps=_;rw [if_pos q]) (λb o z e=>(S.2 b z).trans e) ⟨.int _ _,?_⟩
   show IsRangeIter h' J (a - ((k+1:Nat):Int)) ((if b<a then a - b else 0) - ((k+1:Nat):Int)) (-1)
   rw [if_pos hab,show a - ((k+1:Nat):Int)=a - k+-1 by lia,show (a - b - ((k+1:Nat):Int))=a - b - k - 1 by lia]
   exact st'
  ·refine wpAny_pyNext_range_end hh st (by split <;> lia) λh' S=>?_
   exact hQ none none h' _ (by show R.ok (if _ then _ else _) ps=_;rw [if_neg q]) S trivial
def HN (l:List PV):M (Nat->M (Option PV)):=match l with
 | [a,b,c]=>ap (asI a) λi=>ap (asI b) λj=>ap (asI c) λk=>am (k==-1&&(small i&&small j)) (ae (Ds i j))
 | _=>ar
theorem OU {l:List PV}(ns:HN l ps≠.stuck):∃ a b,l=[.int a,.int b,.int (-1)]/\small a=true/\small b=true/\HN l ps = .ok (Ds a b) ps:=by
 match l,ns with
 | [],ns=>exact absurd rfl ns
 | [_],ns=>exact absurd rfl ns
 | [_,_],ns=>exact absurd rfl ns
 | _::_::_::_::_,ns=>exact absurd rfl ns
 | [x,y,z],ns=>
  obtain ⟨i,e⟩:=A8 ns
  obtain rfl:=AW e
  obtain ⟨j,e⟩:=A8 (o:=asI y) (f:=λj=>ap (asI z) λk=>am (k==-1&&(small i&&small j)) (ae (Ds i j))) ns
  obtain rfl:=AW e
  obtain ⟨k,e⟩:=A8 (o:=asI z) (f:=λk=>am (k==-1&&(small i&&small j)) (ae (Ds i j))) ns
  obtain rfl:=AW e
  have ns':am (k==-1&&(small i&&small j)) (ae (Ds i j)) ps≠.stuck:=ns
  obtain ⟨c,e⟩:=Ah ns'
  simp only [and_eq_true,beq_iff_eq] at c
  obtain ⟨rfl,c1,c2⟩:=c
  exact ⟨i,j,rfl,c1,c2,e⟩
theorem Nw {a:Int}(h:small a=true)(k:Int)(hk:-3<=k/\k<=3):Builtin.Range.rangeFitsLong (a+k)=true:=by
 have:=D9 h
 have h1:((2:Int) ^ 62)=4611686018427387904:=by decide
 have h2:((2:Int) ^ 63)=9223372036854775808:=by decide
 unfold Builtin.Range.rangeFitsLong
 simp only [and_eq_true,decide_eq_true_eq]
 lia
theorem Nx (a b:Int):Builtin.Range.rangeSize a b (-1)=if b<a then a - b else 0:=by
 unfold Builtin.Range.rangeSize
 rw [if_neg (by decide)]
 by_cases h:b<a
 ·rw [if_pos h,if_pos h,show -(-1:Int)=1 by decide,Int.ediv_one];lia
 ·rw [if_neg h,if_neg h]
theorem Q4 {a b:Int}(ha:small a=true)(hb:small b=true):Builtin.Range.small a b (-1)=true:=by
 have a0:=Nw ha 0 (by lia)
 have b0:=Nw hb 0 (by lia)
 rw [Int.add_zero] at a0 b0
 have a1:=D9 ha
 have b1:=D9 hb
 have h1:((2:Int) ^ 62)=4611686018427387904:=by decide
 have h2:((2:Int) ^ 63)=9223372036854775808:=by decide
 unfold small at ha hb
 rw [decide_eq_true_eq] at ha hb
 have sz:Builtin.Range.rangeFitsLong (Builtin.Range.rangeSize a b (-1))=true:=by
  rw [Nx]
  unfold Builtin.Range.rangeFitsLong
  simp only [and_eq_true,decide_eq_true_eq]
  split <;> lia
 unfold Builtin.Range.small
 rw [a0,b0,sz,show Builtin.Range.rangeFitsLong (-1)=true by decide,show (if (-1:Int)>0 then Builtin.Range.rangeFitsLong (b+(-1 - 1)) else Builtin.Range.rangeFitsLong (b+(-1+1)))=true from by
  rw [if_neg (by decide)];exact (Int.add_zero b).symm▸b0]
 simp only [Bool.and_true,Bool.or_true]
theorem K6 {x:Str}{i:Nat}{np pos:Pos}{es:List Expr}{ms:List (M PV)}(hm:(x,NameKind.globalImplicit,i)∈fm.sc)(hf:x∈Bl)(hn:x≠"__name__")(hd:(x==("__debug__":Str))=false)(hb:bootBuiltins x=some (.type "range"))
  (q:SimL W n fm es ms):SimI W n fm (.Call (.Name x np) es [] pos) (ac (ah ms) HN):=.mk λA V ps s C I ns=>by
 show wpAny W.m A (do callWith pos (<- eval (.Name x np) fm.env) [] (backTo pos (starEach es fm.env)) (backToKw pos (keywordEach [] fm.env))) _ _ s
 refine bj (BL C I hf hn hb hm hd ?_)
 refine PySem.callWith_type (q.plain _) (A3 (q.plain _) (aX (CX q A V ps s C I (Ac ns)) (λvs c0 z=>?_) λx c0 z=>z.bind))
 obtain ⟨l,o0,α₁,u0,s0,d0,l0,Y0⟩:=z
 rw [Ab u0] at ns
 obtain ⟨a,b,rfl,ha,hb',er⟩:=OU ns
 obtain ⟨_,_,rfl,r,rs⟩:=Y0.inv
 obtain ⟨t,rfl⟩:=r.inv
 obtain ⟨_,_,rfl,r',rs2⟩:=rs.inv
 obtain ⟨u,rfl⟩:=r'.inv
 obtain ⟨_,_,rfl,r'',rs3⟩:=rs2.inv
 obtain ⟨v,rfl⟩:=r''.inv
 obtain rfl:=rs3.inv
 refine call_range_3 (by decide) ?_ (Or.inl (PyProof.noPylong_small (by decide)))
 have I2:=Bm s0 { cls:=.type "range",data:=.fields #[.int a t,.int b u,.int (-1) v] }
 refine wpAny_pyIter_range (s:={ c0 with heap:=c0.heap.push { cls:=.type "range",data:=.fields #[.int a t,.int b u,.int (-1) v] } }) (IsRange.new ..) (Q4 ha hb') ?_
 refine ⟨Ds a b,o0,α₁,_,_,(Ab u0).trans er,rfl,Bm I2 _,d0,Bx (s:={ c0 with heap:=c0.heap.push _ }) (Bx l0 _) _,?_,A6 I2 (AH _),ItOk.rngD (a:=a) (b:=b),?_⟩
 ·exact (Bx l0 { cls:=.type "range",data:=.fields #[.int a t,.int b u,.int (-1) v] }).live _ (AH _)
 ·show IsRangeIter _ _ (a - ((0:Nat):Int)) _ _
  rw [show a - ((0:Nat):Int)=a by lia,show ((if b<a then a - b else 0) - ((0:Nat):Int))=Builtin.Range.rangeSize a b (-1) by rw [Nx];lia]
  exact get?_push_size _ rfl
end
section
variable {W:Wd}{fm:Fm}{V:List Addr}{n:Nat}{A:Around}{ps:PS}{s:Shared}
def oIs:Option Str->Value->Bool
 | some x,v=>Value.isStrOf x v
 | none,v=>Nat.beq v.ctorIdx 0
theorem CB {v:Value}(h:oIs none v=true):v = .none:=by
 cases v <;> first | rfl | exact absurd h bo
theorem OV {prog:Program}{w:World}{A:Around}{E:Value->Shared->Prop}{s:Shared}{Q:Int->Shared->Prop}(h:Q 0xFCA86420 { s with toks:=s.toks+1 }):wpAny (model prog w) A (pyHash .none) Q E s:=by
 have hT:s.TypeIs .none "NoneType":=rfl
 unfold pyHash
 have hv:[Value.none].any Value.onHeap=false:=rfl
 refine bj ?_
 rw [cRoomFor,if_neg (by rw [hv];exact Bool.false_ne_true)];refine bk ?_
 refine bj (wpAny_specialOf hT F.slot_NoneType_hash.lookup ?_)
 show wpAny _ _ (if (some (Value.builtin "NoneType.__hash__")==some Value.none)=true then _ else _) Q E s
 rw [if_neg (by rw [beq_builtin_none];exact Bool.false_ne_true)]
 refine bj (wpAny_specialOf hT F.slot_NoneType_hash.lookup ?_)
 show wpAny _ _ (callSpecialIfBoundUnlessNone? .none "__hash__" _ >>= _) Q E s
 refine bj (wpAny_callSpecialIfBoundUnlessNone?_slot hT F.slot_NoneType_hash
  (wpAny_call_entry F.slot_NoneType_hash hT F.entry_NoneType_hash
   (show wpAny _ _ (do ret (<- mkInt 0xFCA86420)) _ _ s from wpAny_ret_mkInt ?_) (F.args_NoneType_hash_1 _)))
 show wpAny _ _ (if (decide (-(2:Int) ^ 63<=0xFCA86420)&&decide ((0xFCA86420:Int)<2 ^ 63))=true then _ else _) Q E _
 rw [if_pos (by decide)]
 exact bk h
def JJ (prog:Program)(w:World):KeyKind prog w (Option Str) where
 is:=oIs
 hash:=λo=>match o with
  | some x=>hashStr w x
  | none=>0xFCA86420
 inj:=λv a b ha hb=>by
  cases a <;> cases b
  ·rfl
  ·obtain rfl:=CB ha;cases hb
  ·obtain rfl:=CB hb;cases ha
  ·exact congrArg some (Value.isStrOf_inj v _ _ ha hb)
 byValue:=λk v h=>by
  cases k with
  | none=>obtain rfl:=CB h;rfl
  | some x=>obtain ⟨t,rfl⟩:=Value.isStrOf_shape h;rfl
 pyHash:=λ{A E s k v Q} hv h=>by
  cases k with
  | none=>obtain rfl:=CB hv;exact OV h
  | some x=>obtain ⟨t,rfl⟩:=Value.isStrOf_shape hv;exact wpAny_pyHash_str h
 eqBool:=λ{A E s a b u v Q} hu hv h=>by
  cases a with
  | none=>
   obtain rfl:=CB hu
   cases b with
   | none=>obtain rfl:=CB hv;exact SeqAt.EqAt.same (A:=A) (s:=s) _ _ _ _ _ h
   | some y=>obtain ⟨t,rfl⟩:=Value.isStrOf_shape hv;exact SeqAt.EqAt.none_str (A:=A) (s:=s) _ _ _ _ _ _ h
  | some x=>
   obtain ⟨t,rfl⟩:=Value.isStrOf_shape hu
   cases b with
   | none=>obtain rfl:=CB hv;exact SeqAt.EqAt.str_none (A:=A) (s:=s) _ _ _ _ _ _ h
   | some y=>obtain ⟨t,rfl⟩:=Value.isStrOf_shape hv;exact wpAny_eqBool_str (by simpa using h)
 «strs»:=λk x t v h=>by
  cases k with
  | none=>cases h
  | some y=>exact (strKind prog w).«strs» y x t v h
theorem Q5 {prog:Program}{w:World}{h:Heap}{a:Addr}{S:Str->Bool}{n:Nat}(x:FrozAt (strKind prog w) h a S n):FrozAt (JJ prog w) h a (λo=>match o with
  | some y=>S y
  | none=>false) n:=by
 obtain ⟨es,ep,t,h1,h2,h3,h4⟩:=x
 refine ⟨es,ep,t,h1,λe he=>?_,λk=>?_,h4⟩
 ·obtain ⟨⟨k,q1,q2⟩,q3⟩:=h2 e he
  exact ⟨⟨some k,q1,q2⟩,q3⟩
 ·cases k with
  | some y=>exact h3 y
  | none=>
   refine ⟨λq=>absurd q bo,λ⟨e,he,q⟩=>?_⟩
   have q':e.2 = .none:=CB q
   obtain ⟨⟨k,q1,_⟩,_⟩:=h2 e he
   rw [q'] at q1
   cases q1
theorem Q6 {prog:Program}{w:World}{A:Around}{s:Shared}{a:Addr}{S:Str->Bool}{m:Nat}{Q:Bool->Shared->Prop}{E:Value->Shared->Prop}(hS:FrozAt (strKind prog w) s.heap a S m)(hm:m<4096)
  (h:Q false { s with toks:=s.toks+1 }):wpAny (model prog w) A (contains (.ref a) .none) Q E s:=by
 obtain ⟨es,ep,tt,ho,hel,hmem,hn,hf⟩:=Q5 hS
 have hT:s.TypeIs (.ref a) "frozenset":=⟨_,ho,rfl⟩
 have hkey:(JJ prog w).is none .none=true:=rfl
 unfold contains
 try with_reducible refine bh ?_
 refine bj (wpAny_specialOf hT FB.slot_frozenset_contains.lookup ?_)
 show wpAny _ _ (if (some (Value.builtin "frozenset.__contains__")==some Value.none)=true then _ else _) _ E s
 rw [if_neg (by rw [beq_builtin_none];exact Bool.false_ne_true)]
 refine bj (wpAny_callSpecialUnlessNone?_slot (name:=Str.ofString "__contains__") hT FB.slot_frozenset_contains
  (wpAny_call_entry FB.slot_frozenset_contains hT FB.entry_frozenset_contains ?_ (FB.args_frozenset_contains_2 _ _)))
 unfold Builtin.«frozenset.__contains__» Builtin.Frozenset.oneOther
 simp only [isEmpty_nil,bind_assoc]
 unfold Builtin.Frozenset.addrOf Builtin.Frozenset.withSetAsKey
 refine bj (bk ?_)
 try dsimp only
 refine bj (bk ?_)
 try dsimp only
 refine bj (wpAny_tryCatch ?_)
 unfold setContains
 refine bh ?_
 refine bj ((JJ prog w).pyHash hkey ?_)
 refine bj (setFind_any (s:={ s with toks:=s.toks+1 }) hkey rfl ho rfl hel hmem (by rw [hn];exact hm) hf λr hr=>?_)
 refine bk ?_
 rw [hr]
 show wpAny _ _ (ret (Value.bool false)) _ _ _
 exact bk ⟨_,rfl,wpAny_truthy_bool h⟩
def MA:PV->Bool
 | .fset _=>true
 | _=>false
def inF (a b:PV):M PV:=if CO a&&MA b then ae (.bool false) else Aq .In a b
theorem MB {p:PV}(h:CO p=true):p = .none:=by cases p <;> first | rfl | cases h
theorem OW {p:PV}(h:MA p=true):∃ k,p = .fset k:=by cases p <;> first | exact ⟨_,rfl⟩ | cases h
theorem Va {a b:PV}{va vb:Value}(C:Ctx W fm n A)(I:InvS W fm V ps s)(ra:W.rep fm V s.heap a va)(rb:W.rep fm V s.heap b vb)(ns:inF a b ps≠.stuck):Af W fm A V ps s (compareOp .In va vb) (inF a b):=by
 by_cases q:(CO a&&MA b)=true
 ·obtain ⟨q1,q2⟩:=and_eq_true_iff.mp q
  obtain rfl:=MB q1
  obtain ⟨k,rfl⟩:=OW q2
  obtain rfl:va = .none:=by cases ra;rfl
  obtain ⟨a,rfl,hka⟩:=rb.inv
  obtain ⟨m,hS,hm⟩:=C.hd.set I.inv.base k hka
  show wpAny _ _ (do return Value.bool (<- contains (.ref a) .none)) _ _ s
  refine bj (Q6 hS hm (bk ?_))
  exact ⟨.bool false,ps,V,rfl,I.tok _,.refl ..,.refl ..,.bool false⟩
 ·have e:inF a b=Aq .In a b:=if_neg q
  rw [e] at ns ⊢
  exact EZ .In A V ps s a b va vb C I ra rb ns
theorem cmF {l r:Expr}{pos:Pos}{ml mr:M PV}(h:JD r=false)(hl:SimE W n fm l ml)(hr:SimE W n fm r mr) :
  SimB W n fm (.Compare l [.In] [r] pos) (ac ml λa=>ac mr λb=>ac (inF a b) tst):=.mk λA V ps s C I ns=>by
 refine wpAny_isTrue_Compare1 (Af.seq (hl A V ps s C I (Ac ns)) (λa va α₁ o0 c0 s0 d0 l0 ra u0=>?_) λx c0 q=>q.bind) (CY h)
 rw [Ab u0] at ns ⊢
 refine Af.seq (hr A α₁ o0 c0 C s0 (Ac ns)) (λb vb X0 Y1 w0 w1 y0 W0 rb Z0=>?_) λx c0 q=>q.bind.after d0 l0
 rw [Ab Z0] at ns ⊢
 refine Af.seq (Va C w1 (s0.stays C W0 y0 ra) rb (Ac ns)) (λc vc W4 j4 w3 Z1 u3 v3 rc Y3=>?_) λx c0 q=>(q.bind.after y0 W0).after d0 l0
 rw [Ab Y3] at ns ⊢
 exact aX (CV Z1 rc ns) (λU U q=>((q.after u3 v3).after y0 W0).after d0 l0) (λU U q=>q)
theorem Tv {l r:Expr}{pos:Pos}{ml mr:M PV}(h:JD r=false)(hl:SimE W n fm l ml)(hr:SimE W n fm r mr) :
  SimE W n fm (.Compare l [.Eq] [r] pos) (ac ml λa=>ac mr λb=>eqL a b):=.mk λA V ps s C I ns=>by
 refine wpAny_Compare1 (Af.seq (hl A V ps s C I (Ac ns)) (λa va α₁ o0 c0 s0 d0 l0 ra u0=>?_) λx c0 q=>q.bind) (CY h)
 rw [Ab u0] at ns ⊢
 refine Af.seq (hr A α₁ o0 c0 C s0 (Ac ns)) (λb vb X0 Y1 w0 w1 y0 W0 rb Z0=>?_) λx c0 q=>q.bind.after d0 l0
 rw [Ab Z0] at ns ⊢
 exact aX (Q3 C w1 (s0.stays C W0 y0 ra) rb ns) (λU U q=>(q.after y0 W0).after d0 l0) (λU U q=>(q.after y0 W0).after d0 l0)
def WD (e:Expr):Bool:=Nat.beq e.ctorIdx (Expr.Slice none none none default).ctorIdx
theorem Q7 {i:Expr}(h:WD i=false):∀ ov iv new,augStore i ov iv new=(do holding [new,ov,iv] (setItem ov iv new);release [new,ov,iv] [];pure .next):=by
 intro ov iv new
 cases i <;> first | rfl | exact absurd h.symm bo
end
end Mi
end
section
open PySem PySem.W PyProof.Rows
set_option maxRecDepth 100000
set_option maxHeartbeats 2000000
namespace Mi
open PySem.Challenge
def nth (i:Nat):Stmt:=pw_kp0046_10.main.body.getD i (.Pass default)
def BP:Fi:={ scope:=AQ (nth 37),body:=AR (nth 37),params:=["name", "dress", "inner"],sc:=[(("name":Str),.local,0),(("dress":Str),.local,1),(("inner":Str),.local,2)] }
theorem Di:BP.Ok:=.of (by decide +kernel)
def BH:Fi:={ scope:=AQ (nth 36),body:=AR (nth 36),params:=["name"],sc:=[(("name":Str),.local,0),(("bare":Str),.cell,1)] }
theorem B8:BH.Ok:=.of (by decide +kernel)
def CD:Fi:={ scope:=AQ (nth 35),body:=AR (nth 35),params:=["sign", "way"],sc:=[(("sign":Str),.local,0),(("way":Str),.local,1),(("code":Str),.local,2),(("short":Str),.local,3),(("size":Str),.local,4),(("unit":Str),.local,5),(("k":Str),.local,6),(("figures":Str),.local,7),(("ord":Str),.globalImplicit,8),(("range":Str),.globalImplicit,9)] }
theorem Ef:CD.Ok:=.of (by decide +kernel)
def By:Fi:={ scope:=AQ (nth 39),body:=AR (nth 39),params:=["names"],sc:=[(("names":Str),.local,0),(("bare":Str),.local,1),(("marked":Str),.local,2),(("k":Str),.local,3),(("best":Str),.local,4),(("here":Str),.local,5),(("range":Str),.globalImplicit,6),(("len":Str),.globalImplicit,7),(("_law_marked":Str),.globalImplicit,8),(("_law_is_bare":Str),.globalImplicit,9)] }
theorem GN:By.Ok:=.of (by decide +kernel)
def CE:Fi:={ scope:=AQ (nth 33),body:=AR (nth 33),params:=["left", "n"],sc:=[(("left":Str),.local,0),(("n":Str),.local,1),(("figure":Str),.local,2)] }
theorem CF:CE.Ok:=.of (by decide +kernel)
def CG:Fi:={ scope:=AQ (nth 34),body:=AR (nth 34),params:=["left"],sc:=[(("left":Str),.local,0),(("pick":Str),.local,1),(("code":Str),.local,2),(("_law_draw":Str),.globalImplicit,3),(("chr":Str),.globalImplicit,4)] }
theorem Gz:CG.Ok:=.of (by decide +kernel)
def BQ:Fi:={ scope:=AQ (nth 21),body:=AR (nth 21),params:=["src", "pos", "chars"],sc:=[(("src":Str),.local,0),(("pos":Str),.local,1),(("chars":Str),.local,2),(("IndexError":Str),.globalImplicit,3)] }
theorem Iq:BQ.Ok:=.of (by decide +kernel)
def BR:Fi:={ scope:=AQ (nth 22),body:=AR (nth 22),params:=["src", "pos", "expect", "error_on", "error_on_eof"],sc:=[(("src":Str),.local,0),(("pos":Str),.local,1),(("expect":Str),.local,2),(("error_on":Str),.local,3),(("error_on_eof":Str),.local,4),(("new_pos":Str),.local,5),(("ValueError":Str),.globalImplicit,6),(("len":Str),.globalImplicit,7),(("suffixed_err":Str),.globalImplicit,8)] }
theorem Ir:BR.Ok:=.of (by decide +kernel)
def A0:Fi:={ scope:=AQ (nth 28),body:=AR (nth 28),params:=["src", "pos"],sc:=[(("src":Str),.local,0),(("pos":Str),.local,1),(("start_pos":Str),.local,2),(("skip_until":Str),.globalImplicit,3),(("ILLEGAL_LITERAL_STR_CHARS":Str),.globalImplicit,4)] }
theorem Eg:A0.Ok:=.of (by decide +kernel)
def AL:Fi:={ scope:=AQ (nth 31),body:=AR (nth 31),params:=["codepoint"],sc:=[(("codepoint":Str),.local,0)] }
theorem CZ:AL.Ok:=.of (by decide +kernel)
def Bh:Fi:={ scope:=AQ (nth 27),body:=AR (nth 27),params:=["src", "pos", "hex_len"],sc:=[(("src":Str),.local,0),(("pos":Str),.local,1),(("hex_len":Str),.local,2),(("hex_str":Str),.local,3),(("hex_int":Str),.local,4),(("len":Str),.globalImplicit,5),(("HEXDIGIT_CHARS":Str),.globalImplicit,6),(("suffixed_err":Str),.globalImplicit,7),(("int":Str),.globalImplicit,8),(("is_unicode_scalar_value":Str),.globalImplicit,9),(("chr":Str),.globalImplicit,10)] }
theorem Db:Bh.Ok:=.of (by decide +kernel)
def Az:Fi:={ scope:=AQ (nth 25),body:=AR (nth 25),params:=["src", "pos", "multiline"],sc:=[(("src":Str),.local,0),(("pos":Str),.local,1),(("multiline":Str),.local,2),(("escape_id":Str),.local,3),(("char":Str),.local,4),(("skip_chars":Str),.globalImplicit,5),(("TOML_WS":Str),.globalImplicit,6),(("IndexError":Str),.globalImplicit,7),(("suffixed_err":Str),.globalImplicit,8),(("TOML_WS_AND_NEWLINE":Str),.globalImplicit,9),(("parse_hex_char":Str),.globalImplicit,10),(("BASIC_STR_ESCAPE_REPLACEMENTS":Str),.globalImplicit,11),(("KeyError":Str),.globalImplicit,12)] }
theorem C8:Az.Ok:=.of (by decide +kernel)
def Bb:Fi:={ scope:=AQ (nth 29),body:=AR (nth 29),params:=["src", "pos", "multiline"],sc:=[(("src":Str),.local,0),(("pos":Str),.local,1),(("multiline":Str),.local,2),(("error_on":Str),.local,3),(("parse_escapes":Str),.local,4),(("result":Str),.local,5),(("start_pos":Str),.local,6),(("char":Str),.local,7),(("parsed_escape":Str),.local,8),(("ILLEGAL_MULTILINE_BASIC_STR_CHARS":Str),.globalImplicit,9),(("parse_basic_str_escape_multiline":Str),.globalImplicit,10),(("ILLEGAL_BASIC_STR_CHARS":Str),.globalImplicit,11),(("parse_basic_str_escape":Str),.globalImplicit,12),(("IndexError":Str),.globalImplicit,13),(("suffixed_err":Str),.globalImplicit,14)] }
theorem E8:Bb.Ok:=.of (by decide +kernel)
def AF:Fi:={ scope:=AQ (nth 24),body:=AR (nth 24),params:=["src", "pos"],sc:=[(("src":Str),.local,0),(("pos":Str),.local,1),(("parse_basic_str":Str),.globalImplicit,2)] }
theorem CQ:AF.Ok:=.of (by decide +kernel)
def Bi:Fi:={ scope:=AQ (nth 23),body:=AR (nth 23),params:=["src", "pos"],sc:=[(("src":Str),.local,0),(("pos":Str),.local,1),(("char":Str),.local,2),(("start_pos":Str),.local,3),(("IndexError":Str),.globalImplicit,4),(("BARE_KEY_CHARS":Str),.globalImplicit,5),(("skip_chars":Str),.globalImplicit,6),(("parse_literal_str":Str),.globalImplicit,7),(("parse_one_line_basic_str":Str),.globalImplicit,8),(("suffixed_err":Str),.globalImplicit,9)] }
theorem Dc:Bi.Ok:=.of (by decide +kernel)
def BS:Fi:={ scope:=AQ (nth 38),body:=AR (nth 38),params:=["raw", "name"],sc:=[(("raw":Str),.cell,0),(("name":Str),.local,1),(("pos":Str),.cell,2),(("sign":Str),.cell,3),(("units":Str),.local,4),(("fit":Str),.local,5),(("_law_is_bare":Str),.globalImplicit,6),(("_law_marked":Str),.globalImplicit,7),(("range":Str),.globalImplicit,8),(("ord":Str),.globalImplicit,9),(("len":Str),.globalImplicit,10)] }
theorem Iu:BS.Ok:=.of (by decide +kernel)
def HO:Fi:={ scope:=AQ (nth 40),body:=AR (nth 40),params:=["script"],sc:=[(("script":Str),.local,0),(("text":Str),.local,1),(("written":Str),.local,2),(("number":Str),.local,3),(("left":Str),.local,4),(("more":Str),.local,5),(("dress":Str),.local,6),(("name":Str),.local,7),(("inner":Str),.local,8),(("k":Str),.local,9),(("sign":Str),.local,10),(("bare":Str),.local,11),(("raw":Str),.local,12),(("told":Str),.local,13),(("place":Str),.local,14),(("end":Str),.local,15),(("names":Str),.local,16),(("pos":Str),.local,17),(("short":Str),.local,18),(("again":Str),.local,19),(("len":Str),.globalImplicit,20),(("_law_draw":Str),.globalImplicit,21),(("_law_sign":Str),.globalImplicit,22),(("range":Str),.globalImplicit,23),(("_law_unit":Str),.globalImplicit,24),(("_law_is_bare":Str),.globalImplicit,25),(("_law_marked":Str),.globalImplicit,26),(("parse_key_part":Str),.globalImplicit,27),(("TOMLDecodeError":Str),.globalImplicit,28),(("_law_spells":Str),.globalImplicit,29),(("_law_shortest":Str),.globalImplicit,30)] }
theorem Vb:HO.Ok:=.of (by decide +kernel)
def Bz:Fi:={ scope:=AQ (nth 30),body:=AR (nth 30),params:=["src", "pos", "msg"],sc:=Gy }
theorem GO:Bz.Ok:=.of (by decide +kernel)
def FH:Fi:={ scope:=AQ ((AR (nth 30)).getD 0 (.Pass default)),body:=AR ((AR (nth 30)).getD 0 (.Pass default)),params:=["src", "pos"],sc:=[(("src":Str),.local,0),(("pos":Str),.local,1),(("line":Str),.local,2),(("column":Str),.local,3),(("len":Str),.globalImplicit,4)] }
theorem Q8:FH.Ok:=.of (by decide +kernel)
structure Mod (W:Wd):Prop where
 f_law_marked:DP W "_law_marked" BP 3 [] []
 f_law_is_bare:DP W "_law_is_bare" BH 1 [] []
 f_law_unit:DP W "_law_unit" CD 2 [] []
 f_law_shortest:DP W "_law_shortest" By 1 [] []
 f_law_draw:DP W "_law_draw" CE 2 [] []
 f_law_sign:DP W "_law_sign" CG 1 [] []
 f_skip_chars:DP W "skip_chars" BQ 3 [] []
 f_skip_until:DP W "skip_until" BR 3 ["error_on", "error_on_eof"] []
 f_parse_literal_str:DP W "parse_literal_str" A0 2 [] []
 f_is_unicode_scalar_value:DP W "is_unicode_scalar_value" AL 1 [] []
 f_parse_hex_char:DP W "parse_hex_char" Bh 3 [] []
 f_parse_basic_str:DP W "parse_basic_str" Bb 2 ["multiline"] []
 f_parse_one_line_basic_str:DP W "parse_one_line_basic_str" AF 2 [] []
 f_parse_key_part:DP W "parse_key_part" Bi 2 [] []
 f_law_spells:DP W "_law_spells" BS 2 [] []
 s_ILLEGAL_BASIC_STR_CHARS:∃ a,W.H.mg "ILLEGAL_BASIC_STR_CHARS" = some (.ref a)/\W.H.setv 0=some a
 s_ILLEGAL_LITERAL_STR_CHARS:∃ a,W.H.mg "ILLEGAL_LITERAL_STR_CHARS" = some (.ref a)/\W.H.setv 0=some a
 s_ILLEGAL_MULTILINE_BASIC_STR_CHARS:∃ a,W.H.mg "ILLEGAL_MULTILINE_BASIC_STR_CHARS" = some (.ref a)/\W.H.setv 1=some a
 s_TOML_WS:∃ a,W.H.mg "TOML_WS" = some (.ref a)/\W.H.setv 2=some a
 s_TOML_WS_AND_NEWLINE:∃ a,W.H.mg "TOML_WS_AND_NEWLINE" = some (.ref a)/\W.H.setv 3=some a
 s_HEXDIGIT_CHARS:∃ a,W.H.mg "HEXDIGIT_CHARS" = some (.ref a)/\W.H.setv 4=some a
 s_BARE_KEY_CHARS:∃ a,W.H.mg "BARE_KEY_CHARS" = some (.ref a)/\W.H.setv 5=some a
 mp:W.H.mg "BASIC_STR_ESCAPE_REPLACEMENTS" = some (.ref W.H.mpv)
 v_parse_basic_str_escape:W.H.mg "parse_basic_str_escape" = some (.ref (W.H.fnv 0))
 v_parse_basic_str_escape_multiline:W.H.mg "parse_basic_str_escape_multiline" = some (.ref (W.H.fnv 1))
 c_parse_basic_str_escape:∃ fd,FnAt W.h₀ (W.H.fnv 0) fd Az/\EO W fd Az 2 [] [.bool false]
 suf:Uw W Bz FH
 tabPos:W.H.tabPos=Nt ((AR (nth 30)).getD 0 (.Pass default))
def BM:M PFlow:=
  (ak (ac ((ac (af 1) λa=>ac ((ac (ah [af 0]) Bp)) λb=>ac (Aq .GtE a b) tst)) λc=>if c then (ac (ae (.str [101,110,100,32,111,102,32,100,111,99,117,109,101,110,116])) λa=>ae (.ret a)) else (ae .next))
  (ak (ac ((ac ((ac (af 0) λa=>am (B7 a) (ac (ah [ae (.str [10]),ae (.int 0),af 1]) (HE a)))) λa=>ac (ae (.int 1)) λb=>AO .Add a b)) λa=>ac (aj 2 a) λU=>ae .next)
  (ak (ac ((ac (af 2) λa=>ac (ae (.int 1)) λb=>ac (Aq .Eq a b) tst)) λc=>if c then (ac ((ac (af 1) λa=>ac (ae (.int 1)) λb=>AO .Add a b)) λa=>ac (aj 3 a) λU=>ae .next) else (ac ((ac (af 1) λa=>ac ((ac (af 0) λb=>am (B7 b) (ac (ah [ae (.str [10]),ae (.int 0),af 1]) (FE b)))) λb=>AO .Sub a b)) λa=>ac (aj 3 a) λU=>ae .next))
  (ac ((aB [ae (.str [108,105,110,101,32]),(ac (af 2) EI),ae (.str [44,32,99,111,108,117,109,110,32]),(ac (af 3) EI)] [])) λa=>ae (.ret a)))))
theorem Tw {W:Wd}{n:Nat}{fm:Fm}(hsc:fm.sc=FH.sc):SimS W n fm FH.body BM:=
  Aa (AJ (cm rfl (sv hsc 1 rfl) (cb hsc 4 rfl (sl rfl (sv hsc 0 rfl) .nil) Ax)) (Ad (An ss)) Ay)
  (Aa (sa hsc 2 rfl rfl (As (me rfl rfl (sv hsc 0 rfl) (sl rfl ss (sl rfl Ae (sl rfl (sv hsc 1 rfl) .nil))) Mr Dp (QQ)) Ae))
  (Aa (AJ (cm rfl (sv hsc 2 rfl) Ae) (Ad (sa hsc 3 rfl rfl (As (sv hsc 1 rfl) Ae))) (Ad (sa hsc 3 rfl rfl (As (sv hsc 1 rfl) (me rfl rfl (sv hsc 0 rfl) (sl rfl ss (sl rfl Ae (sl rfl (sv hsc 1 rfl) .nil))) KU Dp (OM))))))
  (Ad (An (DM (All2.cons ss (All2.cons (Jx (sv hsc 2 rfl)) (All2.cons ss (All2.cons (Jx (sv hsc 3 rfl)) (All2.nil))))))))))
theorem BI {W:Wd}{n i:Nat}{fm:Fm}{np pos:Pos}{es:List Expr}{m1 m2 m3:M PV}(Mo:Mod W)(hm:(("suffixed_err":Str),.globalImplicit,i)∈fm.sc)(q:SimL W (n+2) fm es [m1,m2,m3]) :
  SimXc W (n+2) fm (.Call (.Name "suffixed_err" np) es [] pos) (ac (ah [m1,m2,m3]) (aC (EJ BM))):=
 KX (params:=HG ((AR (nth 30)).getD 0 (.Pass default))) (dp:=Nt ((AR (nth 30)).getD 0 (.Pass default))) Mo.suf GO Q8 rfl (by decide +kernel) rfl Mo.tabPos.symm rfl rfl (λU=>rfl) (by decide +kernel) rfl (λU U U U U U U=>rfl) hm q λfm' hs he hd=>Tw hs
def Gg:List (Str × NameKind × Nat):=[(("sign":Str),.local,3),(("ord":Str),.globalImplicit,4)]
def Bs (K:Nat):M PFlow:=
  (ak (ac ((AC .And [(ac (af 1) λa=>ac (ae (.int 2)) λb=>ac (Aq .Lt a b) tst),(ac ((ac (ac (af 0) EM) λa=>aF [3] (az a (aj 3) (AC .And [(AC .Or [(ac (af 3) λb=>ac (ae (.str [39])) λd=>ac (Aq .Eq b d) tst),(AC .And [(ac (af 3) λb=>ac (ae (.str [9])) λd=>ac (Aq .NotEq b d) tst),(AC .Or [(ac ((ac (ah [af 3]) Oo)) λb=>ac (ae (.int 32)) λd=>ac (Aq .Lt b d) tst),(ac ((ac (ah [af 3]) Oo)) λb=>ac (ae (.int 127)) λd=>ac (Aq .Eq b d) tst)])])])]) (af 3) K 0 []))) λa=>ac ((ac (ah []) au)) λb=>ac (eqL a b) tst)])) λc=>if c then (ac ((ac ((ac (ae (.str [39])) λa=>ac (af 0) λb=>AO .Add a b)) λa=>ac (ae (.str [39])) λb=>AO .Add a b)) λa=>ae (.ret a)) else (ae .next))
  (ac ((ac ((ac (ae (.str [34])) λa=>ac (af 2) λb=>AO .Add a b)) λa=>ac (ae (.str [34])) λb=>AO .Add a b)) λa=>ae (.ret a)))
theorem DR (K:Nat){W:Wd}(Mo:Mod W){fm:Fm}(hsc:fm.sc=BP.sc)(hen:fm.env.scope=BP.scope)(hh:fm.hdl=none):SimS W 0 fm BP.body (Bs K):=
  Aa (AJ (AG (All2.cons (cm rfl (sv hsc 1 rfl) Ae) (All2.cons (cmE rfl ((Cm (sc:=Gg) hh (Ci.of (by rw [hsc];decide +kernel)) (λfm' hsc hh=>gn hsc 0 rfl rfl) (Cy (sv hsc 0 rfl)) (λfm' hsc hh=>All2.cons (AG (All2.cons (cm rfl (sv hsc 0 rfl) ss) (All2.cons (AG (All2.cons (cm rfl (sv hsc 0 rfl) ss) (All2.cons (AG (All2.cons (cm rfl (cb hsc 1 rfl (sl rfl (sv hsc 0 rfl) .nil) (Fy)) Ae) (All2.cons (cm rfl (cb hsc 1 rfl (sl rfl (sv hsc 0 rfl) .nil) (Fy)) Ae) (All2.nil)))) (All2.nil)))) (All2.nil)))) (All2.nil)) (λfm' hsc hh=>sv hsc 0 rfl) (Br rfl) K).toE) (B4 .nil)) (All2.nil)))) (Ad (An (As (As ss (sv hsc 0 rfl)) ss))) Ay)
  (Ad (An (As (As ss (sv hsc 2 rfl)) ss)))
def FI:List (Str × NameKind × Nat):=[(("sign":Str),.local,2),(("bare":Str),.free,1)]
def AZ (K:Nat):M PFlow:=
  (ak (ac (ae (.str [97,98,99,100,101,102,103,104,105,106,107,108,109,110,111,112,113,114,115,116,117,118,119,120,121,122,65,66,67,68,69,70,71,72,73,74,75,76,77,78,79,80,81,82,83,84,85,86,87,88,89,90,48,49,50,51,52,53,54,55,56,57,45,95])) λa=>ac (aj 1 a) λU=>ae .next)
  (ac ((BC .And [(ac (af 0) λa=>ac (ae (.str [])) λb=>Aq .NotEq a b),(ac ((ac (ac (af 0) EM) λa=>aF [2] (az a (aj 2) (AC .And [(ac (af 2) λb=>ac (af 1) λc=>ac (Aq .NotIn b c) tst)]) (af 2) K 0 []))) λa=>ac ((ac (ah []) au)) λb=>eqL a b)])) λa=>ae (.ret a)))
theorem Cs (K:Nat){W:Wd}(Mo:Mod W){fm:Fm}(hsc:fm.sc=BH.sc)(hen:fm.env.scope=BH.scope)(hh:fm.hdl=none):SimS W 0 fm BH.body (AZ K):=
  Aa (sa hsc 1 rfl rfl ss)
  (Ad (An (CW (All2.cons (ce rfl (sv hsc 0 rfl) ss) (All2.cons (Tv rfl ((Cm (sc:=FI) hh (Ci.of (by rw [hsc];decide +kernel)) (λfm' hsc hh=>gn hsc 0 rfl rfl) (Cy (sv hsc 0 rfl)) (λfm' hsc hh=>All2.cons (cm rfl (sv hsc 0 rfl) (sv hsc 1 rfl)) (All2.nil)) (λfm' hsc hh=>sv hsc 0 rfl) (Br rfl) K).toE) (B4 .nil)) (All2.nil))))))
def CL (K:Nat):M PFlow:=
  ((ak (ac ((ac ((ac ((ac (af 6) λa=>ac (ae (.int 2)) λb=>AO .Mod a b)) λa=>ac (ae (.int 0)) λb=>ac (Aq .Eq a b) tst)) λc=>if c then ae (.str [48,49,50,51,52,53,54,55,56,57,97,98,99,100,101,102]) else ae (.str [48,49,50,51,52,53,54,55,56,57,65,66,67,68,69,70]))) λa=>ac (aj 7 a) λU=>ae .next)
  (ac (af 5) λa=>ac ((ac (af 7) λb=>ac ((ac ((ac (af 2) λc=>ac ((ac (ae (.int 16)) λd=>ac ((ac ((ac (af 4) λe=>ac (ae (.int 1)) λf=>AO .Sub e f)) λe=>ac (af 6) λf=>AO .Sub e f)) λe=>AO .Pow d e)) λd=>AO .FloorDiv c d)) λc=>ac (ae (.int 16)) λd=>AO .Mod c d)) λc=>Ap false b c)) λb=>ac (Cf .Add a b) λc=>ac (aj 5 c) λU=>ae .next)))
def Cn (K:Nat):M PFlow:=
  (ak (ac ((ac (ah [af 0]) Oo)) λa=>ac (aj 2 a) λU=>ae .next)
  (ak (ac ((AC .And [(ac (af 1) λa=>ac (ae (.int 0)) λb=>ac (Aq .Eq a b) tst),(AC .Or [(ac (af 2) λa=>ac (ae (.int 9)) λb=>ac (Aq .Eq a b) tst),(AC .And [(ac (af 2) λa=>ac (ae (.int 31)) λb=>ac (Aq .Gt a b) tst),(ac (af 2) λa=>ac ((ac (ah [ae (.int 34),ae (.int 92),ae (.int 127)]) He)) λb=>ac (Aq .NotIn a b) tst)])])])) λc=>if c then (ac (af 0) λa=>ae (.ret a)) else (ae .next))
  (ak (ac ((Th .int [8,9,10,12,13,34,92] [.str [98],.str [116],.str [110],.str [102],.str [114],.str [34],.str [92]])) λa=>ac (aj 3 a) λU=>ae .next)
  (ak (ac ((AC .And [(ac (af 1) λa=>ac (ae (.int 2)) λb=>ac (Aq .Lt a b) tst),(ac (af 2) λa=>ac (af 3) λb=>ac (Aq .In a b) tst)])) λc=>if c then (ac ((ac (ae (.str [92])) λa=>ac ((ac (af 3) λb=>ac (af 2) λd=>Ap false b d)) λb=>AO .Add a b)) λa=>ae (.ret a)) else (ae .next))
  (ak (ac ((ac ((AC .And [(ac (af 1) λa=>ac (ae (.int 3)) λb=>ac (Aq .Lt a b) tst),(ac (af 2) λa=>ac (ae (.int 65536)) λb=>ac (Aq .Lt a b) tst)])) λc=>if c then ae (.int 4) else ae (.int 8))) λa=>ac (aj 4 a) λU=>ae .next)
  (ak (ac ((ac ((ac (af 4) λa=>ac (ae (.int 4)) λb=>ac (Aq .Eq a b) tst)) λc=>if c then ae (.str [92,117]) else ae (.str [92,85]))) λa=>ac (aj 5 a) λU=>ae .next)
  (ak (ac (ac (ah [af 4]) B3) λa=>aE a (aj 6) (CL K) K 0)
  (ac (af 5) λa=>ae (.ret a)))))))))
theorem E9 (K:Nat){W:Wd}(Mo:Mod W){fm:Fm}(hsc:fm.sc=CD.sc)(hen:fm.env.scope=CD.scope)(hh:fm.hdl=none):SimS W 0 fm CD.body (Cn K):=
  Aa (sa hsc 2 rfl rfl (cb hsc 8 rfl (sl rfl (sv hsc 0 rfl) .nil) (Fy)))
  (Aa (AJ (AG (All2.cons (cm rfl (sv hsc 1 rfl) Ae) (All2.cons (AG (All2.cons (cm rfl (sv hsc 2 rfl) Ae) (All2.cons (AG (All2.cons (cm rfl (sv hsc 2 rfl) Ae) (All2.cons (cm rfl (sv hsc 2 rfl) (BZ (sl rfl Ae (sl rfl Ae (sl rfl Ae .nil))))) (All2.nil)))) (All2.nil)))) (All2.nil)))) (Ad (An (sv hsc 0 rfl))) Ay)
  (Aa (sa hsc 3 rfl rfl (OT (by kernel_rfl) (by kernel_rfl) rfl (by decide) (cons_ne_nil _ _) (Nat.le_of_ble_eq_true rfl)))
  (Aa (AJ (AG (All2.cons (cm rfl (sv hsc 1 rfl) Ae) (All2.cons (cm rfl (sv hsc 2 rfl) (sv hsc 3 rfl)) (All2.nil)))) (Ad (An (As ss (it hh (sv hsc 3 rfl) (sv hsc 2 rfl))))) Ay)
  (Aa (sa hsc 4 rfl rfl (Bk (AG (All2.cons (cm rfl (sv hsc 1 rfl) Ae) (All2.cons (cm rfl (sv hsc 2 rfl) Ae) (All2.nil)))) Ae Ae))
  (Aa (sa hsc 5 rfl rfl (Bk (cm rfl (sv hsc 4 rfl) Ae) ss ss))
  (Aa (B6 hh (Ck (scm hsc 9 rfl) (by decide +kernel) (by decide +kernel) (by decide +kernel) (by kernel_rfl) (sl rfl (sv hsc 4 rfl) .nil)) (gn hsc 6 rfl rfl) (Aa (sa hsc 7 rfl rfl (Bk (cm rfl (As (sv hsc 6 rfl) Ae) Ae) ss ss))
  (Ad (sg hsc 5 rfl (it hh (sv hsc 7 rfl) (As (As (sv hsc 2 rfl) (As Ae (As (As (sv hsc 4 rfl) Ae) (sv hsc 6 rfl)))) Ae))))) (Br rfl) K)
  (Ad (An (sv hsc 5 rfl)))))))))
def Fb:List (Str × NameKind × Nat):=[(("sign":Str),.local,10),(("_law_unit":Str),.globalImplicit,11)]
def BN (K:Nat):M PFlow:=
  ((ak (ac ((ac ((ac ((ac (ah [af 1]) Bp)) λa=>ac ((ac (ah [af 2]) Bp)) λb=>ac (Aq .Lt a b) tst)) λc=>if c then af 1 else af 2)) λa=>ac (aj 4 a) λU=>ae .next)
  (ak (ac ((ac ((ac (ah [(ac (af 0) λa=>ac (af 3) λb=>Ap false a b),ae (.int 0),(ac (ae (.str [])) λa=>am (B7 a) (ac (ah [(ac (ac ((ac (af 0) λb=>ac (af 3) λc=>Ap false b c)) EM) λb=>aF [10] (az b (aj 10) (AC .And []) ((ac (ah [af 10,ae (.int 0)]) (ao (Cn K)))) K 0 []))]) (No a)))]) (ao (Bs K)))) λa=>ac (af 4) λb=>AO .Add a b)) λa=>ac (aj 5 a) λU=>ae .next)
  (ak (ac ((ac ((ac ((ac (ah [(ac (af 0) λa=>ac (af 3) λb=>Ap false a b)]) (ao (AZ K)))) tst)) λc=>if c then (ac ((ac (af 0) λa=>ac (af 3) λb=>Ap false a b)) λa=>ac (af 2) λb=>AO .Add a b) else af 5)) λa=>ac (aj 1 a) λU=>ae .next)
  (ac (af 5) λa=>ac (aj 2 a) λU=>ae .next)))))
def B9 (K:Nat):M PFlow:=
  (ak (ac (ae (.str [])) λa=>ac (aj 1 a) λU=>ae .next)
  (ak (ac (ae (.str [])) λa=>ac (aj 2 a) λU=>ae .next)
  (ak (ac (ac (ah [(ac ((ac (ah [af 0]) Bp)) λa=>ac (ae (.int 1)) λb=>AO .Sub a b),(ac (ae (.int 1)) OC),(ac (ae (.int 1)) OC)]) HN) λa=>aE a (aj 3) (BN K) K 0)
  (ac ((ac ((ac ((ac (ah [af 1]) Bp)) λa=>ac ((ac (ah [af 2]) Bp)) λb=>ac (Aq .Lt a b) tst)) λc=>if c then af 1 else af 2)) λa=>ae (.ret a)))))
theorem HP (K:Nat){W:Wd}(Mo:Mod W){fm:Fm}(hsc:fm.sc=By.sc)(hen:fm.env.scope=By.scope)(hh:fm.hdl=none):SimS W 1 fm By.body (B9 K):=
  Aa (sa hsc 1 rfl rfl ss)
  (Aa (sa hsc 2 rfl rfl ss)
  (Aa (B6 hh (K6 (scm hsc 6 rfl) (by decide +kernel) (by decide +kernel) (by decide +kernel) (by kernel_rfl) (sl rfl (As (cb hsc 7 rfl (sl rfl (sv hsc 0 rfl) .nil) Ax) Ae) (sl rfl (Jy Ae) (sl rfl (Jy Ae) .nil)))) (gn hsc 3 rfl rfl) (Aa (sa hsc 4 rfl rfl (Bk (cm rfl (cb hsc 7 rfl (sl rfl (sv hsc 1 rfl) .nil) Ax) (cb hsc 7 rfl (sl rfl (sv hsc 2 rfl) .nil) Ax)) (sv hsc 1 rfl) (sv hsc 2 rfl)))
  (Aa (sa hsc 5 rfl rfl (As (fc Mo.f_law_marked Di hsc 8 rfl (sl rfl (it hh (sv hsc 0 rfl) (sv hsc 3 rfl)) (sl rfl Ae (sl rfl (me rfl rfl ss (sl rfl ((Cm (sc:=Fb) hh (Ci.of (by rw [hsc];decide +kernel)) (λfm' hsc hh=>gn hsc 0 rfl rfl) (Cy (it hh (sv hsc 0 rfl) (sv hsc 3 rfl))) (λfm' hsc hh=>All2.nil) (λfm' hsc hh=>fc Mo.f_law_unit Ef hsc 1 rfl (sl rfl (sv hsc 0 rfl) (sl rfl Ae .nil)) hh (E9 K Mo)) (Br rfl) K).toE) .nil) OG Dp (Tm)) .nil))) hh (DR K Mo)) (sv hsc 4 rfl)))
  (Aa (sa hsc 1 rfl rfl (Bk (A9 (fc Mo.f_law_is_bare B8 hsc 9 rfl (sl rfl (it hh (sv hsc 0 rfl) (sv hsc 3 rfl)) .nil) hh (Cs K Mo)) (Bq rfl)) (As (it hh (sv hsc 0 rfl) (sv hsc 3 rfl)) (sv hsc 2 rfl)) (sv hsc 5 rfl)))
  (Ad (sa hsc 2 rfl rfl (sv hsc 5 rfl)))))) (Br rfl) K)
  (Ad (An (Bk (cm rfl (cb hsc 7 rfl (sl rfl (sv hsc 1 rfl) .nil) Ax) (cb hsc 7 rfl (sl rfl (sv hsc 2 rfl) .nil) Ax)) (sv hsc 1 rfl) (sv hsc 2 rfl))))))
def BJ (K:Nat):M PFlow:=
  (ak (ac ((ac ((ac (af 0) λa=>ac (ae (.int 0)) λb=>Ap false a b)) λa=>ac (af 1) λb=>AO .Mod a b)) λa=>ac (aj 2 a) λU=>ae .next)
  (ak (ac (af 0) λa=>ac (ae (.int 0)) λb=>am (asL a).isSome (am (asI b).isSome (ac (Ap false a b) λc=>ac (af 1) λd=>ac (Cf .FloorDiv c d) λe=>ac (Dr a b e) λU=>ae .next)))
  (ac (af 2) λa=>ae (.ret a))))
theorem C0 (K:Nat){W:Wd}(Mo:Mod W){fm:Fm}(hsc:fm.sc=CE.sc)(hen:fm.env.scope=CE.scope)(hh:fm.hdl=none):SimS W 0 fm CE.body (BJ K):=
  Aa (sa hsc 2 rfl rfl (As (it hh (sv hsc 0 rfl) Ae) (sv hsc 1 rfl)))
  (Aa (JI hh (sv hsc 0 rfl) Ae (sv hsc 1 rfl) (Q7 rfl))
  (Ad (An (sv hsc 2 rfl))))
def C1 (K:Nat):M PFlow:=
  (ak (ac ((ac (ah [af 0,ae (.int 16)]) (ao (BJ K)))) λa=>ac (aj 1 a) λU=>ae .next)
  (ak (ac ((ac (af 1) λa=>ac (ae (.int 15)) λb=>ac (Aq .Lt a b) tst)) λc=>if c then (ac ((ac (ae (.str [97,117,48,110,46,32,9,39,34,92,61,35,10,45,255])) λa=>ac (af 1) λb=>Ap false a b)) λa=>ae (.ret a)) else (ae .next))
  (ak (ac ((ac (ah [af 0,ae (.int 1112064)]) (ao (BJ K)))) λa=>ac (aj 2 a) λU=>ae .next)
  (ac ((ac (ah [(ac ((ac (af 2) λa=>ac (ae (.int 55296)) λb=>ac (Aq .Lt a b) tst)) λc=>if c then af 2 else (ac (af 2) λa=>ac (ae (.int 2048)) λb=>AO .Add a b))]) On)) λa=>ae (.ret a)))))
theorem HQ (K:Nat){W:Wd}(Mo:Mod W){fm:Fm}(hsc:fm.sc=CG.sc)(hen:fm.env.scope=CG.scope)(hh:fm.hdl=none):SimS W 1 fm CG.body (C1 K):=
  Aa (sa hsc 1 rfl rfl (fc Mo.f_law_draw CF hsc 3 rfl (sl rfl (sv hsc 0 rfl) (sl rfl Ae .nil)) hh (C0 K Mo)))
  (Aa (AJ (cm rfl (sv hsc 1 rfl) Ae) (Ad (An (it hh ss (sv hsc 1 rfl)))) Ay)
  (Aa (sa hsc 2 rfl rfl (fc Mo.f_law_draw CF hsc 3 rfl (sl rfl (sv hsc 0 rfl) (sl rfl Ae .nil)) hh (C0 K Mo)))
  (Ad (An (cb hsc 4 rfl (sl rfl (Bk (cm rfl (sv hsc 2 rfl) Ae) (sv hsc 2 rfl) (As (sv hsc 2 rfl) Ae)) .nil) (KF))))))
def Dd (K:Nat):M PFlow:=
  ((ac (af 1) λa=>ac (ae (.int 1)) λb=>ac (Cf .Add a b) λc=>ac (aj 1 c) λU=>ae .next))
def CR (K:Nat):M PFlow:=
  (ak (aD (EN "IndexError" ((ae .next))) ((ay ((ac ((ac (af 0) λx1=>ac (af 1) λx2=>Ap false x1 x2)) λx3=>ac (af 2) λx4=>ac (Aq .In x3 x4) tst)) (Dd K) K)))
  (ac (af 1) λa=>ae (.ret a)))
theorem JK (K:Nat){W:Wd}(Mo:Mod W){fm:Fm}(hsc:fm.sc=BQ.sc)(hen:fm.env.scope=BQ.scope)(hh:fm.hdl=none):SimS W 0 fm BQ.body (CR K):=
  Aa (KM E1 (scm hsc 3 rfl) (by decide +kernel) (by decide +kernel) (by decide +kernel) (by kernel_rfl) (Ad (Cj (cm rfl (it hh (sv hsc 0 rfl) (sv hsc 1 rfl)) (sv hsc 2 rfl)) (Ad (sg hsc 1 rfl Ae)) K)) (λy=>have hsc:(fm.mark y).sc=_:=hsc;Ad (Ov)))
  (Ad (An (sv hsc 1 rfl)))
def De (K:Nat):M PFlow:=
  ((ac (af 1) λa=>ac (ae (.int 1)) λb=>ac (Cf .Add a b) λc=>ac (aj 1 c) λU=>ae .next))
def A4 (K:Nat):M PFlow:=
  (ak (aD (EN "ValueError" (ak (ac ((ac (ah [af 0]) Bp)) λx3=>ac (aj 5 x3) λU=>ae .next) (ac ((ac (af 4) tst)) λc=>if c then (ac ((ac (ah [af 0,af 5,(aB [ae (.str [69,120,112,101,99,116,101,100,32]),(ac (af 2) Hf)] [])]) (aC (EJ BM)))) λt=>aK (.toml t)) else ae .next))) ((ac ((ac (af 0) λx1=>am (B7 x1) (ac (ah [af 2,af 1]) (E5 false x1)))) λx2=>ac (aj 5 x2) λU=>ae .next)))
  (ak (ac ((ac ((ac ((ac (af 3) λa=>am (IR a) (ac (ah [(ac (af 0) λb=>ac (AP (some (af 1))) λd=>ac (AP (some (af 5))) λe=>A2 d e b)]) (OH a)))) tst)) λc=>ae !c)) λc=>if c then (ak (ay ((ac ((ac (af 0) λa=>ac (af 1) λb=>Ap false a b)) λa=>ac (af 3) λb=>ac (Aq .NotIn a b) tst)) (De K) K)
  (ac ((ac (ah [af 0,af 1,(aB [ae (.str [70,111,117,110,100,32,105,110,118,97,108,105,100,32,99,104,97,114,97,99,116,101,114,32]),(ac ((ac (af 0) λa=>ac (af 1) λb=>Ap false a b)) Hf)] [])]) (aC (EJ BM)))) λt=>aK (.toml t))) else (ae .next))
  (ac (af 5) λa=>ae (.ret a))))
theorem JL (K:Nat){W:Wd}(Mo:Mod W){fm:Fm}(hsc:fm.sc=BR.sc)(hen:fm.env.scope=BR.scope)(hh:fm.hdl=none):SimS W 2 fm BR.body (A4 K):=
  Aa (F9 Mc (scm hsc 6 rfl) (by decide +kernel) (by decide +kernel) (by decide +kernel) (by kernel_rfl) (Ad (sa hsc 5 rfl rfl (me rfl rfl (sv hsc 0 rfl) (sl rfl (sv hsc 2 rfl) (sl rfl (sv hsc 1 rfl) .nil)) Mm Dp (OR hh)))) (λy=>have hsc:(fm.mark y).sc=_:=hsc;Me (sa hsc 5 rfl rfl (cb hsc 7 rfl (sl rfl (sv hsc 0 rfl) .nil) Ax)) (Qw (A9 (sv hsc 4 rfl) (Bq rfl)) (E3 (BI Mo (scm hsc 8 rfl) (sl rfl (sv hsc 0 rfl) (sl rfl (sv hsc 5 rfl) (sl rfl (DM (All2.cons ss (All2.cons (Hy (sv hsc 2 rfl)) (All2.nil)))) .nil))))))))
  (Aa (AJ (D7 (A9 (me rfl rfl (sv hsc 3 rfl) (sl rfl (AU (sv hsc 0 rfl) (SimO.some (sv hsc 1 rfl)) (SimO.some (sv hsc 5 rfl))) .nil) GG Np (Ij hh)) (Bq rfl))) (Aa (Cj (cm rfl (it hh (sv hsc 0 rfl) (sv hsc 1 rfl)) (sv hsc 3 rfl)) (Ad (sg hsc 1 rfl Ae)) K)
  (Ad (Cz hh (BI Mo (scm hsc 8 rfl) (sl rfl (sv hsc 0 rfl) (sl rfl (sv hsc 1 rfl) (sl rfl (DM (All2.cons ss (All2.cons (Hy (it hh (sv hsc 0 rfl) (sv hsc 1 rfl))) (All2.nil)))) .nil))))))) Ay)
  (Ad (An (sv hsc 5 rfl))))
def AE (K:Nat):M PFlow:=
  (ak (ac (af 1) λa=>ac (ae (.int 1)) λb=>ac (Cf .Add a b) λc=>ac (aj 1 c) λU=>ae .next)
  (ak (ac (af 1) λa=>ac (aj 2 a) λU=>ae .next)
  (ak (ac ((ac (ah [af 0,af 1,ae (.str [39])]) λa=>ac (ah [ae (.fset 0),ae (.bool true)]) λb=>ao (A4 K) (a++b))) λa=>ac (aj 1 a) λU=>ae .next)
  (ac ((ac (ah [(ac (af 1) λa=>ac (ae (.int 1)) λb=>AO .Add a b),(ac (af 0) λa=>ac (AP (some (af 2))) λb=>ac (AP (some (af 1))) λc=>A2 b c a)]) He)) λa=>ae (.ret a)))))
theorem EK (K:Nat){W:Wd}(Mo:Mod W){fm:Fm}(hsc:fm.sc=A0.sc)(hen:fm.env.scope=A0.scope)(hh:fm.hdl=none):SimS W 3 fm A0.body (AE K):=
  Aa (sg hsc 1 rfl Ae)
  (Aa (sa hsc 2 rfl rfl (sv hsc 1 rfl))
  (Aa (sa hsc 1 rfl rfl (ER Mo.f_skip_until Ir (scm hsc 3 rfl) (by decide +kernel) (sl rfl (sv hsc 0 rfl) (sl rfl (sv hsc 1 rfl) (sl rfl ss .nil))) (SimKw.cons (Ex Mo.s_ILLEGAL_LITERAL_STR_CHARS (scm hsc 4 rfl) (by decide +kernel)) (SimKw.cons Bw (SimKw.nil))) (λfm' hs he hd=>(JL K Mo hs he (hd.trans hh)).up (by decide))))
  (Ad (An (BZ (sl rfl (As (sv hsc 1 rfl) Ae) (sl rfl (AU (sv hsc 0 rfl) (SimO.some (sv hsc 2 rfl)) (SimO.some (sv hsc 1 rfl))) .nil)))))))
def AA (K:Nat):M PFlow:=
  (ac ((BC .Or [(ac (ae (.int 0)) λa=>ac (af 0) λb=>Ga .LtE .LtE a b (ae (.int 55295))),(ac (ae (.int 57344)) λa=>ac (af 0) λb=>Ga .LtE .LtE a b (ae (.int 1114111)))])) λa=>ae (.ret a))
theorem C9 (K:Nat){W:Wd}(Mo:Mod W){fm:Fm}(hsc:fm.sc=AL.sc)(hen:fm.env.scope=AL.scope)(hh:fm.hdl=none):SimS W 0 fm AL.body (AA K):=
  Ad (An (CW (All2.cons (IQ Ae (sv hsc 0 rfl) Ae (JG rfl)) (All2.cons (IQ Ae (sv hsc 0 rfl) Ae (JG rfl)) (All2.nil)))))
def Av (K:Nat):M PFlow:=
  (ak (ac ((ac (af 0) λa=>ac (AP (some (af 1))) λb=>ac (AP (some ((ac (af 1) λc=>ac (af 2) λd=>AO .Add c d)))) λc=>A2 b c a)) λa=>ac (aj 3 a) λU=>ae .next)
  (ak (ac ((AC .Or [(ac ((ac (ah [af 3]) Bp)) λa=>ac (af 2) λb=>ac (Aq .NotEq a b) tst),(ac ((ac ((ac (ae (.fset 4)) λa=>am (IR a) (ac (ah [af 3]) (OI a)))) tst)) λc=>ae !c)])) λc=>if c then (ac ((ac (ah [af 0,af 1,ae (.str [73,110,118,97,108,105,100,32,104,101,120,32,118,97,108,117,101])]) (aC (EJ BM)))) λt=>aK (.toml t)) else (ae .next))
  (ak (ac (af 1) λa=>ac (af 2) λb=>ac (Cf .Add a b) λc=>ac (aj 1 c) λU=>ae .next)
  (ak (ac ((ac (ah [af 3,ae (.int 16)]) Tp)) λa=>ac (aj 4 a) λU=>ae .next)
  (ak (ac ((ac ((ac ((ac (ah [af 4]) (ao (AA K)))) tst)) λc=>ae !c)) λc=>if c then (ac ((ac (ah [af 0,af 1,ae (.str [69,115,99,97,112,101,100,32,99,104,97,114,97,99,116,101,114,32,105,115,32,110,111,116,32,97,32,85,110,105,99,111,100,101,32,115,99,97,108,97,114,32,118,97,108,117,101])]) (aC (EJ BM)))) λt=>aK (.toml t)) else (ae .next))
  (ac ((ac (ah [af 1,(ac (ah [af 4]) On)]) He)) λa=>ae (.ret a)))))))
theorem Dt (K:Nat){W:Wd}(Mo:Mod W){fm:Fm}(hsc:fm.sc=Bh.sc)(hen:fm.env.scope=Bh.scope)(hh:fm.hdl=none):SimS W 2 fm Bh.body (Av K):=
  Aa (sa hsc 3 rfl rfl (AU (sv hsc 0 rfl) (SimO.some (sv hsc 1 rfl)) (SimO.some (As (sv hsc 1 rfl) (sv hsc 2 rfl)))))
  (Aa (AJ (AG (All2.cons (cm rfl (cb hsc 5 rfl (sl rfl (sv hsc 3 rfl) .nil) Ax) (sv hsc 2 rfl)) (All2.cons (D7 (A9 (me rfl rfl (Ex Mo.s_HEXDIGIT_CHARS (scm hsc 6 rfl) (by decide +kernel)) (sl rfl (sv hsc 3 rfl) .nil) GK Np (Ik hh)) (Bq rfl))) (All2.nil)))) (Ad (Cz hh (BI Mo (scm hsc 7 rfl) (sl rfl (sv hsc 0 rfl) (sl rfl (sv hsc 1 rfl) (sl rfl ss .nil)))))) Ay)
  (Aa (sg hsc 1 rfl (sv hsc 2 rfl))
  (Aa (sa hsc 4 rfl rfl (ct hsc 8 rfl (sl rfl (sv hsc 3 rfl) (sl rfl Ae .nil)) (Mq)))
  (Aa (AJ (D7 (A9 (fc Mo.f_is_unicode_scalar_value CZ hsc 9 rfl (sl rfl (sv hsc 4 rfl) .nil) hh (C9 K Mo)) (Bq rfl))) (Ad (Cz hh (BI Mo (scm hsc 7 rfl) (sl rfl (sv hsc 0 rfl) (sl rfl (sv hsc 1 rfl) (sl rfl ss .nil)))))) Ay)
  (Ad (An (BZ (sl rfl (sv hsc 1 rfl) (sl rfl (cb hsc 10 rfl (sl rfl (sv hsc 4 rfl) .nil) (KF)) .nil)))))))))
def Ar (K:Nat):M PFlow:=
  (ak (ac ((ac (af 0) λa=>ac (AP (some (af 1))) λb=>ac (AP (some ((ac (af 1) λc=>ac (ae (.int 2)) λd=>AO .Add c d)))) λc=>A2 b c a)) λa=>ac (aj 3 a) λU=>ae .next)
  (ak (ac (af 1) λa=>ac (ae (.int 2)) λb=>ac (Cf .Add a b) λc=>ac (aj 1 c) λU=>ae .next)
  (ak (ac ((AC .And [(ac (af 2) tst),ar])) λc=>if c then ar else (ae .next))
  (ak (ac ((ac (af 3) λa=>ac (ae (.str [92,117])) λb=>ac (Aq .Eq a b) tst)) λc=>if c then (ac ((ac (ah [af 0,af 1,ae (.int 4)]) (ao (Av K)))) λa=>ae (.ret a)) else (ae .next))
  (ak (ac ((ac (af 3) λa=>ac (ae (.str [92,85])) λb=>ac (Aq .Eq a b) tst)) λc=>if c then (ac ((ac (ah [af 0,af 1,ae (.int 8)]) (ao (Av K)))) λa=>ae (.ret a)) else (ae .next))
  (aD (EN "KeyError" (ac ((ac (ah [af 0,af 1,ae (.str [85,110,101,115,99,97,112,101,100,32,39,92,39,32,105,110,32,97,32,115,116,114,105,110,103])]) (aC (EJ BM)))) λt=>aK (.toml t))) ((ac ((ac (ah [af 1,(ac (ae .mp) λx16=>ac (af 3) λx17=>Ap false x16 x17)]) He)) λx18=>ae (.ret x18)))))))))
theorem Dj (K:Nat){W:Wd}(Mo:Mod W){fm:Fm}(hsc:fm.sc=Az.sc)(hen:fm.env.scope=Az.scope)(hh:fm.hdl=none):SimS W 3 fm Az.body (Ar K):=
  Aa (sa hsc 3 rfl rfl (AU (sv hsc 0 rfl) (SimO.some (sv hsc 1 rfl)) (SimO.some (As (sv hsc 1 rfl) Ae))))
  (Aa (sg hsc 1 rfl Ae)
  (Aa (AJ (AG (All2.cons (A9 (sv hsc 2 rfl) (Bq rfl)) (All2.cons (Ms) (All2.nil)))) Mu Ay)
  (Aa (AJ (cm rfl (sv hsc 3 rfl) ss) (Ad (An (fc Mo.f_parse_hex_char Db hsc 10 rfl (sl rfl (sv hsc 0 rfl) (sl rfl (sv hsc 1 rfl) (sl rfl Ae .nil))) hh (Dt K Mo)))) Ay)
  (Aa (AJ (cm rfl (sv hsc 3 rfl) ss) (Ad (An (fc Mo.f_parse_hex_char Db hsc 10 rfl (sl rfl (sv hsc 0 rfl) (sl rfl (sv hsc 1 rfl) (sl rfl Ae .nil))) hh (Dt K Mo)))) Ay)
  (Ad (F9 Qu (scm hsc 12 rfl) (by decide +kernel) (by decide +kernel) (by decide +kernel) (by kernel_rfl) (Ad (An (BZ (sl rfl (sv hsc 1 rfl) (sl rfl (it hh (Tt Mo.mp (scm hsc 11 rfl) (by decide +kernel)) (sv hsc 3 rfl)) .nil))))) (λy=>have hsc:(fm.mark y).sc=_:=hsc;E3 (BI Mo (scm hsc 8 rfl) (sl rfl (sv hsc 0 rfl) (sl rfl (sv hsc 1 rfl) (sl rfl ss .nil)))))))))))
def Vc (K:Nat):Nat->Option (M PFlow × List PV)
 | 0=>some (Ar K,[.bool false])
 | _=>none
theorem Tx (K:Nat){W:Wd}{n:Nat}(Mo:Mod W){fm:Fm}(hh:fm.hdl=none):∀ k m ext,Vc K k=some (m,ext)->∃ fd fi extv,FnAt W.h₀ (W.H.fnv k) fd fi/\fi.Ok/\EO W fd fi 2 [] extv/\(∀ av V h,RepL W.H W.h₀ av V h ext extv)/\∀ fm':Fm,fm'.sc=fi.sc->fm'.env.scope=fi.scope->fm'.hdl=fm.hdl->SimS W (n+3) fm' fi.body m:=by
 intro k m ext h
 obtain ⟨fd,a,b⟩:=Mo.c_parse_basic_str_escape
 cases k with
 | succ=>injection h
 | zero=>
  cases h
  exact ⟨fd,_,_,a,C8,b,λU U U=>.cons (.bool false) .nil,λfm' hs he hd=>(Dj K Mo hs he (hd.trans hh)).up (by exact la [_] [] ([7],[2,7,0]) rfl)⟩
def Aj (K:Nat):M PFlow:=
  ((ak (aD (EN "IndexError" (ac ((ac (ah [af 0,af 1,ae (.str [85,110,116,101,114,109,105,110,97,116,101,100,32,115,116,114,105,110,103])]) (aC (EJ BM)))) λt=>aK (.toml t))) ((ac ((ac (af 0) λx7=>ac (af 1) λx8=>Ap false x7 x8)) λx9=>ac (aj 7 x9) λU=>ae .next)))
  (ak (ac ((ac (af 7) λa=>ac (ae (.str [34])) λb=>ac (Aq .Eq a b) tst)) λc=>if c then (ak (ac ((ac ((ac (af 2) tst)) λc=>ae !c)) λc=>if c then (ac ((ac (ah [(ac (af 1) λa=>ac (ae (.int 1)) λb=>AO .Add a b),(ac (af 5) λa=>ac ((ac (af 0) λb=>ac (AP (some (af 6))) λd=>ac (AP (some (af 1))) λe=>A2 d e b)) λb=>AO .Add a b)]) He)) λa=>ae (.ret a)) else (ae .next))
  (ak ar
  (ak (ac (af 1) λa=>ac (ae (.int 1)) λb=>ac (Cf .Add a b) λc=>ac (aj 1 c) λU=>ae .next)
  (ae .cont)))) else (ae .next))
  (ak (ac ((ac (af 7) λa=>ac (ae (.str [92])) λb=>ac (Aq .Eq a b) tst)) λc=>if c then (ak (ac (af 5) λa=>ac ((ac (af 0) λb=>ac (AP (some (af 6))) λd=>ac (AP (some (af 1))) λe=>A2 d e b)) λb=>ac (Cf .Add a b) λd=>ac (aj 5 d) λU=>ae .next)
  (ak (ac ((ac (af 4) (aM (Vc K) [af 0,af 1]))) λa=>ac (aH [aj 1,aj 8] a) λU=>ae .next)
  (ak (ac (af 5) λa=>ac (af 8) λb=>ac (Cf .Add a b) λc=>ac (aj 5 c) λU=>ae .next)
  (ak (ac (af 1) λa=>ac (aj 6 a) λU=>ae .next)
  (ae .cont))))) else (ae .next))
  (ak (ac ((ac (af 7) λa=>ac (af 3) λb=>ac (Aq .In a b) tst)) λc=>if c then (ac ((ac (ah [af 0,af 1,(aB [ae (.str [73,108,108,101,103,97,108,32,99,104,97,114,97,99,116,101,114,32]),(ac (af 7) Hf)] [])]) (aC (EJ BM)))) λt=>aK (.toml t)) else (ae .next))
  (ac (af 1) λa=>ac (ae (.int 1)) λb=>ac (Cf .Add a b) λc=>ac (aj 1 c) λU=>ae .next))))))
def BD (K:Nat):M PFlow:=
  (ak (ac ((ac (af 2) tst)) λc=>if c then (ak (ac (ae (.fset 1)) λa=>ac (aj 3 a) λU=>ae .next)
  (ac (ae (.fn 1)) λa=>ac (aj 4 a) λU=>ae .next)) else (ak (ac (ae (.fset 0)) λa=>ac (aj 3 a) λU=>ae .next)
  (ac (ae (.fn 0)) λa=>ac (aj 4 a) λU=>ae .next)))
  (ak (ac (ae (.str [])) λa=>ac (aj 5 a) λU=>ae .next)
  (ak (ac (af 1) λa=>ac (aj 6 a) λU=>ae .next)
  (ay ((ac (ae (.bool true)) tst)) (Aj K) K))))
theorem FJ (K:Nat){W:Wd}(Mo:Mod W){fm:Fm}(hsc:fm.sc=Bb.sc)(hen:fm.env.scope=Bb.scope)(hh:fm.hdl=none):SimS W 4 fm Bb.body (BD K):=
  Aa (AJ (A9 (sv hsc 2 rfl) (Bq rfl)) (Aa (sa hsc 3 rfl rfl (Ex Mo.s_ILLEGAL_MULTILINE_BASIC_STR_CHARS (scm hsc 9 rfl) (by decide +kernel)))
  (Ad (sa hsc 4 rfl rfl (Nv Mo.v_parse_basic_str_escape_multiline (scm hsc 10 rfl) (by decide +kernel))))) (Aa (sa hsc 3 rfl rfl (Ex Mo.s_ILLEGAL_BASIC_STR_CHARS (scm hsc 11 rfl) (by decide +kernel)))
  (Ad (sa hsc 4 rfl rfl (Nv Mo.v_parse_basic_str_escape (scm hsc 12 rfl) (by decide +kernel))))))
  (Aa (sa hsc 5 rfl rfl ss)
  (Aa (sa hsc 6 rfl rfl (sv hsc 1 rfl))
  (Ad (Cj (A9 Bw (Bq rfl)) (Aa (F9 E1 (scm hsc 13 rfl) (by decide +kernel) (by decide +kernel) (by decide +kernel) (by kernel_rfl) (Ad (sa hsc 7 rfl rfl (it hh (sv hsc 0 rfl) (sv hsc 1 rfl)))) (λy=>have hsc:(fm.mark y).sc=_:=hsc;E3 (BI Mo (scm hsc 14 rfl) (sl rfl (sv hsc 0 rfl) (sl rfl (sv hsc 1 rfl) (sl rfl ss .nil))))))
  (Aa (AJ (cm rfl (sv hsc 7 rfl) ss) (Aa (AJ (D7 (A9 (sv hsc 2 rfl) (Bq rfl))) (Ad (An (BZ (sl rfl (As (sv hsc 1 rfl) Ae) (sl rfl (As (sv hsc 5 rfl) (AU (sv hsc 0 rfl) (SimO.some (sv hsc 6 rfl)) (SimO.some (sv hsc 1 rfl)))) .nil))))) Ay)
  (Aa (Mt)
  (Aa (sg hsc 1 rfl Ae)
  (Ad II)))) Ay)
  (Aa (AJ (cm rfl (sv hsc 7 rfl) ss) (Aa (sg hsc 5 rfl (AU (sv hsc 0 rfl) (SimO.some (sv hsc 6 rfl)) (SimO.some (sv hsc 1 rfl))))
  (Aa (Ea hh (gs rfl (gn hsc 1 rfl rfl) (gs rfl (gn hsc 8 rfl rfl) .nil)) (OQ (scm hsc 4 rfl) (Or.inl rfl) (by decide +kernel) (by decide +kernel) (sl rfl (sv hsc 0 rfl) (sl rfl (sv hsc 1 rfl) .nil)) (Tx K Mo hh)) (JE rfl) (JF rfl))
  (Aa (sg hsc 5 rfl (sv hsc 8 rfl))
  (Aa (sa hsc 6 rfl rfl (sv hsc 1 rfl))
  (Ad II))))) Ay)
  (Aa (AJ (cm rfl (sv hsc 7 rfl) (sv hsc 3 rfl)) (Ad (Cz hh (BI Mo (scm hsc 14 rfl) (sl rfl (sv hsc 0 rfl) (sl rfl (sv hsc 1 rfl) (sl rfl (DM (All2.cons ss (All2.cons (Hy (sv hsc 7 rfl)) (All2.nil)))) .nil)))))) Ay)
  (Ad (sg hsc 1 rfl Ae)))))) K))))
def Ak (K:Nat):M PFlow:=
  (ak (ac (af 1) λa=>ac (ae (.int 1)) λb=>ac (Cf .Add a b) λc=>ac (aj 1 c) λU=>ae .next)
  (ac ((ac (ah [af 0,af 1]) λa=>ac (ah [ae (.bool false)]) λb=>ao (BD K) (a++b))) λa=>ae (.ret a)))
theorem C2 (K:Nat){W:Wd}(Mo:Mod W){fm:Fm}(hsc:fm.sc=AF.sc)(hen:fm.env.scope=AF.scope)(hh:fm.hdl=none):SimS W 5 fm AF.body (Ak K):=
  Aa (sg hsc 1 rfl Ae)
  (Ad (An (ER Mo.f_parse_basic_str E8 (scm hsc 2 rfl) (by decide +kernel) (sl rfl (sv hsc 0 rfl) (sl rfl (sv hsc 1 rfl) .nil)) (SimKw.cons Bw (SimKw.nil)) (λfm' hs he hd=>(FJ K Mo hs he (hd.trans hh)).up (by decide)))))
def Ai (K:Nat):M PFlow:=
  (ak (aD (EN "IndexError" ((ac (ae .none) λx4=>ac (aj 2 x4) λU=>ae .next))) ((ac ((ac (af 0) λx1=>ac (af 1) λx2=>Ap false x1 x2)) λx3=>ac (aj 2 x3) λU=>ae .next)))
  (ak (ac ((ac (af 2) λa=>ac (ae (.fset 5)) λb=>ac (inF a b) tst)) λc=>if c then (ak (ac (af 1) λa=>ac (aj 3 a) λU=>ae .next)
  (ak (ac ((ac (ah [af 0,af 1,ae (.fset 5)]) (ao (CR K)))) λa=>ac (aj 1 a) λU=>ae .next)
  (ac ((ac (ah [af 1,(ac (af 0) λa=>ac (AP (some (af 3))) λb=>ac (AP (some (af 1))) λc=>A2 b c a)]) He)) λa=>ae (.ret a)))) else (ae .next))
  (ak (ac ((ac (af 2) λa=>ac (ae (.str [39])) λb=>ac (Aq .Eq a b) tst)) λc=>if c then (ac ((ac (ah [af 0,af 1]) (ao (AE K)))) λa=>ae (.ret a)) else (ae .next))
  (ak (ac ((ac (af 2) λa=>ac (ae (.str [34])) λb=>ac (Aq .Eq a b) tst)) λc=>if c then (ac ((ac (ah [af 0,af 1]) (ao (Ak K)))) λa=>ae (.ret a)) else (ae .next))
  (ac ((ac (ah [af 0,af 1,ae (.str [73,110,118,97,108,105,100,32,105,110,105,116,105,97,108,32,99,104,97,114,97,99,116,101,114,32,102,111,114,32,97,32,107,101,121,32,112,97,114,116])]) (aC (EJ BM)))) λt=>aK (.toml t))))))
theorem Du (K:Nat){W:Wd}(Mo:Mod W){fm:Fm}(hsc:fm.sc=Bi.sc)(hen:fm.env.scope=Bi.scope)(hh:fm.hdl=none):SimS W 6 fm Bi.body (Ai K):=
  Aa (KM E1 (scm hsc 4 rfl) (by decide +kernel) (by decide +kernel) (by decide +kernel) (by kernel_rfl) (Ad (sa hsc 2 rfl rfl (it hh (sv hsc 0 rfl) (sv hsc 1 rfl)))) (λy=>have hsc:(fm.mark y).sc=_:=hsc;Ad (sa hsc 2 rfl rfl (D6))))
  (Aa (AJ (cmF rfl (sv hsc 2 rfl) (Ex Mo.s_BARE_KEY_CHARS (scm hsc 5 rfl) (by decide +kernel))) (Aa (sa hsc 3 rfl rfl (sv hsc 1 rfl))
  (Aa (sa hsc 1 rfl rfl (fc Mo.f_skip_chars Iq hsc 6 rfl (sl rfl (sv hsc 0 rfl) (sl rfl (sv hsc 1 rfl) (sl rfl (Ex Mo.s_BARE_KEY_CHARS (scm hsc 5 rfl) (by decide +kernel)) .nil))) hh (JK K Mo)))
  (Ad (An (BZ (sl rfl (sv hsc 1 rfl) (sl rfl (AU (sv hsc 0 rfl) (SimO.some (sv hsc 3 rfl)) (SimO.some (sv hsc 1 rfl))) .nil))))))) Ay)
  (Aa (AJ (cm rfl (sv hsc 2 rfl) ss) (Ad (An (fc Mo.f_parse_literal_str Eg hsc 7 rfl (sl rfl (sv hsc 0 rfl) (sl rfl (sv hsc 1 rfl) .nil)) hh (EK K Mo)))) Ay)
  (Aa (AJ (cm rfl (sv hsc 2 rfl) ss) (Ad (An (fc Mo.f_parse_one_line_basic_str CQ hsc 8 rfl (sl rfl (sv hsc 0 rfl) (sl rfl (sv hsc 1 rfl) .nil)) hh (C2 K Mo)))) Ay)
  (Ad (Cz hh (BI Mo (scm hsc 9 rfl) (sl rfl (sv hsc 0 rfl) (sl rfl (sv hsc 1 rfl) (sl rfl ss .nil)))))))))
def Gh:List (Str × NameKind × Nat):=[(("way":Str),.local,11),(("sign":Str),.free,3),(("_law_unit":Str),.globalImplicit,12)]
def Gi:List (Str × NameKind × Nat):=[(("unit":Str),.local,13),(("raw":Str),.free,0),(("pos":Str),.free,2),(("len":Str),.globalImplicit,14)]
def Ca (K:Nat):M PFlow:=
  ((ak (ac ((ac (ac (ah [ae (.int 4)]) B3) λa=>aF [11] (az a (aj 11) (AC .And []) ((ac (ah [af 3,af 11]) (ao (Cn K)))) K 0 []))) λa=>ac (aj 4 a) λU=>ae .next)
  (ak (ac ((ac (ac (af 4) EM) λa=>aF [13] (az a (aj 13) (AC .And [(AC .And [(ac ((ac ((ac (af 0) λb=>ac (AP (some (af 2))) λc=>ac (AP (some ((ac (af 2) λd=>ac (ae (.int 2)) λe=>AO .Add d e)))) λd=>A2 c d b)) λb=>ac (AP none) λc=>ac (AP (some ((ac (ah [af 13]) Bp)))) λd=>A2 c d b)) λb=>ac ((ac (af 13) λc=>ac (AP none) λd=>ac (AP (some (ae (.int 2)))) λe=>A2 d e c)) λc=>ac (Aq .Eq b c) tst),(ac ((ac ((ac (af 0) λb=>ac (AP (some ((ac (af 2) λc=>ac (ae (.int 2)) λd=>AO .Add c d)))) λc=>ac (AP (some ((ac (af 2) λd=>ac ((ac (ah [af 13]) Bp)) λe=>AO .Add d e)))) λd=>A2 c d b)) λb=>am (B7 b) (ac (ah []) (HK b)))) λb=>ac ((ac ((ac (af 13) λc=>ac (AP (some (ae (.int 2)))) λd=>ac (AP none) λe=>A2 d e c)) λc=>am (B7 c) (ac (ah []) (HK c)))) λc=>ac (Aq .Eq b c) tst)])]) (af 13) K 0 []))) λa=>ac (aj 5 a) λU=>ae .next)
  (ak (ac ((AC .Or [(ac (af 5) λa=>ac ((ac (ah []) au)) λb=>ac (eqL a b) tst),(ac (ae (.int 55295)) λa=>ac ((ac (ah [af 3]) Oo)) λb=>HJ .Lt .Lt a b (ae (.int 57344)))])) λc=>if c then (ac (ae (.bool false)) λa=>ae (.ret a)) else (ae .next))
  (ac (af 2) λa=>ac ((ac (ah [(ac (af 5) λb=>ac (ae (.int 0)) λc=>Ap false b c)]) Bp)) λb=>ac (Cf .Add a b) λc=>ac (aj 2 c) λU=>ae .next)))))
def Cb (K:Nat):M PFlow:=
  (ak (ac ((AC .Or [(ac (af 0) λa=>ac (af 1) λb=>ac (Aq .Eq a b) tst),(ac (af 0) λa=>ac ((ac ((ac (ae (.str [39])) λb=>ac (af 1) λd=>AO .Add b d)) λb=>ac (ae (.str [39])) λd=>AO .Add b d)) λb=>ac (Aq .Eq a b) tst)])) λc=>if c then (ac ((BC .Or [(ac (ah [af 1]) (ao (AZ K))),(BC .And [(ac (af 0) λa=>ac (af 1) λb=>Aq .NotEq a b),(ac ((ac (ah [af 1,ae (.int 0),ae (.str [])]) (ao (Bs K)))) λa=>ac (af 0) λb=>Aq .Eq a b)])])) λa=>ae (.ret a)) else (ae .next))
  (ak (ac (ae (.int 1)) λa=>ac (aj 2 a) λU=>ae .next)
  (ak (ac (ac (af 1) EM) λa=>aE a (aj 3) (Ca K) K 0)
  (ac ((BC .And [(ac ((ac (af 0) λa=>ac (AP none) λb=>ac (AP (some (ae (.int 1)))) λc=>A2 b c a)) λa=>ac (ae (.str [34])) λb=>Aq .Eq a b),(ac ((ac (af 0) λa=>ac (AP (some (af 2))) λb=>ac (AP none) λc=>A2 b c a)) λa=>ac (ae (.str [34])) λb=>Aq .Eq a b)])) λa=>ae (.ret a)))))
theorem JM (K:Nat){W:Wd}(Mo:Mod W){fm:Fm}(hsc:fm.sc=BS.sc)(hen:fm.env.scope=BS.scope)(hh:fm.hdl=none):SimS W 1 fm BS.body (Cb K):=
  Aa (AJ (AG (All2.cons (cm rfl (sv hsc 0 rfl) (sv hsc 1 rfl)) (All2.cons (cm rfl (sv hsc 0 rfl) (As (As ss (sv hsc 1 rfl)) ss)) (All2.nil)))) (Ad (An (CW (All2.cons (fc Mo.f_law_is_bare B8 hsc 6 rfl (sl rfl (sv hsc 1 rfl) .nil) hh (Cs K Mo)) (All2.cons (CW (All2.cons (ce rfl (sv hsc 0 rfl) (sv hsc 1 rfl)) (All2.cons (ce rfl (fc Mo.f_law_marked Di hsc 7 rfl (sl rfl (sv hsc 1 rfl) (sl rfl Ae (sl rfl ss .nil))) hh (DR K Mo)) (sv hsc 0 rfl)) (All2.nil)))) (All2.nil)))))) Ay)
  (Aa (sa hsc 2 rfl rfl Ae)
  (Aa (B6 hh (Cy (sv hsc 1 rfl)) (gn hsc 3 rfl rfl) (Aa (FG (scm hsc 4 rfl) (Or.inl rfl) (Cm (sc:=Gh) hh (Ci.of (by rw [hsc];decide +kernel)) (λfm' hsc hh=>gn hsc 0 rfl rfl) (Ck (scm hsc 8 rfl) (by decide +kernel) (by decide +kernel) (by decide +kernel) (by kernel_rfl) (sl rfl Ae .nil)) (λfm' hsc hh=>All2.nil) (λfm' hsc hh=>fc Mo.f_law_unit Ef hsc 2 rfl (sl rfl (sv hsc 1 rfl) (sl rfl (sv hsc 0 rfl) .nil)) hh (E9 K Mo)) (Br rfl) K))
  (Aa (FG (scm hsc 5 rfl) (Or.inl rfl) (Cm (sc:=Gi) hh (Ci.of (by rw [hsc];decide +kernel)) (λfm' hsc hh=>gn hsc 0 rfl rfl) (Cy (sv hsc 4 rfl)) (λfm' hsc hh=>All2.cons (AG (All2.cons (cm rfl (AU (AU (sv hsc 1 rfl) (SimO.some (sv hsc 2 rfl)) (SimO.some (As (sv hsc 2 rfl) Ae))) SimO.none (SimO.some (cb hsc 3 rfl (sl rfl (sv hsc 0 rfl) .nil) Ax))) (AU (sv hsc 0 rfl) SimO.none (SimO.some Ae))) (All2.cons (cm rfl (me rfl rfl (AU (sv hsc 1 rfl) (SimO.some (As (sv hsc 2 rfl) Ae)) (SimO.some (As (sv hsc 2 rfl) (cb hsc 3 rfl (sl rfl (sv hsc 0 rfl) .nil) Ax)))) .nil HL Dp (K0)) (me rfl rfl (AU (sv hsc 0 rfl) (SimO.some Ae) SimO.none) .nil HL Dp (K0))) (All2.nil)))) (All2.nil)) (λfm' hsc hh=>sv hsc 0 rfl) (Br rfl) K))
  (Aa (AJ (AG (All2.cons (cmE rfl (sv hsc 5 rfl) (B4 .nil)) (All2.cons (Mx Ae (cb hsc 9 rfl (sl rfl (sv hsc 3 rfl) .nil) (Fy)) Ae (JG rfl)) (All2.nil)))) (Ad (An Bw)) Ay)
  (Ad (sg hsc 2 rfl (cb hsc 10 rfl (sl rfl (it hh (sv hsc 5 rfl) Ae) .nil) Ax)))))) (Br rfl) K)
  (Ad (An (CW (All2.cons (ce rfl (AU (sv hsc 0 rfl) SimO.none (SimO.some Ae)) ss) (All2.cons (ce rfl (AU (sv hsc 0 rfl) (SimO.some (sv hsc 2 rfl)) SimO.none) ss) (All2.nil))))))))
def OX:List (Str × NameKind × Nat):=[(("x":Str),.local,31)]
def Fc (K:Nat):M PFlow:=
  ((ak (ac ((ac (ah [af 4]) (ao (C1 K)))) λa=>ac (aj 10 a) λU=>ae .next)
  (ak (ac (af 7) λa=>ac (af 10) λb=>ac (Cf .Add a b) λc=>ac (aj 7 c) λU=>ae .next)
  (ac (af 8) λa=>ac ((ac (ah [af 10,(ac (ah [af 4,ae (.int 4)]) (ao (BJ K)))]) (ao (Cn K)))) λb=>ac (Cf .Add a b) λc=>ac (aj 8 c) λU=>ae .next))))
def DS (K:Nat):M PFlow:=
  ((ak (ac ((ac (ah [af 4,ae (.int 4)]) (ao (BJ K)))) λa=>ac (aj 6 a) λU=>ae .next)
  (ak (ac ((ac (af 6) λa=>ac (ae (.int 3)) λb=>ac (Aq .Eq a b) tst)) λc=>if c then (ac (af 1) λa=>ac ((ac (ah [af 4]) (ao (C1 K)))) λb=>ac (Cf .Add a b) λd=>ac (aj 1 d) λU=>ae .next) else (ak (ac (ae (.str [])) λa=>ac (aj 7 a) λU=>ae .next)
  (ak (ac (ae (.str [])) λa=>ac (aj 8 a) λU=>ae .next)
  (ak (ac (ac (ah [(ac ((ac ((ac (ah [af 4,ae (.int 4)]) (ao (BJ K)))) λa=>ac (ae (.int 1)) λb=>AO .Add a b)) λa=>ac (ae (.int 4)) λb=>AO .Mod a b)]) B3) λa=>aE a (aj 9) (Fc K) K 0)
  (ak (ac ((BC .And [(ac (af 6) λa=>ac (ae (.int 0)) λb=>Aq .Eq a b),(ac (ah [af 7]) (ao (AZ K)))])) λa=>ac (aj 11 a) λU=>ae .next)
  (ak (ac ((ac ((ac (af 11) tst)) λc=>if c then af 7 else (ac (ah [af 7,af 6,af 8]) (ao (Bs K))))) λa=>ac (aj 12 a) λU=>ae .next)
  (ak (ac ((ac (af 2) λa=>am (DN a) (ac (ah [(ac (ah [(ac (ah [af 1]) Bp),(ac ((ac (ah [af 1]) Bp)) λb=>ac ((ac (ah [af 12]) Bp)) λc=>AO .Add b c),af 7,af 11]) He)]) (CP a)))) λU=>ae .next)
  (ac (af 1) λa=>ac (af 12) λb=>ac (Cf .Add a b) λc=>ac (aj 1 c) λU=>ae .next))))))))
  (ac ((ac ((ac (af 4) λa=>ac (ae (.int 0)) λb=>Ap false a b)) λa=>ac (ae (.int 0)) λb=>Aq .Gt a b)) λa=>ac (aj 5 a) λU=>ae .next))))
def Fd (K:Nat):M PFlow:=
  ((ak (ac ((ac (ah [af 3]) au)) λa=>ac (aj 4 a) λU=>ae .next)
  (ak (ac (ae (.bool true)) λa=>ac (aj 5 a) λU=>ae .next)
  (ay ((AC .And [(ac (af 5) tst),(ac ((ac (ah [af 1]) Bp)) λa=>ac (ae (.int 90)) λb=>ac (Aq .Lt a b) tst)])) (DS K) K))))
def Fe (K:Nat):M PFlow:=
  ((aD (LQ λU=>(ac ((ac (af 13) λa=>am (DN a) (ac (ah [ae .none]) (CP a)))) λU=>ae .next)) ((ac ((ac (af 13) λa=>am (DN a) (ac (ah [(ac (ah [af 1,af 14]) (ao (Ai K)))]) (CP a)))) λU=>ae .next))))
def Ff (K:Nat):M PFlow:=
  ((ac (af 15) λa=>ac (ae (.int 1)) λb=>ac (Cf .Add a b) λc=>ac (aj 15 c) λU=>ae .next))
def Fg (K:Nat):M PFlow:=
  ((ak (ay ((AC .And [(ac (af 11) tst),(ac (af 15) λa=>ac ((ac (ah [af 1]) Bp)) λb=>ac (Aq .Lt a b) tst),(ac ((ac (ah [(ac (af 1) λa=>ac (af 15) λb=>Ap false a b)]) (ao (AZ K)))) tst)])) (Ff K) K)
  (ac ((ac ((ac (af 13) λa=>ac (af 14) λb=>Ap false a b)) λa=>ac ((ac (ah [af 15,(ac ((ac (af 11) tst)) λc=>if c then (ac (af 1) λb=>ac (AP (some (af 14))) λd=>ac (AP (some (af 15))) λe=>A2 d e b) else af 7)]) He)) λb=>ac (Aq .NotEq a b) tst)) λc=>if c then (ac (ae (.bool false)) λa=>ae (.ret a)) else (ae .next))))
def Fh (K:Nat):M PFlow:=
  ((ak (ac ((ac (af 13) λa=>ac (af 17) λb=>Ap false a b)) λa=>ac (aH [aj 17,aj 7] a) λU=>ae .next)
  (ac ((ac (af 16) λa=>am (DN a) (ac (ah [af 7]) (CP a)))) λU=>ae .next)))
def Fj (K:Nat):M PFlow:=
  ((ak (aD (LQ λU=>(ac (ae (.bool false)) λa=>ae (.ret a))) ((ac ((ac (ah [af 18,af 17]) (ao (Ai K)))) λa=>ac (aH [aj 17,aj 7] a) λU=>ae .next)))
  (ac ((ac (af 19) λa=>am (DN a) (ac (ah [af 7]) (CP a)))) λU=>ae .next)))
def Fk (K:Nat):M PFlow:=
  ((ak (ac ((AC .And [(ac ((ac (af 13) λa=>ac (af 14) λb=>Ap false a b)) λa=>ac (ae .none) λb=>ac (Aq .IsNot a b) tst),(AC .Or [(ac ((ac ((ac (af 13) λa=>ac (af 14) λb=>Ap false a b)) λa=>ac (ae (.int 0)) λb=>Ap false a b)) λa=>ac ((ac (ah [af 1]) Bp)) λb=>ac (Aq .Gt a b) tst),(ac ((ac ((ac (ah [(ac (af 1) λa=>ac (AP (some (af 14))) λb=>ac (AP (some ((ac ((ac (af 13) λd=>ac (af 14) λe=>Ap false d e)) λd=>ac (ae (.int 0)) λe=>Ap false d e)))) λd=>A2 b d a),(ac ((ac (af 13) λa=>ac (af 14) λb=>Ap false a b)) λa=>ac (ae (.int 1)) λb=>Ap false a b)]) (ao (Cb K)))) tst)) λc=>ae !c)])])) λc=>if c then (ac (ae (.bool false)) λa=>ae (.ret a)) else (ae .next))
  (ak (ac ((ac (ah []) au)) λa=>ac (aj 16 a) λU=>ae .next)
  (ak (ac (af 14) λa=>ac (aj 17 a) λU=>ae .next)
  (ak (ay ((AC .And [(ac (af 17) λa=>ac ((ac (ah [af 1]) Bp)) λb=>ac (Aq .Lt a b) tst),(ac ((ac (af 13) λa=>ac (af 17) λb=>Ap false a b)) λa=>ac (ae .none) λb=>ac (Aq .IsNot a b) tst),(ac ((ac (ah [af 16]) Bp)) λa=>ac ((ac (ah [af 1]) Bp)) λb=>ac (Aq .Lt a b) tst)])) (Fh K) K)
  (ak (ac ((ac (ah [af 16]) (ao (B9 K)))) λa=>ac (aj 18 a) λU=>ae .next)
  (ak (ac ((ac ((ac (ah [af 18]) Bp)) λa=>ac ((ac (af 17) λb=>ac (af 14) λd=>AO .Sub b d)) λb=>ac (Aq .Gt a b) tst)) λc=>if c then (ac (ae (.bool false)) λa=>ae (.ret a)) else (ae .next))
  (ak (ac ((ac (ah []) au)) λa=>ac (aj 19 a) λU=>ae .next)
  (ak (ac (ae (.int 0)) λa=>ac (aj 17 a) λU=>ae .next)
  (ak (ac (ac (ah [(ac (ah [af 16]) Bp)]) B3) λa=>aE a (aj 9) (Fj K) K 0)
  (ac ((AC .Or [(ac (af 17) λa=>ac ((ac (ah [af 18]) Bp)) λb=>ac (Aq .NotEq a b) tst),(ac (af 19) λa=>ac (af 16) λb=>ac (neB a b) tst)])) λc=>if c then (ac (ae (.bool false)) λa=>ae (.ret a)) else (ae .next))))))))))))
def IW (K:Nat):M PFlow:=
  (ak (ac (ae (.str [])) λa=>ac (aj 1 a) λU=>ae .next)
  (ak (ac ((ac (ah []) au)) λa=>ac (aj 2 a) λU=>ae .next)
  (ak (ac (ac ((ac ((ac (ac (af 0) EM) λa=>aF [31] (az a (aj 31) (AC .And []) ((ac ((ac (af 31) λb=>ac (ae (.int 0)) λd=>ac (Aq .GtE b d) tst)) λc=>if c then (ac (ae (.int 2)) λb=>ac (af 31) λd=>AO .Mult b d) else (ac ((ac ((ac (ae (.int 2)) OC)) λb=>ac (af 31) λd=>AO .Mult b d)) λb=>ac (ae (.int 1)) λd=>AO .Sub b d))) K 0 []))) λa=>ac ((au [.int 45227,.int 16811009])) λb=>AO .Add a b)) EM) λa=>aE a (aj 3) (Fd K) K 0)
  (ak (ac ((ac (ah []) au)) λa=>ac (aj 13 a) λU=>ae .next)
  (ak (ac (ac (ah [(ac ((ac (ah [af 1]) Bp)) λa=>ac (ae (.int 1)) λb=>AO .Add a b)]) B3) λa=>aE a (aj 14) (Fe K) K 0)
  (ak (ac (ac (af 2) EM) λa=>aE a (aH [aj 14,aj 15,aj 7,aj 11]) (Fg K) K 0)
  (ak (ac ((ac ((ac (af 13) λa=>ac ((ac (ah [af 1]) Bp)) λb=>Ap false a b)) λa=>ac (ae .none) λb=>ac (Aq .IsNot a b) tst)) λc=>if c then (ac (ae (.bool false)) λa=>ae (.ret a)) else (ae .next))
  (ak (ac (ac (ah [(ac (ah [af 1]) Bp)]) B3) λa=>aE a (aj 14) (Fk K) K 0)
  (ac (ae (.bool true)) λa=>ae (.ret a))))))))))
theorem V0 (K:Nat){W:Wd}(Mo:Mod W){fm:Fm}(hsc:fm.sc=HO.sc)(hen:fm.env.scope=HO.scope)(hh:fm.hdl=none):SimS W 7 fm HO.body (IW K):=
  Aa (sa hsc 1 rfl rfl ss)
  (Aa (sa hsc 2 rfl rfl (B4 .nil))
  (Aa (B6 hh (Cy (As ((Cm (sc:=OX) hh (Ci.of (by rw [hsc];decide +kernel)) (λfm' hsc hh=>gn hsc 0 rfl rfl) (Cy (sv hsc 0 rfl)) (λfm' hsc hh=>All2.nil) (λfm' hsc hh=>Bk (cm rfl (sv hsc 0 rfl) Ae) (As Ae (sv hsc 0 rfl)) (As (As (Jy Ae) (sv hsc 0 rfl)) Ae)) (Br rfl) K).toE) (OS (by kernel_rfl)))) (gn hsc 3 rfl rfl) (Aa (sa hsc 4 rfl rfl (B4 (sl rfl (sv hsc 3 rfl) .nil)))
  (Aa (sa hsc 5 rfl rfl Bw)
  (Ad (Cj (AG (All2.cons (A9 (sv hsc 5 rfl) (Bq rfl)) (All2.cons (cm rfl (cb hsc 20 rfl (sl rfl (sv hsc 1 rfl) .nil) Ax) Ae) (All2.nil)))) (Aa (sa hsc 6 rfl rfl (fc Mo.f_law_draw CF hsc 21 rfl (sl rfl (sv hsc 4 rfl) (sl rfl Ae .nil)) hh (C0 K Mo)))
  (Aa (AJ (cm rfl (sv hsc 6 rfl) Ae) (Ad (sg hsc 1 rfl (fc Mo.f_law_sign Gz hsc 22 rfl (sl rfl (sv hsc 4 rfl) .nil) hh (HQ K Mo)))) (Aa (sa hsc 7 rfl rfl ss)
  (Aa (sa hsc 8 rfl rfl ss)
  (Aa (B6 hh (Ck (scm hsc 23 rfl) (by decide +kernel) (by decide +kernel) (by decide +kernel) (by kernel_rfl) (sl rfl (As (As (fc Mo.f_law_draw CF hsc 21 rfl (sl rfl (sv hsc 4 rfl) (sl rfl Ae .nil)) hh (C0 K Mo)) Ae) Ae) .nil)) (gn hsc 9 rfl rfl) (Aa (sa hsc 10 rfl rfl (fc Mo.f_law_sign Gz hsc 22 rfl (sl rfl (sv hsc 4 rfl) .nil) hh (HQ K Mo)))
  (Aa (sg hsc 7 rfl (sv hsc 10 rfl))
  (Ad (sg hsc 8 rfl (fc Mo.f_law_unit Ef hsc 24 rfl (sl rfl (sv hsc 10 rfl) (sl rfl (fc Mo.f_law_draw CF hsc 21 rfl (sl rfl (sv hsc 4 rfl) (sl rfl Ae .nil)) hh (C0 K Mo)) .nil)) hh (E9 K Mo)))))) (Br rfl) K)
  (Aa (sa hsc 11 rfl rfl (CW (All2.cons (ce rfl (sv hsc 6 rfl) Ae) (All2.cons (fc Mo.f_law_is_bare B8 hsc 25 rfl (sl rfl (sv hsc 7 rfl) .nil) hh (Cs K Mo)) (All2.nil)))))
  (Aa (sa hsc 12 rfl rfl (Bk (A9 (sv hsc 11 rfl) (Bq rfl)) (sv hsc 7 rfl) (fc Mo.f_law_marked Di hsc 26 rfl (sl rfl (sv hsc 7 rfl) (sl rfl (sv hsc 6 rfl) (sl rfl (sv hsc 8 rfl) .nil))) hh (DR K Mo))))
  (Aa (Do (me rfl rfl (sv hsc 2 rfl) (sl rfl (BZ (sl rfl (cb hsc 20 rfl (sl rfl (sv hsc 1 rfl) .nil) Ax) (sl rfl (As (cb hsc 20 rfl (sl rfl (sv hsc 1 rfl) .nil) Ax) (cb hsc 20 rfl (sl rfl (sv hsc 12 rfl) .nil) Ax)) (sl rfl (sv hsc 7 rfl) (sl rfl (sv hsc 11 rfl) .nil))))) .nil) CA Ec (Dq)) Ed (DQ rfl))
  (Ad (sg hsc 1 rfl (sv hsc 12 rfl))))))))))
  (Ad (sa hsc 5 rfl rfl (ce rfl (it hh (sv hsc 4 rfl) Ae) Ae))))) K)))) (Br rfl) K)
  (Aa (sa hsc 13 rfl rfl (B4 .nil))
  (Aa (B6 hh (Ck (scm hsc 23 rfl) (by decide +kernel) (by decide +kernel) (by decide +kernel) (by kernel_rfl) (sl rfl (As (cb hsc 20 rfl (sl rfl (sv hsc 1 rfl) .nil) Ax) Ae) .nil)) (gn hsc 14 rfl rfl) (Ad (FD (scm hsc 28 rfl) (Ad (Do (me rfl rfl (sv hsc 13 rfl) (sl rfl (fc Mo.f_parse_key_part Dc hsc 27 rfl (sl rfl (sv hsc 1 rfl) (sl rfl (sv hsc 14 rfl) .nil)) hh (Du K Mo)) .nil) CA Ec (Dq)) Ed (DQ rfl))) (λy=>have hsc:(fm.mark y).sc=_:=hsc;Ad (Do (me rfl rfl (sv hsc 13 rfl) (sl rfl (D6) .nil) CA Ec (Dq)) Ed (DQ rfl))))) (Br rfl) K)
  (Aa (B6 hh (Cy (sv hsc 2 rfl)) (Hs hh (gs rfl (gn hsc 14 rfl rfl) (gs rfl (gn hsc 15 rfl rfl) (gs rfl (gn hsc 7 rfl rfl) (gs rfl (gn hsc 11 rfl rfl) .nil))))) (Aa (Cj (AG (All2.cons (A9 (sv hsc 11 rfl) (Bq rfl)) (All2.cons (cm rfl (sv hsc 15 rfl) (cb hsc 20 rfl (sl rfl (sv hsc 1 rfl) .nil) Ax)) (All2.cons (A9 (fc Mo.f_law_is_bare B8 hsc 25 rfl (sl rfl (it hh (sv hsc 1 rfl) (sv hsc 15 rfl)) .nil) hh (Cs K Mo)) (Bq rfl)) (All2.nil))))) (Ad (sg hsc 15 rfl Ae)) K)
  (Ad (AJ (cm rfl (it hh (sv hsc 13 rfl) (sv hsc 14 rfl)) (BZ (sl rfl (sv hsc 15 rfl) (sl rfl (Bk (A9 (sv hsc 11 rfl) (Bq rfl)) (AU (sv hsc 1 rfl) (SimO.some (sv hsc 14 rfl)) (SimO.some (sv hsc 15 rfl))) (sv hsc 7 rfl)) .nil)))) (Ad (An Bw)) Ay))) (Br rfl) K)
  (Aa (AJ (cm rfl (it hh (sv hsc 13 rfl) (cb hsc 20 rfl (sl rfl (sv hsc 1 rfl) .nil) Ax)) (D6)) (Ad (An Bw)) Ay)
  (Aa (B6 hh (Ck (scm hsc 23 rfl) (by decide +kernel) (by decide +kernel) (by decide +kernel) (by kernel_rfl) (sl rfl (cb hsc 20 rfl (sl rfl (sv hsc 1 rfl) .nil) Ax) .nil)) (gn hsc 14 rfl rfl) (Aa (AJ (AG (All2.cons (cm rfl (it hh (sv hsc 13 rfl) (sv hsc 14 rfl)) (D6)) (All2.cons (AG (All2.cons (cm rfl (it hh (it hh (sv hsc 13 rfl) (sv hsc 14 rfl)) Ae) (cb hsc 20 rfl (sl rfl (sv hsc 1 rfl) .nil) Ax)) (All2.cons (D7 (A9 (fc Mo.f_law_spells Iu hsc 29 rfl (sl rfl (AU (sv hsc 1 rfl) (SimO.some (sv hsc 14 rfl)) (SimO.some (it hh (it hh (sv hsc 13 rfl) (sv hsc 14 rfl)) Ae))) (sl rfl (it hh (it hh (sv hsc 13 rfl) (sv hsc 14 rfl)) Ae) .nil)) hh (JM K Mo)) (Bq rfl))) (All2.nil)))) (All2.nil)))) (Ad (An Bw)) Ay)
  (Aa (sa hsc 16 rfl rfl (B4 .nil))
  (Aa (sa hsc 17 rfl rfl (sv hsc 14 rfl))
  (Aa (Cj (AG (All2.cons (cm rfl (sv hsc 17 rfl) (cb hsc 20 rfl (sl rfl (sv hsc 1 rfl) .nil) Ax)) (All2.cons (cm rfl (it hh (sv hsc 13 rfl) (sv hsc 17 rfl)) (D6)) (All2.cons (cm rfl (cb hsc 20 rfl (sl rfl (sv hsc 16 rfl) .nil) Ax) (cb hsc 20 rfl (sl rfl (sv hsc 1 rfl) .nil) Ax)) (All2.nil))))) (Aa (Ea hh (gs rfl (gn hsc 17 rfl rfl) (gs rfl (gn hsc 7 rfl rfl) .nil)) (it hh (sv hsc 13 rfl) (sv hsc 17 rfl)) (JE rfl) (JF rfl))
  (Ad (Do (me rfl rfl (sv hsc 16 rfl) (sl rfl (sv hsc 7 rfl) .nil) CA Ec (Dq)) Ed (DQ rfl)))) K)
  (Aa (sa hsc 18 rfl rfl (fc Mo.f_law_shortest GN hsc 30 rfl (sl rfl (sv hsc 16 rfl) .nil) hh (HP K Mo)))
  (Aa (AJ (cm rfl (cb hsc 20 rfl (sl rfl (sv hsc 18 rfl) .nil) Ax) (As (sv hsc 17 rfl) (sv hsc 14 rfl))) (Ad (An Bw)) Ay)
  (Aa (sa hsc 19 rfl rfl (B4 .nil))
  (Aa (sa hsc 17 rfl rfl Ae)
  (Aa (B6 hh (Ck (scm hsc 23 rfl) (by decide +kernel) (by decide +kernel) (by decide +kernel) (by kernel_rfl) (sl rfl (cb hsc 20 rfl (sl rfl (sv hsc 16 rfl) .nil) Ax) .nil)) (gn hsc 9 rfl rfl) (Aa (FD (scm hsc 28 rfl) (Ad (Ea hh (gs rfl (gn hsc 17 rfl rfl) (gs rfl (gn hsc 7 rfl rfl) .nil)) (fc Mo.f_parse_key_part Dc hsc 27 rfl (sl rfl (sv hsc 18 rfl) (sl rfl (sv hsc 17 rfl) .nil)) hh (Du K Mo)) (JE rfl) (JF rfl))) (λy=>have hsc:(fm.mark y).sc=_:=hsc;Ad (An Bw)))
  (Ad (Do (me rfl rfl (sv hsc 19 rfl) (sl rfl (sv hsc 7 rfl) .nil) CA Ec (Dq)) Ed (DQ rfl)))) (Br rfl) K)
  (Ad (AJ (AG (All2.cons (cm rfl (sv hsc 17 rfl) (cb hsc 20 rfl (sl rfl (sv hsc 18 rfl) .nil) Ax)) (All2.cons (cmL rfl (sv hsc 19 rfl) (sv hsc 16 rfl)) (All2.nil)))) (Ad (An Bw)) Ay))))))))))) (Br rfl) K)
  (Ad (An Bw)))))))))
end Mi
end
section
open PySem PySem.W PySem.Calls PyProof.Rows
open PySem.Sem (wp)
set_option maxRecDepth 10000
namespace Mh
theorem Uy {c:ClaimW}{W3 c0 s':Shared}{args:List WData}{vs:List Value}{as:List Addr}{r:Result}(hsame:c.same=none)(hwi:c.within=[])(hi:∀ a b,c.ident a b=true)
  (hrd:ReadsAllW c.records (classAt W3.heap) c0.heap vs args as) (hold:∀ a∈as,∃ o,c0.heap.get? a=some o) (i8:c0.os=W3.os)
  (g:GoodWG c (classAt W3.heap) (ExcName.means W3.heap) args { c0 with gens:=#[] } r s') (hg:s'.gens = #[]):c.Ends W3 args vs c0 r s'/\s'.os=W3.os/\s'.gens = #[]:=by
 obtain ⟨hcase,hK,hos,hg'⟩:=g
 refine ⟨?_,hos.trans i8,hg⟩
 rcases hcase with ⟨v,d,bs,rfl,hnr,hrv,hpost,hun⟩ | ⟨e,ob,cls,rfl,he,hcls,hpr,hnew⟩
 ·exact .inl ⟨v,rfl,hnr,⟨d,args,bs,as,hrv,hrd.keepsK λb o e hc=>hK.get_of_cls e hc,hpost,λhu=>⟨(hun hu).1,(hun hu).2,λa ha hb'=>by
   obtain ⟨o,ho⟩:=hold a hb'
   have:=(hun hu).2 a ha
   rw [show c0.heap.get? a=none from this] at ho;cases ho⟩,λU U=>hi _ _⟩,(λi hi'=>by rw [hsame] at hi';cases hi'),(λb o hb' U U=>hK.old b o hb'),λi hi'=>by rw [hwi] at hi';cases hi'⟩
 ·exact .inr ⟨e,ob,cls,rfl,he,hcls,hpr,hnew,λb o hb'=>hK.old b o hb'⟩
abbrev Q9 (q:Program)(loose:List Str)(XP:(Str->Option Value)->Heap->Prop)(YP:World->Heap->Prop)(r:RowW)(d:DefRec)(kwd:List (Str × Expr))(run:Value->List Value->Sem Value):Prop:=
 ∀ (w:World) (W3 c0:Shared) (mg mb:Str->Option Value),Ground q loose r.records XP w W3 mg mb c0.heap->YP w c0.heap->∀ (a:Addr) (o:Obj) (pm cd doc dV kV:Value),c0.heap.get? a=some o ->
  o.data = .func { docDef d.name d.params d.body d.scope pm cd doc with defaults:=dV,kwdefaults:=kV }->c0.heap.CodeRec cd d.name->Dflts mg c0.heap d.params kwd dV kV->mg d.name=some (.ref a)->c0.gens = #[] ->
  ∀ (args:List WData) (vals:List Value) (as:List Addr),r.claim.pre args=true->WData.layableAll args=true->ReadsAllW r.records (classAt W3.heap) c0.heap vals args as->WellAll w.params c0.heap vals args->(∀ a∈as,(a==sysModules)=false) ->
   wpAny (model r.prog w) callerA (run (.ref a) vals) (λv s'=>GoodWG r.claim (classAt W3.heap) (ExcName.means W3.heap) args c0 (.ok (.ret v)) s'/\s'.gens = #[])
    (λe s'=>GoodWG r.claim (classAt W3.heap) (ExcName.means W3.heap) args c0 (.error e) s'/\s'.gens = #[]) c0
theorem MC {V:Type}{r:OpenRow}{q:Program}{loose:List Str}{Yf:Shared->V}{Ya:World->V}{g:List (Addr × List Str)->Bool}{YP:World->Heap->Prop}{d:DefRec}{kwd:List (Str × Expr)}
  (left:∀ w,Na r.prog q loose Yf Ya g w) (hY:∀ w (S:SX),Inv w S->g S.gh=true->Yf S.sh.abs=Ya w->YP w S.sh.abs.heap) (hYk:∀ w h h',YP w h->(∀ b o,h.get? b=some o->h'.get? b=some o)->YP w h')
  (hdef:defOf q r.name=some (d,kwd)) (hp:r.prog.theDef r.name=some (d.params,d.body,d.scope)) (hk:kwWritten? d.params.kwonlyargs d.params.kw_defaults=some kwd) (hR:r.records=[]) (hw0:r.writes=false)
  (k1:r.wellSaid=true) (ok:(chainsOk q&&opensWell r.prog&&(frees r.toRowW&&r.within.isEmpty))=true) (hb:r.prog.bare) (hw:r.toRowW.promised)
  (call:Q9 q loose (λU U=>True) YP r.toRowW d kwd λf vs=>PySem.call f vs):r.Holds:=by
 obtain ⟨ok,k5⟩:=and_eq_true_iff.mp ok
 obtain ⟨hch,o1⟩:=and_eq_true_iff.mp ok
 obtain ⟨k5,k6⟩:=and_eq_true_iff.mp k5
 obtain ⟨hsame,hu,ha,hap,hm⟩:=frees_parts k5
 refine ⟨k1,hw,⟨hb,o1,by show r.makers.map _=[];rw [hm];rfl⟩,hw.witness,λw=>⟨(left w).1,λs' hs'=>?_⟩⟩
 obtain ⟨W3,hf,hg0,S,hI,hgh,hYf,hT,hz,hgens,hg,G00⟩:=(left w).2 s' hs'
 have RF:RecFacts r.records S.sh.abs.heap:=recFacts_nil hR
 have Y:=hY w S hI hgh hYf
 refine ⟨W3,hf,hg0,S.sh.abs,hT,λn hn=>?_,RF.1,RF.2.1,?_⟩
 ·obtain rfl:n=r.name:=by split at hn <;> simp_all
  exact pinned_of_view hg G00 hdef hp hk
 ·have G:Ground q loose r.records (λU U=>True) w S.sh.abs _ _ S.sh.abs.heap:=RF.ground G00
  refine ClaimW.callFrom_of_specN (c:=r.toRowW.claim) (tree:=λvs=>do match <- nsGet mainNs r.name with
   | some f=>do ret (<- PySem.call f vs)
   | none=>unsupported "claim.caller:no-such-global") hz hgens λargs hpre hlay ord hord=>?_
  obtain ⟨⟨vs,c0⟩,hlaid⟩:=Option.isSome_iff_exists.mp (layAllW_isSome (P:=w.params) (ord:=ord) G.has args r.args S.sh.abs (pre_splitW hpre).1)
  have keeps:=layAllW_keeps _ _ _ hlaid
  have hal:=layAllW_rest _ _ _ hlaid
  obtain ⟨as,hrd,hin,hold⟩:=reads_layAllW hord _ _ _ hlaid hlay c0.heap (λU U e=>e)
  have j7:=G.keeps (λU U U U U=>trivial) keeps
  obtain ⟨a,o,pm,cd,doc,dV,kV,h1,h2,h3,h4,h5⟩:=j7.fn hdef
  have h:=call w S.sh.abs { c0 with gens:=#[] } _ _ j7 (hYk _ _ _ Y keeps) a o pm cd doc dV kV h2 h3 h4 h5 (defOf_name hdef▸h1) rfl args vs as hpre hlay hrd (well_layAllW hord args S.sh.abs (vs,c0) hlaid _ λU U e=>e)
   (λa ha=>beq_eq_false_iff_ne.mpr λe=>by have:=(hin.2.2 a ha).1;subst e;exact absurd G.low (Nat.not_lt.mpr this))
  have hi:=ident_freeW hu ha hap
  have hwi:r.toRowW.claim.within=[]:=isEmpty_iff.mp k6
  have noW:∀ h':Heap,r.writes=true->namesKept r.prog r.keeps S.sh.abs.heap h'/\∀ x∈r.toRowW.claim.records,∀ a,classAt S.sh.abs.heap x.1=some a->recordClass h' a x.1 (x.2.map (·.1))=true:=λh' q=>by rw [hw0] at q;cases q
  have ht:∀ (s:Shared) (mg:Str->Option Value) (f:Value) (Q:PySem.Fin->Shared->Prop) (E:Value->Shared->Prop),s.heap.Ns mainGlobals mg->mg r.name=some f->wpAny (model r.prog w) callerA (PySem.call f vs) (λv s'=>Q (.done (.ret v)) s') E s ->
    wpAny (model r.prog w) callerA (do match <- nsGet mainNs r.name with
     | some f=>do ret (<- PySem.call f vs)
     | none=>unsupported "claim.caller:no-such-global") Q E s:=
   λs mg f Q E hg hf h=>wpAny_bind (wpAny_nsGet hg (by rw [hf];exact wpAny_bind (wpAny_mono h (λU U x=>wpAny_pure x) λU U x=>x)))
  exact ⟨vs,c0,hlaid,ht { c0 with gens:=#[] } _ _ _ _ j7.T.g (defOf_name hdef▸h1) (wpAny_mono h (λv s' g=>⟨_,rfl,have z:=Uy (c:=r.toRowW.claim) hsame hwi hi hrd hold hal.2.2.1 g.1 g.2;⟨z.1,z.2.1,z.2.2,noW _⟩⟩)
   λe s' g=>have z:=Uy (c:=r.toRowW.claim) hsame hwi hi hrd hold hal.2.2.1 g.1 g.2;⟨z.1,z.2.1,z.2.2,noW _⟩)⟩
end Mh
end
section
open PySem PySem.W PyProof.Rows
set_option maxRecDepth 10000
namespace Mi
section
variable {W:Wd}{n:Nat}{s:Shared}{fd:FuncData}{fi:Fi}{a P:Addr}{vs:List Value}{l:List PV}
def fm0 (P:Addr):Fm:={ env:={ (default:Env) with locals:=mainGlobals },stk:=[],av:=[P],own0:=[],tab:=[P],sc:=[],hdl:=none }
theorem Ty (hb:∀ b o,W.h₀.get? b=some o->s.heap.get? b=some o)(hg:s.gens=W.gens)(ho:s.os=W.os)(hd:W.H.At W.h₀)(hP:Cv W.H s.heap P):InvS W (fm0 P) [] ⟨λU=>none,[]⟩ s:=by
 refine ⟨⟨hb,⟨_,hd.g.keeps hb,λx i h=>(by cases h)⟩,λx k i h=>(by cases h),⟨rfl,λi l e=>by simp at e,nodup_nil,λa h=>(by cases h),λa h=>(by cases h)⟩,λa h=>?_,trivial,λQ h=>?_⟩,hg,ho⟩
 ·have h:=mem_singleton.mp h
  subst h
  obtain ⟨ps,e,_⟩:=hP
  rw [e];rfl
 ·have h:=mem_singleton.mp h
  subst h
  exact hP
theorem Ra {m:M PFlow}{ps':PS}{p:PV}(hb0:∀ b o,W.h₀.get? b=some o->s.heap.get? b=some o)(hg:s.gens=W.gens)(hos:s.os=W.os)(hd:W.H.At W.h₀)(hP:Cv W.H s.heap P)(hP0:W.h₀.get? P=none)(hPt:P=W.H.tabP)
  (Fa:FnAt W.h₀ a fd fi) (ok:fi.Ok) (hb:BindsTo s fd ⟨vs,[]⟩ (fi.params.zip vs)) (hl:fi.params.length=vs.length)
  (rl:RepL W.H W.h₀ [P] [] s.heap l vs) (hn:n<=12) (body:∀ fm':Fm,fm'.sc=fi.sc->fm'.env.scope=fi.scope->fm'.hdl=none->SimS W n fm' fi.body m) (res:m ⟨λi=>l[i]?,[]⟩ = .ok (.ret p) ps') :
  wpAny W.m callerA (call (.ref a) vs) (λv s'=>(∃ av V,RepV W.H W.h₀ av V s'.heap p v)/\(∀ b o,W.h₀.get? b=some o->s'.heap.get? b=some o)/\Cv W.H s'.heap P/\s'.gens=W.gens/\s'.os=W.os) (λU U=>False) s:=by
 have Fa':=Fa.keeps hb0
 have I:=Ty hb0 hg hos hd hP
 obtain ⟨⟨o,ho,hd'⟩,hscope,hbody,hclo,hglob,hbi,hcode⟩:=Fa'
 have lim:s.heap.NoLimit:=hd.lim.keeps hb0
 have hdep:callerA.depth+n<900:=by
  have:callerA.depth<500:=by decide +kernel
  lia
 refine wpAny_call (codeAny_call_function (by show callerA.depth<1000;lia) ho hd' (by rw [hscope];exact ok.co) (by rw [hscope];exact ok.gen) hbody hcode (hb _ _ _ _ ?_))
 rw [hscope,hglob,hclo,hbi]
 refine wpAny_newFunctionEnv_cells ok.kind (λp hp=>?_) λenv he c0 X=>?_
 ·have hm:p.1∈fi.params:=(of_mem_zip (show (p.1,p.2)∈fi.params.zip vs from hp)).1
  rcases ok.parK p.1 hm with q | q
  ·exact .inl q
  ·exact .inr ⟨q,Cq _ _ _ (.inl q)⟩
 ·have he':env=Bn fd fi s.heap.objs.size a:=he
  subst he'
  refine ⟨lim.keeps X.toInCall.keep,codeAny_func ?_⟩
  have F':FmOk W.h₀ (AT (fm0 P) fd fi s.heap.objs.size a):=Hu (λb m=>m) (λb m=>(by cases m)) (λb m=>by
   have m:=mem_singleton.mp m
   rw [m];exact hP0) I ok X
  have I':=E0 (fd:=fd) (a:=a) I ok hl rl X
  have C':Ctx W (AT (fm0 P) fd fi s.heap.objs.size a) n (callerA.deeper (Bn fd fi s.heap.objs.size a)):=by
   refine ⟨Around.frames_deeper (A:=callerA) (outer:=[]) rfl,?_,?_,rfl,?_,F',hd⟩
   ·show callerA.depth+1+n<990;lia
   ·have:callerA.units=4:=rfl
    show callerA.units+3+20*n+1000<cLine
    have:1500<cLine:=by decide +kernel
    lia
   ·show [P]=[W.H.tabP];rw [hPt]
  refine aX (body (AT (fm0 P) fd fi s.heap.objs.size a) rfl rfl rfl _ [] _ c0 C' I' (by rw [res];nofun)) (λf s' z=>?_) λx s' z=>?_
  ·obtain ⟨p',o0,α₁,u0,s0,d0,i4,rf⟩:=z
   have u0:m ⟨λi=>l[i]?,[]⟩ = .ok p' o0:=u0
   rw [res] at u0;cases u0
   cases rf with
   | ret r=>exact ⟨⟨_,_,r⟩,s0.inv.base,s0.inv.tabs P (mem_singleton.mpr rfl),s0.gens,s0.os⟩
  ·obtain ⟨e,o0,α₁,u0,_⟩:=z
   have u0:m ⟨λi=>l[i]?,[]⟩ = .ex e o0:=u0
   rw [res] at u0;cases u0
end
def V1 (x y:Txt):Bool:=x==y
theorem Tz {x y:Txt}(h:V1 x y=true):x=y:=eq_of_beq h
def Fl {β:Type}(o:Option β)(f:β->Bool):Bool:=match o with
 | some x=>f x
 | none=>false
theorem BE {β:Type}{o:Option β}{f:β->Bool}(h:Fl o f=true):∃ x,o=some x/\f x=true:=by
 cases o with
 | none=>cases h
 | some x=>exact ⟨x,rfl,h⟩
def gIs (h:Heap)(x:Str)(a:Nat):Bool:=Fl (h.nsMap mainGlobals x) λv=>Fl (Mh.Ja v) λb=>Nat.beq b a
theorem DT {h:Heap}{x:Str}{a:Nat}(q:gIs h x a=true):h.nsMap mainGlobals x=some (.ref a):=by
 obtain ⟨v,e,q⟩:=BE q
 obtain ⟨b,f,q⟩:=BE q
 rw [e,Mh.CT f,Nat.eq_of_beq_eq_true q]
def MD (x:Str):Option Nat:=one x.cps.toList
def Vd (c:Nat)(l:List Str):Bool:=l.any λx=>Fl (MD x) (Nat.beq c)
def Uz (l:List Str):Bool:=l.all λx=>Fl (MD x) (Nat.blt · 128)
def Rb (k:Nat)(l:List Str):Bool:=Uz l&&(range 128).all λc=>(Vd c l==Am k c)
theorem OY {k c:Nat}(h:128<=c):Am k c=false:=by
 rcases k with _ | _ | _ | _ | _ | k
 ·show (ctl c&&c != 9)=false
  simp [ctl];lia
 ·show (ctl c&&c != 9&&c != 10)=false
  simp [ctl];lia
 ·show (c==32||c==9)=false
  simp;lia
 ·show (c==32||c==9||c==10)=false
  simp;lia
 ·show hexd c=false
  simp [hexd];lia
 ·show ((48<=c&&c<=57)||(97<=c&&c<=122)||(65<=c&&c<=90)||c==45||c==95)=false
  simp;lia
theorem GA {x:Str}{c:Nat}(h:MD x=some c):x=txt [c]:=by
 rw [<- BY x,Hc h]
theorem K7 {l:List Str}{c:Nat}:Vd c l=true↔txt [c]∈l:=by
 refine any_eq_true.trans ⟨λ⟨x,m,h⟩=>?_,λm=>⟨_,m,Nat.beq_refl c⟩⟩
 obtain ⟨d,e,h⟩:=BE h
 rw [Nat.eq_of_beq_eq_true h,<- GA e]
 exact m
theorem IX {l:List Str}(h:Uz l=true)(x:Str)(m:x∈l):∃ c,x=txt [c]/\c<128:=by
 obtain ⟨d,e,h⟩:=BE (all_eq_true.mp h x m)
 exact ⟨d,GA e,by simpa [Nat.blt_eq] using h⟩
theorem Rc {k:Nat}{l:List Str}(h:Rb k l=true):(λx=>decide (x∈l))=F2 k:=by
 obtain ⟨h1,h2⟩:=and_eq_true_iff.mp h
 have key:∀ c,decide (txt [c]∈l)=Am k c:=λc=>by
  by_cases q:c<128
  ·have:=all_eq_true.mp h2 c (mem_range.mpr q)
   rw [<- beq_iff_eq.mp this]
   cases z:Vd c l with
   | true=>exact decide_eq_true (K7.mp z)
   | false=>exact decide_eq_false λm=>by rw [K7.mpr m] at z;cases z
  ·rw [OY (by exact la [_] [([257],[2])] ([257],[2]) rfl (Nat.not_lt.mp q))]
   refine decide_eq_false λm=>?_
   obtain ⟨d,e,lt⟩:=IX h1 _ m
   have:=(List.cons.inj (Jk e)).1
   exact q (this▸lt)
 funext x
 have no:(∀ c,x.cps.toList≠[c])->decide (x∈l)=false:=λn=>decide_eq_false λm=>by
  obtain ⟨c,e,_⟩:=IX h1 _ m
  exact n c (by rw [e];rfl)
 show _=G8 k x.cps.toList
 cases e:x.cps.toList with
 | nil=>exact no λc z=>by rw [e] at z;cases z
 | cons c r=>
  cases r with
  | nil=>exact (by rw [<- e,BY]:txt [c]=x)▸key c
  | cons d r=>exact no λc z=>by rw [e] at z;cases z
theorem Ve {w:World}{S:Mh.SX}(I:Mh.Inv w S){a k:Nat}{l:List Str}(e:Mh.EG a S.gh=some l)(h:Rb k l=true)(prog:Program):∃ n,FrozAt (strKind prog w) S.sh.abs.heap a (F2 k) n/\n<4096:=by
 obtain ⟨hn,es,ep,t,e1,Si⟩:=I a l e
 refine ⟨l.length,?_,by have:=Si.lt;exact la [_] [([2,3,0],[2001])] ([2,3,0],[8193]) rfl this⟩
 rw [<- Rc h]
 exact Si.froz (Mh.Dm hn e1)
theorem ME {prog:Program}{w:World}{K:Type}[DecidableEq K]{knd:KeyKind prog w K}{h h':Heap}{a:Addr}{S:K->Bool}{n:Nat}(x:FrozAt knd h a S n)(k:∀ o,h.get? a=some o->h'.get? a=some o):FrozAt knd h' a S n:=by
 obtain ⟨es,ep,t,e,r⟩:=x
 exact ⟨es,ep,t,k _ e,r⟩
def TA:Value->Option Str
 | .str k _=>some k
 | _=>none
theorem Ny {v:Value}{k:Str}(h:TA v=some k):∃ t,v = .str k t:=by
 cases v with
 | str k t=>cases h;exact ⟨t,rfl⟩
 | _=>cases h
def OZ (v:Value)(x:Txt):Bool:=match TA v with
 | some k=>V1 k.cps.toList x
 | none=>false
theorem Nz {v:Value}{x:Txt}(h:OZ v x=true):∃ t,v = .str (txt x) t:=by
 unfold OZ at h
 cases e:TA v with
 | none=>rw [e] at h;cases h
 | some k=>
  rw [e] at h
  obtain ⟨t,rfl⟩:=Ny e
  exact ⟨t,by rw [<- Tz h,BY]⟩
def TB:List DictEntry->List (Txt × Txt)->Bool
 | [],l=>l.isEmpty
 | e::es,l=>match l with
  | []=>false
  | p::l=>OZ e.key p.1&&(OZ e.val p.2&&TB es l)
inductive EsAt:List DictEntry->List (Txt × Txt)->Prop
 | nil:EsAt [] []
 | cons {hs:Int} {a b:Txt} {tk tv:Tok} {es:List DictEntry} {l:List (Txt × Txt)} (r:EsAt es l):EsAt (⟨hs,.str (txt a) tk,.str (txt b) tv⟩::es) ((a,b)::l)
theorem TC {es:List DictEntry}:∀ {l:List (Txt × Txt)},TB es l=true->EsAt es l:=by
 induction es with
 | nil=>
  intro l h
  cases l with
  | nil=>exact .nil
  | cons=>cases h
 | cons e es ih=>
  intro l h
  cases l with
  | nil=>cases h
  | cons p l=>
   obtain ⟨h1,h2⟩:=and_eq_true_iff.mp (show (OZ e.key p.1&&(OZ e.val p.2&&TB es l))=true from h)
   obtain ⟨h2,h3⟩:=and_eq_true_iff.mp h2
   obtain ⟨hs,ke,va⟩:=e
   obtain ⟨tk,rfl⟩:=Nz h1
   obtain ⟨tv,rfl⟩:=Nz h2
   exact .cons (ih h3)
def Vf (c:String):Value->Bool
 | .type d=>decide (d=c)
 | _=>false
theorem NA {c:String}{v:Value}(h:Vf c v=true):v = .type c:=by
 cases v with
 | type d=>rw [of_decide_eq_true h]
 | _=>cases h
def Vg:List Value->Option Addr
 | [v]=>Mh.Ja v
 | _=>none
def Re:Data->Option Addr
 | .fields vs=>Vg vs.toList
 | _=>none
theorem O0 {d:Data}{a:Addr}(h:Re d=some a):d = .fields #[.ref a]:=by
 cases d with
 | fields vs=>
  obtain ⟨l⟩:=vs
  cases l with
  | nil=>cases h
  | cons v r=>
   cases r with
   | nil=>rw [Mh.CT h]
   | cons=>cases h
 | _=>cases h
def Rf:Data->Option (List DictEntry)
 | .dict es _=>some es.toList
 | _=>none
theorem O1 {d:Data}{es:List DictEntry}(h:Rf d=some es):∃ ep,d = .dict es.toArray ep:=by
 cases d with
 | dict es ep=>cases h;exact ⟨ep,rfl⟩
 | _=>cases h
def Vh (o:Obj):Bool:=Vf "dict" o.cls&&(o.dict.isNone&&o.slots.toList.isEmpty)
def NB (h:Heap)(a:Addr):Option (Addr × List DictEntry):=
 (h.get? a).bind λo=>cond (Vf "mappingproxy" o.cls) ((Re o.data).bind λd=>cond (Nat.beq d sysModules) none ((h.get? d).bind λod=>cond (Vh od) ((Rf od.data).bind λes=>some (d,es)) none)) none
theorem MF {h:Heap}{a d:Addr}{es:List DictEntry}(q:NB h a=some (d,es)):∃ o od ep,h.get? a=some o/\o.cls = .type "mappingproxy"/\o.data = .fields #[.ref d]/\(d==sysModules)=false/\h.get? d=some od/\od.ExactDict/\od.data = .dict es.toArray ep:=by
 refine Mh.A7 q λo e q=>Mh.Cd q λc q=>Mh.A7 q λd' e1 q=>Mh.PE q λn q=>Mh.A7 q λod e2 q=>Mh.Cd q λx q=>Mh.A7 q λes' e3 q=>?_
 obtain ⟨ep,e4⟩:=O1 e3
 have q1:d'=d:=(Prod.mk.inj (aU q)).1
 have q2:es'=es:=(Prod.mk.inj (aU q)).2
 rw [q1] at e1 e2 n
 rw [q2] at e4
 obtain ⟨x1,x2⟩:=and_eq_true_iff.mp x
 obtain ⟨x2,x3⟩:=and_eq_true_iff.mp x2
 refine ⟨o,od,ep,e,NA c,O0 e1,?_,e2,?_,e4⟩
 ·exact aY.mpr λz=>by rw [z,Nat.beq_refl] at n;cases n
 ·exact ⟨NA x1,Option.isNone_iff_eq_none.mp x2,Array.ext' (isEmpty_iff.mp x3)⟩
theorem O2 {prog:Program}{w:World}{es:List DictEntry}{l:List (Txt × Txt)}(h:EsAt es l)(x:Txt):(l.lookup x=none->findBy (strKind prog w).is es.toArray (txt x)=none)/\∀ t,l.lookup x=some t->∃ tk,findBy (strKind prog w).is es.toArray (txt x)=some (.str (txt t) tk):=by
 induction h with
 | nil=>exact ⟨λU=>rfl,λt e=>(by cases e)⟩
 | @cons hs a b tk tv es l r ih=>
  unfold findBy at ih ⊢
  rw [List.find?_toArray] at ih ⊢
  rw [find?_cons,lookup_cons]
  by_cases q:x=a
  ·subst q
   rw [strKind_is,beq_self_eq_true]
   exact ⟨λe=>(by cases e),λt e=>⟨tv,by cases e;rfl⟩⟩
  ·have n1:(x==a)=false:=aY.mpr q
   have n2:(strKind prog w).is (txt x) (.str (txt a) tk)=false:=by
    cases z:(strKind prog w).is (txt x) (.str (txt a) tk) with
    | false=>rfl
    | true=>exact absurd (Jk ((strKind prog w).inj _ _ _ z (strKind_is prog w _ tk))) q
   rw [n1,n2]
   exact ih
theorem O3 {prog:Program}{w:World}{es:List DictEntry}{l:List (Txt × Txt)}(h:EsAt es l)(hh:es.map (·.hash)=l.map (λe=>hashStr w (txt e.1))):∀ e∈es,∃ k,(strKind prog w).is k e.key=true/\e.hash=(strKind prog w).hash k:=by
 induction h with
 | nil=>intro e m;cases m
 | @cons hs a b tk tv es l r ih=>
  intro e m
  have hh:=List.cons.inj hh
  cases m with
  | head=>exact ⟨txt a,strKind_is _ _ _ _,hh.1⟩
  | tail _ z=>exact ih hh.2 e z
theorem K8 (x:Txt):escT x=Es.lookup x:=rfl
def O4 (prog:Program)(w:World)(h:Heap)(a:Addr):Prop:=∃ o d f,h.get? a=some o/\o.cls = .type "mappingproxy"/\o.data = .fields #[.ref d]/\(d==sysModules)=false/\h.MapOf (strKind prog w) d f /\
  ∀ x:Txt,(escT x=none->f (txt x)=none)/\∀ t,escT x=some t->∃ tk,f (txt x)=some (.str (txt t) tk)
def V2 (h:Heap)(a:Addr):Option (List Int):=(NB h a).bind λr=>cond (TB r.2 Es) (some (r.2.map (·.hash))) none
theorem V3 {prog:Program}{w:World}{h:Heap}{a:Addr}(q:V2 h a=some (Es.map λe=>hashStr w (txt e.1))):O4 prog w h a:=by
 refine Mh.A7 q λr e q=>Mh.Cd q λho q=>?_
 obtain ⟨d,es⟩:=r
 obtain ⟨o,od,ep,h1,h2,h3,h4,h5,h6,h7⟩:=MF e
 have E:=TC ho
 refine ⟨o,d,λk=>findBy (strKind prog w).is es.toArray k,h1,h2,h3,h4,⟨od,es.toArray,ep,h5,h6,h7,λe m=>O3 E (aU q) e (Array.mem_toList_iff.mpr m),λU=>rfl⟩,λx=>?_⟩
 rw [K8]
 exact O2 E x
theorem O4.keeps {prog:Program}{w:World}{h h':Heap}{a:Addr}(x:O4 prog w h a)(k:∀ b o,h.get? b=some o->o.cls≠.none->h'.get? b=some o):O4 prog w h' a:=by
 obtain ⟨o,d,f,h1,h2,h3,h4,⟨od,es,ep,m1,m2,m3⟩,h6⟩:=x
 exact ⟨o,d,f,k _ _ h1 (by rw [h2];nofun),h2,h3,h4,⟨od,es,ep,k _ _ m1 (by rw [m2.1];nofun),m2,m3⟩,h6⟩
def Rg (h:Heap):Bool:=h.ownExcOk "TOMLDecodeError" [] P5 "ValueError.__new__"&&match h.clsAt mainGlobals "TOMLDecodeError" with
 | some (_,_,cd)=>(["__init__", "__getattribute__", "__getattr__", "args", "__str__", "__repr__", "__new__"]:List Str).all λx=>(h.nsMap cd.ns x).isNone
 | none=>false
set_option tactic.hygienic true in
theorem Vi {h:Heap}(q:Rg h=true):∃ C,h.nsMap mainGlobals "TOMLDecodeError" = some (.ref C)/\ClsAt C h:=by
 unfold Rg at q
 obtain ⟨q1,q2⟩:=and_eq_true_iff.mp q
 obtain ⟨C,N,nm,qn,bs,hdct,sn,sub,ab,col,dd,k0,k1,k2,k3,k5,g1,g2,g3,g4⟩:=Heap.ownExc_of_ok q1
 refine ⟨C,g1,⟨nm,qn,N,bs,hdct,sn,sub,ab,col,dd,k0,k1,k2,k3,k5,_,g2,g3,λx m=>?_⟩⟩
 split at q2
 ·rename_i C' o cd e
  obtain ⟨f1,f2,f3⟩:=Heap.clsAt_spec e
  rw [g1] at f1;cases f1
  rw [g2] at f2;cases f2
  cases f3
  have:=all_eq_true.mp q2 x m
  simpa using this
 ·cases q2
theorem ClsAt.keepsC {C:Addr}{h h':Heap}(x:ClsAt C h)(k:∀ b o,h.get? b=some o->o.cls≠.none\/(∀ vs,o.data≠.fields vs)->h'.get? b=some o):ClsAt C h':=by
 obtain ⟨nm,q,N,bs,hdct,sn,sub,ab,col,dd,k0,k1,k2,k3,k5,mN,h1,⟨o,es,ep,n1,n2,n3⟩,h3⟩:=x.at_
 exact ⟨nm,q,N,bs,hdct,sn,sub,ab,col,dd,k0,k1,k2,k3,k5,mN,k _ _ h1 (.inl (by nofun)),⟨o,es,ep,k _ _ n1 (.inr λvs z=>by rw [n2] at z;cases z),n2,n3⟩,h3⟩
end Mi
end
section
open PySem PySem.W PySem.Calls PyProof.Rows
set_option maxRecDepth 100000
namespace Mi
open PySem.Challenge
def HR (fd:FuncData)(ps:List Str)(np:Nat)(kws:List Str):Prop:=∀ vs ks:List Value,vs.length=np->ks.length=kws.length->bindArgs fd ⟨vs,kws.zip ks⟩=pure (ps.zip (vs++(ks++[])))
theorem EL {vs:List Value}{n:Nat}(h:vs.length=n+1):∃ a r,vs=a::r/\r.length=n:=by
 cases vs with
 | nil=>cases h
 | cons a r=>exact ⟨a,r,rfl,Nat.succ.inj h⟩
theorem TD {fd:FuncData}{ps:List Str}(h:∀ a,bindArgs fd ⟨[a],[]⟩=pure (ps.zip [a])):HR fd ps 1 []:=by
 intro vs ks q1 q2
 obtain ⟨a,r1,rfl,p1⟩:=EL q1
 cases eq_nil_of_length_eq_zero p1
 cases eq_nil_of_length_eq_zero q2
 exact h a
theorem O5 {fd:FuncData}{ps:List Str}(h:∀ a b,bindArgs fd ⟨[a,b],[]⟩=pure (ps.zip [a,b])):HR fd ps 2 []:=by
 intro vs ks q1 q2
 obtain ⟨a,r1,rfl,p1⟩:=EL q1
 obtain ⟨b,r2,rfl,p2⟩:=EL p1
 cases eq_nil_of_length_eq_zero p2
 cases eq_nil_of_length_eq_zero q2
 exact h a b
theorem TE {fd:FuncData}{ps:List Str}(h:∀ a b c,bindArgs fd ⟨[a,b,c],[]⟩=pure (ps.zip [a,b,c])):HR fd ps 3 []:=by
 intro vs ks q1 q2
 obtain ⟨a,r1,rfl,p1⟩:=EL q1
 obtain ⟨b,r2,rfl,p2⟩:=EL p1
 obtain ⟨c,r3,rfl,p3⟩:=EL p2
 cases eq_nil_of_length_eq_zero p3
 cases eq_nil_of_length_eq_zero q2
 exact h a b c
theorem V4 {fd:FuncData}{ps:List Str}{x:Str}(h:∀ a b c,bindArgs fd ⟨[a,b],[(x,c)]⟩=pure (ps.zip [a,b,c])):HR fd ps 2 [x]:=by
 intro vs ks q1 q2
 obtain ⟨a,r1,rfl,p1⟩:=EL q1
 obtain ⟨b,r2,rfl,p2⟩:=EL p1
 obtain ⟨c,r3,rfl,p3⟩:=EL q2
 cases eq_nil_of_length_eq_zero p2
 cases eq_nil_of_length_eq_zero p3
 exact h a b c
theorem Vj {fd:FuncData}{ps:List Str}{x y:Str}(h:∀ a b c d e,bindArgs fd ⟨[a,b,c],[(x,d),(y,e)]⟩=pure (ps.zip [a,b,c,d,e])):HR fd ps 3 [x,y]:=by
 intro vs ks q1 q2
 obtain ⟨a,r1,rfl,p1⟩:=EL q1
 obtain ⟨b,r2,rfl,p2⟩:=EL p1
 obtain ⟨c,r3,rfl,p3⟩:=EL p2
 obtain ⟨d,r4,rfl,p4⟩:=EL q2
 obtain ⟨e,r5,rfl,p5⟩:=EL p4
 cases eq_nil_of_length_eq_zero p3
 cases eq_nil_of_length_eq_zero p5
 exact h a b c d e
theorem Rh {s:Shared}{fd:FuncData}{x:Str}{u:Value}{d:Addr}{m:Str->Option Value}{vs:List Value}{L:List (Str × Value)}{α₁ X0:Type}{w7:Option Value->Sem α₁}{y7:α₁->Sem X0}{z7:X0->Sem (List (Str × Value))}(hn:s.heap.Ns d m)(hm:m x=some u)
  (h:bindArgs fd ⟨vs,[]⟩=((nsGet d x >>= w7) >>= y7) >>= z7) (hF:(w7 (some u) >>= y7) >>= z7=pure L):BindsTo s fd ⟨vs,[]⟩ L:=by
 intro M A E Q hq
 rw [h,bind_assoc,bind_assoc]
 refine bj (wpAny_nsGet hn ?_)
 rw [hm,<- bind_assoc,hF]
 exact bk hq
section
variable {p:Program}{loose:List Str}{mean:ExcName->Option Value}{mg mb:Str->Option Value}{h:Heap}{W:Wd}
theorem UA {d:DefRec}{fi:Fi}(T:Top p loose mean mg mb h)(K:∀ b o,h.get? b=some o->o≠tabObj #[]->W.h₀.get? b=some o){j:Nat}(hj:(recsOf p)[j]? = some d)(h1:d.scope=fi.scope)(h2:d.body=fi.body) :
  ∃ a pm cd doc,mg d.name=some (.ref a)/\FnAt W.h₀ a (docDef d.name d.params d.body d.scope pm cd doc) fi:=by
 obtain ⟨a,o,pm,cd,doc,e1,e2,e3,e4⟩:=T.fn d (mem_of_getElem? hj)
 obtain ⟨c,oc,vs,t,f1,f2,f3,f4⟩:=e4
 refine ⟨a,pm,cd,doc,e1,⟨o,K _ _ e2 (λz=>by rw [z] at e3;cases e3),e3⟩,h1,by show FuncBody.stmts d.body=_;rw [h2],rfl,rfl,rfl,⟨c,oc,vs,t,f1,K _ _ f2 λz=>?_,f3,f4⟩⟩
 rw [z] at f3
 cases f3
 simp at f4
theorem C3 {d:DefRec}{fi:Fi}{x:Str}{np:Nat}{kws:List Str}(hH:W.H.mg=mg)(T:Top p loose mean mg mb h)(K:∀ b o,h.get? b=some o->o≠tabObj #[]->W.h₀.get? b=some o){j:Nat}(hj:(recsOf p)[j]? = some d)(hx:d.name=x)
  (h1:d.scope=fi.scope) (h2:d.body=fi.body) (hl:fi.params.length=np+kws.length+0) (hb:∀ pm cd doc,HR (docDef d.name d.params d.body d.scope pm cd doc) fi.params np kws):DP W x fi np kws []:=by
 obtain ⟨a,pm,cd,doc,e1,F⟩:=UA T K hj h1 h2
 exact ⟨a,_,by rw [hH,<- hx];exact e1,F,hl,λs vs ks U q1 q2=>.of_eq (hb pm cd doc vs ks q1 q2)⟩
end
def q10:Program:=view pw_kp0046_10 [0,1,3,4,5,6,7,8,9,10,11,12,13,14,15,17,19,20,21,22,23,24,26,27,28,29,30,31,33,34,35,36,37,38,39,40]
def Bt:List Str:=["_WallAttr", "ASCII_CTRL", "ILLEGAL_BASIC_STR_CHARS", "ILLEGAL_MULTILINE_BASIC_STR_CHARS", "ILLEGAL_LITERAL_STR_CHARS", "TOML_WS", "TOML_WS_AND_NEWLINE", "ascii_letters", "hexdigits", "BARE_KEY_CHARS", "HEXDIGIT_CHARS", "MappingProxyType", "BASIC_STR_ESCAPE_REPLACEMENTS", "parse_basic_str_escape"]
def Ri (k:Nat):Option Addr:=[72,77,78,86,91,87][k]?
def MG (k a:Nat)(gh:List (Addr × List Str)):Bool:=Fl (Mh.EG a gh) (Rb k)
def g10 (gh:List (Addr × List Str)):Bool:=MG 0 72 gh&&(MG 1 77 gh&&(MG 2 78 gh&&(MG 3 86 gh&&(MG 4 91 gh&&MG 5 87 gh))))
theorem Ey {k a:Nat}{w:World}{S:Mh.SX}(I:Mh.Inv w S)(h:MG k a S.gh=true)(prog:Program):∃ n,FrozAt (strKind prog w) S.sh.abs.heap a (F2 k) n/\n<4096:=by
 obtain ⟨l,e,h⟩:=BE h
 exact Ve I e h prog
def MH:Data->Option FuncData
 | .func fd=>some fd
 | _=>none
def K9:Data->Option (Array Value)
 | .fields vs=>some vs
 | _=>none
def V5:Value->Bool
 | .type _=>true
 | _=>false
theorem La {d:Data}{fd:FuncData}(h:MH d=some fd):d = .func fd:=by cases d <;> cases h <;> rfl
theorem fieldsOf_some {d:Data}{vs:Array Value}(h:K9 d=some vs):d = .fields vs:=by cases d <;> cases h <;> rfl
def JN (h:Heap)(a:Addr):Option (Str × Arguments × FuncBody × Scope × Addr × List (Str × Addr) × Value × Addr):=(h.get? a).bind λo=>(MH o.data).bind λfd=>some (fd.qualname,fd.params,fd.body,fd.scope,fd.globals,fd.closure,fd.defaults,fd.builtins)
def NC (h:Heap)(a:Addr)(q x:Str):Bool:=Fl (h.get? a) λo=>Fl (MH o.data) λfd=>Fl (Mh.Ja fd.kwdefaults) λd=>h.isNs d&&(decide (h.nsMap d x=some (.bool false))&&Fl (Mh.Ja fd.code) λc=>Fl (h.get? c) λoc=>V5 oc.cls&&Fl (K9 oc.data) λvs=>Fl vs[1]? λv=>Fl (TA v) λq'=>decide (q'=q))
def Lb (h:Heap)(a:Addr)(q x:Str)(st:Stmt):Prop:=∃ o fd d m,h.get? a=some o/\o.data = .func fd/\fd.qualname=q/\fd.params=HG st/\fd.body = .stmts (AR st)/\fd.scope=AQ st/\fd.globals=mainGlobals/\fd.closure=[]/\fd.defaults = .none/\fd.builtins=builtinsNs /\
 fd.kwdefaults = .ref d/\h.Ns d m/\m x=some (.bool false)/\∃ c oc vs t,fd.code = .ref c/\h.get? c=some oc/\oc.cls≠.none/\oc.data = .fields vs/\vs[1]? = some (.str q t)
theorem Vk {h:Heap}{a:Addr}{q x:Str}{st:Stmt}(h1:JN h a=some (q,HG st,.stmts (AR st),AQ st,mainGlobals,[],.none,builtinsNs))(h2:NC h a q x=true):Lb h a q x st:=by
 obtain ⟨o,e,h2⟩:=BE h2
 obtain ⟨fd,f,h2⟩:=BE h2
 obtain ⟨d,ed,h2⟩:=BE h2
 obtain ⟨n1,h2⟩:=and_eq_true_iff.mp h2
 obtain ⟨n2,h2⟩:=and_eq_true_iff.mp h2
 obtain ⟨c,ec,h2⟩:=BE h2
 obtain ⟨oc,eo,h2⟩:=BE h2
 obtain ⟨et,h2⟩:=and_eq_true_iff.mp h2
 obtain ⟨vs,ev,h2⟩:=BE h2
 obtain ⟨v,v1,h2⟩:=BE h2
 obtain ⟨q',v2,h2⟩:=BE h2
 obtain ⟨t,rfl⟩:=Ny v2
 rw [JN,e,Option.bind_some,f,Option.bind_some] at h1
 have h1:=aU h1
 exact ⟨o,fd,d,_,e,La f,congrArg (·.1) h1,congrArg (·.2.1) h1,congrArg (·.2.2.1) h1,congrArg (·.2.2.2.1) h1,congrArg (·.2.2.2.2.1) h1,congrArg (·.2.2.2.2.2.1) h1,congrArg (·.2.2.2.2.2.2.1) h1,congrArg (·.2.2.2.2.2.2.2) h1,
  Mh.CT ed,.of_isNs n1,aZ n2,c,oc,vs,t,Mh.CT ec,eo,λz=>by (rw [z] at et;cases et),fieldsOf_some ev,aZ h2▸v1⟩
theorem Lb.keeps {h h':Heap}{a:Addr}{q x:Str}{st:Stmt}(X:Lb h a q x st)(k:∀ b o,h.get? b=some o->o≠tabObj #[]->h'.get? b=some o):Lb h' a q x st:=by
 obtain ⟨o,fd,d,m,h1,h2,h3,h4,h5,h6,h7,h8,h9,h10,h11,⟨o',es,ep,n1,n2,n3⟩,h13,c,oc,vs,t,c1,c2,c3,c4⟩:=X
 exact ⟨o,fd,d,m,k _ _ h1 (λz=>by rw [z] at h2;cases h2),h2,h3,h4,h5,h6,h7,h8,h9,h10,h11,⟨o',es,ep,k _ _ n1 (λz=>by rw [z] at n2;cases n2),n2,n3⟩,h13,c,oc,vs,t,c1,k _ _ c2 (λz=>by rw [z] at c3;exact c3 rfl),c3,c4⟩
def V6:Data->Bool
 | .dict _ _=>true
 | _=>false
def UB (h:Heap):Bool:=Fl (h.get? sysModules) λo=>V6 o.data
def Rj (h:Heap):Prop:=∃ o es ep,h.get? sysModules=some o/\o.data = .dict es ep
theorem Vl {h:Heap}(q:UB h=true):Rj h:=by
 obtain ⟨o,e,q⟩:=BE q
 cases z:o.data <;> rw [z] at q <;> cases q
 exact ⟨o,_,_,e,z⟩
def ND (h:Heap):Bool:=gIs h "ILLEGAL_BASIC_STR_CHARS" 72&&(gIs h "ILLEGAL_LITERAL_STR_CHARS" 72&&(gIs h "ILLEGAL_MULTILINE_BASIC_STR_CHARS" 77&&(gIs h "TOML_WS" 78&&(gIs h "TOML_WS_AND_NEWLINE" 86&&(gIs h "HEXDIGIT_CHARS" 91 &&
 (gIs h "BASIC_STR_ESCAPE_REPLACEMENTS" 97&&(gIs h "parse_basic_str_escape" 146&&(gIs h "BARE_KEY_CHARS" 87&&(Rg h&&(UB h&&(h.isNs mainGlobals&&NC h 146 "parse_basic_str_escape" "multiline")))))))))))
abbrev Y10:Type:=Bool × Option (List Int) × Option (Str × Arguments × FuncBody × Scope × Addr × List (Str × Addr) × Value × Addr)
def MI (s:Shared):Y10:=(ND s.heap,V2 s.heap 97,JN s.heap 146)
def MJ (w:World):Y10:=(true,some (Es.map λe=>hashStr w (txt e.1)),some ("parse_basic_str_escape",HG (nth 25),.stmts (AR (nth 25)),AQ (nth 25),mainGlobals,[],.none,builtinsNs))
structure Head10 (w:World)(h:Heap)(m:Str->Option Value):Prop where
 ns:h.Ns mainGlobals m
 n0:m "ILLEGAL_BASIC_STR_CHARS" = some (.ref 72)
 n1:m "ILLEGAL_LITERAL_STR_CHARS" = some (.ref 72)
 n2:m "ILLEGAL_MULTILINE_BASIC_STR_CHARS" = some (.ref 77)
 n3:m "TOML_WS" = some (.ref 78)
 n4:m "TOML_WS_AND_NEWLINE" = some (.ref 86)
 n5:m "HEXDIGIT_CHARS" = some (.ref 91)
 n6:m "BASIC_STR_ESCAPE_REPLACEMENTS" = some (.ref 97)
 n7:m "parse_basic_str_escape" = some (.ref 146)
 n8:m "BARE_KEY_CHARS" = some (.ref 87)
 cls:∃ C,m "TOMLDecodeError" = some (.ref C)/\ClsAt C h
 sys:Rj h
 mp:O4 pw_kp0046_10 w h 97
 sets:∀ k a,Ri k=some a->∃ n,FrozAt (strKind pw_kp0046_10 w) h a (F2 k) n/\n<4096
 esc:Lb h 146 "parse_basic_str_escape" "multiline" (nth 25)
theorem Head10.keeps {w:World}{h h':Heap}{m:Str->Option Value}(x:Head10 w h m)(k:∀ b o,h.get? b=some o->o≠tabObj #[]->h'.get? b=some o):Head10 w h' m where
 ns:=by
  obtain ⟨o,es,ep,e,hd,r⟩:=x.ns
  exact ⟨o,es,ep,k _ _ e (λz=>by rw [z] at hd;cases hd),hd,r⟩
 n0:=x.n0
 n1:=x.n1
 n2:=x.n2
 n3:=x.n3
 n4:=x.n4
 n5:=x.n5
 n6:=x.n6
 n7:=x.n7
 n8:=x.n8
 cls:=by
  obtain ⟨C,e,X⟩:=x.cls
  exact ⟨C,e,X.keepsC λb o e q=>k b o e λz=>by
  subst z
  rcases q with q | q
  ·exact q rfl
  ·exact q #[] rfl⟩
 sys:=by
  obtain ⟨o,es,ep,e,hd⟩:=x.sys
  exact ⟨o,es,ep,k _ _ e (λz=>by rw [z] at hd;cases hd),hd⟩
 mp:=x.mp.keeps λb o e n=>k b o e λz=>by rw [z] at n;exact n rfl
 sets:=λi a e=>by
  obtain ⟨n,F,lt⟩:=x.sets i a e
  exact ⟨n,ME F (λo e=>k _ _ e λz=>(by
  obtain ⟨es,ep,t,e',_⟩:=F
  rw [e] at e'
  rw [z] at e'
  cases e')),lt⟩
 esc:=x.esc.keeps k
def TF (w:World)(h:Heap):Prop:=∃ m,Head10 w h m
theorem MK (w:World)(h h':Heap):TF w h->(∀ b o,h.get? b=some o->h'.get? b=some o)->TF w h':=λ⟨m,x⟩ k=>⟨m,x.keeps λb o e U=>k b o e⟩
theorem TG (w:World)(S:Mh.SX)(I:Mh.Inv w S)(hg:g10 S.gh=true)(hy:MI S.sh.abs=MJ w):TF w S.sh.abs.heap:=by
 simp only [MI,MJ,Prod.mk.injEq] at hy
 obtain ⟨y1,y2,y3⟩:=hy
 simp only [ND,and_eq_true] at y1
 obtain ⟨a0,a1,a2,a3,a4,a5,a6,a7,b0,a8,a9,a10,a11⟩:=y1
 simp only [g10,and_eq_true] at hg
 obtain ⟨g0,g1,g2,g3,g4,g5⟩:=hg
 refine ⟨_,.of_isNs a10,DT a0,DT a1,DT a2,DT a3,DT a4,DT a5,DT a6,DT a7,DT b0,Vi a8,Vl a9,V3 y2,λk a e=>?_,Vk y3 a11⟩
 rcases k with _ | _ | _ | _ | _ | _ | k <;> cases e
 ·exact Ey I g0 _
 ·exact Ey I g1 _
 ·exact Ey I g2 _
 ·exact Ey I g3 _
 ·exact Ey I g4 _
 ·exact Ey I g5 _
theorem Rk (w:World)(os:OsState):Mh.DG (Mh.EW pw_kp0046_10 ((w.withFollow "comprehension-iter-twice" true).withFollow "special-get-raises" true) os)
  (Mh.look pw_kp0046_10 q10 Bt ((w.withFollow "comprehension-iter-twice" true).withFollow "special-get-raises" true) MI) g10 =
  some (Mh.LN q10 Bt ((w.withFollow "comprehension-iter-twice" true).withFollow "special-get-raises" true) os (MJ ((w.withFollow "comprehension-iter-twice" true).withFollow "special-get-raises" true))):=by kernel_rfl
theorem Rl (w:World)(os:OsState):Mh.DG (Mh.EW pw_kp0046_10 ((w.withFollow "comprehension-iter-twice" true).withFollow "special-get-raises" false) os)
  (Mh.look pw_kp0046_10 q10 Bt ((w.withFollow "comprehension-iter-twice" true).withFollow "special-get-raises" false) MI) g10 =
  some (Mh.LN q10 Bt ((w.withFollow "comprehension-iter-twice" true).withFollow "special-get-raises" false) os (MJ ((w.withFollow "comprehension-iter-twice" true).withFollow "special-get-raises" false))):=by kernel_rfl
theorem Rm (w:World)(os:OsState):Mh.DG (Mh.EW pw_kp0046_10 ((w.withFollow "comprehension-iter-twice" false).withFollow "special-get-raises" true) os)
  (Mh.look pw_kp0046_10 q10 Bt ((w.withFollow "comprehension-iter-twice" false).withFollow "special-get-raises" true) MI) g10 =
  some (Mh.LN q10 Bt ((w.withFollow "comprehension-iter-twice" false).withFollow "special-get-raises" true) os (MJ ((w.withFollow "comprehension-iter-twice" false).withFollow "special-get-raises" true))):=by kernel_rfl
theorem Rn (w:World)(os:OsState):Mh.DG (Mh.EW pw_kp0046_10 ((w.withFollow "comprehension-iter-twice" false).withFollow "special-get-raises" false) os)
  (Mh.look pw_kp0046_10 q10 Bt ((w.withFollow "comprehension-iter-twice" false).withFollow "special-get-raises" false) MI) g10 =
  some (Mh.LN q10 Bt ((w.withFollow "comprehension-iter-twice" false).withFollow "special-get-raises" false) os (MJ ((w.withFollow "comprehension-iter-twice" false).withFollow "special-get-raises" false))):=by kernel_rfl
theorem V7 (b1 b2:Bool)(w:World)(os:OsState):Mh.DG (Mh.EW pw_kp0046_10 ((w.withFollow "comprehension-iter-twice" b1).withFollow "special-get-raises" b2) os)
  (Mh.look pw_kp0046_10 q10 Bt ((w.withFollow "comprehension-iter-twice" b1).withFollow "special-get-raises" b2) MI) g10 =
  some (Mh.LN q10 Bt ((w.withFollow "comprehension-iter-twice" b1).withFollow "special-get-raises" b2) os (MJ ((w.withFollow "comprehension-iter-twice" b1).withFollow "special-get-raises" b2))):=by
 cases b1 <;> cases b2
 ·exact Rn w os
 ·exact Rm w os
 ·exact Rl w os
 ·exact Rk w os
theorem ML {R:WRecords}{cl:Str->Option Addr}{h:Heap}:∀ {xs:List WData} {vs:List Value} {as:List Addr},WShape.hasItems R xs .int=true->ReadsAllW R cl h vs xs as->∃ l:List Int,xs=l.map .int/\IntsAre vs l:=by
 intro xs
 induction xs with
 | nil=>
  intro vs as _ r
  obtain ⟨rfl,_⟩:=readsAllW_nil_inv r
  exact ⟨[],rfl,.nil⟩
 | cons x xs ih=>
  intro vs as hx r
  obtain ⟨h1,h2⟩:=and_eq_true_iff.mp hx
  obtain ⟨i,rfl⟩:=hasW_int h1
  obtain ⟨v,vs,_,_,rfl,_,a,b⟩:=readsAllW_cons_inv r
  obtain ⟨t,rfl,_⟩:=readsW_int_inv a
  obtain ⟨l,rfl,q⟩:=ih h2 b
  exact ⟨i::l,rfl,.cons i t q⟩
theorem O6 {R:WRecords}{cl:Str->Option Addr}{h:Heap}{args:List WData}{vals:List Value}{as:List Addr}(h1:WShape.hasAll R args [.list .int]=true)(rd:ReadsAllW R cl h vals args as) :
  ∃ L vs l,vals=[.ref L]/\args=[.list (l.map .int)]/\h.IsList L vs/\IntsAre vs.toList l:=by
 obtain ⟨d,r,rfl,hd,hr⟩:=hasAllW_cons h1
 obtain rfl:=hasAllW_nil hr
 obtain ⟨xs,rfl,hi⟩:=hasW_list hd
 obtain ⟨v,vs,_,_,rfl,_,a,b⟩:=readsAllW_cons_inv rd
 obtain ⟨rfl,_⟩:=readsAllW_nil_inv b
 obtain ⟨L,o,its,n,ai,rfl,e1,e2,e3,e4,_⟩:=readsW_list_open a
 obtain ⟨l,rfl,q⟩:=ML hi e4
 exact ⟨L,its,l,rfl,rfl,⟨o,e1,e2,n,e3⟩,q⟩
theorem TH {R:WRecords}{n:Nat}{l:List Int}{b:WTm}(h:(WTm.and (.not (.lt (.lit (.int n)) (.len (.arg 0)))) b).holds R { args:=[.list (l.map .int)] } = true):l.length<=n:=by
 have h:=condW_of (X:=!decide ((n:Int)<((l.map WData.int).length:Int))) (holds_andW h).1 rfl
 rw [length_map] at h
 refine Nat.le_of_not_lt λq=>?_
 rw [decide_eq_true (Int.ofNat_lt.mpr q)] at h
 injection h
section
variable {p:Program}{loose:List Str}{mean:ExcName->Option Value}{mg mb:Str->Option Value}{h:Heap}
theorem V8 {H:Hd}{c P:Addr}(hT:TabsAt [(c,P)] h)(T:Top p loose mean mg mb h)(hg:H.mg=mg)(hb:H.mb=mb)(hfree:(Bl.all λx=>!startupNames.contains x&&(!loose.contains x&&(!((recsOf p).map (·.name)).contains x&&(!((litsOf p).map (·.1)).contains x&&!((clssOf p loose).map (·.name)).contains x))))=true)
  (toml:mg "TOMLDecodeError" = some (.ref H.toml)) (tomlC:ClsAt H.toml (ghostOf h [(c,P)])) (sys:Rj h)
  (sets:∀ k a,H.setv k=some a->∃ n,FrozAt (strKind H.prog H.w) (ghostOf h [(c,P)]) a (F2 k) n/\n<4096) (mp:O4 H.prog H.w (ghostOf h [(c,P)]) H.mpv):H.At (ghostOf h [(c,P)]) where
 g:=by rw [hg];exact ghost_ns hT T.g
 b:=by rw [hb];exact ghost_ns hT T.b
 lim:=let ⟨mc,a,r⟩:=T.nolimit;⟨mc,ghost_ns hT a,r⟩
 sysm:=by
  obtain ⟨o,es,ep,e,hd⟩:=sys
  rw [ghost_get hT e (λz=>by rw [z] at hd;cases hd)];rfl
 bu:=by rw [hb];exact T.builtins
 free:=λx m=>by
  rw [hg]
  have:=all_eq_true.mp hfree x m
  simp only [and_eq_true,not_eq_true',List.contains_eq_mem,decide_eq_false_iff_not] at this
  exact T.free x this.1 this.2.1 this.2.2.1 this.2.2.2.1 this.2.2.2.2
 toml:=by rw [hg];exact toml
 tomlC:=tomlC
 bmain:=by
  rw [hg]
  obtain ⟨bm,ob,a1,a2,a3,a4,a5,a6⟩:=T.bmain
  exact ⟨bm,ob,a1,a2,ghost_get hT a3 (λq=>by rw [q] at a4;cases a4),a4,a5,a6⟩
 sets:=sets
 mp:=mp
end
def NE:Prop:=∀ l:List Int,l.length<=63->∃ K ps',IW K ⟨λi=>([PV.ints l])[i]?,[]⟩ = .ok (.ret (.bool true)) ps'
def dOf (x:Str)(i:Nat):DefRec:=⟨x,HG (nth i),AR (nth i),AQ (nth i),Nt (nth i)⟩
def Lc (w:World)(mg mb:Str->Option Value)(C P:Addr):Hd:={ prog:=pw_kp0046_10,w:=w,mg:=mg,mb:=mb,fnv:=λk=>if k=0 then 146 else match mg "parse_basic_str_escape_multiline" with | some (.ref a)=>a | _=>0,setv:=Ri,mpv:=97,toml:=C,tabPos:=Nt ((AR (nth 30)).getD 0 (.Pass default)),tabQ:=("suffixed_err":Str)++(".<locals>.":Str)++("coord_repr":Str),tabP:=P }
theorem Vm:(Bl.all λx=>!startupNames.contains x&&(!(looseW q10 Bt).contains x&&(!((recsOf q10).map (·.name)).contains x&&(!((litsOf q10).map (·.1)).contains x&&!((clssOf q10 (looseW q10 Bt)).map (·.name)).contains x))))=true:=by kernel_rfl
theorem V9 {os:OsState}{w:World}{mean:ExcName->Option Value}{mg mb:Str->Option Value}{h:Heap}{c P C:Addr}(T:Top q10 (looseW q10 Bt) mean mg mb h)(hT:TabsAt [(c,P)] h)(Y:Head10 w h mg)
  (hs:∃ a pm doc,mg "suffixed_err" = some (.ref a)/\FnAt (ghostOf h [(c,P)]) a (docDef (dOf "suffixed_err" 30).name (dOf "suffixed_err" 30).params (dOf "suffixed_err" 30).body (dOf "suffixed_err" 30).scope pm (.ref c) doc) Bz) :
  Mod { H:=Lc w mg mb C P,h₀:=ghostOf h [(c,P)],gens:=#[],os:=os }:=by
 have K:∀ b o,h.get? b=some o->o≠tabObj #[]->(ghostOf h [(c,P)]).get? b=some o:=λb o e n=>ghost_get hT e n
 refine {
  f_law_marked:=C3 (d:=dOf "_law_marked" 37) rfl T K (j:=15) (by kernel_rfl) rfl rfl rfl rfl λU U U=>TE λU U U=>rfl
  f_law_is_bare:=C3 (d:=dOf "_law_is_bare" 36) rfl T K (j:=14) (by kernel_rfl) rfl rfl rfl rfl λU U U=>TD λU=>rfl
  f_law_unit:=C3 (d:=dOf "_law_unit" 35) rfl T K (j:=13) (by kernel_rfl) rfl rfl rfl rfl λU U U=>O5 λU U=>rfl
  f_law_shortest:=C3 (d:=dOf "_law_shortest" 39) rfl T K (j:=17) (by kernel_rfl) rfl rfl rfl rfl λU U U=>TD λU=>rfl
  f_law_draw:=C3 (d:=dOf "_law_draw" 33) rfl T K (j:=11) (by kernel_rfl) rfl rfl rfl rfl λU U U=>O5 λU U=>rfl
  f_law_sign:=C3 (d:=dOf "_law_sign" 34) rfl T K (j:=12) (by kernel_rfl) rfl rfl rfl rfl λU U U=>TD λU=>rfl
  f_skip_chars:=C3 (d:=dOf "skip_chars" 21) rfl T K (j:=1) (by kernel_rfl) rfl rfl rfl rfl λU U U=>TE λU U U=>rfl
  f_skip_until:=C3 (d:=dOf "skip_until" 22) rfl T K (j:=2) (by kernel_rfl) rfl rfl rfl rfl λU U U=>Vj λU U U U U=>rfl
  f_parse_literal_str:=C3 (d:=dOf "parse_literal_str" 28) rfl T K (j:=7) (by kernel_rfl) rfl rfl rfl rfl λU U U=>O5 λU U=>rfl
  f_is_unicode_scalar_value:=C3 (d:=dOf "is_unicode_scalar_value" 31) rfl T K (j:=10) (by kernel_rfl) rfl rfl rfl rfl λU U U=>TD λU=>rfl
  f_parse_hex_char:=C3 (d:=dOf "parse_hex_char" 27) rfl T K (j:=6) (by kernel_rfl) rfl rfl rfl rfl λU U U=>TE λU U U=>rfl
  f_parse_basic_str:=C3 (d:=dOf "parse_basic_str" 29) rfl T K (j:=8) (by kernel_rfl) rfl rfl rfl rfl λU U U=>V4 λU U U=>rfl
  f_parse_one_line_basic_str:=C3 (d:=dOf "parse_one_line_basic_str" 24) rfl T K (j:=4) (by kernel_rfl) rfl rfl rfl rfl λU U U=>O5 λU U=>rfl
  f_parse_key_part:=C3 (d:=dOf "parse_key_part" 23) rfl T K (j:=3) (by kernel_rfl) rfl rfl rfl rfl λU U U=>O5 λU U=>rfl
  f_law_spells:=C3 (d:=dOf "_law_spells" 38) rfl T K (j:=16) (by kernel_rfl) rfl rfl rfl rfl λU U U=>O5 λU U=>rfl
  s_ILLEGAL_BASIC_STR_CHARS:=⟨72,Y.n0,rfl⟩
  s_ILLEGAL_LITERAL_STR_CHARS:=⟨72,Y.n1,rfl⟩
  s_ILLEGAL_MULTILINE_BASIC_STR_CHARS:=⟨77,Y.n2,rfl⟩
  s_TOML_WS:=⟨78,Y.n3,rfl⟩
  s_TOML_WS_AND_NEWLINE:=⟨86,Y.n4,rfl⟩
  s_HEXDIGIT_CHARS:=⟨91,Y.n5,rfl⟩
  s_BARE_KEY_CHARS:=⟨87,Y.n8,rfl⟩
  mp:=Y.n6
  v_parse_basic_str_escape:=Y.n7
  v_parse_basic_str_escape_multiline:=?_
  c_parse_basic_str_escape:=?_
  suf:=?_
  tabPos:=rfl }
 ·obtain ⟨a,pm,cd,doc,e1,F⟩:=UA (W:={ H:=Lc w mg mb C P,h₀:=ghostOf h [(c,P)],gens:=#[],os:=os }) (d:=dOf "parse_basic_str_escape_multiline" 26) (fi:={ scope:=AQ (nth 26),body:=AR (nth 26),params:=[],sc:=[] }) T K (j:=5) (by kernel_rfl) rfl rfl
  have e1:mg "parse_basic_str_escape_multiline" = some (.ref a):=e1
  show mg "parse_basic_str_escape_multiline" = some (.ref (if (1:Nat)=0 then 146 else match mg "parse_basic_str_escape_multiline" with | some (.ref a)=>a | _=>0))
  rw [e1];rfl
 ·obtain ⟨o,fd,d,m,h1,h2,h3,h4,h5,h6,h7,h8,h9,h10,h11,h12,h13,c',oc,vs,t,c1,c2,c3,c4,c5⟩:=Y.esc.keeps K
  refine ⟨fd,⟨⟨o,h1,h2⟩,h6,h5,h8,h7,h10,by rw [h3];exact ⟨c',oc,vs,t,c1,c2,c4,c5⟩⟩,rfl,λs ws ks k q1 q2=>?_⟩
  obtain ⟨nm,qn,pr,bd,sc,gl,clo,df,kd,dc,pm,an,co,ct,bu⟩:=fd
  dsimp only at h3 h4 h5 h6 h7 h8 h9 h10 h11 c1
  subst h3 h4 h5 h6 h7 h8 h9 h10 h11 c1
  obtain ⟨x,r1,rfl,p1⟩:=EL (n:=1) q1
  obtain ⟨y,r2,rfl,p2⟩:=EL (n:=0) p1
  cases eq_nil_of_length_eq_zero p2
  cases eq_nil_of_length_eq_zero q2
  exact Rh (x:="multiline") (h12.keeps k) h13 rfl rfl
 ·obtain ⟨a,pm,doc,e1,F⟩:=hs
  obtain ⟨X,_⟩:=hT _ (.head _)
  refine ⟨a,_,c,e1,F,⟨rfl,λs ws ks U q1 q2=>.of_eq ((TE (ps:=Bz.params) λU U U=>rfl:HR (docDef (dOf "suffixed_err" 30).name (dOf "suffixed_err" 30).params (dOf "suffixed_err" 30).body (dOf "suffixed_err" 30).scope pm (.ref c) doc) Bz.params 3 []) ws ks q1 q2)⟩,rfl,?_,rfl⟩
  exact (ghost_code hT).1
theorem NF {W:Wd}{h:Heap}{a:Addr}{o:Obj}{fd:FuncData}{fi:Fi}(K:∀ b o,h.get? b=some o->o≠tabObj #[]->W.h₀.get? b=some o)(e2:h.get? a=some o)(e3:o.data = .func fd)(h1:fd.scope=fi.scope)(h2:fd.body = .stmts fi.body)(h3:fd.closure=[])
  (h4:fd.globals=mainGlobals) (h5:fd.builtins=builtinsNs) (e4:h.CodeRec fd.code fd.qualname):FnAt W.h₀ a fd fi:=by
 obtain ⟨c,oc,vs,t,f1,f2,f3,f4⟩:=e4
 refine ⟨⟨o,K _ _ e2 (λz=>by rw [z] at e3;cases e3),e3⟩,h1,h2,h3,h4,h5,⟨c,oc,vs,t,f1,K _ _ f2 λz=>?_,f3,f4⟩⟩
 rw [z] at f3
 cases f3
 simp at f4
theorem TI {cw:ClaimW}{cl:Str->Option Addr}{mean:ExcName->Option Value}{args:List WData}{c0 s':Shared}{H:Hd}{c P:Addr}(hT:TabsAt [(c,P)] c0.heap)(hr:∀ cls,cw.raises args cls=false)(hp:cw.post args (.bool true) args=true)
  (hb:∀ b o,(ghostOf c0.heap [(c,P)]).get? b=some o->s'.heap.get? b=some o) (hP:Cv H s'.heap P) (hg:s'.gens = #[]) (hos:s'.os=c0.os):GoodWG cw cl mean args c0 (.ok (.ret (.bool true))) s':=by
 obtain ⟨ps,eP,_⟩:=hP
 have tP:=(hT _ (.head _)).2
 have keep:∀ b o,b≠P->c0.heap.get? b=some o->s'.heap.get? b=some o:=λb o n e=>hb b o (ghost_ne e (λm=>n (mem_singleton.mp m)))
 refine ⟨.inl ⟨_,.bool true,[],rfl,hr,.bool true,hp,λU=>⟨nodup_nil,λa m=>(by cases m)⟩⟩,⟨λb o e=>?_,λb o e=>?_⟩,hos,by rw [hg];exact .of_eq rfl⟩
 ·by_cases q:b=P
  ·subst q
   have e':c0.heap.get? b=some (tabObj #[]):=tP
   rw [e] at e'
   cases e'
   exact .inr (.inl ⟨((hT _ (.head _)).1.tab tP).isCodeTable,rfl,#[],ps,rfl,by rw [Array.empty_append];exact eP⟩)
  ·exact .inl (keep b o q e)
 ·by_cases q:b=P
  ·exact ⟨_,by rw [q];exact eP⟩
  ·exact ⟨o,keep b o q e⟩
theorem O7 (R:WRecords)(x:WCtx):(WShape.has R (.bool true) .bool&&(WTm.eq .res (.lit (.bool true))).holds R { x with res:=some (.bool true) })=true:=
 and_eq_true_iff.mpr ⟨rfl,holdsW_of_value (w_eq_bool (k:=true) (l:=true) rfl rfl)⟩
theorem Vn (plain:NE):Mh.Q9 q10 Bt (λU U=>True) TF rw_kp0046_10.row.toRowW (dOf "law" 40) [] λf vs=>PySem.call f vs:=by
 intro w W3 c0 mg mb G Y a o pm cd doc dV kV ho hd hcd hdf hmg hgens args vals as hpre hlay hrd hwell hsys
 obtain ⟨m,Y⟩:=Y
 obtain rfl:m=mg:=Y.ns.eq_nsMap.trans G.T.g.eq_nsMap.symm
 obtain ⟨p1,p2⟩:=pre_splitW hpre
 obtain ⟨L,vs,l,rfl,rfl,hL,hI⟩:=O6 p1 hrd
 have hlen:l.length<=63:=TH p2
 obtain ⟨K,ps',res⟩:=plain l hlen
 have hmem:dOf "suffixed_err" 30∈recsOf q10:=mem_of_getElem? (i:=9) (by kernel_rfl)
 obtain ⟨as,oS,fdS,c,P,t1,t2,t3,t4,t5,t6⟩:=G.T.tab _ hmem
 obtain ⟨a',o',pm',cd',doc',e1,e2,e3,e4⟩:=G.T.fn _ hmem
 rw [t1] at e1;cases e1
 rw [t2] at e2;cases e2
 rw [t3] at e3;cases e3
 have t4:cd' = .ref c:=t4
 subst t4
 have hT:TabsAt [(c,P)] c0.heap:=λq hq=>by
  obtain rfl:=mem_singleton.mp hq
  exact ⟨CodeHd.of t5 t6,t6.2⟩
 have K':∀ b o,c0.heap.get? b=some o->o≠tabObj #[]->(ghostOf c0.heap [(c,P)]).get? b=some o:=λb o e n=>ghost_get hT e n
 have Yg:=Y.keeps K'
 obtain ⟨C,k1,k2⟩:=Yg.cls
 have At:(Lc w m mb C P).At (ghostOf c0.heap [(c,P)]):=V8 hT G.T rfl rfl Vm k1 k2 Y.sys Yg.sets Yg.mp
 have Mo:Mod { H:=Lc w m mb C P,h₀:=ghostOf c0.heap [(c,P)],gens:=#[],os:=c0.os }:=
  V9 G.T hT Y ⟨as,pm',doc',t1,NF (W:={ H:=Lc w m mb C P,h₀:=ghostOf c0.heap [(c,P)],gens:=#[],os:=c0.os }) K' t2 t3 rfl rfl rfl rfl rfl e4⟩
 obtain ⟨d1,d2⟩:=hdf
 have dN:dV = .none:=by
  rcases d1 with q | q
  ·exact q.2
  ·exact absurd rfl q.1
 have kN:kV = .none:=by
  rcases d2 with q | q
  ·exact q.2
  ·exact absurd rfl q.1
 subst dN kN
 have F:=NF (W:={ H:=Lc w m mb C P,h₀:=ghostOf c0.heap [(c,P)],gens:=#[],os:=c0.os }) (fi:=HO) K' ho hd rfl rfl rfl rfl rfl hcd
 refine aX (Ra (W:={ H:=Lc w m mb C P,h₀:=ghostOf c0.heap [(c,P)],gens:=#[],os:=c0.os }) (P:=P) (n:=7) (l:=[.ints l]) (vs:=[.ref L]) (λb o e=>of_hideAll _ e) hgens rfl At ⟨#[],t6.2,.inl rfl⟩ (hideAll_none _ (mem_singleton.mpr rfl)) rfl F Vb (.of_eq rfl) rfl
  (.cons (.ints (ghost_list hT hL) hI) .nil) (by decide) (λfm' hs he hh=>V0 K Mo hs he hh) res) (λv s' z=>?_) λe s' z=>z.elim
 obtain ⟨⟨av,V,r⟩,z1,z2,z3,z4⟩:=z
 cases r
 exact ⟨TI (H:=Lc w m mb C P) hT (λU=>rfl) (O7 [] { args:=[.list (l.map .int)],after:=[.list (l.map .int)] }) z1 z2 z3 z4,z3⟩
theorem holds10 (plain:NE):rw_kp0046_10.Holds:=by
 refine holds_law (by kernel_rfl) λhw=>?_
 exact Mh.MC (q:=q10) (loose:=Bt) (g:=g10) (Mh.LO "comprehension-iter-twice" "special-get-raises" λb1 b2 w=>Mh.UY (by kernel_rfl) (λs=>rfl) (by kernel_rfl) (V7 b1 b2 w)) TG MK (d:=dOf "law" 40) (kwd:=[]) (by kernel_rfl) (by kernel_rfl) (by kernel_rfl) rfl rfl hw (by kernel_rfl) ⟨rfl,rfl,rfl,rfl,rfl,by kernel_rfl⟩ (RowW.promised_of_found (by kernel_rfl)) (Vn plain)
end Mi
end
section
open PySem PySem.W
set_option maxRecDepth 10000
namespace Mi
def Kx:Nat:=Classical.choose (show ∃ K,100000<K from ⟨100001,by decide⟩)
theorem BO:100000<Kx:=Classical.choose_spec (show ∃ K,100000<K from ⟨100001,by decide⟩)
def wp {V:Type}(m:M V)(s:PS)(Q:V->PS->Prop)(E:PX->PS->Prop):Prop:=match m s with
 | .ok a s'=>Q a s'
 | .ex e s'=>E e s'
 | .stuck=>False
section
variable {V β:Type}{s:PS}{loc:Nat->Option PV}{st:List (List PV)}
nonrec theorem wp_mono {m:M V}{Q Q':V->PS->Prop}{E E':PX->PS->Prop}(h:wp m s Q E)(hq:∀ a s',Q a s'->Q' a s')(he:∀ e s',E e s'->E' e s'):wp m s Q' E':=by
 unfold wp at h ⊢
 cases q:m s with
 | ok a s'=>rw [q] at h;exact hq _ _ h
 | ex e s'=>rw [q] at h;exact he _ _ h
 | stuck=>rw [q] at h;exact h
nonrec theorem wp_bind {m:M V}{f:V->M β}{Q:β->PS->Prop}{E:PX->PS->Prop}:wp (ac m f) s Q E=wp m s (λa s'=>wp (f a) s' Q E) E:=by
 unfold wp ac
 cases m s <;> rfl
theorem HS {a:V}{Q:V->PS->Prop}{E:PX->PS->Prop}:wp (ae a) s Q E=Q a s:=rfl
def upd (loc:Nat->Option PV)(i:Nat)(v:PV):Nat->Option PV:=λj=>if j=i then some v else loc j
def loc0 (l:List PV):Nat->Option PV:=λi=>l[i]?
theorem upd_eq {i:Nat}{v:PV}:upd loc i v i=some v:=by simp [upd]
theorem Ro {i j:Nat}{v:PV}(h:(j==i)=false):upd loc i v j=loc j:=by simp at h;simp [upd,h]
theorem NG {i:Nat}{Q:PV->PS->Prop}{E:PX->PS->Prop}:wp (af i) ⟨loc,st⟩ Q E=match loc i with | some v=>Q v ⟨loc,st⟩ | none=>False:=by
 unfold wp af
 dsimp only
 cases loc i <;> rfl
theorem Au {c:Bool}{m:M V}{Q:V->PS->Prop}{E:PX->PS->Prop}:wp (am c m) s Q E=(c=true/\wp m s Q E):=by
 unfold wp am
 cases c <;> simp
theorem JO {o:Option V}{Q:V->PS->Prop}{E:PX->PS->Prop}:wp (aw o) s Q E=match o with | some a=>Q a s | none=>False:=by
 unfold wp aw
 cases o <;> rfl
theorem Gj {t:Txt}{Q:PV->PS->Prop}{E:PX->PS->Prop}:wp (aA t) s Q E=(t.length<=big/\Q (.str t) s):=by
 unfold wp aA
 by_cases h:t.length<=big <;> simp [h]
theorem IY {l:List PV}{Q:PV->PS->Prop}{E:PX->PS->Prop}:wp (au l) ⟨loc,st⟩ Q E=(l.length<=big/\Q (.lst st.length) ⟨loc,st++[l]⟩):=by
 unfold wp au
 by_cases h:l.length<=big <;> simp [h]
theorem Co {i:Nat}{Q:List PV->PS->Prop}{E:PX->PS->Prop}:wp (aq i) ⟨loc,st⟩ Q E=match st[i]? with | some l=>Q l ⟨loc,st⟩ | none=>False:=by
 unfold wp aq
 dsimp only
 cases st[i]? <;> rfl
theorem Ld {b:Bool}{Q:Bool->PS->Prop}{E:PX->PS->Prop}:wp (tst (.bool b)) s Q E=Q b s:=rfl
theorem Le {m r:M PFlow}{Q:PFlow->PS->Prop}{E:PX->PS->Prop}:wp (ak m r) s Q E=wp m s (λf s'=>match f with | .next=>wp r s' Q E | .brk=>Q .brk s' | .cont=>Q .cont s' | .ret v=>Q (.ret v) s') E:=by
 unfold ak
 rw [wp_bind]
 congr 1
 funext f s'
 cases f <;> rfl
theorem TJ {m:M PFlow}{l:List PV}{Q:PV->PS->Prop}{E:PX->PS->Prop}:wp (ao m l) ⟨loc,st⟩ Q E=wp m ⟨loc0 l,st⟩ (λf s'=>Q (P9 f) ⟨loc,s'.st⟩) (λe s'=>E e ⟨loc,s'.st⟩):=by
 unfold wp ao loc0
 dsimp only
 cases m ⟨λi=>l[i]?,st⟩ <;> rfl
theorem Rp {m:M Txt}{l:List PV}{Q:Txt->PS->Prop}{E:PX->PS->Prop}:wp (aC m l) ⟨loc,st⟩ Q E=wp m ⟨loc0 l,st⟩ (λt s'=>Q t ⟨loc,s'.st⟩) (λe s'=>E e ⟨loc,s'.st⟩):=by
 unfold wp aC loc0
 dsimp only
 cases m ⟨λi=>l[i]?,st⟩ <;> rfl
theorem C4 {X:PX->Option (M PFlow)}{m:M PFlow}{Q:PFlow->PS->Prop}{E:PX->PS->Prop}:wp (aD X m) s Q E=wp m s Q (λe s'=>match X e with | some h=>wp h s' Q E | none=>False):=by
 unfold wp aD
 cases m s with
 | ok a s'=>rfl
 | stuck=>rfl
 | ex e s'=>
  dsimp only
  cases X e <;> rfl
theorem Lg {m:M PV}{r:List (M PV)}{Q:List PV->PS->Prop}{E:PX->PS->Prop}:wp (ah (m::r)) s Q E=wp m s (λv s'=>wp (ah r) s' (λvs s''=>Q (v::vs) s'') E) E:=by
 show wp (ac m λv=>ac (ah r) λvs=>ae (v::vs)) s Q E=_
 rw [wp_bind]
 congr 1
 funext v s'
 rw [wp_bind]
 rfl
theorem Lh {op:BoolOp}{Q:Bool->PS->Prop}{E:PX->PS->Prop}:wp (AC op []) s Q E=Q (op==.And) s:=rfl
theorem Bj {m:M Bool}{r:List (M Bool)}{Q:Bool->PS->Prop}{E:PX->PS->Prop}:wp (AC .And (m::r)) s Q E=wp m s (λb s'=>if b=true then wp (AC .And r) s' Q E else Q false s') E:=by
 show wp (ac m λb=>if Hn .And b then ae b else AC .And r) s Q E=_
 rw [wp_bind]
 congr 1
 funext b s'
 cases b <;> rfl
theorem Cp {m:M Bool}{r:List (M Bool)}{Q:Bool->PS->Prop}{E:PX->PS->Prop}:wp (AC .Or (m::r)) s Q E=wp m s (λb s'=>if b=true then Q true s' else wp (AC .Or r) s' Q E) E:=by
 show wp (ac m λb=>if Hn .Or b then ae b else AC .Or r) s Q E=_
 rw [wp_bind]
 congr 1
 funext b s'
 cases b <;> rfl
theorem Rq {m:M PV}{Q:Option Int->PS->Prop}{E:PX->PS->Prop}:wp (AP (some m)) s Q E=wp m s (λv s'=>match v with | .int i=>Q (some i) s' | _=>False) E:=by
 show wp (ac m λv=>match v with | .int i=>ae (some i) | _=>ar) s Q E=_
 rw [wp_bind]
 congr 1
 funext v s'
 cases v <;> rfl
variable {a b:Int}{x y:Txt}{Q:PV->PS->Prop}{E:PX->PS->Prop}
theorem TK:wp (AO .Add (.str x) (.str y)) s Q E=((x++y).length<=big/\Q (.str (x++y)) s):=Gj
theorem TL:wp (AO .Mult (.int a) (.int b)) s Q E=((small a||small b)=true/\Q (.int (a*b)) s):=Au
theorem TM:wp (AO .FloorDiv (.int a) (.int b)) s Q E=((b != 0&&small b)=true/\Q (.int (a.fdiv b)) s):=Au
theorem TN:wp (AO .Mod (.int a) (.int b)) s Q E=((b != 0&&small b)=true/\Q (.int (a.fmod b)) s):=Au
theorem TO:wp (AO .Pow (.int a) (.int b)) s Q E=((2<=a&&a<=16&&0<=b&&b<=16)=true/\Q (.int (a ^ b.toNat)) s):=Au
theorem Rs:wp (Cf .Add (.str x) (.str y)) s Q E=((x++y).length<=big/\Q (.str (x++y)) s):=Gj
theorem FK:wp (Ap false (.str x) (.int a)) s Q E=(small a=true/\match idx a x.length with | some j=>Q (.str [x.getD j 0]) s | none=>E (.std "IndexError") s):=by
 show wp (am (small a) _) s Q E=_
 rw [Au]
 congr 1
 cases idx a x.length <;> rfl
theorem O8 {i j:Option Int}:wp (A2 i j (.str x)) s Q E=((slc x i j).length<=big/\Q (.str (slc x i j)) s):=Gj
theorem TP:wp (Bp [.str x]) s Q E=(decide (x.length<=big)=true/\Q (.int x.length) s):=Au
theorem Vo:wp (On [.int a]) s Q E=((0<=a&&a<=1114111)=true/\Q (.str [a.toNat]) s):=Au
end
section
variable {V β:Type}{s:PS}{loc:Nat->Option PV}{st:List (List PV)}{a b:Int}{x y:Txt}{Q:PV->PS->Prop}{E:PX->PS->Prop}{QL:List PV->PS->Prop}{QA:V->PS->Prop}{QO:Option Int->PS->Prop}{QB:Bool->PS->Prop}
abbrev Kt (f:V->M β)(Q:β->PS->Prop)(E:PX->PS->Prop)(a:V)(s:PS):Prop:=wp (f a) s Q E
nonrec theorem KtI {f:V->M β}{a:V}{Q:β->PS->Prop}(h:wp (f a) s Q E):Kt f Q E a s:=h
nonrec theorem wpB {m:M V}{f:V->M β}{Q:β->PS->Prop}(h:wp m s (Kt f Q E) E):wp (ac m f) s Q E:=wp_bind▸h
nonrec theorem wpR {a:V}(h:QA a s):wp (ae a) s QA E:=h
nonrec theorem wpG {i:Nat}{v:PV}(g:loc i=some v)(h:Q v ⟨loc,st⟩):wp (af i) ⟨loc,st⟩ Q E:=by rw [NG,g];exact h
nonrec theorem wpSet {i:Nat}{v:PV}{Q:Unit->PS->Prop}(h:Q () ⟨upd loc i v,st⟩):wp (aj i v) ⟨loc,st⟩ Q E:=h
nonrec theorem wpO {c:Bool}{m:M V}(hc:c=true)(h:wp m s QA E):wp (am c m) s QA E:=by rw [Au];exact ⟨hc,h⟩
nonrec theorem wpSN (h:QL [] s):wp (ah []) s QL E:=h
abbrev Kc (Q:List PV->PS->Prop)(v:PV)(l:List PV)(s:PS):Prop:=Q (v::l) s
abbrev Ks (r:List (M PV))(Q:List PV->PS->Prop)(E:PX->PS->Prop)(v:PV)(s:PS):Prop:=wp (ah r) s (Kc Q v) E
nonrec theorem wpSC {m:M PV}{r:List (M PV)}(h:wp m s (Ks r QL E) E):wp (ah (m::r)) s QL E:=Lg▸h
nonrec theorem wpTb {c:Bool}(h:QB c s):wp (tst (.bool c)) s QB E:=h
nonrec theorem wpPN (h:QO none s):wp (AP none) s QO E:=h
nonrec theorem wpPI {m:M PV}(h:wp m s (λv s'=>∃ i,v = .int i/\QO (some i) s') E):wp (AP (some m)) s QO E:=by
 rw [Rq]
 refine wp_mono h (λv s' z=>?_) λU U z=>z
 obtain ⟨i,rfl,z⟩:=z
 exact z
nonrec theorem wpAI (h:Q (.int (a+b)) s):wp (AO .Add (.int a) (.int b)) s Q E:=h
nonrec theorem wpSI (h:Q (.int (a - b)) s):wp (AO .Sub (.int a) (.int b)) s Q E:=h
nonrec theorem wpAS (l:(x++y).length<=big)(h:Q (.str (x++y)) s):wp (AO .Add (.str x) (.str y)) s Q E:=by rw [TK];exact ⟨l,h⟩
theorem Wa (c:(small a||small b)=true)(h:Q (.int (a*b)) s):wp (AO .Mult (.int a) (.int b)) s Q E:=by rw [TL];exact ⟨c,h⟩
nonrec theorem wpDI (c:(b != 0&&small b)=true)(h:Q (.int (a.fdiv b)) s):wp (AO .FloorDiv (.int a) (.int b)) s Q E:=by rw [TM];exact ⟨c,h⟩
nonrec theorem wpModI (c:(b != 0&&small b)=true)(h:Q (.int (a.fmod b)) s):wp (AO .Mod (.int a) (.int b)) s Q E:=by rw [TN];exact ⟨c,h⟩
nonrec theorem wpgAI (h:Q (.int (a+b)) s):wp (Cf .Add (.int a) (.int b)) s Q E:=h
nonrec theorem wpgAS (l:(x++y).length<=big)(h:Q (.str (x++y)) s):wp (Cf .Add (.str x) (.str y)) s Q E:=by rw [Rs];exact ⟨l,h⟩
nonrec theorem wpEqI (h:Q (.bool (a==b)) s):wp (Aq .Eq (.int a) (.int b)) s Q E:=h
nonrec theorem wpEqS (h:Q (.bool (x==y)) s):wp (Aq .Eq (.str x) (.str y)) s Q E:=h
nonrec theorem wpNeI (h:Q (.bool (!(a==b))) s):wp (Aq .NotEq (.int a) (.int b)) s Q E:=h
nonrec theorem wpLtI (h:Q (.bool (decide (a<b))) s):wp (Aq .Lt (.int a) (.int b)) s Q E:=h
nonrec theorem wpLeI (h:Q (.bool (decide (a<=b))) s):wp (Aq .LtE (.int a) (.int b)) s Q E:=h
nonrec theorem wpGtI (h:Q (.bool (decide (a>b))) s):wp (Aq .Gt (.int a) (.int b)) s Q E:=h
nonrec theorem wpGeI (h:Q (.bool (decide (a≥b))) s):wp (Aq .GtE (.int a) (.int b)) s Q E:=h
nonrec theorem wpInF {k:Nat}(h:Q (.bool (G8 k x)) s):wp (Aq .In (.str x) (.fset k)) s Q E:=h
theorem Li {j:Nat}(c:small a=true)(e:idx a x.length=some j)(h:Q (.str [x.getD j 0]) s):wp (Ap false (.str x) (.int a)) s Q E:=by rw [FK,e];exact ⟨c,h⟩
theorem D0 {i j:Option Int}{t:Txt}(e:slc x i j=t)(l:t.length<=big)(h:Q (.str t) s):wp (A2 i j (.str x)) s Q E:=by subst e;rw [O8];exact ⟨l,h⟩
nonrec theorem wpLS (l:x.length<=big)(h:Q (.int x.length) s):wp (Bp [.str x]) s Q E:=by rw [TP];exact ⟨decide_eq_true l,h⟩
nonrec theorem wpOrd {c:Nat}(h:Q (.int c) s):wp (Oo [.str [c]]) s Q E:=h
theorem UC (c:(0<=a&&a<=1114111)=true)(h:Q (.str [a.toNat]) s):wp (On [.int a]) s Q E:=by rw [Vo];exact ⟨c,h⟩
nonrec theorem wpNeg (h:Q (.int (-a)) s):wp (OC (.int a)) s Q E:=h
nonrec theorem wpNL {l:List PV}(c:l.length<=big)(h:Q (.lst st.length) ⟨loc,st++[l]⟩):wp (au l) ⟨loc,st⟩ Q E:=by rw [IY];exact ⟨c,h⟩
nonrec theorem wpTup {l:List PV}(c:l.length<=big)(h:Q (.tup l) s):wp (He l) s Q E:=by
 show wp (am _ _) s Q E
 rw [Au];exact ⟨decide_eq_true c,h⟩
def Kn (r:M PFlow)(Q:PFlow->PS->Prop)(E:PX->PS->Prop)(f:PFlow)(s:PS):Prop:=match f with
 | .next=>wp r s Q E
 | .brk=>Q .brk s
 | .cont=>Q .cont s
 | .ret v=>Q (.ret v) s
nonrec theorem KnI {r:M PFlow}{Q:PFlow->PS->Prop}(h:wp r s Q E):Kn r Q E .next s:=h
theorem A1 {m r:M PFlow}{Q:PFlow->PS->Prop}(h:wp m s (Kn r Q E) E):wp (ak m r) s Q E:=by
 rw [Le]
 refine wp_mono h (λf s' z=>?_) λU U z=>z
 cases f <;> exact z
nonrec theorem wpN {m r:M PFlow}{Q:PFlow->PS->Prop}(P:PS->Prop)(h1:wp m s (λf s'=>f = .next/\P s') λU U=>False)(h2:∀ s',P s'->wp r s' Q E):wp (ak m r) s Q E:=by
 rw [Le]
 refine wp_mono h1 (λf s' z=>?_) λU U z=>z.elim
 obtain ⟨rfl,z⟩:=z
 exact h2 s' z
theorem WE {P:PS->Prop}(h:P s):wp (ae PFlow.next) s (λf s'=>f = .next/\P s') E:=⟨rfl,h⟩
end
abbrev Tb:=List (Option PV)
def Loc (t:Tb)(L:Nat->Option PV):Prop:=∀ i v,t[i]? = some (some v)->L i=some v
inductive At (st:List (List PV))(t:Tb)(s:PS):Prop
 | mk (L:Nat->Option PV) (e:s=⟨L,st⟩) (h:Loc t L):At st t s
section
variable {V β:Type}{s:PS}{loc:Nat->Option PV}{st:List (List PV)}{t:Tb}{Q:PV->PS->Prop}{E:PX->PS->Prop}
set_option tactic.hygienic true in
theorem Loc.set (h:Loc t loc)(i:Nat)(v:PV):Loc (t.set i (some v)) (upd loc i v):=λj w e=>by
 by_cases q:i=j
 ·subst q
  rw [List.getElem?_set] at e
  split at e
  ·split at e
   ·cases e;exact upd_eq
   ·cases e
  ·rename_i n;exact absurd rfl n
 ·rw [getElem?_set_ne q] at e
  rw [Ro (beq_eq_false_iff_ne.mpr λz=>q z.symm)];exact h j w e
set_option tactic.hygienic true in
theorem Loc.drop (h:Loc t loc)(i:Nat):Loc (t.set i none) loc:=λj w e=>by
 by_cases q:i=j
 ·subst q
  rw [List.getElem?_set] at e
  split at e
  ·split at e <;> cases e
  ·rename_i n;exact absurd rfl n
 ·rw [getElem?_set_ne q] at e;exact h j w e
theorem Loc.init (l:List PV)(n:Nat):Loc (l.map some++replicate n none) (loc0 l):=λi v e=>by
 unfold loc0
 by_cases q:i<l.length
 ·rw [getElem?_append_left (by simpa using q),getElem?_map] at e
  cases z:l[i]? with
  | none=>rw [z] at e;cases e
  | some w=>rw [z] at e;cases e;rfl
 ·rw [getElem?_append_right (by simpa using Nat.le_of_not_lt q),List.getElem?_replicate] at e
  split at e <;> cases e
nonrec theorem wpL {i:Nat}{v:PV}(h:Loc t loc)(e:t[i]? = some (some v))(k:Q v ⟨loc,st⟩):wp (af i) ⟨loc,st⟩ Q E:=wpG (h i v e) k
abbrev Kr (loc:Nat->Option PV)(Q:PV->PS->Prop)(f:PFlow)(s:PS):Prop:=Q (P9 f) ⟨loc,s.st⟩
abbrev Ke (loc:Nat->Option PV)(E:PX->PS->Prop)(e:PX)(s:PS):Prop:=E e ⟨loc,s.st⟩
theorem AY {m:M PFlow}{l:List PV}(n:Nat)(h:∀ L,Loc (l.map some++replicate n none) L->wp m ⟨L,st⟩ (Kr loc Q) (Ke loc E)):wp (ao m l) ⟨loc,st⟩ Q E:=by
 rw [TJ];exact h _ (Loc.init l n)
end
nonrec theorem wpA {m r:M PFlow}{s:PS}{Q:PFlow->PS->Prop}{E:PX->PS->Prop}(st:List (List PV))(t:Tb)(h1:wp m s (λf s'=>f = .next/\At st t s') λU U=>False)(h2:∀ L,Loc t L->wp r ⟨L,st⟩ Q E):wp (ak m r) s Q E:=
 wpN (At st t) h1 λU a=>by
  obtain ⟨L,e,B⟩:=a
  exact e▸h2 L B
theorem GP {x y:Txt}{a b:Nat}(hx:x.length<=a)(hy:y.length<=b)(h:a+b<=big):(x++y).length<=big:=by
 rw [length_append];exact aQ (Nat.add_le_add hx hy) h
theorem ES {x y:Txt}{a b:Nat}(hx:x.length<=a)(hy:y.length<=b):(x++y).length<=a+b:=by
 rw [length_append];exact Nat.add_le_add hx hy
theorem fuel {n k f:Nat}(h:n - k<f+1)(lt:k<n):n - (k+1)<f:=by exact la [_,_,_,_,_] [([2,3,0],[4,3,0]),([6,8,3,0,0],[10]),([10],[2,8,0])] ([6,3,0],[4]) rfl h (Mi.lcC (la [_,_] [([2,3,0],[4])] ([2,3,0],[4]) rfl lt)) (Mi.lcS _ _)
theorem UE {n f p q:Nat}(h:n<f+1+p)(l:p<q):n<f+q:=by exact la [_,_,_,_] [([2,3,0],[4,3,0,6,0]),([6,3,0],[8])] ([2,3,0],[4,8,0]) rfl h l
theorem BA {n:Nat}(h:n<=1000000):n<=big:=aQ h (by decide)
theorem isZ {a b:Nat}:((a:Int)==(b:Int))=decide (a=b):=by
 by_cases q:a=b
 ·subst q;simp
 ·rw [decide_eq_false q];exact aY.mpr λz=>q (Int.ofNat.inj z)
theorem AD {V:Type}{t:M Bool}{s:PS}{c:Bool}{m r:M V}{Q:V->PS->Prop}{E:PX->PS->Prop}(h:wp t s (λb s'=>b=c/\s'=s) λU U=>False)(h1:c=true->wp m s Q E)(h2:c=false->wp r s Q E):wp (ac t λb=>if b then m else r) s Q E:=by
 refine wpB (wp_mono h (λb s' z=>?_) λU U z=>z.elim)
 obtain ⟨rfl,rfl⟩:=z
 cases b
 ·exact h2 rfl
 ·exact h1 rfl
end Mi
end
section
open PySem PySem.W
set_option maxRecDepth 10000
set_option maxHeartbeats 1000000
namespace Mi
def BK (c:Nat):Bool:=c != 127&&(c==9||decide (32<=c))
theorem GY {m:M PV}{r:List (M PV)}{s:PS}{Q:PV->PS->Prop}{E:PX->PS->Prop}(h:r≠[]):wp (BC .And (m::r)) s Q E=wp m s (λv s'=>match truP v with | some true=>wp (BC .And r) s' Q E | some false=>Q v s' | none=>False) E:=by
 match r,h with
 | m'::r',_=>
  show wp (ac m λv=>ac (tst v) λb=>if Hn .And b then ae v else BC .And (m'::r')) s Q E=_
  rw [wp_bind]
  congr 1
  funext v s'
  rw [wp_bind]
  unfold tst
  rw [JO]
  cases truP v with
  | none=>rfl
  | some b=>cases b <;> rfl
theorem MM {m:M PV}{r:List (M PV)}{s:PS}{Q:PV->PS->Prop}{E:PX->PS->Prop}(h:r≠[]):wp (BC .Or (m::r)) s Q E=wp m s (λv s'=>match truP v with | some true=>Q v s' | some false=>wp (BC .Or r) s' Q E | none=>False) E:=by
 match r,h with
 | m'::r',_=>
  show wp (ac m λv=>ac (tst v) λb=>if Hn .Or b then ae v else BC .Or (m'::r')) s Q E=_
  rw [wp_bind]
  congr 1
  funext v s'
  rw [wp_bind]
  unfold tst
  rw [JO]
  cases truP v with
  | none=>rfl
  | some b=>cases b <;> rfl
inductive UnitOf (c:Nat):Txt->Prop
 | raw:BK c=true->c≠34->c≠92->UnitOf c [c]
 | short {d:Nat}:escT [92,d]=some [c]->d≠117->d≠85->UnitOf c [92,d]
 | four {h:Txt}:h.length=4->h.all hexd=true->hexval h=c->UnitOf c (92::117::h)
 | eight {h:Txt}:h.length=8->h.all hexd=true->hexval h=c->UnitOf c (92::85::h)
theorem NH {get:Nat->M (Option PV)}{t:PV->M Unit}{b:M PFlow}{Q:PFlow->PS->Prop}{E:PX->PS->Prop}(I:Nat->PS->Prop)(n:Nat)(p:Nat->PV)
  (hget:∀ k s,I k s->k<n->get k s = .ok (some (p k)) s) (hend:∀ s,I n s->get n s = .ok none s)
  (step:∀ k s,I k s->k<n->wp (t (p k)) s (λU s'=>wp b s' (λfl s''=>match fl with | .next=>I (k+1) s'' | .cont=>I (k+1) s'' | .brk=>Q .next s'' | .ret v=>Q (.ret v) s'') E) E)
  (fin:∀ s,I n s->Q .next s):∀ (f k:Nat) (s:PS),I k s->k<=n->n - k<f->wp (aE get t b f k) s Q E:=by
 intro f
 induction f with
 | zero=>exact λU U U U h=>absurd h (bv _)
 | succ f ih=>
  intro k s i hk h
  show wp (ac (get k) λo=>match o with
   | none=>ae .next
   | some p=>ac (t p) λU=>ac b λfl=>match fl with
    | .next=>aE get t b f (k+1)
    | .cont=>aE get t b f (k+1)
    | .brk=>ae .next
    | .ret v=>ae (.ret v)) s Q E
  rw [wp_bind]
  by_cases q:k=n
  ·subst q
   unfold wp
   rw [hend s i]
   exact fin s i
  ·have lt:k<n:=Nat.lt_of_le_of_ne hk q
   unfold wp
   rw [hget k s i lt]
   show wp _ s Q E
   dsimp only
   rw [wp_bind]
   refine wp_mono (step k s i lt) (λU s' z=>?_) λU U z=>z
   rw [wp_bind]
   refine wp_mono z (λfl s'' z=>?_) λU U z=>z
   cases fl with
   | next=>exact ih (k+1) s'' z lt (fuel h lt)
   | cont=>exact ih (k+1) s'' z lt (fuel h lt)
   | brk=>exact z
   | ret v=>exact z
theorem Ez {n k:Nat}{s:PS}(h:k<n):BX 0 (n:Int) k s = .ok (some (.int k)) s:=by
 unfold BX ae
 rw [if_pos (by lia)]
 simp
theorem EA {n:Nat}{s:PS}:BX 0 (n:Int) n s = .ok none s:=by
 unfold BX ae
 rw [if_neg (by lia)]
theorem Dv {n:Nat}{s:PS}{Q:(Nat->M (Option PV))->PS->Prop}{E:PX->PS->Prop}(h:n<1073741824):wp (B3 [.int n]) s Q E=Q (BX 0 n) s:=by
 show wp (am (small n) (ae (BX 0 n))) s Q E=_
 rw [Au]
 have:small (n:Int)=true:=by unfold small;simp;lia
 simp [this,HS]
def short (c:Nat):Option Nat:=if c=8 then some 98 else if c=9 then some 116 else if c=10 then some 110 else if c=12 then some 102 else if c=13 then some 114 else if c=34 then some 34 else if c=92 then some 92 else none
abbrev CM:PV:=.dct [.int 8,.int 9,.int 10,.int 12,.int 13,.int 34,.int 92] [.str [98],.str [116],.str [110],.str [102],.str [114],.str [34],.str [92]]
theorem HT (c:Nat):EH [.int 8,.int 9,.int 10,.int 12,.int 13,.int 34,.int 92] [.str [98],.str [116],.str [110],.str [102],.str [114],.str [34],.str [92]] (.int c)=some ((short c).map λd=>.str [d]):=by
 unfold short
 by_cases h1:c=8
 ·subst h1;rfl
 by_cases h2:c=9
 ·subst h2;rfl
 by_cases h3:c=10
 ·subst h3;rfl
 by_cases h4:c=12
 ·subst h4;rfl
 by_cases h5:c=13
 ·subst h5;rfl
 by_cases h6:c=34
 ·subst h6;rfl
 by_cases h7:c=92
 ·subst h7;rfl
 have go:∀ (k:Nat) ks v vs,c≠k->D4 (.int k::ks) (v::vs) (.int c)=D4 ks vs (.int c):=λk ks v vs h=>by
  show (match some ((k:Int)==(c:Int)) with
   | some true=>some (some v)
   | some false=>D4 ks vs (.int c)
   | none=>none)=_
  rw [show ((k:Int)==(c:Int))=false from beq_eq_false_iff_ne.mpr λz=>h (Int.ofNat.inj z).symm]
 rw [if_neg h1,if_neg h2,if_neg h3,if_neg h4,if_neg h5,if_neg h6,if_neg h7]
 exact (go 8 _ _ _ h1).trans ((go 9 _ _ _ h2).trans ((go 10 _ _ _ h3).trans ((go 12 _ _ _ h4).trans ((go 13 _ _ _ h5).trans ((go 34 _ _ _ h6).trans (go 92 _ _ _ h7))))))
theorem O9 {c d:Nat}(h:short c=some d):escT [92,d]=some [c]/\d≠117/\d≠85:=by
 unfold short at h
 by_cases h1:c=8
 ·subst h1;cases h;decide
 by_cases h2:c=9
 ·subst h2;cases h;decide
 by_cases h3:c=10
 ·subst h3;cases h;decide
 by_cases h4:c=12
 ·subst h4;cases h;decide
 by_cases h5:c=13
 ·subst h5;cases h;decide
 by_cases h6:c=34
 ·subst h6;cases h;decide
 by_cases h7:c=92
 ·subst h7;cases h;decide
 simp [h1,h2,h3,h4,h5,h6,h7] at h
local macro_rules | `(tactic| walk_at "wp") => do
 let a <- ("B SC SN R Set PN PI Tb AI SI AS gAS gAI gSI Neg EqI EqS NeI LtI LeI GtI GeI InSS InF Str LS NL Tup Ord".splitOn " ").toArray.mapM fun s=>`(Lean.Parser.Tactic.tacticSeq| apply $(Lean.mkIdent (.str `Mi ("wp"++s))))
 `(tactic| (repeat' first
  | (with_reducible first $[| $a]* | refine KnI ?_ | refine wpO rfl ?_ | refine ⟨_,rfl,?_⟩ | refine wpDI rfl ?_ | refine wpModI rfl ?_ | refine wpModI ?_ ?_)
  | refine wpL (by assumption) rfl ?_) <;> try with_reducible refine KtI ?_)
section
variable {V β:Type}{s S:PS}{E:PX->PS->Prop}
end
theorem BV {s:PS}{F:PX->PS->Prop}:wp (AC .And []) s (λc s'=>c=true/\s'=s) F:=⟨rfl,rfl⟩
theorem AX {m:M Bool}{r:List (M Bool)}{s:PS}{F:PX->PS->Prop}{B C:Bool}(h1:wp m s (λb s'=>b=B/\s'=s) F)(h2:B=true->wp (AC .And r) s (λb s'=>b=C/\s'=s) F):wp (AC .And (m::r)) s (λb s'=>b=(B&&C)/\s'=s) F:=by
 rw [Bj]
 refine wp_mono h1 (λb s' z=>?_) λU U z=>z
 obtain ⟨rfl,rfl⟩:=z
 cases b
 ·exact ⟨rfl,rfl⟩
 ·simpa using h2 rfl
theorem AM {i:Int}(h:i.natAbs<1073741824):small i=true:=by unfold small;simpa using h
theorem MN {c:Nat}{s:PS}{Q:PV->PS->Prop}{E:PX->PS->Prop}:wp (Aq .In (.int c) CM) s Q E=Q (.bool (short c).isSome) s:=by
 unfold wp
 have:Aq .In (.int c) CM s=R.ok (PV.bool (short c).isSome) s:=by
  show (ac (aw ((EH _ _ (.int c)).map (·.isSome))) λr=>ae (PV.bool r)) s=_
  rw [HT]
  cases short c <;> rfl
 rw [this]
theorem JP {c d:Nat}(h:short c=some d){s:PS}{Q:PV->PS->Prop}{E:PX->PS->Prop}:wp (Ap false CM (.int c)) s Q E=Q (.str [d]) s:=by
 unfold wp
 have:Ap false CM (.int c) s=R.ok (PV.str [d]) s:=by
  show aw ((EH _ _ (.int c)).bind id) s=_
  rw [HT,h]
  rfl
 rw [this]
theorem FL {i n:Nat}(h:i<n):idx (i:Int) n=some i:=by
 unfold idx
 rw [if_pos (by lia)]
 simp [h]
theorem FM (a b:Nat):Int.fmod (a:Int) (b:Int)=((a % b:Nat):Int):=by
 rw [Int.fmod_eq_emod_of_nonneg _ (by lia)];rfl
theorem Lj (a b:Nat):Int.fdiv (a:Int) (b:Int)=((a / b:Nat):Int):=by
 rw [Int.fdiv_eq_ediv_of_nonneg _ (by lia)];rfl
theorem Wb {a b:Int}{s:PS}{Q:PV->PS->Prop}{E:PX->PS->Prop}(c:(2<=a&&a<=16&&0<=b&&b<=16)=true)(h:Q (.int (a ^ b.toNat)) s):wp (AO .Pow (.int a) (.int b)) s Q E:=by rw [TO];exact ⟨c,h⟩
theorem FN {n:Nat}(h:n<10 ^ 10):(C7 (n:Int)).length<=10:=by
 have:(Nat.toDigits 10 n).length<=10:=(Nat.length_toDigits_le_iff (by decide) (by decide)).mpr h
 unfold C7
 rw [Str.ofString_eq_toList]
 show ((Nat.repr n).toList.map Char.toNat).length<=10
 rw [length_map]
 simpa [Nat.repr] using this
section
variable {s:PS}{x:Txt}{Q:PV->PS->Prop}{E:PX->PS->Prop}
theorem TQ:wp (EI (.str x)) s Q E=(x.length<=big/\Q (.str x) s):=Gj
theorem TR {i:Int}:wp (EI (.int i)) s Q E=(small i=true/\Q (.str (C7 i)) s):=Au
theorem TS:wp (Hf (.str x)) s Q E=((Bv x).length<=big/\Q (.str (Bv x)) s):=Gj
theorem Lk {acc:Txt}:wp (aB [] acc) s Q E=(acc.length<=big/\Q (.str acc) s):=Gj
theorem JQ {m:M PV}{r:List (M PV)}{acc:Txt}:wp (aB (m::r) acc) s Q E=wp m s (λv s'=>match v with | .str t=>(acc++t).length<=big/\wp (aB r (acc++t)) s' Q E | _=>False) E:=by
 show wp (ac m λv=>match v with
  | .str t=>am ((acc++t).length<=big) (aB r (acc++t))
  | _=>ar) s Q E=_
 rw [wp_bind]
 congr 1
 funext v s'
 cases v <;> first | rfl | skip
 dsimp only
 rw [Au]
 simp
theorem Rt {c:Nat}{b:Int}:wp (HE (.str x) [.str [c],.int 0,.int b]) s Q E=(((0:Int)==0&&0<=b&&small b)=true/\Q (.int (posns c x (min b.toNat x.length)).length) s):=Au
theorem Pa {c:Nat}{b:Int}:wp (FE (.str x) [.str [c],.int 0,.int b]) s Q E=(((0:Int)==0&&0<=b&&small b)=true/\match (posns c x (min b.toNat x.length)).getLast? with | some i=>Q (.int i) s | none=>False):=by
 show wp (am _ _) s Q E=_
 rw [Au]
 congr 1
 cases (posns c x (min b.toNat x.length)).getLast? <;> rfl
theorem Ru {Q:Txt->PS->Prop}:wp (Uv (.str x)) s Q E=Q x s:=rfl
end
def lineOf (x:Txt)(p:Nat):Nat:=1+(posns 10 x (min p x.length)).length
def Eh (x:Txt)(p:Nat):Int:=match (posns 10 x (min p x.length)).getLast? with
 | none=>(p:Int)+1
 | some i=>(p:Int) - i
def WF:Txt:=[101,110,100,32,111,102,32,100,111,99,117,109,101,110,116]
def UF:Txt:=[108,105,110,101,32]
def NI:Txt:=[44,32,99,111,108,117,109,110,32]
def Gk (x:Txt)(p:Nat):Txt:=if x.length<=p then WF else UF++C7 (lineOf x p)++NI++C7 (Eh x p)
def Ei (x:Txt)(p:Nat)(msg:Txt):Txt:=msg++[32,40,97,116,32]++Gk x p++[41]
theorem Rv {c:Nat}{x:Txt}{hi i:Nat}(h:i∈posns c x hi):i<hi:=by
 unfold posns at h
 simp at h
 exact h.1
theorem IZ {c:Nat}{x:Txt}{hi:Nat}:(posns c x hi).length<=hi:=by
 unfold posns
 refine aQ (length_filter_le _ _) ?_
 simp
set_option tactic.hygienic true in
theorem I4 {x:Txt}{p:Nat}:∃ n:Nat,Eh x p=n/\n<=p+1:=by
 unfold Eh
 split
 ·exact ⟨p+1,by exact rfl,aR _⟩
 ·rename_i i e
  have:=Rv (List.mem_of_getLast? e)
  exact ⟨p - i,by lia,by exact la [_,_] [([2],[4])] ([2],[4,3,0]) rfl (Nat.sub_le _ _)⟩
theorem Pb {x:Txt}{p:Nat}(hp:p<1000000000):(Gk x p).length<=40:=by
 unfold Gk
 split
 ·decide
 ·obtain ⟨n,e,hn⟩:=I4 (x:=x) (p:=p)
  have h1:(C7 (lineOf x p)).length<=10:=FN (by
   have:=IZ (c:=10) (x:=x) (hi:=min p x.length)
   unfold lineOf;lia)
  have h2:(C7 (Eh x p)).length<=10:=by rw [e];exact FN (by lia)
  simp [UF,NI]
  exact la [_,_] [([2],[21]),([4],[21])] ([2,4,3,0,3,0,3,0,3,0,3,0,3,0,3,0,3,0,3,0,0],[71]) rfl h1 h2
theorem TT {x:Txt}{c:Nat}{b:Int}{s:PS}{Q:PV->PS->Prop}{E:PX->PS->Prop}(k:((0:Int)==0&&0<=b&&small b)=true)(h:Q (.int (posns c x (min b.toNat x.length)).length) s):wp (HE (.str x) [.str [c],.int 0,.int b]) s Q E:=by rw [Rt];exact ⟨k,h⟩
theorem Vp {x:Txt}{c i:Nat}{b:Int}{s:PS}{Q:PV->PS->Prop}{E:PX->PS->Prop}(k:((0:Int)==0&&0<=b&&small b)=true)(e:(posns c x (min b.toNat x.length)).getLast? = some i)(h:Q (.int i) s):wp (FE (.str x) [.str [c],.int 0,.int b]) s Q E:=by rw [Pa,e];exact ⟨k,h⟩
theorem Rw {acc:Txt}{s:PS}{Q:PV->PS->Prop}{E:PX->PS->Prop}(l:acc.length<=big)(h:Q (.str acc) s):wp (aB [] acc) s Q E:=by rw [Lk];exact ⟨l,h⟩
theorem FO {m:M PV}{r:List (M PV)}{acc t:Txt}{s:PS}{Q:PV->PS->Prop}{E:PX->PS->Prop}(e:wp m s (λv s'=>v = .str t/\s'=s) λU U=>False)(l:(acc++t).length<=big)(h:wp (aB r (acc++t)) s Q E):wp (aB (m::r) acc) s Q E:=by
 rw [JQ]
 refine wp_mono e (λv s' z=>?_) λU U z=>z.elim
 obtain ⟨rfl,rfl⟩:=z
 exact ⟨l,h⟩
theorem Wc {i:Int}{s:PS}{Q:PV->PS->Prop}{E:PX->PS->Prop}(c:small i=true)(h:Q (.str (C7 i)) s):wp (EI (.int i)) s Q E:=by rw [TR];exact ⟨c,h⟩
theorem We {x:Txt}{s:PS}{Q:PV->PS->Prop}{E:PX->PS->Prop}(c:x.length<=big)(h:Q (.str x) s):wp (EI (.str x)) s Q E:=by rw [TQ];exact ⟨c,h⟩
theorem MO {x:Txt}{p:Nat}{loc:Nat->Option PV}{st:List (List PV)}{Q:PV->PS->Prop}{E:PX->PS->Prop}(hx:x.length<=big)(hp:p<1000000000)(hQ:Q (.str (Gk x p)) ⟨loc,st⟩):wp (ao BM [.str x,.int p]) ⟨loc,st⟩ Q E:=by
 have sp:small (p:Int)=true:=AM (bc hp (by decide))
 have cnt:((0:Int)==0&&decide (0<=(p:Int))&&small p)=true:=by rw [sp,decide_eq_true (Int.natCast_nonneg p)];rfl
 have hn:(posns 10 x (min p x.length)).length<=p:=aQ IZ (Nat.min_le_left ..)
 have lo:lineOf x p<=1000000000:=by unfold lineOf;rw [Nat.add_comm];exact bw hn hp
 refine AY 2 λL B=>?_
 unfold BM
 unfold Gk at hQ
 refine A1 ?_
 refine AD (c:=decide (x.length<=p)) ?_ (λh=>?_) (λh=>?_)
 ·walk_at "wp"
  ·exact hx
  refine ⟨?_,rfl⟩
  exact decide_eq_decide.mpr Int.ofNat_le
 ·rw [if_pos (of_decide_eq_true h)] at hQ
  walk_at "wp"
  exact hQ
 rw [if_neg (of_decide_eq_false h)] at hQ
 refine wpR ?_
 refine wpA st [some (.str x),some (.int p),some (.int (lineOf x p:Nat)),none] ?_ λL B=>?_
 ·walk_at "wp"
  refine TT cnt ?_
  walk_at "wp"
  rw [Int.toNat_natCast,show (((posns 10 x (min p x.length)).length:Nat):Int)+1=(lineOf x p:Nat) by unfold lineOf;rw [Int.natCast_add,Int.add_comm];rfl]
  exact ⟨rfl,(B.set 2 _ |> At.mk _ rfl)⟩
 refine wpA st [some (.str x),some (.int p),some (.int (lineOf x p:Nat)),some (.int (Eh x p))] ?_ λL B=>?_
 ·refine AD (c:=decide (lineOf x p=1)) (by walk_at "wp";exact ⟨isZ (b:=1),rfl⟩) (λq=>?_) (λq=>?_)
  ·have q:=aZ q
   have e:posns 10 x (min p x.length)=[]:=length_eq_zero_iff.mp (by unfold lineOf at q;exact Nat.add_left_cancel q)
   have ec:Eh x p=(p:Int)+1:=by unfold Eh;rw [e];rfl
   walk_at "wp"
   rw [ec]
   exact ⟨rfl,(B.set 3 _ |> At.mk _ rfl)⟩
  ·have q:=of_decide_eq_false q
   have e:(posns 10 x (min p x.length))≠[]:=λz=>q (by unfold lineOf;rw [z];rfl)
   have ec:Eh x p=(p:Int) - ((posns 10 x (min p x.length)).getLast e:Nat):=by unfold Eh;rw [List.getLast?_eq_some_getLast e]
   walk_at "wp"
   refine Vp cnt (by rw [Int.toNat_natCast];exact List.getLast?_eq_some_getLast e) ?_
   walk_at "wp"
   rw [ec]
   exact ⟨rfl,(B.set 3 _ |> At.mk _ rfl)⟩
 obtain ⟨n,ec,hc⟩:=I4 (x:=x) (p:=p)
 have nl:n<=1000000000:=aQ hc hp
 have l1:(C7 (lineOf x p:Nat)).length<=10:=FN (bw lo (by decide))
 have l2:(C7 (Eh x p)).length<=10:=by rw [ec];exact FN (bw nl (by decide))
 refine wpB (FO (wpR ⟨rfl,rfl⟩) (by decide) (FO (t:=C7 (lineOf x p:Nat)) (by walk_at "wp";exact Wc (AM (bw lo (by decide))) ⟨rfl,rfl⟩) (GP (show _<=5 by decide) l1 (by decide)) (FO (wpR ⟨rfl,rfl⟩) (GP (ES (show _<=5 by decide) l1) (show _<=9 by decide) (by decide))
  (FO (t:=C7 (Eh x p)) (by walk_at "wp";exact Wc (by rw [ec];exact AM (bw nl (by decide))) ⟨rfl,rfl⟩) (GP (ES (ES (show _<=5 by decide) l1) (show _<=9 by decide)) l2 (by decide)) (Rw (GP (ES (ES (show _<=5 by decide) l1) (show _<=9 by decide)) l2 (by decide)) ?_)))))
 walk_at "wp"
 exact hQ
theorem Cc {x msg:Txt}{p:Nat}{loc:Nat->Option PV}{st:List (List PV)}{Q:Txt->PS->Prop}{E:PX->PS->Prop}(hx:x.length<=big)(hp:p<1000000000)(hm:msg.length<=1000)(hQ:Q (Ei x p msg) ⟨loc,st⟩):wp (aC (EJ BM) [.str x,.int p,.str msg]) ⟨loc,st⟩ Q E:=by
 have cl:=Pb (x:=x) hp
 rw [Rp]
 have B:=Loc.init [.str x,.int p,.str msg] 0
 generalize loc0 [PV.str x,.int p,.str msg]=L at B
 unfold EJ
 have e1:((" (at ":Str).cps.toList:Txt)=[32,40,97,116,32]:=by kernel_rfl
 have e2:((")":Str).cps.toList:Txt)=[41]:=by kernel_rfl
 rw [e1,e2]
 refine wpB (FO (t:=msg) (by walk_at "wp";exact We (BA (aQ hm (by decide))) ⟨rfl,rfl⟩) (BA (aQ hm (by decide))) (FO (wpR ⟨rfl,rfl⟩) (GP (a:=1000) hm (show _<=5 by decide) (by decide)) (FO (t:=Gk x p) ?_ (GP (ES (a:=1000) hm (show _<=5 by decide)) cl (by decide))
  (FO (wpR ⟨rfl,rfl⟩) (GP (ES (ES (a:=1000) hm (show _<=5 by decide)) cl) (show _<=1 by decide) (by decide)) (Rw (GP (ES (ES (a:=1000) hm (show _<=5 by decide)) cl) (show _<=1 by decide) (by decide)) ?_)))))
 ·walk_at "wp"
  refine MO hx hp ?_
  exact We (BA (aQ cl (by decide))) ⟨rfl,rfl⟩
 ·refine KtI ?_
  rw [Ru]
  exact hQ
theorem Dw {t:M Bool}{b:M PFlow}{Q:PFlow->PS->Prop}{E:PX->PS->Prop}(I:Nat->PS->Prop)(n:Nat)
  (step:∀ k s,I k s->k<=n->wp t s (λc s'=>if c=true then wp b s' (λfl s''=>match fl with | .next=>k<n/\I (k+1) s'' | .cont=>k<n/\I (k+1) s'' | .brk=>Q .next s'' | .ret v=>Q (.ret v) s'') E else Q .next s') E) :
  ∀ (f k:Nat) (s:PS),I k s->k<=n->n - k<f->wp (ay t b f) s Q E:=by
 intro f
 induction f with
 | zero=>exact λU U U U h=>absurd h (bv _)
 | succ f ih=>
  intro k s i hk h
  show wp (ac t λc=>if c then ac b λfl=>match fl with
    | .next=>ay t b f
    | .cont=>ay t b f
    | .brk=>ae .next
    | .ret v=>ae (.ret v)
   else ae .next) s Q E
  rw [wp_bind]
  refine wp_mono (step k s i hk) (λc s' z=>?_) λU U z=>z
  cases c with
  | false=>exact z
  | true=>
   rw [if_pos rfl] at z
   rw [if_pos rfl,wp_bind]
   refine wp_mono z (λfl s'' z=>?_) λU U z=>z
   cases fl with
   | next=>exact ih (k+1) s'' z.2 z.1 (fuel h z.1)
   | cont=>exact ih (k+1) s'' z.2 z.1 (fuel h z.1)
   | brk=>exact z
   | ret v=>exact z
section
variable {s:PS}{x y:Txt}{Q:PV->PS->Prop}{E:PX->PS->Prop}
theorem Ll {p:Int}:wp (E5 false (.str x) [.str y,.int p]) s Q E=((decide (0<=p)&&small p)=true/\match findFrom x y p.toNat with | some i=>Q (.int i) s | none=>E (.std "ValueError") s):=by
 show wp (am _ _) s Q E=_
 rw [Au]
 congr 1
 cases findFrom x y p.toNat <;> rfl
end
theorem GZ {x:Txt}{c i:Nat}:AtT x [c] i↔x[i]? = some c:=by
 unfold AtT
 constructor
 ·rintro ⟨h1,h2⟩
  have:(x.drop i)[0]? = some c:=by
   cases q:x.drop i with
   | nil=>rw [q] at h2;cases h2
   | cons a r=>rw [q] at h2;simp at h2;rw [h2];rfl
  simpa using this
 ·intro h
  obtain ⟨lt,e⟩:=bf.mp h
  refine ⟨by simp;exact la [_,_] [([2,3,0],[4])] ([2,3,0],[4]) rfl lt,?_⟩
  rw [drop_eq_getElem_cons lt]
  simp [e]
theorem NJ {x:Txt}{c lo i:Nat}(h1:lo<=i)(h2:x[i]? = some c)(h3:∀ k,lo<=k->k<i->x[k]?≠some c):findFrom x [c] lo=some i:=by
 rcases Gc x [c] lo with ⟨e,n⟩ | ⟨j,e,q1,q2,q3⟩
 ·exact absurd (GZ.mpr h2) (n i h1)
 ·rw [e]
  congr 1
  rcases Nat.lt_trichotomy i j with q | q | q
  ·exact absurd (GZ.mpr h2) (q3 i h1 q)
  ·exact q.symm
  ·exact absurd (GZ.mp q2) (h3 j q1 q)
theorem TU {x:Txt}{c lo:Nat}(h:∀ k,lo<=k->x[k]?≠some c):findFrom x [c] lo=none:=by
 rcases Gc x [c] lo with ⟨e,n⟩ | ⟨j,e,q1,q2,q3⟩
 ·exact e
 ·exact absurd (GZ.mp q2) (h j q1)
theorem DU (x:Txt)(a b:Nat):slc x (some (a:Int)) (some (b:Int))=(x.take (min b x.length)).drop (min a x.length):=by
 unfold slc bnd
 simp only [Int.natCast_nonneg,if_true,Int.toNat_natCast]
def Wf:Txt:=[70,111,117,110,100,32,105,110,118,97,108,105,100,32,99,104,97,114,97,99,116,101,114,32]
def Wg:Txt:=[69,120,112,101,99,116,101,100,32]
def legal (c:Nat):Bool:=!Am 0 c
theorem NK {x:Txt}{p i:Nat}(f:Nat->Bool)(hi:i<=x.length):(slc x (some (p:Int)) (some (i:Int))).all f=true↔∀ k,p<=k->k<i->∀ c,x[k]? = some c->f c=true:=by
 rw [DU,Nat.min_eq_left hi,all_eq_true]
 constructor
 ·intro h k h1 h2 c hc
  refine h c ?_
  rw [List.mem_iff_getElem?]
  refine ⟨k - min p x.length,?_⟩
  have lt:=(bf.mp hc).1
  rw [getElem?_drop,List.getElem?_take]
  rw [if_pos (by exact la [_,_,_,_] [([2,3,0],[4]),([6,8,0],[2])] ([8,6,0,3,0],[4]) rfl h2 (Mi.lcC (la [_,_,_] [([2],[4]),([6],[2])] ([6],[4]) rfl h1 (Nat.min_le_left _ _)))),show min p x.length+(k - min p x.length)=k by exact Nat.le_antisymm (la [_,_,_] [([2,4,0],[6])] ([4,2,0],[6]) rfl (Mi.lcC (la [_,_,_] [([2],[4]),([6],[2])] ([6],[4]) rfl h1 (Nat.min_le_left _ _)))) (la [_,_,_] [([2],[4,6,0])] ([2],[6,4,0]) rfl (Mi.lcS _ _))]
  exact hc
 ·intro h c hc
  obtain ⟨j,hj⟩:=List.mem_iff_getElem?.mp hc
  rw [getElem?_drop,List.getElem?_take] at hj
  split at hj
  ·have lt:=(bf.mp hj).1
   exact h (min p x.length+j) (by lia) (by lia) c hj
  ·cases hj
theorem G0 {x:Txt}{a b:Option Int}:(slc x a b).length<=x.length:=by
 unfold slc
 exact aQ (by rw [length_drop];exact Nat.sub_le ..) (by rw [length_take];exact Nat.min_le_right ..)
theorem Dx {n:String}{h:M PFlow}:EN n h (.std n)=some h:=by unfold EN;simp
theorem Rx:Bv [39]=[34,39,34]:=by kernel_rfl
section
variable {p:Nat}{x:Txt}{loc:Nat->Option PV}{st:List (List PV)}{Q:PV->PS->Prop}{E:PX->PS->Prop}
theorem NM {y:Txt}{i:Nat}{p:Nat}{s:PS}(c:small (p:Int)=true)(e:findFrom x y p=some i)(h:Q (.int i) s):wp (E5 false (.str x) [.str y,.int p]) s Q E:=by
 rw [Ll,Int.toNat_natCast,e,c,decide_eq_true (Int.natCast_nonneg p)]
 exact ⟨rfl,h⟩
theorem Ry {y:Txt}{p:Nat}{s:PS}(c:small (p:Int)=true)(e:findFrom x y p=none)(h:E (.std "ValueError") s):wp (E5 false (.str x) [.str y,.int p]) s Q E:=by
 rw [Ll,Int.toNat_natCast,e,c,decide_eq_true (Int.natCast_nonneg p)]
 exact ⟨rfl,h⟩
theorem UG {k:Nat}{s:PS}(h:Q (.bool (x.all λc=>!Am k c)) s):wp (OH (.fset k) [.str x]) s Q E:=h
theorem RA {s:PS}(l:(Bv x).length<=big)(h:Q (.str (Bv x)) s):wp (Hf (.str x)) s Q E:=by rw [TS];exact ⟨l,h⟩
theorem Wh {k:Nat}{s:PS}(h:Q (.bool (!G8 k x)) s):wp (Aq .NotIn (.str x) (.fset k)) s Q E:=h
theorem G1 {c i:Nat}(h:x[i]? = some c):x.getD i 0=c:=by rw [getD_eq_getElem?_getD,h];rfl
abbrev tS (x:Txt)(p:Nat)(n:Option PV):Tb:=[some (.str x),some (.int p),some (.str [39]),some (.fset 0),some (.bool true),n]
theorem FP {a b:Option Int}(hx:x.length<=1000000):(slc x a b).length<=big:=BA (aQ G0 hx)
theorem MP {i:Nat}(hx:x.length<=1000000)(h1:p<=i)(h2:x[i]? = some 39)(h3:∀ k,p<=k->k<i->x[k]?≠some 39)(hl:∀ k,p<=k->k<i->∀ c,x[k]? = some c->legal c=true)(hQ:Q (.int i) ⟨loc,st⟩) :
  wp (ao (A4 Kx) [.str x,.int p,.str [39],.fset 0,.bool true]) ⟨loc,st⟩ Q E:=by
 have ltx:=(bf.mp h2).1
 have sp:small (p:Int)=true:=AM (by lia)
 have ha:=(NK (λc=>!Am 0 c) (br ltx)).mpr hl
 refine AY 1 λL B=>?_
 unfold A4
 refine wpA st (tS x p (some (.int i))) ?_ λL B=>?_
 ·rw [C4]
  walk_at "wp"
  refine NM sp (NJ h1 h2 h3) ?_
  walk_at "wp"
  exact ⟨rfl,(B.set 5 _ |> At.mk _ rfl)⟩
 refine A1 ?_
 refine AD (c:=false) ?_ (λh=>(by cases h)) (λU=>?_)
 ·walk_at "wp"
  refine D0 rfl (FP hx) ?_
  walk_at "wp"
  refine UG ?_
  rw [ha]
  walk_at "wp"
  exact ⟨rfl,rfl⟩
 ·refine wpR ?_
  walk_at "wp"
  exact hQ
theorem Pc (hx:x.length<=1000000)(hp:p<=1000000)(h3:∀ k,p<=k->x[k]?≠some 39)(hE:E (.toml (Ei x x.length (Wg++[34,39,34]))) ⟨loc,st⟩) :
  wp (ao (A4 Kx) [.str x,.int p,.str [39],.fset 0,.bool true]) ⟨loc,st⟩ Q E:=by
 have sp:small (p:Int)=true:=AM (bw hp (by decide))
 refine AY 1 λL B=>?_
 unfold A4
 refine A1 ?_
 rw [C4]
 walk_at "wp"
 refine Ry sp (TU h3) ?_
 rw [Dx]
 dsimp only
 refine wpA st (tS x p (some (.int x.length))) ?_ λL B=>?_
 ·walk_at "wp"
  ·exact BA hx
  exact ⟨rfl,(B.set 5 _ |> At.mk _ rfl)⟩
 refine AD (c:=true) (by walk_at "wp";exact ⟨rfl,rfl⟩) (λU=>?_) (λh=>(by cases h))
 walk_at "wp"
 refine FO (wpR ⟨rfl,rfl⟩) (by decide) (FO (t:=[34,39,34]) (by walk_at "wp";refine RA (by rw [Rx];decide) ?_;rw [Rx];exact ⟨rfl,rfl⟩) (by decide) (Rw (by decide) ?_))
 walk_at "wp"
 exact Cc (BA hx) (bw hx (by decide)) (by decide) hE
inductive SkI (st:List (List PV))(x:Txt)(p i k:Nat)(s:PS):Prop
 | mk (a:At st (tS x (p+k) (some (.int i))) s):SkI st x p i k s
theorem RB {i j b:Nat}(hx:x.length<=1000000)(hK:j+1<Kx+p)(h1:p<=i)(h2:x[i]? = some 39)(h3:∀ k,p<=k->k<i->x[k]?≠some 39)(j1:p<=j)(j2:j<i)(hj:x[j]? = some b)(hb:legal b=false)(hl:∀ k,p<=k->k<j->∀ c,x[k]? = some c->legal c=true)
  (hr:(Bv [b]).length<=100) (hE:E (.toml (Ei x j (Wf++Bv [b]))) ⟨loc,st⟩) :
  wp (ao (A4 Kx) [.str x,.int p,.str [39],.fset 0,.bool true]) ⟨loc,st⟩ Q E:=by
 have ltx:=(bf.mp h2).1
 have sp:small (p:Int)=true:=AM (by lia)
 have sm:∀ n,n<x.length->small (n:Int)=true:=λn h=>AM (bx h (aQ hx (by decide)))
 have ha:(slc x (some (p:Int)) (some (i:Int))).all (λc=>!Am 0 c)=false:=by
  cases q:(slc x (some (p:Int)) (some (i:Int))).all (λc=>!Am 0 c) with
  | false=>rfl
  | true=>
   have q:=(NK (λc=>!Am 0 c) (br ltx)).mp q j j1 j2 b hj
   exact absurd ((show legal b=true from q).symm.trans hb) (by decide)
 refine AY 1 λL B=>?_
 unfold A4 De
 refine wpA st (tS x p (some (.int i))) ?_ λL B=>?_
 ·rw [C4]
  walk_at "wp"
  refine NM sp (NJ h1 h2 h3) ?_
  walk_at "wp"
  exact ⟨rfl,(B.set 5 _ |> At.mk _ rfl)⟩
 refine A1 ?_
 refine AD (c:=true) ?_ (λU=>?_) (λh=>(by cases h))
 ·walk_at "wp"
  refine D0 rfl (FP hx) ?_
  walk_at "wp"
  refine UG ?_
  rw [ha]
  walk_at "wp"
  exact ⟨rfl,rfl⟩
 refine A1 ?_
 refine Dw (SkI st x p i) (j - p) (λk s z hk=>?_) Kx 0 _ (.mk (.mk L rfl B)) (aP _) (by lia)
 obtain ⟨L',rfl,B⟩:=z
 have lk:p+k<x.length:=by exact la [_,_,_,_,_,_] [([2,3,0],[4]),([4,3,0],[6]),([8],[10]),([10,12,0],[2])] ([12,8,0,3,0],[6]) rfl j2 ltx hk (Mi.lcC (la [_,_] [([2],[4])] ([2],[4]) rfl j1))
 have ek:x[p+k]? = some (x.getD (p+k) 0):=by rw [getD_eq_getElem?_getD,getElem?_eq_getElem lk];rfl
 walk_at "wp"
 refine Li (sm _ lk) (FL lk) ?_
 walk_at "wp"
 refine Wh ?_
 walk_at "wp"
 by_cases q:k=j - p
 ·have e:p+k=j:=by rw [q];exact Nat.add_sub_of_le j1
  rw [e] at lk B ⊢
  rw [G1 hj,show G8 0 [b]=true from (by unfold legal at hb;simpa using hb:Am 0 b=true)]
  rw [Bool.not_true,if_neg (by decide)]
  walk_at "wp"
  refine FO (wpR ⟨rfl,rfl⟩) (by decide) (FO (t:=Bv [b]) ?_ (GP (show _<=24 by decide) hr (by decide)) (Rw (GP (show _<=24 by decide) hr (by decide)) ?_))
  ·walk_at "wp"
   refine Li (sm _ lk) (FL lk) ?_
   rw [G1 hj]
   exact RA (BA (aQ hr (by decide))) ⟨rfl,rfl⟩
  walk_at "wp"
  exact Cc (BA hx) (bx lk (aQ hx (by decide))) (by rw [length_append];exact aQ (Nat.add_le_add (show _<=24 by decide) hr) (by decide)) hE
 ·have hk2:k<j - p:=Nat.lt_of_le_of_ne hk q
  have lg:=hl (p+k) (bz ..) (by exact la [_,_,_,_] [([2,3,0],[4]),([4,6,0],[8])] ([6,2,0,3,0],[8]) rfl hk2 (Mi.lcC (la [_,_] [([2],[4])] ([2],[4]) rfl j1))) _ ek
  rw [show G8 0 [x.getD (p+k) 0]=false from (by unfold legal at lg;simpa using lg:Am 0 _=false),Bool.not_false,if_pos rfl]
  walk_at "wp"
  exact ⟨hk2,.mk (B.set 1 _ |> At.mk _ rfl)⟩
theorem HU (hx:x.length<=1000000) (hs:∀ L,wp (ao (A4 Kx) [.str x,.int ((p+1:Nat):Int),.str [39],.fset 0,.bool true]) ⟨L,st⟩
   (λv s'=>∃ i:Nat,v = .int i/\s'=⟨L,st⟩/\Q (.tup [.int ((i+1:Nat):Int),.str (slc x (some ((p+1:Nat):Int)) (some (i:Int)))]) ⟨loc,st⟩) λe s'=>E e ⟨loc,s'.st⟩) :
  wp (ao (AE Kx) [.str x,.int p]) ⟨loc,st⟩ Q E:=by
 refine AY 1 λL B=>?_
 unfold AE
 refine wpA st [some (.str x),some (.int ((p+1:Nat):Int)),none] ?_ λL B=>?_
 ·walk_at "wp";exact ⟨rfl,(B.set 1 _ |> At.mk _ rfl)⟩
 refine wpA st [some (.str x),some (.int ((p+1:Nat):Int)),some (.int ((p+1:Nat):Int))] ?_ λL B=>?_
 ·walk_at "wp";exact ⟨rfl,(B.set 2 _ |> At.mk _ rfl)⟩
 refine A1 ?_
 walk_at "wp"
 refine wp_mono (hs L) (λv s' z=>?_) λU U z=>z
 obtain ⟨i,rfl,rfl,q⟩:=z
 have B:=B.set 1 (.int i)
 walk_at "wp"
 refine D0 rfl (FP hx) ?_
 walk_at "wp"
 ·exact (show 2<=big by decide)
 exact q
end
def Vq:Txt:=[73,110,118,97,108,105,100,32,104,101,120,32,118,97,108,117,101]
def UH:Txt:=[85,110,101,115,99,97,112,101,100,32,39,92,39,32,105,110,32,97,32,115,116,114,105,110,103]
def Al (c:Nat):Prop:=c<=55295\/(57344<=c/\c<=1114111)
section
variable {p:Nat}{x:Txt}{loc:Nat->Option PV}{st:List (List PV)}{Q:PV->PS->Prop}{E:PX->PS->Prop}
theorem NN {s:PS}(c:(!x.isEmpty&&x.all hexd&&decide (x.length<=640))=true)(h:Q (.int (hexval x)) s):wp (Tp [.str x,.int 16]) s Q E:=by
 rw [show wp (Tp [.str x,.int 16]) s Q E=(((16:Int)==16&&!x.isEmpty&&x.all hexd&&decide (x.length<=640))=true/\Q (.int (hexval x)) s) from Au]
 exact ⟨c,h⟩
theorem G2 {s:PS}{a b c:Int}(h:Q (.bool (decide (a<=b)&&decide (b<=c))) s):wp (Ga .LtE .LtE (.int a) (.int b) (ae (.int c))) s Q E:=by
 unfold Ga
 refine wpB (wpLeI (wpB (wpTb ?_)))
 cases q:decide (a<=b)
 ·rw [q] at h;exact h
 ·rw [q] at h;exact h
theorem UI {m m':M PV}{s:PS}(h:wp m s (λv s'=>∃ b,v = .bool b/\(if b=true then Q v s' else wp m' s' Q E)) E):wp (BC .Or [m,m']) s Q E:=by
 rw [MM (by exact nofun)]
 refine wp_mono h (λv s' z=>?_) λU U z=>z
 obtain ⟨b,rfl,z⟩:=z
 cases b <;> exact z
theorem NO {m:M Bool}{r:List (M Bool)}{s:PS}{Q:Bool->PS->Prop}(h:wp m s (λb s'=>if b=true then Q true s' else wp (AC .Or r) s' Q E) E):wp (AC .Or (m::r)) s Q E:=Cp▸h
theorem Wj {b:Bool}(h:(!b)=false):b=true:=by cases b <;> first | rfl | cases h
theorem UJ {k:Nat}{s:PS}(h:Q (.bool (x.all λc=>Am k c)) s):wp (OI (.fset k) [.str x]) s Q E:=h
set_option tactic.hygienic true in
theorem Lm {c:Nat}(h:Al c)(hQ:Q (.bool true) ⟨loc,st⟩):wp (ao (AA Kx) [.int c]) ⟨loc,st⟩ Q E:=by
 refine AY 0 λL B=>?_
 unfold AA
 refine wpB (UI ?_)
 walk_at "wp"
 refine G2 ⟨_,rfl,?_⟩
 rw [decide_eq_true (Int.natCast_nonneg c),Bool.true_and]
 rcases h with h | h
 ·rw [decide_eq_true (show (c:Int)<=55295 from Int.ofNat_le.mpr h),if_pos rfl]
  exact hQ
 ·split
  ·rename_i z
   rw [z]
   exact hQ
  walk_at "wp"
  refine G2 ?_
  rw [decide_eq_true (show (57344:Int)<=c from Int.ofNat_le.mpr h.1),decide_eq_true (show (c:Int)<=1114111 from Int.ofNat_le.mpr h.2)]
  exact hQ
abbrev tH (x:Txt)(p n:Nat)(h v:Option PV):Tb:=[some (.str x),some (.int p),some (.int n),h,v]
theorem hex_go {n:Nat}{h:Txt}(hx:x.length<=1000000)(hp:p<=1000000)(hn:n=4\/n=8)(hs:slc x (some (p:Int)) (some ((p+n:Nat):Int))=h)(B:Bool)(hB:B=(!decide (h.length=n)||!h.all hexd))
  (k1:B=false->Al (hexval h)/\Q (.tup [.int ((p+n:Nat):Int),.str [hexval h]]) ⟨loc,st⟩) (k2:B=true->E (.toml (Ei x p Vq)) ⟨loc,st⟩):wp (ao (Av Kx) [.str x,.int p,.int n]) ⟨loc,st⟩ Q E:=by
 have hl:h.length<=1000000:=hs▸aQ G0 hx
 refine AY 2 λL aO=>?_
 unfold Av
 refine wpA st (tH x p n (some (.str h)) none) ?_ λL aO=>?_
 ·walk_at "wp"
  refine D0 hs (BA hl) ?_
  walk_at "wp"
  exact ⟨rfl,(aO.set 3 _ |> At.mk _ rfl)⟩
 refine A1 ?_
 refine AD (c:=B) ?_ (λhb=>?_) (λhb=>?_)
 ·refine NO ?_
  walk_at "wp"
  ·exact BA hl
  walk_at "wp"
  rw [isZ]
  cases q:decide (h.length=n)
  ·rw [q] at hB;exact ⟨hB.symm,rfl⟩
  ·rw [q] at hB
   rw [Bool.not_true,if_neg (by decide)]
   refine NO ?_
   walk_at "wp"
   refine UJ ?_
   walk_at "wp"
   rw [show (h.all λc=>Am 4 c)=h.all hexd from rfl]
   rw [Bool.not_true,Bool.false_or] at hB
   subst hB
   cases h.all hexd
   ·exact ⟨rfl,rfl⟩
   ·exact ⟨rfl,rfl⟩
 ·walk_at "wp"
  exact Cc (BA hx) (bw hp (by decide)) (by decide) (k2 hb)
 obtain ⟨s1,s2⟩:=k1 hb
 rw [hb] at hB
 have hB:=or_eq_false_iff.mp hB.symm
 have h1:h.length=n:=aZ (Wj hB.1)
 have h2:h.all hexd=true:=Wj hB.2
 refine wpR ?_
 refine wpA st (tH x (p+n) n (some (.str h)) none) ?_ λL aO=>?_
 ·walk_at "wp"
  exact ⟨rfl,(aO.set 1 _ |> At.mk _ rfl)⟩
 refine wpA st (tH x (p+n) n (some (.str h)) (some (.int (hexval h)))) ?_ λL aO=>?_
 ·walk_at "wp"
  refine NN ?_ ?_
  ·have ne:h.isEmpty=false:=by cases h with
    | nil=>rcases hn with rfl | rfl <;> cases h1
    | cons=>rfl
   rw [ne,h2,h1,decide_eq_true (show n<=640 by lia)];rfl
  walk_at "wp"
  exact ⟨rfl,(aO.set 4 _ |> At.mk _ rfl)⟩
 refine A1 ?_
 refine AD (c:=false) ?_ (λh=>(by cases h)) (λU=>?_)
 ·walk_at "wp"
  refine Lm s1 ?_
  walk_at "wp"
  exact ⟨rfl,rfl⟩
 refine wpR ?_
 have sc:hexval h<=1114111:=s1.elim (λh=>aQ h (by decide)) λh=>h.2
 walk_at "wp"
 refine UC (by rw [decide_eq_true (Int.natCast_nonneg _),decide_eq_true (show (hexval h:Int)<=1114111 from Int.ofNat_le.mpr sc)];rfl) ?_
 walk_at "wp"
 ·exact (show 2<=big by decide)
 exact s2
theorem FQ {n:Nat}{h:Txt}(hx:x.length<=1000000)(hp:p<=1000000)(hn:n=4\/n=8)(hs:slc x (some (p:Int)) (some ((p+n:Nat):Int))=h) :
  ((h.length=n/\h.all hexd=true)->Al (hexval h)->Q (.tup [.int ((p+n:Nat):Int),.str [hexval h]]) ⟨loc,st⟩->wp (ao (Av Kx) [.str x,.int p,.int n]) ⟨loc,st⟩ Q E) /\
  (¬ (h.length=n/\h.all hexd=true)->E (.toml (Ei x p Vq)) ⟨loc,st⟩->wp (ao (Av Kx) [.str x,.int p,.int n]) ⟨loc,st⟩ Q E):=by
 refine ⟨λq sc hQ=>hex_go hx hp hn hs false (by rw [q.2,decide_eq_true q.1];rfl) (λU=>⟨sc,hQ⟩) (λh=>(by cases h)),λq hE=>hex_go hx hp hn hs true ?_ (λh=>(by cases h)) λU=>hE⟩
 by_cases q1:h.length=n
 ·cases q2:h.all hexd with
  | true=>exact absurd ⟨q1,q2⟩ q
  | false=>rw [Bool.not_false,Bool.or_true]
 ·rw [decide_eq_false q1];rfl
theorem RC {s:PS}:wp (Ap false .mp (.str x)) s Q E=match escT x with | some t=>Q (.str t) s | none=>E (.std "KeyError") s:=by
 show wp (match escT x with
  | some t=>ae (PV.str t)
  | none=>aJ false "KeyError") s Q E=_
 cases escT x <;> rfl
theorem Vr {m:M Bool}{r:List (M Bool)}{s:PS}{Q:Bool->PS->Prop}(h:wp m s (λb s'=>if b=true then wp (AC .And r) s' Q E else Q false s') E):wp (AC .And (m::r)) s Q E:=Bj▸h
abbrev tEs (x:Txt)(p:Nat)(e:Option PV):Tb:=[some (.str x),some (.int p),some (.bool false),e]
theorem FR {e:Txt}(hx:x.length<=1000000)(hp:p<=1000000)(he:slc x (some (p:Int)) (some ((p+2:Nat):Int))=e)
  (h4:e=[92,117]->∀ L,wp (ao (Av Kx) [.str x,.int ((p+2:Nat):Int),.int (4:Nat)]) ⟨L,st⟩ (λv s'=>Q v ⟨loc,s'.st⟩) (λe s'=>E e ⟨loc,s'.st⟩))
  (h8:e=[92,85]->∀ L,wp (ao (Av Kx) [.str x,.int ((p+2:Nat):Int),.int (8:Nat)]) ⟨L,st⟩ (λv s'=>Q v ⟨loc,s'.st⟩) (λe s'=>E e ⟨loc,s'.st⟩))
  (hk:e≠[92,117]->e≠[92,85]->match escT e with | some t=>Q (.tup [.int ((p+2:Nat):Int),.str t]) ⟨loc,st⟩ | none=>E (.toml (Ei x (p+2) UH)) ⟨loc,st⟩) :
  wp (ao (Ar Kx) [.str x,.int p,.bool false]) ⟨loc,st⟩ Q E:=by
 have hl:e.length<=1000000:=he▸aQ G0 hx
 refine AY 1 λL B=>?_
 unfold Ar
 refine wpA st (tEs x p (some (.str e))) ?_ λL B=>?_
 ·walk_at "wp"
  refine D0 he (BA hl) ?_
  walk_at "wp"
  exact ⟨rfl,(B.set 3 _ |> At.mk _ rfl)⟩
 refine wpA st (tEs x (p+2) (some (.str e))) ?_ λL B=>?_
 ·walk_at "wp"
  exact ⟨rfl,(B.set 1 _ |> At.mk _ rfl)⟩
 refine A1 ?_
 refine AD (c:=false) (Vr (by walk_at "wp";exact ⟨rfl,rfl⟩)) (λh=>(by cases h)) (λU=>wpR ?_)
 refine A1 ?_
 refine AD (c:=(e==[92,117])) (by walk_at "wp";exact ⟨rfl,rfl⟩) (λh=>?_) (λn4=>wpR ?_)
 ·walk_at "wp"
  exact h4 (eq_of_beq h) L
 refine A1 ?_
 refine AD (c:=(e==[92,85])) (by walk_at "wp";exact ⟨rfl,rfl⟩) (λh=>?_) (λn8=>wpR ?_)
 ·walk_at "wp"
  exact h8 (eq_of_beq h) L
 have hk:=hk (ne_of_beq_false n4) (ne_of_beq_false n8)
 refine KnI ?_
 rw [C4]
 walk_at "wp"
 rw [RC]
 cases q:escT e with
 | some t=>
  rw [q] at hk
  dsimp only
  walk_at "wp"
  ·exact (show 2<=big by decide)
  exact hk
 | none=>
  rw [q] at hk
  dsimp only
  rw [Dx]
  dsimp only
  walk_at "wp"
  exact Cc (BA hx) (bw (Nat.add_le_add_right hp 2) (by decide)) (by decide) hk
end
def TV:Txt:=[85,110,116,101,114,109,105,110,97,116,101,100,32,115,116,114,105,110,103]
def Vs:Txt:=[73,108,108,101,103,97,108,32,99,104,97,114,97,99,116,101,114,32]
def UK (x:Txt)(p p':Nat)(t:Txt):Prop:=∀ (loc:Nat->Option PV) (st:List (List PV)) (Q:PV->PS->Prop) (E:PX->PS->Prop),Q (.tup [.int p',.str t]) ⟨loc,st⟩->wp (ao (Ar Kx) [.str x,.int p,.bool false]) ⟨loc,st⟩ Q E
def MQ (x:Txt)(p:Nat)(t:Txt):Prop:=∀ (loc:Nat->Option PV) (st:List (List PV)) (Q:PV->PS->Prop) (E:PX->PS->Prop),E (.toml t) ⟨loc,st⟩->wp (ao (Ar Kx) [.str x,.int p,.bool false]) ⟨loc,st⟩ Q E
inductive BOut where
 | ok (i:Nat) (D:Txt)
 | err (t:Txt)
inductive Bas (x:Txt):Nat->Txt->BOut->Prop
 | eof {D:Txt}:Bas x x.length D (.err (Ei x x.length TV))
 | quote {p:Nat} {D:Txt}:x[p]? = some 34->Bas x p D (.ok (p+1) D)
 | esc {p p':Nat} {D t:Txt} {o:BOut}:x[p]? = some 92->UK x p p' t->t.length=1->p<p'->p'<=x.length->Bas x p' (D++t) o->Bas x p D o
 | escBad {p:Nat} {D t:Txt}:x[p]? = some 92->MQ x p t->Bas x p D (.err t)
 | bad {p c:Nat} {D:Txt}:x[p]? = some c->c≠34->c≠92->Am 0 c=true->(Bv [c]).length<=100->Bas x p D (.err (Ei x p (Vs++Bv [c])))
 | raw {p c:Nat} {D:Txt} {o:BOut}:x[p]? = some c->c≠34->c≠92->Am 0 c=false->Bas x (p+1) (D++[c]) o->Bas x p D o
theorem Vt (Kx:Nat):BD Kx=ak (ac ((ac (af 2) tst)) λc=>if c then (ak (ac (ae (.fset 1)) λa=>ac (aj 3 a) λU=>ae .next)
  (ac (ae (.fn 1)) λa=>ac (aj 4 a) λU=>ae .next)) else (ak (ac (ae (.fset 0)) λa=>ac (aj 3 a) λU=>ae .next)
  (ac (ae (.fn 0)) λa=>ac (aj 4 a) λU=>ae .next)))
  (ak (ac (ae (.str [])) λa=>ac (aj 5 a) λU=>ae .next)
  (ak (ac (af 1) λa=>ac (aj 6 a) λU=>ae .next)
  (ay ((ac (ae (.bool true)) tst)) (Aj Kx) Kx))):=rfl
theorem Ln (x:Txt)(p:Nat):slc x (some (p:Int)) (some (p:Int))=[]:=by
 rw [DU]
 apply eq_nil_of_length_eq_zero
 simp only [length_drop,length_take]
 lia
theorem RD {x:Txt}{sp p c:Nat}(h:sp<=p)(hc:x[p]? = some c):slc x (some (sp:Int)) (some ((p+1:Nat):Int))=slc x (some (sp:Int)) (some (p:Int))++[c]:=by
 have lt:=(bf.mp hc).1
 rw [DU,DU,Nat.min_eq_left (by exact la [_,_] [([2,3,0],[4])] ([2,3,0],[4]) rfl lt:p+1<=x.length),Nat.min_eq_left (by exact la [_,_] [([2,3,0],[4])] ([2],[4]) rfl lt:p<=x.length),Nat.min_eq_left (by exact la [_,_,_] [([2],[4]),([4,3,0],[6])] ([2],[6]) rfl h lt:sp<=x.length),List.take_succ,hc]
 rw [List.drop_append_of_le_length (by simp;lia)]
 rfl
theorem EB {b:M PFlow}{f:Nat}{s:PS}{Q:PFlow->PS->Prop}{E:PX->PS->Prop} (h:wp b s (λfl s'=>match fl with
  | .next=>wp (ay ((ac (ae (.bool true)) tst)) b f) s' Q E
  | .cont=>wp (ay ((ac (ae (.bool true)) tst)) b f) s' Q E
  | .brk=>Q .next s'
  | .ret v=>Q (.ret v) s') E):wp (ay ((ac (ae (.bool true)) tst)) b (f+1)) s Q E:=by
 show wp (ac (ac (ae (.bool true)) tst) λc=>if c then ac b λfl=>match fl with
    | .next=>ay ((ac (ae (.bool true)) tst)) b f
    | .cont=>ay ((ac (ae (.bool true)) tst)) b f
    | .brk=>ae .next
    | .ret v=>ae (.ret v)
   else ae .next) s Q E
 rw [wp_bind,wp_bind,HS,Ld,if_pos rfl,wp_bind]
 refine wp_mono h (λfl s' z=>?_) λU U z=>z
 cases fl <;> exact z
theorem Vu {m1 m2:M PV}{s:PS}{Q:PV->PS->Prop}{E:PX->PS->Prop}:wp (aM (Vc Kx) [m1,m2] (.fn 0)) s Q E=wp (ac (ah [m1,m2]) λl=>ao (Ar Kx) (l++[.bool false])) s Q E:=rfl
theorem Fn {f g:PV->M Unit}{a b:PV}{s:PS}{Q:Unit->PS->Prop}{E:PX->PS->Prop}:wp (aH [f,g] (.tup [a,b])) s Q E=wp (f a) s (λU s'=>wp (g b) s' (λU s''=>Q () s'') E) E:=by
 show wp (am true (ac (f a) λU=>ac (g b) λU=>ae ())) s Q E=_
 rw [Au,wp_bind]
 simp only [true_and,wp_bind,HS]
abbrev tBs (x:Txt)(p:Nat)(R:Txt)(sp:Nat)(c t:Option PV):Tb:=[some (.str x),some (.int p),some (.bool false),some (.fset 0),some (.fn 0),some (.str R),some (.int sp),c,t]
section
variable {p sp c:Nat}{x R D:Txt}{L:Nat->Option PV}{st:List (List PV)}{Q:PFlow->PS->Prop}{E:PX->PS->Prop}
theorem RE (hx:x.length<=1000000)(hc:x[p]? = some c):p<1000000000:=bx (bf.mp hc).1 (aQ hx (by decide))
theorem Gl {X:PX->Option (M PFlow)}{r:M PFlow}(hx:x.length<=1000000)(hc:x[p]? = some c)(B:Loc (tBs x p R sp none none) L)(h:∀ L,Loc (tBs x p R sp (some (.str [c])) none) L->wp r ⟨L,st⟩ Q E) :
  wp (ak (aD X ((ac ((ac (af 0) λa=>ac (af 1) λb=>Ap false a b)) λa=>ac (aj 7 a) λU=>ae .next))) r) ⟨L,st⟩ Q E:=by
 refine A1 ?_
 rw [C4]
 walk_at "wp"
 refine Li (AM (bc (RE hx hc) (by decide))) (FL (bf.mp hc).1) ?_
 rw [G1 hc]
 walk_at "wp"
 exact h _ (B.set 7 _)
theorem RG (hx:x.length<=1000000)(B:Loc (tBs x x.length R sp none none) L)(hE:E (.toml (Ei x x.length TV)) ⟨L,st⟩):wp (Aj Kx) ⟨L,st⟩ Q E:=by
 unfold Aj
 have lt:x.length<1000000000:=bw hx (by decide)
 have ix:idx (x.length:Int) x.length=none:=by unfold idx;rw [if_pos (Int.natCast_nonneg _),if_neg (by rw [Int.toNat_natCast];exact Nat.lt_irrefl _)]
 refine A1 ?_
 rw [C4]
 walk_at "wp"
 rw [FK,ix]
 refine ⟨AM (bc lt (by decide)),?_⟩
 dsimp only
 rw [Dx]
 dsimp only
 walk_at "wp"
 exact Cc (BA hx) lt (by decide) hE
theorem RH (hx:x.length<=1000000)(hp:p<=x.length){l:Nat}(hl:l<=p):l<=big:=BA (aQ hl (aQ hp hx))
theorem MR (hx:x.length<=1000000)(hp:p<=x.length)(hc:x[p]? = some 34)(B:Loc (tBs x p R sp none none) L)(hD:R++slc x (some (sp:Int)) (some (p:Int))=D)(hl:D.length<=p)(hQ:∀ L',Q (.ret (.tup [.int ((p+1:Nat):Int),.str D])) ⟨L',st⟩) :
  wp (Aj Kx) ⟨L,st⟩ Q E:=by
 unfold Aj
 refine Gl hx hc B λL B=>?_
 refine A1 ?_
 refine AD (c:=true) (by walk_at "wp";exact ⟨rfl,rfl⟩) (λU=>?_) (λh=>(by cases h))
 refine A1 ?_
 refine AD (c:=true) (by walk_at "wp";exact ⟨rfl,rfl⟩) (λU=>?_) (λh=>(by cases h))
 walk_at "wp"
 refine D0 rfl (FP hx) ?_
 walk_at "wp"
 ·rw [hD];exact RH hx hp hl
 ·exact (show 2<=big by decide)
 rw [hD]
 exact hQ _
theorem Lo (hx:x.length<=1000000)(hc:x[p]? = some 92)(B:Loc (tBs x p R sp none none) L)(hD:R++slc x (some (sp:Int)) (some (p:Int))=D)(hl:D.length<=p)
  (h:∀ L,wp (ao (Ar Kx) [.str x,.int p,.bool false]) ⟨L,st⟩ (λv s'=>∃ (p':Nat) (t:Txt),v = .tup [.int p',.str t]/\s'=⟨L,st⟩/\t.length=1/\∀ L',Loc (tBs x p' (D++t) p' none none) L'->Q .cont ⟨L',st⟩) E) :
  wp (Aj Kx) ⟨L,st⟩ Q E:=by
 unfold Aj
 have hp:=br (bf.mp hc).1
 refine Gl hx hc B λL B=>?_
 refine A1 ?_
 refine AD (c:=false) (by walk_at "wp";exact ⟨rfl,rfl⟩) (λh=>(by cases h)) (λU=>wpR ?_)
 refine A1 ?_
 refine AD (c:=true) (by walk_at "wp";exact ⟨rfl,rfl⟩) (λU=>?_) (λh=>(by cases h))
 refine wpA st (tBs x p D sp none none) ?_ λL B=>?_
 ·walk_at "wp"
  refine D0 rfl (FP hx) ?_
  walk_at "wp"
  ·rw [hD];exact RH hx hp hl
  rw [hD]
  exact ⟨rfl,((B.set 5 _).drop 7 |> At.mk _ rfl)⟩
 refine A1 ?_
 walk_at "wp"
 rw [Vu]
 walk_at "wp"
 refine wp_mono (h L) (λv s' z=>?_) λU U z=>z
 obtain ⟨p',t,rfl,rfl,ht,k⟩:=z
 refine wpB ?_
 rw [Fn]
 have B:=((B.set 1 (.int p')).set 8 (.str t))
 walk_at "wp"
 refine A1 ?_
 walk_at "wp"
 ·rw [length_append,ht];exact BA (bw hl (bx (bf.mp hc).1 hx))
 have B:=B.set 5 (.str (D++t))
 refine A1 ?_
 walk_at "wp"
 exact k _ ((B.set 6 _).drop 8)
theorem HV (hx:x.length<=1000000)(hc:x[p]? = some c)(n1:c≠34)(n2:c≠92)(B:Loc (tBs x p R sp none none) L)(h1:Am 0 c=true->(Bv [c]).length<=100/\∀ L',E (.toml (Ei x p (Vs++Bv [c]))) ⟨L',st⟩)
  (h2:Am 0 c=false->∀ L',Loc (tBs x (p+1) R sp none none) L'->Q .next ⟨L',st⟩):wp (Aj Kx) ⟨L,st⟩ Q E:=by
 unfold Aj
 refine Gl hx hc B λL B=>?_
 have ne:∀ d,c≠d->([c]==[d])=false:=λd h=>aY.mpr λe=>h (List.cons.inj e).1
 refine A1 ?_
 refine AD (c:=false) (by walk_at "wp";exact ⟨ne 34 n1,rfl⟩) (λh=>(by cases h)) (λU=>wpR ?_)
 refine A1 ?_
 refine AD (c:=false) (by walk_at "wp";exact ⟨ne 92 n2,rfl⟩) (λh=>(by cases h)) (λU=>wpR ?_)
 refine A1 ?_
 refine AD (c:=Am 0 c) (by walk_at "wp";exact ⟨rfl,rfl⟩) (λe=>?_) (λe=>wpR ?_)
 ·obtain ⟨hr,hE⟩:=h1 e
  walk_at "wp"
  refine FO (wpR ⟨rfl,rfl⟩) (by decide) (FO (t:=Bv [c]) ?_ (GP (show _<=18 by decide) hr (by decide)) (Rw (GP (show _<=18 by decide) hr (by decide)) ?_))
  ·walk_at "wp"
   exact RA (BA (aQ hr (by decide))) ⟨rfl,rfl⟩
  walk_at "wp"
  exact Cc (BA hx) (RE hx hc) (by rw [length_append];exact aQ (Nat.add_le_add (show _<=18 by decide) hr) (by decide)) (hE _)
 ·walk_at "wp"
  exact h2 e _ ((B.set 1 _).drop 7)
end
theorem RI {x:Txt}(hx:x.length<=1000000){st:List (List PV)}{Q:PFlow->PS->Prop}{E:PX->PS->Prop}:∀ {p:Nat} {D:Txt} {o:BOut},Bas x p D o->(match o with | .ok i D'=>∀ L',Q (.ret (.tup [.int i,.str D'])) ⟨L',st⟩ | .err t=>∀ L',E (.toml t) ⟨L',st⟩) ->
  ∀ {f:Nat} {L:Nat->Option PV} {R:Txt} {sp:Nat},p<=x.length->x.length+1<f+p->Loc (tBs x p R sp none none) L->sp<=p->R++slc x (some (sp:Int)) (some (p:Int))=D->D.length<=p ->
   wp (ay ((ac (ae (.bool true)) tst)) (Aj Kx) f) ⟨L,st⟩ Q E:=by
 have pos:∀ {f p:Nat},p<=x.length->x.length+1<f+p->∃ g,f=g+1:=λ{f p} h1 h2=>by
  cases f with
  | zero=>lia
  | succ g=>exact ⟨g,rfl⟩
 intro p D o b
 induction b with
 | @eof D=>
  intro hQ f L R sp hp hf B hsp hD hl
  obtain ⟨f,rfl⟩:=pos hp hf
  exact EB (RG hx B (hQ _))
 | @quote p D hc=>
  intro hQ f L R sp hp hf B hsp hD hl
  obtain ⟨f,rfl⟩:=pos hp hf
  exact EB (MR hx hp hc B hD hl hQ)
 | @esc p p' D t o hc he ht lt' le' b ih=>
  intro hQ f L R sp hp hf B hsp hD hl
  obtain ⟨f,rfl⟩:=pos hp hf
  refine EB (Lo hx hc B hD hl λL=>he L st _ _ ⟨p',t,rfl,rfl,ht,λL' B=>?_⟩)
  exact ih hQ le' (UE hf lt') B (aR _) (by rw [Ln,append_nil]) (by rw [length_append,ht];exact bw hl lt')
 | @escBad p D t hc he=>
  intro hQ f L R sp hp hf B hsp hD hl
  obtain ⟨f,rfl⟩:=pos hp hf
  exact EB (Lo hx hc B hD hl λL=>he L st _ _ (hQ _))
 | @bad p c D hc n1 n2 hs hr=>
  intro hQ f L R sp hp hf B hsp hD hl
  obtain ⟨f,rfl⟩:=pos hp hf
  exact EB (HV hx hc n1 n2 B (λU=>⟨hr,hQ⟩) λe=>nomatch hs.symm.trans e)
 | @raw p c D o hc n1 n2 hs b ih=>
  intro hQ f L R sp hp hf B hsp hD hl
  obtain ⟨f,rfl⟩:=pos hp hf
  refine EB (HV hx hc n1 n2 B (λe=>nomatch hs.symm.trans e) λU L' B=>?_)
  refine ih hQ (bf.mp hc).1 (UE hf (bp p)) B (Nat.le_succ_of_le hsp) ?_ (by rw [length_append];exact bA hl)
  rw [RD hsp hc,<- append_assoc,hD]
section
variable {p:Nat}{x:Txt}{loc:Nat->Option PV}{st:List (List PV)}{Q:PV->PS->Prop}{E:PX->PS->Prop}
theorem RJ {o:BOut}(hx:x.length<=1000000)(hp:p<=x.length)(hK:x.length+1<Kx)(b:Bas x p [] o)(hQ:match o with | .ok i D=>Q (.tup [.int i,.str D]) ⟨loc,st⟩ | .err t=>E (.toml t) ⟨loc,st⟩) :
  wp (ao (BD Kx) [.str x,.int p,.bool false]) ⟨loc,st⟩ Q E:=by
 refine AY 6 λL B=>?_
 rw [Vt]
 refine A1 ?_
 refine AD (c:=false) (by walk_at "wp";exact ⟨rfl,rfl⟩) (λh=>(by cases h)) (λU=>?_)
 refine A1 ?_
 walk_at "wp"
 have B:=(B.set 3 (.fset 0)).set 4 (.fn 0)
 refine wpA st [some (.str x),some (.int p),some (.bool false),some (.fset 0),some (.fn 0),some (.str []),none,none,none] (by walk_at "wp";exact ⟨rfl,(B.set 5 _ |> At.mk _ rfl)⟩) λL B=>?_
 refine wpA st (tBs x p [] p none none) (by walk_at "wp";exact ⟨rfl,(B.set 6 _ |> At.mk _ rfl)⟩) λL B=>?_
 refine RI hx b ?_ (R:=[]) (sp:=p) hp (bx hK (bz ..)) B (aR _) (by rw [Ln];rfl) (aP _)
 cases o with
 | ok i D=>exact λL'=>hQ
 | err t=>exact λL'=>hQ
theorem Ct {o:BOut}(hx:x.length<=1000000)(hp:p+1<=x.length)(hK:x.length+1<Kx)(b:Bas x (p+1) [] o)(hQ:match o with | .ok i D=>Q (.tup [.int i,.str D]) ⟨loc,st⟩ | .err t=>E (.toml t) ⟨loc,st⟩) :
  wp (ao (Ak Kx) [.str x,.int p]) ⟨loc,st⟩ Q E:=by
 refine AY 0 λL B=>?_
 unfold Ak
 refine wpA st [some (.str x),some (.int ((p+1:Nat):Int))] (by walk_at "wp";exact ⟨rfl,(B.set 1 _ |> At.mk _ rfl)⟩) λL B=>?_
 walk_at "wp"
 refine RJ hx hp hK b ?_
 cases o with
 | ok i D=>exact hQ
 | err t=>exact hQ
end
theorem C5 {x y z:Txt}{p n:Nat}(h:x.drop p=y++z)(hp:p<=x.length)(hn:y.length=n):slc x (some (p:Int)) (some ((p+n:Nat):Int))=y:=by
 have hl:(x.drop p).length=y.length+z.length:=by rw [h,length_append]
 rw [length_drop] at hl
 rw [DU,Nat.min_eq_left (by exact la [_,_,_,_,_,_] [([2],[4]),([4,6,0],[8]),([8,10,0],[12])] ([10,2,0],[12]) rfl (Nat.le_of_eq hn.symm) (Nat.le_of_eq hl.symm) (Mi.lcC (la [_,_] [([2],[4])] ([2],[4]) rfl hp)):p+n<=x.length),Nat.min_eq_left hp,List.drop_take]
 rw [h,show p+n - p=n by exact Nat.le_antisymm (la [_,_,_] [([2,4,0],[4,6,0])] ([2],[6]) rfl (Mi.lcC (la [_,_] [] ([2],[2,4,0]) rfl))) (la [_,_,_] [([2,4,0],[6,2,0])] ([4],[6]) rfl (Mi.lcS _ _)),<- hn]
 simp
theorem Bu {x z:Txt}{p c:Nat}(h:x.drop p=c::z):x[p]? = some c:=by
 have:(x.drop p)[0]? = some c:=by rw [h];rfl
 simpa using this
theorem Aw {x y z:Txt}{p:Nat}(h:x.drop p=y++z):x.drop (p+y.length)=z:=by
 rw [<- List.drop_drop,h];simp
theorem Bc {x z:Txt}{p c:Nat}(h:x.drop p=c::z):p<x.length:=(bf.mp (Bu h)).1
section
variable {x:Txt}{p c:Nat}{t rest:Txt}
theorem RK (hx:x.length<=1000000)(hc:Al c)(u:UnitOf c t)(h:x.drop p=t++rest)(h0:x[p]? = some 92)(n92:c=92->t≠[92]):UK x p (p+t.length) [c]:=by
 have lt:=(bf.mp h0).1
 intro loc st Q E hQ
 cases u with
 | raw h1 h2 h3=>
  have:=Bu (x:=x) (p:=p) (c:=c) (z:=rest) h
  rw [h0] at this
  cases this
  exact absurd rfl h3
 | @short d h1 h2 h3=>
  refine FR hx (by exact la [_,_] [([2],[2000001]),([4,3,0],[2])] ([4],[2000001]) rfl hx lt) (C5 (n:=2) h (by exact la [_,_] [([2,3,0],[4])] ([2],[4]) rfl lt) rfl) (λe=>?_) (λe=>?_) (λU U=>?_)
  ·simp at e;exact absurd e h2
  ·simp at e;exact absurd e h3
  ·rw [h1];exact hQ
 | @four hh h1 h2 h3=>
  have hd:x.drop p=[92,117]++(hh++rest):=h
  have hd2:x.drop (p+2)=hh++rest:=Aw hd
  have hl:(x.drop p).length=2+(hh.length+rest.length):=by rw [hd];simp;exact bg (la [_,_] [] ([2,4,0,3,0,3,0],[5,2,4,0,0]) rfl) (la [_,_] [] ([5,2,4,0,0],[2,4,0,3,0,3,0]) rfl)
  rw [length_drop] at hl
  refine FR hx (by exact la [_,_,_] [([2],[2000001]),([4,6,0],[2])] ([6],[2000001]) rfl hx (Mi.lcC (la [_,_] [([2,3,0],[4])] ([2],[4]) rfl lt))) (C5 (n:=2) hd (by exact la [_,_,_] [([2,4,0],[6])] ([4],[6]) rfl (Mi.lcC (la [_,_] [([2,3,0],[4])] ([2],[4]) rfl lt))) rfl) (λe L=>?_) (λe=>?_) (λe=>absurd rfl e)
  ·refine (FQ (h:=hh) (n:=4) hx (by exact la [_,_,_,_,_] [([2],[2000001]),([5,4,6,0,0],[8]),([8,10,0],[2])] ([10,5,0],[2000001]) rfl hx (aS hl.symm) (Mi.lcC (la [_,_] [([2,3,0],[4])] ([2],[4]) rfl lt))) (.inl rfl) (C5 (n:=4) hd2 (by exact la [_,_,_,_,_] [([5,2,4,0,0],[6]),([6,8,0],[10])] ([8,5,0],[10]) rfl (aS hl.symm) (Mi.lcC (la [_,_] [([2,3,0],[4])] ([2],[4]) rfl lt))) h1)).1 ⟨h1,h2⟩ (h3▸hc) ?_
   rw [h3]
   have e:p+2+4=p+(92::117::hh).length:=by simp [h1]
   rw [e]
   exact hQ
  ·simp at e
 | @eight hh h1 h2 h3=>
  have hd:x.drop p=[92,85]++(hh++rest):=h
  have hd2:x.drop (p+2)=hh++rest:=Aw hd
  have hl:(x.drop p).length=2+(hh.length+rest.length):=by rw [hd];simp;exact bg (la [_,_] [] ([2,4,0,3,0,3,0],[5,2,4,0,0]) rfl) (la [_,_] [] ([5,2,4,0,0],[2,4,0,3,0,3,0]) rfl)
  rw [length_drop] at hl
  refine FR hx (by exact la [_,_,_] [([2],[2000001]),([4,6,0],[2])] ([6],[2000001]) rfl hx (Mi.lcC (la [_,_] [([2,3,0],[4])] ([2],[4]) rfl lt))) (C5 (n:=2) hd (by exact la [_,_,_] [([2,4,0],[6])] ([4],[6]) rfl (Mi.lcC (la [_,_] [([2,3,0],[4])] ([2],[4]) rfl lt))) rfl) (λe=>?_) (λe L=>?_) (λU e=>absurd rfl e)
  ·simp at e
  ·refine (FQ (h:=hh) (n:=8) hx (by exact la [_,_,_,_,_] [([2],[2000001]),([5,4,6,0,0],[8]),([8,10,0],[2])] ([10,5,0],[2000001]) rfl hx (aS hl.symm) (Mi.lcC (la [_,_] [([2,3,0],[4])] ([2],[4]) rfl lt))) (.inr rfl) (C5 (n:=8) hd2 (by exact la [_,_,_,_,_] [([5,2,4,0,0],[6]),([6,8,0],[10])] ([8,5,0],[10]) rfl (aS hl.symm) (Mi.lcC (la [_,_] [([2,3,0],[4])] ([2],[4]) rfl lt))) h1)).1 ⟨h1,h2⟩ (h3▸hc) ?_
   rw [h3]
   have e:p+2+8=p+(92::85::hh).length:=by simp [h1]
   rw [e]
   exact hQ
end
inductive Units:Txt->List Txt->Prop
 | nil:Units [] []
 | cons {c:Nat} {t cs:Txt} {ts:List Txt} (hc:Al c) (u:UnitOf c t) (r:Units cs ts):Units (c::cs) (t::ts)
theorem GB {c:Nat}(h:BK c=true):Am 0 c=false:=by
 unfold BK at h
 simp only [and_eq_true,bne_iff_ne,ne_eq,or_eq_true,beq_iff_eq,decide_eq_true_eq] at h
 show (ctl c&&c != 9)=false
 unfold ctl
 by_cases q:c=9
 ·subst q;rfl
 ·have h1:¬ c<32:=by lia
  simp [h1,h.1]
theorem Pd {c:Nat}{t:Txt}(u:UnitOf c t):(t=[c]/\BK c=true/\c≠34/\c≠92)\/∃ r,t=92::r/\r≠[]:=by
 cases u with
 | raw h1 h2 h3=>exact .inl ⟨rfl,h1,h2,h3⟩
 | short h1 h2 h3=>exact .inr ⟨_,rfl,cons_ne_nil _ _⟩
 | four h1 h2 h3=>exact .inr ⟨_,rfl,cons_ne_nil _ _⟩
 | eight h1 h2 h3=>exact .inr ⟨_,rfl,cons_ne_nil _ _⟩
section
variable {x:Txt}
theorem Pe (hx:x.length<=1000000){o:BOut}{rest:Txt}:∀ {cs:Txt} {ts:List Txt},Units cs ts->∀ {p:Nat} {D:Txt},p<=x.length->x.drop p=ts.flatten++rest->Bas x (p+ts.flatten.length) (D++cs) o->Bas x p D o:=by
 intro cs ts u
 induction u with
 | nil=>intro p D _ _ b;simpa using b
 | @cons c t cs ts hc u r ih=>
  intro p D hp h b
  rw [flatten_cons,append_assoc] at h
  have hl:(x.drop p).length=t.length+(ts.flatten++rest).length:=by rw [h,length_append]
  rw [length_drop] at hl
  have hd:=Aw h
  rcases Pd u with ⟨rfl,h1,h2,h3⟩ | ⟨r',rfl,hr'⟩
  ·refine .raw (Bu h) h2 h3 (GB h1) ?_
   refine ih (by simp at hl;exact la [_,_,_,_,_] [([3,2,4,0,0],[6]),([6,8,0],[10])] ([8,3,0],[10]) rfl (aS hl.symm) (Mi.lcC (la [_,_] [([2],[4])] ([2],[4]) rfl hp))) hd ?_
   rw [append_assoc]
   rw [flatten_cons,length_append,<- Nat.add_assoc] at b
   exact b
  ·have h0:=Bu h
   refine .esc h0 (RK hx hc u h h0 (λU e=>hr' (List.cons.inj e).2)) rfl (by simp) (by exact la [_,_,_,_,_] [([2,4,0],[6]),([6,8,0],[10])] ([8,2,0],[10]) rfl (aS hl.symm) (Mi.lcC (la [_,_] [([2],[4])] ([2],[4]) rfl hp))) ?_
   refine ih (by exact la [_,_,_,_,_] [([2,4,0],[6]),([6,8,0],[10])] ([8,2,0],[10]) rfl (aS hl.symm) (Mi.lcC (la [_,_] [([2],[4])] ([2],[4]) rfl hp))) hd ?_
   rw [append_assoc]
   rw [flatten_cons,length_append,<- Nat.add_assoc] at b
   exact b
end
section
variable {loc:Nat->Option PV}{st:List (List PV)}{Q:PV->PS->Prop}{E:PX->PS->Prop}
theorem RL {a:Nat}{i:Int}:wp (Ap false (.lst a) (.int i)) ⟨loc,st⟩ Q E=(small i=true/\match st[a]? with | some l=>(match (idx i l.length).bind (l[·]?) with | some v=>Q v ⟨loc,st⟩ | none=>False) | none=>False):=by
 show wp (am (small i) (ac (aq a) λl=>aw ((idx i l.length).bind (l[·]?)))) _ Q E=_
 rw [Au,wp_bind,Co]
 congr 1
 cases st[a]? with
 | none=>rfl
 | some l=>
  dsimp only
  rw [JO]
  cases (idx i l.length).bind (l[·]?) <;> rfl
theorem BB {l:List PV}:(st++[l])[st.length]? = some l:=by simp
theorem CN {loc:Nat->Option PV}{st:List (List PV)}{Q:PV->PS->Prop}{E:PX->PS->Prop}{a j:Nat}{i:Int}{l:List PV}{v:PV}(c:small i=true)(hl:st[a]? = some l)(hi:idx i l.length=some j)(hv:l[j]? = some v)(h:Q v ⟨loc,st⟩):wp (Ap false (.lst a) (.int i)) ⟨loc,st⟩ Q E:=by
 rw [RL,hl]
 refine ⟨c,?_⟩
 dsimp only
 rw [hi,Option.bind_some,hv]
 exact h
theorem Vv {c:Nat}(h:Al c):(0<=(c:Int)&&(c:Int)<=1114111)=true:=by
 have:c<=1114111:=h.elim (λh=>aQ h (by decide)) λh=>h.2
 rw [decide_eq_true (Int.natCast_nonneg c),decide_eq_true (show (c:Int)<=1114111 from Int.ofNat_le.mpr this)];rfl
theorem Vw {c:Nat}{i:Int}{s:PS}(e:i=(c:Nat))(hc:Al c)(h:Q (.str [c]) s):wp (On [.int i]) s Q E:=by subst e;exact UC (Vv hc) h
end
theorem RM {js:List Nat}{m:M PV}{loc:Nat->Option PV}{st:List (List PV)}{Q:PV->PS->Prop}{E:PX->PS->Prop}(h:wp m ⟨λi=>if i∈js then none else loc i,st⟩ (λv s'=>Q v ⟨loc,s'.st⟩) λU U=>False):wp (aF js m) ⟨loc,st⟩ Q E:=by
 unfold wp aF
 dsimp only
 unfold wp at h
 revert h
 cases m ⟨λi=>if i∈js then none else loc i,st⟩ with
 | ok v s'=>exact id
 | ex e s'=>exact False.elim
 | stuck=>exact False.elim
section
variable {loc:Nat->Option PV}{st:List (List PV)}{Q:PV->PS->Prop}{E:PX->PS->Prop}
theorem JR {text:Txt}{k:Nat}{s:PS}(h:k<text.length):Bg (.str text) k s = .ok (some (.str [text.getD k 0])) s:=by
 show R.ok ((text[k]?).map λc=>PV.str [c]) s=_
 rw [getElem?_eq_getElem h,getD_eq_getElem?_getD,getElem?_eq_getElem h]
 rfl
theorem JS {text:Txt}{s:PS}:Bg (.str text) text.length s = .ok none s:=by
 show R.ok ((text[text.length]?).map λc=>PV.str [c]) s=_
 rw [getElem?_eq_none (Nat.le_refl _)]
 rfl
end
def okT (t:Txt):Prop:=∀ c∈t,c<=1114111
theorem Pf {st:List (List PV)}{n:Nat}{p:PV}{r:List PV}{d:PyData}{ds:List PyData}(h1:toD st n p=some d)(h2:D3 st n r=some ds):D3 st (n+1) (p::r)=some (d::ds):=by
 show (match toD st n p,D3 st n r with
  | some d,some ds=>some (d::ds)
  | _,_=>none)=_
 rw [h1,h2]
theorem G3 {st:List (List PV)}{n i:Nat}{l:List PV}{ds:List PyData}(h1:st[i]? = some l)(h2:D3 st n l=some ds):toD st (n+1) (.lst i)=some (.list ds):=by
 show (match st[i]? with
  | some l=>(D3 st n l).map PyData.list
  | none=>none)=_
 rw [h1]
 show (D3 st n l).map _=_
 rw [h2];rfl
theorem Vx {a b:PV}{x y:PyData}{s:PS}{r:Bool}(h:eqT a b=none)(d1:toD s.st 64 a=some x)(d2:toD s.st 64 b=some y)(s1:SeqAt.shaped x=true)(s2:SeqAt.shaped y=true)(e:PyData.eqv x y=r):eqP a b s = .ok r s:=by
 unfold eqP
 rw [h,d1,d2]
 show (if (SeqAt.shaped x&&SeqAt.shaped y)=true then R.ok (PyData.eqv x y) s else .stuck)=_
 rw [s1,s2,e];rfl
theorem EC {st:List (List PV)}:∀ {ts:List Txt} {n:Nat},ts.length<n->D3 st n (ts.map .str)=some (ts.map λt=>.str (txt t))
 | [],n+1,_=>rfl
 | t::ts,n+1,h=>by
  have h:ts.length<n:=Nat.lt_of_succ_lt_succ h
  have ih:=EC (st:=st) (n:=n) h
  obtain ⟨m,rfl⟩:∃ m,n=m+1:=⟨n - 1,by exact bg (la [_,_] [([2],[4,3,0])] ([2],[4,3,0]) rfl (Mi.lcS _ _)) (la [_,_] [([2,3,0],[4])] ([2,3,0],[4]) rfl (Mi.lcC (la [_,_] [([2,3,0],[4])] ([3],[4]) rfl h)))⟩
  exact Pf rfl ih
theorem UL {t:Txt}(h:okT t):PyData.strOk (txt t)=true:=by
 unfold PyData.strOk
 simp [txt]
 exact λc m=>by have:=h c m;exact la [_] [([2],[2228223])] ([2,3,0],[2228225]) rfl this
theorem Ej:∀ {ts:List Txt},(∀ t∈ts,okT t)->PyData.canLayAll0 (ts.map λt=>.str (txt t))=true
 | [],_=>rfl
 | t::ts,h=>by
  rw [map_cons,PyData.canLayAll0,PyData.canLay0,UL (h t (mem_cons_self ..)),Ej λu m=>h u (mem_cons_of_mem _ m)]
  rfl
theorem Fo:∀ (ts:List Txt),PyData.depthAll (ts.map λt=>.str (txt t))=0
 | []=>rfl
 | t::ts=>by rw [map_cons,PyData.depthAll,Fo ts];rfl
section
variable {loc:Nat->Option PV}{st:List (List PV)}{Q:PV->PS->Prop}{E:PX->PS->Prop}
theorem TW {a b:Nat}{x y:List PV}(ha:st[a]? = some x)(hb:st[b]? = some y)(h:(x++y).length<=big)(hQ:Q (.lst st.length) ⟨loc,st++[x++y]⟩):wp (AO .Add (.lst a) (.lst b)) ⟨loc,st⟩ Q E:=by
 show wp (ac (aq a) λx=>ac (aq b) λy=>au (x++y)) _ Q E
 rw [wp_bind,Co,ha]
 dsimp only
 rw [wp_bind,Co,hb]
 dsimp only
 rw [IY]
 exact ⟨h,hQ⟩
theorem DV {i:Nat}{l x:List PV}(h:st[i]? = some x):(st++[l])[i]? = some x:=by
 rw [getElem?_append_left (List.getElem?_eq_some_iff.mp h).1];exact h
theorem Units.snoc {cs:Txt}{ts:List Txt}{c:Nat}{t:Txt}(h:Units cs ts)(hc:Al c)(u:UnitOf c t):Units (cs++[c]) (ts++[t]):=by
 induction h with
 | nil=>exact .cons hc u .nil
 | cons hc' u' r ih=>exact .cons hc' u' ih
theorem Units.len {cs:Txt}{ts:List Txt}(h:Units cs ts):ts.length=cs.length:=by
 induction h with
 | nil=>rfl
 | cons hc' u' r ih=>simp [ih]
theorem UM {V:Type}{m:M V}{s s':PS}{a:V}{Q:V->PS->Prop}{E:PX->PS->Prop}(h:m s = .ok a s'):wp m s Q E=Q a s':=by unfold wp;rw [h]
theorem Wk {V:Type}{m:M V}{s s':PS}{a:V}{Q:V->PS->Prop}{E:PX->PS->Prop}(h:m s = .ok a s')(k:Q a s'):wp m s Q E:=by rw [UM h];exact k
theorem Iv (l:List PV):st <+: st++[l]:=prefix_append _ _
theorem I5 {i k:Nat}{l:List Txt}{s:PS}(h:s.st[i]? = some (l.map .str)):Bg (.lst i) k s = .ok ((l[k]?).map .str) s:=by
 show ac (aq i) (λl=>ae l[k]?) s=_
 unfold ac aq
 rw [h]
 show R.ok ((l.map PV.str)[k]?) _=_
 rw [getElem?_map]
end
theorem Lp {x y z:Txt}{p i c:Nat}(h:x.drop p=y++z)(h1:p<=i)(h2:i<p+y.length)(hc:x[i]? = some c):c∈y:=by
 have e:(x.drop p)[i - p]? = some c:=by rw [getElem?_drop,show p+(i - p)=i by exact Nat.le_antisymm (la [_,_,_] [([2,4,0],[6])] ([4,2,0],[6]) rfl (Mi.lcC (la [_,_] [([2],[4])] ([2],[4]) rfl h1))) (la [_,_,_] [([2],[4,6,0])] ([2],[6,4,0]) rfl (Mi.lcS _ _))];exact hc
 rw [h,getElem?_append_left (by exact la [_,_,_,_] [([2,3,0],[4,6,0]),([8,4,0],[2])] ([8,3,0],[6]) rfl h2 (Mi.lcC (la [_,_] [([2],[4])] ([2],[4]) rfl h1)))] at e
 exact mem_of_getElem? e
theorem Pg {x y:Txt}{p i c:Nat}(h:x.drop p=y)(h1:p<=i)(hc:x[i]? = some c):c∈y:=by
 have e:(x.drop p)[i - p]? = some c:=by rw [getElem?_drop,show p+(i - p)=i by exact Nat.le_antisymm (la [_,_,_] [([2,4,0],[6])] ([4,2,0],[6]) rfl (Mi.lcC (la [_,_] [([2],[4])] ([2],[4]) rfl h1))) (la [_,_,_] [([2],[4,6,0])] ([2],[6,4,0]) rfl (Mi.lcS _ _))];exact hc
 rw [h] at e
 exact mem_of_getElem? e
theorem HW {c:Nat}:∀ {z:Txt},c∈z->∃ z1 z2,z=z1++c::z2/\c∉z1
 | a::z,h=>by
  by_cases q:a=c
  ·exact ⟨[],z,by rw [q];rfl,by simp⟩
  ·have:c∈z:=by
    rcases mem_cons.mp h with e | m
    ·exact absurd e.symm q
    ·exact m
   obtain ⟨z1,z2,e,n⟩:=HW this
   exact ⟨a::z1,z2,by rw [e];rfl,λm=>by
    rcases mem_cons.mp m with e | m
    ·exact q e.symm
    ·exact n m⟩
def JT (c:Nat):Prop:=BK c=true/\c≠39
theorem JT.legal {c:Nat}(h:JT c):legal c=true:=by unfold Mi.legal;rw [GB h.1];rfl
section
variable {p:Nat}{x:Txt}{loc:Nat->Option PV}{st:List (List PV)}{Q:PV->PS->Prop}{E:PX->PS->Prop}
theorem RN {y z:Txt}{n:Nat}(h:x.drop p=y++z)(hp:p<=x.length)(hn:n=p+y.length):slc x (some (p:Int)) (some (n:Int))=y:=by
 subst hn;exact C5 h hp rfl
theorem ED {ts:List Txt}{cs rest:Txt}{o:BOut}(hx:x.length<=1000000)(u:Units cs ts)(h:x.drop p=34::(ts.flatten++rest))(b:Bas x (p+1+ts.flatten.length) cs o):Bas x (p+1) [] o:=by
 have h1:x.drop (p+1)=ts.flatten++rest:=Aw (y:=[34]) h
 have lt:=Bc h
 exact Pe hx u (by exact la [_,_] [([2,3,0],[4])] ([2,3,0],[4]) rfl lt) h1 (by simpa using b)
end
theorem TX {c:Nat}{b:Txt}:LP [c] b=true↔c∈b:=by
 unfold LP
 rw [any_eq_true]
 constructor
 ·rintro ⟨i,_,h⟩
  have h:(b.drop i).take 1=[c]:=by simpa using h
  cases q:b.drop i with
  | nil=>rw [q] at h;cases h
  | cons d r=>
   rw [q] at h
   have:d=c:=by simpa using h
   subst this
   exact mem_of_mem_drop (i:=i) (by rw [q];exact mem_cons_self)
 ·intro m
  obtain ⟨i,lt,e⟩:=List.getElem_of_mem m
  refine ⟨i,mem_range.mpr (by exact la [_,_] [([2,3,0],[4])] ([2,3,0],[4,3,0]) rfl lt),?_⟩
  rw [drop_eq_getElem_cons lt,e]
  simp
section
variable {k:Nat}{x:Txt}{r:Row}{loc:Nat->Option PV}{st:List (List PV)}{Q:PV->PS->Prop}{E:PX->PS->Prop}
end
theorem Vy {x:Txt}{n:Nat}(h:n<=x.length):slc x none (some (n:Int))=x.take n:=by
 unfold slc bnd
 simp only [Int.natCast_nonneg,if_true,Int.toNat_natCast,Nat.min_eq_left h,drop_zero]
theorem Lq {x:Txt}{n:Nat}:slc x (some (n:Int)) none=x.drop n:=by
 unfold slc bnd
 simp only [Int.natCast_nonneg,if_true,Int.toNat_natCast,take_length]
 by_cases h:n<=x.length
 ·rw [Nat.min_eq_left h]
 ·rw [Nat.min_eq_right (by exact la [_,_] [([2,3,0],[4])] ([2],[4]) rfl (Nat.not_le.mp h)),drop_length,List.drop_eq_nil_of_le (by exact la [_,_] [([2,3,0],[4])] ([2],[4]) rfl (Nat.not_le.mp h))]
section
variable {p:Nat}{x text:Txt}{us:List Txt}{loc:Nat->Option PV}{st:List (List PV)}{Q:PV->PS->Prop}{E:PX->PS->Prop}
end
theorem TY {st:List (List PV)}{loc:Nat->Option PV}{i:Int}{t:Txt}(h:okT t):eqP (.tup [.int i,.str t]) (.tup [.int i,.str t]) ⟨loc,st⟩ = .ok true ⟨loc,st⟩:=by
 have s1:SeqAt.shaped (.tuple [.int i,.str (txt t)])=true:=by
  unfold SeqAt.shaped
  simp [PyData.canLay0,PyData.canLayAll0,UL h,PyData.depth,PyData.depthAll]
 exact Vx rfl rfl rfl s1 s1 (by simp [PyData.eqv,PyData.eqvAll])
theorem Wl {a b:PV}{s:PS}{Q:PV->PS->Prop}{E:PX->PS->Prop}(h:eqP a b s = .ok true s)(hQ:Q (.bool false) s):wp (Aq .NotEq a b) s Q E:=by
 show wp (ac (eqP a b) λr=>ae (.bool !r)) s Q E
 rw [wp_bind,UM h]
 exact hQ
section
variable {V:Type}{loc:Nat->Option PV}{st:List (List PV)}{E:PX->PS->Prop}
end
theorem FS {c:Nat}{t:Txt}(u:UnitOf c t):t.length<=10:=by
 cases u with
 | raw=>simp
 | short=>simp
 | four h=>simp [h]
 | eight h=>simp [h]
theorem CS {st st':List (List PV)}{i:Nat}{l:List PV}(p:st <+: st')(h:st[i]? = some l):st'[i]? = some l:=by
 obtain ⟨t,rfl⟩:=p
 rw [getElem?_append_left (List.getElem?_eq_some_iff.mp h).1];exact h
section
variable {loc:Nat->Option PV}{st:List (List PV)}{Q:PV->PS->Prop}{E:PX->PS->Prop}
theorem HX:∀ ts:List Txt,DO (ts.map .str)=some ts
 | []=>rfl
 | t::ts=>congrArg (Option.map (t::·)) (HX ts)
theorem Ph (ts:List Txt):HB [] ts=ts.flatten:=by
 cases ts with
 | nil=>rfl
 | cons t ts=>
  have go:∀ (r:List Txt) (acc:Txt),r.foldl (λacc p=>acc++[]++p) acc=acc++r.flatten:=by
   intro r
   induction r with
   | nil=>intro acc;simp
   | cons u r ih=>intro acc;rw [foldl_cons,ih];simp
  exact go ts t
theorem Pi (ts:List Txt):Eb ts=ts.flatten.length:=by
 unfold Eb;rw [List.length_flatten]
theorem TZ {i:Nat}{ts:List Txt}(h:st[i]? = some (ts.map .str)):wp (No (.str []) [.lst i]) ⟨loc,st⟩ Q E=(ts.flatten.length<=big/\Q (.str ts.flatten) ⟨loc,st⟩):=by
 show wp (ac (aq i) λl=>ac (aw (DO l)) λts=>am (Eb ts+ts.length*0<=big) (ae (.str (HB [] ts)))) _ Q E=_
 rw [wp_bind,Co,h]
 dsimp only
 rw [wp_bind,JO,HX]
 dsimp only
 rw [Au,HS,Ph,Pi]
 simp
theorem Dy {i:Nat}{v:PV}{l:List PV}(h:st[i]? = some l):wp (CP (.lst i) [v]) ⟨loc,st⟩ Q E=(l.length+1<=big/\Q .none ⟨loc,st.set i (l++[v])⟩):=by
 show wp (ac (aq i) λl=>am (l.length+1<=big) (ac (aG i (l++[v])) λU=>ae .none)) _ Q E=_
 rw [wp_bind,Co,h]
 dsimp only
 rw [Au,wp_bind]
 unfold wp aG
 by_cases q:l.length+1<=big
 ·rw [if_pos (by simpa using q)]
  simp [q,ae]
 ·simp [q]
theorem JU {i:Nat}{l:List PV}(h:st[i]? = some l):wp (Bp [.lst i]) ⟨loc,st⟩ Q E=(l.length<=big/\Q (.int l.length) ⟨loc,st⟩):=by
 show wp (ac (aq i) λl=>am (l.length<=big) (ae (.int l.length))) _ Q E=_
 rw [wp_bind,Co,h]
 dsimp only
 rw [Au,HS]
 simp
end

section
variable {s:PS}{loc:Nat->Option PV}{st:List (List PV)}{Q:PV->PS->Prop}{E:PX->PS->Prop}
theorem HY {i:Nat}{Q:(Nat->M (Option PV))->PS->Prop}:wp (EM (.lst i)) s Q E=Q (Bg (.lst i)) s:=rfl
end
theorem Pj {i k:Nat}{l:List Int}{L:Nat->Option PV}{st:List (List PV)}(h:st[i]? = some (l.map .int))(hk:k<l.length):Bg (.lst i) k ⟨L,st⟩ = .ok (some (.int (l.getD k 0))) ⟨L,st⟩:=by
 show ac (aq i) (λl=>ae l[k]?) ⟨L,st⟩=_
 unfold ac aq
 rw [h]
 show R.ok ((l.map PV.int)[k]?) _=_
 rw [getElem?_map,getElem?_eq_getElem hk,getD_eq_getElem?_getD,getElem?_eq_getElem hk]
 rfl
theorem RO {i:Nat}{l:List Int}{L:Nat->Option PV}{st:List (List PV)}(h:st[i]? = some (l.map .int)):Bg (.lst i) l.length ⟨L,st⟩ = .ok none ⟨L,st⟩:=by
 show ac (aq i) (λl'=>ae l'[l.length]?) ⟨L,st⟩=_
 unfold ac aq
 rw [h]
 show R.ok ((l.map PV.int)[l.length]?) _=_
 rw [getElem?_eq_none (by simp)]
theorem GC {get:Nat->M (Option PV)}{i:Nat}{b:M PFlow}{P:Nat->PS->Prop}{R:PS->Prop}{E:PX->PS->Prop}{f n:Nat}{s:PS}(p:Nat->PV)(h0:P 0 s)(hf:n<f)(hget:∀ k s,P k s->k<n->get k s = .ok (some (p k)) s)(hend:∀ s,P n s->get n s = .ok none s)
  (step:∀ k L st,P k ⟨L,st⟩->k<n->wp b ⟨upd L i (p k),st⟩ (λfl s'=>(fl = .next\/fl = .cont)/\P (k+1) s') λU U=>False) (fin:∀ s,P n s->R s):wp (aE get (aj i) b f 0) s (λf s'=>f = .next/\R s') E:=
 NH (E:=E) P n p hget hend (λk s z lt=>by
  obtain ⟨L,st⟩:=s
  refine wpSet (wp_mono (step k L st z lt) (λfl s' y=>?_) λU U y=>y.elim)
  obtain ⟨rfl | rfl,y⟩:=y
  ·exact y
  ·exact y) (λs z=>⟨rfl,fin s z⟩) f 0 s h0 (aP _) (by rw [Nat.sub_zero];exact hf)
def Wm:Txt:=[69,115,99,97,112,101,100,32,99,104,97,114,97,99,116,101,114,32,105,115,32,110,111,116,32,97,32,85,110,105,99,111,100,101,32,115,99,97,108,97,114,32,118,97,108,117,101]
section
variable {p:Nat}{x:Txt}{loc:Nat->Option PV}{st:List (List PV)}{Q:PV->PS->Prop}{E:PX->PS->Prop}
theorem Pl {c:Nat}(h:¬ Al c)(hQ:Q (.bool false) ⟨loc,st⟩):wp (ao (AA Kx) [.int c]) ⟨loc,st⟩ Q E:=by
 refine AY 0 λL B=>?_
 unfold AA
 refine wpB (UI ?_)
 walk_at "wp"
 refine G2 ⟨_,rfl,?_⟩
 have h1:decide ((c:Int)<=55295)=false:=decide_eq_false λz=>h (.inl (Int.ofNat_le.mp z))
 rw [h1,Bool.and_false,if_neg Bool.false_ne_true]
 walk_at "wp"
 refine G2 ?_
 have h2:(decide ((57344:Int)<=c)&&decide ((c:Int)<=1114111))=false:=by
  cases q:decide ((57344:Int)<=c) with
  | false=>rfl
  | true=>exact decide_eq_false λz=>h (.inr ⟨Int.ofNat_le.mp (aZ q),Int.ofNat_le.mp z⟩)
 rw [h2]
 exact hQ
theorem NP {n:Nat}{h:Txt}(hx:x.length<=1000000)(hp:p+n<=1000000)(hn:n=4\/n=8)(hs:slc x (some (p:Int)) (some ((p+n:Nat):Int))=h)(h1:h.length=n)(h2:h.all hexd=true)(hb:¬ Al (hexval h))
  (hE:E (.toml (Ei x (p+n) Wm)) ⟨loc,st⟩):wp (ao (Av Kx) [.str x,.int p,.int n]) ⟨loc,st⟩ Q E:=by
 have hl:h.length<=1000000:=hs▸aQ G0 hx
 refine AY 2 λL aO=>?_
 unfold Av
 refine wpA st (tH x p n (some (.str h)) none) ?_ λL aO=>?_
 ·walk_at "wp"
  refine D0 hs (BA hl) ?_
  walk_at "wp"
  exact ⟨rfl,(aO.set 3 _ |> At.mk _ rfl)⟩
 refine A1 ?_
 refine AD (c:=false) ?_ (λhb=>(by cases hb)) (λU=>?_)
 ·refine NO ?_
  walk_at "wp"
  ·exact BA hl
  walk_at "wp"
  rw [isZ,decide_eq_true h1,Bool.not_true,if_neg (by decide)]
  refine NO ?_
  walk_at "wp"
  refine UJ ?_
  walk_at "wp"
  rw [show (h.all λc=>Am 4 c)=h.all hexd from rfl,h2]
  exact ⟨rfl,rfl⟩
 refine wpR ?_
 refine wpA st (tH x (p+n) n (some (.str h)) none) ?_ λL aO=>?_
 ·walk_at "wp"
  exact ⟨rfl,(aO.set 1 _ |> At.mk _ rfl)⟩
 refine wpA st (tH x (p+n) n (some (.str h)) (some (.int (hexval h)))) ?_ λL aO=>?_
 ·walk_at "wp"
  refine NN ?_ ?_
  ·have ne:h.isEmpty=false:=by cases h with
    | nil=>rcases hn with rfl | rfl <;> cases h1
    | cons=>rfl
   rw [ne,h2,h1,decide_eq_true (show n<=640 by lia)];rfl
  walk_at "wp"
  exact ⟨rfl,(aO.set 4 _ |> At.mk _ rfl)⟩
 refine A1 ?_
 refine AD (c:=true) ?_ (λU=>?_) (λh=>(by cases h))
 ·walk_at "wp"
  refine Pl hb ?_
  walk_at "wp"
  exact ⟨rfl,rfl⟩
 walk_at "wp"
 exact Cc (BA hx) (bw hp (by decide)) (by decide) hE
theorem T4 {a b:Nat}(ha:a<=x.length)(hb:x.length<=b):slc x (some (a:Int)) (some (b:Int))=x.drop a:=by
 rw [DU,Nat.min_eq_right hb,Nat.min_eq_left ha,take_length]
theorem MS {ts:List Txt}{cs rest:Txt}(hx:x.length<=1000000)(hK:x.length+1<Kx)(u:Units cs ts)(h:x.drop p=34::(ts.flatten++34::rest))(hQ:Q (.tup [.int ((p+(ts.flatten.length+2):Nat):Int),.str cs]) ⟨loc,st⟩):wp (ao (Ak Kx) [.str x,.int p]) ⟨loc,st⟩ Q E:=by
 have h1:x.drop (p+1)=ts.flatten++34::rest:=Aw (y:=[34]) h
 refine Ct hx (Bc h) hK (ED hx u h (.quote (Bu (Aw h1)))) ?_
 dsimp only
 rw [show p+1+ts.flatten.length+1=p+(ts.flatten.length+2) by exact Nat.le_antisymm (la [_,_] [] ([2,3,0,4,0,3,0],[2,4,5,0,0]) rfl) (la [_,_] [] ([2,4,5,0,0],[2,3,0,4,0,3,0]) rfl)]
 exact hQ
theorem RP {ts:List Txt}{cs:Txt}(hx:x.length<=1000000)(hK:x.length+1<Kx)(u:Units cs ts)(h:x.drop p=34::ts.flatten)(hE:E (.toml (Ei x x.length TV)) ⟨loc,st⟩):wp (ao (Ak Kx) [.str x,.int p]) ⟨loc,st⟩ Q E:=by
 have lt:=Bc h
 have hl:(x.drop p).length=ts.flatten.length+1:=by rw [h];rfl
 rw [length_drop] at hl
 refine Ct hx lt hK (ED hx u (rest:=[]) (by rw [append_nil];exact h) ?_) (o:=.err (Ei x x.length TV)) hE
 rw [show p+1+ts.flatten.length=x.length by exact Nat.le_antisymm (la [_,_,_,_] [([2,3,0],[4]),([4,6,0],[8])] ([6,3,0,2,0],[8]) rfl (Nat.le_of_eq hl.symm) (Mi.lcC (la [_,_] [([2,3,0],[4])] ([2],[4]) rfl lt))) (la [_,_,_,_] [([2],[4,3,0]),([6],[2,8,0])] ([6],[8,3,0,4,0]) rfl (Nat.le_of_eq hl) (Mi.lcS _ _))]
 exact .eof
theorem RQ {ts:List Txt}{cs t rest:Txt}(hx:x.length<=1000000)(hK:x.length+1<Kx)(u:Units cs ts)(h:x.drop p=34::(ts.flatten++92::rest))(f:MQ x (p+1+ts.flatten.length) t)(hE:E (.toml t) ⟨loc,st⟩):wp (ao (Ak Kx) [.str x,.int p]) ⟨loc,st⟩ Q E:=by
 have h1:x.drop (p+1)=ts.flatten++92::rest:=Aw (y:=[34]) h
 exact Ct hx (Bc h) hK (ED hx u h (.escBad (Bu (Aw h1)) f)) hE
theorem RS {ts:List Txt}{cs rest:Txt}{c:Nat}(hx:x.length<=1000000)(hK:x.length+1<Kx)(u:Units cs ts)(h:x.drop p=34::(ts.flatten++c::rest))(h1:Am 0 c=true)(h2:c≠34)(h3:c≠92)(h5:(Bv [c]).length<=100)
  (hE:E (.toml (Ei x (p+1+ts.flatten.length) (Vs++Bv [c]))) ⟨loc,st⟩):wp (ao (Ak Kx) [.str x,.int p]) ⟨loc,st⟩ Q E:=by
 have q1:x.drop (p+1)=ts.flatten++c::rest:=Aw (y:=[34]) h
 exact Ct hx (Bc h) hK (ED hx u h (.bad (Bu (Aw q1)) h2 h3 h1 h5)) hE
theorem MT {y rest:Txt}(hx:x.length<=1000000)(h:x.drop p=39::(y++39::rest))(hy:∀ c∈y,JT c)(hQ:Q (.tup [.int ((p+(y.length+2):Nat):Int),.str y]) ⟨loc,st⟩):wp (ao (AE Kx) [.str x,.int p]) ⟨loc,st⟩ Q E:=by
 have h1:x.drop (p+1)=y++39::rest:=Aw (y:=[39]) h
 have lt:=Bc h
 have at39:x[p+1+y.length]? = some 39:=Bu (Aw h1)
 refine HU hx λL=>MP hx (i:=p+1+y.length) (by exact la [_,_] [] ([2,3,0],[2,3,0,4,0]) rfl) at39 (λk k1 k2 e=>(hy 39 (Lp h1 k1 k2 e)).2 rfl) (λk k1 k2 c e=>(hy c (Lp h1 k1 k2 e)).legal) ⟨_,rfl,rfl,?_⟩
 rw [RN h1 (by exact la [_,_] [([2,3,0],[4])] ([2,3,0],[4]) rfl lt) rfl]
 rw [show p+1+y.length+1=p+(y.length+2) by exact Nat.le_antisymm (la [_,_] [] ([2,3,0,4,0,3,0],[2,4,5,0,0]) rfl) (la [_,_] [] ([2,4,5,0,0],[2,3,0,4,0,3,0]) rfl)]
 exact hQ
theorem RT {y:Txt}(hx:x.length<=1000000)(h:x.drop p=39::y)(hy:39∉y)(hE:E (.toml (Ei x x.length (Wg++[34,39,34]))) ⟨loc,st⟩):wp (ao (AE Kx) [.str x,.int p]) ⟨loc,st⟩ Q E:=by
 have h1:x.drop (p+1)=y:=Aw (y:=[39]) h
 have lt:=Bc h
 exact HU hx λL=>Pc hx (by exact la [_,_] [([2],[2000001]),([4,3,0],[2])] ([4,3,0],[2000001]) rfl hx lt) (λk k1 e=>hy (Pg h1 k1 e)) hE
theorem RU {b:Nat}{y z:Txt}(hx:x.length<=1000000)(hK:x.length<Kx)(h:x.drop p=39::(y++b::z))(hy:∀ c∈y,JT c)(hb:legal b=false)(hb9:b≠39)(hr:(Bv [b]).length<=100)(hz:39∈z)
  (hE:E (.toml (Ei x (p+1+y.length) (Wf++Bv [b]))) ⟨loc,st⟩):wp (ao (AE Kx) [.str x,.int p]) ⟨loc,st⟩ Q E:=by
 obtain ⟨z1,z2,rfl,n1⟩:=HW hz
 have lt:=Bc h
 have h1:x.drop (p+1)=y++b::(z1++39::z2):=Aw (y:=[39]) h
 have h2:x.drop (p+1+y.length)=b::(z1++39::z2):=Aw h1
 have h3:x.drop (p+1+y.length+1)=z1++39::z2:=Aw (y:=[b]) h2
 have h4:x.drop (p+1+y.length+1+z1.length)=39::z2:=Aw h3
 have l2:=Bc h2
 have l4:=Bc h4
 refine HU hx λL=>RB hx (i:=p+1+y.length+1+z1.length) (j:=p+1+y.length) (b:=b) (by lia) (by exact la [_,_,_] [] ([2,3,0],[2,3,0,4,0,3,0,6,0]) rfl) (Bu h4) (λi i1 i2 e=>?_) (by exact la [_,_] [] ([2,3,0],[2,3,0,4,0]) rfl) (by exact la [_,_,_] [] ([2,3,0,4,0,3,0],[2,3,0,4,0,3,0,6,0]) rfl) (Bu h2) hb (λi i1 i2 c e=>(hy c (Lp h1 i1 i2 e)).legal) hr hE
 by_cases q:i<p+1+y.length
 ·exact (hy 39 (Lp h1 i1 q e)).2 rfl
 ·by_cases q2:i=p+1+y.length
  ·subst q2;rw [Bu h2] at e;exact hb9 (aU e)
  ·exact n1 (Lp h3 (by lia) i2 e)
end
theorem Ek {x:Txt}{p n:Nat}(hp:p<=x.length):slc x (some (p:Int)) (some ((p+n:Nat):Int))=(x.drop p).take n:=by
 by_cases h:p+n<=x.length
 ·exact C5 (y:=(x.drop p).take n) (z:=(x.drop p).drop n) (List.take_append_drop ..).symm hp (by rw [length_take,length_drop];lia)
 ·rw [T4 hp (by exact la [_,_,_] [([2,3,0],[4,6,0])] ([2],[4,6,0]) rfl (Nat.not_le.mp h)),take_of_length_le (by rw [length_drop];exact la [_,_,_,_] [([2,3,0],[4,6,0]),([8,4,0],[2])] ([8],[6]) rfl (Nat.not_le.mp h) (Mi.lcC (la [_,_] [([2],[4])] ([2],[4]) rfl hp)))]
def UD (d n:Nat):Prop:=(d=117/\n=4)\/(d=85/\n=8)
inductive EscF (r:Txt):Txt->Nat->Prop
 | name:escT (92::r.take 1)=none->r.take 1≠[117]->r.take 1≠[85]->EscF r UH 2
 | hex {d n:Nat}:r.take 1=[d]->UD d n->¬ (((r.drop 1).take n).length=n/\((r.drop 1).take n).all hexd=true)->EscF r Vq 2
 | uni {d n:Nat} {h:Txt}:r.take 1=[d]->UD d n->(r.drop 1).take n=h->h.length=n->h.all hexd=true->¬ Al (hexval h)->EscF r Wm (2+n)
theorem RV {x r w:Txt}{q k:Nat}(f:EscF r w k)(hx:x.length<=900000)(h:x.drop q=92::r):MQ x q (Ei x (q+k) w):=by
 have lt:=Bc h
 have hx':x.length<=1000000:=by exact la [_] [([2],[1800001])] ([2],[2000001]) rfl hx
 have he:slc x (some (q:Int)) (some ((q+2:Nat):Int))=92::r.take 1:=by rw [Ek (Nat.le_of_lt lt),h];rfl
 have two:∀ {d:Nat},r.take 1=[d]->q+2<=x.length:=λ{d} e=>by
  have a:(x.drop q).length=r.length+1:=by rw [h];rfl
  have b:1<=r.length:=by cases r with
   | nil=>cases e
   | cons=>exact bA (aP _)
  rw [length_drop] at a
  exact la [_,_,_,_] [([2,3,0],[4]),([3],[2]),([4,6,0],[8])] ([6,5,0],[8]) rfl (aS a.symm) b (Mi.lcC (la [_,_] [([2,3,0],[4])] ([2],[4]) rfl lt))
 have more:∀ {d n:Nat},r.take 1=[d]->slc x (some ((q+2:Nat):Int)) (some ((q+2+n:Nat):Int))=(r.drop 1).take n:=λ{d n} e=>by
  rw [Ek (two e),show x.drop (q+2)=(x.drop q).drop 2 by rw [List.drop_drop],h];rfl
 intro loc st Q E hE
 refine FR hx' (by exact la [_,_] [([2,3,0],[4]),([4],[2000001])] ([2],[2000001]) rfl lt hx') he (λe L=>?_) (λe L=>?_) (λe1 e2=>?_)
 ·have e:r.take 1=[117]:=(List.cons.inj e).2
  cases f with
  | name _ a _=>exact absurd e a
  | @hex d n a b c=>
   have hn:n=4:=by
    rcases b with ⟨_,z⟩ | ⟨z,_⟩
    ·exact z
    ·rw [a,z] at e;cases e
   subst hn
   exact (FQ (n:=4) hx' (by exact la [_,_] [([2],[1800001]),([4,3,0],[2])] ([4,5,0],[2000001]) rfl hx lt) (.inl rfl) (more a)).2 c hE
  | @uni d n hh a b c l1 l2 l3=>
   have hn:n=4:=by
    rcases b with ⟨_,z⟩ | ⟨z,_⟩
    ·exact z
    ·rw [a,z] at e;cases e
   subst hn
   exact NP hx' (by exact la [_,_] [([2],[1800001]),([4,3,0],[2])] ([4,5,0,9,0],[2000001]) rfl hx lt) (.inl rfl) (c▸more a) l1 l2 l3 (by rw [Nat.add_assoc];exact hE)
 ·have e:r.take 1=[85]:=(List.cons.inj e).2
  cases f with
  | name _ _ a=>exact absurd e a
  | @hex d n a b c=>
   have hn:n=8:=by
    rcases b with ⟨z,_⟩ | ⟨_,z⟩
    ·rw [a,z] at e;cases e
    ·exact z
   subst hn
   exact (FQ (n:=8) hx' (by exact la [_,_] [([2],[1800001]),([4,3,0],[2])] ([4,5,0],[2000001]) rfl hx lt) (.inr rfl) (more a)).2 c hE
  | @uni d n hh a b c l1 l2 l3=>
   have hn:n=8:=by
    rcases b with ⟨z,_⟩ | ⟨_,z⟩
    ·rw [a,z] at e;cases e
    ·exact z
   subst hn
   exact NP hx' (by exact la [_,_] [([2],[1800001]),([4,3,0],[2])] ([4,5,0,17,0],[2000001]) rfl hx lt) (.inr rfl) (c▸more a) l1 l2 l3 (by rw [Nat.add_assoc];exact hE)
 ·have nu:∀ {d n:Nat},r.take 1=[d]->¬ UD d n:=λ{d n} a b=>by
   rcases b with ⟨z,_⟩ | ⟨z,_⟩
   ·subst z;exact e1 (congrArg _ a)
   ·subst z;exact e2 (congrArg _ a)
  cases f with
  | name a _ _=>rw [a];exact hE
  | hex a b _=>exact absurd b (nu a)
  | uni a b _ _ _ _=>exact absurd b (nu a)
def El (nm:Txt):Option Nat:=if nm=[98] then some 8 else if nm=[116] then some 9 else if nm=[110] then some 10 else if nm=[102] then some 12 else if nm=[114] then some 13 else if nm=[34] then some 34 else if nm=[92] then some 92 else none
theorem HZ {nm:Txt}{c:Nat}(h:El nm=some c):∃ d,nm=[d]/\escT [92,d]=some [c]/\d≠117/\d≠85/\Al c/\(d=92->c=92):=by
 unfold El at h
 by_cases h1:nm=[98]
 ·subst h1;cases h;exact ⟨98,rfl,by decide,by decide,by decide,.inl (by decide),by decide⟩
 by_cases h2:nm=[116]
 ·subst h2;cases h;exact ⟨116,rfl,by decide,by decide,by decide,.inl (by decide),by decide⟩
 by_cases h3:nm=[110]
 ·subst h3;cases h;exact ⟨110,rfl,by decide,by decide,by decide,.inl (by decide),by decide⟩
 by_cases h4:nm=[102]
 ·subst h4;cases h;exact ⟨102,rfl,by decide,by decide,by decide,.inl (by decide),by decide⟩
 by_cases h5:nm=[114]
 ·subst h5;cases h;exact ⟨114,rfl,by decide,by decide,by decide,.inl (by decide),by decide⟩
 by_cases h6:nm=[34]
 ·subst h6;cases h;exact ⟨34,rfl,by decide,by decide,by decide,.inl (by decide),by decide⟩
 by_cases h7:nm=[92]
 ·subst h7;cases h;exact ⟨92,rfl,by decide,by decide,by decide,.inl (by decide),by decide⟩
 rw [if_neg h1,if_neg h2,if_neg h3,if_neg h4,if_neg h5,if_neg h6,if_neg h7] at h
 cases h
theorem H0 {nm:Txt}(h:El nm=none):escT (92::nm)=none/\nm≠[34]/\nm≠[92]:=by
 unfold El at h
 have n1:nm≠[98]:=λe=>by subst e;cases h
 have n2:nm≠[116]:=λe=>by subst e;cases h
 have n3:nm≠[110]:=λe=>by subst e;cases h
 have n4:nm≠[102]:=λe=>by subst e;cases h
 have n5:nm≠[114]:=λe=>by subst e;cases h
 have n6:nm≠[34]:=λe=>by subst e;cases h
 have n7:nm≠[92]:=λe=>by subst e;cases h
 refine ⟨?_,n6,n7⟩
 have ne:∀ k:Txt,nm≠k->((92::nm)==(92::k))=false:=λk z=>aY.mpr λe=>z (List.cons.inj e).2
 unfold escT Es
 simp only [lookup_cons,ne _ n1,ne _ n2,ne _ n3,ne _ n4,ne _ n5,ne _ n6,ne _ n7,List.lookup_nil]
theorem Lr {c:Nat}(q:Am 0 c=false):BK c=true:=by
 cases h:BK c with
 | true=>rfl
 | false=>
  have:∀ c<128,BK c=false->Am 0 c=true:=by decide
  by_cases l:c<128
  ·rw [this c l h] at q;cases q
  ·unfold BK at h
   simp only [Bool.and_eq_false_iff,or_eq_false_iff,bne_eq_false_iff_eq,decide_eq_false_iff_not] at h
   lia
theorem Pm (r:Txt):(∃ c h z,92::r=92::h++z/\UnitOf c (92::h)/\Al c)\/∃ w k,EscF r w k:=by
 cases q:El (r.take 1) with
 | some c=>
  obtain ⟨d,e1,e2,e3,e4,e5,_⟩:=HZ q
  cases r with
  | nil=>cases e1
  | cons a r=>
   obtain rfl:a=d:=(List.cons.inj e1).1
   exact .inl ⟨c,[a],r,rfl,.short e2 e3 e4,e5⟩
 | none=>
  obtain ⟨n1,_,_⟩:=H0 q
  have hex:∀ {d n:Nat},r.take 1=[d]->UD d n->(∃ c h z,92::r=92::h++z/\UnitOf c (92::h)/\Al c)\/∃ w k,EscF r w k:=λ{d n} e ud=>by
   obtain ⟨r',rfl⟩:∃ r',r=d::r':=by
    cases r with
    | nil=>cases e
    | cons a r=>exact ⟨r,by rw [(List.cons.inj e).1]⟩
   by_cases h1:(((d::r').drop 1).take n).length=n/\(((d::r').drop 1).take n).all hexd=true
   ·by_cases h2:Al (hexval (r'.take n))
    ·refine .inl ⟨_,d::r'.take n,r'.drop n,by rw [cons_append,cons_append,List.take_append_drop],?_,h2⟩
     rcases ud with ⟨rfl,rfl⟩ | ⟨rfl,rfl⟩
     ·exact .four h1.1 h1.2 rfl
     ·exact .eight h1.1 h1.2 rfl
    ·exact .inr ⟨_,_,.uni e ud rfl h1.1 h1.2 h2⟩
   ·exact .inr ⟨_,_,.hex e ud h1⟩
  by_cases h1:r.take 1=[117]
  ·exact hex h1 (.inl ⟨rfl,rfl⟩)
  ·by_cases h2:r.take 1=[85]
   ·exact hex h2 (.inr ⟨rfl,rfl⟩)
   ·exact .inr ⟨_,_,.name n1 h1 h2⟩
inductive BasR (y:Txt):Prop
 | ok (ts:List Txt) (cs z:Txt):y=ts.flatten++34::z->Units cs ts->BasR y
 | eof (ts:List Txt) (cs:Txt):y=ts.flatten->Units cs ts->BasR y
 | esc (ts:List Txt) (cs r w:Txt) (k:Nat):y=ts.flatten++92::r->Units cs ts->EscF r w k->BasR y
 | ctl (ts:List Txt) (cs z:Txt) (c:Nat):y=ts.flatten++c::z->Units cs ts->Am 0 c=true->BasR y
theorem BasR.more {c:Nat}{u y:Txt}(uo:UnitOf c u)(sc:Al c)(h:BasR y):BasR (u++y):=by
 have key:∀ {ts:List Txt} {r:Txt},u++(ts.flatten++r)=(u::ts).flatten++r:=λ{ts r}=>by rw [flatten_cons,append_assoc]
 cases h with
 | ok ts cs z e un=>exact .ok (u::ts) (c::cs) z (by rw [e,key]) (.cons sc uo un)
 | eof ts cs e un=>exact .eof (u::ts) (c::cs) (by rw [e,flatten_cons]) (.cons sc uo un)
 | esc ts cs r w k e un f=>exact .esc (u::ts) (c::cs) r w k (by rw [e,key]) (.cons sc uo un) f
 | ctl ts cs z d e un f=>exact .ctl (u::ts) (c::cs) z d (by rw [e,key]) (.cons sc uo un) f
theorem Ls {c:Nat}{u:Txt}(h:UnitOf c u):0<u.length:=by
 cases h <;> exact Nat.succ_pos _
theorem basR:∀ (n:Nat) (y:Txt),y.length<=n->(∀ c∈y,Al c)->BasR y:=by
 intro n
 induction n with
 | zero=>
  intro y h _
  obtain rfl:=eq_nil_of_length_eq_zero (Nat.le_zero.mp h)
  exact .eof [] [] rfl .nil
 | succ n ih=>
  intro y h sc
  cases y with
  | nil=>exact .eof [] [] rfl .nil
  | cons c y=>
   by_cases h34:c=34
   ·subst h34;exact .ok [] [] y rfl .nil
   ·by_cases h92:c=92
    ·subst h92
     rcases Pm y with ⟨c,hh,z,e,un,s⟩ | ⟨w,k,f⟩
     ·rw [e]
      have l:z.length<=n:=by
       have:=congrArg length e
       rw [length_append,length_cons] at this
       have h:y.length+1<=n+1:=h
       rw [length_cons] at this
       lia
      exact (ih z l λd m=>sc d (e▸mem_append_right _ m)).more un s
     ·exact .esc [] [] y w k rfl .nil f
    ·cases hc:Am 0 c with
     | true=>exact .ctl [] [] y c rfl .nil hc
     | false=>exact (ih y (Nat.le_of_succ_le_succ h) λd m=>sc d (mem_cons_of_mem _ m)).more (u:=[c]) (.raw (Lr hc) h34 h92) (sc c mem_cons_self)
section
variable {p:Nat}{x:Txt}{loc:Nat->Option PV}{st:List (List PV)}{Q:PV->PS->Prop}{E:PX->PS->Prop}
abbrev tK (x:Txt)(p:Nat):Tb:=[some (.str x),some (.int p),some (.fset 5)]
theorem Pn {w z:Txt}(hx:x.length<=90000)(hp:p<=x.length)(h:x.drop p=w++z)(hw:∀ c∈w,Am 5 c=true)(hz:∀ c r,z=c::r->Am 5 c=false)(hQ:Q (.int ((p+w.length:Nat):Int)) ⟨loc,st⟩) :
  wp (ao (CR Kx) [.str x,.int p,.fset 5]) ⟨loc,st⟩ Q E:=by
 have hl:p+(w.length+z.length)=x.length:=by
  have:=congrArg length h
  rw [length_drop,length_append] at this
  lia
 refine AY 0 λL B=>?_
 unfold CR Dd
 refine A1 ?_
 rw [C4]
 refine Dw (λk s=>At st (tK x (p+k)) s) w.length (λk s y hk=>?_) Kx 0 _ (.mk L rfl B) (aP _) (by have:=BO;lia)
 obtain ⟨L',rfl,B⟩:=y
 have sm:small ((p+k:Nat):Int)=true:=AM (by lia)
 walk_at "wp"
 by_cases q:p+k<x.length
 ·refine Li sm (FL q) ?_
  walk_at "wp"
  have ek:(w++z)[k]? = some (x.getD (p+k) 0):=by
   rw [<- h,getElem?_drop,getD_eq_getElem?_getD,getElem?_eq_getElem q];rfl
  by_cases e:k=w.length
  ·subst e
   rw [getElem?_append_right (Nat.le_refl _),Nat.sub_self] at ek
   obtain ⟨r,rfl⟩:∃ r,z=x.getD (p+w.length) 0::r:=by
    cases z with
    | nil=>cases ek
    | cons c r=>exact ⟨r,by rw [show c=_ from Option.some.inj ek]⟩
   rw [show G8 5 [x.getD (p+w.length) 0]=false from hz _ _ rfl,if_neg Bool.false_ne_true]
   walk_at "wp"
   exact hQ
  ·have lt:k<w.length:=Nat.lt_of_le_of_ne hk e
   rw [getElem?_append_left lt] at ek
   rw [show G8 5 [x.getD (p+k) 0]=true from hw _ (mem_of_getElem? ek),if_pos rfl]
   walk_at "wp"
   exact ⟨lt,B.set 1 _ |> At.mk _ rfl⟩
 ·have e:k=w.length:=by lia
  subst e
  have ix:idx ((p+w.length:Nat):Int) x.length=none:=by unfold idx;rw [if_pos (Int.natCast_nonneg _),if_neg (by rw [Int.toNat_natCast];exact q)]
  rw [FK,ix]
  refine ⟨sm,?_⟩
  dsimp only
  rw [Dx]
  dsimp only
  walk_at "wp"
  exact hQ
theorem UN {k:Nat}{t:Txt}{s:PS}(h:Q (.bool (G8 k t)) s):wp (inF (.str t) (.fset k)) s Q E:=h
theorem Wn {k:Nat}{s:PS}(h:Q (.bool false) s):wp (inF .none (.fset k)) s Q E:=h
abbrev tKp (x:Txt)(p:Nat)(c s:Option PV):Tb:=[some (.str x),some (.int p),c,s]
theorem Dz {c:Nat}{r:M PFlow}{Q:PFlow->PS->Prop}{L:Nat->Option PV}(hx:x.length<=90000)(hc:x[p]? = some c)(B:Loc (tKp x p none none) L)(h:∀ L,Loc (tKp x p (some (.str [c])) none) L->wp r ⟨L,st⟩ Q E) :
  wp (ak (aD (EN "IndexError" ((ac (ae .none) λx4=>ac (aj 2 x4) λU=>ae .next))) ((ac ((ac (af 0) λx1=>ac (af 1) λx2=>Ap false x1 x2)) λx3=>ac (aj 2 x3) λU=>ae .next))) r) ⟨L,st⟩ Q E:=by
 have lt:=(bf.mp hc).1
 refine A1 ?_
 rw [C4]
 walk_at "wp"
 refine Li (AM (by lia)) (FL lt) ?_
 rw [G1 hc]
 walk_at "wp"
 exact h _ (B.set 2 _)
theorem RW {w z:Txt}(hx:x.length<=90000)(h:x.drop p=w++z)(hn:w≠[])(hw:∀ c∈w,Am 5 c=true)(hz:∀ c r,z=c::r->Am 5 c=false)(hQ:Q (.tup [.int ((p+w.length:Nat):Int),.str w]) ⟨loc,st⟩) :
  wp (ao (Ai Kx) [.str x,.int p]) ⟨loc,st⟩ Q E:=by
 obtain ⟨c,r,rfl⟩:∃ c r,w=c::r:=by
  cases w with
  | nil=>exact absurd rfl hn
  | cons c r=>exact ⟨c,r,rfl⟩
 have hc:x[p]? = some c:=Bu (z:=r++z) h
 have lt:=(bf.mp hc).1
 refine AY 2 λL B=>?_
 unfold Ai
 refine Dz hx hc B λL B=>?_
 refine A1 (AD (c:=Am 5 c) (by walk_at "wp";refine UN ?_;walk_at "wp";exact ⟨rfl,rfl⟩) (λU=>?_) (λq=>by rw [hw c mem_cons_self] at q;cases q))
 refine wpA st (tKp x p (some (.str [c])) (some (.int p))) (by walk_at "wp";exact ⟨rfl,(B.set 3 _ |> At.mk _ rfl)⟩) λL B=>?_
 refine wpA st (tKp x (p+(c::r).length) (some (.str [c])) (some (.int p))) ?_ λL B=>?_
 ·walk_at "wp"
  refine Pn hx (br lt) h hw hz ?_
  walk_at "wp"
  exact ⟨rfl,(B.set 1 _ |> At.mk _ rfl)⟩
 have hl:p+(c::r).length<=x.length:=by
  have:=congrArg length h
  rw [length_drop,length_append] at this
  lia
 walk_at "wp"
 refine D0 (RN h (br lt) rfl) (BA (aQ (aQ (Nat.le_add_left ..) hl) (aQ hx (by decide)))) ?_
 walk_at "wp"
 ·exact (by decide:2<=big)
 exact hQ
theorem eqN {t:Txt}(h:t=[39]\/t=[34])(s:PS):eqP .none (.str t) s = .ok false s:=by
 rcases h with rfl | rfl
 ·kernel_rfl
 ·kernel_rfl
theorem Em {c:Nat}{r:M PFlow}{Q:PFlow->PS->Prop}{L:Nat->Option PV}(n5:Am 5 c=false)(B:Loc (tKp x p (some (.str [c])) none) L)
  (m:M PFlow) (h:wp r ⟨L,st⟩ Q E):wp (ak (ac ((ac (af 2) λa=>ac (ae (.fset 5)) λb=>ac (inF a b) tst)) λc=>if c then m else (ae .next)) r) ⟨L,st⟩ Q E:=by
 refine A1 (AD (c:=Am 5 c) (by walk_at "wp";refine UN ?_;walk_at "wp";exact ⟨rfl,rfl⟩) (λq=>by rw [n5] at q;cases q) λU=>wpR (KnI h))
theorem T5 {y rest:Txt}(hx:x.length<=90000)(h:x.drop p=39::(y++39::rest))(hy:∀ c∈y,JT c)(hQ:Q (.tup [.int ((p+(y.length+2):Nat):Int),.str y]) ⟨loc,st⟩):wp (ao (Ai Kx) [.str x,.int p]) ⟨loc,st⟩ Q E:=by
 refine AY 2 λL B=>?_
 unfold Ai
 refine Dz hx (Bu h) B λL B=>?_
 refine Em (by decide) B _ ?_
 refine A1 (AD (c:=true) (by walk_at "wp";exact ⟨rfl,rfl⟩) (λU=>?_) (λq=>(by cases q)))
 walk_at "wp"
 refine MT (aQ hx (by decide)) h hy ?_
 walk_at "wp"
 exact hQ
theorem T6 {ts:List Txt}{cs rest:Txt}(hx:x.length<=90000)(u:Units cs ts)(h:x.drop p=34::(ts.flatten++34::rest))(hQ:Q (.tup [.int ((p+(ts.flatten.length+2):Nat):Int),.str cs]) ⟨loc,st⟩):wp (ao (Ai Kx) [.str x,.int p]) ⟨loc,st⟩ Q E:=by
 refine AY 2 λL B=>?_
 unfold Ai
 refine Dz hx (Bu h) B λL B=>?_
 refine Em (by decide) B _ ?_
 refine A1 (AD (c:=false) (by walk_at "wp";exact ⟨rfl,rfl⟩) (λq=>(by cases q)) (λU=>wpR ?_))
 refine A1 (AD (c:=true) (by walk_at "wp";exact ⟨rfl,rfl⟩) (λU=>?_) (λq=>(by cases q)))
 walk_at "wp"
 refine MS (aQ hx (by decide)) (by have:=BO;lia) u h ?_
 walk_at "wp"
 exact hQ
def H1 (x:Txt)(p:Nat):Prop:=∀ (loc:Nat->Option PV) (st:List (List PV)) (Q:PV->PS->Prop) (E:PX->PS->Prop),(∀ t,E (.toml t) ⟨loc,st⟩)->wp (ao (Ai Kx) [.str x,.int p]) ⟨loc,st⟩ Q E
theorem T7 (hx:x.length<=90000)(hp:p=x.length):H1 x p:=by
 subst hp
 intro loc st Q E hE
 have ix:idx (x.length:Int) x.length=none:=by unfold idx;rw [if_pos (Int.natCast_nonneg _),if_neg (by rw [Int.toNat_natCast];exact Nat.lt_irrefl _)]
 refine AY 2 λL B=>?_
 unfold Ai
 refine wpA st (tKp x x.length (some .none) none) ?_ λL B=>?_
 ·rw [C4]
  walk_at "wp"
  rw [FK,ix]
  refine ⟨AM (by lia),?_⟩
  dsimp only
  rw [Dx]
  dsimp only
  walk_at "wp"
  exact ⟨rfl,(B.set 2 _ |> At.mk _ rfl)⟩
 have eqQ:∀ {t:Txt} {L:Nat->Option PV} {Q:PV->PS->Prop} {E:PX->PS->Prop},(t=[39]\/t=[34])->Q (.bool false) ⟨L,st⟩->wp (Aq .Eq .none (.str t)) ⟨L,st⟩ Q E:=λ{t L Q E} h k=>by
  unfold wp
  rw [show Aq .Eq .none (.str t) ⟨L,st⟩ = .ok (.bool false) ⟨L,st⟩ from Ab (eqN h _)]
  exact k
 refine A1 (AD (c:=false) (by walk_at "wp";refine Wn ?_;walk_at "wp";exact ⟨rfl,rfl⟩) (λq=>(by cases q)) λU=>wpR (KnI ?_))
 refine A1 (AD (c:=false) (by walk_at "wp";refine eqQ (.inl rfl) ?_;walk_at "wp";exact ⟨rfl,rfl⟩) (λq=>(by cases q)) λU=>wpR (KnI ?_))
 refine A1 (AD (c:=false) (by walk_at "wp";refine eqQ (.inr rfl) ?_;walk_at "wp";exact ⟨rfl,rfl⟩) (λq=>(by cases q)) λU=>wpR (KnI ?_))
 walk_at "wp"
 refine Cc (BA (aQ hx (by decide))) (by lia) (by decide) ?_
 exact hE _
theorem Po {c:Nat}(hx:x.length<=90000)(hc:x[p]? = some c)(n5:Am 5 c=false)(n39:c≠39)(n34:c≠34):H1 x p:=by
 intro loc st Q E hE
 have lt:=(bf.mp hc).1
 have ne:∀ {d:Nat},c≠d->(([c]:Txt)==[d])=false:=λh=>aY.mpr λe=>h (List.cons.inj e).1
 refine AY 2 λL B=>?_
 unfold Ai
 refine Dz hx hc B λL B=>?_
 refine Em n5 B _ ?_
 refine A1 (AD (c:=false) (by walk_at "wp";rw [ne n39];walk_at "wp";exact ⟨rfl,rfl⟩) (λq=>(by cases q)) λU=>wpR (KnI ?_))
 refine A1 (AD (c:=false) (by walk_at "wp";rw [ne n34];walk_at "wp";exact ⟨rfl,rfl⟩) (λq=>(by cases q)) λU=>wpR (KnI ?_))
 walk_at "wp"
 refine Cc (BA (aQ hx (by decide))) (by lia) (by decide) ?_
 exact hE _
end
section
variable {p:Nat}{x:Txt}
inductive Rd (x:Txt)(p:Nat):Nat->Txt->Prop
 | bare {w z:Txt}:x.drop p=w++z->w≠[]->(∀ c∈w,Am 5 c=true)->(∀ c r,z=c::r->Am 5 c=false)->Rd x p (p+w.length) w
 | lit {y rest:Txt}:x.drop p=39::(y++39::rest)->(∀ c∈y,JT c)->Rd x p (p+(y.length+2)) y
 | bas {ts:List Txt} {cs rest:Txt}:Units cs ts->x.drop p=34::(ts.flatten++34::rest)->Rd x p (p+(ts.flatten.length+2)) cs
theorem Rd.call {e:Nat}{n:Txt}(h:Rd x p e n)(hx:x.length<=90000)(loc:Nat->Option PV)(st:List (List PV))(Q:PV->PS->Prop)(E:PX->PS->Prop)(hQ:Q (.tup [.int (e:Nat),.str n]) ⟨loc,st⟩):wp (ao (Ai Kx) [.str x,.int p]) ⟨loc,st⟩ Q E:=by
 cases h with
 | bare h1 h2 h3 h4=>exact RW hx h1 h2 h3 h4 hQ
 | lit h1 h2=>exact T5 hx h1 h2 hQ
 | bas h1 h2=>exact T6 hx h1 h2 hQ
def RX (f:M PFlow)(x:Txt)(p:Nat):Prop:=∀ (loc:Nat->Option PV) (st:List (List PV)) (Q:PV->PS->Prop) (E:PX->PS->Prop),(∀ t,E (.toml t) ⟨loc,st⟩)->wp (ao f [.str x,.int p]) ⟨loc,st⟩ Q E
theorem RY (hx:x.length<=90000)(hc:x[p]? = some 39)(f:RX (AE Kx) x p):H1 x p:=by
 intro loc st Q E hE
 refine AY 2 λL B=>?_
 unfold Ai
 refine Dz hx hc B λL B=>?_
 refine Em (by decide) B _ ?_
 refine A1 (AD (c:=true) (by walk_at "wp";exact ⟨rfl,rfl⟩) (λU=>?_) (λq=>(by cases q)))
 walk_at "wp"
 refine f _ _ _ _ λt=>?_
 exact hE t
theorem MU (hx:x.length<=90000)(hc:x[p]? = some 34)(f:RX (Ak Kx) x p):H1 x p:=by
 intro loc st Q E hE
 refine AY 2 λL B=>?_
 unfold Ai
 refine Dz hx hc B λL B=>?_
 refine Em (by decide) B _ ?_
 refine A1 (AD (c:=false) (by walk_at "wp";exact ⟨rfl,rfl⟩) (λq=>(by cases q)) (λU=>wpR ?_))
 refine A1 (AD (c:=true) (by walk_at "wp";exact ⟨rfl,rfl⟩) (λU=>?_) (λq=>(by cases q)))
 walk_at "wp"
 refine f _ _ _ _ λt=>?_
 exact hE t
theorem H3 (f:Nat->Bool)(y:Txt):∃ w z,y=w++z/\(∀ c∈w,f c=true)/\∀ c r,z=c::r->f c=false:=by
 induction y with
 | nil=>exact ⟨[],[],rfl,(λU m=>(by cases m)),λU U e=>(by cases e)⟩
 | cons a y ih=>
  cases q:f a with
  | false=>exact ⟨[],a::y,rfl,(λU m=>(by cases m)),λc r e=>by rw [<- (List.cons.inj e).1];exact q⟩
  | true=>
   obtain ⟨w,z,e,h1,h2⟩:=ih
   exact ⟨a::w,z,by rw [e];rfl,λc m=>(mem_cons.mp m).elim (λe=>e▸q) (h1 c),h2⟩
theorem Pp {c:Nat}(q:BK c=false):Am 0 c=true:=by
 cases h:Am 0 c with
 | true=>rfl
 | false=>rw [Lr h] at q;cases q
theorem Lu {c:Nat}(h:Am 0 c=true):c≠39/\c≠34/\c≠92/\(Bv [c]).length<=100:=by
 have l:c<128:=by
  unfold Am ctl at h
  simp only [and_eq_true,or_eq_true,decide_eq_true_eq,beq_iff_eq] at h
  lia
 exact (by decide +kernel:∀ c<128,Am 0 c=true->c≠39/\c≠34/\c≠92/\(Bv [c]).length<=100) c l h
inductive KeyR (x:Txt)(p:Nat):Prop
 | ok (e:Nat) (n:Txt):Rd x p e n->KeyR x p
 | no:H1 x p->KeyR x p
theorem keyR (hx:x.length<=90000)(sc:∀ c∈x,Al c)(hp:p<=x.length):KeyR x p:=by
 have hx':x.length<=1000000:=aQ hx (by decide)
 have hK:x.length+1<Kx:=by have:=BO;lia
 cases q:x[p]? with
 | none=>exact .no (T7 hx (by have:=bq.mp q;lia))
 | some c=>
  obtain ⟨lt,ec⟩:=bf.mp q
  have hd:x.drop p=c::x.drop (p+1):=by rw [drop_eq_getElem_cons lt,ec]
  have scd:∀ d∈x.drop (p+1),Al d:=λd m=>sc d (mem_of_mem_drop m)
  cases n5:Am 5 c with
  | true=>
   obtain ⟨w,z,e,h1,h2⟩:=H3 (Am 5) (x.drop p)
   refine .ok _ _ (.bare e (λz0=>?_) h1 h2)
   rw [z0,nil_append,hd] at e
   rw [h2 _ _ e.symm] at n5
   cases n5
  | false=>
   by_cases n39:c=39
   ·subst n39
    by_cases h39:39∈x.drop (p+1)
    ·obtain ⟨z1,z2,e,n1⟩:=HW h39
     obtain ⟨w,z,e2,h1,h2⟩:=H3 BK z1
     cases z with
     | nil=>
      rw [append_nil] at e2
      exact .ok _ _ (.lit (by rw [hd,e]) λd m=>⟨h1 d (e2▸m),λz=>n1 (z▸m)⟩)
     | cons b r=>
      have nb:=Pp (h2 b r rfl)
      obtain ⟨b1,b2,b3,b4⟩:=Lu nb
      exact .no (RY hx q λloc st Q E hE=>RU hx' (Nat.lt_of_succ_lt hK) (y:=w) (b:=b) (z:=r++39::z2) (by rw [hd,e,e2,append_assoc,cons_append]) (λd m=>⟨h1 d m,λz=>n1 (by rw [e2];exact mem_append_left _ (z▸m))⟩) (by unfold legal;rw [nb];rfl) b1 b4 (mem_append_right _ mem_cons_self) (hE _))
    ·exact .no (RY hx q λloc st Q E hE=>RT hx' hd h39 (hE _))
   ·by_cases n34:c=34
    ·subst n34
     cases basR _ (x.drop (p+1)) (aR _) scd with
     | ok ts cs z e un=>exact .ok _ _ (.bas un (by rw [hd,e]))
     | eof ts cs e un=>exact .no (MU hx q λloc st Q E hE=>RP hx' hK un (by rw [hd,e]) (hE _))
     | esc ts cs r w k e un f=>
      refine .no (MU hx q λloc st Q E hE=>RQ hx' hK un (by rw [hd,e]) (RV f (aQ hx (by decide)) (Aw (y:=34::ts.flatten) (by rw [hd,e];rfl) |> λh=>?_)) (hE _))
      rw [length_cons] at h
      rw [show p+1+ts.flatten.length=p+(ts.flatten.length+1) by lia]
      exact h
     | ctl ts cs z d e un hc=>
      obtain ⟨b1,b2,b3,b4⟩:=Lu hc
      exact .no (MU hx q λloc st Q E hE=>RS hx' hK un (by rw [hd,e]) hc b2 b3 b4 (hE _))
    ·exact .no (Po hx q n5 n39 n34)
theorem Rd.unique {e e':Nat}{n n':Txt}(h:Rd x p e n)(h':Rd x p e' n')(hx:x.length<=90000):e=e'/\n=n':=by
 have a:=h.call hx (λU=>none) [] (λv U=>v = .tup [.int (e:Nat),.str n]) (λU U=>False) rfl
 have b:=h'.call hx (λU=>none) [] (λv U=>v = .tup [.int (e':Nat),.str n']) (λU U=>False) rfl
 unfold wp at a b
 cases q:ao (Ai Kx) [.str x,.int p] ⟨λU=>none,[]⟩ with
 | ok v s=>
  rw [q] at a b
  have:=a.symm.trans b
  injection this with this
  injection this with t1 t2
  injection t1 with t1
  injection t2 with t2
  injection t2 with t2
  exact ⟨Int.ofNat.inj t1,t2⟩
 | ex _ _=>rw [q] at a;exact a.elim
 | stuck=>rw [q] at a;exact a.elim
theorem Rd.le {e:Nat}{n:Txt}(h:Rd x p e n)(hp:p<=x.length):p<e/\e<=x.length:=by
 cases h with
 | bare h1 h2 _ _=>
  have:=congrArg length h1
  rw [length_drop,length_append] at this
  have:=List.length_pos_iff.mpr h2
  lia
 | lit h1 _=>
  have:=congrArg length h1
  rw [length_drop,length_cons,length_append,length_cons] at this
  lia
 | bas _ h1=>
  have:=congrArg length h1
  rw [length_drop,length_cons,length_append,length_cons] at this
  lia
end
section
variable {loc:Nat->Option PV}{st:List (List PV)}{Q:PV->PS->Prop}{E:PX->PS->Prop}
theorem Vz {i:Nat}{v r:PV}{Q:Unit->PS->Prop}(h:st[i]? = some [v])(k:Q () ⟨loc,st.set i [r]⟩):wp (Dr (.lst i) (.int 0) r) ⟨loc,st⟩ Q E:=by
 show wp (ac (aq i) λl=>am (decide ((0:Int)<=0)&&decide ((0:Int).toNat<l.length)) (aG i (l.set (0:Int).toNat r))) ⟨loc,st⟩ Q E
 rw [wp_bind,Co,h]
 show wp (am true (aG i [r])) ⟨loc,st⟩ Q E
 exact wpO rfl k
theorem DA {i v n:Nat}(h:st[i]? = some [.int (v:Nat)])(h1:0<n)(h2:n<1073741824)(hQ:Q (.int ((v % n:Nat):Int)) ⟨loc,st.set i [.int ((v / n:Nat):Int)]⟩):wp (ao (BJ Kx) [.lst i,.int (n:Nat)]) ⟨loc,st⟩ Q E:=by
 have hc:(((n:Nat):Int) != 0&&small (n:Nat))=true:=by
  rw [bne_iff_ne.mpr (Int.natCast_ne_zero.mpr (Nat.ne_of_gt h1)),AM (by lia)];rfl
 refine AY 1 λL B=>?_
 unfold BJ
 refine wpA st [some (.lst i),some (.int (n:Nat)),some (.int ((v % n:Nat):Int))] ?_ λL B=>?_
 ·walk_at "wp"
  refine CN (j:=0) rfl h rfl rfl ?_
  walk_at "wp"
  exact hc
  walk_at "wp"
  rw [FM]
  exact ⟨rfl,(B.set 2 _ |> At.mk _ rfl)⟩
 refine wpN (At (st.set i [.int ((v / n:Nat):Int)]) [some (.lst i),some (.int (n:Nat)),some (.int ((v % n:Nat):Int))]) ?_ ?_
 ·walk_at "wp"
  refine CN (j:=0) rfl h rfl rfl ?_
  walk_at "wp"
  refine wpO hc ?_
  rw [Lj]
  walk_at "wp"
  refine Vz h ?_
  walk_at "wp"
  exact ⟨rfl,.mk _ rfl B⟩
 ·rintro _ ⟨L,rfl,B⟩
  walk_at "wp"
  exact hQ
theorem T8 {L:Nat->Option PV}{st:List (List PV)}{c:Nat}{Q:PV->PS->Prop}{E:PX->PS->Prop}(g:L 2=some (.int c))(lc:c<1112064)(h:∀ d:Nat,Al d->Q (.int d) ⟨L,st⟩) :
  wp (ac ((ac (af 2) λa=>ac (ae (.int 55296)) λb=>ac (Aq .Lt a b) tst)) λc=>if c then af 2 else (ac (af 2) λa=>ac (ae (.int 2048)) λb=>AO .Add a b)) ⟨L,st⟩ Q E:=by
 refine AD (c:=decide ((c:Int)<55296)) (wpB (wpG g (KtI (wpB (wpR (KtI (wpB (wpLtI (KtI (wpTb ⟨rfl,rfl⟩)))))))))) (λq=>?_) λq=>?_
 ·have q:c<55296:=Int.ofNat_lt.mp (aZ q)
  exact wpG g (h c (.inl (by lia)))
 ·have q:¬ c<55296:=λz=>of_decide_eq_false q (Int.ofNat_lt.mpr z)
  rw [wp_bind,NG,g]
  have e:((c+2048:Nat):Int)=(c:Int)+2048:=Int.natCast_add c 2048
  have z:=h (c+2048) (.inr (by lia))
  rw [e] at z
  exact z
theorem I6 {i v:Nat}(h:st[i]? = some [.int (v:Nat)])(hQ:∀ c v':Nat,Al c->Q (.str [c]) ⟨loc,st.set i [.int (v':Nat)]⟩):wp (ao (C1 Kx) [.lst i]) ⟨loc,st⟩ Q E:=by
 have lt:=(bf.mp h).1
 refine AY 2 λL B=>?_
 unfold C1
 refine wpN (At (st.set i [.int ((v / 16:Nat):Int)]) [some (.lst i),some (.int ((v % 16:Nat):Int)),none]) ?_ ?_
 ·walk_at "wp"
  refine DA (n:=16) h (by decide) (by decide) ?_
  walk_at "wp"
  exact ⟨rfl,(B.set 1 _ |> At.mk _ rfl)⟩
 rintro _ ⟨L,rfl,B⟩
 have hm:v % 16<16:=Nat.mod_lt _ (by decide)
 generalize v % 16=m at B hm
 generalize v / 16=v1 at B ⊢
 refine A1 (AD (c:=decide ((m:Int)<15)) (by walk_at "wp";exact ⟨rfl,rfl⟩) (λq=>?_) λq=>wpR (KnI ?_))
 ·have q:m<15:=Int.ofNat_lt.mp (aZ q)
  walk_at "wp"
  refine Li (AM (by omega)) (FL q) ?_
  walk_at "wp"
  exact hQ _ _ (.inl ((by decide:∀ m<15,([97,117,48,110,46,32,9,39,34,92,61,35,10,45,255]:Txt).getD m 0<=55295) m q))
 ·refine wpN (At (st.set i [.int ((v1 / 1112064:Nat):Int)]) [some (.lst i),some (.int (m:Nat)),some (.int ((v1 % 1112064:Nat):Int))]) ?_ ?_
  ·walk_at "wp"
   refine DA (n:=1112064) (st:=st.set i [.int (v1:Nat)]) (List.getElem?_set_self lt) (by decide) (by decide) ?_
   rw [List.set_set]
   walk_at "wp"
   exact ⟨rfl,(B.set 2 _ |> At.mk _ rfl)⟩
  rintro _ ⟨L,rfl,B⟩
  have hm:v1 % 1112064<1112064:=Nat.mod_lt _ (by decide)
  generalize v1 % 1112064=c at B hm
  refine wpB (wpB (wpSC (T8 (B 2 _ rfl) hm λd sc=>?_)))
  refine wpSN ?_
  refine KtI (Vw rfl sc ?_)
  walk_at "wp"
  exact hQ _ _ sc
end
theorem Df (f:Txt)(c:Nat):hexval (f++[c])=hexval f*16+Bo c:=by
 show (f++[c]).foldl (λa c=>a*16+Bo c) 0=_
 rw [List.foldl_append];rfl
def plC (c:Nat):Bool:=c==9||(decide (31<c)&&!(c==34||(c==92||c==127)))
def H4 (k:Nat):Txt:=if k % 2=0 then [48,49,50,51,52,53,54,55,56,57,97,98,99,100,101,102] else [48,49,50,51,52,53,54,55,56,57,65,66,67,68,69,70]
def T9 (c n k:Nat):Nat:=(H4 k).getD (c / 16 ^ (n - 1 - k) % 16) 0
def C6 (c n:Nat):Txt:=(range n).map (T9 c n)
def sizeF (c w:Nat):Nat:=if (decide (w<3)&&(decide (c<65536)&&true))=true then 4 else 8
def ET (c w:Nat):Txt:=(if sizeF c w=4 then [92,117] else [92,85])++C6 c (sizeF c w)
def unF (c w:Nat):Txt:=if (w==0&&plC c)=true then [c] else if (decide (w<2)&&(short c).isSome)=true then [92,(short c).getD 0] else ET c w
theorem VA (k:Nat){d:Nat}(h:d<16):hexd ((H4 k).getD d 0)=true/\Bo ((H4 k).getD d 0)=d:=by
 unfold H4
 split
 ·exact (by decide:∀ d<16,hexd (([48,49,50,51,52,53,54,55,56,57,97,98,99,100,101,102]:Txt).getD d 0)=true/\Bo (([48,49,50,51,52,53,54,55,56,57,97,98,99,100,101,102]:Txt).getD d 0)=d) d h
 ·exact (by decide:∀ d<16,hexd (([48,49,50,51,52,53,54,55,56,57,65,66,67,68,69,70]:Txt).getD d 0)=true/\Bo (([48,49,50,51,52,53,54,55,56,57,65,66,67,68,69,70]:Txt).getD d 0)=d) d h
theorem Ua (k:Nat):(H4 k).length=16:=by
 unfold H4
 split <;> rfl
theorem DB (c n:Nat):(C6 c n).length=n:=by
 unfold C6
 rw [length_map,length_range]
theorem Pq (c n:Nat):C6 c (n+1)=C6 (c / 16) n++[(H4 n).getD (c % 16) 0]:=by
 unfold C6
 rw [range_succ,map_append]
 congr 1
 ·refine List.map_congr_left λk hk=>?_
  have lt:=mem_range.mp hk
  unfold T9
  rw [show n+1 - 1 - k=(n - 1 - k)+1 by lia,Nat.pow_succ,Nat.mul_comm (16 ^ (n - 1 - k)),<- Nat.div_div_eq_div_mul]
 ·show [T9 c (n+1) n]=_
  unfold T9
  rw [show n+1 - 1 - n=0 by lia,Nat.pow_zero,Nat.div_one]
theorem Lv (n:Nat):∀ c,(C6 c n).all hexd=true/\hexval (C6 c n)=c % 16 ^ n:=by
 induction n with
 | zero=>exact λc=>⟨rfl,(Nat.mod_one c).symm⟩
 | succ n ih=>
  intro c
  obtain ⟨h1,h2⟩:=ih (c / 16)
  obtain ⟨t1,t2⟩:=VA n (Nat.mod_lt c (by decide:0<16))
  rw [Pq]
  refine ⟨by rw [List.all_append,h1,all_cons,t1];rfl,?_⟩
  rw [Df,h2,t2,Nat.pow_succ,Nat.mul_comm (16 ^ n),Nat.mod_mul,Nat.mul_comm 16,Nat.add_comm]
theorem VB {c:Nat}(h:plC c=true):BK c=true/\c≠34/\c≠92:=by
 unfold plC at h
 unfold BK
 simp only [or_eq_true,and_eq_true,not_eq_true',or_eq_false_iff,beq_iff_eq,beq_eq_false_iff_ne,decide_eq_true_eq,bne_iff_ne] at h ⊢
 lia
theorem RZ {c:Nat}(h:BK c=true)(h1:c≠34)(h2:c≠92):plC c=true:=by
 unfold BK at h
 unfold plC
 simp only [or_eq_true,and_eq_true,not_eq_true',or_eq_false_iff,beq_iff_eq,beq_eq_false_iff_ne,decide_eq_true_eq,bne_iff_ne] at h ⊢
 lia
theorem FT (c w:Nat):(sizeF c w=4/\w<3/\c<65536)\/(sizeF c w=8/\¬ (w<3/\c<65536)):=by
 unfold sizeF
 simp only [Bool.and_true,and_eq_true,decide_eq_true_eq]
 by_cases h:w<3/\c<65536
 ·exact .inl ⟨if_pos h,h⟩
 ·exact .inr ⟨if_neg h,h⟩
theorem Ub {c:Nat}(hc:c<1114112)(w:Nat):UnitOf c (ET c w):=by
 unfold ET
 rcases FT c w with ⟨e,h⟩ | ⟨e,h⟩
 ·obtain ⟨h1,h2⟩:=Lv 4 c
  rw [e,if_pos rfl]
  exact .four (DB ..) h1 (h2.trans (Nat.mod_eq_of_lt (bx h.2 (by decide))))
 ·obtain ⟨h1,h2⟩:=Lv 8 c
  rw [e,if_neg (by decide)]
  exact .eight (DB ..) h1 (h2.trans (Nat.mod_eq_of_lt (bx hc (by decide))))
theorem JV {c:Nat}(hc:c<1114112)(w:Nat):UnitOf c (unF c w):=by
 unfold unF
 by_cases h:(w==0&&plC c)=true
 ·rw [if_pos h]
  obtain ⟨h1,h2,h3⟩:=VB (and_eq_true_iff.mp h).2
  exact .raw h1 h2 h3
 ·rw [if_neg h]
  by_cases h:(decide (w<2)&&(short c).isSome)=true
  ·rw [if_pos h]
   obtain ⟨d,e⟩:=be.mp (and_eq_true_iff.mp h).2
   rw [e]
   obtain ⟨e1,e2,e3⟩:=O9 e
   exact .short e1 e2 e3
  ·rw [if_neg h]
   exact Ub hc w
section
variable {loc:Nat->Option PV}{st:List (List PV)}{Q:PV->PS->Prop}{E:PX->PS->Prop}
abbrev tUn (c w:Nat)(d size u k:Option PV):Tb:=[some (.str [c]),some (.int (w:Nat)),some (.int (c:Nat)),d,size,u,k,none]
theorem Wo:∀ k:Nat,k<8->(2<=(16:Int)&&(16:Int)<=16&&0<=(k:Int)&&(k:Int)<=16)=true:=by decide
theorem R7:∀ k:Nat,k<8->(((16:Int) ^ ((k:Int).toNat)) != 0&&small ((16:Int) ^ ((k:Int).toNat)))=true:=by decide
theorem VC {c:Nat}{s:PS}(h:Q (.bool (!(c==34||(c==92||c==127)))) s):wp (Aq .NotIn (.int (c:Nat)) (.tup [.int 34,.int 92,.int 127])) s Q E:=by
 unfold wp
 have e:∀ d:Nat,(((d:Nat):Int)==((c:Nat):Int))=(c==d):=λd=>by
  rw [Bool.eq_iff_iff,beq_iff_eq,beq_iff_eq,Int.ofNat_inj];exact ⟨λh=>h.symm,λh=>h.symm⟩
 have:Aq .NotIn (.int (c:Nat)) (.tup [.int 34,.int 92,.int 127]) s=R.ok (PV.bool (!((((34:Nat):Int)==((c:Nat):Int))||((((92:Nat):Int)==((c:Nat):Int))||((((127:Nat):Int)==((c:Nat):Int))||false))))) s:=rfl
 rw [this,e,e,e,Bool.or_false]
 exact h
theorem Pr {c w n:Nat}{pre:Txt}{L:Nat->Option PV}{E:PX->PS->Prop}(hn:n<=8)(hp:pre.length=2)(B:Loc (tUn c w (some CM) (some (.int (n:Nat))) (some (.str pre)) none) L) :
  wp (aE (BX 0 n) (aj 6) (CL Kx) Kx 0) ⟨L,st⟩ (λf s'=>f = .next/\At st (tUn c w (some CM) (some (.int (n:Nat))) (some (.str (pre++C6 c n))) none) s') E:=by
 refine GC (P:=λk=>At st (tUn c w (some CM) (some (.int (n:Nat))) (some (.str (pre++(C6 c n).take k))) none)) (n:=n) (λk=>.int k) (by rw [List.take_zero,append_nil];exact .mk L rfl B) (by have:=BO;lia) (λk s U lt=>Ez lt) (λs U=>EA) (λk L st' z lt=>?_)
  (λs z=>by rw [take_of_length_le (Nat.le_of_eq (DB c n))] at z;exact z)
 obtain ⟨_,e,B⟩:=z
 cases e
 have B:=B.set 6 (.int k)
 unfold CL
 refine wpN (At st ([some (.str [c]),some (.int (w:Nat)),some (.int (c:Nat)),some CM,some (.int (n:Nat)),some (.str (pre++(C6 c n).take k)),some (.int k),some (.str (H4 k))])) ?_ ?_
 ·refine wpB (AD (c:=decide (k % 2=0)) ?_ (λq=>?_) λq=>?_)
  ·walk_at "wp"
   rw [show Int.fmod (k:Int) 2=((k % 2:Nat):Int) from FM k 2]
   exact ⟨by rw [Bool.eq_iff_iff,beq_iff_eq,decide_eq_true_eq];exact Int.ofNat_inj,rfl⟩
  ·have q:=aZ q
   walk_at "wp"
   refine ⟨rfl,?_⟩
   have e:H4 k=[48,49,50,51,52,53,54,55,56,57,97,98,99,100,101,102]:=if_pos q
   rw [e]
   exact (B.set 7 _ |> At.mk _ rfl)
  ·have q:=of_decide_eq_false q
   walk_at "wp"
   refine ⟨rfl,?_⟩
   have e:H4 k=[48,49,50,51,52,53,54,55,56,57,65,66,67,68,69,70]:=if_neg q
   rw [e]
   exact (B.set 7 _ |> At.mk _ rfl)
 rintro _ ⟨L,rfl,B⟩
 have k8:n - 1 - k<8:=by lia
 have hm:c / 16 ^ (n - 1 - k) % 16<16:=Nat.mod_lt _ (by decide)
 refine wpB (wpL B rfl (KtI (wpB ?_)))
 walk_at "wp"
 rw [show ((n:Nat):Int) - 1 - (k:Nat)=((n - 1 - k:Nat):Int) by lia]
 refine Wb (Wo _ k8) ?_
 refine KtI (KtI (wpDI (R7 _ k8) ?_))
 walk_at "wp"
 rw [show Int.fdiv ((c:Nat):Int) (16 ^ ((n - 1 - k:Nat):Int).toNat)=((c / 16 ^ (n - 1 - k):Nat):Int) from by rw [Int.toNat_natCast,<- Lj,Int.natCast_pow];rfl,show Int.fmod ((c / 16 ^ (n - 1 - k):Nat):Int) 16=((c / 16 ^ (n - 1 - k) % 16:Nat):Int) from FM _ 16]
 refine Li (AM (by lia)) (FL (by rw [Ua];exact hm)) ?_
 have fk:(C6 c n)[k]? = some ((H4 k).getD (c / 16 ^ (n - 1 - k) % 16) 0):=by
  unfold C6
  rw [getElem?_map,List.getElem?_range lt]
  rfl
 walk_at "wp"
 ·refine BA (aQ (m:=20) ?_ (by decide))
  rw [length_append,length_append,hp,length_take,List.length_singleton]
  have:=Nat.min_le_left k (C6 c n).length
  lia
 refine ⟨.inl rfl,?_⟩
 rw [take_add_one,fk,append_assoc (as:=pre)] 
 exact (((B.set 5 _).drop 6).drop 7 |> At.mk _ rfl)
end
def Off (js:List Nat)(L L':Nat->Option PV):Prop:=∀ i,i∉js->L' i=L i
theorem Off.set {js:List Nat}{L L':Nat->Option PV}{j:Nat}{v:PV}(h:Off js L L')(m:j∈js):Off js L (upd L' j v):=λi n=>by
 rw [Ro (beq_eq_false_iff_ne.mpr λ(e:i=j)=>n (by rw [e];exact m))];exact h i n
section
variable {loc:Nat->Option PV}{st:List (List PV)}{Q:PV->PS->Prop}{E:PX->PS->Prop}
theorem En {get:Nat->M (Option PV)}{j n:Nat}{t:M Bool}{m:M PV}{p:Nat->PV}(f:Nat->Bool)(v:Nat->PV)(hn:n<=10000)
  (hget:∀ k L',k<n->get k ⟨L',st⟩ = .ok (some (p k)) ⟨L',st⟩) (hend:∀ L',get n ⟨L',st⟩ = .ok none ⟨L',st⟩)
  (ht:∀ k L',k<n->Off [j] loc L'->L' j=some (p k)->wp t ⟨L',st⟩ (λb s'=>b=f k/\s'=⟨L',st⟩) λU U=>False)
  (hm:∀ k L',k<n->f k=true->Off [j] loc L'->L' j=some (p k)->wp m ⟨L',st⟩ (λw s'=>w=v k/\s'=⟨L',st⟩) λU U=>False)
  (hQ:Q (.lst st.length) ⟨loc,st++[((range n).filter f).map v]⟩):wp (aF [j] (az get (aj j) t m Kx 0 [])) ⟨loc,st⟩ Q E:=by
 refine RM ?_
 have key:∀ (g k:Nat) (L':Nat->Option PV),Off [j] loc L'->k<=n->n - k<g ->
   wp (az get (aj j) t m g k (((range k).filter f).map v)) ⟨L',st⟩ (λv s'=>Q v ⟨loc,s'.st⟩) λU U=>False:=by
  intro g
  induction g with
  | zero=>exact λU U U U h=>absurd h (bv _)
  | succ g ih=>
   intro k L' ho hk h
   have hl:(((range k).filter f).map v).length<=k:=by
    rw [length_map];exact aQ (length_filter_le ..) (aS length_range)
   generalize ha:((range k).filter f).map v=acc at hl
   show wp (ac (get k) λo=>match o with
    | none=>au acc
    | some p=>ac (aj j p) λU=>ac t λc=>if c then ac m λv=>am (acc.length+1<=big) (az get (aj j) t m g (k+1) (acc++[v])) else az get (aj j) t m g (k+1) acc) ⟨L',st⟩ _ _
   rw [wp_bind]
   by_cases q:k=n
   ·subst q
    unfold wp
    rw [hend L']
    exact wpNL (aQ hl (aQ hn (by decide))) (ha▸hQ)
   ·have lt:k<n:=Nat.lt_of_le_of_ne hk q
    unfold wp
    rw [hget k L' lt]
    show wp _ _ _ _
    dsimp only
    refine wpB (wpSet (KtI (wpB (wp_mono (ht k _ lt (ho.set mem_cons_self) upd_eq) (λb s' z=>?_) λU U z=>z.elim))))
    obtain ⟨rfl,rfl⟩:=z
    refine KtI ?_
    have o2:Off [j] loc (upd L' j (p k)):=ho.set mem_cons_self
    cases c:f k with
    | false=>
     rw [if_neg Bool.false_ne_true]
     have:=ih (k+1) _ o2 lt (fuel h lt)
     rw [range_succ,filter_append,map_append,filter_cons_of_neg (by rw [c];exact Bool.false_ne_true),ha] at this
     rw [show ([].filter f).map v=([]:List PV) from rfl,append_nil] at this
     exact this
    | true=>
     rw [if_pos rfl]
     refine wpB (wp_mono (hm k _ lt c o2 upd_eq) (λw s' z=>?_) λU U z=>z.elim)
     obtain ⟨rfl,rfl⟩:=z
     refine KtI (wpO (decide_eq_true (aQ (bA hl) (aQ (bB (bx lt hn)) (by decide)))) ?_)
     have:=ih (k+1) _ o2 lt (fuel h lt)
     rw [range_succ,filter_append,map_append,filter_cons_of_pos (by rw [c]),ha] at this
     exact this
 exact key Kx 0 _ (λi n=>if_neg n) (aP _) (bw hn (bc (by decide) BO))
theorem JW (x:Txt)(f:Nat->Bool):((range x.length).filter λk=>f (x.getD k 0)).map (λk=>PV.str [x.getD k 0])=(x.filter f).map λc=>PV.str [c]:=by
 have key:∀ n,n<=x.length->((range n).filter λk=>f (x.getD k 0)).map (λk=>PV.str [x.getD k 0])=((x.take n).filter f).map λc=>PV.str [c]:=by
  intro n
  induction n with
  | zero=>intro _;rfl
  | succ n ih=>
   intro h
   have e:x.take (n+1)=x.take n++[x.getD n 0]:=by
    rw [take_add_one,getElem?_eq_getElem h,getD_eq_getElem?_getD,getElem?_eq_getElem h];rfl
   rw [range_succ,filter_append,map_append,ih (Nat.le_of_succ_le h),e,filter_append,map_append]
   congr 1
   by_cases q:f (x.getD n 0)=true
   ·rw [filter_cons_of_pos (p:=λk=>f (x.getD k 0)) q,filter_cons_of_pos q];rfl
   ·rw [filter_cons_of_neg (p:=λk=>f (x.getD k 0)) q,filter_cons_of_neg q];rfl
 rw [key x.length (Nat.le_refl _),take_length]
theorem H5 {j:Nat}{t:M Bool}{x:Txt}(f:Nat->Bool)(hx:x.length<=10000)
  (ht:∀ c L',c∈x->Off [j] loc L'->L' j=some (.str [c])->wp t ⟨L',st⟩ (λb s'=>b=f c/\s'=⟨L',st⟩) λU U=>False)
  (hQ:Q (.lst st.length) ⟨loc,st++[(x.filter f).map λc=>.str [c]]⟩):wp (aF [j] (az (Bg (.str x)) (aj j) t (af j) Kx 0 [])) ⟨loc,st⟩ Q E:=by
 refine En (n:=x.length) (p:=λk=>.str [x.getD k 0]) (λk=>f (x.getD k 0)) (λk=>.str [x.getD k 0]) hx (λk L' lt=>JR lt) (λL'=>JS) (λk L' lt o e=>ht _ L' ?_ o e) (λk L' lt U o e=>wpG e ⟨rfl,rfl⟩) ?_
 ·rw [getD_eq_getElem?_getD,getElem?_eq_getElem lt]
  exact getElem_mem lt
 ·rw [JW];exact hQ
theorem R8 {a b:PV}{x y:PyData}{s:PS}{r:Bool}(d1:toD s.st 20000000 a=some x)(d2:toD s.st 20000000 b=some y)(s1:SeqAt.shaped x=true)(s2:SeqAt.shaped y=true)(e:PyData.eqv x y=r):eqB a b s = .ok r s:=by
 unfold eqB
 rw [d1,d2]
 show (if (SeqAt.shaped x&&SeqAt.shaped y)=true then R.ok (PyData.eqv x y) s else .stuck)=_
 rw [s1,s2,e];rfl
theorem R9 {a b:PV}{r:Bool}{s:PS}(h:eqB a b s = .ok r s)(k:Q (.bool r) s):wp (eqL a b) s Q E:=wpB (f:=λr=>ae (PV.bool r)) (Wk h k)
theorem Gm {i j:Nat}{ts:List Txt}(hi:st[i]? = some (ts.map .str))(hj:st[j]? = some [])(hl:ts.length<=12500000)(ho:∀ t∈ts,okT t):eqB (.lst i) (.lst j) ⟨loc,st⟩ = .ok (decide (ts=[])) ⟨loc,st⟩:=by
 have s1:SeqAt.shaped (.list (ts.map λt=>.str (txt t)))=true:=by
  unfold SeqAt.shaped
  rw [PyData.canLay0,Ej ho,PyData.depth,Fo]
  decide
 refine R8 (G3 hi (EC (bw hl (by decide)))) (G3 hj rfl) s1 (by decide) ?_
 cases ts with
 | nil=>simp [PyData.eqv,PyData.eqvAll]
 | cons t ts=>simp [PyData.eqv,PyData.eqvAll]
theorem Sa {i j:Nat}{ts:List Txt}(hi:st[i]? = some (ts.map .str))(hj:st[j]? = some (ts.map .str))(hl:ts.length<=12500000)(ho:∀ t∈ts,okT t):eqB (.lst i) (.lst j) ⟨loc,st⟩ = .ok true ⟨loc,st⟩:=by
 have s1:SeqAt.shaped (.list (ts.map λt=>.str (txt t)))=true:=by
  unfold SeqAt.shaped
  rw [PyData.canLay0,Ej ho,PyData.depth,Fo]
  decide
 exact R8 (G3 hi (EC (bw hl (by decide)))) (G3 hj (EC (bw hl (by decide)))) s1 s1 (SeqAt.eqv_refl _ (SeqAt.canLay_of_shaped s1))
theorem Wp {a b:PV}{r:Bool}{s:PS}(h:eqB a b s = .ok r s)(k:Q (.bool !r) s):wp (neB a b) s Q E:=wpB (f:=λr=>ae (PV.bool !r)) (Wk h k)
theorem H6 {s:PS}{F:PX->PS->Prop}:wp (AC .Or []) s (λc s'=>c=false/\s'=s) F:=⟨rfl,rfl⟩
theorem Cu {m:M Bool}{r:List (M Bool)}{s:PS}{F:PX->PS->Prop}{B C:Bool}(h1:wp m s (λb s'=>b=B/\s'=s) F)(h2:B=false->wp (AC .Or r) s (λb s'=>b=C/\s'=s) F):wp (AC .Or (m::r)) s (λb s'=>b=(B||C)/\s'=s) F:=by
 rw [Cp]
 refine wp_mono h1 (λb s' z=>?_) λU U z=>z
 obtain ⟨rfl,rfl⟩:=z
 cases b
 ·rw [if_neg Bool.false_ne_true];exact h2 rfl
 ·rw [if_pos rfl];exact ⟨rfl,rfl⟩
theorem I7 (a b:Nat):(((a:Nat):Int)==((b:Nat):Int))=(a==b):=by
 rw [Bool.eq_iff_iff,beq_iff_eq,beq_iff_eq,Int.ofNat_inj]
theorem Eo (a b:Nat):decide (((a:Nat):Int)<((b:Nat):Int))=decide (a<b):=by
 rw [Bool.eq_iff_iff,decide_eq_true_eq,decide_eq_true_eq,Int.ofNat_lt]
theorem Gn {c w:Nat}(hc:c<1114112)(hQ:Q (.str (unF c w)) ⟨loc,st⟩):wp (ao (Cn Kx) [.str [c],.int (w:Nat)]) ⟨loc,st⟩ Q E:=by
 refine AY 6 λL B=>?_
 unfold Cn
 refine wpA st (tUn c w none none none none) (by walk_at "wp";exact ⟨rfl,(B.set 2 _ |> At.mk _ rfl)⟩) λL B=>?_
 refine A1 (AD (c:=((w==0)&&((((c==9)||(((decide (31<c))&&((!(c==34||(c==92||c==127)))&&true))||false)))&&true))) ?_ (λhb=>?_) λhb=>?_)
 ·refine AX (by walk_at "wp";exact ⟨I7 w 0,rfl⟩) λU=>AX (Cu (by walk_at "wp";exact ⟨I7 c 9,rfl⟩) λU=>Cu (AX (by walk_at "wp";exact ⟨Eo 31 c,rfl⟩) λU=>AX ?_ λU=>BV) λU=>H6) λU=>BV
  walk_at "wp"
  ·exact (by decide:3<=big)
  refine VC ?_
  walk_at "wp"
  exact ⟨rfl,rfl⟩
 ·simp only [Bool.and_true,Bool.or_false] at hb
  walk_at "wp"
  rw [show unF c w=[c] from if_pos hb] at hQ
  exact hQ
 have n1:(w==0&&plC c)=false:=by
  simp only [Bool.and_true,Bool.or_false] at hb
  exact hb
 refine wpR (KnI ?_)
 refine wpA st (tUn c w (some CM) none none none) (wpB (wpR (wpB (wpSet (WE (B.set 3 _ |> At.mk _ rfl)))))) λL B=>?_
 refine A1 (AD (c:=(decide (w<2)&&((short c).isSome&&true))) (AX (by walk_at "wp";exact ⟨Eo w 2,rfl⟩) λU=>AX (by walk_at "wp";rw [MN];exact ⟨rfl,rfl⟩) λU=>BV) (λhb=>?_) λhb=>?_)
 ·rw [Bool.and_true] at hb
  obtain ⟨d,hd⟩:=be.mp (and_eq_true_iff.mp hb).2
  walk_at "wp"
  rw [JP hd]
  walk_at "wp"
  ·exact (by decide:2<=big)
  rw [show unF c w=[92,d] from (if_neg (by rw [n1];exact Bool.false_ne_true)).trans ((if_pos hb).trans (by rw [hd];rfl))] at hQ
  exact hQ
 rw [Bool.and_true] at hb
 rw [show unF c w=ET c w from (if_neg (by rw [n1];exact Bool.false_ne_true)).trans (if_neg (by rw [hb];exact Bool.false_ne_true))] at hQ
 refine wpR (KnI ?_)
 refine wpA st (tUn c w (some CM) (some (.int (sizeF c w:Nat))) none none) ?_ λL B=>?_
 ·refine wpB (AD (c:=(decide (w<3)&&(decide (c<65536)&&true))) (AX (by walk_at "wp";exact ⟨Eo w 3,rfl⟩) λU=>AX (by walk_at "wp";exact ⟨Eo c 65536,rfl⟩) λU=>BV) (λhb=>?_) λhb=>?_)
  ·have e:sizeF c w=4:=if_pos hb
   walk_at "wp"
   rw [e]
   exact ⟨rfl,(B.set 4 _ |> At.mk _ rfl)⟩
  ·have e:sizeF c w=8:=if_neg (by rw [hb];exact bo)
   walk_at "wp"
   rw [e]
   exact ⟨rfl,(B.set 4 _ |> At.mk _ rfl)⟩
 have s8:sizeF c w<=8:=by rcases FT c w with ⟨e,_⟩ | ⟨e,_⟩ <;> rw [e] <;> decide
 unfold ET at hQ
 generalize sizeF c w=n at B s8 hQ
 refine wpA st (tUn c w (some CM) (some (.int (n:Nat))) (some (.str (if n=4 then [92,117] else [92,85]))) none) ?_ λL B=>?_
 ·refine wpB (AD (c:=decide (n=4)) (by walk_at "wp";exact ⟨I7 n 4,rfl⟩) (λhb=>?_) λhb=>?_)
  ·have hb:=aZ hb
   walk_at "wp"
   rw [if_pos hb]
   exact ⟨rfl,(B.set 5 _ |> At.mk _ rfl)⟩
  ·have hb:=of_decide_eq_false hb
   walk_at "wp"
   rw [if_neg hb]
   exact ⟨rfl,(B.set 5 _ |> At.mk _ rfl)⟩
 have hp:(if n=4 then ([92,117]:Txt) else [92,85]).length=2:=by split <;> rfl
 generalize (if n=4 then ([92,117]:Txt) else [92,85])=pre at B hQ hp
 refine wpN (At st (tUn c w (some CM) (some (.int (n:Nat))) (some (.str (pre++C6 c n))) none)) ?_ ?_
 ·walk_at "wp"
  rw [Dv (Nat.lt_of_le_of_lt s8 (by decide))]
  exact Pr s8 hp B
 rintro _ ⟨L,rfl,B⟩
 walk_at "wp"
 exact hQ
end
def NQ:Txt:=[97,98,99,100,101,102,103,104,105,106,107,108,109,110,111,112,113,114,115,116,117,118,119,120,121,122,65,66,67,68,69,70,71,72,73,74,75,76,77,78,79,80,81,82,83,84,85,86,87,88,89,90,48,49,50,51,52,53,54,55,56,57,45,95]
theorem Uc {c:Nat}(h:Am 5 c=true):c<128:=by
 have h:((48<=c&&c<=57)||(97<=c&&c<=122)||(65<=c&&c<=90)||c==45||c==95)=true:=h
 simp only [or_eq_true,and_eq_true,decide_eq_true_eq,beq_iff_eq] at h
 lia
theorem Ud (c:Nat):LP [c] NQ=Am 5 c:=by
 rw [Bool.eq_iff_iff,TX]
 refine ⟨λm=>(by decide:∀ c∈NQ,Am 5 c=true) c m,λh=>?_⟩
 exact (by decide +kernel:∀ c<128,Am 5 c=true->c∈NQ) c (Uc h) h
def isBare (n:Txt):Bool:=!(n==[])&&n.all (Am 5)
def Iw (c:Nat):Bool:=BK c&&c != 39
def DX (n:Txt):Bool:=n.all Iw
def mkF (n:Txt)(dress:Nat)(inner:Txt):Txt:=if (decide (dress<2)&&DX n)=true then 39::(n++[39]) else 34::(inner++[34])
theorem H7 (f:Nat->Bool)(n:Txt):decide ((n.filter λc=>!f c).map (λc=>[c])=([]:List Txt))=n.all f:=by
 rw [Bool.eq_iff_iff,decide_eq_true_eq,List.map_eq_nil_iff,List.filter_eq_nil_iff,all_eq_true]
 refine ⟨λh c m=>?_,λh c m=>?_⟩
 ·have:=h c m
  cases q:f c
  ·rw [q] at this;exact absurd rfl this
  ·rfl
 ·rw [h c m];exact bo
theorem NR (c d:Nat):(([c]:Txt)==[d])=(c==d):=Bool.and_true _
theorem NS {x:Txt}(ok:okT x)(f:Nat->Bool):∀ t∈(x.filter f).map (λc=>([c]:Txt)),okT t:=λt m=>by
 obtain ⟨c,m2,rfl⟩:=mem_map.mp m
 exact λd k=>by rw [mem_singleton.mp k];exact ok c (mem_filter.mp m2).1
section
variable {loc:Nat->Option PV}{st:List (List PV)}{Q:PV->PS->Prop}{E:PX->PS->Prop}
theorem Sb {s:PS}{x y:Txt}(h:Q (.bool (!(x==y))) s):wp (Aq .NotEq (.str x) (.str y)) s Q E:=h
theorem VD {s:PS}{x y:Txt}(h:Q (.bool (!LP x y)) s):wp (Aq .NotIn (.str x) (.str y)) s Q E:=h
theorem JX {m:M Bool}{s:PS}{F:PX->PS->Prop}{B:Bool}(h1:wp m s (λb s'=>b=B/\s'=s) F):wp (AC .And [m]) s (λb s'=>b=B/\s'=s) F:=Bool.and_true B▸AX (C:=true) h1 λU=>BV
theorem DC {n:Txt}(hn:n.length<=10000)(ok:okT n)(hQ:∀ st',st <+: st'->Q (.bool (isBare n)) ⟨loc,st'⟩):wp (ao (AZ Kx) [.str n]) ⟨loc,st⟩ Q E:=by
 refine AY 2 λL B=>?_
 unfold AZ
 refine wpA st [some (.str n),some (.str NQ),none] (by walk_at "wp";exact ⟨rfl,(B.set 1 _ |> At.mk _ rfl)⟩) λL B=>?_
 refine wpB ?_
 rw [GY (cons_ne_nil _ _)]
 refine wpB (wpL B rfl (KtI (wpB (wpR (KtI (Sb ?_))))))
 show match (some (!(n==[])):Option Bool) with | some true=>_ | some false=>_ | none=>_
 cases q:n==[] with
 | true=>
  rw [show isBare n=false by unfold isBare;rw [q];rfl] at hQ
  refine KtI (wpR ?_)
  exact hQ _ (prefix_refl _)
 | false=>
  rw [show isBare n=n.all (Am 5) by unfold isBare;rw [q];rfl] at hQ
  show wp (ac _ _) _ _ _
  refine wpB (wpB (wpB (wpL B rfl (KtI ?_))))
  refine wpR (KtI (H5 (x:=n) (λc=>!Am 5 c) hn (λc L' U o e=>JX ?_) ?_))
  ·refine wpB (wpG e (KtI (wpB (wpG ((o 1 (by decide)).trans (B 1 _ rfl)) (KtI (wpB (VD ?_)))))))
   rw [Ud]
   exact KtI (wpTb ⟨rfl,rfl⟩)
  ·refine KtI (wpB (wpB (wpSN (KtI (wpNL (by decide:0<=big) (KtI ?_))))))
   refine R9 (Gm (ts:=(n.filter λc=>!Am 5 c).map λc=>[c]) (by rw [List.map_map];exact DV BB) BB (by rw [length_map];exact aQ (length_filter_le ..) (aQ hn (by decide))) (NS ok _)) ?_
   rw [H7]
   refine KtI (wpR ?_)
   exact hQ _ ((Iv _).trans (Iv _))
theorem Sc (c:Nat):(((c==39)||(((!(c==9))&&((decide (c<32)||((c==127)||false))&&true))||false))) = !Iw c:=by
 unfold Iw BK
 rw [Bool.eq_iff_iff]
 simp only [or_eq_true,and_eq_true,not_eq_true',Bool.and_true,Bool.or_false,Bool.and_eq_false_iff,or_eq_false_iff,beq_iff_eq,bne_iff_ne,beq_eq_false_iff_ne,bne_eq_false_iff_eq,decide_eq_true_eq,decide_eq_false_iff_not]
 lia
theorem DD {x:Txt}(h:x.length<=10000)(d:Nat):([d]++x).length<=big/\([d]++x++[d]).length<=big:=by
 rw [length_append,length_append,length_append,List.length_singleton]
 exact ⟨aQ (show 1+x.length<=10002 by lia) (by decide),aQ (show 1+x.length+1<=10002 by lia) (by decide)⟩
theorem Ep {n inner:Txt}{dress:Nat}(hn:n.length<=10000)(hi:inner.length<=10000)(ok:okT n)(hQ:∀ st',st <+: st'->Q (.str (mkF n dress inner)) ⟨loc,st'⟩):wp (ao (Bs Kx) [.str n,.int (dress:Nat),.str inner]) ⟨loc,st⟩ Q E:=by
 refine AY 1 λL B=>?_
 unfold Bs
 have fin:∀ (b:Bool) st',b=(decide (dress<2)&&DX n)->st <+: st'->wp (if b then (ac ((ac ((ac (ae (.str [39])) λa=>ac (af 0) λc=>AO .Add a c)) λa=>ac (ae (.str [39])) λc=>AO .Add a c)) λa=>ae (.ret a)) else (ae .next)) ⟨L,st'⟩ (Kn (ac ((ac ((ac (ae (.str [34])) λa=>ac (af 2) λc=>AO .Add a c)) λa=>ac (ae (.str [34])) λc=>AO .Add a c)) λa=>ae (.ret a)) (Kr loc Q) (Ke loc E)) (Ke loc E):=by
  intro b st' hb p
  cases b with
  | true=>
   rw [if_pos rfl]
   walk_at "wp"
   ·exact (DD hn _).1
   ·exact (DD hn _).2
   have:=hQ st' p
   rw [show mkF n dress inner=39::(n++[39]) from if_pos hb.symm] at this
   exact this
  | false=>
   rw [if_neg Bool.false_ne_true]
   refine wpR (KnI ?_)
   walk_at "wp"
   ·exact (DD hi _).1
   ·exact (DD hi _).2
   have:=hQ st' p
   rw [show mkF n dress inner=34::(inner++[34]) from if_neg (by rw [<- hb];exact Bool.false_ne_true)] at this
   exact this
 refine A1 (wpB ?_)
 rw [Bj]
 refine wpB (wpL B rfl (KtI (wpB (wpR (KtI (wpB (wpLtI (KtI (wpTb ?_)))))))))
 by_cases q:dress<2
 ·rw [if_pos (decide_eq_true (show ((dress:Nat):Int)<2 from Int.ofNat_lt.mpr q))]
  rw [Bj]
  refine wpB (wpB (wpB (wpL B rfl (KtI (wpR (KtI (H5 (x:=n) (λc=>!Iw c) hn (λc L' U o e=>JX ?_) ?_)))))))
  ·rw [<- Sc]
   refine Cu ?_ λU=>Cu (AX ?_ λU=>AX (Cu ?_ λU=>Cu ?_ λU=>H6) λU=>BV) λU=>H6
   ·refine wpB (wpG e (KtI (wpB (wpR (KtI (wpB (wpEqS ?_)))))))
    rw [NR]
    exact KtI (wpTb ⟨rfl,rfl⟩)
   ·refine wpB (wpG e (KtI (wpB (wpR (KtI (wpB (Sb ?_)))))))
    rw [NR]
    exact KtI (wpTb ⟨rfl,rfl⟩)
   ·refine wpB (wpB (wpSC (wpG e (wpSN (KtI (wpOrd (KtI (wpB (wpR (KtI (wpB (wpLtI ?_))))))))))))
    exact KtI (wpTb ⟨Eo c 32,rfl⟩)
   ·refine wpB (wpB (wpSC (wpG e (wpSN (KtI (wpOrd (KtI (wpB (wpR (KtI (wpB (wpEqI ?_))))))))))))
    exact KtI (wpTb ⟨I7 c 127,rfl⟩)
  ·refine KtI (wpB (wpB (wpSN (KtI (wpNL (by decide:0<=big) (KtI ?_))))))
   refine wpB (R9 (Gm (ts:=(n.filter λc=>!Iw c).map λc=>[c]) (by rw [List.map_map];exact DV BB) BB (by rw [length_map];exact aQ (length_filter_le ..) (aQ hn (by decide))) (NS ok _)) ?_)
   rw [H7]
   refine KtI (wpTb ?_)
   have p:st <+: st++[(n.filter λc=>!Iw c).map λc=>PV.str [c]]++[[]]:=(Iv _).trans (Iv _)
   by_cases z:n.all Iw=true
   ·rw [if_pos z]
    exact KtI (fin _ _ (by rw [decide_eq_true q];exact z.symm) p)
   ·rw [if_neg z]
    exact KtI (fin _ _ (by rw [decide_eq_true q];exact (Bool.not_eq_true _▸z:n.all Iw=false).symm) p)
 ·rw [if_neg (by rw [decide_eq_false (show ¬ ((dress:Nat):Int)<2 from λz=>q (Int.ofNat_lt.mp z))];exact Bool.false_ne_true)]
  exact KtI (fin _ _ (by rw [decide_eq_false q];rfl) (prefix_refl _))
end
def Ps (n:Txt):Txt:=(n.map (unF · 0)).flatten
def mk0 (n:Txt):Txt:=mkF n 0 (Ps n)
def B0 (p:Txt × Txt):Txt:=if decide (p.1.length<p.2.length)=true then p.1 else p.2
def H8 (n:Txt)(p:Txt × Txt):Txt × Txt:=(if isBare n=true then n++p.2 else mk0 n++B0 p,mk0 n++B0 p)
def sh (l:List Txt):Txt × Txt:=l.foldr H8 ([],[])
def shF (l:List Txt):Txt:=B0 (sh l)
theorem JY {c:Nat}(h:c<1114112)(w:Nat):(unF c w).length<=10:=FS (JV h w)
theorem H9 {n:Txt}(h:∀ c∈n,c<1114112):(Ps n).length<=10*n.length:=by
 unfold Ps
 induction n with
 | nil=>exact aR _
 | cons c n ih=>
  rw [map_cons,flatten_cons,length_append,length_cons]
  have h1:=JY (h c mem_cons_self) 0
  have h2:=ih λd m=>h d (mem_cons_of_mem _ m)
  lia
theorem NT (n:Txt)(d:Nat)(i:Txt)(k:Nat)(h1:n.length<=k)(h2:i.length<=k):(mkF n d i).length<=k+2:=by
 unfold mkF
 split
 ·rw [length_cons,length_append,List.length_singleton];lia
 ·rw [length_cons,length_append,List.length_singleton];lia
theorem NU {n:Txt}(h:∀ c∈n,c<1114112)(hn:n.length<=1000):(mk0 n).length<=10002:=
 NT n 0 _ 10000 (by lia) (aQ (H9 h) (by lia))
theorem Lw (p:Txt × Txt)(k:Nat)(h1:p.1.length<=k)(h2:p.2.length<=k):(B0 p).length<=k:=by
 unfold B0
 split
 ·exact h1
 ·exact h2
theorem VE {l:List Txt}(h:∀ n∈l,(∀ c∈n,c<1114112)/\n.length<=1000):(sh l).1.length<=10002*l.length/\(sh l).2.length<=10002*l.length:=by
 induction l with
 | nil=>exact ⟨aR _,aR _⟩
 | cons n l ih=>
  obtain ⟨h1,h2⟩:=ih λm k=>h m (mem_cons_of_mem _ k)
  obtain ⟨q1,q2⟩:=h n mem_cons_self
  have hb:=Lw (sh l) _ h1 h2
  have hm:=NU q1 q2
  have e:(mk0 n++B0 (sh l)).length<=10002*(n::l).length:=by
   rw [length_append,length_cons];lia
  refine ⟨?_,e⟩
  show (if isBare n=true then n++(sh l).2 else mk0 n++B0 (sh l)).length<=_
  split
  ·rw [length_append,length_cons];lia
  ·exact e
section
variable {loc:Nat->Option PV}{st:List (List PV)}{Q:PV->PS->Prop}{E:PX->PS->Prop}
theorem Pt {j:Nat}{m:M PV}{x:Txt}(g:Nat->Txt)(hx:x.length<=10000)
  (hm:∀ c L',c∈x->Off [j] loc L'->L' j=some (.str [c])->wp m ⟨L',st⟩ (λw s'=>w = .str (g c)/\s'=⟨L',st⟩) λU U=>False)
  (hQ:Q (.lst st.length) ⟨loc,st++[(x.map g).map .str]⟩):wp (aF [j] (az (Bg (.str x)) (aj j) (AC .And []) m Kx 0 [])) ⟨loc,st⟩ Q E:=by
 refine En (n:=x.length) (p:=λk=>.str [x.getD k 0]) (λU=>true) (λk=>.str (g (x.getD k 0))) hx (λk L' lt=>JR lt) (λL'=>JS) (λk L' lt o e=>BV) (λk L' lt U o e=>hm _ L' ?_ o e) ?_
 ·rw [getD_eq_getElem?_getD,getElem?_eq_getElem lt]
  exact getElem_mem lt
 ·have e:((range x.length).filter λU=>true).map (λk=>PV.str (g (x.getD k 0)))=(x.map g).map .str:=by
   rw [filter_eq_self.mpr λU U=>rfl,List.map_map]
   refine List.ext_getElem (by rw [length_map,length_map,length_range]) λi h1 h2=>?_
   rw [length_map,length_range] at h1
   rw [List.getElem_map,List.getElem_map,List.getElem_range,getD_eq_getElem?_getD,getElem?_eq_getElem h1]
   rfl
  rw [e];exact hQ
theorem VF {n j:Nat}{s:PS}(h:j<n):Ds ((n:Nat) - 1) (-1) j s = .ok (some (.int ((n - 1 - j:Nat):Int))) s:=by
 unfold Ds
 rw [if_pos (by lia),show ((n:Nat):Int) - 1 - (j:Nat)=((n - 1 - j:Nat):Int) by lia];rfl
theorem VG {n:Nat}{s:PS}:Ds ((n:Nat) - 1) (-1) n s = .ok none s:=by
 unfold Ds
 rw [if_neg (by lia)];rfl
theorem VH {n:Nat}{s:PS}{Q:(Nat->M (Option PV))->PS->Prop}(h:n<1000000)(k:Q (Ds ((n:Nat) - 1) (-1)) s):wp (HN [.int ((n:Nat) - 1),.int (-1),.int (-1)]) s Q E:=by
 show wp (am ((-1:Int)==-1&&(small ((n:Nat) - 1)&&small (-1))) (ae (Ds ((n:Nat) - 1) (-1)))) s Q E
 exact wpO (by rw [AM (i:=((n:Nat):Int) - 1) (by lia)];rfl) k
inductive AtY (st0:List (List PV))(t:Tb)(s:PS):Prop
 | mk (st:List (List PV)) (p:st0 <+: st) (a:At st t s):AtY st0 t s
abbrev tSh (i:Nat)(p:Txt × Txt)(k best here:Option PV):Tb:=[some (.lst i),some (.str p.1),some (.str p.2),k,best,here]
theorem Ue {i k:Nat}{n:Txt}{p:Txt × Txt}{l:List PV}{L:Nat->Option PV}(h:st[i]? = some l)(hk:l[k]? = some (.str n))(sm:k<1000000)(ok:∀ c∈n,c<1114112)(hn:n.length<=1000)(h1:p.1.length<=10500000)(h2:p.2.length<=10500000)
  (B:Loc (tSh i p (some (.int (k:Nat))) none none) L):wp (BN Kx) ⟨L,st⟩ (λf s'=>(f = .next\/f = .cont)/\AtY st (tSh i (H8 n p) none none none) s') λU U=>False:=by
 have okn:okT n:=λc m=>Nat.le_of_lt_succ (ok c m)
 have ix:idx (k:Nat) l.length=some k:=FL (bf.mp hk).1
 have sk:small ((k:Nat):Int)=true:=AM (by lia)
 have b1:p.1.length<=big:=aQ h1 (by decide)
 have b2:p.2.length<=big:=aQ h2 (by decide)
 have hb:=Lw p 10500000 h1 h2
 have hm:=NU ok hn
 unfold BN
 refine wpA st (tSh i p (some (.int (k:Nat))) (some (.str (B0 p))) none) ?_ λL B=>?_
 ·refine wpB (AD (c:=decide (p.1.length<p.2.length)) (by walk_at "wp";exact b1;walk_at "wp";exact b2;walk_at "wp";exact ⟨Eo _ _,rfl⟩) (λq=>?_) λq=>?_)
  ·walk_at "wp"
   refine ⟨rfl,?_⟩
   rw [show B0 p=p.1 from if_pos q]
   exact (B.set 4 _ |> At.mk _ rfl)
  ·walk_at "wp"
   refine ⟨rfl,?_⟩
   rw [show B0 p=p.2 from if_neg (by rw [q];exact Bool.false_ne_true)]
   exact (B.set 4 _ |> At.mk _ rfl)
 refine wpN (AtY st (tSh i p (some (.int (k:Nat))) (some (.str (B0 p))) (some (.str (mk0 n++B0 p))))) ?_ ?_
 ·walk_at "wp"
  refine CN sk h ix hk ?_
  walk_at "wp"
  refine CN sk h ix hk ?_
  walk_at "wp"
  refine KtI (wpR (KtI (Pt (x:=n) (λc=>unF c 0) (aQ hn (by decide)) (λc L' m o e=>?_) ?_)))
  ·refine wpB (wpSC (wpG e (wpSC (wpR (wpSN ?_)))))
   exact KtI (Gn (w:=0) (ok c m) ⟨rfl,rfl⟩)
  walk_at "wp"
  rw [TZ BB]
  refine ⟨aQ (H9 ok) (aQ (show 10*n.length<=10000 by lia) (by decide)),?_⟩
  walk_at "wp"
  refine Ep (dress:=0) (aQ hn (by decide)) (aQ (H9 ok) (by lia)) okn λst' p'=>?_
  walk_at "wp"
  ·rw [length_append]
   exact aQ (Nat.add_le_add hm hb) (by decide)
  exact ⟨rfl,_,(Iv _).trans p',(B.set 5 _ |> At.mk _ rfl)⟩
 clear B
 rintro _ ⟨st1,p1,L,rfl,B⟩
 refine wpN (AtY st (tSh i ((H8 n p).1,p.2) (some (.int (k:Nat))) (some (.str (B0 p))) (some (.str (mk0 n++B0 p))))) ?_ ?_
 ·refine wpB (wpB ?_)
  walk_at "wp"
  refine CN sk (CS p1 h) ix hk ?_
  walk_at "wp"
  refine DC (aQ hn (by decide)) okn λst' p'=>?_
  walk_at "wp"
  by_cases q:isBare n=true
  ·rw [if_pos q]
   walk_at "wp"
   refine CN sk (CS (p1.trans p') h) ix hk ?_
   walk_at "wp"
   ·rw [length_append]
    exact aQ (Nat.add_le_add hn h2) (by decide)
   rw [show H8 n p=(n++p.2,_) from Prod.ext (if_pos q) rfl]
   exact ⟨rfl,_,p1.trans p',(B.set 1 _ |> At.mk _ rfl)⟩
  ·rw [if_neg q]
   walk_at "wp"
   rw [show H8 n p=(mk0 n++B0 p,_) from Prod.ext (if_neg q) rfl]
   exact ⟨rfl,_,p1.trans p',(B.set 1 _ |> At.mk _ rfl)⟩
 clear B p1
 rintro _ ⟨st1,p1,L,rfl,B⟩
 walk_at "wp"
 exact ⟨.inl rfl,_,p1,((((B.set 2 _).drop 3).drop 4).drop 5 |> At.mk _ rfl)⟩
theorem Ix {i:Nat}{ns:List Txt}(h:st[i]? = some (ns.map .str))(hl:ns.length<=1000)(ok:∀ n∈ns,(∀ c∈n,c<1114112)/\n.length<=1000)(hQ:∀ st',st <+: st'->Q (.str (shF ns)) ⟨loc,st'⟩) :
  wp (ao (B9 Kx) [.lst i]) ⟨loc,st⟩ Q E:=by
 have lenD:∀ j,(sh (ns.drop j)).1.length<=10500000/\(sh (ns.drop j)).2.length<=10500000:=λj=>by
  obtain ⟨h1,h2⟩:=VE (l:=ns.drop j) λn m=>ok n (mem_of_mem_drop m)
  have:=length_drop (i:=j) (l:=ns)
  exact ⟨aQ h1 (by lia),aQ h2 (by lia)⟩
 refine AY 5 λL B=>?_
 unfold B9
 refine wpA st [some (.lst i),some (.str []),none,none,none,none] (by walk_at "wp";exact ⟨rfl,(B.set 1 _ |> At.mk _ rfl)⟩) λL B=>?_
 refine wpA st (tSh i ([],[]) none none none) (by walk_at "wp";exact ⟨rfl,(B.set 2 _ |> At.mk _ rfl)⟩) λL B=>?_
 refine wpN (AtY st (tSh i (sh ns) none none none)) ?_ ?_
 ·walk_at "wp"
  rw [JU h]
  refine ⟨by rw [length_map];exact aQ hl (by decide),?_⟩
  walk_at "wp"
  rw [length_map]
  refine VH (bw hl (by decide)) ?_
  refine KtI (GC (P:=λj=>AtY st (tSh i (sh (ns.drop (ns.length - j))) none none none)) (n:=ns.length) (λj=>.int ((ns.length - 1 - j:Nat):Int)) ?_ (by have:=BO;lia) (λj s U lt=>VF lt) (λs U=>VG) (λj L st' z lt=>?_) λs z=>?_)
  ·rw [Nat.sub_zero,drop_length];exact ⟨st,prefix_refl _,.mk L rfl B⟩
  ·obtain ⟨st1,p1,_,e,B⟩:=z
   cases e
   have B:=B.set 3 (.int ((ns.length - 1 - j:Nat):Int))
   have lk:ns.length - 1 - j<ns.length:=by lia
   have e1:ns.drop (ns.length - (j+1))=ns[ns.length - 1 - j]::ns.drop (ns.length - j):=by
    rw [show ns.length - (j+1)=ns.length - 1 - j by lia,drop_eq_getElem_cons lk,show ns.length - 1 - j+1=ns.length - j by lia]
   obtain ⟨k1,k2⟩:=ok _ (getElem_mem lk)
   obtain ⟨l1,l2⟩:=lenD (ns.length - j)
   rw [e1]
   refine wp_mono (Ue (CS p1 h) (k:=ns.length - 1 - j) (n:=ns[ns.length - 1 - j]) (by rw [getElem?_map,getElem?_eq_getElem lk];rfl) (by lia) k1 k2 l1 l2 B) (λf s z=>⟨z.1,?_⟩) λU U z=>z
   obtain ⟨_,st2,p2,a⟩:=z
   exact ⟨st2,p1.trans p2,a⟩
  ·rw [Nat.sub_self,drop_zero] at z;exact z
 clear B
 rintro _ ⟨st1,p1,L,rfl,B⟩
 obtain ⟨l1,l2⟩:=lenD 0
 rw [drop_zero] at l1 l2
 refine wpB (AD (c:=decide ((sh ns).1.length<(sh ns).2.length)) (by walk_at "wp";exact aQ l1 (by decide);walk_at "wp";exact aQ l2 (by decide);walk_at "wp";exact ⟨Eo _ _,rfl⟩) (λq=>?_) λq=>?_)
 ·walk_at "wp"
  have:=hQ st1 p1
  rw [show shF ns=(sh ns).1 from if_pos q] at this
  exact this
 ·walk_at "wp"
  have:=hQ st1 p1
  rw [show shF ns=(sh ns).2 from if_neg (by rw [q];exact Bool.false_ne_true)] at this
  exact this
end
theorem Go {c:Nat}(h:hexd c=true):Bo c<16:=(by decide:∀ c<128,hexd c=true->Bo c<16) c (Ew h) h
theorem I8 {f:Txt}(h:f.all hexd=true):hexval f<16 ^ f.length:=by
 have go:∀ (l:List Nat),l.all hexd=true->hexval l.reverse<16 ^ l.length:=by
  intro l
  induction l with
  | nil=>intro _;decide
  | cons a l ih=>
   intro h
   rw [all_cons,and_eq_true] at h
   rw [List.reverse_cons,Df,length_cons,Nat.pow_succ]
   have:=ih h.2
   have:=Go h.1
   lia
 have:=go f.reverse (by rw [List.all_reverse];exact h)
 rw [List.reverse_reverse,List.length_reverse] at this
 exact this
theorem Pu {nm:Txt}{c:Nat}(h:El nm=some c):(short c).isSome=true:=by
 unfold El at h
 by_cases h0:nm=[98]
 ·rw [if_pos h0] at h;cases h;rfl
 rw [if_neg h0] at h
 by_cases h1:nm=[116]
 ·rw [if_pos h1] at h;cases h;rfl
 rw [if_neg h1] at h
 by_cases h2:nm=[110]
 ·rw [if_pos h2] at h;cases h;rfl
 rw [if_neg h2] at h
 by_cases h3:nm=[102]
 ·rw [if_pos h3] at h;cases h;rfl
 rw [if_neg h3] at h
 by_cases h4:nm=[114]
 ·rw [if_pos h4] at h;cases h;rfl
 rw [if_neg h4] at h
 by_cases h5:nm=[34]
 ·rw [if_pos h5] at h;cases h;rfl
 rw [if_neg h5] at h
 by_cases h6:nm=[92]
 ·rw [if_pos h6] at h;cases h;rfl
 rw [if_neg h6] at h
 cases h
theorem I9 {c d:Nat}(h:escT [92,d]=some [c]):(short c).isSome=true:=by
 cases q:El [d] with
 | none=>rw [(H0 q).1] at h;cases h
 | some e=>
  obtain ⟨d',e1,e2,_⟩:=HZ q
  obtain rfl:d=d':=(List.cons.inj e1).1
  rw [e2] at h
  obtain rfl:e=c:=(List.cons.inj (aU h)).1
  exact Pu q
set_option tactic.hygienic true in
theorem Sd {c:Nat}{u:Txt}(h:UnitOf c u)(hc:c<1114112):(unF c 0).length<=u.length:=by
 cases h with
 | raw h1 h2 h3=>
  rw [show unF c 0=[c] from if_pos (by rw [RZ h1 h2 h3];rfl)]
  exact aR _
 | short h1 h2 h3=>
  unfold unF
  split
  ·exact Nat.le_succ 1
  ·rw [if_pos (by rw [I9 h1];rfl)]
   exact aR 2
 | four h1 h2 h3=>
  rename_i h
  have lt:c<65536:=by
   have:=I8 h2
   rw [h1,h3] at this
   exact this
  unfold unF
  split
  ·exact bA (aP _)
  ·split
   ·exact bA (bA (aP _))
   ·unfold ET
    rcases FT c 0 with ⟨e,_⟩ | ⟨_,q⟩
    ·rw [e,if_pos rfl,length_append,DB]
     show 2+4<=h.length+1+1
     lia
    ·exact absurd ⟨(by decide:0<3),lt⟩ q
 | eight h1 h2 h3=>
  rename_i h
  refine aQ (JY hc 0) ?_
  show 10<=h.length+1+1
  lia
theorem Gp {cs:Txt}{ts:List Txt}(h:Units cs ts):(Ps cs).length<=ts.flatten.length/\cs.length<=ts.flatten.length:=by
 induction h with
 | nil=>exact ⟨aR _,aR _⟩
 | cons hc u _ ih=>
  have h1:=Sd u (by unfold Al at hc;lia)
  have h2:=Ls u
  unfold Ps at ih ⊢
  rw [map_cons,flatten_cons,flatten_cons,length_append,length_append,length_cons]
  lia
theorem NV {c:Nat}:Iw c=true↔JT c:=by
 unfold Iw JT
 rw [and_eq_true,bne_iff_ne]
theorem FU {n:Txt}:DX n=true↔∀ c∈n,JT c:=by
 unfold DX
 rw [all_eq_true]
 exact ⟨λh c m=>NV.mp (h c m),λh c m=>NV.mpr (h c m)⟩
theorem G4 {n:Txt}(h:DX n=true):mk0 n=39::(n++[39]):=if_pos (by rw [h];rfl)
theorem JZ {n:Txt}(h:DX n=false):mk0 n=34::(Ps n++[34]):=if_neg (by rw [h];exact bo)
inductive Ch (x:Txt):Nat->List Txt->Nat->Prop
 | nil (p:Nat):Ch x p [] p
 | cons {p e q:Nat} {n:Txt} {r:List Txt}:Rd x p e n->Ch x e r q->Ch x p (n::r) q
theorem NW (p:Txt × Txt):(B0 p).length<=p.1.length/\(B0 p).length<=p.2.length:=by
 unfold B0
 by_cases q:p.1.length<p.2.length
 ·rw [if_pos (decide_eq_true q)];lia
 ·rw [if_neg (by rw [decide_eq_false q];exact Bool.false_ne_true)];lia
theorem Se {x:Txt}{p q:Nat}{ns:List Txt}(h:Ch x p ns q):(shF ns).length+p<=q/\((∀ c r,x.drop p=c::r->Am 5 c=false)->(sh ns).2.length+p<=q):=by
 induction h with
 | nil p=>exact ⟨aS (Nat.zero_add p),λU=>aS (Nat.zero_add p)⟩
 | @cons p e q n r h1 _ ih=>
  obtain ⟨i1,i2⟩:=ih
  have fin:(sh (n::r)).2.length+p<=q->(shF (n::r)).length+p<=q/\((∀ c r,x.drop p=c::r->Am 5 c=false)->(sh (n::r)).2.length+p<=q):=λk=>⟨aQ (Nat.add_le_add_right (NW _).2 p) k,λU=>k⟩
  have e2:(sh (n::r)).2.length=(mk0 n).length+(shF r).length:=length_append
  cases h1 with
  | bare a1 a2 a3 a4=>
   have hb:isBare n=true:=by
    unfold isBare
    rw [show (n==[])=false from beq_eq_false_iff_ne.mpr a2]
    exact all_eq_true.mpr a3
   have k:=i2 λc r' e=>a4 c r' (by rw [<- e];exact (Aw a1).symm)
   have e1:(sh (n::r)).1=n++(sh r).2:=if_pos hb
   refine ⟨?_,λnb=>?_⟩
   ·have:=(NW (sh (n::r))).1
    rw [e1,length_append] at this
    unfold shF
    lia
   ·obtain ⟨c,t,rfl⟩:∃ c t,n=c::t:=by
     cases n with
     | nil=>exact absurd rfl a2
     | cons c t=>exact ⟨c,t,rfl⟩
    have:=nb c _ (a1.trans cons_append)
    rw [a3 c mem_cons_self] at this
    cases this
  | lit a1 a2=>
   refine fin ?_
   rw [e2,G4 (FU.mpr a2),length_cons,length_append,List.length_singleton]
   lia
  | bas a1 a2=>
   refine fin ?_
   obtain ⟨m1,m2⟩:=Gp a1
   rw [e2]
   cases l:DX n with
   | true=>
    rw [G4 l,length_cons,length_append,List.length_singleton]
    lia
   | false=>
    rw [JZ l,length_cons,length_append,List.length_singleton]
    lia
inductive Wr:Bool->List Txt->Txt->Prop
 | nil {b:Bool}:Wr b [] []
 | mk {b:Bool} {n w:Txt} {r:List Txt}:Wr true r w->Wr b (n::r) (mk0 n++w)
 | bare {n w:Txt} {r:List Txt}:isBare n=true->Wr false r w->Wr true (n::r) (n++w)
theorem Wr.up {l:List Txt}{w:Txt}(h:Wr false l w):Wr true l w:=by
 cases h with
 | nil=>exact .nil
 | mk h=>exact .mk h
theorem Wr.best {l:List Txt}(h:Wr true l (sh l).1/\Wr false l (sh l).2):Wr true l (shF l):=by
 unfold shF B0
 split
 ·exact h.1
 ·exact h.2.up
set_option tactic.hygienic true in
theorem Wq (l:List Txt):Wr true l (sh l).1/\Wr false l (sh l).2:=by
 induction l with
 | nil=>exact ⟨.nil,.nil⟩
 | cons n l ih=>
  refine ⟨?_,.mk (Wr.best ih)⟩
  show Wr true (n::l) (if isBare n=true then n++(sh l).2 else mk0 n++B0 (sh l))
  split
  ·rename_i q;exact .bare q ih.2
  ·exact .mk (Wr.best ih)
set_option tactic.hygienic true in
theorem Wr.head {l:List Txt}{w:Txt}(h:Wr false l w):∀ c r,w=c::r->Am 5 c=false:=by
 intro c r e
 cases h with
 | nil=>cases e
 | mk h=>
  rename_i n w r'
  cases l:DX n with
  | true=>rw [G4 l] at e;rw [<- (List.cons.inj e).1];decide
  | false=>rw [JZ l] at e;rw [<- (List.cons.inj e).1];decide
theorem VI:∀ {n:Txt},(∀ c∈n,Al c)->Units n (n.map (unF · 0)):=by
 intro n
 induction n with
 | nil=>exact λU=>.nil
 | cons c n ih=>
  intro h
  have hc:=h c mem_cons_self
  exact .cons hc (JV (by unfold Al at hc;lia) 0) (ih λd m=>h d (mem_cons_of_mem _ m))
set_option tactic.hygienic true in
theorem Wr.read {x:Txt}{p:Nat}{b:Bool}{n w:Txt}{r:List Txt}(h:Wr b (n::r) w)(hd:x.drop p=w)(sc:∀ c∈n,Al c):∃ e w' b',Rd x p e n/\x.drop e=w'/\Wr b' r w':=by
 cases h with
 | mk h=>
  rename_i w
  have hm:=Aw hd
  cases l:DX n with
  | true=>
   rw [G4 l] at hd hm
   refine ⟨_,w,true,.lit (y:=n) (rest:=w) (by rw [hd,cons_append,append_assoc];rfl) (FU.mp l),?_,h⟩
   rw [length_cons,length_append,List.length_singleton] at hm
   exact hm
  | false=>
   rw [JZ l] at hd hm
   refine ⟨_,w,true,.bas (VI sc) (rest:=w) (by rw [hd,cons_append,append_assoc];rfl),?_,h⟩
   rw [length_cons,length_append,List.length_singleton] at hm
   exact hm
 | bare hb h=>
  rename_i w
  obtain ⟨b1,b2⟩:=and_eq_true_iff.mp hb
  refine ⟨_,w,false,.bare hd (λz=>?_) (λc m=>all_eq_true.mp b2 c m) h.head,Aw hd,h⟩
  rw [z] at b1
  cases b1
theorem Units.scal {cs:Txt}{ts:List Txt}(h:Units cs ts):∀ c∈cs,Al c:=by
 induction h with
 | nil=>exact λU m=>(by cases m)
 | cons hc _ _ ih=>exact λd m=>(mem_cons.mp m).elim (λe=>e▸hc) (ih d)
theorem Rd.scal {x n:Txt}{p e:Nat}(h:Rd x p e n)(sc:∀ c∈x,Al c):∀ c∈n,Al c:=by
 cases h with
 | bare h1=>exact λc m=>sc c (mem_of_mem_drop (h1▸mem_append_left _ m))
 | lit h1=>exact λc m=>sc c (mem_of_mem_drop (h1▸mem_cons_of_mem _ (mem_append_left _ m)))
 | bas h1=>exact h1.scal
theorem Rd.len {x n:Txt}{p e:Nat}(h:Rd x p e n):n.length+p<=e:=by
 cases h with
 | bare=>lia
 | lit=>lia
 | bas h1=>have:=(Gp h1).2;lia
end Mi
end
section
open PySem PySem.W PyProof.Rows
set_option maxRecDepth 10000
set_option maxHeartbeats 1000000
namespace Mi
local macro_rules | `(tactic| walk_at "wp") => do
 let a <- ("B SC SN R Set PN PI Tb AI SI AS gAS gAI gSI Neg EqI EqS NeI LtI LeI GtI GeI InSS InF Str LS NL Tup Ord".splitOn " ").toArray.mapM fun s=>`(Lean.Parser.Tactic.tacticSeq| apply $(Lean.mkIdent (.str `Mi ("wp"++s))))
 `(tactic| (repeat' first
  | (with_reducible first $[| $a]* | refine KnI ?_ | refine wpO rfl ?_ | refine ⟨_,rfl,?_⟩ | refine wpDI rfl ?_ | refine wpModI rfl ?_ | refine wpModI ?_ ?_)
  | refine wpL (by assumption) rfl ?_) <;> try with_reducible refine KtI ?_)
theorem MV {d c:Nat}(h:El [d]=some c):short c=some d:=by
 unfold El at h
 by_cases h0:([d]:Txt)=[98]
 ·rw [if_pos h0] at h;cases h;rw [(List.cons.inj h0).1];rfl
 rw [if_neg h0] at h
 by_cases h1:([d]:Txt)=[116]
 ·rw [if_pos h1] at h;cases h;rw [(List.cons.inj h1).1];rfl
 rw [if_neg h1] at h
 by_cases h2:([d]:Txt)=[110]
 ·rw [if_pos h2] at h;cases h;rw [(List.cons.inj h2).1];rfl
 rw [if_neg h2] at h
 by_cases h3:([d]:Txt)=[102]
 ·rw [if_pos h3] at h;cases h;rw [(List.cons.inj h3).1];rfl
 rw [if_neg h3] at h
 by_cases h4:([d]:Txt)=[114]
 ·rw [if_pos h4] at h;cases h;rw [(List.cons.inj h4).1];rfl
 rw [if_neg h4] at h
 by_cases h5:([d]:Txt)=[34]
 ·rw [if_pos h5] at h;cases h;rw [(List.cons.inj h5).1];rfl
 rw [if_neg h5] at h
 by_cases h6:([d]:Txt)=[92]
 ·rw [if_pos h6] at h;cases h;rw [(List.cons.inj h6).1];rfl
 rw [if_neg h6] at h
 cases h
theorem DW {c d:Nat}(h:escT [92,d]=some [c]):short c=some d:=by
 cases q:El [d] with
 | none=>rw [(H0 q).1] at h;cases h
 | some e=>
  obtain ⟨d',e1,e2,_⟩:=HZ q
  obtain rfl:d=d':=(List.cons.inj e1).1
  rw [e2] at h
  obtain rfl:e=c:=(List.cons.inj (aU h)).1
  exact MV q
theorem Sf {c:Nat}(h:hexd c=true):lo1 c=([48,49,50,51,52,53,54,55,56,57,97,98,99,100,101,102]:Txt).getD (Bo c) 0:=(by decide +kernel:∀ c<128,hexd c=true->lo1 c=([48,49,50,51,52,53,54,55,56,57,97,98,99,100,101,102]:Txt).getD (Bo c) 0) c (Ew h) h
theorem NX:∀ (n:Nat) (h h':Txt),h.length=n->h'.length=n->h.all hexd=true->h'.all hexd=true->hexval h=hexval h'->h.map lo1=h'.map lo1:=by
 intro n
 induction n with
 | zero=>
  intro h h' e e' _ _ _
  rw [eq_nil_of_length_eq_zero e,eq_nil_of_length_eq_zero e']
 | succ n ih=>
  intro h h' e e' a a' v
  obtain ⟨g,c,rfl⟩:∃ g c,h=g++[c]:=⟨h.dropLast,h.getLast (λz=>by rw [z] at e;cases e),(List.dropLast_concat_getLast _).symm⟩
  obtain ⟨g',c',rfl⟩:∃ g c,h'=g++[c]:=⟨h'.dropLast,h'.getLast (λz=>by rw [z] at e';cases e'),(List.dropLast_concat_getLast _).symm⟩
  rw [length_append,List.length_singleton] at e e'
  rw [List.all_append,and_eq_true,all_cons,and_eq_true] at a a'
  rw [Df,Df] at v
  have l:=Go a.2.1
  have l':=Go a'.2.1
  have e1:hexval g=hexval g':=by lia
  have e2:Bo c=Bo c':=by lia
  rw [map_append,map_append,ih g g' (Nat.succ.inj e) (Nat.succ.inj e') a.1 a'.1 e1,map_cons,map_cons,Sf a.2.1,Sf a'.2.1,e2]
set_option tactic.hygienic true in
theorem Pv {c:Nat}{u:Txt}(h:UnitOf c u):∃ w<4,(unF c w).length=u.length:=by
 cases h with
 | raw h1 h2 h3=>exact ⟨0,by decide,by rw [show unF c 0=[c] from if_pos (by rw [RZ h1 h2 h3];rfl)]⟩
 | short h1 h2 h3=>
  refine ⟨1,by decide,?_⟩
  rw [show unF c 1=[92,(short c).getD 0] from (if_neg (show ¬ (false=true) from Bool.false_ne_true)).trans (if_pos (by rw [I9 h1];rfl))];rfl
 | four h1 h2 h3=>
  rename_i h
  have lt:c<65536:=by
   have:=I8 h2
   rw [h1,h3] at this
   exact this
  refine ⟨2,by decide,?_⟩
  rw [show unF c 2=ET c 2 from (if_neg (show ¬ (false=true) from Bool.false_ne_true)).trans (if_neg (show ¬ (false=true) from Bool.false_ne_true))]
  unfold ET
  rcases FT c 2 with ⟨e,_⟩ | ⟨_,q⟩
  ·rw [e,if_pos rfl,length_append,DB]
   show 2+4=h.length+1+1
   lia
  ·exact absurd ⟨(by decide:2<3),lt⟩ q
 | eight h1 h2 h3=>
  rename_i h
  refine ⟨3,by decide,?_⟩
  rw [show unF c 3=ET c 3 from (if_neg (show ¬ (false=true) from Bool.false_ne_true)).trans (if_neg (show ¬ (false=true) from Bool.false_ne_true))]
  unfold ET
  rcases FT c 3 with ⟨_,q,_⟩ | ⟨e,_⟩
  ·exact absurd q (by decide)
  ·rw [e,if_neg (by decide),length_append,DB]
   show 2+8=h.length+1+1
   lia
theorem J0 {c y m:Nat}{z:Txt}{w:Txt}(e:(([c]++z).take 2).take (m+1)=y::w):c=y:=by
 cases z with
 | nil=>exact (List.cons.inj e).1
 | cons=>exact (List.cons.inj e).1
theorem D1 {h:Txt}{x y:Nat}(a:h.length=4):(x::y::h).length=6:=by rw [length_cons,length_cons,a]
theorem D2 {h:Txt}{x y:Nat}(a:h.length=8):(x::y::h).length=10:=by rw [length_cons,length_cons,a]
theorem MW {c:Nat}{u v z:Txt}(h:UnitOf c u)(k:UnitOf c v):(((u++z).take 2).take v.length==v.take 2)=decide (v.length=u.length):=by
 rw [Bool.eq_iff_iff,beq_iff_eq,decide_eq_true_eq]
 cases h with
 | raw a1 a2 a3=>
  cases k with
  | raw b1 b2 b3=>exact ⟨λU=>rfl,λU=>rfl⟩
  | short b1 b2 b3=>exact ⟨λe=>absurd (J0 (m:=1) (y:=92) e) a3,λe=>absurd ((rfl:_=2).symm.trans (e.trans (rfl:_=1))) (by decide)⟩
  | four b1 b2 b3=>exact ⟨λe=>absurd (J0 (m:=5) (y:=92) (by rw [(D1 b1)] at e;exact e)) a3,λe=>absurd ((D1 b1).symm.trans (e.trans (rfl:_=1))) (by decide)⟩
  | eight b1 b2 b3=>exact ⟨λe=>absurd (J0 (m:=9) (y:=92) (by rw [(D2 b1)] at e;exact e)) a3,λe=>absurd ((D2 b1).symm.trans (e.trans (rfl:_=1))) (by decide)⟩
 | short a1 a2 a3=>
  cases k with
  | raw b1 b2 b3=>exact ⟨λe=>absurd (List.cons.inj e).1.symm b3,λe=>absurd ((rfl:_=1).symm.trans (e.trans (rfl:_=2))) (by decide)⟩
  | short b1 b2 b3=>exact ⟨λU=>rfl,λU=>by rw [Option.some.inj ((DW a1).symm.trans (DW b1))];rfl⟩
  | four b1 b2 b3=>exact ⟨λe=>by rw [(D1 b1)] at e;exact absurd (List.cons.inj (List.cons.inj e).2).1 a2,λe=>absurd ((D1 b1).symm.trans (e.trans (rfl:_=2))) (by decide)⟩
  | eight b1 b2 b3=>exact ⟨λe=>by rw [(D2 b1)] at e;exact absurd (List.cons.inj (List.cons.inj e).2).1 a3,λe=>absurd ((D2 b1).symm.trans (e.trans (rfl:_=2))) (by decide)⟩
 | four a1 a2 a3=>
  cases k with
  | raw b1 b2 b3=>exact ⟨λe=>absurd (List.cons.inj e).1.symm b3,λe=>absurd ((rfl:_=1).symm.trans (e.trans (D1 a1))) (by decide)⟩
  | short b1 b2 b3=>exact ⟨λe=>absurd (List.cons.inj (List.cons.inj e).2).1.symm b2,λe=>absurd ((rfl:_=2).symm.trans (e.trans (D1 a1))) (by decide)⟩
  | four b1 b2 b3=>exact ⟨λU=>(D1 b1).trans (D1 a1).symm,λU=>by rw [(D1 b1)];rfl⟩
  | eight b1 b2 b3=>exact ⟨λe=>by rw [(D2 b1)] at e;exact absurd (List.cons.inj (List.cons.inj e).2).1 (by decide),λe=>absurd ((D2 b1).symm.trans (e.trans (D1 a1))) (by decide)⟩
 | eight a1 a2 a3=>
  cases k with
  | raw b1 b2 b3=>exact ⟨λe=>absurd (List.cons.inj e).1.symm b3,λe=>absurd ((rfl:_=1).symm.trans (e.trans (D2 a1))) (by decide)⟩
  | short b1 b2 b3=>exact ⟨λe=>absurd (List.cons.inj (List.cons.inj e).2).1.symm b3,λe=>absurd ((rfl:_=2).symm.trans (e.trans (D2 a1))) (by decide)⟩
  | four b1 b2 b3=>exact ⟨λe=>by rw [(D1 b1)] at e;exact absurd (List.cons.inj (List.cons.inj e).2).1 (by decide),λe=>absurd ((D1 b1).symm.trans (e.trans (D2 a1))) (by decide)⟩
  | eight b1 b2 b3=>exact ⟨λU=>(D2 b1).trans (D2 a1).symm,λU=>by rw [(D2 b1)];rfl⟩
theorem Sg {c:Nat}{u v:Txt}(h:UnitOf c u)(k:UnitOf c v)(e:v.length=u.length):(u.drop 2).all (λc=>decide (c<128))=true/\(v.drop 2).all (λc=>decide (c<128))=true/\(u.drop 2).map lo1=(v.drop 2).map lo1:=by
 have hx:∀ {h:Txt},h.all hexd=true->h.all (λc=>decide (c<128))=true:=λa=>all_eq_true.mpr λc m=>decide_eq_true (Ew (all_eq_true.mp a c m))
 cases h with
 | raw a1 a2 a3=>
  cases k with
  | raw b1 b2 b3=>exact ⟨rfl,rfl,rfl⟩
  | short b1 b2 b3=>exact absurd ((rfl:_=2).symm.trans (e.trans (rfl:_=1))) (by decide)
  | four b1 b2 b3=>exact absurd ((D1 b1).symm.trans (e.trans (rfl:_=1))) (by decide)
  | eight b1 b2 b3=>exact absurd ((D2 b1).symm.trans (e.trans (rfl:_=1))) (by decide)
 | short a1 a2 a3=>
  cases k with
  | raw b1 b2 b3=>exact absurd ((rfl:_=1).symm.trans (e.trans (rfl:_=2))) (by decide)
  | short b1 b2 b3=>exact ⟨rfl,rfl,rfl⟩
  | four b1 b2 b3=>exact absurd ((D1 b1).symm.trans (e.trans (rfl:_=2))) (by decide)
  | eight b1 b2 b3=>exact absurd ((D2 b1).symm.trans (e.trans (rfl:_=2))) (by decide)
 | four a1 a2 a3=>
  cases k with
  | raw b1 b2 b3=>exact absurd ((rfl:_=1).symm.trans (e.trans (D1 a1))) (by decide)
  | short b1 b2 b3=>exact absurd ((rfl:_=2).symm.trans (e.trans (D1 a1))) (by decide)
  | four b1 b2 b3=>exact ⟨hx a2,hx b2,NX 4 _ _ a1 b1 a2 b2 (a3.trans b3.symm)⟩
  | eight b1 b2 b3=>exact absurd ((D2 b1).symm.trans (e.trans (D1 a1))) (by decide)
 | eight a1 a2 a3=>
  cases k with
  | raw b1 b2 b3=>exact absurd ((rfl:_=1).symm.trans (e.trans (D2 a1))) (by decide)
  | short b1 b2 b3=>exact absurd ((rfl:_=2).symm.trans (e.trans (D2 a1))) (by decide)
  | four b1 b2 b3=>exact absurd ((D1 b1).symm.trans (e.trans (D2 a1))) (by decide)
  | eight b1 b2 b3=>exact ⟨hx a2,hx b2,NX 8 _ _ a1 b1 a2 b2 (a3.trans b3.symm)⟩
theorem J1 {x:Txt}{n:Nat}:slc x none (some (n:Int))=x.take n:=by
 by_cases h:n<=x.length
 ·exact Vy h
 ·unfold slc bnd
  simp only [Int.natCast_nonneg,if_true,Int.toNat_natCast,drop_zero]
  rw [Nat.min_eq_right (by lia),take_length,take_of_length_le (by lia)]
theorem Uf {x u z:Txt}{p:Nat}(h:x.drop p=u++z)(hp:p<=x.length)(hu:0<u.length):slc x (some ((p+2:Nat):Int)) (some ((p+u.length:Nat):Int))=u.drop 2:=by
 have hl:p+(u.length+z.length)=x.length:=by
  have:=congrArg length h
  rw [length_drop,length_append] at this
  lia
 have e:x.take (p+u.length)=x.take p++u:=by
  rw [List.take_add,h,take_left]
 have lp:(x.take p).length=p:=by rw [length_take];exact bn hp
 rw [DU,Nat.min_eq_left (show p+u.length<=x.length by lia),e]
 by_cases q:p+2<=x.length
 ·rw [Nat.min_eq_left q,List.drop_append,lp,drop_of_length_le (by rw [lp];lia),show p+2 - p=2 by lia];rfl
 ·rw [Nat.min_eq_right (by lia),drop_of_length_le (by rw [length_append,lp];lia),drop_of_length_le (by lia)]
theorem Iy (x:List Txt)(f:Txt->Bool):((range x.length).filter λk=>f (x.getD k [])).map (λk=>PV.str (x.getD k []))=(x.filter f).map PV.str:=by
 have key:∀ n,n<=x.length->((range n).filter λk=>f (x.getD k [])).map (λk=>PV.str (x.getD k []))=((x.take n).filter f).map PV.str:=by
  intro n
  induction n with
  | zero=>intro _;rfl
  | succ n ih=>
   intro h
   have e:x.take (n+1)=x.take n++[x.getD n []]:=by
    rw [take_add_one,getElem?_eq_getElem h,getD_eq_getElem?_getD,getElem?_eq_getElem h];rfl
   rw [range_succ,filter_append,map_append,ih (Nat.le_of_succ_le h),e,filter_append,map_append]
   congr 1
   by_cases q:f (x.getD n [])=true
   ·rw [filter_cons_of_pos (p:=λk=>f (x.getD k [])) q,filter_cons_of_pos q];rfl
   ·rw [filter_cons_of_neg (p:=λk=>f (x.getD k [])) q,filter_cons_of_neg q];rfl
 rw [key x.length (Nat.le_refl _),take_length]
def un4 (c:Nat):List Txt:=[unF c 0,unF c 1,unF c 2,unF c 3]
theorem Sh {c:Nat}(hc:c<1114112){v:Txt}(m:v∈un4 c):UnitOf c v:=by
 unfold un4 at m
 simp only [mem_cons,not_mem_nil,or_false] at m
 rcases m with rfl | rfl | rfl | rfl <;> exact JV hc _
def fits (c:Nat)(u:Txt):List Txt:=(un4 c).filter λv=>decide (v.length=u.length)
theorem Pw {c:Nat}{u:Txt}(h:UnitOf c u):∃ t r,fits c u=t::r/\t.length=u.length:=by
 obtain ⟨w,hw,e⟩:=Pv h
 have m:unF c w∈fits c u:=by
  refine mem_filter.mpr ⟨?_,decide_eq_true e⟩
  unfold un4
  match w,hw with
  | 0,_=>exact mem_cons_self
  | 1,_=>exact mem_cons_of_mem _ mem_cons_self
  | 2,_=>exact mem_cons_of_mem _ (mem_cons_of_mem _ mem_cons_self)
  | 3,_=>exact mem_cons_of_mem _ (mem_cons_of_mem _ (mem_cons_of_mem _ mem_cons_self))
 cases q:fits c u with
 | nil=>rw [q] at m;cases m
 | cons t r=>exact ⟨t,r,rfl,aZ (mem_filter.mp (show t∈(un4 c).filter _ from q▸mem_cons_self)).2⟩
set_option tactic.hygienic true in
theorem Sj {c:Nat}{u:Txt}(h:UnitOf c u)(hc:c<1114112):okT u:=by
 have hx:∀ {h:Txt},h.all hexd=true->∀ d∈h,d<=1114111:=λa d m=>aQ (br (Ew (all_eq_true.mp a d m))) (by decide)
 have e2:∀ {d e:Nat} {h:Txt},d<=1114111->e<=1114111->(∀ k∈h,k<=1114111)->okT (d::e::h):=λa b k x m=>by
  rcases mem_cons.mp m with rfl | m
  ·exact a
  ·rcases mem_cons.mp m with rfl | m
   ·exact b
   ·exact k x m
 cases h with
 | raw=>exact λd m=>by rw [mem_singleton.mp m];lia
 | short a b c'=>
  rename_i d
  have:d<=1114111:=by
   have:=DW a
   unfold short at this
   refine Nat.le_of_lt_succ (Nat.lt_of_not_le λq=>?_)
   repeat' (split at this <;> first | (injection this with this;lia) | skip)
   cases this
  exact e2 (by decide) this λU m=>(by cases m)
 | four _ a=>exact e2 (by decide) (by decide) (hx a)
 | eight _ a=>exact e2 (by decide) (by decide) (hx a)
section
variable {loc:Nat->Option PV}{st:List (List PV)}{Q:PV->PS->Prop}{E:PX->PS->Prop}
theorem UO {x:Txt}{s:PS}(h:x.all (λc=>decide (c<128))=true)(hl:x.length<=1000000)(k:Q (.str (x.map lo1)) s):wp (HK (.str x) []) s Q E:=wpO (by rw [h,decide_eq_true hl];rfl) k
theorem Sk {s:PS}{a b c:Int}{Q:Bool->PS->Prop}(h:Q (decide (a<b)&&decide (b<c)) s):wp (HJ .Lt .Lt (.int a) (.int b) (ae (.int c))) s Q E:=by
 unfold HJ
 refine wpB (wpLtI (KtI (wpB (wpTb ?_))))
 cases q:decide (a<b)
 ·rw [q] at h;exact h
 ·rw [q] at h;exact wpB (wpR (KtI (wpB (wpLtI (KtI (wpTb h))))))
theorem VJ {s:PS}{Q:(Nat->M (Option PV))->PS->Prop}(h:Q (BX 0 4) s):wp (B3 [.int 4]) s Q E:=by
 have:=Dv (n:=4) (s:=s) (Q:=Q) (E:=E) (by decide)
 exact this.symm▸h
theorem Sl {i k:Nat}{l:List Txt}{s:PS}(h:s.st[i]? = some (l.map .str))(hk:k<l.length):Bg (.lst i) k s = .ok (some (.str (l.getD k []))) s:=by
 rw [I5 h,getElem?_eq_getElem hk,getD_eq_getElem?_getD,getElem?_eq_getElem hk];rfl
theorem J7 {i:Nat}{l:List Txt}{s:PS}(h:s.st[i]? = some (l.map .str)):Bg (.lst i) l.length s = .ok none s:=by
 rw [I5 h,List.getElem?_eq_none_iff.mpr (Nat.le_refl _)];rfl
abbrev tSp (raw n:Txt)(p:Nat)(s us ft:Option PV):Tb:=[some (.str raw),some (.str n),some (.int (p:Nat)),s,us,ft]
theorem Lx {raw n u z:Txt}{p c:Nat}{L:Nat->Option PV}(hr:raw.length<=90000)(hp:p<=raw.length)(hd:raw.drop p=u++z)(uo:UnitOf c u)(sc:Al c)(B:Loc (tSp raw n p (some (.str [c])) none none) L) :
  wp (Ca Kx) ⟨L,st⟩ (λf s'=>(f = .next\/f = .cont)/\AtY st (tSp raw n (p+u.length) none none none) s') λU U=>False:=by
 have hc:c<1114112:=by unfold Al at sc;lia
 have hl:p+(u.length+z.length)=raw.length:=by
  have:=congrArg length hd
  rw [length_drop,length_append] at this
  lia
 have up:=Ls uo
 obtain ⟨t,r,hf,ht⟩:=Pw uo
 unfold Ca
 refine wpA (st++[(un4 c).map .str]) (tSp raw n p (some (.str [c])) (some (.lst st.length)) none) ?_ λL B=>?_
 ·refine wpB (wpB (wpB (wpSC (wpR (wpSN (KtI (VJ (KtI (En (n:=4) (p:=λk=>.int k) (λU=>true) (λk=>.str (unF c k)) (by decide) (λk L' lt=>Ez (n:=4) lt) (λL'=>EA (n:=4)) (λk L' lt o e=>BV) (λk L' lt U o e=>?_) ?_)))))))))
  ·refine wpB (wpSC (wpG ((o 3 (by decide)).trans (B 3 _ rfl)) (wpSC (wpG e (wpSN ?_)))))
   exact KtI (Gn (w:=k) hc ⟨rfl,rfl⟩)
  ·walk_at "wp"
   exact ⟨rfl,(B.set 4 _ |> At.mk _ rfl)⟩
 have hu:(st++[(un4 c).map .str])[st.length]? = some ((un4 c).map .str):=BB
 generalize hs1:st++[(un4 c).map .str]=st1 at hu B ⊢
 have p1:st <+: st1:=hs1▸Iv _
 refine wpA (st1++[(fits c u).map .str]) (tSp raw n p (some (.str [c])) (some (.lst st.length)) (some (.lst st1.length))) ?_ λL B=>?_
 ·refine wpB (wpB (wpB (wpL B rfl (KtI (HY▸KtI (En (n:=4) (p:=λk=>.str ((un4 c).getD k [])) (λk=>decide (((un4 c).getD k []).length=u.length)) (λk=>.str ((un4 c).getD k [])) (by decide) (λk L' lt=>Sl hu lt) (λL'=>J7 (l:=un4 c) hu) (λk L' lt o e=>?_) (λk L' lt U o e=>wpG e ⟨rfl,rfl⟩) ?_))))))
  ·have vo:UnitOf c ((un4 c).getD k []):=Sh hc (by rw [getD_eq_getElem?_getD,getElem?_eq_getElem (show k<(un4 c).length from lt)];exact getElem_mem _)
   generalize (un4 c).getD k []=v at e vo ⊢
   have v10:=FS vo
   have g0:L' 0=some (.str raw):=(o 0 (by decide)).trans (B 0 _ rfl)
   have g2:L' 2=some (.int (p:Nat)):=(o 2 (by decide)).trans (B 2 _ rfl)
   have B':Loc [some (.str raw),none,some (.int (p:Nat)),none,none,none,none,none,none,none,none,none,none,some (.str v)] L':=λi w q=>by
    match i,q with
    | 0,q=>cases q;exact g0
    | 2,q=>cases q;exact g2
    | 13,q=>cases q;exact e
    | 1,q=>cases q
    | 3,q=>cases q
    | 4,q=>cases q
    | 5,q=>cases q
    | 6,q=>cases q
    | 7,q=>cases q
    | 8,q=>cases q
    | 9,q=>cases q
    | 10,q=>cases q
    | 11,q=>cases q
    | 12,q=>cases q
    | _+14,q=>cases q
   have tk:∀ (x:Txt) (k:Nat),k<=1000->(x.take k).length<=big:=λx k h=>aQ (by rw [length_take];exact Nat.min_le_left ..) (aQ h (by decide))
   refine JX ?_
   rw [show decide (v.length=u.length)=(decide (v.length=u.length)&&(true&&true)) by rw [Bool.and_true,Bool.and_true]]
   refine AX ?_ λq=>AX ?_ λU=>BV
   ·walk_at "wp"
    refine D0 (t:=(u++z).take 2) ((Ek (n:=2) hp).trans (by rw [hd])) (tk _ _ (by decide)) ?_
    walk_at "wp"
    ·exact aQ v10 (by decide)
    refine D0 J1 (tk _ _ (by lia)) ?_
    walk_at "wp"
    refine D0 (J1 (n:=2)) (tk _ _ (by decide)) ?_
    walk_at "wp"
    exact ⟨MW uo vo,rfl⟩
   ·have q:=aZ q
    obtain ⟨l1,l2,l3⟩:=Sg uo vo q
    have dl:∀ x:Txt,x.length<=10->(x.drop 2).length<=10:=λx h=>by rw [length_drop];lia
    have u10:=FS uo
    walk_at "wp"
    ·exact aQ v10 (by decide)
    rw [q]
    refine D0 (Uf hd hp up) (aQ (dl u u10) (by decide)) ?_
    walk_at "wp"
    refine UO l1 (aQ (dl u u10) (by decide)) ?_
    walk_at "wp"
    refine D0 (Lq (n:=2)) (aQ (dl v v10) (by decide)) ?_
    walk_at "wp"
    refine UO l2 (aQ (dl v v10) (by decide)) ?_
    walk_at "wp"
    rw [l3]
    exact ⟨beq_self_eq_true _,rfl⟩
  ·rw [show ((range 4).filter λk=>decide (((un4 c).getD k []).length=u.length)).map (λk=>PV.str ((un4 c).getD k []))=(fits c u).map .str from Iy (un4 c) λv=>decide (v.length=u.length)]
   walk_at "wp"
   exact ⟨rfl,(B.set 5 _ |> At.mk _ rfl)⟩
 have hv:(st1++[(fits c u).map .str])[st1.length]? = some ((fits c u).map .str):=BB
 have p2:st <+: st1++[(fits c u).map .str]:=p1.trans (Iv _)
 generalize st1++[(fits c u).map .str]=st2 at hv p2 B ⊢
 refine A1 (wpB ?_)
 rw [Cp]
 refine wpB (wpL B rfl (KtI (wpB (wpB (wpSN (KtI (wpNL (by decide:0<=big) (KtI ?_))))))))
 have ok:∀ v∈fits c u,okT v:=λv m=>Sj (Sh hc (mem_filter.mp m).1) hc
 refine wpB (R9 (Gm (ts:=fits c u) (DV hv) BB (aQ (length_filter_le ..) (show (un4 c).length<=12500000 from (by decide:4<=12500000))) ok) ?_)
 rw [decide_eq_false (show ¬ fits c u=[] by rw [hf];exact cons_ne_nil _ _)]
 refine KtI (wpTb ?_)
 rw [if_neg Bool.false_ne_true,Cp]
 refine wpB (wpR (KtI (wpB (wpB (wpSC (wpL B rfl (wpSN (KtI (wpOrd (KtI (Sk ?_))))))))))) 
 rw [show (decide ((55295:Int)<(c:Nat))&&decide (((c:Nat):Int)<57344))=false from ?_,if_neg Bool.false_ne_true]
 ·refine KtI (wpR (KnI ?_))
  have hv:=DV (l:=([]:List PV)) hv
  rw [hf] at hv
  have p3:=p2.trans (Iv ([]:List PV))
  refine wpB (wpL B rfl (KtI (wpB (wpB (wpSC (wpB (wpL B rfl (KtI (wpB (wpR (KtI (CN (j:=0) rfl hv rfl rfl ?_))))))))))))
  walk_at "wp"
  ·rw [ht];exact aQ (FS uo) (by decide)
  rw [ht]
  exact ⟨.inl rfl,_,p3,((((B.set 2 (.int ((p+u.length:Nat):Int))).drop 3).drop 4).drop 5 |> At.mk _ rfl)⟩
 ·rw [Bool.and_eq_false_iff,decide_eq_false_iff_not,decide_eq_false_iff_not]
  unfold Al at sc
  lia
end
end Mi
end
section
open PySem PySem.W
set_option maxRecDepth 10000
set_option maxHeartbeats 1000000
namespace Mi
local macro_rules | `(tactic| walk_at "wp") => do
 let a <- ("B SC SN R Set PN PI Tb AI SI AS gAS gAI gSI Neg EqI EqS NeI LtI LeI GtI GeI InSS InF Str LS NL Tup Ord".splitOn " ").toArray.mapM fun s=>`(Lean.Parser.Tactic.tacticSeq| apply $(Lean.mkIdent (.str `Mi ("wp"++s))))
 `(tactic| (repeat' first
  | (with_reducible first $[| $a]* | refine KnI ?_ | refine wpO rfl ?_ | refine ⟨_,rfl,?_⟩ | refine wpDI rfl ?_ | refine wpModI rfl ?_ | refine wpModI ?_ ?_)
  | refine wpL (by assumption) rfl ?_) <;> try with_reducible refine KtI ?_)
inductive Sp:Txt->Txt->Prop
 | bare {n:Txt}:isBare n=true->Sp n n
 | lit {n:Txt}:DX n=true->Sp (39::(n++[39])) n
 | bas {n:Txt} {ts:List Txt}:Units n ts->Sp (34::(ts.flatten++[34])) n
set_option tactic.hygienic true in
theorem Rd.sp {x n:Txt}{p e:Nat}(h:Rd x p e n):Sp ((x.drop p).take (e - p)) n:=by
 cases h with
 | bare h1 h2 h3=>
  rw [h1,Nat.add_sub_cancel_left,take_left]
  refine .bare ?_
  unfold isBare
  rw [show (n==[])=false from beq_eq_false_iff_ne.mpr h2]
  exact all_eq_true.mpr h3
 | lit h1 h2=>
  rename_i rest
  rw [h1,Nat.add_sub_cancel_left,show (39::(n++39::rest)).take (n.length+2)=39::(n++[39]) from ?_]
  ·exact .lit (FU.mpr h2)
  ·rw [show n.length+2=(n.length+1)+1 from rfl,take_succ_cons,show n++39::rest=(n++[39])++rest by rw [append_assoc];rfl]
   exact congrArg _ (List.take_left' (by rw [length_append,List.length_singleton]))
 | bas h1 h2=>
  rename_i ts rest
  rw [h2,Nat.add_sub_cancel_left,show (34::(ts.flatten++34::rest)).take (ts.flatten.length+2)=34::(ts.flatten++[34]) from ?_]
  ·exact .bas h1
  ·rw [show ts.flatten.length+2=(ts.flatten.length+1)+1 from rfl,take_succ_cons,show ts.flatten++34::rest=(ts.flatten++[34])++rest by rw [append_assoc];rfl]
   exact congrArg _ (List.take_left' (by rw [length_append,List.length_singleton]))
theorem Sm {cs:Txt}{ts:List Txt}(h:Units cs ts):∀ {k:Nat},k<cs.length->∃ u,UnitOf (cs.getD k 0) u/\Al (cs.getD k 0)/\(ts.take (k+1)).flatten.length=(ts.take k).flatten.length+u.length/\ts.flatten.drop (ts.take k).flatten.length=u++(ts.drop (k+1)).flatten:=by
 induction h with
 | nil=>exact λh=>absurd h (bv _)
 | @cons c t cs ts hc u _ ih=>
  intro k hk
  cases k with
  | zero=>exact ⟨t,u,hc,by simp,by simp⟩
  | succ k=>
   obtain ⟨v,h1,h2,h3,h4⟩:=ih (Nat.lt_of_succ_lt_succ hk)
   refine ⟨v,h1,h2,?_,?_⟩
   ·rw [take_succ_cons,take_succ_cons,flatten_cons,flatten_cons,length_append,length_append,h3,Nat.add_assoc]
   ·rw [take_succ_cons,flatten_cons,flatten_cons,length_append,List.drop_append,drop_of_length_le (Nat.le_add_right ..),Nat.add_sub_cancel_left,nil_append,h4];rfl
section
variable {loc:Nat->Option PV}{st:List (List PV)}{Q:PV->PS->Prop}{E:PX->PS->Prop}
theorem Ly {raw n:Txt}(h:Sp raw n)(hr:raw.length<=9000)(hn:n.length<=9000)(ok:okT n)(hQ:∀ st',st <+: st'->Q (.bool true) ⟨loc,st'⟩):wp (ao (Cb Kx) [.str raw,.str n]) ⟨loc,st⟩ Q E:=by
 have l3:=DD (x:=n) (aQ hn (by decide)) 39
 refine AY 4 λL B=>?_
 unfold Cb
 have first:wp (AC .Or [(ac (af 0) λa=>ac (af 1) λb=>ac (Aq .Eq a b) tst),(ac (af 0) λa=>ac ((ac ((ac (ae (.str [39])) λb=>ac (af 1) λc=>AO .Add b c)) λb=>ac (ae (.str [39])) λc=>AO .Add b c)) λb=>ac (Aq .Eq a b) tst)]) ⟨L,st⟩
   (λb s'=>b=((raw==n)||((raw==[39]++n++[39])||false))/\s'=⟨L,st⟩) λU U=>False:=by
  refine Cu (by walk_at "wp";exact ⟨rfl,rfl⟩) λU=>Cu ?_ λU=>H6
  walk_at "wp"
  ·exact l3.1
  ·exact l3.2
  exact ⟨rfl,rfl⟩
 cases h with
 | bare hb=>
  refine A1 (AD (c:=true) (by rw [show ((raw==raw)||((raw==[39]++raw++[39])||false))=true by rw [beq_self_eq_true];rfl] at first;exact first) (λU=>?_) λq=>(by cases q))
  refine wpB ?_
  rw [MM (cons_ne_nil _ _)]
  refine wpB (wpSC (wpL B rfl (wpSN (KtI (DC (aQ hn (by decide)) ok λst' p=>?_)))))
  rw [hb]
  exact KtI (wpR (hQ _ p))
 | lit hb=>
  have ne:((39::(n++[39]))==n)=false:=aY.mpr λe=>by
   have:=congrArg length e
   rw [length_cons,length_append,List.length_singleton] at this
   lia
  refine A1 (AD (c:=true) (by rw [show (((39::(n++[39]))==n)||(((39::(n++[39]))==[39]++n++[39])||false))=true by rw [ne,show [39]++n++[39]=39::(n++[39]) from rfl,beq_self_eq_true];rfl] at first;exact first) (λU=>?_) λq=>(by cases q))
  refine wpB ?_
  rw [MM (cons_ne_nil _ _)]
  refine wpB (wpSC (wpL B rfl (wpSN (KtI (DC (aQ hn (by decide)) ok λst' p=>?_)))))
  cases isBare n with
  | true=>exact KtI (wpR (hQ _ p))
  | false=>
   show wp (BC .And _) _ _ _
   rw [GY (cons_ne_nil _ _)]
   refine wpB (wpL B rfl (KtI (wpB (wpL B rfl (KtI (Sb ?_))))))
   rw [ne]
   show wp (ac _ _) _ _ _
   refine wpB (wpB (wpSC (wpL B rfl (wpSC (wpR (wpSC (wpR (wpSN (KtI (Ep (dress:=0) (inner:=[]) (aQ hn (by decide)) (aP _) ok λst2 p2=>?_))))))))))
   rw [show mkF n 0 []=39::(n++[39]) from if_pos (by rw [hb];rfl)]
   refine KtI (wpB (wpL B rfl (KtI (wpEqS ?_))))
   rw [beq_self_eq_true]
   exact KtI (wpR (hQ _ (p.trans p2)))
 | @bas _ ts hu=>
  obtain ⟨_,m2⟩:=Gp hu
  have ne1:((34::(ts.flatten++[34]))==n)=false:=aY.mpr λe=>by
   have:=congrArg length e
   rw [length_cons,length_append,List.length_singleton] at this
   lia
  have ne2:((34::(ts.flatten++[34]))==[39]++n++[39])=false:=aY.mpr λe=>by
   have:=(List.cons.inj e).1
   cases this
  refine A1 (AD (c:=false) (by rw [ne1,ne2] at first;exact first) (λq=>(by cases q)) λU=>wpR (KnI ?_))
  refine wpA st (tSp (34::(ts.flatten++[34])) n 1 none none none) (by walk_at "wp";exact ⟨rfl,(B.set 2 (.int ((1:Nat):Int)) |> At.mk _ rfl)⟩) λL B=>?_
  have lr:(34::(ts.flatten++[34])).length=ts.flatten.length+2:=by rw [length_cons,length_append,List.length_singleton]
  generalize hraw:34::(ts.flatten++[34])=raw at lr hr B ⊢
  refine wpN (AtY st (tSp raw n (1+ts.flatten.length) none none none)) ?_ ?_
  ·refine wpB (wpB (wpL B rfl (KtI ?_)))
   refine wpR (KtI (GC (P:=λk=>AtY st (tSp raw n (1+(ts.take k).flatten.length) none none none)) (n:=n.length) (λk=>.str [n.getD k 0]) ⟨st,prefix_refl _,.mk L rfl B⟩ (by have:=BO;lia) (λk s U lt=>JR lt) (λs U=>JS) (λk L st' z lt=>?_) λs z=>?_))
   ·obtain ⟨st1,p1,_,e,B⟩:=z
    cases e
    have B:=B.set 3 (.str [n.getD k 0])
    obtain ⟨u,uo,sc,h3,h4⟩:=Sm hu lt
    rw [h3,<- Nat.add_assoc]
    have lk:(ts.take k).flatten.length<=ts.flatten.length:=by
     have e:(List.flatten (ts.take k++ts.drop k)).length=ts.flatten.length:=by rw [List.take_append_drop]
     rw [List.flatten_append,length_append] at e
     lia
    refine wp_mono (Lx (u:=u) (z:=(ts.drop (k+1)).flatten++[34]) (aQ hr (by decide)) (by lia) ?_ uo sc B) (λf s z=>⟨z.1,?_⟩) λU U z=>z
    ·rw [<- hraw,Nat.add_comm,List.drop_succ_cons,List.drop_append,h4,Nat.sub_eq_zero_of_le lk,append_assoc];rfl
    ·obtain ⟨_,st2,p2,a⟩:=z
     exact ⟨st2,p1.trans p2,a⟩
   ·rw [show ts.take n.length=ts from take_of_length_le (Nat.le_of_eq hu.len)] at z
    exact z
  clear B
  rintro _ ⟨st1,p1,L,rfl,B⟩
  refine wpB ?_
  rw [GY (cons_ne_nil _ _)]
  refine wpB (wpB (wpL B rfl (KtI (wpB (wpPN (KtI (wpB ?_)))))))
  walk_at "wp"
  refine D0 (t:=[34]) ((J1 (n:=1)).trans (by rw [<- hraw];rfl)) (by decide) ?_
  walk_at "wp"
  show wp (ac _ _) _ _ _
  walk_at "wp"
  refine D0 (t:=[34]) (Lq.trans (by rw [<- hraw,Nat.add_comm,List.drop_succ_cons,List.drop_left])) (by decide) ?_
  walk_at "wp"
  exact hQ _ p1
end
inductive Mk:Txt->Txt->Prop
 | lit {n:Txt}:DX n=true->Mk (39::(n++[39])) n
 | bas {n:Txt} {ts:List Txt}:Units n ts->Mk (34::(ts.flatten++[34])) n
inductive It (t:Txt)(a e:Nat)(n:Txt):Bool->Prop
 | bare {z:Txt}:isBare n=true->t.drop a=n++z->e=a+n.length->It t a e n true
 | mark {raw z:Txt}:Mk raw n->t.drop a=raw++z->e=a+raw.length->It t a e n false
theorem Lz {t y w z:Txt}{a:Nat}(h:t.drop a=w++z)(hw:w≠[]):(t++y).drop a=w++(z++y):=by
 have:a<=t.length:=by
  refine Nat.le_of_not_lt λq=>?_
  rw [drop_of_length_le (Nat.le_of_lt q)] at h
  exact hw (List.append_eq_nil_iff.mp h.symm).1
 rw [List.drop_append_of_le_length this,h,append_assoc]
theorem EF {n:Txt}(h:isBare n=true):n≠[]:=λe=>by rw [e] at h;cases h
theorem Mk.ne {raw n:Txt}(h:Mk raw n):raw≠[]:=by cases h <;> exact cons_ne_nil _ _
theorem It.app {t y:Txt}{a e:Nat}{n:Txt}{b:Bool}(h:It t a e n b):It (t++y) a e n b:=by
 cases h with
 | bare h1 h2 h3=>exact .bare h1 (Lz h2 (EF h1)) h3
 | mark h1 h2 h3=>exact .mark h1 (Lz h2 h1.ne) h3
abbrev Wi:Type:=Nat × Nat × Txt × Bool
def wiV (x:Wi):PV:=.tup [.int (x.1:Nat),.int (x.2.1:Nat),.str x.2.2.1,.bool x.2.2.2]
structure TOk (t:Txt)(W:List Wi):Prop where
 sc:∀ c∈t,Al c
 it:∀ x∈W,It t x.1 x.2.1 x.2.2.1 x.2.2.2/\(∀ c∈x.2.2.1,Al c)/\x.2.2.1.length<=3
theorem TOk.app {t y:Txt}{W:List Wi}(h:TOk t W)(sy:∀ c∈y,Al c):TOk (t++y) W:=⟨λc m=>(mem_append.mp m).elim (h.sc c) (sy c),λx m=>⟨(h.it x m).1.app,(h.it x m).2⟩⟩
structure Bst (st:List (List PV))(w o q:Nat)(W:List Wi)(O:List PV)(v:Nat):Prop where
 hw:st[w]? = some (W.map wiV)
 ho:st[o]? = some O
 hq:st[q]? = some [.int (v:Nat)]
 wq:w≠q
 oq:o≠q
 wo:w≠o
section
variable {st:List (List PV)}{w o q:Nat}{W:List Wi}{O:List PV}{v:Nat}
theorem Bst.setq (h:Bst st w o q W O v)(v':Nat):Bst (st.set q [.int (v':Nat)]) w o q W O v':=
 ⟨by rw [getElem?_set_ne (Ne.symm h.wq)];exact h.hw,by rw [getElem?_set_ne (Ne.symm h.oq)];exact h.ho,List.getElem?_set_self (bf.mp h.hq).1,h.wq,h.oq,h.wo⟩
theorem Bst.grow {st':List (List PV)}(h:Bst st w o q W O v)(p:st <+: st'):Bst st' w o q W O v:=⟨CS p h.hw,CS p h.ho,CS p h.hq,h.wq,h.oq,h.wo⟩
theorem Bst.setw (h:Bst st w o q W O v)(x:Wi):Bst (st.set w (W.map wiV++[wiV x])) w o q (W++[x]) O v:=
 ⟨by rw [map_append];exact List.getElem?_set_self (bf.mp h.hw).1,by rw [getElem?_set_ne h.wo];exact h.ho,by rw [getElem?_set_ne h.wq];exact h.hq,h.wq,h.oq,h.wo⟩
end
abbrev tBd (w q:Nat)(t:Txt)(x n more dress name inner k sg bare raw:Option PV):Tb:=[x,some (.str t),some (.lst w),n,some (.lst q),more,dress,name,inner,k,sg,bare,raw,none,none,none,none,none,none,none]
inductive AtBd (w o q:Nat)(W:List Wi)(O:List PV)(t:Tb)(s:PS):Prop
 | mk (st:List (List PV)) (v:Nat) (h:Bst st w o q W O v) (a:At st t s):AtBd w o q W O t s
structure NmOk (n inner:Txt)(k:Nat):Prop where
 ex:∃ ts,Units n ts/\inner=ts.flatten
 len:n.length=k
 il:inner.length<=10*k
section
variable {st:List (List PV)}{w o q v:Nat}{W:List Wi}{O:List PV}{t:Txt}{x num more dress:Option PV}
theorem Px {n inner:Txt}{k:Nat}{L:Nat->Option PV}(h:Bst st w o q W O v)(ok:NmOk n inner k)(hk:k<3)(B:Loc (tBd w q t x num more dress (some (.str n)) (some (.str inner)) (some (.int (k:Nat))) none none none) L) :
  wp (Fc Kx) ⟨L,st⟩ (λf s'=>(f = .next\/f = .cont)/\∃ n' inner',NmOk n' inner' (k+1)/\AtBd w o q W O (tBd w q t x num more dress (some (.str n')) (some (.str inner')) none none none none) s') λU U=>False:=by
 obtain ⟨⟨ts,un,rfl⟩,ln,il⟩:=ok
 unfold Fc
 refine wpN (λs=>∃ c,Al c/\AtBd w o q W O (tBd w q t x num more dress (some (.str n)) (some (.str ts.flatten)) none (some (.str [c])) none none) s) ?_ ?_
 ·walk_at "wp"
  refine I6 h.hq λc v' sc=>?_
  walk_at "wp"
  exact ⟨rfl,c,sc,_,v',h.setq v',((B.set 10 (.str [c])).drop 9 |> At.mk _ rfl)⟩
 clear B h
 rintro _ ⟨c,sc,st,v,h,L,rfl,B⟩
 have hc:c<1114112:=by unfold Al at sc;lia
 refine wpA st (tBd w q t x num more dress (some (.str (n++[c]))) (some (.str ts.flatten)) none (some (.str [c])) none none) ?_ λL B=>?_
 ·walk_at "wp"
  ·rw [length_append,List.length_singleton];exact aQ (show n.length+1<=10 by lia) (by decide)
  exact ⟨rfl,(B.set 7 _ |> At.mk _ rfl)⟩
 walk_at "wp"
 refine DA (n:=4) h.hq (by decide) (by decide) ?_
 walk_at "wp"
 refine Gn hc ?_
 have lu:=JY hc (v % 4)
 walk_at "wp"
 ·rw [length_append];exact aQ (show ts.flatten.length+(unF c (v % 4)).length<=100 by lia) (by decide)
 refine ⟨.inl rfl,n++[c],_,⟨⟨ts++[unF c (v % 4)],un.snoc sc (JV hc _),by rw [List.flatten_append,List.flatten_singleton]⟩,by rw [length_append,ln];rfl,by rw [length_append];lia⟩,_,_,h.setq (v / 4),?_⟩
 exact ((B.set 8 _).drop 10 |> At.mk _ rfl)
end
section
variable {st:List (List PV)}{w o q v:Nat}{W:List Wi}{O:List PV}{t:Txt}{x num more:Option PV}
def Sn (w o q:Nat)(W:List Wi)(O:List PV)(t:Txt)(x num more:Option PV)(s:PS):Prop:=
 ∃ t' W',TOk t' W'/\t.length<t'.length/\t'.length<=t.length+32/\W'.length<=W.length+1/\AtBd w o q W' O (tBd w q t' x num more none none none none none none none) s
theorem mk_of {n inner:Txt}{k:Nat}(ok:NmOk n inner k)(d:Nat):Mk (mkF n d inner) n:=by
 obtain ⟨⟨ts,un,rfl⟩,_,_⟩:=ok
 unfold mkF
 by_cases h:(decide (d<2)&&DX n)=true
 ·rw [if_pos h];exact .lit (and_eq_true_iff.mp h).2
 ·rw [if_neg h];exact .bas un
set_option tactic.hygienic true in
theorem Mk.scal {raw n:Txt}(h:Mk raw n)(sc:∀ c∈n,Al c):∀ c∈raw,Al c:=by
 have asc:∀ {c:Nat},c<128->Al c:=λh=>.inl (by lia)
 cases h with
 | lit=>
  intro c m
  rcases mem_cons.mp m with rfl | m
  ·exact asc (by decide)
  ·rcases mem_append.mp m with m | m
   ·exact sc c m
   ·rw [mem_singleton.mp m];exact asc (by decide)
 | bas un=>
  rename_i ts
  have key:∀ c∈ts.flatten,Al c:=by
   clear sc
   induction un with
   | nil=>exact λU m=>(by cases m)
   | cons hc u _ ih=>
    intro c m
    rw [flatten_cons] at m
    rcases mem_append.mp m with m | m
    ·have hx:∀ {h:Txt},h.all hexd=true->∀ d∈h,Al d:=λa d m=>asc (Ew (all_eq_true.mp a d m))
     cases u with
     | raw=>rw [mem_singleton.mp m];exact hc
     | short a b c'=>
      rename_i d
      rcases mem_cons.mp m with rfl | m
      ·exact asc (by decide)
      ·rw [mem_singleton.mp m]
       have e:=DW a
       refine asc (Nat.lt_of_not_le λq=>?_)
       unfold short at e
       repeat' (split at e <;> first | (injection e with e;lia) | skip)
       cases e
     | four _ a=>
      rcases mem_cons.mp m with rfl | m
      ·exact asc (by decide)
      ·rcases mem_cons.mp m with rfl | m
       ·exact asc (by decide)
       ·exact hx a c m
     | eight _ a=>
      rcases mem_cons.mp m with rfl | m
      ·exact asc (by decide)
      ·rcases mem_cons.mp m with rfl | m
       ·exact asc (by decide)
       ·exact hx a c m
    ·exact ih c m
  intro c m
  rcases mem_cons.mp m with rfl | m
  ·exact asc (by decide)
  ·rcases mem_append.mp m with m | m
   ·exact key c m
   ·rw [mem_singleton.mp m];exact asc (by decide)
theorem MX {d:Nat}{n inner:Txt}{k:Nat}{L:Nat->Option PV}(h:Bst st w o q W O v)(ok:TOk t W)(lt:t.length<90)(hW:W.length<=10000)(nm:NmOk n inner k)(hk:k<=3)(sn:∀ c∈n,Al c)
  (B:Loc (tBd w q t x num more (some (.int (d:Nat))) (some (.str n)) (some (.str inner)) none none none none) L) :
  wp (ak (ac ((BC .And [(ac (af 6) λa=>ac (ae (.int 0)) λb=>Aq .Eq a b),(ac (ah [af 7]) (ao (AZ Kx)))])) λa=>ac (aj 11 a) λU=>ae .next)
  (ak (ac ((ac ((ac (af 11) tst)) λc=>if c then af 7 else (ac (ah [af 7,af 6,af 8]) (ao (Bs Kx))))) λa=>ac (aj 12 a) λU=>ae .next)
  (ak (ac ((ac (af 2) λa=>am (DN a) (ac (ah [(ac (ah [(ac (ah [af 1]) Bp),(ac ((ac (ah [af 1]) Bp)) λb=>ac ((ac (ah [af 12]) Bp)) λc=>AO .Add b c),af 7,af 11]) He)]) (CP a)))) λU=>ae .next)
  (ac (af 1) λa=>ac (af 12) λb=>ac (Cf .Add a b) λc=>ac (aj 1 c) λU=>ae .next)))) ⟨L,st⟩ (λf s'=>f = .next/\Sn w o q W O t x num more s') λU U=>False:=by
 have ln:=nm.len
 have il:=nm.il
 have okn:okT n:=λc m=>by have:=sn c m;unfold Al at this;lia
 refine wpN (AtBd w o q W O (tBd w q t x num more (some (.int (d:Nat))) (some (.str n)) (some (.str inner)) none none (some (.bool ((d==0)&&isBare n))) none)) ?_ ?_
 ·refine wpB ?_
  rw [GY (cons_ne_nil _ _)]
  refine wpB (wpL B rfl (KtI (wpB (wpR (KtI (wpEqI ?_))))))
  rw [show (((d:Nat):Int)==0)=(d==0) from I7 d 0]
  cases q0:d==0 with
  | false=>
   refine KtI ?_
   walk_at "wp"
   exact ⟨rfl,_,v,h,(B.set 11 _ |> At.mk _ rfl)⟩
  | true=>
   show wp (ac _ _) _ _ _
   walk_at "wp"
   refine DC (by lia) okn λst' p=>?_
   walk_at "wp"
   exact ⟨rfl,_,v,h.grow p,(B.set 11 _ |> At.mk _ rfl)⟩
 clear B h
 rintro _ ⟨st,v,h,L,rfl,B⟩
 generalize hb:((d==0)&&isBare n)=b at B
 refine wpN (λs=>∃ raw,(if b=true then raw=n/\isBare n=true else raw=mkF n d inner)/\AtBd w o q W O (tBd w q t x num more (some (.int (d:Nat))) (some (.str n)) (some (.str inner)) none none (some (.bool b)) (some (.str raw))) s) ?_ ?_
 ·refine wpB (wpB ?_)
  walk_at "wp"
  cases b with
  | true=>
   rw [if_pos rfl]
   walk_at "wp"
   exact ⟨rfl,n,by rw [if_pos rfl];exact ⟨rfl,(and_eq_true_iff.mp hb).2⟩,_,v,h,(B.set 12 _ |> At.mk _ rfl)⟩
  | false=>
   rw [if_neg Bool.false_ne_true]
   walk_at "wp"
   refine Ep (by lia) (by lia) okn λst' p=>?_
   walk_at "wp"
   exact ⟨rfl,_,by rw [if_neg Bool.false_ne_true],_,v,h.grow p,(B.set 12 _ |> At.mk _ rfl)⟩
 clear B h
 rintro _ ⟨raw,hr,st,v,h,L,rfl,B⟩
 have lr:0<raw.length/\raw.length<=32:=by
  cases b with
  | true=>
   rw [if_pos rfl] at hr
   obtain ⟨rfl,hb⟩:=hr
   exact ⟨List.length_pos_iff.mpr (EF hb),by lia⟩
  | false=>
   rw [if_neg Bool.false_ne_true] at hr
   exact ⟨List.length_pos_iff.mpr (hr▸mk_of nm d:Mk raw n).ne,by rw [hr];exact NT n d inner 30 (by lia) (by lia)⟩
 have sr:∀ c∈raw,Al c:=by
  cases b with
  | true=>rw [if_pos rfl] at hr;rw [hr.1];exact sn
  | false=>rw [if_neg Bool.false_ne_true] at hr;exact (hr▸mk_of nm d:Mk raw n).scal sn
 refine wpN (AtBd w o q (W++[(t.length,t.length+raw.length,n,b)]) O (tBd w q t x num more (some (.int (d:Nat))) (some (.str n)) (some (.str inner)) none none (some (.bool b)) (some (.str raw)))) ?_ ?_
 ·have tb:t.length<=big:=aQ (br lt) (by decide)
  walk_at "wp"
  ·exact tb
  ·exact tb
  ·exact aQ lr.2 (by decide)
  ·exact (by decide:4<=big)
  rw [Dy h.hw]
  refine ⟨by rw [length_map];exact aQ (bA hW) (by decide),?_⟩
  walk_at "wp"
  exact ⟨rfl,_,v,h.setw (t.length,t.length+raw.length,n,b),.mk _ rfl B⟩
 clear B h
 rintro _ ⟨st,v,h,L,rfl,B⟩
 walk_at "wp"
 ·rw [length_append];exact aQ (show t.length+raw.length<=200 by lia) (by decide)
 have tk:=ok.app (y:=raw) sr
 refine ⟨rfl,t++raw,W++[(t.length,t.length+raw.length,n,b)],⟨tk.sc,λy m=>?_⟩,by rw [length_append];lia,by rw [length_append];lia,by rw [length_append];exact aR _,_,v,h,?_⟩
 ·rcases mem_append.mp m with m | m
  ·exact tk.it y m
  ·rw [mem_singleton.mp m]
   have hd:(t++raw).drop t.length=raw++[]:=by rw [List.drop_left,append_nil]
   refine ⟨?_,sn,by lia⟩
   show It (t++raw) t.length (t.length+raw.length) n b
   cases b with
   | true=>
    rw [if_pos rfl] at hr
    obtain ⟨rfl,hb⟩:=hr
    exact .bare hb hd rfl
   | false=>
    rw [if_neg Bool.false_ne_true] at hr
    exact .mark (hr▸mk_of nm d:Mk raw n) hd rfl
 ·exact (((((((B.set 1 _).drop 6).drop 7).drop 8).drop 11).drop 12) |> At.mk _ rfl)
theorem MY {L:Nat->Option PV}(h:Bst st w o q W O v)(ok:TOk t W)(lt:t.length<90)(hW:W.length<=10000)(B:Loc (tBd w q t x num more none none none none none none none) L) :
  wp (DS Kx) ⟨L,st⟩ (λf s'=>f = .next/\∃ b:Bool,Sn w o q W O t x num (some (.bool b)) s') λU U=>False:=by
 unfold DS
 refine wpN (λs=>∃ d:Nat,AtBd w o q W O (tBd w q t x num more (some (.int (d:Nat))) none none none none none none) s) ?_ ?_
 ·walk_at "wp"
  refine DA (n:=4) h.hq (by decide) (by decide) ?_
  walk_at "wp"
  exact ⟨rfl,v % 4,_,v / 4,h.setq _,(B.set 6 _ |> At.mk _ rfl)⟩
 clear B h
 rintro _ ⟨d,st,v,h,L,rfl,B⟩
 refine wpN (Sn w o q W O t x num more) ?_ ?_
 ·refine AD (c:=d==3) (by walk_at "wp";exact ⟨I7 d 3,rfl⟩) (λU=>?_) λU=>?_
  ·walk_at "wp"
   refine I6 h.hq λc v' sc=>?_
   walk_at "wp"
   ·rw [length_append,List.length_singleton];exact aQ (show t.length+1<=200 by lia) (by decide)
   refine ⟨rfl,t++[c],W,ok.app (λe m=>by rw [mem_singleton.mp m];exact sc),by rw [length_append,List.length_singleton];lia,by rw [length_append,List.length_singleton];lia,Nat.le_succ _,_,v',h.setq v',?_⟩
   exact ((B.set 1 _).drop 6 |> At.mk _ rfl)
  ·refine wpA st (tBd w q t x num more (some (.int (d:Nat))) (some (.str [])) none none none none none) (by walk_at "wp";exact ⟨rfl,(B.set 7 _ |> At.mk _ rfl)⟩) λL B=>?_
   refine wpA st (tBd w q t x num more (some (.int (d:Nat))) (some (.str [])) (some (.str [])) none none none none) (by walk_at "wp";exact ⟨rfl,(B.set 8 _ |> At.mk _ rfl)⟩) λL B=>?_
   refine wpN (λs=>∃ n inner k,k<=3/\NmOk n inner k/\AtBd w o q W O (tBd w q t x num more (some (.int (d:Nat))) (some (.str n)) (some (.str inner)) none none none none) s) ?_ ?_
   ·walk_at "wp"
    refine DA (n:=4) h.hq (by decide) (by decide) ?_
    have m3:(v % 4+1) % 4<=3:=Nat.le_of_lt_succ (Nat.mod_lt _ (by decide))
    have e:(((v % 4:Nat):Int)+1).fmod 4=(((v % 4+1) % 4:Nat):Int):=FM (v % 4+1) 4
    have h:=h.setq (v / 4)
    generalize v % 4=m at e m3
    walk_at "wp"
    rw [e]
    generalize (m+1) % 4=k at m3
    rw [Dv (Nat.lt_of_le_of_lt m3 (by decide))]
    refine KtI (GC (P:=λj s=>∃ n inner,NmOk n inner j/\AtBd w o q W O (tBd w q t x num more (some (.int (d:Nat))) (some (.str n)) (some (.str inner)) none none none none) s) (n:=k) (λj=>.int j) ?_ (by have:=BO;lia) (λj s U lt=>Ez lt) (λs U=>EA) (λj L st' z lj=>?_) λs z=>?_)
    ·exact ⟨[],[],⟨⟨[],.nil,rfl⟩,rfl,aR _⟩,_,_,h,.mk L rfl B⟩
    ·obtain ⟨n,inner,nm,st1,v1,h1,_,e,B⟩:=z
     cases e
     exact Px h1 nm (by lia) (B.set 9 _)
    ·obtain ⟨n,inner,nm,a⟩:=z
     exact ⟨n,inner,k,m3,nm,a⟩
   clear B h
   rintro _ ⟨n,inner,k,k3,nm,st,v,h,L,rfl,B⟩
   obtain ⟨ts,un,_⟩:=nm.ex
   exact MX h ok lt hW nm k3 un.scal B
 clear B h
 rintro _ ⟨t',W',tok,l1,l2,l3,st,v,h,L,rfl,B⟩
 walk_at "wp"
 refine CN (j:=0) rfl h.hq rfl rfl ?_
 walk_at "wp"
 exact ⟨rfl,_,t',W',tok,l1,l2,l3,_,v,h,(B.set 5 _ |> At.mk _ rfl)⟩
theorem LA {L:Nat->Option PV}(h:Bst st w o q W O v)(ok:TOk t W)(tl:t.length<=121)(hW:W.length<=9000)(B:Loc (tBd w q t x num (some (.bool true)) none none none none none none none) L) :
  wp (ay ((AC .And [(ac (af 5) tst),(ac ((ac (ah [af 1]) Bp)) λa=>ac (ae (.int 90)) λb=>ac (Aq .Lt a b) tst)])) (DS Kx) Kx) ⟨L,st⟩
   (λf s'=>f = .next/\∃ t' W' b,TOk t' W'/\t'.length<=121/\W'.length<=W.length+91/\AtBd w o q W' O (tBd w q t' x num (some (.bool b)) none none none none none none none) s') λU U=>False:=by
 refine Dw (λk s=>∃ t' W' b,k<=t'.length/\TOk t' W'/\t'.length<=121/\W'.length<=W.length+k/\AtBd w o q W' O (tBd w q t' x num (some (.bool b)) none none none none none none none) s) 90 (λk s z hk=>?_) Kx 0 _ ⟨t,W,true,aP _,ok,tl,aR _,_,v,h,.mk L rfl B⟩ (aP _) (by have:=BO;lia)
 obtain ⟨t',W',b,k1,ok',tl',wl,st1,v1,h1,L',rfl,B⟩:=z
 refine wp_mono (AX (B:=b) (C:=decide (t'.length<90)&&true) (by walk_at "wp";exact ⟨rfl,rfl⟩) λU=>AX (by walk_at "wp";exact aQ tl' (by decide);walk_at "wp";exact ⟨Eo _ 90,rfl⟩) λU=>BV) (λc s' z=>?_) λU U z=>z
 obtain ⟨rfl,rfl⟩:=z
 cases c:(b&&(decide (t'.length<90)&&true)) with
 | false=>
  rw [if_neg Bool.false_ne_true]
  exact ⟨rfl,t',W',b,ok',tl',by lia,_,v1,h1,.mk _ rfl B⟩
 | true=>
  rw [if_pos rfl]
  simp only [Bool.and_true,and_eq_true,decide_eq_true_eq] at c
  refine wp_mono (MY h1 ok' c.2 (by lia) B) (λf s' z=>?_) λU U z=>z
  obtain ⟨rfl,b2,t2,W2,ok2,l1,l2,l3,a⟩:=z
  exact ⟨by lia,t2,W2,b2,by lia,ok2,by lia,by lia,a⟩
end
structure Ost (st:List (List PV))(w o:Nat)(W:List Wi)(O:List PV):Prop where
 hw:st[w]? = some (W.map wiV)
 ho:st[o]? = some O
 wo:w≠o
abbrev tBo (w:Nat)(t:Txt)(x num left more:Option PV):Tb:=[x,some (.str t),some (.lst w),num,left,more,none,none,none,none,none,none,none,none,none,none,none,none,none,none]
def Blt (w o:Nat)(O:List PV)(x:Option PV)(k:Nat)(s:PS):Prop:=∃ t W st,TOk t W/\t.length<=121/\W.length<=91*k/\Ost st w o W O/\At st (tBo w t x none none none) s
def nnI (x:Int):Int:=if x≥0 then 2*x else -2*x - 1
theorem Ug (x:Int):0<=nnI x:=by
 unfold nnI
 split <;> lia
section
variable {st:List (List PV)}{w o:Nat}{x:Option PV}{loc:Nat->Option PV}{Q:PV->PS->Prop}{E:PX->PS->Prop}
theorem LB {l:List Int}{k:Nat}{L:Nat->Option PV}(nn:∀ i∈l,0<=i)(kl:k<l.length)(hl:l.length<=66)(z:Blt w o (l.map .int) x k ⟨L,st⟩) :
  wp (Fd Kx) ⟨upd L 3 (.int (l.getD k 0)),st⟩ (λf s'=>(f = .next\/f = .cont)/\Blt w o (l.map .int) x (k+1) s') λU U=>False:=by
 obtain ⟨t,W,st1,ok,tl,wl,os,_,e,B⟩:=z
 cases e
 have n0:0<=l.getD k 0:=nn _ (by rw [getD_eq_getElem?_getD,getElem?_eq_getElem kl];exact getElem_mem kl)
 obtain ⟨v,hv⟩:∃ v:Nat,l.getD k 0=(v:Nat):=⟨_,(Int.toNat_of_nonneg n0).symm⟩
 rw [hv]
 have B:=B.set 3 (.int (v:Nat))
 have ws:=(bf.mp os.hw).1
 have os':=(bf.mp os.ho).1
 have h:Bst (st++[[.int (v:Nat)]]) w o st.length W (l.map .int) v:=⟨DV os.hw,DV os.ho,BB,Nat.ne_of_lt ws,Nat.ne_of_lt os',os.wo⟩
 unfold Fd
 refine wpA (st++[[.int (v:Nat)]]) (tBo w t x (some (.int (v:Nat))) (some (.lst st.length)) none) (by walk_at "wp";exact (by decide:1<=big);walk_at "wp";exact ⟨rfl,(B.set 4 _ |> At.mk _ rfl)⟩) λL B=>?_
 refine wpA (st++[[.int (v:Nat)]]) (tBo w t x (some (.int (v:Nat))) (some (.lst st.length)) (some (.bool true))) (by walk_at "wp";exact ⟨rfl,(B.set 5 _ |> At.mk _ rfl)⟩) λL B=>?_
 refine wp_mono (LA h ok tl (by lia) B) (λf s' z=>?_) λU U z=>z
 obtain ⟨rfl,t',W',b,ok',tl',wl',st2,v2,h2,L2,rfl,B2⟩:=z
 exact ⟨.inl rfl,t',W',st2,ok',tl',by lia,⟨h2.hw,h2.ho,h2.wo⟩,(((B2.drop 3).drop 4).drop 5 |> At.mk _ rfl)⟩
theorem So {l:List Int}{k:Nat}{s:PS}(h:k<l.length):Bg (.ints l) k s = .ok (some (.int (l.getD k 0))) s:=by
 show R.ok ((l[k]?).map PV.int) s=_
 rw [getElem?_eq_getElem h,getD_eq_getElem?_getD,getElem?_eq_getElem h];rfl
theorem Sq {l:List Int}{s:PS}:Bg (.ints l) l.length s = .ok none s:=by
 show R.ok ((l[l.length]?).map PV.int) s=_
 rw [List.getElem?_eq_none_iff.mpr (Nat.le_refl _)];rfl
theorem Py {l:List Int}(hl:l.length<=100)(hQ:Q (.lst st.length) ⟨loc,st++[(l.map nnI).map .int]⟩):wp (aF [31] (az (Bg (.ints l)) (aj 31) (AC .And []) ((ac ((ac (af 31) λa=>ac (ae (.int 0)) λb=>ac (Aq .GtE a b) tst)) λc=>if c then (ac (ae (.int 2)) λa=>ac (af 31) λb=>AO .Mult a b) else (ac ((ac ((ac (ae (.int 2)) OC)) λa=>ac (af 31) λb=>AO .Mult a b)) λa=>ac (ae (.int 1)) λb=>AO .Sub a b))) Kx 0 [])) ⟨loc,st⟩ Q E:=by
 refine En (n:=l.length) (p:=λk=>.int (l.getD k 0)) (λU=>true) (λk=>.int (nnI (l.getD k 0))) (aQ hl (by decide)) (λk L' lt=>So lt) (λL'=>Sq) (λk L' lt o e=>BV) (λk L' lt U o e=>?_) ?_
 ·generalize l.getD k 0=y at e
  refine AD (c:=decide (y≥0)) (wpB (wpG e (KtI (wpB (wpR (KtI (wpB (wpGeI (KtI (wpTb ⟨rfl,rfl⟩)))))))))) (λq=>?_) λq=>?_
  ·refine wpB (wpR (KtI (wpB (wpG e (KtI (Wa rfl ⟨?_,rfl⟩))))))
   rw [show nnI y=2*y from if_pos (of_decide_eq_true q)]
  ·refine wpB (wpB (wpB (wpR (KtI (wpNeg (KtI (wpB (wpG e (KtI (Wa rfl (KtI (wpB (wpR (KtI (wpSI ⟨?_,rfl⟩)))))))))))))))
   rw [show nnI y = -2*y - 1 from if_neg (of_decide_eq_false q)]
 ·have e:((range l.length).filter λU=>true).map (λk=>PV.int (nnI (l.getD k 0)))=(l.map nnI).map .int:=by
   rw [filter_eq_self.mpr λU U=>rfl,List.map_map]
   refine List.ext_getElem (by rw [length_map,length_map,length_range]) λi h1 h2=>?_
   rw [length_map,length_range] at h1
   rw [List.getElem_map,List.getElem_map,List.getElem_range,getD_eq_getElem?_getD,getElem?_eq_getElem h1]
   rfl
  rw [e];exact hQ
end
theorem H1.not_rd {x n:Txt}{p e:Nat}(h:H1 x p)(hx:x.length<=90000)(r:Rd x p e n):False:=by
 have a:=r.call hx (λU=>none) [] (λU U=>True) (λU U=>False) trivial
 have b:=h (λU=>none) [] (λU U=>False) (λU U=>True) λU=>trivial
 unfold wp at a b
 cases q:ao (Ai Kx) [.str x,.int p] ⟨λU=>none,[]⟩ with
 | ok v s=>rw [q] at b;exact b
 | ex _ _=>rw [q] at a;exact a
 | stuck=>rw [q] at a;exact a
def Sr (t:Txt)(p:Nat)(y:PV):Prop:=(∃ e n,Rd t p e n/\y = .tup [.int (e:Nat),.str n])\/(y = .none/\∀ e n,¬ Rd t p e n)
abbrev tLw (x:Option PV)(t:Txt)(w:Nat)(nm ba d pl en ns ps sh ag:Option PV):Tb:=[x,some (.str t),some (.lst w),none,none,none,none,nm,none,none,none,ba,none,d,pl,en,ns,ps,sh,ag]
structure Tst (st:List (List PV))(t:Txt)(w d:Nat)(W:List Wi)(T:List PV):Prop where
 hw:st[w]? = some (W.map wiV)
 hd:st[d]? = some T
 wd:w≠d
section
variable {st:List (List PV)}{w d:Nat}{W:List Wi}{T:List PV}{t:Txt}{x:Option PV}
theorem Pz {k:Nat}{L:Nat->Option PV}(h:Tst st t w d W T)(tl:t.length<=1000)(sc:∀ c∈t,Al c)(hk:k<=t.length)(hT:T.length=k)(B:Loc (tLw x t w none none (some (.lst d)) (some (.int (k:Nat))) none none none none none) L) :
  wp (Fe Kx) ⟨L,st⟩ (λf s'=>(f = .next\/f = .cont)/\∃ y st',Sr t k y/\Tst st' t w d W (T++[y])/\At st' (tLw x t w none none (some (.lst d)) none none none none none none) s') λU U=>False:=by
 have lt:=(bf.mp h.hd).1
 have tst:∀ y,Tst (st.set d (T++[y])) t w d W (T++[y]):=λy=>⟨by rw [getElem?_set_ne (Ne.symm h.wd)];exact h.hw,List.getElem?_set_self lt,h.wd⟩
 have hb:T.length+1<=big:=aQ (show T.length+1<=2000 by lia) (by decide)
 unfold Fe
 rw [C4]
 cases keyR (aQ tl (by decide)) sc hk with
 | ok e n r=>
  walk_at "wp"
  refine r.call (aQ tl (by decide)) _ _ _ _ ?_
  walk_at "wp"
  rw [Dy h.hd]
  refine ⟨hb,?_⟩
  walk_at "wp"
  exact ⟨.inl rfl,_,_,.inl ⟨e,n,r,rfl⟩,tst _,(B.drop 14 |> At.mk _ rfl)⟩
 | no f=>
  walk_at "wp"
  refine f _ _ _ _ λz=>?_
  show wp _ _ _ _
  walk_at "wp"
  rw [Dy h.hd]
  refine ⟨hb,?_⟩
  walk_at "wp"
  exact ⟨.inl rfl,_,_,.inr ⟨rfl,λe n r=>f.not_rd (aQ tl (by decide)) r⟩,tst _,(B.drop 14 |> At.mk _ rfl)⟩
end
def FV (t:Txt)(T:List PV):Prop:=∀ p,p<=t.length->∃ y,T[p]? = some y/\Sr t p y
theorem Sr.eq {t n:Txt}{p e:Nat}{y:PV}(h:Sr t p y)(r:Rd t p e n)(tl:t.length<=90000):y = .tup [.int (e:Nat),.str n]:=by
 rcases h with ⟨e',n',r',rfl⟩ | ⟨_,no⟩
 ·obtain ⟨rfl,rfl⟩:=r.unique r' tl
  rfl
 ·exact absurd r (no _ _)
theorem It.rd {t n:Txt}{a e:Nat}(h:It t a e n false):Rd t a e n:=by
 cases h with
 | mark h1 h2 h3=>
  cases h1 with
  | lit l=>
   rw [h3,length_cons,length_append,List.length_singleton]
   exact .lit (by rw [h2,cons_append,append_assoc];rfl) (FU.mp l)
  | bas un=>
   rw [h3,length_cons,length_append,List.length_singleton]
   exact .bas un (by rw [h2,cons_append,append_assoc];rfl)
theorem MZ (c:Nat):isBare [c]=Am 5 c:=by
 show (true&&(Am 5 c&&true))=_
 rw [Bool.true_and,Bool.and_true]
theorem Tst.grow {st st':List (List PV)}{t:Txt}{w d:Nat}{W:List Wi}{T:List PV}(h:Tst st t w d W T)(p:st <+: st'):Tst st' t w d W T:=⟨CS p h.hw,CS p h.hd,h.wd⟩
section
variable {st:List (List PV)}{w d:Nat}{W:List Wi}{T:List PV}{t:Txt}{x:Option PV}
theorem PA {b:Bool}{a e m:Nat}{n:Txt}{L:Nat->Option PV}(h:Tst st t w d W T)(tl:t.length<=1000)(sc:∀ c∈t,Al c)(hm:b=false->m=0)(he:e+m<=t.length)
  (hb:b=true->(∀ k,k<m->∃ c,t[e+k]? = some c/\Am 5 c=true)/\∀ c,t[e+m]? = some c->Am 5 c=false)
  (B:Loc (tLw x t w (some (.str n)) (some (.bool b)) (some (.lst d)) (some (.int (a:Nat))) (some (.int (e:Nat))) none none none none) L) :
  wp (ay ((AC .And [(ac (af 11) tst),(ac (af 15) λa=>ac ((ac (ah [af 1]) Bp)) λb=>ac (Aq .Lt a b) tst),(ac ((ac (ah [(ac (af 1) λa=>ac (af 15) λb=>Ap false a b)]) (ao (AZ Kx)))) tst)])) (Ff Kx) Kx) ⟨L,st⟩
   (λf s'=>f = .next/\∃ st',Tst st' t w d W T/\At st' (tLw x t w (some (.str n)) (some (.bool b)) (some (.lst d)) (some (.int (a:Nat))) (some (.int ((e+m:Nat):Int))) none none none none) s') λU U=>False:=by
 refine Dw (λk s=>∃ st',Tst st' t w d W T/\At st' (tLw x t w (some (.str n)) (some (.bool b)) (some (.lst d)) (some (.int (a:Nat))) (some (.int ((e+k:Nat):Int))) none none none none) s) m (λk s z hk=>?_) Kx 0 _ ⟨st,h,.mk L rfl B⟩ (aP _) (by have:=BO;lia)
 obtain ⟨st1,h1,L,rfl,B⟩:=z
 rw [Bj]
 refine wpB (wpL B rfl (KtI (wpTb ?_)))
 cases b with
 | false=>
  obtain rfl:=hm rfl
  obtain rfl:k=0:=Nat.le_zero.mp hk
  rw [if_neg Bool.false_ne_true,if_neg Bool.false_ne_true]
  exact ⟨rfl,st1,h1,.mk _ rfl B⟩
 | true=>
  obtain ⟨b1,b2⟩:=hb rfl
  rw [if_pos rfl,Bj]
  refine wpB (wpL B rfl (KtI (wpB (wpB (wpSC (wpL B rfl (wpSN (KtI (wpLS (aQ tl (by decide)) (KtI (wpB (wpLtI (KtI (wpTb ?_))))))))))))))
  rw [Eo (e+k) t.length]
  by_cases q:e+k<t.length
  ·rw [if_pos (decide_eq_true q),Bj]
   have ec:t[e+k]? = some (t.getD (e+k) 0):=by rw [getD_eq_getElem?_getD,getElem?_eq_getElem q];rfl
   refine wpB (wpB (wpSC (wpB (wpL B rfl (KtI (wpB (wpL B rfl (KtI (Li (AM (by lia)) (FL q) (wpSN (KtI (DC (by decide:1<=10000) ?_ λst2 p2=>?_))))))))))))
   ·exact λc m=>by
     rw [mem_singleton.mp m]
     have:=sc _ (mem_of_getElem? ec)
     unfold Al at this
     lia
   rw [MZ]
   refine KtI (wpTb ?_)
   have h2:=h1.grow p2
   by_cases q2:k<m
   ·obtain ⟨c,e1,e2⟩:=b1 k q2
    obtain rfl:=aU (ec.symm.trans e1)
    rw [e2,if_pos rfl,Lh,if_pos (by rfl)]
    unfold Ff
    walk_at "wp"
    exact ⟨q2,st2,h2,(B.set 15 _ |> At.mk _ rfl)⟩
   ·obtain rfl:k=m:=by lia
    rw [b2 _ ec,if_neg Bool.false_ne_true,if_neg Bool.false_ne_true]
    exact ⟨rfl,st2,h2,.mk _ rfl B⟩
  ·obtain rfl:k=m:=by
    refine bg hk (Nat.le_of_not_lt λlt=>?_)
    lia
   rw [if_neg (by rw [decide_eq_false q];exact Bool.false_ne_true),if_neg Bool.false_ne_true]
   exact ⟨rfl,st1,h1,.mk _ rfl B⟩
set_option tactic.hygienic true in
theorem It.whole {a e:Nat}{n:Txt}{b:Bool}(h:It t a e n b):∃ m N,Rd t a (e+m) N/\(b=false->m=0/\N=n)/\(b=true->(t.drop a).take (e+m - a)=N/\(∀ k,k<m->∃ c,t[e+k]? = some c/\Am 5 c=true)/\∀ c,t[e+m]? = some c->Am 5 c=false):=by
 cases b with
 | false=>exact ⟨0,n,h.rd,λU=>⟨rfl,rfl⟩,λe=>(by cases e)⟩
 | true=>
  cases h with
  | bare hb hd he=>
   rename_i z
   obtain ⟨w',z',e1,h1,h2⟩:=H3 (Am 5) z
   have hw:=all_eq_true.mp (and_eq_true_iff.mp hb).2
   have e2:t.drop a=(n++w')++z':=by rw [hd,e1,append_assoc]
   have e3:t.drop e=w'++z':=by rw [he];exact (Aw hd).trans e1
   have e4:t.drop (e+w'.length)=z':=Aw e3
   have e5:e+w'.length=a+(n++w').length:=by rw [he,length_append,Nat.add_assoc]
   refine ⟨w'.length,n++w',?_,(λe=>(by cases e)),λU=>⟨?_,λk lt=>?_,λc hc=>?_⟩⟩
   ·rw [e5]
    exact .bare e2 (λz=>EF hb (List.append_eq_nil_iff.mp z).1) (λc m=>(mem_append.mp m).elim (hw c) (h1 c)) h2
   ·rw [e5,Nat.add_sub_cancel_left,e2,take_left]
   ·have:(t.drop e)[k]? = some w'[k]:=by rw [e3,getElem?_append_left lt,getElem?_eq_getElem lt]
    rw [getElem?_drop] at this
    exact ⟨_,this,h1 _ (getElem_mem lt)⟩
   ·cases q:z' with
    | nil=>
     rw [q] at e4
     have:=List.drop_eq_nil_iff.mp e4
     rw [List.getElem?_eq_none_iff.mpr this] at hc
     cases hc
    | cons c' r=>
     rw [q] at e4
     rw [Bu e4] at hc
     rw [<- Option.some.inj hc]
     exact h2 c' r q
theorem J8 {b:Bool}{a e:Nat}{n:Txt}{L:Nat->Option PV}(it:It t a e n b)(h:Tst st t w d W T)(all:FV t T)(tl:t.length<=1000)(sc:∀ c∈t,Al c)(al:a<=t.length)(tT:T.length<=10000)
  (B:Loc (tLw x t w (some (.str n)) (some (.bool b)) (some (.lst d)) (some (.int (a:Nat))) (some (.int (e:Nat))) none none none none) L) :
  wp (Fg Kx) ⟨L,st⟩ (λf s'=>f = .next/\∃ st',Tst st' t w d W T/\At st' (tLw x t w none none (some (.lst d)) none none none none none none) s') λU U=>False:=by
 obtain ⟨m,N,r,f0,f1⟩:=it.whole
 obtain ⟨_,el⟩:=r.le al
 obtain ⟨y,hy,ty⟩:=all a al
 obtain rfl:=ty.eq r (aQ tl (by decide))
 have okN:okT N:=λc m=>by have:=r.scal sc c m;unfold Al at this;lia
 unfold Fg
 refine wpN (λs=>∃ st',Tst st' t w d W T/\At st' (tLw x t w (some (.str n)) (some (.bool b)) (some (.lst d)) (some (.int (a:Nat))) (some (.int ((e+m:Nat):Int))) none none none none) s) (PA h tl sc (λq=>(f0 q).1) el (λq=>(f1 q).2) B) ?_
 clear B h
 rintro _ ⟨st,h,L,rfl,B⟩
 have aT:=(bf.mp hy).1
 have cmp:wp (Aq .NotEq (.tup [.int ((e+m:Nat):Int),.str N]) (.tup [.int ((e+m:Nat):Int),.str N])) ⟨L,st⟩ (λv s'=>v = .bool false/\s'=⟨L,st⟩) λU U=>False:=Wl (TY okN) ⟨rfl,rfl⟩
 refine AD (c:=false) ?_ (λq=>(by cases q)) λU=>wpR ⟨rfl,st,h,((((B.drop 7).drop 11).drop 14).drop 15 |> At.mk _ rfl)⟩
 walk_at "wp"
 refine CN (AM (by lia)) h.hd (FL aT) hy ?_
 walk_at "wp"
 cases b with
 | false=>
  rw [if_neg Bool.false_ne_true]
  walk_at "wp"
  ·exact (by decide:2<=big)
  rw [<- (f0 rfl).2]
  refine wp_mono cmp (λv s' z=>?_) λU U z=>z
  obtain ⟨rfl,rfl⟩:=z
  exact KtI (wpTb ⟨rfl,rfl⟩)
 | true=>
  rw [if_pos rfl]
  walk_at "wp"
  refine D0 (t:=N) ?_ ?_ ?_
  ·rw [<- (f1 rfl).1]
   have:=Ek (x:=t) (p:=a) (n:=e+m - a) al
   rw [show a+(e+m - a)=e+m by lia] at this
   exact this
  ·exact aQ (show N.length<=1000 by have:=r.len;lia) (by decide)
  walk_at "wp"
  ·exact (by decide:2<=big)
  refine wp_mono cmp (λv s' z=>?_) λU U z=>z
  obtain ⟨rfl,rfl⟩:=z
  exact KtI (wpTb ⟨rfl,rfl⟩)
end
theorem Ch.snoc {x n:Txt}{p q e:Nat}{ns:List Txt}(h:Ch x p ns q)(r:Rd x q e n):Ch x p (ns++[n]) e:=by
 induction h with
 | nil=>exact .cons r (.nil _)
 | cons a _ ih=>exact .cons a (ih r)
structure Nst (st:List (List PV))(t:Txt)(w d i:Nat)(W:List Wi)(T:List PV)(ns:List Txt):Prop where
 h:Tst st t w d W T
 hi:st[i]? = some (ns.map .str)
 wi:w≠i
 di:d≠i
theorem Nst.grow {st st':List (List PV)}{t:Txt}{w d i:Nat}{W:List Wi}{T:List PV}{ns:List Txt}(h:Nst st t w d i W T ns)(p:st <+: st'):Nst st' t w d i W T ns:=⟨h.h.grow p,CS p h.hi,h.wi,h.di⟩
structure NsOk (t:Txt)(p:Nat)(ns:List Txt)(q:Nat):Prop where
 ch:Ch t p ns q
 le:ns.length+p<=q/\q<=t.length
 ok:∀ n∈ns,(∀ c∈n,Al c)/\n.length<=1000
section
variable {st:List (List PV)}{w d i:Nat}{W:List Wi}{T:List PV}{t:Txt}{x:Option PV}
theorem Ss {y:PV}{s:PS}{Q:PV->PS->Prop}{E:PX->PS->Prop}(h:Q (.bool (!CO y)) s):wp (Aq .IsNot y .none) s Q E:=h
theorem LC {p:Nat}{L:Nat->Option PV}{nm:Option PV}(h:Nst st t w d i W T [])(all:FV t T)(tl:t.length<=1000)(sc:∀ c∈t,Al c)(hp:p<=t.length)
  (B:Loc (tLw x t w none none (some (.lst d)) (some (.int (p:Nat))) none (some (.lst i)) (some (.int (p:Nat))) none none) L) :
  wp (ay ((AC .And [(ac (af 17) λa=>ac ((ac (ah [af 1]) Bp)) λb=>ac (Aq .Lt a b) tst),(ac ((ac (af 13) λa=>ac (af 17) λb=>Ap false a b)) λa=>ac (ae .none) λb=>ac (Aq .IsNot a b) tst),(ac ((ac (ah [af 16]) Bp)) λa=>ac ((ac (ah [af 1]) Bp)) λb=>ac (Aq .Lt a b) tst)])) (Fh Kx) Kx) ⟨L,st⟩
   (λf s'=>f = .next/\∃ ns q st',NsOk t p ns q/\Nst st' t w d i W T ns/\At st' (tLw x t w none none (some (.lst d)) (some (.int (p:Nat))) none (some (.lst i)) (some (.int (q:Nat))) none none) s') λU U=>False:=by
 refine Dw (λk s=>∃ ns q st',ns.length=k/\NsOk t p ns q/\Nst st' t w d i W T ns/\At st' (tLw x t w none none (some (.lst d)) (some (.int (p:Nat))) none (some (.lst i)) (some (.int (q:Nat))) none none) s) t.length (λk s z hk=>?_) Kx 0 _ ⟨[],p,st,rfl,⟨.nil p,⟨aS (Nat.zero_add p),hp⟩,λU m=>(by cases m)⟩,h,.mk L rfl B⟩ (aP _) (by have:=BO;lia)
 obtain ⟨ns,q,st1,hk1,no,h1,L,rfl,B⟩:=z
 obtain ⟨l1,l2⟩:=no.le
 have tb:t.length<=big:=aQ tl (by decide)
 obtain ⟨y,hy,ty⟩:=all q l2
 have qT:=(bf.mp hy).1
 refine wp_mono (AX (B:=decide (q<t.length)) (C:=(!CO y)&&(decide (k<t.length)&&true)) (by walk_at "wp";exact tb;walk_at "wp";exact ⟨Eo q _,rfl⟩) λU=>AX ?_ λU=>AX ?_ λU=>BV) (λc s' z=>?_) λU U z=>z
 ·walk_at "wp"
  refine CN (AM (by lia)) h1.h.hd (FL qT) hy ?_
  walk_at "wp"
  refine Ss ?_
  walk_at "wp"
  exact ⟨rfl,rfl⟩
 ·walk_at "wp"
  rw [JU h1.hi]
  refine ⟨by rw [length_map];exact aQ (show ns.length<=1000 by lia) (by decide),?_⟩
  walk_at "wp"
  ·exact tb
  rw [length_map,hk1]
  exact ⟨Eo k _,rfl⟩
 obtain ⟨rfl,rfl⟩:=z
 cases c:(decide (q<t.length)&&((!CO y)&&(decide (k<t.length)&&true))) with
 | false=>
  rw [if_neg Bool.false_ne_true]
  exact ⟨rfl,ns,q,st1,no,h1,.mk _ rfl B⟩
 | true=>
  rw [if_pos rfl]
  simp only [Bool.and_true,and_eq_true,decide_eq_true_eq] at c
  obtain ⟨c1,c2,c3⟩:=c
  rcases ty with ⟨e,n,r,rfl⟩ | ⟨rfl,_⟩
  ·obtain ⟨r1,r2⟩:=r.le l2
   have hs:(st1.set i (ns.map PV.str++[.str n]))[i]? = some ((ns++[n]).map .str):=by
    rw [map_append];exact List.getElem?_set_self (bf.mp h1.hi).1
   unfold Fh
   refine wpA st1 (tLw x t w (some (.str n)) none (some (.lst d)) (some (.int (p:Nat))) none (some (.lst i)) (some (.int (e:Nat))) none none) ?_ λL B=>?_
   ·walk_at "wp"
    refine CN (AM (by lia)) h1.h.hd (FL qT) hy ?_
    walk_at "wp"
    rw [Fn]
    refine wpSet (wpSet ?_)
    walk_at "wp"
    exact ⟨rfl,((B.set 17 _).set 7 _ |> At.mk _ rfl)⟩
   walk_at "wp"
   rw [Dy h1.hi]
   refine ⟨by rw [length_map];exact aQ (show ns.length+1<=2000 by lia) (by decide),?_⟩
   walk_at "wp"
   refine ⟨c3,ns++[n],e,_,by rw [length_append,hk1];rfl,⟨no.ch.snoc r,⟨by rw [length_append,List.length_singleton];lia,r2⟩,λm k=>?_⟩,⟨⟨?_,?_,h1.h.wd⟩,hs,h1.wi,h1.di⟩,(B.drop 7 |> At.mk _ rfl)⟩
   ·rcases mem_append.mp k with k | k
    ·exact no.ok m k
    ·rw [mem_singleton.mp k];exact ⟨r.scal sc,by have:=r.len;lia⟩
   ·rw [getElem?_set_ne (Ne.symm h1.wi)];exact h1.h.hw
   ·rw [getElem?_set_ne (Ne.symm h1.di)];exact h1.h.hd
  ·cases c2
end
structure Gst (st:List (List PV))(t:Txt)(w d i g:Nat)(W:List Wi)(T:List PV)(ns as:List Txt):Prop where
 h:Nst st t w d i W T ns
 hg:st[g]? = some (as.map .str)
 wg:w≠g
 dg:d≠g
 ig:i≠g
section
variable {st:List (List PV)}{w d i g:Nat}{W:List Wi}{T:List PV}{t S:Txt}{x pl:Option PV}{ns:List Txt}
def Ag (st:List (List PV))(t S:Txt)(w d i g:Nat)(W:List Wi)(T:List PV)(x pl:Option PV)(ns:List Txt)(k:Nat)(s:PS):Prop:=
 ∃ q b w' st',q<=S.length/\S.drop q=w'/\Wr b (ns.drop k) w'/\Gst st' t w d i g W T ns (ns.take k)/\At st' (tLw x t w none none (some (.lst d)) pl none (some (.lst i)) (some (.int (q:Nat))) (some (.str S)) (some (.lst g))) s
theorem M0 {k:Nat}{L:Nat->Option PV}(hS:S.length<=90000)(ok:∀ n∈ns,∀ c∈n,Al c)(kl:k<ns.length)(nl:ns.length<=1000)(z:Ag st t S w d i g W T x pl ns k ⟨L,st⟩)(v:PV) :
  wp (Fj Kx) ⟨upd L 9 v,st⟩ (λf s'=>(f = .next\/f = .cont)/\Ag st t S w d i g W T x pl ns (k+1) s') λU U=>False:=by
 obtain ⟨q,b,w',st1,ql,hd,wr,gs,_,e,B⟩:=z
 cases e
 have B:=(B.set 9 v).drop 9
 rw [drop_eq_getElem_cons kl] at wr
 obtain ⟨e,w2,b2,r,hd2,wr2⟩:=wr.read hd (ok _ (getElem_mem kl))
 obtain ⟨r1,r2⟩:=r.le ql
 have hk:(ns.take (k+1))=ns.take k++[ns[k]]:=by rw [take_add_one,getElem?_eq_getElem kl];rfl
 unfold Fj
 refine wpA st (tLw x t w (some (.str ns[k])) none (some (.lst d)) pl none (some (.lst i)) (some (.int (e:Nat))) (some (.str S)) (some (.lst g))) ?_ λL B=>?_
 ·rw [C4]
  walk_at "wp"
  refine r.call hS _ _ _ _ ?_
  walk_at "wp"
  rw [Fn]
  refine wpSet (wpSet ?_)
  walk_at "wp"
  exact ⟨rfl,((B.set 17 _).set 7 _ |> At.mk _ rfl)⟩
 walk_at "wp"
 rw [Dy gs.hg]
 refine ⟨by rw [length_map,length_take];exact aQ (bA (Nat.min_le_right ..)) (aQ (bA nl) (by decide)),?_⟩
 walk_at "wp"
 refine ⟨.inl rfl,e,b2,w2,_,r2,hd2,wr2,⟨⟨⟨?_,?_,gs.h.h.wd⟩,?_,gs.h.wi,gs.h.di⟩,?_,gs.wg,gs.dg,gs.ig⟩,(B.drop 7 |> At.mk _ rfl)⟩
 ·rw [getElem?_set_ne (Ne.symm gs.wg)];exact gs.h.h.hw
 ·rw [getElem?_set_ne (Ne.symm gs.dg)];exact gs.h.h.hd
 ·rw [getElem?_set_ne (Ne.symm gs.ig)];exact gs.h.hi
 ·rw [hk,map_append];exact List.getElem?_set_self (bf.mp gs.hg).1
end
section
variable {st:List (List PV)}{w d:Nat}{W:List Wi}{T:List PV}{t:Txt}{x:Option PV}{E:PX->PS->Prop}
theorem Su {a b:PV}{s:PS}{Q:PV->PS->Prop}(h:Q a s):wp (Ap false (.tup [a,b]) (.int 0)) s Q E:=h
theorem VK {a b:PV}{s:PS}{Q:PV->PS->Prop}(h:Q b s):wp (Ap false (.tup [a,b]) (.int 1)) s Q E:=h
abbrev tP (x:Option PV)(t:Txt)(w d k:Nat):Tb:=tLw x t w none none (some (.lst d)) (some (.int (k:Nat))) none none none none none
theorem M1 {k:Nat}{L:Nat->Option PV}(h:Tst st t w d W T)(all:FV t T)(tl:t.length<=1000)(sc:∀ c∈t,Al c)(hk:k<t.length)(B:Loc (tP x t w d k) L) :
  wp (AC .And [(ac ((ac (af 13) λa=>ac (af 14) λb=>Ap false a b)) λa=>ac (ae .none) λb=>ac (Aq .IsNot a b) tst),(AC .Or [(ac ((ac ((ac (af 13) λa=>ac (af 14) λb=>Ap false a b)) λa=>ac (ae (.int 0)) λb=>Ap false a b)) λa=>ac ((ac (ah [af 1]) Bp)) λb=>ac (Aq .Gt a b) tst),(ac ((ac ((ac (ah [(ac (af 1) λa=>ac (AP (some (af 14))) λb=>ac (AP (some ((ac ((ac (af 13) λd=>ac (af 14) λe=>Ap false d e)) λd=>ac (ae (.int 0)) λe=>Ap false d e)))) λd=>A2 b d a),(ac ((ac (af 13) λa=>ac (af 14) λb=>Ap false a b)) λa=>ac (ae (.int 1)) λb=>Ap false a b)]) (ao (Cb Kx)))) tst)) λc=>ae !c)])]) ⟨L,st⟩
   (λc s'=>c=false/\∃ st',s'=⟨L,st'⟩/\st <+: st') λU U=>False:=by
 have tb:t.length<=big:=aQ tl (by decide)
 obtain ⟨y,hy,ty⟩:=all k (br hk)
 have kT:=(bf.mp hy).1
 have sk:small ((k:Nat):Int)=true:=AM (by lia)
 have ix:idx ((k:Nat):Int) T.length=some k:=FL kT
 rw [Bj]
 walk_at "wp"
 refine CN sk h.hd ix hy ?_
 walk_at "wp"
 refine Ss ?_
 walk_at "wp"
 rcases ty with ⟨e,n,r,rfl⟩ | ⟨rfl,_⟩
 ·obtain ⟨r1,r2⟩:=r.le (br hk)
  rw [if_pos (by rfl),Bj,Cp]
  walk_at "wp"
  refine CN sk h.hd ix hy ?_
  walk_at "wp"
  refine Su ?_
  walk_at "wp"
  ·exact tb
  rw [if_neg (by rw [decide_eq_false (show ¬ ((e:Nat):Int)>(t.length:Nat) by lia)];exact Bool.false_ne_true),Cp]
  walk_at "wp"
  refine CN sk h.hd ix hy ?_
  walk_at "wp"
  refine Su ?_
  walk_at "wp"
  refine D0 (t:=(t.drop k).take (e - k)) ?_ (aQ (by rw [length_take];exact Nat.min_le_left ..) (aQ (show e - k<=1000 by lia) (by decide))) ?_
  ·have:=Ek (x:=t) (p:=k) (n:=e - k) (br hk)
   rw [show k+(e - k)=e by lia] at this
   exact this
  walk_at "wp"
  refine CN sk h.hd ix hy ?_
  walk_at "wp"
  refine VK ?_
  walk_at "wp"
  have nl:=r.len
  refine Ly r.sp (by rw [length_take];exact aQ (Nat.min_le_left ..) (by lia)) (by lia) (λc m=>by have:=r.scal sc c m;unfold Al at this;lia) λst' p=>?_
  walk_at "wp"
  exact ⟨rfl,st',rfl,p⟩
 ·exact ⟨rfl,st,rfl,prefix_refl _⟩
theorem M2 {k:Nat}{L:Nat->Option PV}(h:Tst st t w d W T)(all:FV t T)(tl:t.length<=1000)(sc:∀ c∈t,Al c)(hk:k<t.length)(B:Loc (tP x t w d k) L) :
  wp (Fk Kx) ⟨L,st⟩ (λf s'=>(f = .next\/f = .cont)/\∃ st',Tst st' t w d W T/\At st' (tLw x t w none none (some (.lst d)) none none none none none none) s') λU U=>False:=by
 unfold Fk
 refine A1 (wpB (wp_mono (M1 h all tl sc hk B) (λc s' z=>?_) λU U z=>z))
 obtain ⟨rfl,st1,rfl,p1⟩:=z
 refine KtI ?_
 rw [if_neg Bool.false_ne_true]
 refine wpR (KnI ?_)
 have h1:=h.grow p1
 have ws:=(bf.mp h1.hw).1
 have ds:=(bf.mp h1.hd).1
 refine wpA (st1++[[]]) (tLw x t w none none (some (.lst d)) (some (.int (k:Nat))) none (some (.lst st1.length)) none none none) (by walk_at "wp";exact (by decide:0<=big);walk_at "wp";exact ⟨rfl,(B.set 16 _ |> At.mk _ rfl)⟩) λL B=>?_
 refine wpA (st1++[[]]) (tLw x t w none none (some (.lst d)) (some (.int (k:Nat))) none (some (.lst st1.length)) (some (.int (k:Nat))) none none) (by walk_at "wp";exact ⟨rfl,(B.set 17 _ |> At.mk _ rfl)⟩) λL B=>?_
 have n1:Nst (st1++[[]]) t w d st1.length W T []:=⟨h1.grow (Iv _),BB,Nat.ne_of_lt ws,Nat.ne_of_lt ds⟩
 generalize st1.length=i at n1 B
 generalize st1++[[]]=st2 at n1 B
 refine wpN (λs=>∃ ns q st',NsOk t k ns q/\Nst st' t w d i W T ns/\At st' (tLw x t w none none (some (.lst d)) (some (.int (k:Nat))) none (some (.lst i)) (some (.int (q:Nat))) none none) s) (LC (nm:=none) n1 all tl sc (br hk) B) ?_
 clear B n1 h1 h p1
 rintro _ ⟨ns,q,st,no,n1,L,rfl,B⟩
 obtain ⟨l1,l2⟩:=no.le
 have nl:ns.length<=1000:=by lia
 have okn:∀ n∈ns,(∀ c∈n,c<1114112)/\n.length<=1000:=λn m=>⟨λc mc=>by have:=(no.ok n m).1 c mc;unfold Al at this;lia,(no.ok n m).2⟩
 obtain ⟨s1,s2⟩:=Se no.ch
 refine wpN (λs=>∃ st',Nst st' t w d i W T ns/\At st' (tLw x t w none none (some (.lst d)) (some (.int (k:Nat))) none (some (.lst i)) (some (.int (q:Nat))) (some (.str (shF ns))) none) s) ?_ ?_
 ·walk_at "wp"
  refine Ix n1.hi nl okn λst' p=>?_
  walk_at "wp"
  exact ⟨rfl,st',n1.grow p,(B.set 18 _ |> At.mk _ rfl)⟩
 clear B n1
 rintro _ ⟨st,n1,L,rfl,B⟩
 have sl:(shF ns).length<=1000:=by lia
 have sb:(shF ns).length<=big:=aQ sl (by decide)
 have wr:=Wr.best (Wq ns)
 generalize shF ns=S at s1 sl sb B wr
 refine A1 (AD (c:=false) ?_ (λq=>(by cases q)) λU=>wpR (KnI ?_))
 ·walk_at "wp"
  ·exact sb
  exact ⟨decide_eq_false (by lia),rfl⟩
 have ws:=(bf.mp n1.h.hw).1
 have ds:=(bf.mp n1.h.hd).1
 have is:=(bf.mp n1.hi).1
 refine wpA (st++[[]]) (tLw x t w none none (some (.lst d)) (some (.int (k:Nat))) none (some (.lst i)) (some (.int (q:Nat))) (some (.str S)) (some (.lst st.length))) (by walk_at "wp";exact (by decide:0<=big);walk_at "wp";exact ⟨rfl,(B.set 19 _ |> At.mk _ rfl)⟩) λL B=>?_
 have g1:Gst (st++[[]]) t w d i st.length W T ns []:=⟨n1.grow (Iv _),BB,Nat.ne_of_lt ws,Nat.ne_of_lt ds,Nat.ne_of_lt is⟩
 generalize st.length=g at g1 B
 generalize st++[[]]=st3 at g1 B
 refine wpA st3 (tLw x t w none none (some (.lst d)) (some (.int (k:Nat))) none (some (.lst i)) (some (.int ((0:Nat):Int))) (some (.str S)) (some (.lst g))) (by walk_at "wp";exact ⟨rfl,(B.set 17 _ |> At.mk _ rfl)⟩) λL B=>?_
 refine wpN (Ag st3 t S w d i g W T x (some (.int (k:Nat))) ns ns.length) ?_ ?_
 ·walk_at "wp"
  rw [JU g1.h.hi]
  refine ⟨by rw [length_map];exact aQ nl (by decide),?_⟩
  walk_at "wp"
  rw [length_map,Dv (Nat.lt_of_le_of_lt nl (by decide))]
  exact KtI (GC (P:=Ag st3 t S w d i g W T x (some (.int (k:Nat))) ns) (n:=ns.length) (λj=>.int j) ⟨0,true,S,st3,aP _,rfl,wr,g1,.mk L rfl B⟩ (by have:=BO;lia) (λj s U lt=>Ez lt) (λs U=>EA) (λj L st' z lj=>M0 (aQ sl (by decide)) (λn m=>(no.ok n m).1) lj nl z _) λs z=>z)
 clear B g1
 rintro _ ⟨q2,b,w',st,ql,hd,wr2,gs,L,rfl,B⟩
 rw [drop_length] at wr2
 obtain rfl:w'=[]:=by cases wr2;rfl
 have eq:q2=S.length:=bg ql (List.drop_eq_nil_iff.mp hd)
 rw [take_length] at gs
 refine AD (c:=(false||(false||false))) (Cu ?_ λU=>Cu ?_ λU=>H6) (λq=>(by cases q)) λU=>wpR ⟨.inl rfl,st,gs.h.h,(((((B.drop 14).drop 16).drop 17).drop 18).drop 19 |> At.mk _ rfl)⟩
 ·walk_at "wp"
  ·exact sb
  rw [eq]
  exact ⟨by rw [beq_self_eq_true];rfl,rfl⟩
 ·walk_at "wp"
  refine Wp (Sa gs.hg gs.h.hi (aQ nl (by decide)) λn m c mc=>by have:=(okn n m).1 c mc;lia) ?_
  walk_at "wp"
  exact ⟨rfl,rfl⟩
end
theorem Uh {get:Nat->M (Option PV)}{tg:PV->M Unit}{b:M PFlow}{E:PX->PS->Prop}(P:Nat->PS->Prop)(n:Nat)(p:Nat->PV){s:PS}{R:PS->Prop}(h0:P 0 s)(hf:n<Kx)
  (hget:∀ k s,P k s->k<n->get k s = .ok (some (p k)) s) (hend:∀ s,P n s->get n s = .ok none s)
  (step:∀ k s,P k s->k<n->wp (tg (p k)) s (λU s'=>wp b s' (λf s''=>f = .next/\P (k+1) s'') λU U=>False) λU U=>False) (fin:∀ s,P n s->R s):wp (aE get tg b Kx 0) s (λf s'=>f = .next/\R s') E:=
 NH (E:=E) P n p hget hend (λk s z lt=>wp_mono (step k s z lt) (λU s' z=>wp_mono z (λf s'' z=>by obtain ⟨rfl,z⟩:=z;exact z) λU U z=>z.elim) λU U z=>z.elim) (λs z=>⟨rfl,fin s z⟩) Kx 0 s h0 (aP _) (by rw [Nat.sub_zero];exact hf)
theorem VL {i j k l:Nat}{a b c e:PV}{L:Nat->Option PV}{st:List (List PV)}{Q:Unit->PS->Prop}{E:PX->PS->Prop}(h:Q () ⟨upd (upd (upd (upd L i a) j b) k c) l e,st⟩):wp (aH [aj i,aj j,aj k,aj l] (.tup [a,b,c,e])) ⟨L,st⟩ Q E:=h
theorem Ui {w k:Nat}{W:List Wi}{s:PS}(h:s.st[w]? = some (W.map wiV))(hk:k<W.length):Bg (.lst w) k s = .ok (some (wiV (W.getD k (0,0,[],false)))) s:=by
 obtain ⟨L,st⟩:=s
 show ac (aq w) (λl=>ae l[k]?) ⟨L,st⟩=_
 have e:aq w ⟨L,st⟩ = .ok (W.map wiV) ⟨L,st⟩:=by unfold aq;rw [h]
 rw [Ab e,getElem?_map,getElem?_eq_getElem hk,getD_eq_getElem?_getD,getElem?_eq_getElem hk];rfl
theorem LD {w:Nat}{W:List Wi}{s:PS}(h:s.st[w]? = some (W.map wiV)):Bg (.lst w) W.length s = .ok none s:=by
 obtain ⟨L,st⟩:=s
 show ac (aq w) (λl=>ae l[_]?) ⟨L,st⟩=_
 have e:aq w ⟨L,st⟩ = .ok (W.map wiV) ⟨L,st⟩:=by unfold aq;rw [h]
 rw [Ab e,List.getElem?_eq_none_iff.mpr (by rw [length_map];exact Nat.le_refl _)];rfl
theorem It.le {t n:Txt}{a e:Nat}{b:Bool}(h:It t a e n b):a<=t.length:=by
 have key:∀ {w z:Txt},t.drop a=w++z->w≠[]->a<=t.length:=λh hw=>by
  refine Nat.le_of_not_lt λq=>?_
  rw [drop_of_length_le (Nat.le_of_lt q)] at h
  exact hw (List.append_eq_nil_iff.mp h.symm).1
 cases h with
 | bare h1 h2=>exact key h2 (EF h1)
 | mark h1 h2=>exact key h2 h1.ne
theorem M3 {l:List Int}(hl:l.length<=63):wp (IW Kx) ⟨loc0 [.ints l],[]⟩ (λf U=>f = .ret (.bool true)) λU U=>False:=by
 unfold IW
 have B:=Loc.init [.ints l] 19
 generalize loc0 [PV.ints l]=L at B
 refine wpA [] [some (.ints l),some (.str []),none,none,none,none,none,none,none,none,none,none,none,none,none,none,none,none,none,none] (by walk_at "wp";exact ⟨rfl,(B.set 1 _ |> At.mk _ rfl)⟩) λL B=>?_
 refine wpA [[]] (tBo 0 [] (some (.ints l)) none none none) (by walk_at "wp";exact (by decide:0<=big);walk_at "wp";exact ⟨rfl,(B.set 2 _ |> At.mk _ rfl)⟩) λL B=>?_
 have lO:(l.map nnI++[45227,16811009]).length=l.length+2:=by rw [length_append,length_map];rfl
 have nO:∀ i∈l.map nnI++[45227,16811009],0<=i:=λi m=>by
  rcases mem_append.mp m with m | m
  ·obtain ⟨y,_,rfl⟩:=mem_map.mp m
   exact Ug y
  ·simp only [mem_cons,not_mem_nil,or_false] at m
   rcases m with rfl | rfl <;> decide
 refine wpN (λs=>∃ t W st,TOk t W/\t.length<=121/\W.length<=6006/\st[0]? = some (W.map wiV)/\At st (tBo 0 t (some (.ints l)) none none none) s) ?_ ?_
 ·refine wpB (wpB (wpB (wpB (wpB (wpL B rfl (KtI ?_))))))
  refine wpR (KtI ?_)
  refine Py (aQ hl (by decide)) (KtI ?_)
  refine wpB ?_
  refine wpNL (by decide:2<=big) (KtI ?_)
  refine TW (x:=(l.map nnI).map .int) (y:=[.int 45227,.int 16811009]) rfl rfl (by rw [length_append,length_map,length_map];exact aQ (Nat.add_le_add_right hl 2) (by decide)) ?_
  rw [show (l.map nnI).map PV.int++[.int 45227,.int 16811009]=(l.map nnI++[45227,16811009]).map .int by rw [map_append];rfl]
  generalize l.map nnI++[45227,16811009]=O at lO nO
  refine KtI (HY▸KtI (GC (P:=Blt 0 3 (O.map .int) (some (.ints l))) (n:=O.length) (λk=>.int (O.getD k 0)) ?_ (by have:=BO;lia) (λk s z lt=>?_) (λs z=>?_) (λk L st z lt=>LB nO lt (by lia) z) λs z=>?_))
  ·exact ⟨[],[],_,⟨(λU m=>(by cases m)),λU m=>(by cases m)⟩,aP _,aP _,⟨rfl,rfl,by decide⟩,.mk L rfl B⟩
  ·obtain ⟨_,_,_,_,_,_,os,L,rfl,_⟩:=z
   exact Pj os.ho lt
  ·obtain ⟨_,_,_,_,_,_,os,L,rfl,_⟩:=z
   exact RO os.ho
  ·obtain ⟨t,W,st,ok,tl,wl,os,a⟩:=z
   exact ⟨t,W,st,ok,tl,by lia,os.hw,a⟩
 clear B
 rintro _ ⟨t,W,st,tok,tl',wl,hw,L,rfl,B⟩
 have tl:t.length<=1000:=aQ tl' (by decide)
 have tb:t.length<=big:=aQ tl (by decide)
 have sc:=tok.sc
 have ws:=(bf.mp hw).1
 refine wpA (st++[[]]) (tLw (some (.ints l)) t 0 none none (some (.lst st.length)) none none none none none none) (by walk_at "wp";exact (by decide:0<=big);walk_at "wp";exact ⟨rfl,(B.set 13 _ |> At.mk _ rfl)⟩) λL B=>?_
 have h0:Tst (st++[[]]) t 0 st.length W []:=⟨DV hw,BB,Nat.ne_of_lt ws⟩
 generalize st.length=d at h0 B
 generalize st++[[]]=st1 at h0 B
 refine wpN (λs=>∃ T st',T.length=t.length+1/\FV t T/\Tst st' t 0 d W T/\At st' (tLw (some (.ints l)) t 0 none none (some (.lst d)) none none none none none none) s) ?_ ?_
 ·walk_at "wp"
  ·exact tb
  rw [show ((t.length:Nat):Int)+1=((t.length+1:Nat):Int) from rfl,Dv (by lia)]
  refine KtI (GC (P:=λk s=>∃ T st',T.length=k/\(∀ p,p<k->∃ y,T[p]? = some y/\Sr t p y)/\Tst st' t 0 d W T/\At st' (tLw (some (.ints l)) t 0 none none (some (.lst d)) none none none none none none) s) (n:=t.length+1) (λk=>.int k) ⟨[],st1,rfl,λU h=>absurd h (bv _),h0,.mk L rfl B⟩ (by have:=BO;lia) (λk s U lt=>Ez lt) (λs U=>EA) (λk L st' z lk=>?_) λs z=>?_)
  ·obtain ⟨T,st2,hT,ad,h,_,e,B⟩:=z
   cases e
   refine wp_mono (Pz h tl sc (Nat.le_of_lt_succ lk) hT (B.set 14 (.int (k:Nat)))) (λf s z=>⟨z.1,?_⟩) λU U z=>z
   obtain ⟨_,y,st3,ty,h3,a⟩:=z
   refine ⟨T++[y],st3,by rw [length_append,hT];rfl,λp lp=>?_,h3,a⟩
   by_cases q:p<k
   ·obtain ⟨y',e1,e2⟩:=ad p q
    exact ⟨y',by rw [getElem?_append_left (by lia)];exact e1,e2⟩
   ·obtain rfl:p=k:=by lia
    exact ⟨y,by rw [getElem?_append_right (by lia),hT,Nat.sub_self];rfl,ty⟩
  ·obtain ⟨T,st2,hT,ad,h,a⟩:=z
   exact ⟨T,st2,hT,λp lp=>ad p (Nat.lt_succ_of_le lp),h,a⟩
 clear B h0
 rintro _ ⟨T,st,hT,all,h,L,rfl,B⟩
 refine wpN (λs=>∃ st',Tst st' t 0 d W T/\At st' (tLw (some (.ints l)) t 0 none none (some (.lst d)) none none none none none none) s) ?_ ?_
 ·refine wpB (wpB (wpL B rfl (KtI (HY▸KtI ?_))))
  refine Uh (λk s=>∃ st',Tst st' t 0 d W T/\At st' (tLw (some (.ints l)) t 0 none none (some (.lst d)) none none none none none none) s) W.length (λk=>wiV (W.getD k (0,0,[],false))) ⟨st,h,.mk L rfl B⟩ (by have:=BO;lia) (λk s z lt=>?_) (λs z=>?_) (λk s z lt=>?_) λs z=>z
  ·obtain ⟨st',h',L,rfl,_⟩:=z
   exact Ui h'.hw lt
  ·obtain ⟨st',h',L,rfl,_⟩:=z
   exact LD h'.hw
  ·obtain ⟨st',h',L,rfl,B⟩:=z
   have m:W.getD k (0,0,[],false)∈W:=by rw [getD_eq_getElem?_getD,getElem?_eq_getElem lt];exact getElem_mem lt
   obtain ⟨it,_⟩:=tok.it _ m
   generalize W.getD k (0,0,[],false)=y at it
   obtain ⟨a,e,n,b⟩:=y
   refine VL ?_
   exact J8 it h' all tl sc it.le (by lia) ((((B.set 14 _).set 15 _).set 7 _).set 11 _)
 clear B h
 rintro _ ⟨st,h,L,rfl,B⟩
 obtain ⟨y,hy,ty⟩:=all t.length (aR _)
 have yT:=(bf.mp hy).1
 have yn:y = .none:=by
  rcases ty with ⟨e,n,r,rfl⟩ | ⟨rfl,_⟩
  ·have:=r.le (aR _);lia
  ·rfl
 subst yn
 refine A1 (AD (c:=false) ?_ (λq=>(by cases q)) λU=>wpR (KnI ?_))
 ·walk_at "wp"
  ·exact tb
  refine CN (AM (by lia)) h.hd (FL yT) hy ?_
  walk_at "wp"
  refine Ss ?_
  walk_at "wp"
  exact ⟨rfl,rfl⟩
 refine wpN (λU=>True) ?_ ?_
 ·walk_at "wp"
  ·exact tb
  rw [Dv (by lia)]
  refine KtI (GC (P:=λk s=>∃ st',Tst st' t 0 d W T/\At st' (tLw (some (.ints l)) t 0 none none (some (.lst d)) none none none none none none) s) (n:=t.length) (λk=>.int k) ⟨st,h,.mk L rfl B⟩ (by have:=BO;lia) (λk s U lt=>Ez lt) (λs U=>EA) (λk L st' z lk=>?_) λs z=>trivial)
  obtain ⟨st2,h,_,e,B⟩:=z
  cases e
  exact M2 h all tl sc lk (B.set 14 (.int (k:Nat)))
 ·intro s _
  obtain ⟨L,st⟩:=s
  exact wpB (wpR (KtI (wpR rfl)))
theorem plain_law10 (l:List Int)(hl:l.length<=63):∃ K ps',IW K ⟨λi=>([PV.ints l])[i]?,[]⟩ = .ok (.ret (.bool true)) ps':=by
 have h:=M3 hl
 unfold wp loc0 at h
 refine ⟨Kx,?_⟩
 cases q:IW Kx ⟨λi=>([PV.ints l])[i]?,[]⟩ with
 | ok f s=>rw [q] at h;exact ⟨s,by rw [show f = .ret (.bool true) from h]⟩
 | ex e s=>rw [q] at h;exact h.elim
 | stuck=>rw [q] at h;exact h.elim
end Mi
end
end
theorem PySem.Challenge.cw_kp0046_10_holds : PySem.Challenge.rw_kp0046_10.Holds := by
  exact Mi.holds10 Mi.plain_law10
