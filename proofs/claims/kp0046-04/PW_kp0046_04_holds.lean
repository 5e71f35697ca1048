import PyProof.Rows.All
import Wide.All
import OpenK.AllK
import Wide.FinOn
import PyProof.InstEq
import PyProof.NsDelKeeps
import PyProof.ExcStrAll.ValueError
import PyProof.ExcBaseAll.ValueError
import PyProof.ExcStrCall
import PyProof.FString4
import KE.KIntText
import PyProof.ListStr
import PyProof.ListCopy
import PyProof.ListRange
import KE.KNest
import PyProof.WalkInts
import PyProof.StrCalls
import PyProof.SeqI3
import PySem.Challenge.RW_kp0046_04
set_option Elab.async false
set_option linter.all false
set_option tactic.hygienic false
set_option bootstrap.genMatcherCode false
set_option compiler.extract_closed false
set_option genSizeOf false
set_option genInjectivity false
set_option genCtorIdx false
set_option backward.linearNoConfusionType false
section
local macro_rules (kind := Lean.Parser.Command.declaration)
  | s=>do
    unless s.getHeadInfo matches .original .. do Lean.Macro.throwUnsupported
    let s:=s.setHeadInfo .none
    if s[0].getArgs.any (!·.isNone) then return s
    let f i n k:=s.setArg 0 (s[0].setArg i (.node .none `null #[.node .none k #[.atom .none n]]))
    if s[1].isOfKind `Lean.Parser.Command.theorem then return f 2 "private" `Lean.Parser.Command.private
    if s[1].isOfKind `Lean.Parser.Command.definition||s[1].isOfKind `Lean.Parser.Command.abbrev then return f 4 "noncomputable" `Lean.Parser.Command.noncomputable
    return s
open List (Perm all_cons all_eq_true any_eq_true append_assoc append_nil cons_append cons_ne_nil drop_left drop_nil drop_zero eq_nil_of_length_eq_zero filterMap_cons filter_append filter_congr filter_cons find?_cons flatten_append flatten_cons foldl_cons forIn_cons forIn_nil getD_eq_getElem?_getD getElem?_append_left getElem?_append_right getElem?_drop getElem?_eq_getElem getElem?_eq_none getElem?_map getElem?_set_ne isEmpty_iff isEmpty_nil length length_append length_cons length_drop length_eq_zero_iff length_filter_le length_map length_range length_take lookup lookup_cons map map_append map_cons map_nil mem_append mem_append_left mem_append_right mem_cons mem_cons_of_mem mem_cons_self mem_map mem_of_getElem? mem_range mem_singleton mem_singleton_self nil_append nodup_append nodup_cons nodup_nil of_mem_zip prefix_append prefix_refl range range' range_succ replicate size_toArray take_append_drop take_length take_nil take_succ)
open Bool (and_eq_true and_eq_true_iff false_eq_true not_eq_true' or_eq_false_iff or_eq_true)
open PySem.Heap (ExtBut get?_push_of_some get?_push_size get?_some_iff get?_update_other lt_size)
namespace Mi
def aP:=@Nat.zero_le
def aQ:=@Nat.le_trans
def aR:=@Nat.le_refl
def aS:=@Nat.le_of_eq
def aT:=@Option.some.inj
def aU:=@Option.map_eq_some_iff
def aV:=@Option.bind_eq_some_iff
def aW:=@PySem.wpAny_mono
def aX:=@of_decide_eq_true
def aY:=@Nat.lt_trans
def aZ:=@Option.isSome_iff_exists
def ba:=@List.getElem?_eq_some_iff
def bc:=@Nat.le_antisymm
def be:=@PySem.wpAny_holding
def bf:=@PySem.wpAny_bind
def bg:=@PySem.wpAny_pure
def bh:=@Nat.lt_irrefl
def bj:=@Nat.min_eq_left
def bk:=@Nat.lt_of_lt_of_le
def bo:=@Bool.false_ne_true
def bp:=@Nat.lt_succ_self
def bq:=@List.getElem?_eq_none_iff
def br:=@Nat.le_of_lt
def bv:=@beq_eq_false_iff_ne
def bw:=@Nat.not_lt_zero
def bx:=@Nat.lt_of_le_of_lt
def bz:=@Nat.le_add_right
def bA:=@Nat.succ_le_succ
def bB:=@Nat.succ_le_of_lt
def lnO {V:Type}(f:V->V->V):List V->List V
  | y::x::t=>f x y::t
  | s=>s
def lnF {V:Type}(f:V->V->V)(v:Nat->V)(s:List V)(l:List Nat):List V:=l.foldl (λs k=>cond (Nat.beq k 0) (lnO f s) (v k::s)) s
def lnV (c:List Nat)(k:Nat):Nat:=cond (Nat.beq (k % 2) 0) (c.getD (k / 2 - 1) 0) (k / 2)
def lnX (c:List Nat)(l:List Nat):Nat:=(lnF (λx y=>x+y) (lnV c) [] l).headD 0
def lnE:List Nat->List Nat->Nat
  | a::x,b::c=>a*b+lnE x c
  | _,_=>0
def lnP:List Nat->List Nat->List Nat
  | a::x,b::y=>(a+b)::lnP x y
  | [],y=>y
  | x,[]=>x
def lnQ (k:Nat):List Nat:=cond (Nat.beq (k % 2) 0) (replicate (k / 2 - 1+1) 0++[1]) [k / 2]
def lnY (l:List Nat):List Nat:=(lnF lnP lnQ [] l).headD []
def lnG:List Nat->List Nat->Bool
  | _,[]=>true
  | [],b::y=>Nat.beq b 0&&lnG [] y
  | a::x,b::y=>Nat.ble b a&&lnG x y
def lnS (f:List Nat × List Nat->List Nat)(g:List Nat)(l:List (List Nat × List Nat)):List Nat:=l.foldr (λp s=>lnP (lnY (f p)) s) (lnY g)
def lnH (c:List Nat)(g:List Nat × List Nat)(l:List (List Nat × List Nat)):Prop:=l.foldr (λp P=>lnX c p.1<=lnX c p.2->P) (lnX c g.1<=lnX c g.2)
theorem lnN (x:List Nat):lnE x []=0:=by cases x <;> rfl
theorem MQ:∀ x y c,lnE (lnP x y) c=lnE x c+lnE y c
  | x,y,[]=>by rw [lnN,lnN,lnN]
  | a::x,b::y,d::c=>by
    show (a+b)*d+lnE (lnP x y) c=a*d+lnE x c+(b*d+lnE y c)
    rw [MQ,Nat.add_mul,Nat.add_assoc,Nat.add_assoc,Nat.add_left_comm (b*d)]
  | [],[],_::_=>rfl
  | [],_::_,_::_=>(Nat.zero_add _).symm
  | _::_,[],_::_=>rfl
theorem TJ:∀ i c,lnE (replicate i 0++[1]) c=c.getD i 0
  | i,[]=>lnN _
  | 0,x::c=>(congr (congrArg _ (Nat.one_mul x)) rfl).trans (Nat.add_zero x)
  | i+1,x::c=>by
    show 0*x+lnE (replicate i 0++[1]) c=c.getD i 0
    rw [TJ,Nat.zero_mul,Nat.zero_add]
theorem Va {V β:Type}{f:V->V->V}{v:Nat->V}{f':β->β->β}{v':Nat->β}(h:V->β)(hf:∀ a b,h (f a b)=f' (h a) (h b))(hv:∀ k,h (v k)=v' k)(l:List Nat):∀ (s:List V),(lnF f v s l).map h=lnF f' v' (s.map h) l:=by
  induction l with
  | nil=>exact λ_=>rfl
  | cons k l ih=>
    intro s
    refine (ih _).trans (congrArg (lnF f' v' · l) ?_)
    show (cond (Nat.beq k 0) (lnO f s) (v k::s)).map h=cond (Nat.beq k 0) (lnO f' (s.map h)) (v' k::s.map h)
    cases Nat.beq k 0 with
    | true=>
      match s with
      | y::x::t=>exact congrArg (·::t.map h) (hf x y)
      | [y]=>rfl
      | []=>rfl
    | false=>exact congrArg (·::s.map h) (hv k)
theorem lnZ {l:List (List Nat)}{m c:List Nat}(h:l.map (lnE · c)=m):lnE (l.headD []) c=m.headD 0:=by
  subst h
  cases l <;> rfl
theorem MR (c l:List Nat):lnE (lnY l) (1::c)=lnX c l:=
  lnZ (Va (s:=[]) (lnE · (1::c)) (λa b=>MQ a b _) (λk=>by
    unfold lnQ lnV
    cases Nat.beq (k % 2) 0 with
    | true=>exact (Nat.zero_add _).trans (TJ _ _)
    | false=>exact Nat.mul_one _) l)
theorem Pm:∀ x y c,lnG x y=true->lnE y c<=lnE x c
  | _,y,[],_=>by rw [lnN];exact aP _
  | _,[],_::_,_=>aP _
  | [],b::y,d::c,h=>by
    have h:=and_eq_true_iff.mp h
    show b*d+lnE y c<=0
    rw [Nat.eq_of_beq_eq_true h.1,Nat.zero_mul,Nat.zero_add]
    exact aQ (Pm [] y c h.2) (aR 0)
  | a::x,b::y,d::c,h=>by
    have h:=and_eq_true_iff.mp h
    exact Nat.add_le_add (Nat.mul_le_mul_right d (Nat.le_of_ble_eq_true h.1)) (Pm x y c h.2)
theorem Vb (c:List Nat)(g:List Nat × List Nat)(l:List (List Nat × List Nat)):∀ (A B:Nat),A<=B->B+lnE (lnS Prod.snd g.1 l) (1::c)<=A+lnE (lnS Prod.fst g.2 l) (1::c)->lnH c g l:=by
  induction l with
  | nil=>
    intro A B h k
    have k:B+lnE (lnY g.1) (1::c)<=A+lnE (lnY g.2) (1::c):=k
    rw [MR,MR] at k
    exact Nat.le_of_add_le_add_left (aQ k (Nat.add_le_add_right h _))
  | cons p r ih=>
    intro A B h k q
    have k:B+lnE (lnP (lnY p.2) (lnS Prod.snd g.1 r)) (1::c)<=A+lnE (lnP (lnY p.1) (lnS Prod.fst g.2 r)) (1::c):=k
    rw [MQ,MQ,MR,MR,<- Nat.add_assoc,<- Nat.add_assoc] at k
    exact ih _ _ (Nat.add_le_add h q) k
theorem la (c:List Nat)(l:List (List Nat × List Nat))(g:List Nat × List Nat)(h:true=lnG (lnS Prod.fst g.2 l) (lnS Prod.snd g.1 l)):lnH c g l:=
  Vb c g l 0 0 (aR _) (Nat.add_le_add_left (Pm _ _ (1::c) h.symm) 0)
theorem lcS (a b:Nat):a<=a - b+b:=Nat.sub_le_iff_le_add.mp (aR _)
theorem lcC {a b:Nat}(h:b<=a):a - b+b<=a:=aS (Nat.sub_add_cancel h)
end Mi
nonrec theorem Mi.hideG {G:Prop}(h:∀ P:Prop,(G->P)->P):G:=h G λx=>x
local macro_rules | `(tactic| obtain $p:rcasesPatMed := $e) => do
  if p.raw[0][0][1].getNumArgs<7 then Lean.Macro.throwUnsupported
  `(tactic| (refine Mi.hideG fun P k=>?_;rcases $e:term with $p <;> (refine k ?_;clear k P)))
local macro_rules | `(tactic| cases $e:ident) => do
  let r:=Lean.mkIdent `rfl
  `(tactic| first | (exfalso;injection $e:ident;done) | obtain $r:ident:=$e:ident | (injection $e:ident with a b;cases a <;> cases b) | (injection $e:ident with a;cases a) | cases ($e))
section
open PySem PySem.W PySem.Calls PyProof.Rows
open PySem.Sem (wp)
set_option maxRecDepth 10000
namespace Mh
abbrev Kb {V β:Type}(M:Model)(A:Around)(f:V->Sem β)(Q:β->Shared->Prop)(E:Value->Shared->Prop)(a:V)(s:Shared):Prop:=wpAny M A (f a) Q E s
theorem KbI {V β:Type}{M:Model}{A:Around}{f:V->Sem β}{Q:β->Shared->Prop}{E:Value->Shared->Prop}{a:V}{s:Shared}(h:wpAny M A (f a) Q E s):Kb M A f Q E a s:=h
theorem wbK {V β:Type}{M:Model}{A:Around}{m:Sem V}{f:V->Sem β}{Q:β->Shared->Prop}{E:Value->Shared->Prop}{s:Shared}(h:wpAny M A m (Kb M A f Q E) E s):wpAny M A (m >>= f) Q E s:=wpAny_bind h
structure SX where
 sh:SharedT
 gh:List (Addr × List Str)
inductive Lf where
 | fin (f:PySem.Fin)
 | exc (x:Value)
 | susp (v:Value) (g:Bool) (l:List Value) (k:Resume->Sem PySem.Fin)
def Ay (M:Model)(Γ:Ctx)(p:Pos)(t:Sem PySem.Fin)(s:Shared):Lf->Pos->Shared->Prop
 | .fin f,p',s'=>∀ Q E,Q f p' s'->wp M Γ t Q E p s
 | .exc x,p',s'=>∀ Q E,E x p' s'->wp M Γ t Q E p s
 | .susp v g l k,p',s'=>Runs M Γ p t [] s (.susp v g l k Γ.code p' []) s'
inductive Sp where
 | no
 | loop (a:Addr) (it:Value)
 | or (a b:Addr)
 | sub (a b:Addr)
def IF:Value->Option Addr
 | .ref a=>some a
 | _=>none
def spB (n:Nat):List Value->Sp
 | [x,it]=>match IF x with
  | some a=>match Nat.beq n 589010082235415537506245985091020404 with
   | true=>.loop a it
   | false=>match IF it with
    | some b=>match Nat.beq n 128106689474256730729217500516147295079 with
     | true=>.or a b
     | false=>match Nat.beq n 32795229551939066288708134027670812914535 with
      | true=>.sub a b
      | false=>.no
    | none=>.no
  | none=>.no
 | _=>.no
def spOf (c:Code):Sp:=match c with
 | .builtin id args=>match args with
  | ⟨pos,kw⟩=>match kw with
   | []=>spB (code id) pos
   | _=>.no
 | _=>.no
structure Orc where
 add:Ctx->Pos->Addr->Str->Tok->SX->Option (Pos × SX)
 or:Ctx->Pos->Addr->Addr->SX->Option (Value × SX)
 sub:Ctx->Pos->Addr->Addr->SX->Option (Value × SX)
 inv:SX->Prop
def Pn (a:Addr):List (Addr × List Str)->Bool
 | []=>false
 | x::r=>match Nat.beq x.1 a with
  | true=>true
  | false=>Pn a r
def TK:End->Option Result
 | .ret r=>some r
 | _=>none
def Vc:Lf->Option Code
 | .fin (.again c)=>some c
 | _=>none
def bare:Resume->Bool
 | .send .none=>true
 | _=>false
def aft (ev:GenResult->SX->Option (Lf × Pos × SX))(g:Nat):End × SX->Option (Lf × Pos × SX)
 | (e,⟨⟨T,N,life,gens,drawn,toks,os⟩,gh⟩)=>cond e.quiet (ev e.result ⟨⟨T,N,life,gens.setIfInBounds g e.genState,drawn,toks,os⟩,gh⟩) none
def Vd (M:Model)(rec:Ctx->Pos->SX->Option (End × SX))(ev:Ctx->Pos->Sem PySem.Fin->SX->Option (Lf × Pos × SX))(Γ:Ctx)(p:Pos)(t:Sem PySem.Fin):SX->Option (Lf × Pos × SX)
 | ⟨⟨T,N,life,gens,drawn,toks,os⟩,gh⟩=>match t with
  | .pure f=>some (.fin f,p,⟨⟨T,N,life,gens,drawn,toks,os⟩,gh⟩)
  | .raise x=>some (.exc x,p,⟨⟨T,N,life,gens,drawn,toks,os⟩,gh⟩)
  | .yield v g l k=>some (.susp v g l k,p,⟨⟨T,N,life,gens,drawn,toks,os⟩,gh⟩)
  | .rule _ k=>ev Γ p (k ()) ⟨⟨T,N,life,gens,drawn,toks,os⟩,gh⟩
  | .at p' k=>ev Γ p' (k ()) ⟨⟨T,N,life,gens,drawn,toks,os⟩,gh⟩
  | .load a _ k=>cond (Nat.blt a N) ((T.get a).bind λo=>(alive o).bind λo'=>ev Γ p (k o') ⟨⟨T,N,life,gens,drawn,toks,os⟩,gh⟩) none
  | .update a _ f k=>cond (Pn a gh) none (cond (Nat.blt a N) ((T.get a).bind λo=>(alive o).bind λU=>ev Γ p (k ()) ⟨⟨T.set a f,N,life,gens,drawn,toks,os⟩,gh⟩) none)
  | .alloc o k=>match N with
   | 0=>none
   | j+1=>cond ((T.ins (j+1) o).get (j+1)).isSome (ev Γ p (k (j+1)) ⟨⟨T.ins (j+1) o,j+1+1,life,gens,drawn,toks,os⟩,gh⟩) none
  | .loadIfAlive a k=>cond (Nat.blt a N) ((T.get a).bind λo=>ev Γ p (k (alive o)) ⟨⟨T,N,life,gens,drawn,toks,os⟩,gh⟩) (ev Γ p (k none) ⟨⟨T,N,life,gens,drawn,toks,os⟩,gh⟩)
  | .point _ k=>ev Γ p (k ()) ⟨⟨T,N,life,gens,drawn,toks,os⟩,gh⟩
  | .fresh k=>ev Γ p (k toks) ⟨⟨T,N,life,gens,drawn,toks+1,os⟩,gh⟩
  | .ask k=>ev Γ p (k ⟨M.prog,M.w.params⟩) ⟨⟨T,N,life,gens,drawn,toks,os⟩,gh⟩
  | .handled own k=>ev Γ p (k (if own then Γ.own else Γ.handled)) ⟨⟨T,N,life,gens,drawn,toks,os⟩,gh⟩
  | .stack k=>ev Γ p (k ((Γ.code,p)::Γ.below)) ⟨⟨T,N,life,gens,drawn,toks,os⟩,gh⟩
  | .thread k=>ev Γ p (k 0) ⟨⟨T,N,life,gens,drawn,toks,os⟩,gh⟩
  | .genState g k=>gens[g]?.bind λst=>ev Γ p (k st.seen) ⟨⟨T,N,life,gens,drawn,toks,os⟩,gh⟩
  | .newGen c k=>ev Γ p (k gens.size) ⟨⟨T,N,life,gens.push (.fresh c),drawn,toks,os⟩,gh⟩
  | .call c h _ _ k=>(rec (Γ.enter c h p) p ⟨⟨T,N,life,gens,drawn,toks,os⟩,gh⟩).bind λr=>(TK r.1).bind λv=>ev Γ p (k v) r.2
  | .resume g r _ k=>gens[g]?.bind λst=>match st with
   | .fresh c=>cond (bare r) ((rec (Γ.wake c p) p ⟨⟨T,N,life,gens.setIfInBounds g .running,drawn,toks,os⟩,gh⟩).bind (aft (λv=>ev Γ p (k v)) g)) none
   | .suspended Y5 _ v5 Z5 fs _=>cond fs.isEmpty ((ev (Γ.wake v5 p) Z5 (Y5 r) ⟨⟨T,N,life,gens.setIfInBounds g .running,drawn,toks,os⟩,gh⟩).bind λx=>(Vc x.1).bind λc=>
     cond c.quiet ((rec ((Γ.wake v5 p).goto c) x.2.1 x.2.2).bind (aft (λv=>ev Γ p (k v)) g)) none) none
   | _=>none
  | _=>none
def evW (M:Model)(rec:Ctx->Pos->SX->Option (End × SX)):Nat->Ctx->Pos->Sem PySem.Fin->SX->Option (Lf × Pos × SX)
 | 0=>λU U U U=>none
 | n+1=>Vd M rec (evW M rec n)
def IG:Option Value->Sem PySem.Fin
 | none=>.pure (.done .next)
 | some v=>.pure (.done (.ret v))
def strOf:Value->Option (Str × Tok)
 | .str x u=>some (x,u)
 | _=>none
def Ve (M:Model)(O:Orc)(rec:Ctx->Pos->SX->Option (End × SX))(ev:Ctx->Pos->Sem PySem.Fin->SX->Option (Lf × Pos × SX))(Γ:Ctx)(p:Pos)(S:SX):Sp->Option (End × SX)
 | .no=>(ev Γ p (M.den Γ.code) S).bind λr=>match r.1 with
  | .fin f=>match f with
   | .done f=>some (.ret (.ok f),r.2.2)
   | .again c=>cond c.quiet (rec (Γ.goto c) r.2.1 r.2.2) none
  | .exc x=>some (.ret (.error x),r.2.2)
  | .susp v g l k=>some (.susp v g l k Γ.code r.2.1 [],r.2.2)
 | .loop a it=>(ev Γ p ((pyNext it).bind IG) S).bind λr=>match r.1 with
  | .fin f=>match f with
   | .done f=>match f with
    | .next=>some (.ret (.ok (.ret .none)),r.2.2)
    | .ret v=>(strOf v).bind λx=>(O.add Γ r.2.1 a x.1 x.2 r.2.2).bind λq=>cond Γ.code.quiet (rec (Γ.goto Γ.code) q.1 q.2) none
    | _=>none
   | _=>none
  | _=>none
 | .or a b=>(O.or Γ p a b S).bind λr=>some (.ret (.ok (.ret r.1)),r.2)
 | .sub a b=>(O.sub Γ p a b S).bind λr=>some (.ret (.ok (.ret r.1)),r.2)
def evC (M:Model)(O:Orc)(m:Nat):Nat->Ctx->Pos->SX->Option (End × SX)
 | 0=>λU U U=>none
 | d+1=>λΓ p S=>Ve M O (evC M O m d) (evW M (evC M O m d) m) Γ p S (spOf Γ.code)
structure Orc.Ok (O:Orc)(M:Model):Prop where
 up:∀ {T N life gens drawn toks os gh a f},O.inv ⟨⟨T,N,life,gens,drawn,toks,os⟩,gh⟩->Pn a gh=false->O.inv ⟨⟨T.set a f,N,life,gens,drawn,toks,os⟩,gh⟩
 new:∀ {T N life gens drawn toks os gh o},O.inv ⟨⟨T,N,life,gens,drawn,toks,os⟩,gh⟩->((T.ins N o).get N).isSome=true->O.inv ⟨⟨T.ins N o,N+1,life,gens,drawn,toks,os⟩,gh⟩
 rest:∀ {T N life gens drawn toks os gh gens' toks'},O.inv ⟨⟨T,N,life,gens,drawn,toks,os⟩,gh⟩->O.inv ⟨⟨T,N,life,gens',drawn,toks',os⟩,gh⟩
 add:∀ {a x u S q S'} (Γ:Ctx) (p:Pos),O.inv S->O.add Γ p a x u S=some (q,S')->(∀ (Q:Bool->Pos->Shared->Prop) E,(∀ b,Q b q S'.sh.abs)->wp M Γ (setAdd a (.str x u)) Q E p S.sh.abs)/\O.inv S'
 or:∀ {a b S v S'} (Γ:Ctx) (p:Pos),O.inv S->Γ.code = .builtin "frozenset.__or__" ⟨[.ref a,.ref b],[]⟩->O.or Γ p a b S=some (v,S')->Runs M Γ p (M.den Γ.code) [] S.sh.abs (.ret (.ok (.ret v))) S'.sh.abs/\O.inv S'
 sub:∀ {a b S v S'} (Γ:Ctx) (p:Pos),O.inv S->Γ.code = .builtin "frozenset.__sub__" ⟨[.ref a,.ref b],[]⟩->O.sub Γ p a b S=some (v,S')->Runs M Γ p (M.den Γ.code) [] S.sh.abs (.ret (.ok (.ret v))) S'.sh.abs/\O.inv S'
 loop:∀ a it,M.den (.builtin "set.update.loop" ⟨[.ref a,it],[]⟩)=Builtin.«set.update.loop» ⟨[.ref a,it],[]⟩
theorem Go {id:String}{n:Nat}(s:String)(hs:code s=n)(h:Nat.beq (code id) n=true):id=s:=
 code_inj _ _ ((Nat.eq_of_beq_eq_true h).trans hs.symm)
inductive SpIs (c:Code):Sp->Prop
 | no:SpIs c .no
 | loop {a it} (h:c = .builtin "set.update.loop" ⟨[.ref a,it],[]⟩):SpIs c (.loop a it)
 | or {a b} (h:c = .builtin "frozenset.__or__" ⟨[.ref a,.ref b],[]⟩):SpIs c (.or a b)
 | sub {a b} (h:c = .builtin "frozenset.__sub__" ⟨[.ref a,.ref b],[]⟩):SpIs c (.sub a b)
theorem Cv {x:Value}{a:Addr}(h:IF x=some a):x = .ref a:=by
 cases x with
 | ref b=>cases h;rfl
 | _=>exact (by cases h)
theorem Uc (id:String)(x it:Value):SpIs (.builtin id ⟨[x,it],[]⟩) (spB (code id) [x,it]):=by
 unfold spB
 dsimp only
 cases hx:IF x with
 | none=>exact .no
 | some a=>
  rw [Cv hx]
  dsimp only
  cases h1:Nat.beq (code id) 589010082235415537506245985091020404 with
  | true=>exact .loop (by rw [Go "set.update.loop" (by decide +kernel) h1])
  | false=>
   cases hi:IF it with
   | none=>exact .no
   | some b=>
    rw [Cv hi]
    dsimp only
    cases h2:Nat.beq (code id) 128106689474256730729217500516147295079 with
    | true=>exact .or (by rw [Go "frozenset.__or__" (by decide +kernel) h2])
    | false=>
     cases h3:Nat.beq (code id) 32795229551939066288708134027670812914535 with
     | true=>exact .sub (by rw [Go "frozenset.__sub__" (by decide +kernel) h3])
     | false=>exact .no
theorem RV (c:Code):SpIs c (spOf c):=by
 cases c with
 | builtin id args=>
  obtain ⟨pos,kw⟩:=args
  cases kw with
  | cons=>exact .no
  | nil=>
   cases pos with
   | nil=>exact .no
   | cons x r=>
    cases r with
    | nil=>exact .no
    | cons y r=>
     cases r with
     | nil=>exact Uc id x y
     | cons=>exact .no
 | _=>exact .no
theorem Dk {M:Model}{Γ:Ctx}{p:Pos}{t:Sem PySem.Fin}{s:Shared}{r:Result}{s':Shared}
  (h:wp M Γ t (Sem.finPost M Γ (λr' s''=>r'=r/\s''=s')) (λe U s''=>(Except.error e:Result)=r/\s''=s') p s):Runs M Γ p t [] s (.ret r) s':=by
 obtain ⟨r',s'',a,rfl,rfl⟩:=(Sem.wp_iff_runs M Γ t _ p s).mp h
 exact a
variable {M:Model}{Γ:Ctx}{p p':Pos}{s s':Shared}{lf:Lf}
theorem Ay.rule {k}{tag}(h:Ay M Γ p (k ()) s lf p' s'):Ay M Γ p (.rule tag k) s lf p' s':=by
 cases lf with
 | fin f=>exact λQ E q=>h Q E q
 | exc x=>exact λQ E q=>h Q E q
 | susp=>exact Runs.rule h
theorem Ay.at {q}{k}(h:Ay M Γ q (k ()) s lf p' s'):Ay M Γ p (.at q k) s lf p' s':=by
 cases lf with
 | fin f=>exact λQ E q=>h Q E q
 | exc x=>exact λQ E q=>h Q E q
 | susp=>exact Runs.at h
theorem Ay.point {l}{k}(h:Ay M Γ p (k ()) s lf p' s'):Ay M Γ p (.point l k) s lf p' s':=by
 cases lf with
 | fin f=>exact λQ E q=>h Q E q
 | exc x=>exact λQ E q=>h Q E q
 | susp=>exact Runs.point h
theorem Ay.load {a part o}{k}(e:s.heap.get? a=some o)(h:Ay M Γ p (k o) s lf p' s'):Ay M Γ p (.load a part k) s lf p' s':=by
 cases lf with
 | fin f=>exact λQ E q=>⟨o,e,h Q E q⟩
 | exc x=>exact λQ E q=>⟨o,e,h Q E q⟩
 | susp=>exact Runs.load e h
theorem Ay.update {a part f}{k}(e:(s.heap.get? a).isSome)(h:Ay M Γ p (k ()) { s with heap:=s.heap.update a f } lf p' s'):Ay M Γ p (.update a part f k) s lf p' s':=by
 cases lf with
 | fin f=>exact λQ E q=>⟨e,h Q E q⟩
 | exc x=>exact λQ E q=>⟨e,h Q E q⟩
 | susp=>exact Runs.update e h
theorem Ay.alloc {o}{k}(h:Ay M Γ p (k s.heap.objs.size) { s with heap:=s.heap.push o } lf p' s'):Ay M Γ p (.alloc o k) s lf p' s':=by
 cases lf with
 | fin f=>exact λQ E q=>h Q E q
 | exc x=>exact λQ E q=>h Q E q
 | susp=>exact Runs.alloc h
theorem Ay.loadIfAlive {a}{k}(h:Ay M Γ p (k (s.heap.get? a)) s lf p' s'):Ay M Γ p (.loadIfAlive a k) s lf p' s':=by
 cases lf with
 | fin f=>exact λQ E q=>h Q E q
 | exc x=>exact λQ E q=>h Q E q
 | susp=>exact Runs.loadIfAlive h
theorem Ay.fresh {k}(h:Ay M Γ p (k s.toks) { s with toks:=s.toks+1 } lf p' s'):Ay M Γ p (.fresh k) s lf p' s':=by
 cases lf with
 | fin f=>exact λQ E q=>h Q E q
 | exc x=>exact λQ E q=>h Q E q
 | susp=>exact Runs.fresh h
theorem Ay.ask {k}(h:Ay M Γ p (k ⟨M.prog,M.w.params⟩) s lf p' s'):Ay M Γ p (.ask k) s lf p' s':=by
 cases lf with
 | fin f=>exact λQ E q=>h Q E q
 | exc x=>exact λQ E q=>h Q E q
 | susp=>exact Runs.ask h
theorem Ay.handled {own}{k}(h:Ay M Γ p (k (if own then Γ.own else Γ.handled)) s lf p' s'):Ay M Γ p (.handled own k) s lf p' s':=by
 cases lf with
 | fin f=>exact λQ E q=>h Q E q
 | exc x=>exact λQ E q=>h Q E q
 | susp=>exact Runs.handled h
theorem Ay.stack {k}(h:Ay M Γ p (k ((Γ.code,p)::Γ.below)) s lf p' s'):Ay M Γ p (.stack k) s lf p' s':=by
 cases lf with
 | fin f=>exact λQ E q=>h Q E q
 | exc x=>exact λQ E q=>h Q E q
 | susp=>exact Runs.stack h
theorem Ay.thread {k}(h:Ay M Γ p (k 0) s lf p' s'):Ay M Γ p (.thread k) s lf p' s':=by
 cases lf with
 | fin f=>exact λQ E q=>h Q E q
 | exc x=>exact λQ E q=>h Q E q
 | susp=>exact Runs.thread h
theorem Ay.genState {g st}{k}(e:s.gens[g]? = some st)(h:Ay M Γ p (k st.seen) s lf p' s'):Ay M Γ p (.genState g k) s lf p' s':=by
 cases lf with
 | fin f=>exact λQ E q=>⟨st,e,h Q E q⟩
 | exc x=>exact λQ E q=>⟨st,e,h Q E q⟩
 | susp=>exact Runs.genState e h
theorem Ay.newGen {c}{k}(h:Ay M Γ p (k s.gens.size) { s with gens:=s.gens.push (.fresh c) } lf p' s'):Ay M Γ p (.newGen c k) s lf p' s':=by
 cases lf with
 | fin f=>exact λQ E q=>h Q E q
 | exc x=>exact λQ E q=>h Q E q
 | susp=>exact Runs.newGen h
theorem Ay.call {c h g l r c0}{k}(x:Runs M (Γ.enter c h p) p (M.den c) [] s (.ret r) c0)(y:Ay M Γ p (k r) c0 lf p' s'):Ay M Γ p (.call c h g l k) s lf p' s':=by
 cases lf with
 | fin f=>exact λQ E q=>⟨r,c0,x,y Q E q⟩
 | exc e=>exact λQ E q=>⟨r,c0,x,y Q E q⟩
 | susp=>exact Runs.call x y
theorem Ay.resumeF {g l c y0 c0}{k}(e:s.gens[g]? = some (.fresh c))(x:Runs M (Γ.wake c p) p (M.den c) [] (s.setGen g .running) y0 c0)(q:End.quiet y0=true)
  (y:Ay M Γ p (k y0.result) (c0.setGen g y0.genState) lf p' s'):Ay M Γ p (.resume g (.send .none) l k) s lf p' s':=by
 have W:Wakes M Γ p g (.send .none) s y0.result (c0.setGen g y0.genState):=by
  unfold Wakes;rw [e];exact ⟨y0,c0,x,q,rfl,rfl⟩
 cases lf with
 | fin f=>exact λQ E q=>⟨_,_,W,y Q E q⟩
 | exc e=>exact λQ E q=>⟨_,_,W,y Q E q⟩
 | susp=>exact Runs.resumeFresh e x q y
theorem Ay.resumeS {g r l Y5 s7 v5 Z5 cl y0 c0}{k}(e:s.gens[g]? = some (.suspended Y5 s7 v5 Z5 [] cl))(x:Runs M (Γ.wake v5 p) Z5 (Y5 r) [] (s.setGen g .running) y0 c0)(q:End.quiet y0=true)
  (y:Ay M Γ p (k y0.result) (c0.setGen g y0.genState) lf p' s'):Ay M Γ p (.resume g r l k) s lf p' s':=by
 have W:Wakes M Γ p g r s y0.result (c0.setGen g y0.genState):=by
  unfold Wakes;rw [e];exact ⟨y0,c0,x,q,rfl,rfl⟩
 cases lf with
 | fin f=>exact λQ E q=>⟨_,_,W,y Q E q⟩
 | exc e=>exact λQ E q=>⟨_,_,W,y Q E q⟩
 | susp=>exact Runs.resumeSuspended e x q y
theorem El {t:Sem PySem.Fin}{c:Code}{p' s' e s''}(h:Ay M Γ p t s (.fin (.again c)) p' s')(hq:c.quiet=true)
  (y:Runs M (Γ.goto c) p' (M.den c) [] s' e s''):Runs M Γ p t [] s e s'':=by
 have w:wp M (Γ.over []) t (λa q z=>a = .again c/\q=p'/\z=s') (λU U U=>False) p s:=h _ _ ⟨rfl,rfl,rfl⟩
 obtain ⟨y0,z,a,b⟩:=runs_wrap_of_wp (Γ:=Γ) (fs:=[]) (Φ:=λx z=>x=e/\z=s'') (λa=>.pure a) .raise id id t w
  (λa q z ⟨e1,e2,e3⟩=>by subst e1 e2 e3;exact ⟨e,s'',.again hq y,rfl,rfl⟩) (λU U U h=>h.elim)
 obtain ⟨rfl,rfl⟩:=b
 have:t.wrap (λa=>(.pure a:Sem PySem.Fin)) .raise id id=t:=by
  rw [<- Sem.bind_eq_wrap]
  have:=bind_pure (m:=Sem) t
  exact this
 rwa [this] at a
theorem EL {V β:Type}{a a':V}{b b':β}{C:Prop}(h:some (a,b)=some (a',b'))(k:a'=a->b'=b->C):C:=k (congrArg Prod.fst (Option.some.inj h)).symm (congrArg Prod.snd (Option.some.inj h)).symm
theorem Po {V β γ:Type}{a a':V}{b b':β}{c c':γ}{C:Prop}(h:some (a,b,c)=some (a',b',c'))(k:a'=a->b'=b->c'=c->C):C:=
 k (congrArg Prod.fst (Option.some.inj h)).symm (congrArg (λx=>x.2.1) (Option.some.inj h)).symm (congrArg (λx=>x.2.2) (Option.some.inj h)).symm
theorem A5 {V β:Type}{o:Option V}{f:V->Option β}{b:β}{C:Prop}(h:o.bind f=some b)(k:∀ a,o=some a->f a=some b->C):C:=by
 cases o with
 | none=>cases h
 | some a=>exact k a rfl h
theorem B6 {β:Type}{c:Bool}{x:Option β}{b:β}{C:Prop}(h:cond c x none=some b)(k:c=true->x=some b->C):C:=by
 cases c with
 | false=>cases h
 | true=>exact k rfl h
theorem Pp {β:Type}{c:Bool}{x:Option β}{b:β}{C:Prop}(h:cond c none x=some b)(k:c=false->x=some b->C):C:=by
 cases c with
 | false=>exact k rfl h
 | true=>cases h
theorem retOf_some {e:End}{r:Result}(h:TK e=some r):e = .ret r:=by
 cases e with
 | ret=>cases h;rfl
 | _=>cases h
theorem agOf_some {l:Lf}{c:Code}(h:Vc l=some c):l = .fin (.again c):=by
 cases l with
 | fin f=>cases f with
  | again=>cases h;rfl
  | done=>cases h
 | _=>cases h
theorem bare_is {r:Resume}(h:bare r=true):r = .send .none:=by
 cases r with
 | throw=>cases h
 | send v=>cases v with
  | none=>rfl
  | _=>cases h
def RW (M:Model)(O:Orc)(ev:Ctx->Pos->Sem PySem.Fin->SX->Option (Lf × Pos × SX)):Prop:=∀ (Γ:Ctx) (p:Pos) (t:Sem PySem.Fin) (S:SX) (lf:Lf) (p':Pos) (S':SX),O.inv S->ev Γ p t S=some (lf,p',S') ->
   Ay M Γ p t S.sh.abs lf p' S'.sh.abs/\O.inv S'
def Pq (M:Model)(O:Orc)(rec:Ctx->Pos->SX->Option (End × SX)):Prop:=∀ (Γ:Ctx) (p:Pos) (S:SX) (e:End) (S':SX),O.inv S->rec Γ p S=some (e,S')->Runs M Γ p (M.den Γ.code) [] S.sh.abs e S'.sh.abs/\O.inv S'
section
variable {O:Orc}{rec:Ctx->Pos->SX->Option (End × SX)}{ev:Ctx->Pos->Sem PySem.Fin->SX->Option (Lf × Pos × SX)}
theorem Pr (hO:O.Ok M)(ih:RW M O ev){k:GenResult->Sem PySem.Fin}{g:Nat}{e:End}{Y4:SX}{lf:Lf}{S':SX}(hi:O.inv Y4)(h:aft (λv=>ev Γ p (k v)) g (e,Y4)=some (lf,p',S')) :
  e.quiet=true/\Ay M Γ p (k e.result) (Y4.sh.abs.setGen g e.genState) lf p' S'.sh.abs/\O.inv S':=by
 obtain ⟨⟨T,N,life,gens,drawn,toks,os⟩,gh⟩:=Y4
 exact B6 h λq h=>⟨q,ih _ _ _ _ _ _ _ (hO.rest hi) h⟩
theorem RX (hO:O.Ok M)(hrec:Pq M O rec)(ih:RW M O ev):RW M O (Vd M rec ev):=by
 intro Γ p t S lf p' S' hi h
 obtain ⟨⟨T,N,life,gens,drawn,toks,os⟩,gh⟩:=S
 have nx:∀ {q r x S l},O.inv S->ev q r x S=some (l,p',S')->Ay M q r x S.sh.abs l p' S'.sh.abs/\O.inv S':=λi h=>ih _ _ _ _ _ _ _ i h
 cases t with
 | pure f=>exact Po h λe1 e2 e3=>by subst e1 e2 e3;exact ⟨λQ E q=>q,hi⟩
 | raise x=>exact Po h λe1 e2 e3=>by subst e1 e2 e3;exact ⟨λQ E q=>q,hi⟩
 | «yield» v g l k=>exact Po h λe1 e2 e3=>by subst e1 e2 e3;exact ⟨Runs.yield,hi⟩
 | unsupported | finish | register | fork | await | choose | os=>cases h
 | rule tag k=>exact (nx hi h).imp Ay.rule id
 | «at» q k=>exact (nx hi h).imp Ay.at id
 | point l k=>exact (nx hi h).imp Ay.point id
 | ask k=>exact (nx hi h).imp Ay.ask id
 | handled own k=>exact (nx hi h).imp Ay.handled id
 | stack k=>exact (nx hi h).imp Ay.stack id
 | thread k=>exact (nx hi h).imp Ay.thread id
 | fresh k=>exact (nx (hO.rest hi) h).imp Ay.fresh id
 | newGen c k=>exact (nx (hO.rest hi) h).imp Ay.newGen id
 | genState g k=>exact A5 h λst e h=>(nx hi h).imp (Ay.genState e) id
 | load a q k=>exact B6 h λe h=>A5 h λo g h=>A5 h λo' al h=>(nx hi h).imp (Ay.load ((abs_get (Nat.le_of_ble_eq_true e) g).trans al)) id
 | update a q f k=>
  refine Pp h λz h=>B6 h λe h=>A5 h λo g h=>A5 h λo' al h=>?_
  have y:=nx (hO.up hi z) h
  refine y.imp (λy=>Ay.update (by show ((absHeap T N life).get? _).isSome;rw [abs_get (Nat.le_of_ble_eq_true e) g,al];rfl) ?_) id
  show Ay M Γ p (k ()) ⟨(absHeap T N life).update _ f,gens,drawn,toks,os⟩ _ _ _
  rw [<- absHeap_set g];exact y
 | alloc o k=>
  cases N with
  | zero=>cases h
  | succ N=>
   refine B6 h λe h=>?_
   refine (nx (hO.new hi e) h).imp (λy=>Ay.alloc ?_) id
   show Ay M Γ p (k (absHeap T (N+1) life).objs.size) ⟨(absHeap T (N+1) life).push o,gens,drawn,toks,os⟩ _ _ _
   rw [<- absHeap_ins e,absHeap_size];exact y
 | loadIfAlive a k=>
  have go:∀ x,(absHeap T N life).get? a=x->ev Γ p (k x) ⟨⟨T,N,life,gens,drawn,toks,os⟩,gh⟩=some (lf,p',S')->Ay M Γ p (.loadIfAlive a k) (absHeap T N life |> λhp=>⟨hp,gens,drawn,toks,os⟩) lf p' S'.sh.abs/\O.inv S':=λx e h=>by
   subst e
   exact (nx hi h).imp Ay.loadIfAlive id
  cases e:Nat.blt a N with
  | false=>
   have h:cond (Nat.blt a N) _ _=_:=h
   rw [e] at h
   exact go _ (abs_get_none λq=>by rw [show Nat.blt a N=true from Nat.ble_eq_true_of_le q] at e;cases e) h
  | true=>
   have h:cond (Nat.blt a N) _ _=_:=h
   rw [e] at h
   exact A5 h λo g h=>go _ (abs_get (Nat.le_of_ble_eq_true e) g) h
 | call c hd g l k=>
  refine A5 h λr e h=>A5 h λv ev h=>?_
  obtain ⟨en,S⟩:=r
  cases retOf_some ev
  obtain ⟨x,hi'⟩:=hrec _ _ _ _ _ hi e
  exact (nx hi' h).imp (Ay.call x) id
 | resume g r l k=>
  refine A5 h λst e h=>?_
  cases st with
  | running=>cases h
  | finished=>cases h
  | fresh c=>
   refine B6 h λeb h1=>A5 h1 λen e1 h2=>?_
   cases bare_is eb
   obtain ⟨x,hi'⟩:=hrec _ _ _ _ _ (hO.rest hi) e1
   obtain ⟨eq,a,b⟩:=Pr hO ih hi' h2
   exact ⟨Ay.resumeF e x eq a,b⟩
  | suspended Y5 s7 v5 Z5 fs cl=>
   refine B6 h λeb h1=>A5 h1 λy e1 h2=>A5 h2 λc ec h3=>B6 h3 λhq h4=>A5 h4 λen e2 h5=>?_
   cases fs with
   | cons=>cases eb
   | nil=>
    obtain ⟨lf',q',S''⟩:=y
    cases agOf_some ec
    obtain ⟨x1,i1⟩:=ih _ _ _ _ _ _ _ (hO.rest hi) e1
    obtain ⟨x2,i2⟩:=hrec _ _ _ _ _ i1 e2
    obtain ⟨eq,a,b⟩:=Pr hO ih i2 h5
    exact ⟨Ay.resumeS e (El x1 hq x2) eq a,b⟩
theorem Ps (hO:O.Ok M)(hrec:Pq M O rec)(n:Nat):RW M O (evW M rec n):=by
 induction n with
 | zero=>intro _ _ _ _ _ _ _ _ h;cases h
 | succ n ih=>exact RX hO hrec ih
end
theorem Pt {t:Sem PySem.Fin}{f:Flow}(h:Ay M Γ p t s (.fin (.done f)) p' s'):Runs M Γ p t [] s (.ret (.ok f)) s':=
 Dk (h _ _ ⟨rfl,rfl⟩)
theorem Pu {t:Sem PySem.Fin}{x:Value}(h:Ay M Γ p t s (.exc x) p' s'):Runs M Γ p t [] s (.ret (.error x)) s':=
 Dk (h _ _ ⟨rfl,rfl⟩)
theorem Pv {m:Sem (Option Value)}{f:Flow}(h:Ay M Γ p (m.bind IG) s (.fin (.done f)) p' s')(Q:Option Value->Pos->Shared->Prop)(E)
  (hQ:∀ o,IG o = .pure (.done f)->Q o p' s'):wp M Γ m Q E p s:=by
 have w:=h (λa q z=>a = .done f/\q=p'/\z=s') (λU U U=>False) ⟨rfl,rfl,rfl⟩
 rw [Sem.wp_bind] at w
 refine Sem.wp_mono _ _ _ (λo q z hz=>?_) (λU U U h=>h.elim) _ _ w
 cases o with
 | none=>obtain ⟨e1,rfl,rfl⟩:=(show PySem.Fin.done .next = .done f/\q=p'/\z=s' from hz);exact hQ _ (by rw [<- e1];rfl)
 | some v=>obtain ⟨e1,rfl,rfl⟩:=(show PySem.Fin.done (.ret v) = .done f/\q=p'/\z=s' from hz);exact hQ _ (by rw [<- e1];rfl)
theorem strOf_some {v:Value}{x:Str × Tok}(h:strOf v=some x):v = .str x.1 x.2:=by
 cases v with
 | str=>cases h;rfl
 | _=>cases h
theorem Ud {O:Orc}(hO:O.Ok M)(m:Nat)(d:Nat):Pq M O (evC M O m d):=by
 induction d with
 | zero=>intro _ _ _ _ _ _ h;cases h
 | succ d ih=>
  intro Γ p S e S' hi h
  have w:=Ps hO ih m
  have h:Ve M O (evC M O m d) (evW M (evC M O m d) m) Γ p S (spOf Γ.code)=some (e,S'):=h
  have is:=RV Γ.code
  generalize evW M (evC M O m d) m=ev at h w
  generalize evC M O m d=rec at h ih
  generalize spOf Γ.code=sp at h is
  cases is with
  | no=>
   refine A5 h λr e1 h=>?_
   obtain ⟨lf,p',Y4⟩:=r
   obtain ⟨x,i1⟩:=w _ _ _ _ _ _ _ hi e1
   cases lf with
   | exc x'=>exact EL h λa1 a2=>by subst a1 a2;exact ⟨Pu x,i1⟩
   | susp v g l k=>exact EL h λa1 a2=>by subst a1 a2;exact ⟨x,i1⟩
   | fin f=>
    cases f with
    | done f=>exact EL h λa1 a2=>by subst a1 a2;exact ⟨Pt x,i1⟩
    | again c=>exact B6 h λhq h=>(ih _ _ _ _ _ i1 h).imp (El x hq) id
  | or hc=>
   refine A5 h λr e1 h=>EL h λa1 a2=>?_
   subst a1 a2
   exact hO.or Γ p hi hc e1
  | sub hc=>
   refine A5 h λr e1 h=>EL h λa1 a2=>?_
   subst a1 a2
   exact hO.sub Γ p hi hc e1
  | @loop a it hc=>
   have hden:M.den Γ.code=Builtin.«set.update.loop» ⟨[.ref a,it],[]⟩:=by rw [hc];exact hO.loop a it
   refine A5 h λr e1 h=>?_
   obtain ⟨lf,p',Y4⟩:=r
   obtain ⟨x,i1⟩:=w _ _ _ _ _ _ _ hi e1
   rw [hden]
   cases lf with
   | exc x'=>cases h
   | susp v g l k=>cases h
   | fin f=>
    cases f with
    | again c=>cases h
    | done f=>
     cases f with
     | brk=>cases h
     | cont=>cases h
     | next=>
      refine EL h λa1 a2=>?_
      subst a1 a2
      refine ⟨Dk ?_,i1⟩
      show wp M Γ ((pyNext it).bind _) _ _ p _
      rw [Sem.wp_bind]
      refine Pv x _ _ λo ho=>?_
      cases o with
      | none=>exact ⟨rfl,rfl⟩
      | some v=>cases ho
     | ret v=>
      refine A5 h λy ey h1=>A5 h1 λq2 e2 h2=>B6 h2 λhq h3=>?_
      obtain ⟨y,u⟩:=y
      cases strOf_some ey
      obtain ⟨ha,i2⟩:=hO.add Γ p' i1 e2
      refine (ih _ _ _ _ _ i2 h3).imp (λy'=>El (c:=Γ.code) (p':=q2.1) (s':=q2.2.sh.abs) ?_ hq y') id
      intro Q E hQ
      show wp M Γ ((pyNext it).bind _) _ _ p _
      rw [Sem.wp_bind]
      refine Pv x _ _ λo ho=>?_
      cases o with
      | none=>cases ho
      | some v=>
       cases ho
       show wp M Γ ((holding [.str y u] (setAdd a (.str y u))).bind _) _ _ p' _
       rw [Sem.wp_bind,Sem.wp_holding]
       refine ha _ _ λb=>?_
       rw [hc] at hQ
       exact hQ
def nx (m i:Nat):Nat:=(i*5+1) % m
def orb (m:Nat):Nat->Nat->Nat
 | 0,i=>i
 | n+1,i=>orb m n (nx m i)
theorem II (m a:Nat):∀ (b i:Nat),orb m (a+b) i=orb m b (orb m a i):=by
 induction a with
 | zero=>intro b i;rw [Nat.zero_add];rfl
 | succ a ih=>intro b i;rw [show a+1+b=(a+b)+1 by exact Nat.le_antisymm (Mi.la [_,_] [] ([2,3,0,4,0],[2,4,0,3,0]) rfl) (Mi.la [_,_] [] ([2,4,0,3,0],[2,3,0,4,0]) rfl)];show orb m (a+b) (nx m i)=_;rw [ih b];rfl
def Dl (m:Nat):Bool:=Nat.beq (orb m m 0) 0&&(range m).all λj=>(range m).any λn=>Nat.beq (orb m n 0) j
theorem RY {m:Nat}(h:Dl m=true)(i j:Nat)(hi:i<m)(hj:j<m):∃ n,n<m/\orb m n i=j:=by
 simp only [Dl,and_eq_true,Nat.beq_eq,all_eq_true,any_eq_true,mem_range] at h
 obtain ⟨h0,h⟩:=h
 obtain ⟨a,ha,ea⟩:=h i hi
 obtain ⟨b,hb,eb⟩:=h j hj
 rcases Nat.lt_or_ge b a with q | q
 ·refine ⟨m - a+b,by exact Mi.la [_,_,_,_] [([2,3,0],[4]),([6,4,0],[8])] ([6,2,0,3,0],[8]) rfl q (Mi.lcC (Mi.la [_,_] [([2,3,0],[4])] ([2],[4]) rfl ha)),?_⟩
  rw [<- ea,<- II,show a+(m - a+b)=m+b by exact Nat.le_antisymm (Mi.la [_,_,_,_] [([2,4,0],[6])] ([4,2,8,0,0],[6,8,0]) rfl (Mi.lcC (Mi.la [_,_] [([2,3,0],[4])] ([2],[4]) rfl ha))) (Mi.la [_,_,_,_] [([2],[4,6,0])] ([2,8,0],[6,4,8,0,0]) rfl (Mi.lcS _ _)),II,h0,eb]
 ·refine ⟨b - a,by exact Mi.la [_,_,_,_] [([2,3,0],[4]),([6,8,0],[2])] ([6,3,0],[4]) rfl hb (Mi.lcC (Mi.la [_,_] [([2],[4])] ([2],[4]) rfl q)),?_⟩
  rw [<- ea,<- II,show a+(b - a)=b by exact Nat.le_antisymm (Mi.la [_,_,_] [([2,4,0],[6])] ([4,2,0],[6]) rfl (Mi.lcC (Mi.la [_,_] [([2],[4])] ([2],[4]) rfl q))) (Mi.la [_,_,_] [([2],[4,6,0])] ([2],[6,4,0]) rfl (Mi.lcS _ _)),eb]
theorem RZ:Dl 8=true:=by decide +kernel
theorem NP:Dl 128=true:=by decide +kernel
theorem HY (mask i:Nat):i<=SetTable.runEnd mask i:=by unfold SetTable.runEnd;split <;> lia
theorem NQ {mask i:Nat}(h:i<=mask):SetTable.runEnd mask i<=mask:=by unfold SetTable.runEnd;split <;> lia
abbrev fnd (mask:Nat)(owner:Array (Option Nat))(i:Nat):Option Nat:=(range (SetTable.runEnd mask i+1 - i)).find? λk=>(owner.getD (i+k) (some 0)).isNone
theorem Fg {mask fuel i p:Nat}{owner:Array (Option Nat)}:SetTable.layClean.free mask owner (fuel+1) i p=(fnd mask owner i).elim (SetTable.layClean.free mask owner fuel ((i*5+1+p / 32) % (mask+1)) (p / 32)) λk=>some (i+k):=by kernel_rfl
theorem NR {mask:Nat}{owner:Array (Option Nat)}{fuel:Nat}:∀ {i p j:Nat},i<=mask->SetTable.layClean.free mask owner fuel i p=some j->j<=mask/\(owner.getD j (some 0))=none:=by
 induction fuel with
 | zero=>intro i p j _ h;injection h
 | succ fuel ih=>
  intro i p j hi h
  rw [Fg] at h
  cases hk:fnd mask owner i with
  | some k=>
   rw [hk] at h
   obtain rfl:=Option.some.inj h
   have h1:=List.find?_some hk
   have h2:=List.mem_of_find?_eq_some hk
   rw [mem_range] at h2
   have:=NQ hi
   have:=HY mask i
   exact ⟨by lia,by simpa using h1⟩
  | none=>
   rw [hk] at h
   exact ih (by show (i*5+1+p / 32) % (mask+1)<=mask;have:=Nat.mod_lt (i*5+1+p / 32) (show 0<mask+1 by exact Mi.la [_] [] ([1,3,0],[2,3,0]) rfl);exact Mi.la [_,_] [([2,3,0],[4,3,0])] ([2],[4]) rfl this) h
theorem NS {mask:Nat}{owner:Array (Option Nat)}{fuel:Nat}:∀ {i:Nat} (n:Nat),n<fuel->(owner.getD (orb (mask+1) n i) (some 0))=none->(SetTable.layClean.free mask owner fuel i 0).isSome=true:=by
 induction fuel with
 | zero=>intro i n h _;exact absurd h (Nat.not_lt_zero _)
 | succ fuel ih=>
  intro i n h e
  rw [Fg]
  cases hk:fnd mask owner i with
  | some k=>rfl
  | none=>
   cases n with
   | zero=>
    exfalso
    have:=List.find?_eq_none.mp hk 0 (by rw [mem_range];have:=HY mask i;exact Mi.la [_,_,_] [([2],[4]),([4,3,0],[6,2,0])] ([1,3,0],[6]) rfl this (Mi.lcS _ _))
    apply this
    show (owner.getD (i+0) (some 0)).isNone=true
    rw [Nat.add_zero,show owner.getD i (some 0)=none from e];rfl
   | succ n=>
    show (SetTable.layClean.free mask owner fuel ((i*5+1+0 / 32) % (mask+1)) (0 / 32)).isSome=true
    have z:(0:Nat) / 32=0:=by decide
    rw [z,Nat.add_zero]
    exact ih n (Nat.lt_of_succ_lt_succ h) e
theorem Pw {mask:Nat}{owner:Array (Option Nat)}{fuel:Nat}(h:∀ i,i<=mask->(SetTable.layClean.free mask owner fuel i 0).isSome=true) :
  ∀ (c i p:Nat),i<=mask->p<32 ^ c->(SetTable.layClean.free mask owner (c+fuel) i p).isSome=true:=by
 intro c
 induction c with
 | zero=>
  intro i p hi hp
  obtain rfl:p=0:=by simpa using hp
  rw [Nat.zero_add];exact h i hi
 | succ c ih=>
  intro i p hi hp
  rw [show c+1+fuel=(c+fuel)+1 by exact Nat.le_antisymm (Mi.la [_,_] [] ([2,3,0,4,0],[2,4,0,3,0]) rfl) (Mi.la [_,_] [] ([2,4,0,3,0],[2,3,0,4,0]) rfl),Fg]
  cases fnd mask owner i with
  | some k=>rfl
  | none=>
   exact ih _ _ (by have:=Nat.mod_lt (i*5+1+p / 32) (show 0<mask+1 by exact Mi.la [_] [] ([1,3,0],[2,3,0]) rfl);exact Mi.la [_,_] [([2,3,0],[4,3,0])] ([2],[4]) rfl this) (by rw [Nat.div_lt_iff_lt_mul (by exact Mi.la [] [] ([1,3,0],[65]) rfl)];rw [Nat.pow_succ] at hp;exact hp)
theorem R7 (h:Int):SetTable.bits h<32 ^ 13:=by
 unfold SetTable.bits
 have h1:=Int.emod_nonneg h (show (2 ^ 64:Int)≠0 by decide)
 have h2:=Int.emod_lt_of_pos h (show (0:Int)<2 ^ 64 by decide)
 have:((2:Int) ^ 64)=18446744073709551616:=by decide
 have:(32:Nat) ^ 13=36893488147419103232:=by decide
 lia
theorem JF {mask:Nat}(ho:Dl (mask+1)=true){owner:Array (Option Nat)}(j:Nat)(hj:j<=mask)(e:owner.getD j (some 0)=none)(h:Int) :
  (SetTable.layClean.free mask owner (SetTable.turns mask) (SetTable.bits h % (mask+1)) (SetTable.bits h)).isSome=true:=by
 have q:SetTable.turns mask=13+(mask+2):=by unfold SetTable.turns;exact Nat.le_antisymm (Mi.la [_] [] ([2,31,0],[27,2,5,0,0]) rfl) (Mi.la [_] [] ([27,2,5,0,0],[2,31,0]) rfl)
 rw [q]
 refine Pw (λi hi=>?_) 13 _ _ (by have:=Nat.mod_lt (SetTable.bits h) (show 0<mask+1 by exact Mi.la [_] [] ([1,3,0],[2,3,0]) rfl);exact Mi.la [_,_] [([2,3,0],[4,3,0])] ([2],[4]) rfl this) (R7 h)
 obtain ⟨n,hn,en⟩:=RY ho i j (by exact Mi.la [_,_] [([2],[4])] ([2,3,0],[4,3,0]) rfl hi) (by exact Mi.la [_,_] [([2],[4])] ([2,3,0],[4,3,0]) rfl hj)
 exact NS n (by exact Mi.la [_,_] [([2,3,0],[4,3,0])] ([2,3,0],[4,5,0]) rfl hn) (by rw [en];exact e)
def JG (mask:Nat)(owner:Array (Option Nat))(n:Nat):Prop:=owner.size=mask+1/\(owner.toList.filterMap id).Perm (range n)
theorem Fh (l:List (Option Nat)):∀ (j k:Nat),l[j]? = some none->((l.set j (some k)).filterMap id).Perm (k::l.filterMap id):=by
 induction l with
 | nil=>intro j k h;simp at h
 | cons x l ih=>
  intro j k h
  cases j with
  | zero=>
   obtain rfl:x=none:=by simpa using h
   simp
  | succ j=>
  have ih:=ih j k (by simpa using h)
  rw [List.set_cons_succ]
  cases x with
  | none=>simpa using ih
  | some y=>
   rw [List.filterMap_cons_some (by rfl),List.filterMap_cons_some (by rfl)]
   exact (ih.cons y).trans (Perm.swap ..)
theorem JH (l:List (Option Nat)):(l.filterMap id).length<l.length->∃ j:Nat,l[j]? = some none:=by
 induction l with
 | nil=>intro h;simp at h
 | cons x l ih=>
  intro h
  cases x with
  | none=>exact ⟨0,rfl⟩
  | some y=>
   obtain ⟨j,hj⟩:=ih (by simpa using h)
   exact ⟨j+1,by simpa using hj⟩
theorem JI {mask:Nat}(ho:Dl (mask+1)=true)(l:List Int):∀ (owner:Array (Option Nat)) (k:Nat),JG mask owner k->k+l.length<=mask ->
  ∃ owner',(l.foldl (init:=some (owner,k)) λacc h=>do
   let (owner,k) <- acc
   let j <- SetTable.layClean.free mask owner (SetTable.turns mask) (SetTable.bits h % (mask+1)) (SetTable.bits h)
   pure (owner.setIfInBounds j (some k),k+1))=some (owner',k+l.length)/\JG mask owner' (k+l.length):=by
 induction l with
 | nil=>exact λowner k t U=>⟨owner,rfl,t⟩
 | cons h l ih=>
  intro owner k t hk
  obtain ⟨t1,t2⟩:=t
  have hlen:(owner.toList.filterMap id).length=k:=by rw [t2.length_eq,length_range]
  obtain ⟨j0,hj0⟩:=JH owner.toList (by rw [hlen,Array.length_toList,t1];simp only [length_cons] at hk;exact Mi.la [_,_,_] [([2,4,3,0,0],[6])] ([2,3,0],[6,3,0]) rfl hk)
  have hj0':j0<=mask:=by
   have:j0<owner.toList.length:=by
    rcases Nat.lt_or_ge j0 owner.toList.length with q | q
    ·exact q
    ·rw [getElem?_eq_none q] at hj0;cases hj0
   rw [Array.length_toList,t1] at this;exact Mi.la [_,_] [([2,3,0],[4,3,0])] ([2],[4]) rfl this
  have gd:∀ j,j<=mask->owner.getD j (some 0)=(owner.toList[j]?).getD (some 0):=λj hj=>by
   rw [Array.getElem?_toList]
   have:j<owner.size:=by exact Mi.la [_,_,_] [([2,3,0],[4]),([6],[2])] ([6,3,0],[4]) rfl (Nat.le_of_eq t1.symm) hj
   simp [Array.getD,this]
  have s:=JF ho j0 hj0' (by rw [gd j0 hj0',hj0];rfl) h
  obtain ⟨j,hj⟩:=Option.isSome_iff_exists.mp s
  obtain ⟨j1,j2⟩:=NR (by have:=Nat.mod_lt (SetTable.bits h) (show 0<mask+1 by exact Mi.la [_] [] ([1,3,0],[2,3,0]) rfl);exact Mi.la [_,_] [([2,3,0],[4,3,0])] ([2],[4]) rfl this) hj
  have j3:owner.toList[j]? = some none:=by
   have lt:j<owner.toList.length:=by rw [Array.length_toList,t1];exact Mi.la [_,_] [([2],[4])] ([2,3,0],[4,3,0]) rfl j1
   have:=gd j j1
   rw [j2,getElem?_eq_getElem lt] at this
   rw [getElem?_eq_getElem lt]
   exact congrArg some this.symm
  have T':JG mask (owner.setIfInBounds j (some k)) (k+1):=by
   refine ⟨by rw [Array.size_setIfInBounds,t1],?_⟩
   rw [Array.toList_setIfInBounds]
   refine (Fh _ _ _ j3).trans ?_
   rw [range_succ]
   exact (t2.cons k).trans (List.perm_append_comm (l₁:=[k]))
  obtain ⟨o',e,T⟩:=ih _ (k+1) T' (by simp only [length_cons] at hk;exact Mi.la [_,_,_] [([2,4,3,0,0],[6])] ([2,3,0,4,0],[6]) rfl hk)
  refine ⟨o',?_,?_⟩
  ·rw [foldl_cons]
   show (l.foldl (init:=((SetTable.layClean.free mask owner (SetTable.turns mask) (SetTable.bits h % (mask+1)) (SetTable.bits h)).bind λj=>some (owner.setIfInBounds j (some k),k+1))) _)=_
   rw [hj]
   show (l.foldl (init:=some (owner.setIfInBounds j (some k),k+1)) _)=_
   rw [e]
   simp only [length_cons]
   rw [show k+1+l.length=k+(l.length+1) by exact Nat.le_antisymm (Mi.la [_,_] [] ([2,3,0,4,0],[2,4,3,0,0]) rfl) (Mi.la [_,_] [] ([2,4,3,0,0],[2,3,0,4,0]) rfl)]
  ·simp only [length_cons]
   rw [show k+(l.length+1)=k+1+l.length by exact Nat.le_antisymm (Mi.la [_,_] [] ([2,4,3,0,0],[2,3,0,4,0]) rfl) (Mi.la [_,_] [] ([2,3,0,4,0],[2,4,3,0,0]) rfl)]
   exact T
theorem JJ {mask:Nat}(ho:Dl (mask+1)=true)(hs:Array Int)(h:hs.size<=mask):∃ owner,SetTable.layClean mask hs=some owner/\JG mask owner hs.size:=by
 have T0:JG mask (Array.replicate (mask+1) none) 0:=by
  refine ⟨by simp,?_⟩
  rw [Array.toList_replicate]
  have:(replicate (mask+1) (none:Option Nat)).filterMap id=[]:=by
   rw [List.filterMap_eq_nil_iff]
   intro a ha
   obtain ⟨_,rfl⟩:=List.mem_replicate.mp ha
   rfl
  rw [this];exact Perm.refl _
 obtain ⟨o,e,T⟩:=JI ho hs.toList _ 0 T0 (by rw [Array.length_toList];exact Mi.la [_,_] [([2],[4])] ([1,2,0],[4]) rfl h)
 rw [Nat.zero_add,Array.length_toList] at T
 refine ⟨o,?_,T⟩
 unfold SetTable.layClean
 rw [<- Array.foldl_toList]
 have e':=congrArg (Option.map (·.1)) e
 exact e'
theorem NT (l:List (Option Nat))(n:Nat):n<=l.length->((range n).filterMap λj=>((l[j]?).getD none).map λy=>(j,y)).map (·.2)=(l.take n).filterMap id:=by
 induction n with
 | zero=>intro _;simp
 | succ n ih=>
  intro h
  have ih:=ih (by exact Mi.la [_,_] [([2,3,0],[4])] ([2],[4]) rfl h)
  have lt:n<l.length:=by exact Mi.la [_,_] [([2,3,0],[4])] ([2,3,0],[4]) rfl h
  rw [range_succ,List.filterMap_append,map_append,ih,List.take_add_one,List.filterMap_append]
  congr 1
  have e0:l[n]? = some l[n]:=getElem?_eq_getElem lt
  rw [e0]
  rw [filterMap_cons,e0]
  cases hx:l[n] <;> simp
theorem IJ {V β:Type}{f g:V->Option β}{l:List V}:(∀ a∈l,f a=g a)->l.filterMap f=l.filterMap g:=by
 induction l with
 | nil=>exact λU=>rfl
 | cons a l ih=>
  intro h
  rw [filterMap_cons,filterMap_cons,h a mem_cons_self,ih λx hx=>h x (mem_cons_of_mem _ hx)]
theorem NU (l:List (Option Nat))(n:Nat)(h:l.length=n):((range n).filterMap λj=>((l[j]?).getD none).map λy=>(j,y)).map (·.2)=l.filterMap id:=by
 subst h
 rw [NT l _ (Nat.le_refl _),take_length]
theorem R8 {mask:Nat}(ho:Dl (mask+1)=true)(hs:Array Int)(h:hs.size<=mask)(finger moves:Nat)(led plain:Bool) :
  ∃ t order,SetTable.laid mask finger moves led plain hs=some (t,order)/\order.toList.Perm (range hs.size)/\t.place.size=hs.size/\t.dummies = #[]/\t.mask=mask:=by
 obtain ⟨o,e,t1,t2⟩:=JJ ho hs h
 refine ⟨_,_,by unfold SetTable.laid;rw [e];rfl,?_⟩
 have lp:=NU o.toList (mask+1) (by rw [Array.length_toList,t1])
 have gd:((range (mask+1)).filterMap λj=>(o.getD j none).map λy=>(j,y))=(range (mask+1)).filterMap λj=>((o.toList[j]?).getD none).map λy=>(j,y):=by
  refine IJ λj hj=>?_
  rw [mem_range] at hj
  have:j<o.size:=by exact Mi.la [_,_,_] [([2,3,0],[4]),([6,3,0],[2,3,0])] ([6,3,0],[4]) rfl (Nat.le_of_eq t1.symm) hj
  rw [Array.getElem?_toList]
  simp [Array.getD,this]
 refine ⟨?_,?_,rfl,rfl⟩
 ·rw [List.toList_toArray,gd,lp];exact t2
 ·rw [size_toArray,length_map,gd,<- length_map (f:=λx:Nat × Nat=>x.2),lp,t2.length_eq,length_range]
def An (es:Array (Int × Value))(ep:Nat)(t:SetTable):Obj:={ cls:=.type "frozenset",data:=.set es ep t }
def hset (h:Heap)(a:Addr)(o:Obj):Heap:=h.update a (λU=>o)
theorem FO {h:Heap}{a:Addr}{o:Obj}(e:h.get? a=some o):h.objs[a]? = some o:=(get?_some_iff.mp e).1
theorem IK {V:Type}{xs:Array V}{i:Nat}{f g:V->V}{x:V}(e:xs[i]? = some x)(h:f x=g x):xs.modify i f=xs.modify i g:=by
 apply Array.ext_getElem?
 intro j
 rw [Array.getElem?_modify,Array.getElem?_modify]
 by_cases q:i=j
 ·subst q;simp [e,h]
 ·simp [q]
theorem DY {h:Heap}{a:Addr}{o:Obj}{f g:Obj->Obj}(e:h.get? a=some o)(q:f o=g o):h.update a f=h.update a g:=by
 obtain ⟨objs,l⟩:=h
 show Heap.mk _ _=Heap.mk _ _
 rw [IK (FO e) q]
theorem JK {h:Heap}{a:Addr}{o:Obj}{es ep t}(e:h.get? a=some o):(hset h a (An es ep t)).get? a=some (An es ep t):=by
 refine get?_some_iff.mpr ⟨?_,rfl⟩
 show (h.objs.modify a λU=>An es ep t)[a]? = _
 rw [Array.getElem?_modify,if_pos rfl,FO e];rfl
theorem R9 {h:Heap}{a b:Addr}{o:Obj}(q:b≠a):(hset h a o).get? b=h.get? b:=Heap.get?_update_ne h b a _ q
theorem Fj {h:Heap}{a:Addr}{o o':Obj}:hset (hset h a o) a o'=hset h a o':=by
 obtain ⟨objs,l⟩:=h
 show Heap.mk _ _=Heap.mk _ _
 congr 1
 apply Array.ext_getElem?
 intro j
 rw [Array.getElem?_modify,Array.getElem?_modify,Array.getElem?_modify]
 by_cases q:a=j
 ·simp only [q,if_true,Option.map_map];cases objs[j]? <;> rfl
 ·simp [q]
theorem B8 {h:Heap}{a:Addr}{es ep t es' t'}(e:h.get? a=some (An es ep t)):h.update a (Obj.putSet es' t')=hset h a (An es' (ep+1) t'):=
 DY e (putSet_of es' t' rfl)
def Fk (e:Int × Value):Str:=match e.2 with
 | .str x _=>x
 | _=>default
structure SetIs (w:World)(l:List Str)(es:Array (Int × Value))(t:SetTable):Prop where
 el:∀ e∈es.toList,∃ x u,e=(hashStr w x,.str x u)
 perm:(es.toList.map Fk).Perm l
 nd:l.Nodup
 fit:t.fits es.size=true
 lt:l.length<1000
section
variable {prog:Program}{w:World}{A:Around}{E:Value->Shared->Prop}{s:Shared}{l l':List Str}{es es':Array (Int × Value)}{t t':SetTable}{ep ep':Nat}{a b:Addr}{x:Str}{u:Tok}
theorem SetIs.elems (S:SetIs w l es t):ElemsOf (strKind prog w) es.toList:=λe he=>by
 obtain ⟨x,u,rfl⟩:=S.el e he
 exact ⟨⟨x,strKind_is prog w x u,rfl⟩,rfl⟩
theorem SetIs.size (S:SetIs w l es t):es.size=l.length:=by
 have:=S.perm.length_eq
 rwa [length_map,Array.length_toList] at this
theorem Lg {e:Int × Value}(h:∃ x u,e=(hashStr w x,Value.str x u))(k:Str):(strKind prog w).is k e.2=true↔k=Fk e:=by
 obtain ⟨x,u,rfl⟩:=h
 show (strKind prog w).is k (.str x u)=true↔k=x
 exact ⟨λq=>(strKind prog w).inj _ _ _ q (strKind_is prog w x u),λq=>by subst q;exact strKind_is prog w _ u⟩
theorem SetIs.mem (S:SetIs w l es t)(k:Str):k∈l↔∃ e∈es.toList,(strKind prog w).is k e.2=true:=by
 rw [<- S.perm.mem_iff,mem_map]
 exact ⟨λ⟨e,he,q⟩=>⟨e,he,(Lg (S.el e he) k).mpr q.symm⟩,λ⟨e,he,q⟩=>⟨e,he,((Lg (S.el e he) k).mp q).symm⟩⟩
theorem SetIs.bound (S:SetIs w l es t):es.size<scanBound:=by
 have h1:scanBound=4096:=rfl
 have:=S.lt
 rw [S.size];lia
theorem SetIs.reperm (S:SetIs w l es t)(p:es'.toList.Perm es.toList)(f:t'.fits es'.size=true):SetIs w l es' t':=
 ⟨λe he=>S.el e (p.mem_iff.mp he),(p.map Fk).trans S.perm,S.nd,f,S.lt⟩
theorem SetIs.froz (S:SetIs w l es t){h:Heap}(e:h.get? a=some (An es ep t)):FrozAt (strKind prog w) h a (λk=>decide (k∈l)) l.length:=
 ⟨es,ep,t,e,S.elems,λk=>by rw [decide_eq_true_eq];exact S.mem k,S.size,S.fit⟩
theorem NV (S:SetIs w l es t)(hx:x∉l):es.toList.findIdx? (λe=>(strKind prog w).is x e.2)=none:=by
 rw [List.findIdx?_eq_none_iff]
 intro e he
 cases q:(strKind prog w).is x e.2 with
 | false=>rfl
 | true=>exact absurd ((S.mem (prog:=prog) x).mpr ⟨e,he,q⟩) hx
theorem Vf (S:SetIs w l es t)(hx:x∉l)(hl:l.length+1<1000)(e:s.heap.get? a=some (An es ep t)){Q:Bool->Shared->Prop}
  (h:∀ es' ep' t',SetIs w (x::l) es' t'->Q true { s with heap:=hset s.heap a (An es' ep' t') }):wpAny (model prog w) A (setAddHashed a (.str x u) (hashStr w x)) Q E s:=by
 unfold setAddHashed setAddHashedIn
 refine wpAny_holding (wbK (wpAny_setState_of e rfl S.fit ?_))
 dsimp only
 refine KbI ?_
 rw [byScan_of rfl S.bound (S.elems (prog:=prog))]
 first | rw [if_pos rfl] | simp only [↓reduceIte]
 unfold setAddByScan
 refine wbK (wbK (wpAny_rule ?_))
 refine wbK (wpAny_setScan_of (knd:=strKind prog w) (k:=x) (strKind_is prog w x u) e rfl S.fit S.elems ?_)
 rw [NV S hx]
 dsimp only
 have hgw:∀ (b:Bool) {c0:Shared} {Q':Unit->Shared->Prop},Q' () c0->wpAny (model prog w) A (match b with | true=>rule "set.scan.the-table-gave-way" | false=>pure ()) Q' E c0:=
  λb c0 Q' hq=>by cases b <;> first | exact wpAny_pure hq | exact wpAny_rule hq
 have hperm:=layNew_perm t es (hashStr w x) (.str x u)
 have hfits:=layNew_fits t es (hashStr w x) (.str x u)
 have key:∀ es1 t1,Perm es1.toList (es.push (hashStr w x,.str x u)).toList->t1.fits es1.size=true->SetIs w (x::l) es1 t1:=by
  intro es1 t1 p f
  rw [Array.toList_push] at p
  refine ⟨λe he=>?_,?_,nodup_cons.mpr ⟨hx,S.nd⟩,f,by simpa using hl⟩
  ·rcases mem_append.mp (p.mem_iff.mp he) with q | q
   ·exact S.el e q
   ·rw [mem_singleton] at q;exact ⟨x,u,q⟩
  ·refine (p.map Fk).trans ?_
   rw [map_append]
   exact List.perm_append_comm.trans (S.perm.cons x)
 show wpAny (model prog w) A (match layNew t es (hashStr w x) (.str x u) with | (es,t,wasDummy,gave)=>_) _ _ _
 generalize layNew t es (hashStr w x) (.str x u)=L at hperm hfits ⊢
 obtain ⟨es1,t1,wasDummy,gave⟩:=L
 dsimp only at hperm hfits ⊢
 refine wbK (hgw _ ?_)
 have tail:∀ t2:SetTable,t2.fits es1.size=true->wpAny (model prog w) A (do
    storeSet a es1 t2
    if (!wasDummy&&t2.tooFull)=true then do
      (match (relayAll t2 es1 (SetTable.grown es1.size)).2.2 with | true=>rule "set.scan.the-table-gave-way" | false=>pure ())
      storeSet a (relayAll t2 es1 (SetTable.grown es1.size)).1 (relayAll t2 es1 (SetTable.grown es1.size)).2.1
      pure (some true)
     else pure (some true)) (λr s'=>wpAny (model prog w) A (match r with | some added=>pure added | none=>setAddHashedIn a (.str x u) (hashStr w x) 99999) Q E s') E s:=by
  intro t2 f2
  have S1:=key es1 t2 hperm f2
  refine wbK (wpAny_storeSet_of e rfl ?_ (fits_of_scanBound S1.bound))
  rw [B8 e]
  have e1:(hset s.heap a (An es1 (ep+1) t2)).get? a=some (An es1 (ep+1) t2):=JK e
  split
  ·have hp:=relayAll_perm t2 es1 (SetTable.grown es1.size)
   have hf:=relayAll_fits t2 es1 (SetTable.grown es1.size)
   refine wbK (hgw _ ?_)
   have S2:=S1.reperm hp hf
   refine wbK (wpAny_storeSet_of (s:={ s with heap:=hset s.heap a (An es1 (ep+1) t2) }) e1 rfl ?_ (fits_of_scanBound S2.bound))
   rw [B8 (h:=hset s.heap a (An es1 (ep+1) t2)) e1]
   refine wpAny_pure (wpAny_pure ?_)
   show Q true { s with heap:=hset (hset s.heap a _) a _ }
   rw [Fj]
   exact h _ _ _ S2
  ·exact wpAny_pure (wpAny_pure (h _ _ _ S1))
 split
 ·refine wbK ?_
  rw [hashByValue_scannable 8 (x:=.str x u) rfl]
  refine wpAny_pure ?_
  refine tail _ ?_
  split
  ·exact hfits
  ·exact SetTable.fits_plain_off hfits
 ·refine wbK (wpAny_pure ?_)
  refine KbI ?_
  first | rw [if_pos rfl] | simp only [↓reduceIte]
  exact tail _ hfits
end
section
variable {prog:Program}{w:World}{A:Around}{E:Value->Shared->Prop}{s:Shared}{l l':List Str}{es es':Array (Int × Value)}{t t':SetTable}{ep ep':Nat}{a b r o:Addr}{x:Str}{u:Tok}{led:Bool}
theorem Px (S:SetIs w l es t)(hx:x∉l)(hl:l.length+1<1000)(e:s.heap.get? a=some (An es ep t)){Q:Bool->Shared->Prop}
  (h:∀ es' ep' t',SetIs w (x::l) es' t'->Q true { s with heap:=hset s.heap a (An es' ep' t'),toks:=s.toks+1 }):wpAny (model prog w) A (setAdd a (.str x u)) Q E s:=by
 unfold setAdd
 refine wpAny_holding (wbK (wpAny_pyHash_str ?_))
 exact Vf (s:={ s with toks:=s.toks+1 }) S hx hl e h
def BW (n:Nat):Nat:=if n*5≥21 then 127 else 7
def okN (n:Nat):Bool:=decide (n≠0)&&decide (n<=BW n)&&(decide (n*5<21)||decide (SetTable.sizeAbove (n*2)=128))
theorem Lh (n:Nat):Dl (BW n+1)=true:=by
 unfold BW
 split
 ·exact NP
 ·exact RZ
theorem GF:(SetTable.fresh 0 0 led).fits 0=true:=by cases led <;> decide
theorem IL {es:Array (Int × Value)}{order:Array Nat}(p:order.toList.Perm (range es.size)):(order.filterMap (es[·]?)).toList.Perm es.toList:=by
 rw [Array.toList_filterMap]
 refine (p.filterMap _).trans ?_
 rw [filterMap_getElem?_range]
theorem MS {t:SetTable}{n:Nat}(h1:t.place.size=n)(h2:t.dummies = #[])(h3:n<=t.mask):t.fits n=true:=by
 unfold SetTable.fits SetTable.fill
 rw [h1,h2]
 simp
 exact h3
theorem EM {es:Array (Int × Value)}{t':SetTable}{order:Array Nat}{lo:Option (SetTable × Array Nat)}(e:lo=some (t',order))(p:order.toList.Perm (range es.size)){Q:Array (Int × Value) × SetTable->Shared->Prop}
  (h:∀ es',es'.toList.Perm es.toList->Q (es',t') s):wpAny (model prog w) A (do
   let some (t,order):=lo | unsupported "internal:set-table-without-room"
   let es':=order.filterMap (es[·]?)
   if es'.size != es.size then unsupported "internal:set-table-lost-an-element"
   pure (es',t)) Q E s:=by
 subst e
 have rp:=IL p
 have sz:(order.filterMap (es[·]?)).size=es.size:=by rw [<- Array.length_toList,rp.length_eq,Array.length_toList]
 dsimp only
 rw [sz]
 first | rw [if_neg (by rw [bne_self_eq_false];decide)] | simp only [bne_self_eq_false,false_eq_true,↓reduceIte]
 exact wpAny_pure (h _ rp)
theorem IM {led:Bool}{wanted:Nat}:∃ order,(SetTable.fresh 0 0 led).relaid ((#[]:Array (Int × Value)).map (·.1)) wanted=some ({ mask:=SetTable.sizeAbove wanted - 1,place:=#[],dummies:=#[],finger:=0,led:=led,moves:=(SetTable.fresh 0 0 led).movedTo (SetTable.sizeAbove wanted - 1),plain:=true },order)/\order = #[]:=by
 unfold SetTable.relaid SetTable.laid
 have e:SetTable.layClean (SetTable.sizeAbove wanted - 1) ((#[]:Array (Int × Value)).map (·.1))=some (Array.replicate (SetTable.sizeAbove wanted - 1+1) none):=by simp [SetTable.layClean]
 rw [e]
 have z:((range (SetTable.sizeAbove wanted - 1+1)).filterMap λj=>((Array.replicate (SetTable.sizeAbove wanted - 1+1) (none:Option Nat)).getD j none).map λy=>(j,y))=[]:=by
  rw [List.filterMap_eq_nil_iff]
  intro j hj
  rw [mem_range] at hj
  simp [Array.getD,hj]
 refine ⟨#[],?_,rfl⟩
 show some (({ mask:=_,place:=(map _ _).toArray,dummies:=#[],finger:=_,led:=_,moves:=_,plain:=_ }:SetTable),(map _ _).toArray)=_
 rw [z]
 rfl
set_option tactic.hygienic true in
theorem Li (S:SetIs w l es t)(hr:s.heap.get? r=some (An #[] 0 (.fresh 0 0 led)))(ho:s.heap.get? o=some (An es ep t))(ne:r≠o)(hc:okN l.length=true){Q:Unit->Shared->Prop}
  (h:∀ es' ep' t',SetIs w l es' t'->t'.dummies = #[]->t'.mask=BW l.length->Q () { s with heap:=hset s.heap r (An es' ep' t') }):wpAny (model prog w) A (setMerge r o) Q E s:=by
 simp only [okN,and_eq_true,or_eq_true,decide_eq_true_eq] at hc
 obtain ⟨⟨c1,c2⟩,c3⟩:=hc
 have hs:=S.size
 unfold setMerge
 have hb:(r==o)=false:=beq_eq_false_iff_ne.mpr ne
 rw [hb]
 first | rw [if_neg (by decide)] | simp only [Bool.not_true,false_eq_true,↓reduceIte]
 refine wbK (wpAny_setState_of ho rfl S.fit ?_)
 dsimp only
 have he:es.isEmpty=false:=by rw [Array.isEmpty_eq_false_iff];intro q;subst q;simp at hs;exact (Nat.not_succ_le_zero _ (Mi.la [_] [([3],[2]),([2],[1])] ([3],[1]) rfl (Nat.pos_of_ne_zero c1) (Nat.le_of_eq hs.symm)))
 refine KbI ?_
 rw [he]
 first | rw [if_neg (by decide)] | simp only [Bool.not_true,false_eq_true,↓reduceIte]
 -- room
 have room:∀ {Q':Unit->Shared->Prop},(∀ ep' t1,t1.dummies = #[]->t1.place = #[]->t1.mask=BW l.length->Q' () { s with heap:=hset s.heap r (An #[] ep' t1) })->wpAny (model prog w) A (setRoomFor r es.size) Q' E s:=by
  intro Q' hQ
  unfold setRoomFor
  refine wbK (wpAny_setState_of hr rfl GF ?_)
  refine KbI ?_
  dsimp only
  have rf:(SetTable.fresh 0 0 led).roomFor es.size=if (0+es.size)*5≥7*3 then some ((0+es.size)*2) else none:=rfl
  rw [rf,Nat.zero_add,hs]
  by_cases q:l.length*5≥7*3
  ·rw [if_pos q]
   dsimp only
   have c3':SetTable.sizeAbove (l.length*2)=128:=by rcases c3 with z | z;lia;exact z
   unfold setRelay
   refine wbK (wpAny_setState_of hr rfl GF ?_)
   dsimp only
   refine KbI ?_
   rw [c3',if_neg (by rw [sizeLine_eq];exact Nat.not_lt.mpr (Mi.la [] [] ([257],[33554433]) rfl))]
   obtain ⟨order,e1,e2⟩:=IM (led:=led) (wanted:=l.length*2)
   rw [c3'] at e1
   refine wbK (EM e1 (by subst e2;exact Perm.refl _) λes' p=>?_)
   obtain rfl:es' = #[]:=by
    have:es'.toList=[]:=Perm.eq_nil p
    exact Array.toList_eq_nil_iff.mp this
   refine wpAny_storeSet_of hr rfl ?_ (by simp)
   rw [B8 hr]
   refine hQ _ _ rfl rfl ?_
   show 128 - 1=BW l.length
   unfold BW;rw [if_pos (by lia)]
  ·rw [if_neg q]
   dsimp only
   refine wpAny_pure ?_
   have e0:s.heap=hset s.heap r (An #[] 0 (.fresh 0 0 led)):=by
    have:=DY hr (f:=id) (g:=λU=>An #[] 0 (.fresh 0 0 led)) rfl
    show s.heap=s.heap.update r _
    rw [<- this]
    obtain ⟨⟨objs,lf⟩,g,d,tk,os⟩:=s
    show Heap.mk _ _=Heap.mk _ _
    congr 1
    apply Array.ext_getElem?
    intro j
    rw [Array.getElem?_modify]
    by_cases z:r=j
    ·simp [z]
    ·simp [z]
   have:=hQ 0 (.fresh 0 0 led) rfl rfl (by unfold BW;rw [if_neg (by lia)];rfl)
   rw [<- e0] at this
   exact this
 refine wbK (room λep1 t1 d1 p1 m1=>?_)
 have hr1:(hset s.heap r (An #[] ep1 t1)).get? r=some (An #[] ep1 t1):=JK hr
 refine wbK (wpAny_setState_of (s:={ s with heap:=hset s.heap r (An #[] ep1 t1) }) hr1 rfl (MS (by rw [p1];rfl) d1 (Nat.zero_le _)) ?_)
 dsimp only
 have f0:t1.fill=0:=by unfold SetTable.fill;rw [p1,d1];rfl
 refine KbI ?_
 dsimp only
 cases hroad:t1.road t with
 | oneByOne=>
  exfalso
  unfold SetTable.road at hroad
  rw [f0] at hroad
  simp only [bne_self_eq_false,false_eq_true,↓reduceIte] at hroad
  split at hroad <;> cases hroad
 | slotForSlot=>
  dsimp only
  have q:t1.mask=t.mask/\t.dummies = #[]:=by
   unfold SetTable.road at hroad
   rw [f0] at hroad
   simp only [bne_self_eq_false,false_eq_true,↓reduceIte] at hroad
   split at hroad
   ·rename_i z
    simp only [and_eq_true,beq_iff_eq,Array.isEmpty_iff] at z
    exact z
   ·cases hroad
  refine wpAny_storeSet_of (s:={ s with heap:=hset s.heap r (An #[] ep1 t1) }) hr1 rfl ?_ (fits_of_scanBound S.bound)
  rw [B8 (h:=hset s.heap r (An #[] ep1 t1)) hr1]
  show Q () { s with heap:=hset (hset s.heap r _) r _ }
  rw [Fj]
  refine h _ _ _ (S.reperm (Perm.refl _) ?_) q.2 (by rw [<- q.1] at *;exact q.1▸m1)
  exact S.fit
 | clean=>
  dsimp only
  have hsz:(es.map (·.1)).size<=t1.mask:=by rw [Array.size_map,hs,m1];exact c2
  obtain ⟨t2,order,e1,e2,e3,e4,e5⟩:=R8 (mask:=t1.mask) (by rw [m1];exact Lh _) (es.map (·.1)) hsz t1.finger t1.moves (t1.led&&t.led) (t1.plain&&t.plain)
  rw [Array.size_map] at e2 e3
  refine wbK (EM e1 e2 λes' p=>?_)
  have sz:es'.size=es.size:=by rw [<- Array.length_toList,p.length_eq,Array.length_toList]
  have S2:SetIs w l es' t2:=S.reperm p (MS (by rw [e3,sz]) e4 (by rw [sz,hs,e5,m1];exact c2))
  refine KbI ?_
  dsimp only
  refine wpAny_storeSet_of (s:={ s with heap:=hset s.heap r (An #[] ep1 t1) }) hr1 rfl ?_ (fits_of_scanBound S2.bound)
  rw [B8 (h:=hset s.heap r (An #[] ep1 t1)) hr1]
  show Q () { s with heap:=hset (hset s.heap r _) r _ }
  rw [Fj]
  exact h _ _ _ S2 e4 (e5.trans m1)
end
end Mh
end
section
open PySem PySem.W PySem.Calls PyProof.Rows
open PySem.Sem (wp)
open PySem.Builtin.Frozenset
set_option maxRecDepth 10000
namespace Mh
theorem Vg (a b:Addr):Builtin.«frozenset.__or__» ⟨[.ref a,.ref b],[]⟩=(do
  if !(<- (isAnySet (.ref a) <&&> isAnySet (.ref b))) then do rule s!"frozenset.{"__or__"}.declined";return <- ret .notImplemented
  ret (<- (do
   let result <- copyOf (<- addrOf (.ref a))
   if (Value.ref b) != .ref (<- addrOf (.ref a)) then holding [result] (updateFrom s!"frozenset.{"__or__"}" (<- addrOf result) (.ref b))
   return result))):=rfl
theorem Ue (a b:Addr):Builtin.«frozenset.__sub__» ⟨[.ref a,.ref b],[]⟩=(do
  if !(<- (isAnySet (.ref a) <&&> isAnySet (.ref b))) then do rule s!"frozenset.{"__sub__"}.declined";return <- ret .notImplemented
  ret (<- difference s!"frozenset.{"__sub__"}" (<- addrOf (.ref a)) (.ref b))):=rfl
theorem Lj (a:Addr):setWalk a=(do
 let (es,epoch,t) <- setState a
 if <- setsByText then return pickOrder ((<- ask).params.setOrder a epoch) es
 if (!t.plain&&decide (es.size>1))=true then return (<- drawOrder es.size es.toList).toArray
 (if (!t.led&&decide (es.size>1))=true then unsupported "set:maker-not-led" else pure ())
 return es):=rfl
theorem GG:isSubtype (.type "frozenset") (.type "set")=pure false:=by rw [isSubtype_type];kernel_rfl
theorem NW:isSubtype (.type "frozenset") (.type "frozenset")=pure true:=by rw [isSubtype_type];kernel_rfl
theorem NX {V:Type}{next:Nat->Nat}{fuel k:Nat}{left:List V}{out:Array V}:pickOrder.go next (fuel+1) k left out=(left[next k % left.length]?).elim out λx=>pickOrder.go next fuel (k+1) (left.eraseIdx (next k % left.length)) (out.push x):=by kernel_rfl
theorem Sa {V:Type}(next:Nat->Nat)(fuel:Nat):∀ (k:Nat) (left:List V) (out:Array V),left.length<=fuel->(pickOrder.go next fuel k left out).toList.Perm (out.toList++left):=by
 induction fuel with
 | zero=>
  intro k left out h
  obtain rfl:left=[]:=length_eq_zero_iff.mp (by exact Nat.le_antisymm (Mi.la [_] [([2],[1])] ([2],[1]) rfl h) (Mi.la [_] [] ([1],[2]) rfl))
  rw [append_nil];exact Perm.refl _
 | succ fuel ih=>
  intro k left out h
  rw [NX]
  cases e:left[next k % left.length]? with
  | none=>
   have:left=[]:=by
    cases left with
    | nil=>rfl
    | cons y ys=>
     have lt:=Nat.mod_lt (next k) (show 0<(y::ys).length by simp)
     rw [getElem?_eq_getElem lt] at e;cases e
   subst this
   rw [append_nil]
   exact Perm.refl _
  | some x=>
   have lt:next k % left.length<left.length:=by
    rcases Nat.lt_or_ge (next k % left.length) left.length with q | q
    ·exact q
    ·rw [getElem?_eq_none q] at e;cases e
   have ex:left[next k % left.length]=x:=by rw [getElem?_eq_getElem lt] at e;exact Option.some.inj e
   have ih:=ih (k+1) (left.eraseIdx (next k % left.length)) (out.push x) (by rw [List.length_eraseIdx_of_lt lt];exact Mi.la [_,_,_] [([2],[4,3,0]),([6,3,0],[2])] ([6],[4]) rfl h (Mi.lcC (Mi.la [_,_] [([2,3,0],[4])] ([3],[4]) rfl lt)))
   refine ih.trans ?_
   rw [Array.toList_push,append_assoc]
   refine Perm.append_left _ ?_
   have q:∀ (l:List V) (i:Nat) (hi:i<l.length),(l[i]::l.eraseIdx i).Perm l:=by
    intro l
    induction l with
    | nil=>intro i hi;simp at hi
    | cons y ys ih=>
     intro i hi
     cases i with
     | zero=>exact Perm.refl _
     | succ i=>exact (Perm.swap ..).trans ((ih i (by simpa using hi)).cons y)
   have:=q left _ lt
   rw [ex] at this
   exact this
theorem NY {V:Type}(next:Nat->Nat)(xs:Array V):(pickOrder next xs).toList.Perm xs.toList:=by
 have:=Sa next xs.size 0 xs.toList #[] (by rw [Array.length_toList];exact Nat.le_refl _)
 rw [nil_append] at this
 exact this
section
variable {prog:Program}{w:World}{A:Around}{E:Value->Shared->Prop}{s:Shared}{l l':List Str}{es es':Array (Int × Value)}{t t':SetTable}{ep ep':Nat}{a b r o:Addr}{x:Str}{u:Tok}{led:Bool}
theorem typ (e:s.heap.get? a=some (An es ep t)):s.TypeIs (.ref a) "frozenset":=⟨_,e,rfl⟩
theorem JL (e:s.heap.get? a=some (An es ep t)){Q:Bool->Shared->Prop}(h:Q true s):wpAny (model prog w) A (isAnySet (.ref a)) Q E s:=by
 unfold isAnySet
 refine wbK (wpAny_isInstance (typ e) GG ?_)
 exact wpAny_isInstance (typ e) NW h
theorem Py (ea:s.heap.get? a=some (An es ep t))(eb:s.heap.get? b=some (An es' ep' t')){Q:Bool->Shared->Prop}(h:Q true s):wpAny (model prog w) A (isAnySet (.ref a) <&&> isAnySet (.ref b)) Q E s:=by
 refine wbK (JL ea ?_)
 exact JL eb h
theorem Uf {Q:Bool->Shared->Prop}(h:∀ c,Q c s):wpAny (model prog w) A setsByText Q E s:=by
 unfold setsByText
 exact wbK (wpAny_askSetting (wpAny_pure (h _)))
theorem Pz (S:SetIs w l es t)(e:s.heap.get? a=some (An es ep t))(c:Bool)(hc:(c||(t.led&&t.plain)||decide (es.size<=1))=true){Q:Array (Int × Value)->Shared->Prop}(h:∀ es',es'.toList.Perm es.toList->Q es' s)(hb:c=w.params.followText "set-order") :
  wpAny (model prog w) A (setWalk a) Q E s:=by
 rw [Lj]
 refine wbK (wpAny_setState_of e rfl S.fit ?_)
 dsimp only
 refine wbK ?_
 unfold setsByText
 refine wbK (wpAny_askSetting (wpAny_pure ?_))
 show wpAny (model prog w) A (if (w.params.followText "set-order")=true then _ else _) _ _ _
 rw [<- hb]
 cases c with
 | true=>exact wbK (wpAny_askSetting (wpAny_pure (h _ (NY _ _))))
 | false=>
  first | rw [if_neg (by decide)] | simp only [Bool.not_true,false_eq_true,↓reduceIte]
  have h1:(!t.plain&&decide (es.size>1))=false:=by
   revert hc
   cases t.plain <;> simp
   try (intro q _;lia)
  have h2:(!t.led&&decide (es.size>1))=false:=by
   revert hc
   cases t.led <;> simp
   try (intro q;lia)
  rw [h1,h2]
  first | rw [if_neg (by decide)] | simp only [Bool.not_true,false_eq_true,↓reduceIte]
  exact wbK (wpAny_pure (wpAny_pure (h _ (Perm.refl _))))
theorem JM (S:SetIs w l es t)(e:s.heap.get? a=some (An es ep t))(h1:es.size<=1){others:List Addr}{f:Option Addr}{Q:Array (Int × Value)->Shared->Prop}(h:∀ es',es'.toList.Perm es.toList->Q es' s) :
  wpAny (model prog w) A (setWalkUnseen a others f) Q E s:=by
 unfold setWalkUnseen
 refine wbK (wpAny_setState_of e rfl S.fit ?_)
 dsimp only
 unfold setsByText
 refine wbK (wbK (wpAny_askSetting (wpAny_pure ?_)))
 show wpAny (model prog w) A (if (w.params.followText "set-order"||_||_)=true then _ else _) _ _ _
 rw [if_pos (by simp [h1])]
 exact Pz S e _ (by simp [h1]) h rfl
end
section
variable {prog:Program}{w:World}{A:Around}{E:Value->Shared->Prop}{s:Shared}{l l':List Str}{es es':Array (Int × Value)}{t t':SetTable}{ep ep':Nat}{a b r o:Addr}{x:Str}{u:Tok}{led:Bool}{n:Nat}
theorem Fl {h:Heap}{o o':Obj}:hset (h.push o) h.objs.size o'=h.push o':=by
 obtain ⟨objs,lf⟩:=h
 show Heap.mk _ _=Heap.mk _ _
 congr 1
 apply Array.ext_getElem?
 intro j
 rw [Array.getElem?_modify,Array.getElem?_push,Array.getElem?_push]
 by_cases q:objs.size=j
 ·subst q;simp
 ·have:j≠objs.size:=λe=>q e.symm
  simp [q,this]
theorem V0 {Q:Value->Shared->Prop}(h:∀ led,Q (.ref s.heap.objs.size) { s with heap:=s.heap.push (An #[] 0 (.fresh 0 0 led)) }):wpAny (model prog w) A (newSet (.type "frozenset")) Q E s:=by
 unfold newSet
 refine wbK (Uf λc=>?_)
 dsimp only
 unfold newObj
 refine wbK ?_
 exact wpAny_alloc (wpAny_pure (h _))
theorem TL (S:SetIs w l es t)(e:s.heap.get? a=some (An es ep t))(hc:okN l.length=true){Q:Value->Shared->Prop}
  (h:∀ es' ep' t',SetIs w l es' t'->t'.dummies = #[]->t'.mask=BW l.length->Q (.ref s.heap.objs.size) { s with heap:=s.heap.push (An es' ep' t') }):wpAny (model prog w) A (copyOf a) Q E s:=by
 unfold copyOf
 refine wbK ?_
 unfold baseOf
 refine wbK (wpAny_isInstance (typ e) GG (wpAny_pure ?_))
 first | rw [if_neg (by decide)] | simp only [Bool.not_true,false_eq_true,↓reduceIte]
 refine wbK (V0 λled=>?_)
 refine wbK (wpAny_pure ?_)
 have lt:=lt_size e
 refine wbK (Li (s:={ s with heap:=s.heap.push (An #[] 0 (.fresh 0 0 led)) }) S (r:=s.heap.objs.size) (led:=led) (get?_push_size _ rfl) (get?_push_of_some _ e) (Nat.ne_of_gt lt) hc λes' ep' t' S' d m=>wpAny_pure ?_)
 show Q _ { s with heap:=hset (s.heap.push _) s.heap.objs.size _ }
 rw [Fl]
 exact h _ _ _ S' d m
theorem PA (S:SetIs w l es t)(S':SetIs w [x] es' t')(er:s.heap.get? r=some (An es ep t))(eo:s.heap.get? o=some (An es' ep' t'))(ne:r≠o)(hx:x∉l)(hl:l.length+1<1000)(h0:l≠[])
  (hd:t.dummies = #[]) (hm:(l.length+1)*5<t.mask*3) {each:Sem Unit} (he:∀ (s':Shared) (Q:Unit->Shared->Prop),s'.heap.get? o=some (An es' ep' t')->Q () s'->wpAny (model prog w) A each Q E s') {Q:Unit->Shared->Prop}
  (h:∀ es' ep' t',SetIs w (x::l) es' t'->Q () { s with heap:=hset s.heap r (An es' ep' t') }):wpAny (model prog w) A (setMerge r o each) Q E s:=by
 have z':es'.size=1:=S'.size
 unfold setMerge
 rw [beq_eq_false_iff_ne.mpr ne]
 first | rw [if_neg (by decide)] | simp only [Bool.not_true,false_eq_true,↓reduceIte]
 refine wbK (wpAny_setState_of eo rfl S'.fit ?_)
 dsimp only
 have:es'.isEmpty=false:=by rw [Array.isEmpty_eq_false_iff];intro q;subst q;simp at z'
 refine KbI ?_
 rw [this]
 first | rw [if_neg (by decide)] | simp only [Bool.not_true,false_eq_true,↓reduceIte]
 have pl:t.place.size=l.length:=by
  have f:=S.fit
  simp only [SetTable.fits,and_eq_true,beq_iff_eq] at f
  rw [f.1,S.size]
 have fl:t.fill=l.length:=by unfold SetTable.fill;rw [hd,pl];rfl
 refine wbK ?_
 unfold setRoomFor
 refine wbK (wpAny_setState_of er rfl S.fit ?_)
 dsimp only
 have rf:t.roomFor es'.size=none:=by unfold SetTable.roomFor;rw [fl,z',if_neg (by lia)]
 refine KbI ?_
 rw [rf]
 refine wpAny_pure ?_
 refine wbK (wpAny_setState_of er rfl S.fit ?_)
 refine KbI ?_
 dsimp only
 have rd:t.road t' = .oneByOne:=by
  unfold SetTable.road
  rw [fl,if_pos]
  simp only [bne_iff_ne,ne_eq]
  intro q;exact h0 (length_eq_zero_iff.mp q)
 rw [rd]
 dsimp only
 refine wbK (JM S' eo (by exact Mi.la [_] [([2],[3])] ([2],[3]) rfl (Nat.le_of_eq z')) λes2 p=>?_)
 obtain ⟨e1,he1⟩:∃ e1,es'.toList=[e1]:=List.length_eq_one_iff.mp (by rw [Array.length_toList];exact z')
 have he2:es2.toList=[e1]:=by rw [he1] at p;exact Perm.eq_singleton p
 obtain ⟨y,u,rfl⟩:=S'.el e1 (by rw [he1];exact mem_singleton_self _)
 have:y=x:=by
  have:=S'.perm
  rw [he1] at this
  exact List.singleton_inj.mp (Perm.eq_singleton this)
 subst this
 refine wbK (wpAny_forIn_array' _ (λrest U s'=>(rest=[(hashStr w y,.str y u)]/\s'=s)\/(rest=[]/\∃ es' ep' t',SetIs w (y::l) es' t'/\s' = { s with heap:=hset s.heap r (An es' ep' t') })) _ ?_ ?_ es2 _ (.inl ⟨he2,rfl⟩))
 ·rintro ⟨hh,v⟩ rest _ s' (⟨q,rfl⟩ | ⟨q,_⟩)
  ·cases q
   refine wbK (wpAny_holding (Vf S hx hl er λes3 ep3 t3 S3=>?_))
   have eo':(hset s'.heap r (An es3 ep3 t3)).get? o=some (An es' ep' t'):=by rw [R9 (Ne.symm ne)];exact eo
   refine wbK (he _ _ eo' ?_)
   refine wbK (wpAny_setState_of (s:={ s' with heap:=hset s'.heap r (An es3 ep3 t3) }) eo' rfl S'.fit ?_)
   refine KbI ?_
   first | rw [if_neg (by rw [bne_self_eq_false];decide)] | simp only [bne_self_eq_false,false_eq_true,↓reduceIte]
   exact wpAny_pure (.inr ⟨by trivial,_,_,_,S3,rfl⟩)
  ·cases q
 ·rintro _ s' (⟨q,_⟩ | ⟨_,es3,ep3,t3,S3,rfl⟩)
  ·cases q
  ·exact wpAny_pure (h _ _ _ S3)
theorem FP (a:Addr){Q:Addr->Shared->Prop}(h:Q a s):wpAny (model prog w) A (addrOf (.ref a)) Q E s:=wpAny_pure h
theorem Ug (S:SetIs w l es t)(S':SetIs w [x] es' t')(ea:s.heap.get? a=some (An es ep t))(eb:s.heap.get? b=some (An es' ep' t'))(ne:a≠b)(hx:x∉l)(hl:l.length+1<1000)(hc:okN l.length=true)
  (hm:(l.length+1)*5<BW l.length*3) {Q:PySem.Fin->Shared->Prop} (h:∀ es' ep' t',SetIs w (x::l) es' t'->Q (.done (.ret (.ref s.heap.objs.size))) { s with heap:=s.heap.push (An es' ep' t') }) :
  wpAny (model prog w) A (Builtin.«frozenset.__or__» ⟨[.ref a,.ref b],[]⟩) Q E s:=by
 rw [Vg]
 have h0:l≠[]:=by rintro rfl;simp [okN] at hc
 refine wbK (Py ea eb ?_)
 first | rw [if_neg (by decide)] | simp only [Bool.not_true,false_eq_true,↓reduceIte]
 refine wbK ?_
 refine wbK (FP a ?_)
 refine wbK (TL S ea hc λes1 ep1 t1 S1 d1 m1=>?_)
 refine wbK (FP a ?_)
 have nb:((Value.ref b) != .ref a)=true:=by
  rw [bne_iff_ne];intro q;cases q;exact ne rfl
 refine KbI ?_
 rw [nb]
 first | rw [if_pos rfl] | simp only [↓reduceIte]
 have lb:=lt_size eb
 have er:(s.heap.push (An es1 ep1 t1)).get? s.heap.objs.size=some (An es1 ep1 t1):=get?_push_size _ rfl
 have eb':(s.heap.push (An es1 ep1 t1)).get? b=some (An es' ep' t'):=get?_push_of_some _ eb
 refine wbK (FP _ ?_)
 refine wbK (wpAny_holding ?_)
 unfold updateFrom
 refine wbK (JL (s:={ s with heap:=s.heap.push (An es1 ep1 t1) }) eb' ?_)
 first | rw [if_pos rfl] | simp only [↓reduceIte]
 refine wbK (FP b ?_)
 unfold merge
 refine wbK (wpAny_setEpoch_of (s:={ s with heap:=s.heap.push (An es1 ep1 t1) }) eb' rfl S'.fit ?_)
 refine PA (s:={ s with heap:=s.heap.push (An es1 ep1 t1) }) S1 S' er eb' (Nat.ne_of_gt lb) hx hl h0 d1 (by rw [m1];exact hm) (λs' Q' e' q=>?_) λes2 ep2 t2 S2=>?_
 ·unfold unchanged
  refine wbK (wpAny_setEpoch_of e' rfl S'.fit ?_)
  refine KbI ?_
  first | rw [if_neg (by rw [bne_self_eq_false];decide)] | simp only [bne_self_eq_false,false_eq_true,↓reduceIte]
  exact wpAny_pure q
 ·show wpAny _ _ _ _ _ { s with heap:=hset (s.heap.push _) s.heap.objs.size _ }
  rw [Fl]
  exact wpAny_pure (wpAny_pure (h _ _ _ S2))
theorem NZ (S:SetIs w l es t)(e:s.heap.get? a=some (An es ep t)){Q:Option Nat->Shared->Prop}(h:∀ r,es.toList.findIdx? (λe=>(strKind prog w).is x e.2)=r->Q r s) :
  wpAny (model prog w) A (setFind a (.str x u) (hashStr w x)) Q E s:=by
 unfold setFind setFindIn
 refine wbK (wpAny_setState_of e rfl S.fit ?_)
 dsimp only
 refine KbI ?_
 rw [byScan_of rfl S.bound (S.elems (prog:=prog))]
 first | rw [if_pos rfl] | simp only [↓reduceIte]
 refine wbK (wpAny_rule ?_)
 refine wbK (wpAny_setScan_of (knd:=strKind prog w) (k:=x) (strKind_is prog w x u) e rfl S.fit S.elems ?_)
 cases hr:es.toList.findIdx? (λe=>(strKind prog w).is x e.2) with
 | none=>exact wpAny_pure (h _ hr)
 | some j=>exact wpAny_pure (by rw [Nat.zero_add];exact h _ hr)
theorem EN {V:Type}(xs:Array V)(p:Nat)(hp:p<xs.size):(SetTable.eraseAt xs p).toList=xs.toList.eraseIdx p:=by
 unfold SetTable.eraseAt
 rw [Array.toList_append,Array.toList_extract,Array.toList_extract,List.eraseIdx_eq_take_drop_succ]
 simp only [List.extract_eq_take_drop,drop_zero,Nat.sub_zero]
 congr 1
 rw [List.take_of_length_le]
 simp
theorem Sb {t:SetTable}{n:Nat}(h1:t.place.size=n)(h2:t.place.size+t.dummies.size<=t.mask):t.fits n=true:=by
 unfold SetTable.fits SetTable.fill
 simp [h1]
 rw [<- h1];exact h2
theorem Sc (S:SetIs w l es t)(hd:t.dummies.size<=n)(e:s.heap.get? a=some (An es ep t)){Q:Bool->Shared->Prop}
  (h:∀ c es' ep' t',SetIs w (l.filter (λy=>decide (y≠x))) es' t'->t'.dummies.size<=n+1->t'.mask=t.mask->Q c { s with heap:=hset s.heap a (An es' ep' t') }):wpAny (model prog w) A (setDiscardHashed a (.str x u) (hashStr w x)) Q E s:=by
 unfold setDiscardHashed
 refine wbK (NZ S e λr hr=>?_)
 cases r with
 | none=>
  have hx:x∉l:=by
   rw [S.mem (prog:=prog)]
   rintro ⟨y,hy,q⟩
   have:=List.findIdx?_eq_none_iff.mp hr y hy
   rw [q] at this;cases this
  have fl:l.filter (λy=>decide (y≠x))=l:=List.filter_eq_self.mpr λy hy=>by rw [decide_eq_true_eq];rintro rfl;exact hx hy
  have e0:s.heap=hset s.heap a (An es ep t):=by
   show s.heap=s.heap.update a _
   rw [<- DY e (f:=id) (g:=λU=>An es ep t) rfl]
   obtain ⟨⟨objs,lf⟩,g,d,tk,os⟩:=s
   show Heap.mk _ _=Heap.mk _ _
   congr 1
   apply Array.ext_getElem?
   intro j
   rw [Array.getElem?_modify]
   by_cases z:a=j
   ·simp [z]
   ·simp [z]
  have:=h false es ep t (by rw [fl];exact S) (by exact Mi.la [_,_] [([2],[4])] ([2],[4,3,0]) rfl hd) rfl
  rw [<- e0] at this
  exact wpAny_pure this
 | some i=>
  dsimp only
  obtain ⟨hi,hp,_⟩:=List.findIdx?_eq_some_iff_getElem.mp hr
  have hi':i<es.size:=by rwa [Array.length_toList] at hi
  refine wbK (wpAny_setState_of e rfl S.fit ?_)
  refine KbI ?_
  dsimp only
  have el:=EN es i hi'
  have hk:Fk es.toList[i]=x:=((Lg (S.el _ (List.getElem_mem hi)) x).mp hp).symm
  have pe:((es.toList.eraseIdx i).map Fk).Perm (l.filter (λy=>decide (y≠x))):=by
   have p1:(x::(es.toList.eraseIdx i).map Fk).Perm l:=by
    have q:∀ (l:List (Int × Value)) (i:Nat) (hi:i<l.length),(l[i]::l.eraseIdx i).Perm l:=by
     intro l
     induction l with
     | nil=>intro i hi;simp at hi
     | cons y ys ih=>
      intro i hi
      cases i with
      | zero=>exact Perm.refl _
      | succ i=>exact (Perm.swap ..).trans ((ih i (by simpa using hi)).cons y)
    have:=(q es.toList i hi).map Fk
    rw [map_cons,hk] at this
    exact this.trans S.perm
   have p2:=p1.filter (λy=>decide (y≠x))
   have nd:(x::(es.toList.eraseIdx i).map Fk).Nodup:=p1.symm.nodup S.nd
   rw [nodup_cons] at nd
   rw [List.filter_cons_of_neg (by simp)] at p2
   rwa [List.filter_eq_self.mpr λy hy=>by rw [decide_eq_true_eq];rintro rfl;exact nd.1 hy] at p2
  have f:=S.fit
  simp only [SetTable.fits,and_eq_true,beq_iff_eq,decide_eq_true_eq] at f
  have ip:i<t.place.size:=by rw [f.1];exact hi'
  have dr:t.drop i = { t with place:=SetTable.eraseAt t.place i,dummies:=SetTable.insertAt t.dummies (SetTable.below t.dummies t.place[i]) t.place[i] }:=by
   unfold SetTable.drop
   rw [Array.getElem?_eq_getElem ip]
  have szp:(SetTable.eraseAt t.place i).size=t.place.size - 1:=by
   rw [<- Array.length_toList,EN _ _ ip,List.length_eraseIdx_of_lt (by rw [Array.length_toList];exact ip),Array.length_toList]
  have szd:(SetTable.insertAt t.dummies (SetTable.below t.dummies t.place[i]) t.place[i]).size=t.dummies.size+1:=by
   rw [<- Array.length_toList,(SetTable.insertAt_perm ..).length_eq,Array.toList_push,length_append,Array.length_toList];rfl
  have sze:(SetTable.eraseAt es i).size=es.size - 1:=by
   rw [<- Array.length_toList,el,List.length_eraseIdx_of_lt hi,Array.length_toList]
  have S2:SetIs w (l.filter (λy=>decide (y≠x))) (SetTable.eraseAt es i) (t.drop i):=by
   refine ⟨λy hy=>?_,by rw [el];exact pe,S.nd.filter _,?_,Nat.lt_of_le_of_lt (length_filter_le ..) S.lt⟩
   ·rw [el] at hy
    exact S.el y (List.mem_of_mem_eraseIdx hy)
   ·rw [dr]
    have:=f.2
    unfold SetTable.fill at this
    refine Sb (by show (SetTable.eraseAt t.place i).size=_;rw [szp,sze];exact Nat.le_antisymm (Mi.la [_,_,_,_] [([2],[4]),([6,3,0],[2]),([4],[8,3,0])] ([6],[8]) rfl (Nat.le_of_eq f.1) (Mi.lcC (Mi.la [_,_] [([2,3,0],[4])] ([3],[4]) rfl ip)) (Mi.lcS _ _)) (Mi.la [_,_,_,_] [([2],[4]),([6,3,0],[2]),([4],[8,3,0])] ([6],[8]) rfl (Nat.le_of_eq f.1.symm) (Mi.lcC (Mi.la [_,_] [([2,3,0],[4])] ([3],[4]) rfl hi')) (Mi.lcS _ _))) ?_
    show (SetTable.eraseAt t.place i).size+(SetTable.insertAt ..).size<=t.mask
    rw [szp,szd]
    exact Mi.la [_,_,_,_] [([2,4,0],[6]),([8,3,0],[2])] ([8,4,3,0,0],[6]) rfl this (Mi.lcC (Mi.la [_,_] [([2,3,0],[4])] ([3],[4]) rfl ip))
  refine wbK (wpAny_storeSet_of e rfl ?_ (fits_of_scanBound S2.bound))
  rw [B8 e]
  refine wbK (wpAny_point ?_)
  exact wpAny_pure (h true _ _ _ S2 (by rw [dr];show (SetTable.insertAt ..).size<=_;rw [szd];exact Mi.la [_,_] [([2],[4])] ([2,3,0],[4,3,0]) rfl hd) (by rw [dr]))
end
def eqL:List Nat->List Nat->Bool
 | [],m=>m.isEmpty
 | a::l,m=>match m with
  | []=>false
  | b::m=>match Nat.beq a b with
   | true=>eqL l m
   | false=>false
theorem eqL_iff:∀ (a b:List Nat),eqL a b=true↔a=b:=by
 intro a
 induction a with
 | nil=>exact λb=>isEmpty_iff.trans eq_comm
 | cons a l ih=>
  intro b
  cases b with
  | nil=>exact ⟨λh=>by injection h,λh=>by injection h⟩
  | cons b m=>
   show (match Nat.beq a b with
    | true=>eqL l m
    | false=>false)=true↔_
   cases q:Nat.beq a b with
   | true=>
    obtain rfl:=Nat.eq_of_beq_eq_true q
    exact (ih m).trans ⟨λh=>by rw [h],λh=>(List.cons.inj h).2⟩
   | false=>exact ⟨λh=>by injection h,λh=>by rw [(List.cons.inj h).1,Nat.beq_refl] at q;injection q⟩
def HF (x:Str):List Str->Bool
 | []=>false
 | y::l=>match eqL x.cps.toList y.cps.toList with
  | true=>true
  | false=>HF x l
theorem JN (x:Str)(l:List Str):HF x l=true↔x∈l:=by
 induction l with
 | nil=>simp [HF]
 | cons y l ih=>
  unfold HF
  cases q:eqL x.cps.toList y.cps.toList with
  | true=>
   have:x=y:=by
    have:=(eqL_iff _ _).mp q
    obtain ⟨⟨a⟩⟩:=x;obtain ⟨⟨b⟩⟩:=y
    simp only at this;subst this;rfl
   simp [this]
  | false=>
   have:x≠y:=by rintro rfl;rw [(eqL_iff _ _).mpr rfl] at q;cases q
   rw [mem_cons,ih];simp [this]
theorem Em {x:Str}{l}(h:HF x l=false):x∉l:=λq=>by rw [(JN x l).mpr q] at h;cases h
def GH (l l':List Str):List Str:=match l with
 | []=>[]
 | y::r=>match HF y l' with
  | true=>GH r l'
  | false=>y::GH r l'
theorem Sd (l l':List Str):GH l l'=l.filter λy=>decide (y∉l'):=by
 induction l with
 | nil=>rfl
 | cons y r ih=>
  unfold GH
  cases q:HF y l' with
  | true=>rw [List.filter_cons_of_neg (by simpa using (JN y l').mp q)];exact ih
  | false=>rw [List.filter_cons_of_pos (by simpa using Em q)];dsimp only;rw [ih]
section
variable {prog:Program}{w:World}{A:Around}{E:Value->Shared->Prop}{s:Shared}{l l':List Str}{es es':Array (Int × Value)}{t t':SetTable}{ep ep':Nat}{a b r o:Addr}{x:Str}{u:Tok}{led:Bool}{n:Nat}
theorem Uh (S:SetIs w l es t)(S':SetIs w l' es' t')(ea:s.heap.get? a=some (An es ep t))(eb:s.heap.get? b=some (An es' ep' t')){Q:Bool->Shared->Prop}(h:Q true s):wpAny (model prog w) A (setsQuiet [a,b]) Q E s:=by
 unfold setsQuiet
 refine wbK (wpAny_forIn_list _ (λrest r s'=>r.1=none/\s'=s/\∀ c∈rest,c=a\/c=b) _ ?_ ?_ _ _ ⟨rfl,rfl,λc hc=>by simpa using hc⟩)
 ·rintro c rest r s' ⟨hr,rfl,hc⟩
  have hs:∃ l₁ v6 t7 W6,SetIs w l₁ v6 W6/\s'.heap.get? c=some (An v6 t7 W6):=by
   rcases hc c mem_cons_self with rfl | rfl
   ·exact ⟨_,_,_,_,S,ea⟩
   ·exact ⟨_,_,_,_,S',eb⟩
  obtain ⟨l₁,v6,t7,W6,Y4,y0⟩:=hs
  unfold setEntries
  refine wbK (wbK (wpAny_setState_of y0 rfl Y4.fit (wpAny_pure ?_)))
  refine wbK (wpAny_forIn_array' _ (λrest r s''=>r.1=none/\s''=s'/\∀ e∈rest,e∈v6.toList) _ ?_ ?_ _ _ ⟨rfl,rfl,λe he=>he⟩)
  ·rintro ⟨hh,v⟩ rest' r' s'' ⟨hr',rfl,he⟩
   obtain ⟨y,u,q⟩:=Y4.el _ (he _ mem_cons_self)
   cases q
   exact wpAny_pure ⟨rfl,rfl,λe q=>he e (mem_cons_of_mem _ q)⟩
  ·rintro ⟨r1,r2⟩ s'' ⟨hr',rfl,_⟩
   simp only at hr'
   subst hr'
   exact wpAny_pure ⟨rfl,rfl,λc q=>hc c (mem_cons_of_mem _ q)⟩
 ·rintro ⟨r1,r2⟩ s' ⟨hr,rfl,_⟩
  simp only at hr
  subst hr
  exact wpAny_pure h
theorem JO (S:SetIs w l es t)(S':SetIs w l' es' t')(ea:s.heap.get? a=some (An es ep t))(eb:s.heap.get? b=some (An es' ep' t')){Q:Array (Int × Value)->Shared->Prop}(h:∀ es2,es2.toList.Perm es.toList->Q es2 s) :
  wpAny (model prog w) A (setWalkUnseen a [b] none) Q E s:=by
 unfold setWalkUnseen
 refine wbK (wpAny_setState_of ea rfl S.fit ?_)
 dsimp only
 unfold setsByText
 refine wbK (wbK (wpAny_askSetting (wpAny_pure ?_)))
 show wpAny (model prog w) A (if (w.params.followText "set-order"||_||_)=true then _ else _) _ _ _
 by_cases q:(w.params.followText "set-order"||t.led&&t.plain||decide (es.size<=1))=true
 ·rw [if_pos q]
  exact Pz S ea _ q h rfl
 ·rw [if_neg q]
  refine wbK (Uh S S' ea eb ?_)
  first | rw [if_neg (by decide)] | simp only [Bool.not_true,false_eq_true,↓reduceIte]
  refine wbK (wpAny_rule ?_)
  exact wpAny_pure (h _ (Perm.refl _))
theorem MT (S:SetIs w l es t)(ea:s.heap.get? a=some (An es ep t)){Q:Nat->Shared->Prop}(h:Q l.length s):wpAny (model prog w) A (Builtin.Frozenset.sizeOf a) Q E s:=by
 unfold Builtin.Frozenset.sizeOf setEntries
 exact wbK (wbK (wpAny_setState_of ea rfl S.fit (wpAny_pure (wpAny_pure (by rw [S.size];exact h)))))
theorem Se (S:SetIs w l es t)(S':SetIs w l' es' t')(ea:s.heap.get? a=some (An es ep t))(eb:s.heap.get? b=some (An es' ep' t'))(hc:okN l.length=true)(hq:l.length / 4>l'.length)
  (h8:¬ l'.length / 8>l.length) (hm:l'.length<=BW l.length / 4) {Q:PySem.Fin->Shared->Prop} (h:∀ es' ep' t',SetIs w (GH l l') es' t'->Q (.done (.ret (.ref s.heap.objs.size))) { s with heap:=s.heap.push (An es' ep' t') }) :
  wpAny (model prog w) A (Builtin.«frozenset.__sub__» ⟨[.ref a,.ref b],[]⟩) Q E s:=by
 rw [Ue]
 refine wbK (Py ea eb ?_)
 refine KbI ?_
 rw [if_neg (by decide)]
 refine wbK (FP a ?_)
 refine wbK ?_
 unfold difference
 refine wbK (JL eb ?_)
 refine KbI ?_
 rw [if_neg (by decide)]
 refine wbK (FP b ?_)
 refine wbK (MT S' eb ?_)
 refine wbK (MT S ea ?_)
 refine KbI ?_
 rw [if_pos hq]
 refine wbK (wpAny_rule ?_)
 refine wbK (TL S ea hc λes1 ep1 t1 S1 d1 m1=>?_)
 have lb:=lt_size eb
 have er:(s.heap.push (An es1 ep1 t1)).get? s.heap.objs.size=some (An es1 ep1 t1):=get?_push_size _ rfl
 have eb':(s.heap.push (An es1 ep1 t1)).get? b=some (An es' ep' t'):=get?_push_of_some _ eb
 refine wbK (FP _ ?_)
 refine wbK (wpAny_holding ?_)
 unfold differenceUpdate
 have nb:((Value.ref b)==.ref s.heap.objs.size)=false:=by
  rw [beq_eq_false_iff_ne];intro q;cases q;exact Nat.lt_irrefl _ lb
 rw [nb]
 rw [if_neg (by decide)]
 refine wbK (JL (s:={ s with heap:=s.heap.push (An es1 ep1 t1) }) eb' ?_)
 refine KbI ?_
 rw [if_pos rfl]
 refine wbK (FP b ?_)
 refine wbK (MT (s:={ s with heap:=s.heap.push (An es1 ep1 t1) }) S' eb' ?_)
 refine wbK (MT (s:={ s with heap:=s.heap.push (An es1 ep1 t1) }) S1 er ?_)
 refine KbI ?_
 rw [if_neg h8]
 refine wbK (wpAny_setEpoch_of (s:={ s with heap:=s.heap.push (An es1 ep1 t1) }) eb' rfl S'.fit ?_)
 refine wbK (wpAny_holding ?_)
 refine wbK (JO (s:={ s with heap:=s.heap.push (An es1 ep1 t1) }) S' S1 eb' er λes2 p2=>?_)
 refine wbK (wpAny_forIn_array' _ (λrest U s'=>∃ done es3 ep3 t3,done++rest.map Fk=es2.toList.map Fk/\(∀ e∈rest,e∈es2.toList)/\SetIs w (l.filter λy=>decide (y∉done)) es3 t3/\t3.dummies.size<=done.length/\t3.mask=BW l.length /\
  s' = { s with heap:=s.heap.push (An es3 ep3 t3) }) _ ?_ ?_ es2 _ ⟨[],es1,ep1,t1,rfl,λe he=>he,?_,by rw [d1];exact Nat.zero_le _,m1,rfl⟩)
 ·rintro ⟨hh,v⟩ rest _ s' ⟨done,es3,ep3,t3,hd,hin,S3,d3,m3,rfl⟩
  obtain ⟨y,u,q⟩:=S'.el _ (p2.mem_iff.mp (hin _ mem_cons_self))
  cases q
  have er3:(s.heap.push (An es3 ep3 t3)).get? s.heap.objs.size=some (An es3 ep3 t3):=get?_push_size _ rfl
  refine wbK (wpAny_holding (Sc (s:={ s with heap:=s.heap.push (An es3 ep3 t3) }) (n:=done.length) S3 d3 er3 λc es4 ep4 t4 S4 d4 m4=>?_))
  have eb4:(s.heap.push (An es4 ep4 t4)).get? b=some (An es' ep' t'):=get?_push_of_some _ eb
  show wpAny (model prog w) A _ _ _ { s with heap:=hset (s.heap.push _) s.heap.objs.size _ }
  rw [Fl]
  unfold unchanged
  refine wbK (wbK (wpAny_setEpoch_of (s:={ s with heap:=s.heap.push (An es4 ep4 t4) }) eb4 rfl S'.fit ?_))
  refine KbI ?_
  rw [if_neg (by rw [bne_self_eq_false];decide)]
  refine wpAny_pure (wpAny_pure ⟨done++[y],es4,ep4,t4,?_,λe q=>hin e (mem_cons_of_mem _ q),?_,by simpa using d4,m4.trans m3,rfl⟩)
  ·rw [<- hd];simp [Fk]
  ·have:(l.filter λz=>decide (z∉done++[y]))=(l.filter λz=>decide (z∉done)).filter λz=>decide (z≠y):=by
    rw [List.filter_filter]
    congr 1
    funext z
    by_cases q1:z∈done <;> by_cases q2:z=y <;> simp [q1,q2]
   rw [this];exact S4
 ·rintro _ s' ⟨done,es3,ep3,t3,hd,_,S3,d3,m3,rfl⟩
  have er3:(s.heap.push (An es3 ep3 t3)).get? s.heap.objs.size=some (An es3 ep3 t3):=get?_push_size _ rfl
  have hp:done.Perm l':=by
   rw [map_nil,append_nil] at hd
   rw [hd]
   exact (p2.map Fk).trans S'.perm
  have e3:(l.filter λz=>decide (z∉done))=GH l l':=by
   rw [Sd]
   congr 1
   funext z
   simp only [hp.mem_iff]
  rw [e3] at S3
  have hl:=hp.length_eq
  refine wpAny_pure ?_
  unfold setTidy
  refine wbK (wpAny_setState_of (s:={ s with heap:=s.heap.push (An es3 ep3 t3) }) er3 rfl S3.fit ?_)
  dsimp only
  have nt:t3.tooManyDummies=false:=by
   unfold SetTable.tooManyDummies
   rw [m3,decide_eq_false_iff_not]
   exact Nat.not_lt.mpr (Mi.la [_,_,_,_] [([2],[4]),([6],[8]),([8],[2])] ([6],[4]) rfl hm d3 (Nat.le_of_eq hl))
  refine KbI ?_
  rw [nt]
  rw [if_neg (by decide)]
  refine wpAny_pure (wpAny_pure (wpAny_pure (h _ _ _ S3)))
 ·have:(l.filter λy=>decide (y∉([]:List Str)))=l:=List.filter_eq_self.mpr λy U=>by simp
  rw [this];exact S1
end
theorem MU {V:Type}{M:Model}{Γ:Ctx}(m:Sem V):∀ {Q:V->Pos->Shared->Prop} {p:Pos} {s:Shared},wp M Γ m Q (λU U U=>False) p s ->
  ∃ a p' s',Q a p' s'/\∀ (Q':V->Pos->Shared->Prop) E',Q' a p' s'->wp M Γ m Q' E' p s:=by
 induction m with
 | pure a=>intro Q p s h;exact ⟨a,p,s,h,λQ' E' q=>q⟩
 | raise e=>intro Q p s h;exact h.elim
 | unsupported | finish | register | «yield» | fork | await=>intro Q p s h;exact h.elim
 | rule tag k ih=>intro Q p s h;exact ih () h
 | «at» q k ih=>intro Q p s h;exact ih () h
 | load a part k ih=>
  intro Q p s h
  obtain ⟨o,ho,h⟩:=h
  obtain ⟨a,p',s',h1,h2⟩:=ih o h
  exact ⟨a,p',s',h1,λQ' E' q=>⟨o,ho,h2 Q' E' q⟩⟩
 | update a part f k ih=>
  intro Q p s h
  obtain ⟨ho,h⟩:=h
  obtain ⟨a,p',s',h1,h2⟩:=ih () h
  exact ⟨a,p',s',h1,λQ' E' q=>⟨ho,h2 Q' E' q⟩⟩
 | alloc o k ih=>intro Q p s h;exact ih _ h
 | loadIfAlive a k ih=>intro Q p s h;exact ih _ h
 | point l k ih=>intro Q p s h;exact ih () h
 | fresh k ih=>intro Q p s h;exact ih _ h
 | ask k ih=>intro Q p s h;exact ih _ h
 | choose src n k ih=>
  intro Q p s h
  obtain ⟨ho,h⟩:=h
  obtain ⟨a,p',s',h1,h2⟩:=ih _ h
  exact ⟨a,p',s',h1,λQ' E' q=>⟨ho,h2 Q' E' q⟩⟩
 | os q l k ih=>intro Q p s h;exact ih _ h
 | call c hd g l k ih=>
  intro Q p s h
  obtain ⟨r,c0,hr,h⟩:=h
  obtain ⟨a,p',s',h1,h2⟩:=ih r h
  exact ⟨a,p',s',h1,λQ' E' q=>⟨r,c0,hr,h2 Q' E' q⟩⟩
 | handled own k ih=>intro Q p s h;exact ih _ h
 | genState g k ih=>
  intro Q p s h
  obtain ⟨st,ho,h⟩:=h
  obtain ⟨a,p',s',h1,h2⟩:=ih _ h
  exact ⟨a,p',s',h1,λQ' E' q=>⟨st,ho,h2 Q' E' q⟩⟩
 | newGen c k ih=>intro Q p s h;exact ih _ h
 | resume g r l k ih=>
  intro Q p s h
  obtain ⟨res,c0,hr,h⟩:=h
  obtain ⟨a,p',s',h1,h2⟩:=ih res h
  exact ⟨a,p',s',h1,λQ' E' q=>⟨res,c0,hr,h2 Q' E' q⟩⟩
 | stack k ih=>intro Q p s h;exact ih _ h
 | thread k ih=>intro Q p s h;exact ih _ h
def Γin (Γ:Ctx):Around:=⟨Γ.handled,frameCount Γ.below+Γ.code.weight,none,none,Γ.units⟩
theorem Ui (Γ:Ctx):Γ.In (Γin Γ):=⟨rfl,Nat.le_refl _,λU h=>by (cases h),λU h=>by (cases h),Nat.le_refl _⟩
theorem HZ {V:Type}{M:Model}{Γ:Ctx}{m:Sem V}{Q:V->Shared->Prop}{p:Pos}{s:Shared}(h:∀ A,wpAny M A m Q (λU U=>False) s):wp M Γ m (λa U s'=>Q a s') (λU U U=>False) p s:=
 h (Γin Γ) Γ p (Ui Γ)
def setData (es:Array (Int × Value))(ep:Nat)(t:SetTable)(o:Obj):Obj:={ o with data:=.set es ep t }
def Eb (a:Addr):List (Addr × List Str)->Option (List Str)
 | []=>none
 | x::r=>match Nat.beq x.1 a with
  | true=>some x.2
  | false=>Eb a r
def JP (a:Addr)(l:List Str):List (Addr × List Str)->List (Addr × List Str)
 | []=>[(a,l)]
 | x::r=>match Nat.beq x.1 a with
  | true=>(a,l)::r
  | false=>x::JP a l r
theorem Cw (b:Addr)(x:Addr × List Str)(r):Eb b (x::r)=match Nat.beq x.1 b with
  | true=>some x.2
  | false=>Eb b r:=rfl
theorem C5 {a b:Nat}(h:Nat.beq a b=false):a≠b:=by rintro rfl;rw [Nat.beq_refl] at h;cases h
theorem PB (a:Addr)(l:List Str)(b:Addr)(gh:List (Addr × List Str)):Eb b (JP a l gh)=if b=a then some l else Eb b gh:=by
 induction gh with
 | nil=>
  show Eb b [(a,l)]=_
  rw [Cw]
  dsimp only
  cases q:Nat.beq a b with
  | true=>have:=Nat.eq_of_beq_eq_true q;subst this;simp
  | false=>have:=C5 q;simp [Ne.symm this,Eb]
 | cons x r ih=>
  unfold JP
  cases q:Nat.beq x.1 a with
  | true=>
   have e:=Nat.eq_of_beq_eq_true q
   rw [Cw,Cw,e]
   dsimp only
   cases q2:Nat.beq a b with
   | true=>have:=Nat.eq_of_beq_eq_true q2;subst this;simp
   | false=>have:=C5 q2;simp [Ne.symm this]
  | false=>
   dsimp only
   rw [Cw,Cw,ih]
   cases q2:Nat.beq x.1 b with
   | true=>
    have e2:=Nat.eq_of_beq_eq_true q2
    have:b≠a:=by rw [<- e2];exact C5 q
    simp [this]
   | false=>rfl
theorem N0 {a:Addr}{gh:List (Addr × List Str)}:Pn a gh=false->Eb a gh=none:=by
 induction gh with
 | nil=>exact λU=>rfl
 | cons x r ih=>
  intro h
  unfold Pn at h
  unfold Eb
  cases q:Nat.beq x.1 a with
  | true=>rw [q] at h;cases h
  | false=>rw [q] at h;exact ih h
def Uj:Value->Option String
 | .type c=>some c
 | _=>none
theorem Oa {v:Value}{c:String}(h:Uj v=some c):v = .type c:=by cases v <;> first | (injection h;done) | (injection h with h;rw [h])
def PC:Data->Option (Array (Int × Value) × Nat × SetTable)
 | .set es ep t=>some (es,ep,t)
 | _=>none
theorem Lk {d:Data}{x:Array (Int × Value) × Nat × SetTable}(h:PC d=some x):d = .set x.1 x.2.1 x.2.2:=by cases d <;> first | (injection h;done) | (injection h with h;rw [<- h])
def TM (o:Obj):Bool:=cond o.dict.isNone (cond o.slots.toList.isEmpty (match Uj o.cls with
 | some c=>match PC o.data with
  | some x=>cond x.1.toList.isEmpty (Nat.beq (code c) 2165651704799132939111&&x.2.2.fits 0) false
  | none=>false
 | none=>false) false) false
def FQ (a:Addr)(T:BT)(gh:List (Addr × List Str)):Option (List Str):=match Eb a gh with
 | some l=>some l
 | none=>match T.get a with
  | some o=>match TM o with
   | true=>some []
   | false=>none
  | none=>none
def Inv (w:World)(S:SX):Prop:=∀ a l,Eb a S.gh=some l->a<S.sh.n/\∃ es ep t,S.sh.tree.get a=some (An es ep t)/\SetIs w l es t
theorem IN {a b:Bool}(h:cond a b false=true):a=true/\b=true:=by
 cases a with
 | true=>exact ⟨rfl,h⟩
 | false=>injection h
theorem PD {o:Obj}(h:TM o=true):∃ ep t,o=An #[] ep t/\t.fits 0=true:=by
 obtain ⟨cls,dict,data,slots⟩:=o
 obtain ⟨h1,h⟩:=IN h
 obtain ⟨h2,h⟩:=IN h
 obtain rfl:=Option.isNone_iff_eq_none.mp h1
 obtain rfl:slots = #[]:=Array.toList_eq_nil_iff.mp (isEmpty_iff.mp h2)
 dsimp only at h
 cases h3:Uj cls with
 | none=>rw [h3] at h;injection h
 | some c=>
  cases h4:PC data with
  | none=>rw [h3,h4] at h;injection h
  | some x=>
   rw [h3,h4] at h
   obtain ⟨h5,h⟩:=IN h
   have h:=(and_eq_true _ _).mp h
   have h6:x.1 = #[]:=Array.toList_eq_nil_iff.mp (isEmpty_iff.mp h5)
   rw [Oa h3,Lk h4,h6,Go "frozenset" (by decide +kernel) h.1]
   exact ⟨_,_,rfl,h.2⟩
set_option tactic.hygienic true in
theorem C6 {w:World}{a:Addr}{S:SX}(hi:Inv w S)(hn:a<S.sh.n){l:List Str}(h:FQ a S.sh.tree S.gh=some l):∃ es ep t,S.sh.tree.get a=some (An es ep t)/\SetIs w l es t:=by
 unfold FQ at h
 split at h
 ·rename_i l' e
  cases h
  exact (hi a _ e).2
 ·split at h
  ·rename_i o e
   split at h
   ·rename_i q
    cases h
    obtain ⟨ep,t,rfl,f⟩:=PD q
    exact ⟨_,_,_,e,⟨λe he=>by simp at he,Perm.refl _,nodup_nil,f,by decide⟩⟩
   ·cases h
  ·cases h
theorem C7 {S:SX}{a:Addr}{es ep t}(hn:a<S.sh.n)(e:S.sh.tree.get a=some (An es ep t)):S.sh.abs.heap.get? a=some (An es ep t):=by
 show (absHeap S.sh.tree S.sh.n S.sh.life).get? a=_
 rw [abs_get hn e];rfl
set_option tactic.hygienic true in
theorem JQ {o o':Obj}{T:BT}:∀ {n:Nat},((T.ins n o).get n).isSome=true->((T.ins n o').get n).isSome=true:=by
 induction T with
 | nil=>
  intro n h
  have e:∀ o,BT.nil.ins n o=BT.node o .nil .nil:=λU=>rfl
  rw [e,BT.get_node] at h ⊢
  split at h <;> rename_i q
  ·rw [if_pos q];rfl
  ·split at h <;> cases h
 | node v l r ihl ihr=>
  intro n h
  rw [BT.ins_node] at h ⊢
  by_cases q:n=0
  ·rw [if_pos q] at h ⊢;rw [BT.get_node,if_pos q];rfl
  ·rw [if_neg q] at h ⊢
   by_cases q2:n % 2=1
   ·rw [if_pos q2] at h ⊢;rw [BT.get_node,if_neg q,if_pos q2] at h ⊢;exact ihl h
   ·rw [if_neg q2] at h ⊢;rw [BT.get_node,if_neg q,if_neg q2] at h ⊢;exact ihr h
def TN (S:SX)(a:Addr)(l:List Str)(es:Array (Int × Value))(ep:Nat)(t:SetTable):SX:=match S with
 | ⟨⟨T,N,life,gens,drawn,toks,os⟩,gh⟩=>⟨⟨T.set a (setData es ep t),N,life,gens,drawn,toks+1,os⟩,JP a l gh⟩
structure Pk where
 es:Array (Int × Value)
 ep:Nat
 t:SetTable
 p:Pos
noncomputable instance:Nonempty Pk:=⟨⟨#[],0,default,default⟩⟩
def PE (prog:Program)(w:World)(Γ:Ctx)(p:Pos)(a:Addr)(x:Str)(u:Tok)(l:List Str)(S:SX)(k:Pk):Prop:=
 (∀ (Q:Bool->Pos->Shared->Prop) E,(∀ b,Q b k.p (TN S a (x::l) k.es k.ep k.t).sh.abs)->wp (model prog w) Γ (setAdd a (.str x u)) Q E p S.sh.abs)/\SetIs w (x::l) k.es k.t
def pkA (prog:Program)(w:World)(Γ:Ctx)(p:Pos)(a:Addr)(x:Str)(u:Tok)(l:List Str)(S:SX):Pk:=Classical.epsilon (PE prog w Γ p a x u l S)
theorem Vh {prog:Program}{w:World}{Γ:Ctx}{p:Pos}{a:Addr}{x:Str}{u:Tok}{l:List Str}{S:SX}(hi:Inv w S)(hn:a<S.sh.n)(hl:FQ a S.sh.tree S.gh=some l)(hx:HF x l=false)(hb:l.length+1<1000) :
  PE prog w Γ p a x u l S (pkA prog w Γ p a x u l S):=by
 refine Classical.epsilon_spec (p:=PE prog w Γ p a x u l S) ?_
 obtain ⟨es,ep,t,e,Z⟩:=C6 hi hn hl
 have e':=C7 hn e
 have W:=HZ (M:=model prog w) (Γ:=Γ) (p:=p) (m:=setAdd a (.str x u)) (s:=S.sh.abs)
  (Q:=λb s'=>∃ es' ep' t',SetIs w (x::l) es' t'/\s' = { S.sh.abs with heap:=hset S.sh.abs.heap a (An es' ep' t'),toks:=S.sh.abs.toks+1 })
  (λA=>Px Z (Em hx) hb e' λes' ep' t' Z'=>⟨_,_,_,Z',rfl⟩)
 obtain ⟨b,p',s',⟨es',ep',t',Z',rfl⟩,h2⟩:=MU _ W
 refine ⟨⟨es',ep',t',p'⟩,λQ E hQ=>h2 Q E ?_,Z'⟩
 have:=hQ b
 obtain ⟨⟨T,N,life,gens,drawn,toks,os⟩,gh⟩:=S
 have hh:(absHeap (T.set a (setData es' ep' t')) N life)=hset (absHeap T N life) a (An es' ep' t'):=by
  rw [absHeap_set e]
  exact DY (f:=setData es' ep' t') (g:=λU=>An es' ep' t') e' rfl
 show Q b p' ⟨hset (absHeap T N life) a (An es' ep' t'),gens,drawn,toks+1,os⟩
 rw [<- hh]
 exact this
def IO (S:SX)(l:List Str)(es:Array (Int × Value))(ep:Nat)(t:SetTable):SX:=match S with
 | ⟨⟨T,N,life,gens,drawn,toks,os⟩,gh⟩=>⟨⟨T.ins N (An es ep t),N+1,life,gens,drawn,toks,os⟩,(N,l)::gh⟩
def PF (prog:Program)(w:World)(Γ:Ctx)(p:Pos)(l:List Str)(S:SX)(k:Pk):Prop:=
 Runs (model prog w) Γ p ((model prog w).den Γ.code) [] S.sh.abs (.ret (.ok (.ret (.ref S.sh.n)))) (IO S l k.es k.ep k.t).sh.abs/\SetIs w l k.es k.t
def pkN (prog:Program)(w:World)(Γ:Ctx)(p:Pos)(l:List Str)(S:SX):Pk:=Classical.epsilon (PF prog w Γ p l S)
theorem TO {prog:Program}{w:World}{Γ:Ctx}{p:Pos}{l:List Str}{S:SX}{id:String}{args:Args}{b:Builtin}(hc:Γ.code = .builtin id args)(hb:entryFor table id=some b)(hins:((S.sh.tree.ins S.sh.n default).get S.sh.n).isSome=true)
  (h:∀ A:Around,wpAny (model prog w) A (b args) (λf s'=>∃ es ep t,SetIs w l es t/\f = .done (.ret (.ref S.sh.n))/\s' = { S.sh.abs with heap:=S.sh.abs.heap.push (An es ep t) }) (λU U=>False) S.sh.abs) :
  PF prog w Γ p l S (pkN prog w Γ p l S):=by
 refine Classical.epsilon_spec (p:=PF prog w Γ p l S) ?_
 have hd:(model prog w).den Γ.code=b args:=by
  rw [hc]
  show (match entryFor table id with | some b=>b args | none=>unsupported ((withoutEnding? id "#data").getD id))=_
  rw [hb]
 obtain ⟨f,p',s',⟨es,ep,t,Z,rfl,rfl⟩,h2⟩:=MU _ (HZ (M:=model prog w) (Γ:=Γ) (p:=p) h)
 refine ⟨⟨es,ep,t,default⟩,?_,Z⟩
 rw [hd]
 refine Dk (h2 _ _ ?_)
 obtain ⟨⟨T,N,life,gens,drawn,toks,os⟩,gh⟩:=S
 refine ⟨rfl,?_⟩
 have hh:absHeap (T.ins N (An es ep t)) (N+1) life=(absHeap T N life).push (An es ep t):=absHeap_ins (JQ (o:=default) hins)
 show (⟨(absHeap T N life).push (An es ep t),gens,drawn,toks,os⟩:Shared)=⟨absHeap (T.ins N (An es ep t)) (N+1) life,gens,drawn,toks,os⟩
 rw [hh]
def Uk (a b:Addr)(x:Str)(l:List Str)(S:SX):Bool:=
 Nat.blt a S.sh.n&&Nat.blt b S.sh.n&&!Nat.beq a b&&!HF x l&&Nat.blt (l.length+1) 1000&&okN l.length&&Nat.blt ((l.length+1)*5) (BW l.length*3)&&((S.sh.tree.ins S.sh.n default).get S.sh.n).isSome
def Sf (a b:Addr)(l l':List Str)(S:SX):Bool:=
 Nat.blt a S.sh.n&&Nat.blt b S.sh.n&&okN l.length&&Nat.blt l'.length (l.length / 4)&&!Nat.blt l.length (l'.length / 8)&&Nat.ble l'.length (BW l.length / 4)&&((S.sh.tree.ins S.sh.n default).get S.sh.n).isSome
def Vi:List Str->Option Str
 | [x]=>some x
 | _=>none
theorem Sg {l:List Str}{x:Str}(h:Vi l=some x):l=[x]:=by
 cases l with
 | nil=>cases h
 | cons y r=>
  cases r with
  | nil=>cases h;rfl
  | cons=>cases h
theorem Fn {a b:Bool}{C:Prop}(h:(a&&b)=true)(k:a=true->b=true->C):C:=k (and_eq_true_iff.mp h).1 (and_eq_true_iff.mp h).2
theorem Vj {b:Bool}(h:(!b)=true):b=false:=by
 cases b with
 | false=>rfl
 | true=>cases h
def TP (prog:Program)(w:World):Orc where
 add Γ p a x u S:=cond (Nat.blt a S.sh.n) ((FQ a S.sh.tree S.gh).bind λl=>cond (HF x l) none (cond (Nat.blt (l.length+1) 1000)
  (some ((pkA prog w Γ p a x u l S).p,TN S a (x::l) (pkA prog w Γ p a x u l S).es (pkA prog w Γ p a x u l S).ep (pkA prog w Γ p a x u l S).t)) none)) none
 or Γ p a b S:=(FQ a S.sh.tree S.gh).bind λl=>(FQ b S.sh.tree S.gh).bind λm=>(Vi m).bind λx=>cond (Uk a b x l S)
  (some (.ref S.sh.n,IO S (x::l) (pkN prog w Γ p (x::l) S).es (pkN prog w Γ p (x::l) S).ep (pkN prog w Γ p (x::l) S).t)) none
 sub Γ p a b S:=(FQ a S.sh.tree S.gh).bind λl=>(FQ b S.sh.tree S.gh).bind λl'=>cond (Sf a b l l' S)
  (some (.ref S.sh.n,IO S (GH l l') (pkN prog w Γ p (GH l l') S).es (pkN prog w Γ p (GH l l') S).ep (pkN prog w Γ p (GH l l') S).t)) none
 inv:=Inv w
theorem BO {a b:Nat}(h:Nat.blt a b=true):a<b:=Nat.le_of_ble_eq_true h
theorem PG:entryFor table "frozenset.__or__" = some Builtin.«frozenset.__or__»:=entryFor_of_tree (by kernel_rfl)
theorem Ob:entryFor table "frozenset.__sub__" = some Builtin.«frozenset.__sub__»:=entryFor_of_tree (by kernel_rfl)
theorem Ll:entryFor table "set.update.loop" = some Builtin.«set.update.loop»:=entryFor_of_tree (by kernel_rfl)
theorem JR {prog:Program}{w:World}{id:String}{b:Builtin}(hb:entryFor table id=some b)(args:Args):(model prog w).den (.builtin id args)=b args:=by
 have key:∀ (o:Option Builtin) (t:Sem PySem.Fin),o=some b->(match o with | some b=>b args | none=>t)=b args:=by
  intro o t h;subst h;rfl
 exact key (entryFor table id) _ hb
theorem PH (prog:Program)(w:World)(args:Args):(model prog w).den (.builtin "set.update.loop" args)=Builtin.«set.update.loop» args:=JR Ll args
theorem JS {w:World}{S:SX}(hi:Inv w S){l es ep t}(Z:SetIs w l es t)(hins:((S.sh.tree.ins S.sh.n default).get S.sh.n).isSome=true):Inv w (IO S l es ep t):=by
 obtain ⟨⟨T,N,life,gens,drawn,toks,os⟩,gh⟩:=S
 intro b l' h
 have hg:=BT.get_ins (An es ep t) T N (JQ hins)
 have h':Eb b ((N,l)::gh)=some l':=h
 rw [Cw] at h'
 show b<N+1/\∃ es' ep' t',(T.ins N (An es ep t)).get b=some (An es' ep' t')/\SetIs w l' es' t'
 rw [hg b]
 dsimp only at h'
 cases q:Nat.beq N b with
 | true=>
  have e:=Nat.eq_of_beq_eq_true q
  subst e
  rw [q] at h'
  cases h'
  exact ⟨Nat.lt_succ_self _,_,_,_,if_pos rfl,Z⟩
 | false=>
  rw [q] at h'
  obtain ⟨h1,h2⟩:=hi b l' h'
  rw [if_neg (Ne.symm (C5 q))]
  exact ⟨Nat.lt_succ_of_lt h1,h2⟩
theorem PJ (prog:Program)(w:World):(TP prog w).Ok (model prog w) where
 up:=by
  intro T N life gens drawn toks os gh a f hi hg b l h
  obtain ⟨h1,es,ep,t,e,Z⟩:=hi b l h
  have ne:b≠a:=by
   rintro rfl
   have:=N0 hg
   have h':Eb b gh=some l:=h
   rw [this] at h';cases h'
  refine ⟨h1,es,ep,t,?_,Z⟩
  show (T.set a f).get b=_
  rw [BT.get_set,if_neg ne]
  exact e
 new:=by
  intro T N life gens drawn toks os gh o hi hs b l h
  obtain ⟨h1,es,ep,t,e,Z⟩:=hi b l h
  refine ⟨Nat.lt_succ_of_lt h1,es,ep,t,?_,Z⟩
  show (T.ins N o).get b=_
  rw [BT.get_ins o T N hs b,if_neg (Nat.ne_of_lt h1)]
  exact e
 rest:=λhi=>hi
 add:=by
  intro a x u S q S' Γ p hi h
  refine B6 h λq1 h1=>A5 h1 λl q2 h2=>Pp h2 λq3 h3=>B6 h3 λq4 h4=>EL h4 λa1 a2=>?_
  subst a1 a2
  obtain ⟨k1,k2⟩:=Vh (prog:=prog) (u:=u) (Γ:=Γ) (p:=p) hi (BO q1) q2 q3 (BO q4)
  refine ⟨k1,?_⟩
  obtain ⟨⟨T,N,life,gens,drawn,toks,os⟩,gh⟩:=S
  intro b l' hb
  obtain ⟨es,ep,t,e,_⟩:=C6 hi (BO q1) q2
  have hb':Eb b (JP a (x::l) gh)=some l':=hb
  rw [PB] at hb'
  by_cases z:b=a
  ·subst z
   rw [if_pos rfl] at hb'
   cases hb'
   refine ⟨BO q1,_,(pkA prog w Γ p b x u l ⟨⟨T,N,life,gens,drawn,toks,os⟩,gh⟩).ep,_,?_,k2⟩
   show (T.set b _).get b=_
   rw [BT.get_set,if_pos rfl,show T.get b=_ from e]
   rfl
  ·rw [if_neg z] at hb'
   obtain ⟨h1,es',ep',t',e',Z⟩:=hi b l' hb'
   refine ⟨h1,es',ep',t',?_,Z⟩
   show (T.set a _).get b=_
   rw [BT.get_set,if_neg z]
   exact e'
 or:=by
  intro a b S v S' Γ p hi hc h
  refine A5 h λl q1 h1=>A5 h1 λm q2 h2=>A5 h2 λx qx h3=>B6 h3 λq3 h4=>EL h4 λa1 a2=>?_
  subst a1 a2
  rw [Sg qx] at q2
  refine Fn q3 λq c8=>Fn q λq c7=>Fn q λq c6=>Fn q λq c5=>Fn q λq c4=>Fn q λq c3=>Fn q λc1 c2=>?_
  obtain ⟨es,ep,t,e,Z⟩:=C6 hi (BO c1) q1
  obtain ⟨es',ep',t',e',Z'⟩:=C6 hi (BO c2) q2
  have sz:S.sh.abs.heap.objs.size=S.sh.n:=absHeap_size ..
  have K:=TO (prog:=prog) (w:=w) (l:=x::l) (S:=S) (p:=p) hc PG c8 λA=>Ug Z Z' (C7 (BO c1) e) (C7 (BO c2) e') (C5 (Vj c3)) (Em (Vj c4)) (BO c5) c6 (BO c7)
   λes2 ep2 t2 Z2=>⟨es2,ep2,t2,Z2,by rw [sz],rfl⟩
  exact ⟨K.1,JS hi K.2 c8⟩
 sub:=by
  intro a b S v S' Γ p hi hc h
  refine A5 h λl q1 h1=>A5 h1 λl' q2 h2=>B6 h2 λq3 h3=>EL h3 λa1 a2=>?_
  subst a1 a2
  refine Fn q3 λq c8=>Fn q λq c6=>Fn q λq c5=>Fn q λq c4=>Fn q λq c3=>Fn q λc1 c2=>?_
  obtain ⟨es,ep,t,e,Z⟩:=C6 hi (BO c1) q1
  obtain ⟨es',ep',t',e',Z'⟩:=C6 hi (BO c2) q2
  have sz:S.sh.abs.heap.objs.size=S.sh.n:=absHeap_size ..
  have K:=TO (prog:=prog) (w:=w) (l:=GH l l') (S:=S) (p:=p) hc Ob c8 λA=>Se Z Z' (C7 (BO c1) e) (C7 (BO c2) e') c3 (BO c4)
   (λz=>by rw [show Nat.blt l.length (l'.length / 8)=true from Nat.ble_eq_true_of_le z] at c5;cases c5) (Nat.le_of_ble_eq_true c6)
   λes2 ep2 t2 Z2=>⟨es2,ep2,t2,Z2,by rw [sz],rfl⟩
  exact ⟨K.1,JS hi K.2 c8⟩
 loop:=λa it=>PH prog w _
end Mh
end
section
open PySem PySem.W PySem.Calls PyProof.Rows
open PySem.Sem (wp)
set_option maxRecDepth 10000
namespace Mh
def mo (p:Program)(w:World):Model:=⟨denote treeTable,p,w⟩
theorem PK (p:Program)(w:World):mo p w=model p w:=by unfold mo;rw [<- table_eq_tree];rfl
def X6:Ctx:=⟨.builtin "claim.caller" {},none,none,[],none⟩
def bt (l:List Obj):BT:=(l.foldl (λ(x:BT × Nat) o=>(x.1.ins x.2 o,x.2+1)) (BT.nil,0)).1
def j5 (w:World)(os:OsState):SX:=⟨⟨bt (boot_heap w.params).objs.toList,11,(boot_heap w.params).life,#[],boot_drawn,boot_toks,os⟩,[]⟩
def En (p:Program)(w:World)(os:OsState):Option (Lf × Pos × SX):=
 evW (mo p w) (evC (mo p w) (TP p w) 100000 1000) 100000 X6 default (topStub p).cur (j5 w os)
theorem Lm (w:World)(os:OsState):(j5 w os).sh.abs=⟨boot_heap w.params,#[],boot_drawn,boot_toks,os⟩:=by kernel_rfl
def Sh {V:Type}(T:BT):Nat->List Obj->(List Obj->V)->Option V
 | 0,acc,k=>some (k acc)
 | n+1,acc,k=>match T.get n with
  | some ⟨c,d,dt,sl⟩=>Sh T n (⟨c,d,dt,sl⟩::acc) k
  | none=>none
set_option tactic.hygienic true in
theorem Sj {V:Type}(T:BT)(k:List Obj->V)(n:Nat):∀ (acc:List Obj) (a:V),Sh T n acc k=some a->a=k ((range n).map (λi=>(T.get i).getD default)++acc):=by
 induction n with
 | zero=>intro acc a h;cases h;rfl
 | succ n ih=>
  intro acc a h
  unfold Sh at h
  split at h
  ·rename_i c d dt sl e
   have:=ih _ _ h
   rw [this,range_succ,map_append,append_assoc]
   simp [e]
  ·cases h
def MV:Lf->Bool
 | .fin (.done (.ret .none))=>true
 | _=>false
theorem Ln {l:Lf}(h:MV l=true):l = .fin (.done (.ret .none)):=by
 cases l with
 | fin f=>
  cases f with
  | again=>cases h
  | done f=>
   cases f with
   | ret v=>
    cases v with
    | none=>rfl
    | _=>cases h
   | _=>cases h
 | _=>cases h
def V1 {V:Type}(k:Shared->V)(g:List (Addr × List Str)->Bool):SX->Option V
 | ⟨⟨T,N,life,gens,drawn,toks,os⟩,gh⟩=>cond (g gh) (Sh T N [] λl=>k ⟨⟨⟨l⟩,life⟩,gens,drawn,toks,os⟩) none
def Dm {V:Type}(r:Option (Lf × Pos × SX))(k:Shared->V)(g:List (Addr × List Str)->Bool):Option V:=r.bind λx=>cond (MV x.1) (V1 k g x.2.2) none
theorem Lo {V:Type}{r:Option (Lf × Pos × SX)}{k:Shared->V}{g:List (Addr × List Str)->Bool}{a:V}(h:Dm r k g=some a) :
  ∃ q S,r=some (.fin (.done (.ret .none)),q,S)/\a=k S.sh.abs/\g S.gh=true:=by
 refine A5 h λx e h=>B6 h λe1 h=>?_
 obtain ⟨l,q,S⟩:=x
 obtain ⟨⟨T,N,life,gens,drawn,toks,os⟩,gh⟩:=S
 rw [show l=_ from Ln e1] at e
 refine B6 h λe2 h=>⟨q,_,e,?_,e2⟩
 have:=Sj T _ N [] a h
 rw [append_nil] at this
 exact this
theorem Eo {g:GenState}(h:g.forget = .finished):g = .finished:=by cases g <;> first | rfl | cases h
theorem JT {σ s:Shared}(h:σ.forget=s.forget)(hg:∀ g∈s.gens,match g with | .finished=>True | _=>False):σ=s:=by
 obtain ⟨h1,g1,d1,t1,o1⟩:=σ
 obtain ⟨h2,g2,d2,t2,o2⟩:=s
 simp only [Shared.forget,Shared.mk.injEq] at h
 obtain ⟨rfl,hm,rfl,rfl,rfl⟩:=h
 have:g1=g2:=by
  have sz:g1.size=g2.size:=by have:=congrArg Array.size hm;simpa using this
  apply Array.ext sz
  intro i hi1 hi2
  have e:(g1.map GenState.forget)[i]'(by simpa using hi1)=(g2.map GenState.forget)[i]'(by simpa using hi2):=by simp only [hm]
  rw [Array.getElem_map,Array.getElem_map] at e
  have hf:=hg g2[i] (Array.getElem_mem hi2)
  have e2:g2[i] = .finished:=by revert hf;cases g2[i] <;> simp
  rw [e2] at e ⊢
  exact Eo e
 rw [this]
theorem PL {p:Program}{w:World}{os:OsState}{q:Pos}{S:SX}(h:En p w os=some (.fin (.done (.ret .none)),q,S))(hz:(j5 w os).sh.abs.asleep)
  (hg:∀ g∈S.sh.gens,match g with | .finished=>True | _=>False) :
  (∃ n t,schedN (denote table) p w n (.single (j5 w os).sh.abs (topStub p)) = .running (.single S.sh.abs t)/\through t=true)/\Inv w S:=by
 have hi:Inv w (j5 w os):=λa l e=>by cases e
 obtain ⟨L,hI⟩:=Ps (M:=mo p w) (by rw [PK];exact PJ p w) (λΓ p' S e S' hi h=>Ud (by rw [PK];exact PJ p w) _ _ _ _ _ _ _ hi h) _ _ _ _ _ _ _ _ hi h
 refine ⟨?_,hI⟩
 rw [PK] at L
 have L':∀ (R:Result->Shared->Prop),R (.ok (.ret .none)) S.sh.abs->wp (model p w) X6 (topStub p).cur (Sem.finPost (model p w) X6 R) (λe U s'=>R (.error e) s') default (j5 w os).sh.abs:=
  λR hR=>L _ _ hR
 obtain ⟨n,r,s',c',p',hn,rfl,rfl⟩:=wp_runN (M:=model p w) (base:=[]) (c:=.builtin "claim.caller" {}) (L' (λr s'=>r = .ok (.ret .none)/\s'=S.sh.abs) ⟨rfl,rfl⟩)
 have hlc:leftWithCleanup S.sh.abs.gens=false:=leftWithCleanup_false_of_bare λx hx=>by
  have:=hg x hx
  revert this
  cases x <;> simp [GenState.bare]
 obtain ⟨N,r2,s2,hN,_⟩:=(wp_iff_halts (M:=model p w) (c:=.builtin "claim.caller" {}) (topStub p).cur (λr s'=>r = .ok (.ret .none)/\s'=S.sh.abs) default (j5 w os).sh.abs).mp
  (L' (λr s'=>(r = .ok (.ret .none)/\s'=S.sh.abs)/\leftWithCleanup s'.gens=false) ⟨⟨rfl,rfl⟩,hlc⟩)
 have hend:(outcomeOf r2).ends=true:=outcomeOf_ends r2
 obtain ⟨s3,hr3,_,hcalm⟩:=runNI_real _ _ _ hN hend
 have hne:∀ k z0,runN (model p w).den (model p w).prog (model p w).w k (j5 w os).sh.abs ⟨(topStub p).cur,.builtin "claim.caller" {},default,[]⟩≠.halted (.unsupported "lifetime:generator-with-cleanup-left-suspended") z0:=by
  intro k z0 hk
  have a:=runN_mono _ _ _ _ k _ _ _ _ hr3
  have b:=runN_mono _ _ _ k N _ _ _ _ hk
  rw [Nat.add_comm,b] at a
  injection a with a1 _
  rw [<- a1] at hend;exact absurd hend (by simp [Outcome.ends])
 obtain ⟨σ,tau,hr,hσ,htau⟩:=runNI_running_real hn
 have hsch:=(schedN_eq_runN _ _ _ _ _ hz ⟨hcalm,hne⟩ n).trans (congrArg Run.lift hr)
 obtain rfl:σ=S.sh.abs:=JT hσ hg
 obtain ⟨cur,code,pos,stack⟩:=tau
 simp only [Thread.forget,Thread.mk.injEq,forgetAll] at htau
 obtain ⟨rfl,rfl,rfl,e5⟩:=htau
 have hst:stack=[]:=by cases stack with | nil=>rfl | cons x xs=>simp at e5
 subst hst
 exact ⟨n,_,hsch,rfl⟩
def TQ (h:Heap):List (Option Obj):=(range 11).map λb=>match Nat.beq b 3||Nat.beq b 2 with
 | true=>none
 | false=>h.objs[b]?
abbrev look {V:Type}(p q:Program)(loose:List Str)(w:World)(Yf:Shared->V)(s:Shared):=
 ((staticsOk (importedModules p.main.body) (boot_heap w.params) s.heap&&namesBound p s.heap&&gensDone s&&laidKept (boot_heap w.params) s.heap),
  openSeen q loose (importedModules p.main.body) (λU=>true) false s,TQ s.heap,s.heap.life,s.os,Yf s)
abbrev Lp {V:Type}(q:Program)(loose:List Str)(w:World)(os:OsState)(Ya:V):=(true,openGood q loose,TQ (boot_heap w.params),(boot_heap w.params).life,os,Ya)
theorem Lq {P:World->Prop}(r1 r2:String)(h:∀ (b1 b2:Bool) (w:World),P ((w.withFollow r1 b1).withFollow r2 b2)):∀ w,P w:=λw=>by
 have:=h (w.params.followText r1) (w.params.followText r2) w
 rw [World.withFollow_self,World.withFollow_self] at this
 exact this
theorem Oc (P:Params):(boot_heap P).objs.size=11:=by kernel_rfl
def MW {V:Type}(p q:Program)(loose:List Str)(Yf:Shared->V)(Ya:World->V)(g:List (Addr × List Str)->Bool)(w:World):Prop:=
 (∃ s,AfterRun (opening p) w s)/\∀ s,AfterRun (opening p) w s->∃ u3,fenceModules? p s=some u3/\u3.gens = #[]/\∃ S:SX,Inv w S/\g S.gh=true/\Yf S.sh.abs=Ya w/\TopRan p w u3 S.sh.abs/\S.sh.abs.asleep/\leftWithCleanup S.sh.abs.gens=false /\
  S.sh.abs.heap.isNs mainGlobals=true/\Ground q loose [] (λU U=>True) w S.sh.abs (S.sh.abs.heap.nsMap mainGlobals) (S.sh.abs.heap.nsMap builtinsNs) S.sh.abs.heap
theorem Ul {V:Type}{p q:Program}{loose:List Str}{Yf:Shared->V}{Ya:World->V}{g:List (Addr × List Str)->Bool}{w:World}(hopen:opening p=plainProg p.main.scope.names)(hf:∀ s,fenceModules? p s=some s)(hch:chainsOk q=true)
  (run:∀ os:OsState,Dm (En p w os) (look p q loose w Yf) g=some (Lp q loose w os (Ya w))):MW p q loose Yf Ya g w:=by
 have hb:=boot_open hopen (N:=600) (by decide) hf w
 rw [<- table_eq_tree] at hb
 obtain ⟨u3,h2,hv⟩:=Option.map_eq_some_iff.mp hb
 obtain ⟨s,h4,h5⟩:=Option.bind_eq_some_iff.mp h2
 have A:=AfterImport.of_importEnds h4
 refine ⟨⟨s,A⟩,λs' hs'=>?_⟩
 obtain rfl:s'=s:=AfterImport.unique hs' A
 have z:u3.asleep:=Shared.asleep_of_life (fence_lifeW h5) A.life
 obtain ⟨h,gs,d,k,os⟩:=u3
 obtain ⟨rfl,rfl,rfl,rfl⟩:h=boot_heap w.params/\gs = #[]/\d=boot_drawn/\k=boot_toks:=by simpa using hv
 rw [<- Lm] at z
 obtain ⟨qp,S,hr,hk,hg⟩:=Lo (run os)
 simp only [look,Lp,Prod.mk.injEq] at hk
 obtain ⟨k1,k2,k3,k4,k5,k6⟩:=hk
 simp only [eq_comm (a:=true),and_eq_true] at k1
 obtain ⟨⟨⟨a1,a2⟩,a3⟩,a4⟩:=k1
 have hfin:=gens_of_done a3
 obtain ⟨⟨n,t,hs,ht⟩,hI⟩:=PL hr z hfin
 rw [Lm] at hs
 have hlc:leftWithCleanup S.sh.abs.gens=false:=leftWithCleanup_false_of_bare λx hx=>by
  have:=hfin x hx
  revert this
  cases x <;> simp [GenState.bare]
 obtain ⟨G,_,g1,g2,g3,g4,g5⟩:=ground_of_open (w:=w) (s:=S.sh.abs) (XP:=λU U=>True) (λU U=>trivial) hch k2.symm
 rw [Lm] at z
 refine ⟨⟨boot_heap w.params,#[],boot_drawn,boot_toks,os⟩,h5,rfl,S,hI,hg,k6.symm,⟨⟨n,t,hs,ht⟩,k4.symm,Shared.rest_eq k5.symm,λb o hb hn=>?_,g2,statics_of_ok a1,g3,g4,g5,hfin,names_of_bound a2,laid_of_kept a4⟩,Shared.asleep_of_life k4.symm z,hlc,g1,G⟩
 have lt:b<11:=by have:=lt_size hb;rw [Oc] at this;exact this
 have e:=List.map_inj_left.mp k3 b (mem_range.mpr lt)
 have n3:b≠3:=λq=>hn (.inl q)
 have n2:b≠2:=λq=>hn (.inr (.inl q))
 have bb:(Nat.beq b 3||Nat.beq b 2)=false:=by
  rw [BT.beq_eq,BT.beq_eq];simp [n3,n2]
 simp only [bb] at e
 unfold Heap.get? at hb ⊢
 rw [<- e]
 exact hb
end Mh
end
section
open PySem PySem.W PyProof.Rows
set_option maxRecDepth 10000
namespace Mi
abbrev Txt:=List Nat
set_option genCtorIdx true in
inductive PV where
 | none
 | bool (b:Bool)
 | int (i:Int)
 | str (s:Txt)
 | tup (l:List PV)
 | lst (i:Nat)
 | ints (l:List Int)
 | rng (a b c:Int)
 | dct (ks vs:List PV)
 | fn (k:Nat)
 | fset (k:Nat)
 | mp
 deriving Inhabited
set_option genCtorIdx true in
inductive PX where
 | std (n:String)
 | toml (m:Txt)
 deriving Inhabited,DecidableEq
structure PS where
 loc:Nat->Option PV
 st:List (List PV)
set_option genCtorIdx true in
inductive R (V:Type) where
 | ok (a:V) (s:PS)
 | ex (e:PX) (s:PS)
 | stuck
abbrev M (V:Type):=PS->R V
def ae {V:Type}(a:V):M V:=λs=>.ok a s
def ac {V β:Type}(m:M V)(f:V->M β):M β:=λs=>match m s with
 | .ok a s'=>f a s'
 | .ex e s'=>.ex e s'
 | .stuck=>.stuck
def aq {V:Type}:M V:=λU=>.stuck
def aL {V:Type}(e:PX):M V:=λs=>.ex e s
def aJ {V:Type}(hd:Bool)(n:String):M V:=λs=>if hd then .stuck else .ex (.std n) s
def af (i:Nat):M PV:=λs=>match s.loc i with
 | some v=>.ok v s
 | none=>.stuck
def ah (i:Nat)(v:PV):M Unit:=λs=>.ok () { s with loc:=λj=>if j=i then some v else s.loc j }
def aB {V:Type}(o:Option V):M V:=λs=>match o with
 | some a=>.ok a s
 | none=>.stuck
def ak {V:Type}(c:Bool)(m:M V):M V:=λs=>if c then m s else .stuck
def txt (s:Txt):Str:=⟨s.toArray⟩
def ctl (c:Nat):Bool:=(c<32||c==127)
def hexd (c:Nat):Bool:=(48<=c&&c<=57)||(97<=c&&c<=102)||(65<=c&&c<=70)
def A1:Nat->Nat->Bool
 | 0,c=>ctl c&&c != 9
 | 1,c=>ctl c&&c != 9&&c != 10
 | 2,c=>c==32||c==9
 | 3,c=>c==32||c==9||c==10
 | 4,c=>hexd c
 | _,c=>(48<=c&&c<=57)||(97<=c&&c<=122)||(65<=c&&c<=90)||c==45||c==95
def JU (k:Nat):Txt->Bool
 | [c]=>A1 k c
 | _=>false
def Fp (k:Nat)(x:Str):Bool:=JU k x.cps.toList
def DZ:List (Txt × Txt):=[([92,98],[8]),([92,116],[9]),([92,110],[10]),([92,102],[12]),([92,114],[13]),([92,34],[34]),([92,92],[92])]
def escT (x:Txt):Option Txt:=DZ.lookup x
structure Hd where
 prog:Program
 w:World
 mg:Str->Option Value
 mb:Str->Option Value
 fnv:Nat->Addr
 setv:Nat->Option Addr
 mpv:Addr
 toml:Addr
 tabPos:Pos
 tabQ:Str
 tabP:Addr
def BF:List Str:=["len", "chr", "ord", "abs", "str", "int", "list", "range", "sum", "min", "max", "IndexError", "ValueError", "KeyError"]
def Od:List Value:=[.type "ValueError",.type "Exception",.type "BaseException",.type "object"]
structure ClsAt (C:Addr)(h:Heap):Prop where
 at_:∃ nm q N bs hdct sn sub ab col dd k0 k1 k2 k3 k5 mN,h.get? C=some (excClassObj nm q C N bs Od hdct sn sub ab col dd k0 k1 k2 k3 k5 "ValueError.__new__")/\h.Ns N mN /\
  ∀ x∈(["__init__", "__getattribute__", "__getattr__", "args", "__str__", "__repr__", "__new__"]:List Str),mN x=none
theorem ClsAt.keeps {C:Addr}{h h':Heap}(x:ClsAt C h)(k:∀ b o,h.get? b=some o->h'.get? b=some o):ClsAt C h':=by
 obtain ⟨nm,q,N,bs,hdct,sn,sub,ab,col,dd,k0,k1,k2,k3,k5,mN,h1,h2,h3⟩:=x.at_
 exact ⟨nm,q,N,bs,hdct,sn,sub,ab,col,dd,k0,k1,k2,k3,k5,mN,k _ _ h1,h2.keeps k,h3⟩
structure Hd.At (H:Hd)(h:Heap):Prop where
 g:h.Ns mainGlobals H.mg
 b:h.Ns builtinsNs H.mb
 lim:h.NoLimit
 sysm:(h.get? sysModules).isSome=true
 bu:∀ x:Str,x≠"__name__"->H.mb x=bootBuiltins x
 free:∀ x∈BF,H.mg x=none
 toml:H.mg "TOMLDecodeError" = some (.ref H.toml)
 tomlC:ClsAt H.toml h
 bmain:∃ bm ob,H.mg "__builtins__" = some (.ref bm)/\bm≠builtinsNs/\h.get? bm=some ob/\ob.cls = .type "module"/\ob.dict=some builtinsNs/\ob.data = .plain
 sets:∀ k a,H.setv k=some a->∃ n,FrozAt (strKind H.prog H.w) h a (Fp k) n/\n<4096
 mp:∃ o d f,h.get? H.mpv=some o/\o.cls = .type "mappingproxy"/\o.data = .fields #[.ref d]/\(d==sysModules)=false/\h.MapOf (strKind H.prog H.w) d f /\
  ∀ x:Txt,(escT x=none->f (txt x)=none)/\∀ t,escT x=some t->∃ tk,f (txt x)=some (.str (txt t) tk)
mutual
inductive RepV (H:Hd)(h₀:Heap)(av V:List Addr)(h:Heap):PV->Value->Prop
 | none:RepV H h₀ av V h .none .none
 | bool (b:Bool):RepV H h₀ av V h (.bool b) (.bool b)
 | int (i:Int) (t:Tok):RepV H h₀ av V h (.int i) (.int i t)
 | str (s:Txt) (t:Tok):RepV H h₀ av V h (.str s) (.str (txt s) t)
 | tup {l:List PV} {a:Addr} {vs:List Value} (ha:a∉av) (hi:IsTup h a vs.toArray) (r:RepL H h₀ av V h l vs):RepV H h₀ av V h (.tup l) (.ref a)
 | lst {i:Nat} {a:Addr} (hi:V[i]? = some a):RepV H h₀ av V h (.lst i) (.ref a)
 | ints {l:List Int} {a:Addr} {vs:Array Value} (hi:h₀.IsList a vs) (hv:IntsAre vs.toList l):RepV H h₀ av V h (.ints l) (.ref a)
 | fn (k:Nat):RepV H h₀ av V h (.fn k) (.ref (H.fnv k))
 | fset (k:Nat) {a:Addr} (e:H.setv k=some a):RepV H h₀ av V h (.fset k) (.ref a)
 | mp:RepV H h₀ av V h .mp (.ref H.mpv)
 | dct {ks vs:List PV} {a:Addr} {o:Obj} {es:Array DictEntry} {ep:Nat} (ha:a∉av/\(a==sysModules)=false) (ho:h.get? a=some o) (hx:o.ExactDict) (hd:o.data = .dict es ep) (hk:KeysOf (strKind H.prog H.w) es\/KeysOf (intKind H.prog H.w) es)
   (rk:RepL H h₀ av V h ks (es.toList.map (·.key))) (rv:RepL H h₀ av V h vs (es.toList.map (·.val))):RepV H h₀ av V h (.dct ks vs) (.ref a)
inductive RepL (H:Hd)(h₀:Heap)(av V:List Addr)(h:Heap):List PV->List Value->Prop
 | nil:RepL H h₀ av V h [] []
 | cons {p:PV} {v:Value} {l:List PV} {vs:List Value} (r:RepV H h₀ av V h p v) (rs:RepL H h₀ av V h l vs):RepL H h₀ av V h (p::l) (v::vs)
end
section
variable {H:Hd}{h₀:Heap}{av V:List Addr}{h:Heap}
theorem RepL.ind {P:List PV->List Value->Prop}(h0:P [] [])(h1:∀ p v l vs,RepV H h₀ av V h p v->RepL H h₀ av V h l vs->P l vs->P (p::l) (v::vs)){l:List PV}{vs:List Value}(r:RepL H h₀ av V h l vs):P l vs:=
 RepL.rec (motive_1:=λU U U=>True) (motive_2:=λl vs U=>P l vs) trivial (λU=>trivial) (λU U=>trivial) (λU U=>trivial) (λU U U U=>trivial) (λU=>trivial) (λU U=>trivial) (λU=>trivial) (λU U U=>trivial) trivial
  (λU U U U U U U U U=>trivial) h0 (λr rs U ih=>h1 _ _ _ _ r rs ih) r
theorem RepL.length {l:List PV}{vs:List Value}(r:RepL H h₀ av V h l vs):l.length=vs.length:=
 r.ind (P:=λl vs=>l.length=vs.length) rfl λU U U U U U ih=>congrArg (·+1) ih
theorem RepL.get {l:List PV}{vs:List Value}(r:RepL H h₀ av V h l vs):∀ (i:Nat) p,l[i]? = some p->∃ v,vs[i]? = some v/\RepV H h₀ av V h p v:=
 r.ind (P:=λl vs=>∀ (i:Nat) p,l[i]? = some p->∃ v,vs[i]? = some v/\RepV H h₀ av V h p v) (λi p e=>nomatch (show none=some p from e)) λq w U U r' U ih i=>Nat.casesOn (motive:=λi=>∀ p,(q::_)[i]? = some p->∃ v,(w::_)[i]? = some v/\RepV H h₀ av V h p v) i (λp e=>⟨w,rfl,aT e▸r'⟩) λj p e=>ih j p e
theorem RepL.append {l:List PV}{vs:List Value}{l':List PV}{vs':List Value}(r:RepL H h₀ av V h l vs)(r':RepL H h₀ av V h l' vs'):RepL H h₀ av V h (l++l') (vs++vs'):=
 r.ind (P:=λl vs=>RepL H h₀ av V h (l++l') (vs++vs')) r' λU U U U q U ih=>.cons q ih
def Um (H:Hd)(h₀:Heap)(av V:List Addr)(h:Heap):PV->Value->Prop
 | .none,v=>v = .none
 | .bool b,v=>v = .bool b
 | .int i,v=>∃ t,v = .int i t
 | .str s,v=>∃ t,v = .str (txt s) t
 | .tup l,v=>∃ a vs,v = .ref a/\a∉av/\IsTup h a vs.toArray/\RepL H h₀ av V h l vs
 | .lst i,v=>∃ a,v = .ref a/\V[i]? = some a
 | .ints l,v=>∃ a vs,v = .ref a/\h₀.IsList a vs/\IntsAre vs.toList l
 | .fn k,v=>v = .ref (H.fnv k)
 | .fset k,v=>∃ a,v = .ref a/\H.setv k=some a
 | .mp,v=>v = .ref H.mpv
 | .dct ks vs,v=>∃ a o es ep,v = .ref a/\(a∉av/\(a==sysModules)=false)/\h.get? a=some o/\o.ExactDict/\o.data = .dict es ep/\(KeysOf (strKind H.prog H.w) es\/KeysOf (intKind H.prog H.w) es)/\RepL H h₀ av V h ks (es.toList.map (·.key))/\RepL H h₀ av V h vs (es.toList.map (·.val))
 | .rng _ _ _,_=>False
theorem RepV.inv {p:PV}{v:Value}(r:RepV H h₀ av V h p v):Um H h₀ av V h p v:=by
 cases r
 ·exact rfl
 ·exact rfl
 ·exact ⟨_,rfl⟩
 ·exact ⟨_,rfl⟩
 ·exact ⟨_,_,rfl,‹_›,‹_›,‹_›⟩
 ·exact ⟨_,rfl,‹_›⟩
 ·exact ⟨_,_,rfl,‹_›,‹_›⟩
 ·exact rfl
 ·exact ⟨_,rfl,‹_›⟩
 ·exact rfl
 ·exact ⟨_,_,_,_,rfl,‹_›,‹_›,‹_›,‹_›,‹_›,‹_›,‹_›⟩
def MX (H:Hd)(h₀:Heap)(av V:List Addr)(h:Heap):List PV->List Value->Prop
 | [],vs=>vs=[]
 | p::l,vs=>∃ v ws,vs=v::ws/\RepV H h₀ av V h p v/\RepL H h₀ av V h l ws
theorem RepL.inv {l:List PV}{vs:List Value}(r:RepL H h₀ av V h l vs):MX H h₀ av V h l vs:=
 r.ind (P:=MX H h₀ av V h) rfl λU U U U q qs U=>⟨_,_,rfl,q,qs⟩
theorem Dn {av' α':List Addr}{h':Heap}(ft:∀ a vs,a∉av->IsTup h a vs->a∉av'/\IsTup h' a vs)(fl:∀ (i:Nat) a,V[i]? = some a->α'[i]? = some a)(fd:∀ a o es ep,a∉av->h.get? a=some o->o.ExactDict->o.data = .dict es ep->a∉av'/\h'.get? a=some o) :
  (∀ {p:PV} {v:Value},RepV H h₀ av V h p v->RepV H h₀ av' α' h' p v)/\∀ {l:List PV} {vs:List Value},RepL H h₀ av V h l vs->RepL H h₀ av' α' h' l vs:=by
 have m1:∀ (l:List PV) (a:Addr) (vs:List Value),a∉av->IsTup h a vs.toArray->RepL H h₀ av' α' h' l vs->RepV H h₀ av' α' h' (.tup l) (.ref a):=λl a vs ha hi r=>.tup (ft a _ ha hi).1 (ft a _ ha hi).2 r
 have m2:∀ (ks vs:List PV) (a:Addr) (o:Obj) (es:Array DictEntry) (ep:Nat),(a∉av/\(a==sysModules)=false)->h.get? a=some o->o.ExactDict->o.data = .dict es ep->(KeysOf (strKind H.prog H.w) es\/KeysOf (intKind H.prog H.w) es)->RepL H h₀ av' α' h' ks (es.toList.map (·.key))->RepL H h₀ av' α' h' vs (es.toList.map (·.val))->RepV H h₀ av' α' h' (.dct ks vs) (.ref a):=
  λks vs a o es ep ha ho hx hd hk rk rv=>.dct ⟨(fd a o es ep ha.1 ho hx hd).1,ha.2⟩ (fd a o es ep ha.1 ho hx hd).2 hx hd hk rk rv
 exact ⟨λr=>RepV.rec (motive_1:=λp v U=>RepV H h₀ av' α' h' p v) (motive_2:=λl vs U=>RepL H h₀ av' α' h' l vs) .none .bool .int .str (λha hi U ih=>m1 _ _ _ ha hi ih) (λhi=>.lst (fl _ _ hi)) (λhi hv=>.ints hi hv) .fn (λk U e=>.fset k e) .mp (λha ho hx hd hk U U rk rv=>m2 _ _ _ _ _ _ ha ho hx hd hk rk rv) .nil (λU U a b=>.cons a b) r,
  λr=>RepL.rec (motive_1:=λp v U=>RepV H h₀ av' α' h' p v) (motive_2:=λl vs U=>RepL H h₀ av' α' h' l vs) .none .bool .int .str (λha hi U ih=>m1 _ _ _ ha hi ih) (λhi=>.lst (fl _ _ hi)) (λhi hv=>.ints hi hv) .fn (λk U e=>.fset k e) .mp (λha ho hx hd hk U U rk rv=>m2 _ _ _ _ _ _ ha ho hx hd hk rk rv) .nil (λU U a b=>.cons a b) r⟩
end
structure Fm where
 env:Env
 stk:List Env
 av:List Addr
 own0:List Addr
 tab:List Addr
 sc:List (Str × NameKind × Nat)
 hdl:Option Value
def Fm.own (fm:Fm):List Addr:=fm.tab++fm.own0
def Ch (H:Hd)(h:Heap)(P:Addr):Prop:=
 ∃ ps,h.get? P=some { cls:=.none,data:=.fields ps }/\(ps = #[]\/∃ c oc vs t,ps = #[rawInt H.tabPos.line,rawInt H.tabPos.col,.ref c]/\h.get? c=some oc/\oc.cls = .type "code"/\oc.data = .fields vs/\vs[1]? = some (.str H.tabQ t))
theorem Ch.keeps {H:Hd}{h h':Heap}{P:Addr}(x:Ch H h P)(k:∀ b o,h.get? b=some o->h'.get? b=some o):Ch H h' P:=by
 obtain ⟨ps,e,q⟩:=x
 refine ⟨ps,k _ _ e,?_⟩
 rcases q with q | ⟨c,oc,vs,t,q1,q2,q3⟩
 ·exact .inl q
 ·exact .inr ⟨c,oc,vs,t,q1,k _ _ q2,q3⟩
theorem Ch.same {H:Hd}{h h':Heap}{P a:Addr}(x:Ch H h P)(S:Heap.SameBut a h h')(n:∀ o vs,h.get? a=some o->o.data≠.fields vs):Ch H h' P:=by
 obtain ⟨ps,e,q⟩:=x
 refine ⟨ps,(S.2 P λz=>n _ ps (z▸e) rfl).trans e,?_⟩
 rcases q with q | ⟨c,oc,vs,t,q1,q2,q3,q4,q5⟩
 ·exact .inl q
 ·exact .inr ⟨c,oc,vs,t,q1,(S.2 c λz=>n oc vs (z▸q2) q4).trans q2,q3,q4,q5⟩
def frs (stk:List Env):List Addr:=stk.filterMap (·.frame)
structure Rel (stk:List Env)(own V:List Addr)(h h':Heap):Prop where
 keep:∀ b o,h.get? b=some o->b∉frs stk->b∉own->b∉V->h'.get? b=some o
 slot:∀ b o,h.get? b=some o->b∈frs stk->b∉own->b∉V->∃ sl,h'.get? b=some { o with slots:=sl }
 live:∀ b,h'.get? b=none->h.get? b=none
theorem Rel.refl (stk:List Env)(own V:List Addr)(h:Heap):Rel stk own V h h:=⟨λU U e U U U=>e,λU o e U U U=>⟨o.slots,e⟩,λU e=>e⟩
theorem Rel.of_keeps {stk:List Env}{own V:List Addr}{h h':Heap}(k:∀ b o,h.get? b=some o->h'.get? b=some o):Rel stk own V h h':=
 ⟨λb o e U U U=>k b o e,λb o e U U U=>⟨o.slots,k b o e⟩,λb e=>by
  cases q:h.get? b with
  | none=>rfl
  | some o=>rw [k b o q] at e;cases e⟩
theorem Rel.mono {stk:List Env}{own own' V:List Addr}{h h':Heap}(x:Rel stk own V h h')(k:∀ b∈own,b∈own'):Rel stk own' V h h':=
 ⟨λb o e h1 h2 h3=>x.keep b o e h1 (λq=>h2 (k b q)) h3,λb o e h1 h2 h3=>x.slot b o e h1 (λq=>h2 (k b q)) h3,x.live⟩
theorem Rel.trans {stk:List Env}{own V α':List Addr}{h₁ W2 w3:Heap}(x:Rel stk own V h₁ W2)(y:Rel stk own α' W2 w3)(n:∀ a∈α',a∉V->h₁.get? a=none):Rel stk own V h₁ w3:=by
 have q:∀ b o,h₁.get? b=some o->b∉V->b∉α':=λb o e h1 h2=>by rw [n b h2 h1] at e;cases e
 refine ⟨λb o e h1 h2 h3=>y.keep b o (x.keep b o e h1 h2 h3) h1 h2 (q b o e h3),λb o e h1 h2 h3=>?_,λb e=>x.live b (y.live b e)⟩
 obtain ⟨sl,W1⟩:=x.slot b o e h1 h2 h3
 obtain ⟨sl',Z3⟩:=y.slot b _ W1 h1 h2 (q b o e h3)
 exact ⟨sl',Z3⟩
structure Grow (V α':List Addr)(h:Heap):Prop where
 pre:V <+: α'
 new:∀ a∈α',a∉V->h.get? a=none
theorem Grow.refl (V:List Addr)(h:Heap):Grow V V h:=⟨prefix_refl _,λa h1 h2=>absurd h1 h2⟩
theorem Grow.trans {V α' α'':List Addr}{h h':Heap}{stk:List Env}{own:List Addr}(x:Grow V α' h)(y:Grow α' α'' h')(r:Rel stk own V h h'):Grow V α'' h:=
 ⟨x.pre.trans y.pre,λa h1 h2=>by
  by_cases q:a∈α'
  ·exact x.new a q h2
  ·exact r.live a (y.new a h1 q)⟩
inductive OptRep (H:Hd)(h₀:Heap)(av V:List Addr)(h:Heap):Option PV->Option Value->Prop
 | none:OptRep H h₀ av V h none none
 | some {p:PV} {v:Value} (r:RepV H h₀ av V h p v):OptRep H h₀ av V h (some p) (some v)
structure ListsAt (H:Hd)(h₀:Heap)(av V:List Addr)(st:List (List PV))(h:Heap):Prop where
 len:V.length=st.length
 at_:∀ (i:Nat) (l:List PV),st[i]? = some l->∃ a vs,V[i]? = some a/\h.PlainList a vs.toArray/\RepL H h₀ av V h l vs
 nodup:V.Nodup
 fresh:∀ a∈V,h₀.get? a=none
 apart:∀ a∈V,a∉av
structure Inv (H:Hd)(h₀:Heap)(fm:Fm)(V:List Addr)(ps:PS)(h:Heap):Prop where
 base:∀ b o,h₀.get? b=some o->h.get? b=some o
 loc:∃ m,h.Ns fm.env.locals m/\∀ x i,(x,NameKind.local,i)∈fm.sc->OptRep H h₀ fm.av V h (ps.loc i) (m x)
 cel:∀ x k i,(x,k,i)∈fm.sc->(k = .cell\/k = .free)->∃ c v,fm.env.cells.lookup x=some c/\c∈fm.av/\c≠fm.env.locals/\h.IsCell c v/\OptRep H h₀ fm.av V h (ps.loc i) v
 lists:ListsAt H h₀ fm.av V ps.st h
 live:∀ a∈fm.av,(h.get? a).isSome=true
 frames:h.FunFrames ⟨#[],{}⟩ fm.stk
 tabs:∀ P∈fm.tab,Ch H h P
structure FmOk (h₀:Heap)(fm:Fm):Prop where
 kind:fm.env.scope.kind = .function
 glob:fm.env.globals=mainGlobals
 bi:fm.env.builtins=builtinsNs
 locAv:fm.env.locals∈fm.av
 locOwn:fm.env.locals∈fm.own
 ownAv:∀ a∈fm.own,a∈fm.av
 frsAv:∀ a∈frs fm.stk,a∈fm.av
 fresh:∀ a∈fm.av,h₀.get? a=none
 kinds:∀ x k i,(x,k,i)∈fm.sc->fm.env.kindOf x=some k\/(k = .free/\fm.env.kindOf x=some .cell)
 once:∀ x k i y k' j,(x,k,i)∈fm.sc->(y,k',j)∈fm.sc->(i=j↔x=y)
 cellOwn:∀ x i c,(x,NameKind.cell,i)∈fm.sc->fm.env.cells.lookup x=some c->c∈fm.own
 cellApart:∀ x k i y k' j c,(x,k,i)∈fm.sc->(y,k',j)∈fm.sc->fm.env.cells.lookup x=some c->fm.env.cells.lookup y=some c->x=y
 frame:∃ e r,fm.stk=e::r/\e.frame=fm.env.frame/\fm.env.frame.isSome=true
theorem FmOk.tabAv {h₀:Heap}{fm:Fm}(F:FmOk h₀ fm):∀ b∈fm.tab,b∈fm.av:=λb m=>F.ownAv b (mem_append_left _ m)
theorem FmOk.kindX {h₀:Heap}{fm:Fm}(F:FmOk h₀ fm){x:Str}{k:NameKind}{i:Nat}(h:(x,k,i)∈fm.sc)(n:k≠.free):fm.env.kindOf x=some k:=by
 rcases F.kinds x k i h with q | q
 ·exact q
 ·exact absurd q.1 n
theorem C8 {h:Heap}{a:Addr}{vs ws:Array Value}(x:IsTup h a vs)(y:h.IsList a ws):False:=by
 obtain ⟨o,h1,h2,_⟩:=x
 obtain ⟨o',h1',h2',_⟩:=y
 rw [h1] at h1';cases h1'
 rw [h2] at h2';exact absurd h2' (by decide)
section
variable {H:Hd}{h₀ h h':Heap}{fm:Fm}{V α':List Addr}{own:List Addr}
theorem ListsAt.isList {av:List Addr}{st:List (List PV)}(x:ListsAt H h₀ av V st h){a:Addr}(m:a∈V):∃ vs,h.IsList a vs:=by
 obtain ⟨i,hi,e⟩:=List.getElem_of_mem m
 obtain ⟨a',vs,h1,h2,_⟩:=x.at_ i _ (getElem?_eq_getElem (x.len▸hi))
 rw [getElem?_eq_getElem hi,e] at h1
 cases h1
 exact ⟨_,h2.isList⟩
theorem H0 {av:List Addr}{st:List (List PV)}{stk:List Env}(L:ListsAt H h₀ av V st h)(r:Rel stk own V h h')(g:V <+: α')(hf:∀ b∈frs stk,b∈av)(ho':∀ b∈own,b∈av) :
  (∀ {p:PV} {v:Value},RepV H h₀ av V h p v->RepV H h₀ av α' h' p v)/\∀ {l:List PV} {vs:List Value},RepL H h₀ av V h l vs->RepL H h₀ av α' h' l vs:=by
 refine Dn (λa vs ha hi=>⟨ha,?_⟩) (λi a hi=>?_) λa o es ep ha ho hx hd=>⟨ha,r.keep _ _ ho (λq=>ha (hf _ q)) (λq=>ha (ho' _ q)) λq=>?_⟩
 ·obtain ⟨o,e1,e2,e3⟩:=hi
  refine ⟨o,r.keep _ _ e1 (λq=>ha (hf _ q)) (λq=>ha (ho' _ q)) (λq=>?_),e2,e3⟩
  obtain ⟨ws,hl⟩:=L.isList q
  exact C8 ⟨o,e1,e2,e3⟩ hl
 ·obtain ⟨t,rfl⟩:=g
  rw [getElem?_append_left (List.getElem?_eq_some_iff.mp hi).1];exact hi
 ·obtain ⟨ws,o',e1,e2,_⟩:=L.isList q
  rw [ho] at e1;cases e1
  rw [hx.1] at e2;exact absurd e2 (by decide)
theorem RepV.stays {av:List Addr}{st:List (List PV)}{stk:List Env}(L:ListsAt H h₀ av V st h)(r:Rel stk own V h h')(g:V <+: α')(hf:∀ b∈frs stk,b∈av)(ho':∀ b∈own,b∈av){p:PV}{v:Value}(x:RepV H h₀ av V h p v):RepV H h₀ av α' h' p v:=(H0 L r g hf ho').1 x
theorem RepL.stays {av:List Addr}{st:List (List PV)}{stk:List Env}(L:ListsAt H h₀ av V st h)(r:Rel stk own V h h')(g:V <+: α')(hf:∀ b∈frs stk,b∈av)(ho':∀ b∈own,b∈av){l:List PV}{vs:List Value}(x:RepL H h₀ av V h l vs):RepL H h₀ av α' h' l vs:=(H0 L r g hf ho').2 x
theorem OptRep.map {av av' V α':List Addr}{h h':Heap}(f:∀ {p v},RepV H h₀ av V h p v->RepV H h₀ av' α' h' p v){p:Option PV}{v:Option Value}(r:OptRep H h₀ av V h p v):OptRep H h₀ av' α' h' p v:=by
 cases r with
 | none=>exact .none
 | some q=>exact .some (f q)
theorem OptRep.stays {av:List Addr}{st:List (List PV)}{stk:List Env}(L:ListsAt H h₀ av V st h)(r:Rel stk own V h h')(g:V <+: α')(hf:∀ b∈frs stk,b∈av)(ho:∀ b∈own,b∈av)
  {p:Option PV} {v:Option Value} (x:OptRep H h₀ av V h p v):OptRep H h₀ av α' h' p v:=x.map λq=>q.stays L r g hf ho
end
end Mi
end
set_option backward.match.sparseCases false
section
open PySem PySem.W PyProof.Rows
namespace Mi
set_option genCtorIdx true in
inductive PFlow where
 | next | brk | cont
 | ret (v:PV)
 deriving Inhabited
def big:Nat:=16777216
def ao (l:List PV):M PV:=λs=>if l.length<=big then .ok (.lst s.st.length) { s with st:=s.st++[l] } else .stuck
def ar (i:Nat):M (List PV):=λs=>match s.st[i]? with
 | some l=>.ok l s
 | none=>.stuck
def aI (i:Nat)(l:List PV):M Unit:=λs=>if l.length<=big then .ok () { s with st:=s.st.set i l } else .stuck
def au (t:Txt):M PV:=λs=>if t.length<=big then .ok (.str t) s else .stuck
def ag:List (M PV)->M (List PV)
 | []=>ae []
 | m::r=>ac m λv=>ac (ag r) λvs=>ae (v::vs)
def idx (i:Int)(n:Nat):Option Nat:=
 if 0<=i then (if i.toNat<n then some i.toNat else none) else if 0<=i+n then some (i+n).toNat else none
def bnd (i:Int)(n:Nat):Nat:=if 0<=i then min i.toNat n else (i+n).toNat
def slc {V:Type}(l:List V)(a b:Option Int):List V:=
 let lo:=match a with | some i=>bnd i l.length | none=>0
 let hi:=match b with | some i=>bnd i l.length | none=>l.length
 (l.take hi).drop lo
def Ah (i:Int):Bool:=i.natAbs<1073741824
def asI:PV->Option Int
 | .int i=>some i
 | _=>none
def asS:PV->Option Txt
 | .str s=>some s
 | _=>none
def asL:PV->Option Nat
 | .lst i=>some i
 | _=>none
theorem A6 {p:PV}{i:Int}(h:asI p=some i):p = .int i:=by cases p <;> first | (injection h;done) | (injection h with h;rw [h])
theorem Bg {p:PV}{i:Txt}(h:asS p=some i):p = .str i:=by cases p <;> first | (injection h;done) | (injection h with h;rw [h])
theorem Lr {p:PV}{i:Nat}(h:asL p=some i):p = .lst i:=by cases p <;> first | (injection h;done) | (injection h with h;rw [h])
def ap {V β:Type}:Option V->(V->M β)->M β
 | some a,f=>f a
 | none,_=>aq
theorem AV {V β:Type}{o:Option V}{f:V->M β}{ps:PS}(ns:ap o f ps≠.stuck):∃ a,o=some a:=by
 cases o with
 | none=>exact absurd rfl ns
 | some a=>exact ⟨a,rfl⟩
theorem Un {V β:Type}{o:Option V}{f:V->M β}{ps ps':PS}{r:β}(e:ap o f ps = .ok r ps'):∃ a,o=some a:=AV λq=>by rw [q] at e;injection e
def un {β:Type}:List PV->(PV->List PV->Option β)->Option β
 | [],_=>none
 | p::r,f=>f p r
theorem EO {β:Type}{l:List PV}{f:PV->List PV->Option β}{b:β}(h:un l f=some b):∃ p r,l=p::r/\f p r=some b:=by
 cases l with
 | nil=>injection h
 | cons p r=>exact ⟨p,r,rfl,h⟩
def aH {β:Type}(l:List PV)(f:PV->M β):M β:=match l with
 | []=>aq
 | p::r=>match r with
  | []=>f p
  | _::_=>aq
theorem IP {β:Type}{l:List PV}{f:PV->M β}{ps:PS}(ns:aH l f ps≠.stuck):∃ p,l=[p]:=by
 cases l with
 | nil=>exact absurd rfl ns
 | cons p r=>
  cases r with
  | nil=>exact ⟨p,rfl⟩
  | cons=>exact absurd rfl ns
def one:Txt->Option Nat
 | []=>none
 | c::r=>cond r.isEmpty (some c) none
theorem Fq {β γ:Type}{r:List β}{x y:γ}(h:cond r.isEmpty (some x) none=some y):r=[]/\x=y:=by
 cases r with
 | nil=>exact ⟨rfl,aT h⟩
 | cons=>injection h
theorem EP {x:Txt}{c:Nat}(h:one x=some c):x=[c]:=by
 cases x with
 | nil=>injection h
 | cons d r=>obtain ⟨e1,e2⟩:=Fq h;rw [e1,e2]
def By (f:Int->Int->M PV)(a b:PV):M PV:=ap (asI a) λi=>ap (asI b) (f i)
theorem MY {V β γ:Type}{o:Option V}{q:Option β}{f:V->β->M γ}{ps:PS}(ns:ap o (λi=>ap q (f i)) ps≠.stuck):∃ i j,o=some i/\q=some j:=by
 obtain ⟨i,e⟩:=AV ns
 rw [e] at ns
 obtain ⟨j,e'⟩:=AV (o:=q) (f:=f i) ns
 exact ⟨i,j,e,e'⟩
theorem Bz {f:Int->Int->M PV}{a b:PV}{ps:PS}(ns:By f a b ps≠.stuck):∃ i j,a = .int i/\b = .int j:=by
 obtain ⟨i,j,e,e'⟩:=MY ns
 exact ⟨i,j,A6 e,A6 e'⟩
def aN {V β:Type}(o:Option V)(f:V->M β)(g:M β):M β:=match o with
 | some a=>f a
 | none=>g
def Sk (a b:PV):M PV:=aN (asI a) (λi=>ap (asI b) λj=>ae (.int (i+j))) <| aN (asS a) (λs=>ap (asS b) λt=>au (s++t)) <| ap (asL a) λi=>ap (asL b) λj=>ac (ar i) λx=>ac (ar j) λy=>ao (x++y)
theorem MZ {V β γ δ α' β' γ':Type}{o:Option V}{q:Option β}{r:Option γ}{o':Option α'}{q':Option β'}{r':Option γ'}{f:V->α'->M δ}{g:β->β'->M δ}{k:γ->γ'->M δ}{ps:PS}
  (ns:aN o (λi=>ap o' (f i)) (aN q (λi=>ap q' (g i)) (ap r λi=>ap r' (k i))) ps≠.stuck):(∃ i j,o=some i/\o'=some j)\/(∃ i j,q=some i/\q'=some j)\/∃ i j,r=some i/\r'=some j:=by
 cases o with
 | some i=>obtain ⟨j,e⟩:=AV (f:=f i) ns;exact .inl ⟨i,j,rfl,e⟩
 | none=>
  cases q with
  | some i=>obtain ⟨j,e⟩:=AV (f:=g i) ns;exact .inr (.inl ⟨i,j,rfl,e⟩)
  | none=>exact .inr (.inr (MY ns))
theorem Sl {a b:PV}{ps:PS}(ns:Sk a b ps≠.stuck):(∃ i j,a = .int i/\b = .int j)\/(∃ i j,a = .str i/\b = .str j)\/∃ i j,a = .lst i/\b = .lst j:=by
 rcases MZ ns with ⟨i,j,e,e'⟩ | ⟨i,j,e,e'⟩ | ⟨i,j,e,e'⟩
 ·exact .inl ⟨i,j,A6 e,A6 e'⟩
 ·exact .inr (.inl ⟨i,j,Bg e,Bg e'⟩)
 ·exact .inr (.inr ⟨i,j,Lr e,Lr e'⟩)
def V2:PV->PV->M PV:=By λa b=>ae (.int (a - b))
def V3:PV->PV->M PV:=By λa b=>ak (Ah a||Ah b) (ae (.int (a*b)))
def V4:PV->PV->M PV:=By λa b=>ak (b != 0&&Ah b) (ae (.int (a.fdiv b)))
def V5:PV->PV->M PV:=By λa b=>ak (b != 0&&Ah b) (ae (.int (a.fmod b)))
def V6:PV->PV->M PV:=By λa b=>ak (2<=a&&a<=16&&0<=b&&b<=16) (ae (.int (a ^ b.toNat)))
def Aj:Operator->PV->PV->M PV
 | .Add=>Sk
 | .Sub=>V2
 | .Mult=>V3
 | .FloorDiv=>V4
 | .Mod=>V5
 | .Pow=>V6
 | _=>λU U=>aq
def truP:PV->Option Bool
 | .bool b=>some b
 | _=>none
mutual
noncomputable def toD (st:List (List PV)):Nat->PV->Option PyData
 | 0,_=>none
 | _+1,.none=>some .none
 | _+1,.bool b=>some (.bool b)
 | _+1,.int i=>some (.int i)
 | _+1,.str s=>some (.str (txt s))
 | n+1,.tup l=>(DA st n l).map .tuple
 | n+1,.lst i=>match st[i]? with
  | some l=>(DA st n l).map .list
  | none=>none
 | _+1,_=>none
noncomputable def DA (st:List (List PV)):Nat->List PV->Option (List PyData)
 | 0,_=>none
 | _+1,[]=>some []
 | n+1,p::r=>match toD st n p,DA st n r with
  | some d,some ds=>some (d::ds)
  | _,_=>none
end
def opE {V β:Type}(o:Option V)(f:V->β)(g:β):β:=match o with
 | some a=>f a
 | none=>g
def eqT (a b:PV):Option Bool:=opE (asS a) (λs=>opE (asS b) (λt=>some (s==t)) ((asI b).map λU=>false)) <| (asI a).bind λi=>opE (asI b) (λj=>some (i==j)) ((asS b).map λU=>false)
theorem PM {a b:PV}{r:Bool}(h:eqT a b=some r):(∃ s t,a = .str s/\b = .str t/\(s==t)=r)\/(∃ i j,a = .int i/\b = .int j/\(i==j)=r)\/(∃ i t,a = .int i/\b = .str t/\false=r)\/∃ s j,a = .str s/\b = .int j/\false=r:=by
 have h:opE (asS a) (λs=>opE (asS b) (λt=>some (s==t)) ((asI b).map λU=>false)) ((asI a).bind λi=>opE (asI b) (λj=>some (i==j)) ((asS b).map λU=>false))=some r:=h
 cases ea:asS a with
 | some s=>
  rw [ea] at h
  cases eb:asS b with
  | some t=>rw [eb] at h;exact .inl ⟨s,t,Bg ea,Bg eb,aT h⟩
  | none=>
   rw [eb] at h
   obtain ⟨j,e,q⟩:=aU.mp h
   exact .inr (.inr (.inr ⟨s,j,Bg ea,A6 e,q⟩))
 | none=>
  rw [ea] at h
  obtain ⟨i,e,h⟩:=aV.mp h
  cases eb:asI b with
  | some j=>rw [eb] at h;exact .inr (.inl ⟨i,j,A6 e,A6 eb,aT h⟩)
  | none=>
   rw [eb] at h
   obtain ⟨t,e',q⟩:=aU.mp h
   exact .inr (.inr (.inl ⟨i,t,A6 e,Bg e',q⟩))
def eqP (a b:PV):M Bool:=λs=>match eqT a b with
 | some r=>.ok r s
 | none=>match toD s.st 64 a,toD s.st 64 b with
  | some x,some y=>if SeqAt.shaped x&&SeqAt.shaped y then .ok (PyData.eqv x y) s else .stuck
  | _,_=>.stuck
def eqI (a b:PV):Option Bool:=opE (asS a) (λs=>(asS b).map (s==·)) <| (asI a).bind λi=>(asI b).map (i==·)
def CO (ks vs:List PV)(x:PV):Option (Option PV):=match ks,vs with
 | [],_=>some none
 | k::ks,v::vs=>match eqI k x with
  | some true=>some (some v)
  | some false=>CO ks vs x
  | none=>none
 | _,_=>none
def C9 (ks vs:List PV)(x:PV):Option (Option PV):=if ks.isEmpty then none else CO ks vs x
def inP (x y:PV):M Bool:=match y with
 | .fset k=>ap (asS x) λa=>ae (JU k a)
 | .dct ks vs=>aB ((C9 ks vs x).map (·.isSome))
 | _=>aq
def IQ:PV->Bool
 | .none=>true
 | _=>false
def isP (g:PV->Bool):PV->PV->M PV
 | a,.none=>ae (.bool (g a))
 | _,_=>aq
def Au:CmpOp->PV->PV->M PV
 | .Eq=>λa b=>ac (eqP a b) λr=>ae (.bool r)
 | .NotEq=>λa b=>ac (eqP a b) λr=>ae (.bool !r)
 | .Lt=>By λa b=>ae (.bool (decide (a<b)))
 | .LtE=>By λa b=>ae (.bool (decide (a<=b)))
 | .Gt=>By λa b=>ae (.bool (decide (a>b)))
 | .GtE=>By λa b=>ae (.bool (decide (a≥b)))
 | .In=>λa b=>ac (inP a b) λr=>ae (.bool r)
 | .NotIn=>λa b=>ac (inP a b) λr=>ae (.bool !r)
 | .Is=>isP IQ
 | .IsNot=>isP λa=>!IQ a
def As (hd:Bool)(a b:PV):M PV:=match a with
 | .str s=>ap (asI b) λi=>ak (Ah i) (match idx i s.length with
  | some j=>ae (.str [s.getD j 0])
  | none=>aJ hd "IndexError")
 | .lst a=>ap (asI b) λi=>ak (Ah i) (ac (ar a) λl=>aB ((idx i l.length).bind (l[·]?)))
 | .dct ks vs=>aB ((C9 ks vs b).bind id)
 | .mp=>ap (asS b) λs=>match escT s with
  | some t=>ae (.str t)
  | none=>aJ hd "KeyError"
 | _=>aq
def AT (a b:Option Int):PV->M PV
 | .str s=>au (slc s a b)
 | .lst i=>ac (ar i) λl=>ak (l.length<=big) (ao (slc l a b))
 | _=>aq
def Sm (a b:PV):M PV:=aN (asI a) (λi=>ap (asI b) λj=>ae (.int (i+j))) <| ap (asS a) λs=>ap (asS b) λt=>au (s++t)
theorem Sn {a b:PV}{ps:PS}(ns:Sm a b ps≠.stuck):(∃ i j,a = .int i/\b = .int j)\/∃ i j,a = .str i/\b = .str j:=by
 rcases MZ (o:=none (α:=Int)) (o':=none (α:=Int)) (f:=λU U=>aq) ns with ⟨_,_,e,_⟩ | ⟨i,j,e,e'⟩ | ⟨i,j,e,e'⟩
 ·injection e
 ·exact .inl ⟨i,j,A6 e,A6 e'⟩
 ·exact .inr ⟨i,j,Bg e,Bg e'⟩
def BG:Operator->PV->PV->M PV
 | .Add=>Sm
 | .Sub=>By λa b=>ae (.int (a - b))
 | .FloorDiv=>By λa b=>ak (b != 0&&Ah b) (ae (.int (a.fdiv b)))
 | _=>λU U=>aq
def aj (m:M PFlow)(r:M PFlow):M PFlow:=ac m λf=>match f with
 | .next=>r
 | f=>ae f
def az (t:M Bool)(b:M PFlow):Nat->M PFlow
 | 0=>aq
 | k+1=>ac t λc=>if c then ac b λf=>match f with
   | .next=>az t b k
   | .cont=>az t b k
   | .brk=>ae .next
   | .ret v=>ae (.ret v)
  else ae .next
def B7:PV->Nat->M (Option PV)
 | .lst i,k=>ac (ar i) λl=>ae l[k]?
 | .str s,k=>ae ((s[k]?).map λc=>.str [c])
 | _,_=>aq
def FR:PV->M (Nat->M (Option PV))
 | .lst i=>ae (B7 (.lst i))
 | .str s=>ae (B7 (.str s))
 | _=>aq
def BP (a b:Int)(k:Nat):M (Option PV):=ae (if (k:Int)<b - a then some (.int (a+k)) else none)
def Vk (l:List PV):Option (Option Int × Int):=un l λp r=>(asI p).bind λi=>match r with
 | []=>some (none,i)
 | q::r=>(asI q).bind λj=>cond r.isEmpty (some (some i,j)) none
theorem So {l:List PV}{x:Option Int × Int}(h:Vk l=some x):(l=[.int x.2]/\x.1=none)\/∃ a,l=[.int a,.int x.2]/\x.1=some a:=by
 obtain ⟨p,r,rfl,h⟩:=EO h
 obtain ⟨i,e,h⟩:=aV.mp h
 rw [A6 e]
 cases r with
 | nil=>obtain rfl:=aT h;exact .inl ⟨rfl,rfl⟩
 | cons q r=>
  obtain ⟨j,e',h⟩:=aV.mp h
  obtain ⟨e1,rfl⟩:=Fq h
  rw [A6 e',e1]
  exact .inr ⟨i,rfl,rfl⟩
def CD (l:List PV):M (Nat->M (Option PV)):=ap (Vk l) λx=>match x.1 with
 | none=>ak (Ah x.2) (ae (BP 0 x.2))
 | some a=>ak (Ah a&&Ah x.2) (ae (BP a x.2))
def aD:List (PV->M Unit)->List PV->M Unit
 | [],[]=>ae ()
 | f::fs,v::vs=>ac (f v) λU=>aD fs vs
 | _,_=>aq
def aC (fs:List (PV->M Unit)):PV->M Unit
 | .tup l=>ak (l.length==fs.length) (aD fs l)
 | .lst i=>ac (ar i) λl=>ak (l.length==fs.length) (aD fs l)
 | _=>aq
def aG (get:Nat->M (Option PV))(t:PV->M Unit)(b:M PFlow):Nat->Nat->M PFlow
 | 0,_=>aq
 | f+1,k=>ac (get k) λo=>match o with
  | none=>ae .next
  | some p=>ac (t p) λU=>ac b λfl=>match fl with
   | .next=>aG get t b f (k+1)
   | .cont=>aG get t b f (k+1)
   | .brk=>ae .next
   | .ret v=>ae (.ret v)
def Oe (l:List PV):M PV:=ak (l.length<=big) (ae (.tup l))
def BA (i:Int):Txt:=(Str.ofString (toString i)).cps.toList
def V7:PV->M PV
 | .str s=>ak (s.length<=big) (ae (.int s.length))
 | .lst i=>ac (ar i) λl=>ak (l.length<=big) (ae (.int l.length))
 | .ints l=>ak (l.length<=big) (ae (.int l.length))
 | _=>aq
def Cp (l:List PV):M PV:=aH l V7
def HG (l:List PV):M PV:=aH l λp=>ap (asI p) λi=>ak (0<=i&&i<=1114111) (ae (.str [i.toNat]))
def Ls (l:List PV):M PV:=aH l λp=>ap (asS p) λs=>ap (one s) λc=>ae (.int c)
def Lu (l:List PV):M PV:=aH l λp=>ap (asI p) λi=>ak (Ah i) (ae (.str (BA i)))
def Vl:PV->M PV
 | .str s=>ao (s.map λc=>.str [c])
 | .ints l=>ao (l.map .int)
 | _=>aq
def M0 (l:List PV):M PV:=aH l Vl
def AM:Option (M PV)->M (Option Int)
 | none=>ae none
 | some m=>ac m λv=>match v with
  | .int i=>ae (some i)
  | _=>aq
def Of:PFlow->PV
 | .ret v=>v
 | _=>.none
def am (m:M PFlow)(l:List PV):M PV:=λs=>match m ⟨λi=>l[i]?,s.st⟩ with
 | .ok f s'=>.ok (Of f) ⟨s.loc,s'.st⟩
 | .ex e s'=>.ex e ⟨s.loc,s'.st⟩
 | .stuck=>.stuck
def aE (X:PX->Option (M PFlow))(m:M PFlow):M PFlow:=λs=>match m s with
 | .ok f s'=>.ok f s'
 | .ex e s'=>match X e with
  | some h=>h s'
  | none=>.stuck
 | .stuck=>.stuck
def H1 (n:String)(h:M PFlow):PX->Option (M PFlow)
 | .std m=>if m=n then some h else none
 | _=>none
def PO (h:Txt->M PFlow):PX->Option (M PFlow)
 | .toml t=>some (h t)
 | _=>none
def aK (m:M PFlow):M PFlow:=λs=>match m s with
 | .ok f s'=>.ok f s'
 | _=>.stuck
def Ec:PV->M PV
 | .str s=>au s
 | .int i=>ak (Ah i) (ae (.str (BA i)))
 | _=>aq
def AY (s:Txt):Txt:=(reprText (txt s)).cps.toList
def GI:PV->M PV
 | .str s=>au (AY s)
 | _=>aq
def ay:List (M PV)->Txt->M PV
 | [],acc=>au acc
 | m::r,acc=>ac m λv=>match v with
  | .str t=>ak ((acc++t).length<=big) (ay r (acc++t))
  | _=>aq
end Mi
end
section
open PySem PySem.W PyProof.Rows
set_option maxRecDepth 10000
namespace Mi
structure Wd where
 H:Hd
 h₀:Heap
 gens:Array GenState
 os:OsState
def Wd.cls (W:Wd):PX->Value
 | .std n=>.type n
 | .toml _=>.ref W.H.toml
abbrev Wd.rep (W:Wd)(fm:Fm)(V:List Addr)(h:Heap)(p:PV)(v:Value):Prop:=RepV W.H W.h₀ fm.av V h p v
structure InvS (W:Wd)(fm:Fm)(V:List Addr)(ps:PS)(s:Shared):Prop where
 inv:Inv W.H W.h₀ fm V ps s.heap
 gens:s.gens=W.gens
 os:s.os=W.os
def EQ (start h:Heap)(e:PX)(v:Option Value):Prop:=match e with
 | .std n=>n≠"code"
 | .toml m=>∃ t tk,v=some (.ref t)/\start.get? t=none/\IsTup h t #[.str (txt m) tk]
def CZ (o:Obj):Prop:=o.cls≠.none/\o.cls≠.type "code"
inductive HasTb (start h:Heap)(a:Addr)(v:Option Value):Prop
 | mk (T:Addr) (oT:Obj) (ts:Array Value) (k1:v=some (.ref T)) (k2:T≠a) (k3:h.get? T=some oT) (k4:oT.data = .fields ts) (k5:3<ts.size) (k6:start.get? T=none) (k7:CZ oT):HasTb start h a v
def Sq (start h:Heap)(a:Addr)(v:Option Value):Prop:=v=some .none\/HasTb start h a v
def TR (e:PX)(v:Option Value):Prop:=match e with
 | .std _=>v=some .none
 | .toml _=>True
inductive Raised (W:Wd)(start h:Heap)(e:PX)(x:Value):Prop
 | mk (a:Addr) (oe:Obj) (vs:Array Value) (k1:x = .ref a) (k2:h.get? a=some oe) (k3:oe.cls=W.cls e) (k4:oe.data = .fields vs) (k5:5<vs.size) (k6:start.get? a=none) (k7:EQ start h e vs[0]?) (k8:Sq start h a vs[1]?) (k9:TR e vs[2]?):Raised W start h e x
inductive RaisedN (W:Wd)(start h:Heap)(e:PX)(x:Value):Prop
 | mk (a:Addr) (oe:Obj) (vs:Array Value) (k1:x = .ref a) (k2:h.get? a=some oe) (k3:oe.cls=W.cls e) (k4:oe.data = .fields vs) (k5:5<vs.size) (k6:start.get? a=none) (k7:EQ start h e vs[0]?) (k8:HasTb start h a vs[1]?) (k9:TR e vs[2]?):RaisedN W start h e x
theorem RaisedN.raised {W:Wd}{start h:Heap}{e:PX}{x:Value}(r:RaisedN W start h e x):Raised W start h e x:=by
 obtain ⟨a,oe,vs,h1,h2,h3,h4,h5,h6,h7,h8,h9⟩:=r
 exact ⟨a,oe,vs,h1,h2,h3,h4,h5,h6,h7,.inr h8,h9⟩
inductive OkE (W:Wd)(fm:Fm)(V:List Addr)(h:Heap)(r:R PV)(v:Value)(s':Shared):Prop
 | mk (p:PV) (ps':PS) (α':List Addr) (k1:r = .ok p ps') (k2:InvS W fm α' ps' s') (k3:Grow V α' h) (k4:Rel fm.stk fm.tab V h s'.heap) (k5:W.rep fm α' s'.heap p v):OkE W fm V h r v s'
inductive ExE (W:Wd)(fm:Fm)(V:List Addr)(h:Heap){β:Type}(r:R β)(x:Value)(s':Shared):Prop
 | mk (e:PX) (ps':PS) (α':List Addr) (k1:r = .ex e ps') (k2:InvS W fm α' ps' s') (k3:Grow V α' h) (k4:Rel fm.stk fm.tab V h s'.heap) (k5:Raised W h s'.heap e x):ExE W fm V h r x s'
inductive FlowRep (W:Wd)(fm:Fm)(V:List Addr)(h:Heap):PFlow->Flow->Prop
 | next:FlowRep W fm V h .next .next
 | brk:FlowRep W fm V h .brk .brk
 | cont:FlowRep W fm V h .cont .cont
 | ret {p:PV} {v:Value} (r:W.rep fm V h p v):FlowRep W fm V h (.ret p) (.ret v)
inductive OkS (W:Wd)(fm:Fm)(V:List Addr)(h:Heap)(r:R PFlow)(f:Flow)(s':Shared):Prop
 | mk (p:PFlow) (ps':PS) (α':List Addr) (k1:r = .ok p ps') (k2:InvS W fm α' ps' s') (k3:Grow V α' h) (k4:Rel fm.stk fm.own V h s'.heap) (k5:FlowRep W fm α' s'.heap p f):OkS W fm V h r f s'
inductive ExS (W:Wd)(fm:Fm)(V:List Addr)(h:Heap){β:Type}(r:R β)(x:Value)(s':Shared):Prop
 | mk (e:PX) (ps':PS) (α':List Addr) (k1:r = .ex e ps') (k2:InvS W fm α' ps' s') (k3:Grow V α' h) (k4:Rel fm.stk fm.own V h s'.heap) (k5:Raised W h s'.heap e x):ExS W fm V h r x s'
structure Ctx (W:Wd)(fm:Fm)(n:Nat)(A:Around):Prop where
 frames:A.frames=some fm.stk
 depth:A.depth+n<990
 units:A.units+20*n+1000<cLine
 hdl:A.handled=fm.hdl
 tab:fm.tab=[W.H.tabP]
 fm:FmOk W.h₀ fm
 hd:W.H.At W.h₀
abbrev Wd.m (W:Wd):Model:=model W.H.prog W.H.w
def Ai (W:Wd)(fm:Fm)(A:Around)(V:List Addr)(ps:PS)(s:Shared)(t:Sem Value)(m:M PV):Prop:=
 wpAny W.m A t (OkE W fm V s.heap (m ps)) (ExE W fm V s.heap (m ps)) s
abbrev SimE.T (W:Wd)(n:Nat)(fm:Fm)(e:Expr)(m:M PV):Prop:=∀ A V ps s,Ctx W fm n A->InvS W fm V ps s->m ps≠.stuck->Ai W fm A V ps s (eval e fm.env) m
structure SimE (W:Wd)(n:Nat)(fm:Fm)(e:Expr)(m:M PV):Prop where
 go:SimE.T W n fm e m
noncomputable instance {W:Wd} {n:Nat} {fm:Fm} {e:Expr} {m:M PV}:CoeFun (SimE W n fm e m) (λU=>SimE.T W n fm e m):=⟨SimE.go⟩
abbrev SimS.T (W:Wd)(n:Nat)(fm:Fm)(b:List Stmt)(m:M PFlow):Prop:=∀ A V ps s,Ctx W fm n A->InvS W fm V ps s->m ps≠.stuck->wpAny W.m A (execs b fm.env) (OkS W fm V s.heap (m ps)) (ExS W fm V s.heap (m ps)) s
structure SimS (W:Wd)(n:Nat)(fm:Fm)(b:List Stmt)(m:M PFlow):Prop where
 go:SimS.T W n fm b m
noncomputable instance {W:Wd} {n:Nat} {fm:Fm} {b:List Stmt} {m:M PFlow}:CoeFun (SimS W n fm b m) (λU=>SimS.T W n fm b m):=⟨SimS.go⟩
abbrev SimT.T (W:Wd)(n:Nat)(fm:Fm)(st:Stmt)(m:M PFlow):Prop:=∀ A V ps s,Ctx W fm n A->InvS W fm V ps s->m ps≠.stuck->wpAny W.m A (exec st fm.env) (OkS W fm V s.heap (m ps)) (ExS W fm V s.heap (m ps)) s
structure SimT (W:Wd)(n:Nat)(fm:Fm)(st:Stmt)(m:M PFlow):Prop where
 go:SimT.T W n fm st m
noncomputable instance {W:Wd} {n:Nat} {fm:Fm} {st:Stmt} {m:M PFlow}:CoeFun (SimT W n fm st m) (λU=>SimT.T W n fm st m):=⟨SimT.go⟩
section
variable {W:Wd}{fm:Fm}{V α' α₁:List Addr}{h h₁:Heap}{n:Nat}{A:Around}{ps ps':PS}{s s':Shared}
theorem EQ.start {e:PX}{v:Option Value}(x:EQ h₁ h e v)(l:∀ b,h₁.get? b=none->h'.get? b=none):EQ h' h e v:=by
 cases e with
 | std n=>exact x
 | toml m=>obtain ⟨t,tk,h1,h2,h3⟩:=x;exact ⟨t,tk,h1,l t h2,h3⟩
theorem Raised.start {e:PX}{x:Value}(r:Raised W h₁ h e x)(l:∀ b,h₁.get? b=none->h'.get? b=none):Raised W h' h e x:=by
 obtain ⟨a,oe,vs,h1,h2,h3,h4,h5,h6,h7,h8,h9⟩:=r
 refine ⟨a,oe,vs,h1,h2,h3,h4,h5,l a h6,h7.start l,?_,h9⟩
 rcases h8 with q | ⟨T,oT,ts,q1,q2,q3,q4,q5,q6,q7⟩
 ·exact .inl q
 ·exact .inr ⟨T,oT,ts,q1,q2,q3,q4,q5,l T q6,q7⟩
theorem OkE.after {r:R PV}{v:Value}(q:OkE W fm α₁ h₁ r v s')(g:Grow V α₁ h)(x:Rel fm.stk fm.tab V h h₁):OkE W fm V h r v s':=by
 obtain ⟨p,ps',α',e,I,g',x',rv⟩:=q
 exact ⟨p,ps',α',e,I,g.trans g' x,x.trans x' g.new,rv⟩
theorem ExE.after {β:Type}{r:R β}{v:Value}(q:ExE W fm α₁ h₁ r v s')(g:Grow V α₁ h)(x:Rel fm.stk fm.tab V h h₁):ExE W fm V h r v s':=by
 obtain ⟨p,ps',α',e,I,g',x',rv⟩:=q
 exact ⟨p,ps',α',e,I,g.trans g' x,x.trans x' g.new,rv.start x.live⟩
theorem OkS.after {r:R PFlow}{v:Flow}(q:OkS W fm α₁ h₁ r v s')(g:Grow V α₁ h)(x:Rel fm.stk fm.own V h h₁):OkS W fm V h r v s':=by
 obtain ⟨p,ps',α',e,I,g',x',rv⟩:=q
 exact ⟨p,ps',α',e,I,g.trans g' x,x.trans x' g.new,rv⟩
theorem ExS.after {β:Type}{r:R β}{v:Value}(q:ExS W fm α₁ h₁ r v s')(g:Grow V α₁ h)(x:Rel fm.stk fm.own V h h₁):ExS W fm V h r v s':=by
 obtain ⟨p,ps',α',e,I,g',x',rv⟩:=q
 exact ⟨p,ps',α',e,I,g.trans g' x,x.trans x' g.new,rv.start x.live⟩
theorem ExE.toS {β:Type}{r:R β}{v:Value}(q:ExE W fm V h r v s'):ExS W fm V h r v s':=by
 obtain ⟨p,ps',α',e,I,g',x',rv⟩:=q
 exact ⟨p,ps',α',e,I,g',x'.mono (λU h=>mem_append_left _ h),rv⟩
theorem InvS.tok (I:InvS W fm V ps s)(t:Nat):InvS W fm V ps { s with toks:=t }:=⟨I.inv,I.gens,I.os⟩
theorem OkE.same {p:PV}{v:Value}{t:Nat}(I:InvS W fm V ps s)(r:W.rep fm V s.heap p v):OkE W fm V s.heap (.ok p ps) v { s with toks:=t }:=
 ⟨p,ps,V,rfl,I.tok t,.refl ..,.refl ..,r⟩
theorem OkE.same' {p:PV}{v:Value}(I:InvS W fm V ps s)(r:W.rep fm V s.heap p v):OkE W fm V s.heap (.ok p ps) v s:=
 ⟨p,ps,V,rfl,I,.refl ..,.refl ..,r⟩
theorem Ad {β γ:Type}{m:M β}{f:β->M γ}(h:ac m f ps≠.stuck):m ps≠.stuck:=by
 intro e;unfold ac at h;rw [e] at h;exact h rfl
theorem Ab {β γ:Type}{m:M β}{f:β->M γ}{a:β}(e:m ps = .ok a ps'):ac m f ps=f a ps':=by
 unfold ac;rw [e]
theorem Gp {β γ:Type}{m:M β}{f:β->M γ}{a:PX}(e:m ps = .ex a ps'):ac m f ps = .ex a ps':=by
 unfold ac;rw [e]
theorem ExE.bind {β γ:Type}{m:M β}{f:β->M γ}{x:Value}(q:ExE W fm V h (m ps) x s'):ExE W fm V h (ac m f ps) x s':=by
 obtain ⟨p,o0,α₁,e,I,g,x,r⟩:=q
 exact ⟨p,o0,α₁,Gp e,I,g,x,r⟩
theorem ExS.bind {β γ:Type}{m:M β}{f:β->M γ}{x:Value}(q:ExS W fm V h (m ps) x s'):ExS W fm V h (ac m f ps) x s':=by
 obtain ⟨p,o0,α₁,e,I,g,x,r⟩:=q
 exact ⟨p,o0,α₁,Gp e,I,g,x,r⟩
theorem Ai.seq {t:Sem Value}{m:M PV}{T:Value->Shared->Prop}{E:Value->Shared->Prop}(c:Ai W fm A V ps s t m)
  (hk:∀ p v α₁ o0 c0,InvS W fm α₁ o0 c0->Grow V α₁ s.heap->Rel fm.stk fm.tab V s.heap c0.heap->W.rep fm α₁ c0.heap p v->m ps = .ok p o0->T v c0)
  (hx:∀ x c0,ExE W fm V s.heap (m ps) x c0->E x c0):wpAny W.m A t T E s:=
 aW c (λv c0 ⟨p,o0,α₁,e,I,g,x,r⟩=>hk p v α₁ o0 c0 I g x r e) hx
theorem InvS.stays (C:Ctx W fm n A)(I:InvS W fm V ps s)(x:Rel fm.stk fm.tab V s.heap h₁)(g:Grow V α₁ s.heap){p:PV}{v:Value}(r:W.rep fm V s.heap p v):W.rep fm α₁ h₁ p v:=
 r.stays I.inv.lists x g.pre C.fm.frsAv C.fm.tabAv
theorem Ac {i:Int}{k:Nat}{pos:Pos}:SimE W n fm (.Constant (.int i) k pos) (ae (.int i)):=.mk λA V ps s C I ns=>
 wpAny_Constant_int (OkE.same I (.int i _))
end
section
variable {W:Wd}{fm:Fm}{V α' α₁:List Addr}{h h₁:Heap}{n:Nat}{A:Around}{ps ps':PS}{s s':Shared}{hd:Bool}
theorem Bd:big=sizeLine:=by decide
theorem AD (x:Txt):(txt x).length=x.length:=by simp [txt,Str.length]
theorem D1 (x y:Txt):txt x++txt y=txt (x++y):=by
 apply Str.ext'
 simp [txt,Str.cps_append]
theorem BB (x:Str):txt x.cps.toList=x:=by
 apply Str.ext';simp [txt]
theorem M1 {x y:Txt}(e:txt x=txt y):x=y:=by
 have:=congrArg (λz=>z.cps.toList) e
 simpa [txt] using this
theorem Ai.same {t:Sem Value}{p:PV}(I:InvS W fm V ps s)(h:∀ Q:Value->Shared->Prop,∀ E,(∀ v tk,W.rep fm V s.heap p v->Q v { s with toks:=tk })->wpAny W.m A t Q E s):Ai W fm A V ps s t (ae p):=
 h _ _ λv tk r=>OkE.same I r
abbrev OpOk.T (W:Wd)(n:Nat)(fm:Fm)(t:Value->Value->Sem Value)(f:PV->PV->M PV):Prop:=∀ A V ps s a b va vb,Ctx W fm n A->InvS W fm V ps s->W.rep fm V s.heap a va->W.rep fm V s.heap b vb->f a b ps≠.stuck->Ai W fm A V ps s (t va vb) (f a b)
structure OpOk (W:Wd)(n:Nat)(fm:Fm)(t:Value->Value->Sem Value)(f:PV->PV->M PV):Prop where
 go:OpOk.T W n fm t f
noncomputable instance {W:Wd} {n:Nat} {fm:Fm} {t:Value->Value->Sem Value} {f:PV->PV->M PV}:CoeFun (OpOk W n fm t f) (λU=>OpOk.T W n fm t f):=⟨OpOk.go⟩
theorem Ai.orStuck {t:Sem Value}{c:Bool}{m:M PV}(ns:ak c m ps≠.stuck)(h:c=true->m ps≠.stuck->Ai W fm A V ps s t m):Ai W fm A V ps s t (ak c m):=by
 unfold ak at ns ⊢
 cases c with
 | false=>exact absurd rfl ns
 | true=>exact h rfl ns
theorem ER {a b:Int}(h:Ah b=true):Builtin.divisionGoesByPylong a b=false:=PyProof.noPylong_small (aX h)
theorem Ep {x:Int}(h:Ah x=true):Builtin.Int.intBits x<=64:=
 intBits_le (aY (aX h) (by decide))
theorem Og {a b:Int}(h:(Ah a||Ah b)=true):IntMulOk a b:=by
 rcases Bool.or_eq_true_iff.mp h with q | q
 ·exact .of_left (Ep q)
 ·exact .of_right (Ep q)
theorem Lv {a b:Int}{t u:Tok}(I:InvS W fm V ps s):Ai W fm A V ps s (binaryOp .Add (.int a t) (.int b u)) (ae (.int (a+b))):=
 .same I λQ E h=>PySem.P.add_int (h _ _ (.int _ _))
theorem Lw {a b:Int}{t u:Tok}(I:InvS W fm V ps s):Ai W fm A V ps s (binaryOp .Sub (.int a t) (.int b u)) (ae (.int (a - b))):=
 .same I λQ E h=>PySem.P.sub_int (h _ _ (.int _ _))
theorem Lx {a b:Int}{t u:Tok}(I:InvS W fm V ps s)(hm:(Ah a||Ah b)=true):Ai W fm A V ps s (binaryOp .Mult (.int a t) (.int b u)) (ae (.int (a*b))):=
 .same I λQ E h=>PySem.P.mul_int (h _ _ (.int _ _)) (Og hm)
theorem Ly {a b:Int}{t u:Tok}(I:InvS W fm V ps s)(hb:(b != 0&&Ah b)=true):Ai W fm A V ps s (binaryOp .FloorDiv (.int a t) (.int b u)) (ae (.int (a.fdiv b))):=
 have hb:=and_eq_true_iff.mp hb
 .same I λQ E h=>floordiv_int (by simpa using hb.1) (h _ _ (.int _ _)) (.inl (ER hb.2))
theorem Lz {a b:Int}{t u:Tok}(I:InvS W fm V ps s)(hb:(b != 0&&Ah b)=true):Ai W fm A V ps s (binaryOp .Mod (.int a t) (.int b u)) (ae (.int (a.fmod b))):=
 have hb:=and_eq_true_iff.mp hb
 .same I λQ E h=>mod_int' (by simpa using hb.1) (h _ _ (.int _ _))
theorem Ai.str {t:Sem Value}{x:Txt}(I:InvS W fm V ps s)(ns:au x ps≠.stuck)
  (h:x.length<=sizeLine->∀ Q:Value->Shared->Prop,∀ E,(∀ tk u,Q (.str (txt x) u) { s with toks:=tk })->wpAny W.m A t Q E s):Ai W fm A V ps s t (au x):=by
 unfold au at ns
 by_cases q:x.length<=big
 ·have:au x ps=ae (.str x) ps:=by unfold au;rw [if_pos q];rfl
  unfold Ai
  rw [this]
  exact h (Bd▸q) _ _ λtk u=>OkE.same I (.str _ _)
 ·rw [if_neg q] at ns;exact absurd rfl ns
theorem LA {a b:Txt}{t u:Tok}(I:InvS W fm V ps s)(ns:au (a++b) ps≠.stuck):Ai W fm A V ps s (binaryOp .Add (.str (txt a) t) (.str (txt b) u)) (au (a++b)):=
 .str I ns λhl Q E h=>PyProof.Rows.add_str (λt' tk=>D1 a b▸h tk t') (by rw [AD,AD,<- length_append];exact hl)
end
section
variable {W:Wd}{fm:Fm}{V α' α₁:List Addr}{h h' h₁:Heap}{n:Nat}{A:Around}{ps ps':PS}{s s':Shared}{hd:Bool}{H:Hd}{h₀:Heap}
theorem H3 {av:List Addr}(k:∀ b o,h.get? b=some o->h'.get? b=some o)(g:V <+: α') :
  (∀ {p:PV} {v:Value},RepV H h₀ av V h p v->RepV H h₀ av α' h' p v)/\∀ {l:List PV} {vs:List Value},RepL H h₀ av V h l vs->RepL H h₀ av α' h' l vs:=by
 refine Dn (λa vs ha hi=>⟨ha,?_⟩) (λi a hi=>?_) λa o es ep ha ho hx hd=>⟨ha,k _ _ ho⟩
 ·obtain ⟨o,e1,e2,e3⟩:=hi;exact ⟨o,k _ _ e1,e2,e3⟩
 ·obtain ⟨t,rfl⟩:=g
  rw [getElem?_append_left (List.getElem?_eq_some_iff.mp hi).1];exact hi
theorem RepV.keeps {av:List Addr}(k:∀ b o,h.get? b=some o->h'.get? b=some o)(g:V <+: α'){p:PV}{v:Value}(x:RepV H h₀ av V h p v):RepV H h₀ av α' h' p v:=(H3 k g).1 x
theorem RepL.keeps {av:List Addr}(k:∀ b o,h.get? b=some o->h'.get? b=some o)(g:V <+: α'){l:List PV}{vs:List Value}(x:RepL H h₀ av V h l vs):RepL H h₀ av α' h' l vs:=(H3 k g).2 x
theorem OptRep.keeps {av:List Addr}(k:∀ b o,h.get? b=Option.some o->h'.get? b=Option.some o)(g:V <+: α'){p:Option PV}{v:Option Value}(x:OptRep H h₀ av V h p v):OptRep H h₀ av α' h' p v:=x.map λr=>r.keeps k g
theorem IR {a:Addr}{vs:Array Value}(k:∀ b o,h.get? b=some o->h'.get? b=some o)(x:h.IsList a vs):h'.IsList a vs:=by
 obtain ⟨o,e1,e2,e3⟩:=x;exact ⟨o,k _ _ e1,e2,e3⟩
theorem Inv.keeps (I:Inv H h₀ fm V ps h)(k:∀ b o,h.get? b=some o->h'.get? b=some o):Inv H h₀ fm V ps h':=by
 obtain ⟨b,⟨m,n1,n2⟩,c,⟨l1,l2,l3,l4,l5⟩,lv,fr,tb⟩:=I
 refine ⟨λx o e=>k x o (b x o e),⟨m,n1.keeps k,λx i hx=>(n2 x i hx).keeps k (prefix_refl _)⟩,λx kk i hx hk=>?_,⟨l1,λi l e=>?_,l3,l4,l5⟩,λa ha=>?_,fr.of_keeps λx o e U=>⟨o,k x o e,rfl⟩,λP hP=>(tb P hP).keeps k⟩
 ·obtain ⟨cc,v,q1,q2,q3,q4,q5⟩:=c x kk i hx hk
  exact ⟨cc,v,q1,q2,q3,q4.keeps k,q5.keeps k (prefix_refl _)⟩
 ·obtain ⟨a,vs,q1,q2,q3⟩:=l2 i l e
  exact ⟨a,vs,q1,q2.at (k _),q3.keeps k (prefix_refl _)⟩
 ·obtain ⟨o,e⟩:=aZ.mp (lv a ha)
  rw [k a o e];rfl
theorem Inv.newLst (C:FmOk h₀ fm)(I:Inv H h₀ fm V ps h){l:List PV}{vs:List Value}{a:Addr}(rl:RepL H h₀ fm.av V h l vs)(k:∀ b o,h.get? b=some o->h'.get? b=some o)(ha:h.get? a=none)(hl:h'.PlainList a vs.toArray) :
  Inv H h₀ fm (V++[a]) { ps with st:=ps.st++[l] } h':=by
 obtain ⟨b,⟨m,n1,n2⟩,c,⟨l1,l2,l3,l4,l5⟩,lv,fr,tb⟩:=I.keeps k
 have pre:V <+: V++[a]:=prefix_append _ _
 have na:a∉V:=λq=>by
  obtain ⟨ws,o,e,_⟩:=I.lists.isList q
  rw [ha] at e;cases e
 have kk:∀ b o,h'.get? b=some o->h'.get? b=some o:=λU U e=>e
 refine ⟨b,⟨m,n1,λx i hx=>(n2 x i hx).keeps kk pre⟩,λx kd i hx hk=>?_,⟨by simp [l1],λi l' e=>?_,?_,λx hx=>?_,λx hx q=>?_⟩,lv,fr,tb⟩
 ·obtain ⟨cc,v,q1,q2,q3,q4,q5⟩:=c x kd i hx hk
  exact ⟨cc,v,q1,q2,q3,q4,q5.keeps kk pre⟩
 ·by_cases hi:i<ps.st.length
  ·rw [getElem?_append_left hi] at e
   obtain ⟨a',ws,q1,q2,q3⟩:=l2 i l' e
   exact ⟨a',ws,by rw [getElem?_append_left (by rw [l1];exact hi)];exact q1,q2,q3.keeps kk pre⟩
  ·have:i=ps.st.length:=by
    have:=(ba.mp e).1
    simp at this;exact bc (la [_,_] [([2,3,0],[4,3,0])] ([2],[4]) rfl this) (la [_,_] [([2],[4])] ([2],[4]) rfl (Nat.not_lt.mp hi))
   subst this
   rw [getElem?_append_right (Nat.le_refl _)] at e
   simp at e
   subst e
   exact ⟨a,vs,by rw [<- l1,getElem?_append_right (Nat.le_refl _)];simp,hl,(rl.keeps k (prefix_refl _)).keeps kk pre⟩
 ·rw [nodup_append]
  exact ⟨l3,by simp,λx hx y hy=>by simp at hy;subst hy;exact λe=>na (e▸hx)⟩
 ·rcases mem_append.mp hx with q | q
  ·exact l4 x q
  ·simp at q;subst q
   cases e:h₀.get? x with
   | none=>rfl
   | some o=>have:=I.base x o e;rw [ha] at this;cases this
 ·rcases mem_append.mp hx with p | p
  ·exact l5 x p q
  ·simp at p;subst p
   have:=I.live x q
   rw [ha] at this;cases this
theorem OkE.newLst (C:Ctx W fm n A)(I:InvS W fm V ps s){l:List PV}{vs:List Value}{a:Addr}{tk:Nat}(hb:l.length<=big)(rl:RepL W.H W.h₀ fm.av V s.heap l vs)(k:∀ b o,s.heap.get? b=some o->h'.get? b=some o)(ha:s.heap.get? a=none)(hl:h'.PlainList a vs.toArray) :
  OkE W fm V s.heap (ao l ps) (.ref a) { s with heap:=h',toks:=tk }:=by
 refine ⟨.lst ps.st.length,{ ps with st:=ps.st++[l] },V++[a],by unfold ao;rw [if_pos hb],⟨I.inv.newLst C.fm rl k ha hl,I.gens,I.os⟩,⟨prefix_append _ _,λx hx nx=>?_⟩,.of_keeps k,.lst ?_⟩
 ·rcases mem_append.mp hx with q | q
  ·exact absurd q nx
  ·simp at q;subst q;exact ha
 ·rw [<- I.inv.lists.len,getElem?_append_right (Nat.le_refl _)];simp
theorem Cy {l:List PV}(ns:ao l ps≠.stuck):l.length<=big:=by
 unfold ao at ns
 by_cases q:l.length<=big
 ·exact q
 ·rw [if_neg q] at ns;exact absurd rfl ns
theorem Bh {i:Nat}(ns:ar i ps≠.stuck):∃ l,ps.st[i]? = some l/\ar i ps = .ok l ps:=by
 unfold ar at ns ⊢
 cases e:ps.st[i]? with
 | none=>rw [e] at ns;exact absurd rfl ns
 | some l=>exact ⟨l,rfl,rfl⟩
theorem Ai.newLst {t:Sem Value}{l:List PV}{vs:List Value}(C:Ctx W fm n A)(I:InvS W fm V ps s)(rl:RepL W.H W.h₀ fm.av V s.heap l vs)(ns:ao l ps≠.stuck)
  (h:vs.length<=sizeLine->∀ Q:Value->Shared->Prop,∀ E,Q (.ref s.heap.objs.size) { s with heap:=s.heap.push { cls:=.type "list",data:=.seq vs.toArray } }->wpAny W.m A t Q E s) :
  Ai W fm A V ps s t (ao l):=by
 have hb:=Cy ns
 refine h (by rw [<- rl.length];exact Bd▸hb) _ _ ?_
 exact OkE.newLst (tk:=s.toks) C I hb rl (λb o e=>get?_push_of_some _ e) (Heap.get?_none_of_le (aR _)) ⟨_,get?_push_size _ rfl⟩
theorem LB {x y:List PV}{vs ws:List Value}{a b:Addr}(C:Ctx W fm n A)(I:InvS W fm V ps s)(ha:s.heap.IsList a vs.toArray)(hb:s.heap.IsList b ws.toArray)
  (rx:RepL W.H W.h₀ fm.av V s.heap x vs) (ry:RepL W.H W.h₀ fm.av V s.heap y ws) (ns:ao (x++y) ps≠.stuck) :
  Ai W fm A V ps s (binaryOp .Add (.ref a) (.ref b)) (ao (x++y)):=by
 refine .newLst C I (rx.append ry) ns λhl Q E hq=>?_
 obtain ⟨⟨cls,dd,data,sl⟩,ho,hc,k,hd⟩:=id ha
 obtain ⟨⟨cls2,dd2,data2,sl2⟩,ho2,hc2,k2,hd2⟩:=id hb
 simp only at hc hd hc2 hd2
 subst hc hd hc2 hd2
 have e:vs.toArray++ws.toArray=(vs++ws).toArray:=by simp
 refine concat_meets ⟨_,ho,rfl⟩ ⟨_,ho2,rfl⟩ noFill_list_add seq_list_add PySem.F.slot_list_add PySem.F.entry_list_add (PySem.F.args_list_add_2 _ _) (list_addW a b vs.toArray ws.toArray k k2 dd dd2 sl sl2 (by simpa using hl)) ⟨ho,ho2,?_⟩
 rw [e]
 exact hq
theorem DD (I:InvS W fm V ps s){i:Nat}{v:Value}{l:List PV}(r:W.rep fm V s.heap (.lst i) v)(e:ps.st[i]? = some l):∃ a vs,v = .ref a/\s.heap.IsList a vs.toArray/\RepL W.H W.h₀ fm.av V s.heap l vs:=by
 obtain ⟨a,vs,h1,h2,h3⟩:=I.inv.lists.at_ i l e
 obtain ⟨b,rfl,hi⟩:=r.inv
 obtain rfl:=aT (h1.symm.trans hi)
 exact ⟨_,_,rfl,h2.isList,h3⟩
theorem M2 (I:InvS W fm V ps s){i:Nat}{v:Value}{l:List PV}(r:W.rep fm V s.heap (.lst i) v)(e:ps.st[i]? = some l):∃ a vs,v = .ref a/\V[i]? = some a/\s.heap.PlainList a vs.toArray/\RepL W.H W.h₀ fm.av V s.heap l vs:=by
 obtain ⟨a,vs,h1,h2,h3⟩:=I.inv.lists.at_ i l e
 obtain ⟨b,rfl,hi⟩:=r.inv
 obtain rfl:=aT (h1.symm.trans hi)
 exact ⟨_,_,rfl,h1,h2,h3⟩
theorem IS {i:Nat}{l:List PV}{β:Type}{f:List PV->M β}(e:ps.st[i]? = some l):ac (ar i) f ps=f l ps:=by
 unfold ac ar;rw [e]
theorem Ai.congr {t:Sem Value}{m m':M PV}(e:m ps=m' ps)(c:Ai W fm A V ps s t m'):Ai W fm A V ps s t m:=by
 unfold Ai at c ⊢;rw [e];exact c
theorem LC {a b:Int}{t u:Tok}(I:InvS W fm V ps s)(hb:(2<=a&&a<=16&&0<=b&&b<=16)=true):Ai W fm A V ps s (binaryOp .Pow (.int a t) (.int b u)) (ae (.int (a ^ b.toNat))):=by
 simp only [and_eq_true,decide_eq_true_eq] at hb
 obtain ⟨⟨⟨h1,h2⟩,h3⟩,h4⟩:=hb
 refine .same I λQ E h=>?_
 by_cases h0:b=0
 ·subst h0
  have e:a ^ Int.toNat 0=1:=by simp
  rw [e] at h
  exact AutoIntOps.pow_0 (by lia) (by decide) (h _ _ (.int _ _))
 ·refine AutoIntOps.pow_4 h3 (by simpa using h0) ?_ ?_ ?_ (h _ _ (.int _ _))
  ·simp;lia
  ·simp;lia
  ·have hs:Builtin.Int.intBits a<=64:=Ep (by unfold Ah;exact decide_eq_true (by lia))
   have:((Builtin.Int.intBits a:Nat):Int)*b<=64*16:=Int.mul_le_mul (by lia) h4 h3 (by decide)
   unfold Builtin.Int.intTooBig
   simp only [decide_eq_true_eq]
   have:(1024:Int)<((bitsLine:Nat):Int):=by decide
   lia
theorem Uo (op:Operator):OpOk W n fm (binaryOp op) (Aj op):=by
 refine .mk ?_
 intro A V ps s a b va vb C I ra rb ns
 cases op
 case Add=>
  have ns':Sk a b ps≠.stuck:=ns
  show Ai W fm A V ps s _ (Sk a b)
  rcases Sl ns' with ⟨i,j,rfl,rfl⟩ | ⟨i,j,rfl,rfl⟩ | ⟨i,j,rfl,rfl⟩
  ·obtain ⟨_,rfl⟩:=ra.inv;obtain ⟨_,rfl⟩:=rb.inv;exact Lv I
  ·obtain ⟨_,rfl⟩:=ra.inv;obtain ⟨_,rfl⟩:=rb.inv;exact LA I ns'
  ·have ns':ac (ar i) (λx=>ac (ar j) λy=>ao (x++y)) ps≠.stuck:=ns'
   obtain ⟨x,ex,e1⟩:=Bh (Ad ns')
   have e2:=IS (f:=λx=>ac (ar j) λy=>ao (x++y)) ex
   rw [e2] at ns'
   obtain ⟨y,ey,e3⟩:=Bh (Ad ns')
   rw [IS ey] at ns'
   obtain ⟨aa,vs,rfl,l1,r1⟩:=DD I ra ex
   obtain ⟨bb,ws,rfl,l2,r2⟩:=DD I rb ey
   exact .congr (e2.trans (IS ey)) (LB C I l1 l2 r1 r2 ns')
 case Sub=>
  obtain ⟨i,j,rfl,rfl⟩:=Bz (show By _ a b ps≠.stuck from ns)
  obtain ⟨_,rfl⟩:=ra.inv;obtain ⟨_,rfl⟩:=rb.inv;exact Lw I
 case Mult=>
  obtain ⟨i,j,rfl,rfl⟩:=Bz (show By _ a b ps≠.stuck from ns)
  obtain ⟨_,rfl⟩:=ra.inv;obtain ⟨_,rfl⟩:=rb.inv;exact .orStuck ns λhc U=>Lx I hc
 case FloorDiv=>
  obtain ⟨i,j,rfl,rfl⟩:=Bz (show By _ a b ps≠.stuck from ns)
  obtain ⟨_,rfl⟩:=ra.inv;obtain ⟨_,rfl⟩:=rb.inv;exact .orStuck ns λhc U=>Ly I hc
 case Mod=>
  obtain ⟨i,j,rfl,rfl⟩:=Bz (show By _ a b ps≠.stuck from ns)
  obtain ⟨_,rfl⟩:=ra.inv;obtain ⟨_,rfl⟩:=rb.inv;exact .orStuck ns λhc U=>Lz I hc
 case Pow=>
  obtain ⟨i,j,rfl,rfl⟩:=Bz (show By _ a b ps≠.stuck from ns)
  obtain ⟨_,rfl⟩:=ra.inv;obtain ⟨_,rfl⟩:=rb.inv;exact .orStuck ns λhc U=>LC I hc
 all_goals exact absurd rfl ns
theorem LD {st:List (List PV)}{av:List Addr}(L:ListsAt H h₀ av V st h)(k:Nat):(∀ (p:PV) (v:Value) (d:PyData),toD st k p=some d->RepV H h₀ av V h p v->∃ as,Reads h v d as) /\
  ∀ (l:List PV) (vs:List Value) (ds:List PyData),DA st k l=some ds->RepL H h₀ av V h l vs->∃ as,ReadsAll h vs ds as:=by
 induction k with
 | zero=>exact ⟨λU U U e=>(by cases e),λU U U e=>(by cases e)⟩
 | succ k ih=>
  refine ⟨λp v d e r=>?_,λl vs ds e r=>?_⟩
  ·cases p with
   | none=>cases (show _=_ from r.inv);cases e;exact ⟨_,.none⟩
   | bool b=>cases (show _=_ from r.inv);cases e;exact ⟨_,.bool b⟩
   | int i=>obtain ⟨_,rfl⟩:=r.inv;cases e;exact ⟨_,.int i _⟩
   | str x=>obtain ⟨_,rfl⟩:=r.inv;cases e;exact ⟨_,.str _ _⟩
   | tup l=>
    obtain ⟨_,_,rfl,ha,hi,rs⟩:=r.inv
    obtain ⟨ds,e1,rfl⟩:=aU.mp (show (DA st k l).map _=some _ from e)
    obtain ⟨as,q⟩:=ih.2 l _ ds e1 rs
    obtain ⟨o,o1,o2,m,o3⟩:=hi
    exact ⟨as,.tuple o1 o2 o3 (by simpa using q)⟩
   | lst i=>
    obtain ⟨_,rfl,hi⟩:=r.inv
    obtain ⟨l,q,e⟩:∃ l,st[i]? = some l/\(DA st k l).map PyData.list=some _:=by
     have e:(match st[i]? with | some l=>(DA st k l).map PyData.list | none=>none)=some _:=e
     cases q:st[i]? with
     | none=>rw [q] at e;cases e
     | some l=>rw [q] at e;exact ⟨l,rfl,e⟩
    obtain ⟨ds,e1,rfl⟩:=aU.mp (show (DA st k l).map _=some _ from e)
    obtain ⟨a',vs,h1,h2,h3⟩:=L.at_ i l q
    rw [hi] at h1;cases h1
    obtain ⟨as,q⟩:=ih.2 l _ ds e1 h3
    obtain ⟨o,o1,o2,m,o3⟩:=h2.isList
    exact ⟨_,.list o1 o2 o3 (by simpa using q)⟩
   | _=>cases e
  ·cases r with
   | nil=>obtain rfl:=aT (show some []=some _ from e);exact ⟨_,.nil⟩
   | @cons p v l vs r rs=>
    have e:(match toD st k p,DA st k l with
     | some d,some ds=>some (d::ds)
     | _,_=>none)=some _:=e
    cases q:toD st k p with
    | none=>rw [q] at e;cases e
    | some d=>
     cases q':DA st k l with
     | none=>rw [q,q'] at e;cases e
     | some ds'=>
      rw [q,q'] at e;cases e
      obtain ⟨as,x⟩:=ih.1 p _ d q r
      obtain ⟨bs,y⟩:=ih.2 l _ ds' q' rs
      exact ⟨_,.cons x y⟩
theorem Cj {st:List (List PV)}{av:List Addr}(L:ListsAt H h₀ av V st h)(k:Nat)(p:PV)(v:Value)(d:PyData)(e:toD st k p=some d)(r:RepV H h₀ av V h p v):∃ as,Reads h v d as:=(LD L k).1 p v d e r
theorem ES (x y:Txt):((txt x).cps.toList==(txt y).cps.toList)=(x==y):=by simp [txt]
theorem Ctx.u64 (C:Ctx W fm n A):A.units+64<cLine:=by have:=C.units;lia
theorem PP {a b:PV}(ns:eqP a b ps≠.stuck):∃ r,eqP a b ps = .ok r ps/\(eqT a b=some r\/(eqT a b=none/\∃ x y,toD ps.st 64 a=some x/\toD ps.st 64 b=some y/\SeqAt.shaped x=true/\SeqAt.shaped y=true/\r=PyData.eqv x y)):=by
 unfold eqP at ns ⊢
 cases e:eqT a b with
 | some r=>exact ⟨r,rfl,.inl rfl⟩
 | none=>
  rw [e] at ns
  cases ex:toD ps.st 64 a with
  | none=>rw [ex] at ns;exact absurd rfl ns
  | some x=>
   cases ey:toD ps.st 64 b with
   | none=>rw [ex,ey] at ns;exact absurd rfl ns
   | some y=>
    rw [ex,ey] at ns
    by_cases q:(SeqAt.shaped x&&SeqAt.shaped y)=true
    ·have q':=and_eq_true_iff.mp q
     refine ⟨PyData.eqv x y,by simp only [q,if_true],.inr ⟨rfl,x,y,rfl,rfl,q'.1,q'.2,rfl⟩⟩
    ·simp only [q,if_false] at ns;exact absurd rfl ns
theorem Up {a b:PV}{va vb:Value}(C:Ctx W fm n A)(I:InvS W fm V ps s)(ra:W.rep fm V s.heap a va)(rb:W.rep fm V s.heap b vb)(ns:eqP a b ps≠.stuck)
  {Q:Value->Shared->Prop} {E:Value->Shared->Prop} (h:∀ r,eqP a b ps = .ok r ps->Q (.bool r) s):wpAny W.m A (compareOp .Eq va vb) Q E s:=by
 obtain ⟨r,e,q⟩:=PP ns
 rcases q with q | ⟨_,x,y,ex,ey,sx,sy,rfl⟩
 ·have h:=h r e
  clear e ns
  rcases PM q with ⟨_,_,rfl,rfl,rfl⟩ | ⟨_,_,rfl,rfl,rfl⟩ | ⟨_,_,rfl,rfl,rfl⟩ | ⟨_,_,rfl,rfl,rfl⟩
  ·obtain ⟨_,rfl⟩:=ra.inv;obtain ⟨_,rfl⟩:=rb.inv;exact PySem.P.eq_str (by rw [ES];exact h)
  ·obtain ⟨_,rfl⟩:=ra.inv;obtain ⟨_,rfl⟩:=rb.inv;exact PySem.P.eq_int h
  ·obtain ⟨_,rfl⟩:=ra.inv;obtain ⟨_,rfl⟩:=rb.inv;exact EqMixed.eq_int_str h
  ·obtain ⟨_,rfl⟩:=ra.inv;obtain ⟨_,rfl⟩:=rb.inv;exact EqMixed.eq_str_int h
 ·obtain ⟨as,x1⟩:=Cj I.inv.lists _ _ _ _ ex ra
  obtain ⟨bs,x2⟩:=Cj I.inv.lists _ _ _ _ ey rb
  exact SeqAt.compareEq_shaped x1 x2 sx sy C.u64 (h _ e)
theorem Uq {a b:PV}{va vb:Value}(C:Ctx W fm n A)(I:InvS W fm V ps s)(ra:W.rep fm V s.heap a va)(rb:W.rep fm V s.heap b vb)(ns:eqP a b ps≠.stuck)
  {Q:Value->Shared->Prop} {E:Value->Shared->Prop} (h:∀ r,eqP a b ps = .ok r ps->Q (.bool (!r)) s):wpAny W.m A (compareOp .NotEq va vb) Q E s:=by
 obtain ⟨r,e,q⟩:=PP ns
 rcases q with q | ⟨_,x,y,ex,ey,sx,sy,rfl⟩
 ·have h:=h r e
  clear e ns
  rcases PM q with ⟨_,_,rfl,rfl,rfl⟩ | ⟨_,_,rfl,rfl,rfl⟩ | ⟨_,_,rfl,rfl,rfl⟩ | ⟨_,_,rfl,rfl,rfl⟩
  ·obtain ⟨_,rfl⟩:=ra.inv;obtain ⟨_,rfl⟩:=rb.inv;exact PySem.P.ne_str (by rw [bne,ES];exact h)
  ·obtain ⟨_,rfl⟩:=ra.inv;obtain ⟨_,rfl⟩:=rb.inv;exact PySem.P.ne_int (by rw [bne];exact h)
  ·obtain ⟨_,rfl⟩:=ra.inv;obtain ⟨_,rfl⟩:=rb.inv;exact EqMixed.ne_int_str h
  ·obtain ⟨_,rfl⟩:=ra.inv;obtain ⟨_,rfl⟩:=rb.inv;exact EqMixed.ne_str_int h
 ·obtain ⟨as,x1⟩:=Cj I.inv.lists _ _ _ _ ex ra
  obtain ⟨bs,x2⟩:=Cj I.inv.lists _ _ _ _ ey rb
  exact SeqAt.compareNe_shaped x1 x2 sx sy C.u64 (h _ e)
theorem Fr {β:Type}{o:Option β}(ns:aB o ps≠.stuck):∃ a,o=some a/\aB o ps = .ok a ps:=by
 unfold aB at ns ⊢
 cases o with
 | none=>exact absurd rfl ns
 | some a=>exact ⟨a,rfl,rfl⟩
theorem JV {p:PV}{v:Value}(r:W.rep fm V h p v):plainIs v .none=true/\(v==.none)=IQ p:=by
 cases r <;> exact ⟨rfl,rfl⟩
theorem ET (k:Nat)(x:Txt):Fp k (txt x)=JU k x:=by simp [Fp,txt]
theorem Hd.At.set {H:Hd}(X:H.At h₀)(b:∀ b o,h₀.get? b=some o->h.get? b=some o)(k:Nat){a:Addr}(e:H.setv k=some a):∃ n,FrozAt (strKind H.prog H.w) h a (Fp k) n/\n<4096:=by
 obtain ⟨n,⟨es,ep,t,h1,r⟩,h2⟩:=X.sets k a e
 exact ⟨n,⟨es,ep,t,b _ _ h1,r⟩,h2⟩
theorem IT {prog:Program}{w:World}{a:Addr}{S:Str->Bool}{m:Nat}{x:Str}{t:Tok}{Q:Bool->Shared->Prop}{E:Value->Shared->Prop}(hS:FrozAt (strKind prog w) s.heap a S m)(hm:m<4096)
  (h:Q (S x) { s with toks:=s.toks+1 }):wpAny (model prog w) A (setContains a (.str x t)) Q E s:=by
 obtain ⟨es,ep,tt,ho,hel,hmem,hn,hf⟩:=hS
 have hkey:(strKind prog w).is x (.str x t)=true:=strKind_is prog w x t
 unfold setContains
 refine be ?_
 refine bf ((strKind prog w).pyHash hkey ?_)
 refine bf (setFind_any (s:={ s with toks:=s.toks+1 }) hkey rfl ho rfl hel hmem (by rw [hn];exact hm) hf λr hr=>?_)
 refine bg ?_
 rw [hr];exact h
theorem PQ {prog:Program}{w:World}{a:Addr}{S:Str->Bool}{m:Nat}{x:Str}{t:Tok}{Q:Bool->Shared->Prop}{E:Value->Shared->Prop}(hS:FrozAt (strKind prog w) s.heap a S m)(hm:m<4096)
  (h:Q (S x) { s with toks:=s.toks+1 }):wpAny (model prog w) A (contains (.ref a) (.str x t)) Q E s:=by
 have hT:s.TypeIs (.ref a) "frozenset":=by obtain ⟨es,ep,tt,ho,_⟩:=hS;exact ⟨_,ho,rfl⟩
 unfold contains
 try with_reducible refine be ?_
 refine bf (wpAny_specialOf hT FB.slot_frozenset_contains.lookup ?_)
 show wpAny _ _ (if (some (Value.builtin "frozenset.__contains__")==some Value.none)=true then _ else _) _ E s
 rw [if_neg (by rw [beq_builtin_none];exact Bool.false_ne_true)]
 refine bf (wpAny_callSpecialUnlessNone?_slot (name:=Str.ofString "__contains__") hT FB.slot_frozenset_contains
  (wpAny_call_entry FB.slot_frozenset_contains hT FB.entry_frozenset_contains ?_ (FB.args_frozenset_contains_2 _ _)))
 unfold Builtin.«frozenset.__contains__» Builtin.Frozenset.oneOther
 simp only [isEmpty_nil,bind_assoc]
 unfold Builtin.Frozenset.addrOf Builtin.Frozenset.withSetAsKey
 refine bf (bg ?_)
 try dsimp only
 refine bf (bg ?_)
 try dsimp only
 refine bf (wpAny_tryCatch ?_)
 refine IT hS hm ?_
 show wpAny _ _ (ret (Value.bool (S x))) _ _ _
 exact bg ⟨_,rfl,wpAny_truthy_bool h⟩
theorem RepL.inv' {H:Hd}{h₀:Heap}{av V:List Addr}{h:Heap}{l:List PV}{v:Value}{vs:List Value}(r:RepL H h₀ av V h l (v::vs)):∃ p l',l=p::l'/\RepV H h₀ av V h p v/\RepL H h₀ av V h l' vs:=by
 cases r with
 | cons r rs=>exact ⟨_,_,rfl,r,rs⟩
theorem RepL.nil' {H:Hd}{h₀:Heap}{av V:List Addr}{h:Heap}{l:List PV}(r:RepL H h₀ av V h l []):l=[]:=by
 cases r
 rfl
theorem GJ {K:Type}[DecidableEq K]{prog:Program}{w:World}{knd:KeyKind prog w K}(enc:K->PV)(he:∀ a b,eqI (enc a) (enc b)=some (decide (a=b)))(hw:∀ {k:K} {v:Value},W.rep fm V h (enc k) v->knd.is k v=true)
  (hi:∀ {p:PV} {v:Value} {k:K},W.rep fm V h p v->knd.is k v=true->p=enc k) :
  ∀ {es:List DictEntry} {ks vs:List PV} {x:K} {r:Option PV},RepL W.H W.h₀ fm.av V h ks (es.map (·.key))->RepL W.H W.h₀ fm.av V h vs (es.map (·.val))->(∀ e∈es,∃ k,knd.is k e.key=true)->CO ks vs (enc x)=some r ->
   match r with
   | none=>es.find? (λe=>knd.is x e.key)=none
   | some p=>∃ e,es.find? (λe=>knd.is x e.key)=some e/\W.rep fm V h p e.val:=by
 intro es
 induction es with
 | nil=>
  intro ks vs x r r1 _ _ e
  obtain rfl:=r1.nil'
  obtain rfl:=aT e
  rfl
 | cons d es ih=>
  intro ks vs x r r1 r2 hk e
  obtain ⟨p,ks,rfl,r1,rs1⟩:=RepL.inv' (v:=d.key) (vs:=es.map (·.key)) r1
  obtain ⟨u,vs,rfl,r2,rs2⟩:=RepL.inv' (v:=d.val) (vs:=es.map (·.val)) r2
  obtain ⟨k,hk0⟩:=hk d mem_cons_self
  obtain rfl:p=enc k:=hi r1 hk0
  have e:(match eqI (enc k) (enc x) with
   | some true=>some (some u)
   | some false=>CO ks vs (enc x)
   | none=>none)=some r:=e
  rw [he] at e
  by_cases q:k=x
  ·subst q
   rw [decide_eq_true rfl] at e
   obtain rfl:=aT e
   exact ⟨d,by rw [find?_cons,hk0],r2⟩
  ·rw [decide_eq_false q] at e
   have:knd.is x d.key=false:=by
    cases z:knd.is x d.key with
    | false=>rfl
    | true=>exact absurd (knd.inj _ _ _ hk0 z) q
   have ih:=ih rs1 rs2 (λe he=>hk e (mem_cons_of_mem _ he)) e
   rw [find?_cons,this]
   exact ih
theorem RepV.atom {p:PV}{v:Value}(r:W.rep fm V h p v):(∃ a,v = .ref a)\/(∃ i t,p = .int i/\v = .int i t)\/(∃ s t,p = .str s/\v = .str (txt s) t)\/v = .none\/∃ b,v = .bool b:=by
 cases r
 ·exact .inr (.inr (.inr (.inl rfl)))
 ·exact .inr (.inr (.inr (.inr ⟨_,rfl⟩)))
 ·exact .inr (.inl ⟨_,_,rfl,rfl⟩)
 ·exact .inr (.inr (.inl ⟨_,_,rfl,rfl⟩))
 all_goals exact .inl ⟨_,rfl⟩
theorem GK {k:Str}{p:PV}{v:Value}(r:W.rep fm V h p v)(hk:Value.isStrOf k v=true):p = .str k.cps.toList:=by
 obtain ⟨t,e⟩:=Value.isStrOf_shape hk
 rcases RepV.atom r with ⟨_,z⟩ | ⟨_,_,_,z⟩ | ⟨s,_,rfl,z⟩ | z | ⟨_,z⟩ <;> rw [z] at e <;> injection e
 subst k
 rfl
theorem GL {k:Int}{p:PV}{v:Value}(r:W.rep fm V h p v)(hk:Value.isInt k v=true):p = .int k:=by
 obtain ⟨t,e⟩:=Value.isInt_shape hk
 rcases RepV.atom r with ⟨_,z⟩ | ⟨i,_,rfl,z⟩ | ⟨_,_,_,z⟩ | z | ⟨_,z⟩ <;> rw [z] at e <;> injection e
 subst k
 rfl
theorem M3 {K:Type}[DecidableEq K]{prog:Program}{w:World}{knd:KeyKind prog w K}{a:Addr}{o:Obj}{es:Array DictEntry}{ep:Nat}{k:K}{key:Value}{Q:Value->Shared->Prop}{E:Value->Shared->Prop}{op:CmpOp}(hop:op = .In\/op = .NotIn){r:Bool}
  (hs:(a==sysModules)=false) (ho:s.heap.get? a=some o) (hx:o.ExactDict) (hd:o.data = .dict es ep) (hk:KeysOf knd es) (hkey:knd.is k key=true) (hr:(es.toList.find? (λe=>knd.is k e.key)).isSome=r)
  (h:Q (.bool (if op = .In then r else !r)) { s with toks:=s.toks+1 }):wpAny (model prog w) A (compareOp op key (.ref a)) Q E s:=by
 have hm:s.heap.MapOf knd a (λk=>findBy knd.is es k):=⟨o,es,ep,ho,hx,hd,hk,λU=>rfl⟩
 have e:(findBy knd.is es k).isSome=r:=by
  rw [<- hr];unfold findBy;rw [Option.isSome_map]
  obtain ⟨l⟩:=es
  simp
 rcases hop with rfl | rfl
 ·exact wpAny_in_of hkey hs hm (by rw [e];exact h)
 ·exact wpAny_notIn_of hkey hs hm (by rw [e];exact h)
theorem H4 {K:Type}[DecidableEq K]{prog:Program}{w:World}{knd:KeyKind prog w K}{es:Array DictEntry}(hk:KeysOf knd es):∀ e∈es.toList,∃ k,knd.is k e.key=true:=
 λe he=>let ⟨k,h1,_⟩:=hk e (Array.mem_toList_iff.mp he);⟨k,h1⟩
theorem GM {ks vs:List PV}{es:Array DictEntry}{x:Txt}{r:Option PV}(hk:KeysOf (strKind W.H.prog W.H.w) es)
   (rk:RepL W.H W.h₀ fm.av V h ks (es.toList.map (·.key))) (rv:RepL W.H W.h₀ fm.av V h vs (es.toList.map (·.val))) (e:CO ks vs (.str x)=some r) :
   match (generalizing:=false) r with
   | none=>es.toList.find? (λe=>(strKind W.H.prog W.H.w).is (txt x) e.key)=none
   | some p=>∃ e,es.toList.find? (λe=>(strKind W.H.prog W.H.w).is (txt x) e.key)=some e/\W.rep fm V h p e.val:=by
 refine GJ (W:=W) (fm:=fm) (V:=V) (h:=h) (knd:=strKind W.H.prog W.H.w) (λk=>.str k.cps.toList) (λa b=>?_) (λ{k v} r=>?_) (λr q=>GK r q) rk rv (H4 hk) (x:=txt x) (by simpa [txt] using e)
 ·show some (a.cps.toList==b.cps.toList)=_
  rw [SeqAt.str_beq]
  by_cases q:a=b
  ·subst q;simp [beq_iff_eq.mpr rfl]
  ·rw [beq_eq_false_iff_ne.mpr q];simp [q]
 ·obtain ⟨t,e⟩:=r.inv
  rw [e,BB]
  exact strKind_is _ _ _ _
theorem GN {ks vs:List PV}{es:Array DictEntry}{x:Int}{r:Option PV}(hk:KeysOf (intKind W.H.prog W.H.w) es)
   (rk:RepL W.H W.h₀ fm.av V h ks (es.toList.map (·.key))) (rv:RepL W.H W.h₀ fm.av V h vs (es.toList.map (·.val))) (e:CO ks vs (.int x)=some r) :
   match (generalizing:=false) r with
   | none=>es.toList.find? (λe=>(intKind W.H.prog W.H.w).is x e.key)=none
   | some p=>∃ e,es.toList.find? (λe=>(intKind W.H.prog W.H.w).is x e.key)=some e/\W.rep fm V h p e.val:=by
 refine GJ (W:=W) (fm:=fm) (V:=V) (h:=h) (knd:=intKind W.H.prog W.H.w) (λk=>.int k) (λa b=>?_) (λ{k v} r=>?_) (λr q=>GL r q) rk rv (H4 hk) e
 ·show some (a==b)=_
  congr 1
 ·obtain ⟨_,rfl⟩:=r.inv
  exact intKind_is _ _ _ _
theorem FS {K:Type}[DecidableEq K]{knd:KeyKind W.H.prog W.H.w K}(enc:K->PV)(hs:∀ {q:PV} {v:Value} {k:K},W.rep fm V h q v->knd.is k v=true->q=enc k){ks vs:List PV}{es:Array DictEntry}{p:PV}{r:Option PV}(hk:KeysOf knd es)(rk:RepL W.H W.h₀ fm.av V h ks (es.toList.map (·.key)))(e:C9 ks vs p=some r) :
  ∃ k r,eqI (enc k) p=some r:=by
 cases ks with
 | nil=>injection e
 | cons k ks=>
  cases hl:es.toList with
  | nil=>rw [hl] at rk;cases rk
  | cons d l=>
   rw [hl] at rk
   obtain ⟨_,_,ez,q,qs⟩:=rk.inv
   obtain ⟨kk,h1,_⟩:=hk d (Array.mem_toList_iff.mp (by rw [hl];exact mem_cons_self))
   rw [<- (List.cons.inj ez).1] at q
   obtain rfl:=hs q h1
   refine ⟨kk,?_⟩
   cases z:eqI (enc kk) p with
   | some r=>exact ⟨r,rfl⟩
   | none=>
    cases vs with
    | nil=>injection e
    | cons w vs=>
     have e:(match eqI (enc kk) p with
      | some true=>some (some w)
      | some false=>CO ks vs p
      | none=>none)=some r:=e
     rw [z] at e;injection e
theorem Er {ks vs:List PV}{es:Array DictEntry}{p:PV}{v:Value}{r:Option PV}(hk:KeysOf (strKind W.H.prog W.H.w) es)(rk:RepL W.H W.h₀ fm.av V h ks (es.toList.map (·.key)))(rp:W.rep fm V h p v)(e:C9 ks vs p=some r) :
  ∃ x,p = .str x:=by
 obtain ⟨k,_,e⟩:=FS (λk:Str=>.str k.cps.toList) (λq e=>GK q e) hk rk e
 obtain ⟨t,e,_⟩:=aU.mp (show (asS p).map _=_ from e)
 exact ⟨t,Bg e⟩
theorem DE {ks vs:List PV}{es:Array DictEntry}{p:PV}{v:Value}{r:Option PV}(hk:KeysOf (intKind W.H.prog W.H.w) es)(rk:RepL W.H W.h₀ fm.av V h ks (es.toList.map (·.key)))(rp:W.rep fm V h p v)(e:C9 ks vs p=some r) :
  ∃ x,p = .int x:=by
 obtain ⟨k,_,e⟩:=FS (λk:Int=>.int k) (λq e=>GL q e) hk rk e
 obtain ⟨t,e,_⟩:=aU.mp (show (asI p).map _=_ from e)
 exact ⟨t,A6 e⟩
theorem JW {x:PV}{y:PV}(ns:inP x y ps≠.stuck):∃ r,inP x y ps = .ok r ps:=by
 cases y with
 | fset k=>obtain ⟨a,e⟩:=AV ns;rw [Bg e];exact ⟨_,rfl⟩
 | dct ks vs=>obtain ⟨a,_,q⟩:=Fr ns;exact ⟨a,q⟩
 | _=>exact absurd rfl ns
theorem B9 {ks vs:List PV}{p:PV}{r:Option PV}(e:C9 ks vs p=some r):CO ks vs p=some r:=by
 unfold C9 at e
 split at e
 ·cases e
 ·exact e
def inR (op:CmpOp)(r:Bool):Bool:=if op = .In then r else !r
theorem PR {op:CmpOp}(hop:op = .In\/op = .NotIn){a b:PV}{va vb:Value}(C:Ctx W fm n A)(I:InvS W fm V ps s)(ra:W.rep fm V s.heap a va)(rb:W.rep fm V s.heap b vb){r:Bool}(e:inP a b ps = .ok r ps)
  {Q:Value->Shared->Prop} {E:Value->Shared->Prop} (h:∀ tk,Q (.bool (inR op r)) { s with toks:=tk }):wpAny W.m A (compareOp op va vb) Q E s:=by
 have h0:Q (.bool (inR op r)) s:=h s.toks
 cases b with
 | fset k=>
  obtain ⟨x,ea⟩:=Un e
  obtain rfl:=Bg ea
  cases e;obtain ⟨tk,rfl⟩:=ra.inv;obtain ⟨a,rfl,hka⟩:=rb.inv
  obtain ⟨m,hS,hm⟩:=C.hd.set I.inv.base k hka
  rcases hop with rfl | rfl
  ·show wpAny _ _ (do return Value.bool (<- contains (.ref a) (.str (txt x) tk))) _ _ s
   exact bf (PQ hS hm (bg (by rw [ET];exact h _)))
  ·show wpAny _ _ (do return Value.bool (!(<- contains (.ref a) (.str (txt x) tk)))) _ _ s
   exact bf (PQ hS hm (bg (by rw [ET];exact h _)))
 | dct ks vs=>
  have:∃ z,C9 ks vs a=some z/\z.isSome=r:=by
   have e:aB ((C9 ks vs a).map (·.isSome)) ps = .ok r ps:=e
   unfold aB at e
   cases q:C9 ks vs a with
   | none=>rw [q] at e;cases e
   | some z=>rw [q] at e;cases e;exact ⟨z,rfl,rfl⟩
  obtain ⟨z,ez,rfl⟩:=this
  obtain ⟨_,o,es,ep,rfl,hna,ho,hx,hd,hk,rk,rv⟩:=rb.inv
  rcases hk with hk | hk
  ·obtain ⟨x,rfl⟩:=Er hk rk ra ez
   ·obtain ⟨_,rfl⟩:=ra.inv
    refine M3 hop hna.2 ho hx hd hk (strKind_is _ _ _ _) ?_ (h _)
    have:=GM hk rk rv (B9 ez)
    cases z with
    | none=>simp only at this;rw [this];rfl
    | some p=>obtain ⟨e,e1,_⟩:=this;rw [e1];rfl
  ·obtain ⟨x,rfl⟩:=DE hk rk ra ez
   ·obtain ⟨_,rfl⟩:=ra.inv
    refine M3 hop hna.2 ho hx hd hk (intKind_is _ _ _ _) ?_ (h _)
    have:=GN hk rk rv (B9 ez)
    cases z with
    | none=>simp only at this;rw [this];rfl
    | some p=>obtain ⟨e,e1,_⟩:=this;rw [e1];rfl
 | _=>injection e
theorem IU (op:CmpOp):OpOk W n fm (compareOp op) (Au op):=by
 refine .mk ?_
 intro A V ps s a b va vb C I ra rb ns
 have key:∀ {m:M Bool} {f:Bool->M PV} {r:Bool},m ps = .ok r ps->(∀ r,f r=ae (PV.bool (inR op r)))->∀ tk,OkE W fm V s.heap (ac m f ps) (.bool (inR op r)) { s with toks:=tk }:=λe hf tk=>by
  rw [Ab e,hf];exact .same I (.bool _)
 cases op with
 | Eq=>
  have ns':ac (eqP a b) (λr=>ae (PV.bool r)) ps≠.stuck:=ns
  exact Up C I ra rb (Ad ns') λr e=>by
   show OkE W fm V s.heap (ac (eqP a b) (λr=>ae (PV.bool r)) ps) _ _
   rw [Ab e];exact .same' I (.bool _)
 | NotEq=>
  have ns':ac (eqP a b) (λr=>ae (PV.bool !r)) ps≠.stuck:=ns
  exact Uq C I ra rb (Ad ns') λr e=>by
   show OkE W fm V s.heap (ac (eqP a b) (λr=>ae (PV.bool !r)) ps) _ _
   rw [Ab e];exact .same' I (.bool _)
 | In=>
  have ns':ac (inP a b) (λr=>ae (PV.bool r)) ps≠.stuck:=ns
  obtain ⟨r,e⟩:=JW (Ad ns')
  exact PR (.inl rfl) C I ra rb e λtk=>key e (λU=>rfl) tk
 | NotIn=>
  have ns':ac (inP a b) (λr=>ae (PV.bool !r)) ps≠.stuck:=ns
  obtain ⟨r,e⟩:=JW (Ad ns')
  exact PR (.inr rfl) C I ra rb e λtk=>key e (λU=>rfl) tk
 | Lt=>
  obtain ⟨i,j,rfl,rfl⟩:=Bz (show By _ a b ps≠.stuck from ns)
  obtain ⟨_,rfl⟩:=ra.inv;obtain ⟨_,rfl⟩:=rb.inv
  exact PySem.P.lt_int (.same' I (.bool _))
 | LtE=>
  obtain ⟨i,j,rfl,rfl⟩:=Bz (show By _ a b ps≠.stuck from ns)
  obtain ⟨_,rfl⟩:=ra.inv;obtain ⟨_,rfl⟩:=rb.inv
  exact PySem.P.le_int (.same' I (.bool _))
 | Gt=>
  obtain ⟨i,j,rfl,rfl⟩:=Bz (show By _ a b ps≠.stuck from ns)
  obtain ⟨_,rfl⟩:=ra.inv;obtain ⟨_,rfl⟩:=rb.inv
  exact PySem.P.gt_int (.same' I (.bool _))
 | GtE=>
  obtain ⟨i,j,rfl,rfl⟩:=Bz (show By _ a b ps≠.stuck from ns)
  obtain ⟨_,rfl⟩:=ra.inv;obtain ⟨_,rfl⟩:=rb.inv
  exact PySem.P.ge_int (.same' I (.bool _))
 | Is=>
  cases b <;> (try exact absurd rfl ns)
  obtain ⟨h1,h2⟩:=JV ra
  cases (show _=_ from rb.inv)
  exact wpAny_is_plain h1 (by rw [h2];exact .same' I (.bool _))
 | IsNot=>
  cases b <;> (try exact absurd rfl ns)
  obtain ⟨h1,h2⟩:=JV ra
  cases (show _=_ from rb.inv)
  refine wpAny_isNot_plain h1 ?_
  rw [h2]
  exact .same' I (.bool _)
theorem Gq {x:Str}{k:Nat}{pos:Pos}:SimE W n fm (.Constant (.str x) k pos) (ae (.str x.cps.toList)):=.mk λA V ps s C I ns=>
 show wpAny _ _ (mkText x) _ _ _ from wpAny_mkText (OkE.same I (by
  have:=RepV.str (H:=W.H) (h₀:=W.h₀) (av:=fm.av) (V:=V) (h:=s.heap) x.cps.toList s.toks
  rwa [BB] at this))
theorem DF {b:Bool}{k:Nat}{pos:Pos}:SimE W n fm (.Constant (.bool b) k pos) (ae (.bool b)):=.mk λA V ps s C I ns=>
 show wpAny _ _ (pure (Value.bool b)) _ _ _ from bg (.same' I (.bool b))
theorem IV {i:Nat}(ns:af i ps≠.stuck):∃ v,ps.loc i=some v/\af i ps = .ok v ps:=by
 unfold af at ns ⊢
 cases e:ps.loc i with
 | none=>rw [e] at ns;exact absurd rfl ns
 | some v=>exact ⟨v,rfl,rfl⟩
theorem GO {x:Str}{k:NameKind}{i:Nat}(C:Ctx W fm n A)(I:InvS W fm V ps s)(hm:(x,k,i)∈fm.sc)(hk:k = .local\/k = .cell\/k = .free)(hc:(x==("__classdict__":Str))=false){p:PV}(e:ps.loc i=some p)
  {Q:Value->Shared->Prop} {E:Value->Shared->Prop} (h:∀ v,W.rep fm V s.heap p v->Q v s):wpAny W.m A (loadName fm.env x) Q E s:=by
 have kd:=C.fm.kinds x k i hm
 rcases hk with rfl | hk
 ·have kd:=C.fm.kindX hm (by decide)
  obtain ⟨m,n1,n2⟩:=I.inv.loc
  have q:=n2 x i hm
  rw [e] at q
  cases hv:m x with
  | none=>rw [hv] at q;cases q
  | some v=>
   rw [hv] at q
   cases q with
   | some r=>exact wpAny_loadName_local C.fm.kind kd n1 hv (h v r)
 ·obtain ⟨c,v,h1,h2,h3,h4,h5⟩:=I.inv.cel x k i hm hk
  rw [e] at h5
  cases h5 with
  | some r=>
   rcases hk with rfl | rfl
   ·exact wpAny_loadName_cell C.fm.kind (C.fm.kindX hm (by decide)) h1 h4 (h _ r)
   ·rcases kd with kd | ⟨_,kd⟩
    ·exact wpAny_loadName_free C.fm.kind kd h1 h4 (h _ r) hc
    ·exact wpAny_loadName_cell C.fm.kind kd h1 h4 (h _ r)
theorem Gr {x:Str}{k:NameKind}{i:Nat}{pos:Pos}(hm:(x,k,i)∈fm.sc)(hk:k = .local\/k = .cell\/k = .free)(hc:(x==("__classdict__":Str))=false)(hd:(x==("__debug__":Str))=false) :
  SimE W n fm (.Name x pos) (af i):=.mk λA V ps s C I ns=>by
 obtain ⟨p,e,e'⟩:=IV ns
 unfold Ai
 rw [e']
 exact wpAny_Name (GO C I hm hk hc e λv r=>.same' I r) hd
theorem GP {x:Str}{i:Nat}{pos:Pos}{p:PV}{v:Value}(hm:(x,NameKind.globalImplicit,i)∈fm.sc)(hv:W.H.mg x=some v)(hr:∀ V h,W.rep fm V h p v)(hd:(x==("__debug__":Str))=false) :
  SimE W n fm (.Name x pos) (ae p):=.mk λA V ps s C I ns=>
 Calls.Name_function_global C.fm.kind (C.fm.kindX hm (by decide)) (Calls.loadGlobal_global (env:=fm.env) (by rw [C.fm.glob];exact C.hd.g.keeps I.inv.base) hv (.same' I (hr _ _))) hd
theorem Ae {l r:Expr}{op:Operator}{pos:Pos}{ml mr:M PV}(hl:SimE W n fm l ml)(hr:SimE W n fm r mr) :
  SimE W n fm (.BinOp l op r pos) (ac ml λa=>ac mr λb=>Aj op a b):=.mk λA V ps s C I ns=>by
 refine wpAny_BinOp (Ai.seq (hl A V ps s C I (Ad ns)) (λa va α₁ o0 c0 u0 l0 s0 ra y0=>?_) λx c0 q=>q.bind)
 rw [Ab y0] at ns ⊢
 refine Ai.seq (hr A α₁ o0 c0 C u0 (Ad ns)) (λb vb Y0 Z1 z0 Y1 W0 X0 rb W1=>?_) λx c0 q=>q.bind.after l0 s0
 rw [Ab W1] at ns ⊢
 exact aW (Uo op A Y0 Z1 z0 a b va vb C Y1 (u0.stays C X0 W0 ra) rb ns) (λU U q=>(q.after W0 X0).after l0 s0) (λU U q=>(q.after W0 X0).after l0 s0)
theorem Sr {l r:Expr}{op:CmpOp}{pos:Pos}{ml mr:M PV}(hl:SimE W n fm l ml)(hr:SimE W n fm r mr)(hm:behindInMarks op r=false) :
  SimE W n fm (.Compare l [op] [r] pos) (ac ml λa=>ac mr λb=>Au op a b):=.mk λA V ps s C I ns=>by
 refine wpAny_Compare1 (Ai.seq (hl A V ps s C I (Ad ns)) (λa va α₁ o0 c0 u0 l0 s0 ra y0=>?_) λx c0 q=>q.bind) hm
 rw [Ab y0] at ns ⊢
 refine Ai.seq (hr A α₁ o0 c0 C u0 (Ad ns)) (λb vb Y0 Z1 z0 Y1 W0 X0 rb W1=>?_) λx c0 q=>q.bind.after l0 s0
 rw [Ab W1] at ns ⊢
 exact aW (IU op A Y0 Z1 z0 a b va vb C Y1 (u0.stays C X0 W0 ra) rb ns) (λU U q=>(q.after W0 X0).after l0 s0) (λU U q=>(q.after W0 X0).after l0 s0)
end
inductive All2 {V β:Type}(P:V->β->Prop):List V->List β->Prop
 | nil:All2 P [] []
 | cons {a:V} {b:β} {l:List V} {l':List β} (h:P a b) (t:All2 P l l'):All2 P (a::l) (b::l')
section
variable {W:Wd}{fm:Fm}{V α' α₁:List Addr}{h h' h₁:Heap}{n:Nat}{A:Around}{ps ps':PS}{s s':Shared}{hd:Bool}{H:Hd}{h₀:Heap}
inductive OkB (W:Wd)(fm:Fm)(V:List Addr)(h:Heap)(r:R Bool)(v:Bool)(s':Shared):Prop
 | mk (ps':PS) (α':List Addr) (k1:r = .ok v ps') (k2:InvS W fm α' ps' s') (k3:Grow V α' h) (k4:Rel fm.stk fm.tab V h s'.heap):OkB W fm V h r v s'
abbrev SimB.T (W:Wd)(n:Nat)(fm:Fm)(e:Expr)(m:M Bool):Prop:=∀ A V ps s,Ctx W fm n A->InvS W fm V ps s->m ps≠.stuck->wpAny W.m A (isTrue e fm.env (eval e fm.env)) (OkB W fm V s.heap (m ps)) (ExE W fm V s.heap (m ps)) s
structure SimB (W:Wd)(n:Nat)(fm:Fm)(e:Expr)(m:M Bool):Prop where
 go:SimB.T W n fm e m
noncomputable instance {W:Wd} {n:Nat} {fm:Fm} {e:Expr} {m:M Bool}:CoeFun (SimB W n fm e m) (λU=>SimB.T W n fm e m):=⟨SimB.go⟩
theorem OkB.after {r:R Bool}{v:Bool}(q:OkB W fm α₁ h₁ r v s')(g:Grow V α₁ h)(x:Rel fm.stk fm.tab V h h₁):OkB W fm V h r v s':=by
 obtain ⟨ps',α',e,I,g',x'⟩:=q
 exact ⟨ps',α',e,I,g.trans g' x,x.trans x' g.new⟩
theorem OkB.same (I:InvS W fm V ps s){b:Bool}:OkB W fm V s.heap (.ok b ps) b s:=⟨ps,V,rfl,I,.refl ..,.refl ..⟩
def tst (v:PV):M Bool:=aB (truP v)
theorem Es {p:PV}{v:Value}{b:Bool}(r:W.rep fm V h p v)(e:truP p=some b):v = .bool b:=by
 cases p <;> cases e
 exact r.inv
theorem LE {p:PV}(ns:tst p ps≠.stuck):∃ b,truP p=some b/\tst p ps = .ok b ps:=Fr ns
theorem D2 {p:PV}{v:Value}(I:InvS W fm V ps s)(r:W.rep fm V s.heap p v)(ns:tst p ps≠.stuck){E:Value->Shared->Prop}:wpAny W.m A (truthy v) (OkB W fm V s.heap (tst p ps)) E s:=by
 obtain ⟨b,e,e'⟩:=LE ns
 rw [e',Es r e]
 exact wpAny_truthy_bool (.same I)
theorem PT {l r:Expr}{op:CmpOp}{pos:Pos}{ml mr:M PV}(hl:SimE W n fm l ml)(hr:SimE W n fm r mr)(hm:behindInMarks op r=false) :
  SimB W n fm (.Compare l [op] [r] pos) (ac ml λa=>ac mr λb=>ac (Au op a b) tst):=.mk λA V ps s C I ns=>by
 refine wpAny_isTrue_Compare1 (Ai.seq (hl A V ps s C I (Ad ns)) (λa va α₁ o0 c0 u0 l0 s0 ra y0=>?_) λx c0 q=>q.bind) hm
 rw [Ab y0] at ns ⊢
 refine Ai.seq (hr A α₁ o0 c0 C u0 (Ad ns)) (λb vb Y0 Z1 z0 Y1 W0 X0 rb W1=>?_) λx c0 q=>q.bind.after l0 s0
 rw [Ab W1] at ns ⊢
 refine Ai.seq (IU op A Y0 Z1 z0 a b va vb C Y1 (u0.stays C X0 W0 ra) rb (Ad ns)) (λc vc W4 w4 v3 Y2 W3 i4 rc Z3=>?_) λx c0 q=>(q.bind.after W0 X0).after l0 s0
 rw [Ab Z3] at ns ⊢
 exact aW (D2 Y2 rc ns) (λU U q=>((q.after W3 i4).after W0 X0).after l0 s0) (λU U q=>q)
theorem BK {e:Expr}{m:M PV}(he:SimE W n fm e m)(hv:∀ env whole,isTrue e env whole=(do let v <- whole;standAt e.pos;holding [v] (truthy v))):SimB W n fm e (ac m tst):=.mk λA V ps s C I ns=>by
 rw [hv]
 refine bf (Ai.seq (he A V ps s C I (Ad ns)) (λa va α₁ o0 c0 u0 l0 s0 ra y0=>?_) λx c0 q=>q.bind)
 rw [Ab y0] at ns ⊢
 exact bf (wpAny_standAt (be (aW (D2 u0 ra ns) (λU U q=>q.after l0 s0) (λU U q=>q))))
theorem DG {e:Expr}{pos:Pos}{m:M Bool}(he:SimB W n fm e m):SimB W n fm (.UnaryOp .Not e pos) (ac m λb=>ae !b):=.mk λA V ps s C I ns=>by
 rw [arm_isTrue_UnaryOp]
 refine bf (aW (he A V ps s C I (Ad ns)) (λb c0 q=>?_) (λU U q=>q.bind))
 obtain ⟨o0,α₁,y0,u0,l0,s0⟩:=q
 rw [Ab y0]
 exact bg ⟨o0,α₁,rfl,u0,l0,s0⟩
def GQ:BoolOp->Bool->Bool
 | .And,b=>!b
 | .Or,b=>b
def AG (op:BoolOp):List (M Bool)->M Bool
 | []=>ae (op==.And)
 | m::r=>ac m λb=>if GQ op b then ae b else AG op r
set_option backward.match.sparseCases true in
theorem IW {op:BoolOp}{e:Expr}{es:List Expr}{env:Env}:allTrue op (e::es) env=(do match op,<- isTrue e env (eval e env) with | .And,false=>pure false | .Or,true=>pure true | _,_=>allTrue op es env):=rfl
theorem PU {op:BoolOp}:∀ {es:List Expr} {ms:List (M Bool)},All2 (SimB W n fm) es ms->∀ A V ps s,Ctx W fm n A->InvS W fm V ps s->AG op ms ps≠.stuck->wpAny W.m A (allTrue op es fm.env) (OkB W fm V s.heap (AG op ms ps)) (ExE W fm V s.heap (AG op ms ps)) s:=by
 intro _ _ hS
 induction hS with
 | nil=>
  intro A V ps s C I ns
  exact bg (.same I)
 | @cons e m es ms q qs ih=>
  intro A V ps s C I ns
  rw [IW]
  unfold AG at ns ⊢
  refine bf (aW (q A V ps s C I (Ad ns)) (λb c0 z=>?_) (λU U z=>z.bind))
  obtain ⟨o0,α₁,y0,u0,l0,s0⟩:=z
  rw [Ab y0] at ns ⊢
  have rest:AG op ms o0≠.stuck->wpAny W.m A (allTrue op es fm.env) (OkB W fm V s.heap (AG op ms o0)) (ExE W fm V s.heap (AG op ms o0)) c0:=λz=>
   aW (ih A α₁ o0 c0 C u0 z) (λU U q=>q.after l0 s0) (λU U q=>q.after l0 s0)
  cases op <;> cases b
  ·exact bg ⟨o0,α₁,rfl,u0,l0,s0⟩
  ·exact rest ns
  ·exact rest ns
  ·exact bg ⟨o0,α₁,rfl,u0,l0,s0⟩
theorem Bc {op:BoolOp}{es:List Expr}{pos:Pos}{ms:List (M Bool)}(hs:All2 (SimB W n fm) es ms):SimB W n fm (.BoolOp op es pos) (AG op ms):=.mk λA V ps s C I ns=>by
 rw [arm_isTrue_BoolOp];exact PU hs A V ps s C I ns
theorem A7 {t b o:Expr}{pos:Pos}{mt:M Bool}{mb mo:M PV}(ht:SimB W n fm t mt)(hb:SimE W n fm b mb)(ho:SimE W n fm o mo):SimE W n fm (.IfExp t b o pos) (ac mt λc=>if c then mb else mo):=.mk λA V ps s C I ns=>by
 show wpAny _ _ (do if <- isTrue t fm.env (eval t fm.env) then eval b fm.env else eval o fm.env) _ _ _
 refine bf (aW (ht A V ps s C I (Ad ns)) (λc c0 z=>?_) (λU U z=>z.bind))
 obtain ⟨o0,α₁,y0,u0,l0,s0⟩:=z
 rw [Ab y0] at ns ⊢
 cases c
 ·exact aW (ho A α₁ o0 c0 C u0 ns) (λU U q=>q.after l0 s0) (λU U q=>q.after l0 s0)
 ·exact aW (hb A α₁ o0 c0 C u0 ns) (λU U q=>q.after l0 s0) (λU U q=>q.after l0 s0)
def BS (op:BoolOp):List (M PV)->M PV
 | []=>aq
 | [m]=>m
 | m::r=>ac m λv=>ac (tst v) λb=>if GQ op b then ae v else BS op r
set_option backward.match.sparseCases true in
theorem JX {pos:Pos}{op:BoolOp}{x y:Sem Value}{r:List (Sem Value)}:boolOp pos op (x::y::r)=(do
  let v <- x
  standAt pos
  let t <- holding [v] (truthy v)
  match op,t with
  | .And,false | .Or,true=>pure v
  | _,_=>boolOp pos op (y::r)):=rfl
theorem LF {op:BoolOp}{m m':M PV}{r:List (M PV)}:BS op (m::m'::r)=ac m λv=>ac (tst v) λb=>if GQ op b then ae v else BS op (m'::r):=rfl
theorem HH {e:Expr}{es:List Expr}{env:Env}:evalEach (e::es) env=eval e env::evalEach es env:=rfl
theorem HI {op:BoolOp}{pos:Pos}{es:List Expr}{ms:List (M PV)}(qs:All2 (SimE W n fm) es ms):∀ {e:Expr} {m:M PV},SimE W n fm e m->∀ A V ps s,Ctx W fm n A->InvS W fm V ps s->BS op (m::ms) ps≠.stuck->Ai W fm A V ps s (boolOp pos op (eval e fm.env::evalEach es fm.env)) (BS op (m::ms)):=by
 induction qs with
 | nil=>intro e m q A V ps s C I ns;exact q A V ps s C I ns
 | @cons e' m' es ms q' qs ih=>
  intro e m q A V ps s C I ns
  unfold Ai
  rw [LF] at ns ⊢
  rw [HH,JX]
  refine bf (Ai.seq (q A V ps s C I (Ad ns)) (λv va α₁ o0 c0 u0 l0 s0 ra y0=>?_) λx c0 q=>q.bind)
  rw [Ab y0] at ns ⊢
  refine bf (wpAny_standAt (bf (be ?_)))
  obtain ⟨b,tb,eb⟩:=LE (Ad ns)
  rw [Ab eb] at ns ⊢
  have hv:=Es ra tb
  subst hv
  refine wpAny_truthy_bool ?_
  have rest:BS op (m'::ms) o0≠.stuck->wpAny W.m A (boolOp pos op (eval e' fm.env::evalEach es fm.env)) (OkE W fm V s.heap (BS op (m'::ms) o0)) (ExE W fm V s.heap (BS op (m'::ms) o0)) c0:=λz=>
   aW (ih q' A α₁ o0 c0 C u0 z) (λU U q=>q.after l0 s0) (λU U q=>q.after l0 s0)
  have done:OkE W fm V s.heap (ae v o0) (.bool b) c0:=⟨v,o0,α₁,rfl,u0,l0,s0,ra⟩
  cases op <;> cases b
  ·exact bg done
  ·exact rest ns
  ·exact rest ns
  ·exact bg done
theorem Fs {op:BoolOp}{es:List Expr}{pos:Pos}{ms:List (M PV)}(hs:All2 (SimE W n fm) es ms):SimE W n fm (.BoolOp op es pos) (BS op ms):=.mk λA V ps s C I ns=>
 by cases hs with
 | nil=>exact absurd rfl ns
 | cons q qs=>exact HI qs q A V ps s C I ns
end
section
variable {W:Wd}{fm:Fm}{V α' α₁:List Addr}{h h' h₁:Heap}{n:Nat}{A:Around}{ps ps':PS}{s s':Shared}{H:Hd}{h₀:Heap}
theorem Az (h:Heap):h.get? h.objs.size=none:=by
 cases q:h.get? h.objs.size with
 | none=>rfl
 | some o=>exact absurd (lt_size q) (bh _)
theorem Ft {e:Addr}{cls:String}{tk:Nat}(I:InvS W fm V ps s)(x:Heap.NewExc s.heap h' e cls){β:Type}(hc:cls≠"code":=by decide):ExE W fm V s.heap (.ex (.std cls) ps:R β) (.ref e) { s with heap:=h',toks:=tk }:=by
 obtain ⟨ob,t,h1,h2,h3⟩:=x.there
 refine ⟨.std cls,ps,V,rfl,⟨I.inv.keeps x.keeps,I.gens,I.os⟩,.refl ..,.of_keeps x.keeps,e,ob,_,rfl,h1,h2,h3,by simp,x.new,hc,.inl rfl,rfl⟩
theorem Fu {β:Type}{hd:Bool}{nm:String}(ns:(aJ hd nm:M β) ps≠.stuck):hd=false/\(aJ hd nm:M β) ps = .ex (.std nm) ps:=by
 unfold aJ at ns ⊢
 cases hd
 ·exact ⟨rfl,rfl⟩
 ·exact absurd rfl ns
theorem Ak {β:Type}{c:Bool}{m:M β}(ns:ak c m ps≠.stuck):c=true/\ak c m ps=m ps:=by
 unfold ak at ns ⊢
 cases c
 ·exact absurd rfl ns
 ·exact ⟨rfl,rfl⟩
theorem M4 (i:Int)(n:Nat):seqIndex? i n=idx i n:=by
 unfold seqIndex? idx
 by_cases h0:0<=i
 ·have:¬ i<0:=by lia
  simp only [this,if_false,h0,if_true,decide_true,Bool.true_and]
  by_cases h1:i.toNat<n
  ·have:i<n:=by lia
   simp [h1,this]
  ·have:¬ i<n:=by lia
   simp [h1,this]
 ·have:i<0:=by lia
  simp only [this,if_true,h0,if_false]
  by_cases h1:0<=i+n
  ·have:i+n<n:=by lia
   simp [h1,this]
  ·simp [h1]
theorem Ur {i:Int}{n j:Nat}(h:idx i n=some j):j<n:=by
 unfold idx at h
 split at h <;> split at h <;> cases h <;> lia
theorem JY {i:Int}(h:Ah i=true):-(2 ^ 63:Int)<=i/\i<2 ^ 63:=by
 unfold Ah at h
 rw [decide_eq_true_eq] at h
 have:((2:Int) ^ 63)=9223372036854775808:=by decide
 omega
theorem H5 {i:Int}(h:Ah i=true):(decide (i < -(2 ^ 63:Int))||decide (i≥2 ^ 63))=false:=by
 have:=JY h
 simp only [or_eq_false_iff,decide_eq_false_iff_not]
 lia
theorem Gs {value slice:Expr}{o i:Value}{T id:String}{m:M PV}(hT:s.TypeIs o T)(hl:typeLookup (.type T) "__getitem__" = pure (some (.builtin id)))(hs:∀ o i,∃ ops,subscripted slice false o i=operate ops (getItem o i))
  (g:Ai W fm A V ps s (getItem o i) m):Ai W fm A V ps s (subscriptTail value slice o i) m:=by
 obtain ⟨ops,e⟩:=hs o i
 exact tail_any hT hl g e
theorem IX:Slot "mappingproxy" "__getitem__" "mappingproxy.__getitem__":=
 .of (owner:="mappingproxy") (n:="__getitem__") (by rw [typeLookup_type,builtinLookup_eq_fast];kernel_rfl) (by decide +kernel) (by decide +kernel) (by decide +kernel)
  (by first | exact .inl (by decide +kernel) | exact .inr (by decide +kernel)) (by rw [isSubtype_type];kernel_rfl)
theorem PW:entryFor table "mappingproxy.__getitem__" = some Builtin.«mappingproxy.__getitem__»:=entryFor_of_tree (by kernel_rfl)
theorem Oh (hd:Bool)(x:Txt)(i:Int):As hd (.str x) (.int i)=ak (Ah i) (match idx i x.length with
  | some j=>ae (.str [x.getD j 0])
  | none=>aJ hd "IndexError"):=rfl
theorem H6 (hd:Bool)(k:Nat)(i:Int):As hd (.lst k) (.int i)=ak (Ah i) (ac (ar k) λl=>aB ((idx i l.length).bind (l[·]?))):=rfl
theorem Oi (hd:Bool)(ks vs:List PV)(x:PV):As hd (.dct ks vs) x=aB ((C9 ks vs x).bind id):=rfl
theorem PY (hd:Bool)(x:Txt):As hd .mp (.str x)=match escT x with
  | some t=>ae (.str t)
  | none=>aJ hd "KeyError":=rfl
theorem PZ {x:Txt}{i:Int}{t u:Tok}(hA:A.handled=fm.hdl)(I:InvS W fm V ps s)(ns:As fm.hdl.isSome (.str x) (.int i) ps≠.stuck) :
  Ai W fm A V ps s (getItem (.str (txt x) t) (.int i u)) (As fm.hdl.isSome (.str x) (.int i)):=by
 rw [Oh] at ns ⊢
 obtain ⟨hs,e⟩:=Ak ns
 rw [e] at ns
 refine Ai.congr e ?_
 cases q:idx i x.length with
 | some j=>
  have lt:=Ur q
  refine PySem.P.getItem_str (c:=x.getD j 0) (H5 hs) ?_ ?_
  ·rw [M4,AD,q]
   show (txt x).cps[j]? = _
   simp [txt,lt]
  ·exact OkE.same I (.str [x.getD j 0] _)
 | none=>
  simp only [q] at ns
  obtain ⟨h1,h2⟩:=Fu ns
  have hh:A.handled=none:=by rw [hA];exact Option.isNone_iff_eq_none.mp (by cases hq:fm.hdl <;> simp_all)
  refine Ai.congr (m':=λps=>.ex (.std "IndexError") ps) h2 ?_
  exact getItem_meets (typeIs_str s (txt x) t) (by decide) F.slot_str_getitem F.entry_str_getitem (F.args_str_getitem_2 _ (.int i u))
   (raises_str_getitem (txt x) i t u (H5 hs) (by rw [M4,AD,q];rfl)) ⟨hh,λh' tk e x=>Ft I x⟩
set_option tactic.hygienic true in
theorem P0 {v:Value}{k:Nat}{i:Int}{u:Tok}(I:InvS W fm V ps s)(r:W.rep fm V s.heap (.lst k) v)(ns:As fm.hdl.isSome (.lst k) (.int i) ps≠.stuck) :
  Ai W fm A V ps s (getItem v (.int i u)) (As fm.hdl.isSome (.lst k) (.int i)):=by
 rw [H6] at ns ⊢
 obtain ⟨hs,e⟩:=Ak ns
 rw [e] at ns
 refine Ai.congr e ?_
 obtain ⟨l,e1,e2⟩:=Bh (Ad ns)
 rw [Ab e2] at ns
 refine Ai.congr (Ab e2) ?_
 obtain ⟨p,e3,e4⟩:=Fr ns
 obtain ⟨a,vs,rfl,hl,rl⟩:=DD I r e1
 refine Ai.congr (m':=ae p) e4 ?_
 cases q:idx i l.length with
 | none=>rw [q] at e3;cases e3
 | some j=>
  rw [q] at e3
  obtain ⟨v,hv,rv⟩:=rl.get j p e3
  have len:=rl.length
  have b:=JY hs
  unfold idx at q
  by_cases h0:0<=i
  ·rw [if_pos h0] at q
   split at q <;> cases q
   exact wpAny_getItem_list hl h0 b.2 (by simpa using hv) (OkE.same' I rv)
  ·rw [if_neg h0] at q
   split at q <;> cases q
   rename_i h1
   refine wpAny_getItem_list_neg hl (by lia) (by rw [size_toArray,<- len];lia) b.1 ?_ (OkE.same' I rv)
   rw [size_toArray,<- len]
   simpa using hv
theorem P1 {v vx:Value}{ks vs:List PV}{x:PV}(I:InvS W fm V ps s)(r:W.rep fm V s.heap (.dct ks vs) v)(rx:W.rep fm V s.heap x vx)(ns:As fm.hdl.isSome (.dct ks vs) x ps≠.stuck) :
  Ai W fm A V ps s (getItem v vx) (As fm.hdl.isSome (.dct ks vs) x):=by
 rw [Oi] at ns ⊢
 obtain ⟨p,e3,e4⟩:=Fr ns
 refine Ai.congr (m':=ae p) e4 ?_
 have e6:C9 ks vs x=some (some p):=by
  cases q:C9 ks vs x with
  | none=>rw [q] at e3;cases e3
  | some r=>rw [q] at e3;exact congrArg some e3
 obtain ⟨a,o,es,ep,rfl,ha,ho,hx,hd,hk,rk,rv⟩:=r.inv
 rcases hk with hk | hk
 ·obtain ⟨y,rfl⟩:=Er hk rk rx e6
  obtain ⟨_,rfl⟩:=rx.inv
  obtain ⟨d,f1,f2⟩:=GM hk rk rv (B9 e6)
  have hm:s.heap.MapOf (strKind W.H.prog W.H.w) _ (λk=>findBy (strKind W.H.prog W.H.w).is _ k):=⟨_,_,_,ho,hx,hd,hk,λU=>rfl⟩
  refine wpAny_getItem_of (strKind_is _ _ _ _) hm (v:=d.val) ?_ (OkE.same I f2)
  unfold findBy
  obtain ⟨l⟩:=es
  simp only at f1
  simp [f1]
 ·obtain ⟨y,rfl⟩:=DE hk rk rx e6
  obtain ⟨_,rfl⟩:=rx.inv
  obtain ⟨d,f1,f2⟩:=GN hk rk rv (B9 e6)
  have hm:s.heap.MapOf (intKind W.H.prog W.H.w) _ (λk=>findBy (intKind W.H.prog W.H.w).is _ k):=⟨_,_,_,ho,hx,hd,hk,λU=>rfl⟩
  refine wpAny_getItem_of (intKind_is _ _ _ _) hm (v:=d.val) ?_ (OkE.same I f2)
  unfold findBy
  obtain ⟨l⟩:=es
  simp only at f1
  simp [f1]
theorem Ss {v:Value}{x:Txt}{u:Tok}(C:Ctx W fm n A)(I:InvS W fm V ps s)(r:W.rep fm V s.heap .mp v)(ns:As fm.hdl.isSome .mp (.str x) ps≠.stuck) :
  Ai W fm A V ps s (getItem v (.str (txt x) u)) (As fm.hdl.isSome .mp (.str x)):=by
 rw [PY] at ns ⊢
 obtain rfl:_=_:=r.inv
 obtain ⟨o,d,f,ho,hc,hd,hlo,hm,hf⟩:=C.hd.mp
 have ho:=I.inv.base _ _ ho
 have hm:s.heap.MapOf (strKind W.H.prog W.H.w) d f:=by
  obtain ⟨o',es,ep,q1,q2⟩:=hm
  exact ⟨o',es,ep,I.inv.base _ _ q1,q2⟩
 have hT:s.TypeIs (.ref W.H.mpv) "mappingproxy":=⟨o,ho,hc⟩
 have go:∀ {Q:Value->Shared->Prop} {E:Value->Shared->Prop},wpAny W.m A.in1 (getItem (.ref d) (.str (txt x) u)) Q E s->wpAny W.m A (getItem (.ref W.H.mpv) (.str (txt x) u)) Q E s:=λ{Q E} h=>
  wpAny_getItem_slot hT (by decide) IX (wpAny_call_entry IX hT PW (by
   show wpAny _ _ (do let m <- field (.ref W.H.mpv) 0;let v <- getItem m (.str (txt x) u);ret v) _ _ _
   exact bf (wpAny_field ho hd rfl (bf (aW h (λv s' q=>bg ⟨v,rfl,q⟩) λU U q=>q)))) (by unfold argsOk;kernel_rfl))
 cases q:escT x with
 | some t=>
  obtain ⟨tk,e⟩:=(hf x).2 t q
  exact go (wpAny_getItem_of (strKind_is _ _ _ _) hm e (OkE.same I (.str t tk)))
 | none=>
  simp only [q] at ns
  obtain ⟨h1,h2⟩:=Fu ns
  have hh:A.in1.handled=none:=by
   show A.handled=none
   rw [C.hdl];exact Option.isNone_iff_eq_none.mp (by cases hq:fm.hdl <;> simp_all)
  refine Ai.congr (m':=λps=>.ex (.std "KeyError") ps) h2 ?_
  exact go (wpAny_getItem_missing_of (strKind_is _ _ _ _) hlo hh hm ((hf x).1 q) λh' e x=>Ft I x)
theorem Su {a b:PV}{va vb:Value}{value slice:Expr}(C:Ctx W fm n A)(I:InvS W fm V ps s)(ra:W.rep fm V s.heap a va)(rb:W.rep fm V s.heap b vb)(hs:∀ o i,∃ ops,subscripted slice false o i=operate ops (getItem o i))
  (ns:As fm.hdl.isSome a b ps≠.stuck):Ai W fm A V ps s (subscriptTail value slice va vb) (As fm.hdl.isSome a b):=by
 cases a with
 | str x=>
  obtain ⟨i,eb⟩:=AV ns
  obtain rfl:=A6 eb
  obtain ⟨_,rfl⟩:=ra.inv;obtain ⟨_,rfl⟩:=rb.inv
  exact Gs (T:="str") rfl F.slot_str_getitem.lookup hs (PZ C.hdl I ns)
 | lst k=>
  obtain ⟨i,eb⟩:=AV ns
  obtain rfl:=A6 eb
  obtain ⟨_,rfl⟩:=rb.inv
  have ns':=ns
  rw [H6] at ns'
  obtain ⟨hq,e⟩:=Ak ns'
  rw [e] at ns'
  obtain ⟨l,e1,e2⟩:=Bh (Ad ns')
  obtain ⟨a,vs,rfl,hl,rl⟩:=DD I ra e1
  exact Gs hl.typeIs slot_list_getitem.lookup hs (P0 I ra ns)
 | dct ks vs=>
  have g:=P1 (A:=A) I ra rb ns
  obtain ⟨_,o,es,ep,rfl,hna,ho,hx,_⟩:=ra.inv
  exact Gs ⟨_,ho,hx.1⟩ slot_dict_getitem.lookup hs g
 | mp=>
  obtain ⟨x,eb⟩:=AV ns
  obtain rfl:=Bg eb
  obtain ⟨_,rfl⟩:=rb.inv
  have g:=λ(u:Tok)=>Ss (u:=u) C I ra ns
  obtain rfl:_=_:=ra.inv
  obtain ⟨o,d,f,ho,hc,_⟩:=C.hd.mp
  exact Gs ⟨o,I.inv.base _ _ ho,hc⟩ IX.lookup hs (g _)
 | _=>exact absurd rfl ns
theorem P2 {e i:Expr}{pos:Pos}{me mi:M PV}{hd:Bool}(hh:fm.hdl.isSome=hd)(he:SimE W n fm e me)(hi:SimE W n fm i mi)(hs:∀ o v,∃ ops,subscripted i false o v=operate ops (getItem o v)) :
  SimE W n fm (.Subscript e i pos) (ac me λa=>ac mi λb=>As hd a b):=.mk λA V ps s C I ns=>by
 subst hh
 refine Subscript_ (Ai.seq (he A V ps s C I (Ad ns)) (λa va α₁ o0 c0 u0 l0 s0 ra y0=>?_) λx c0 q=>q.bind)
 rw [Ab y0] at ns ⊢
 refine Ai.seq (hi A α₁ o0 c0 C u0 (Ad ns)) (λb vb Y0 Z1 z0 Y1 W0 X0 rb W1=>?_) λx c0 q=>q.bind.after l0 s0
 rw [Ab W1] at ns ⊢
 exact aW (Su C Y1 (u0.stays C X0 W0 ra) rb hs ns) (λU U q=>(q.after W0 X0).after l0 s0) (λU U q=>(q.after W0 X0).after l0 s0)
theorem GR {β:Type}(l:List β)(lo hi:Nat)(hh:hi<=l.length):((range (hi - lo)).map (λk=>lo+k)).filterMap (l[·]?)=(l.take hi).drop lo:=by
 rw [List.filterMap_map]
 apply List.ext_getElem?
 intro i
 have e:(range (hi - lo)).filterMap ((λx=>l[x]?)∘λk=>lo+k)=(l.take hi).drop lo:=by
  generalize hd:hi - lo=d
  induction d generalizing hi with
  | zero=>
   rw [List.drop_of_length_le (by rw [length_take];exact la [_,_,_,_] [([2],[1]),([4],[6]),([6],[2,8,0])] ([4],[8]) rfl (Nat.le_of_eq hd) (Nat.min_le_left _ _) (Mi.lcS _ _))];rfl
  | succ d ih=>
   obtain ⟨k,rfl⟩:∃ k,hi=k+1:=⟨hi - 1,by omega⟩
   have e1:=ih k (by exact la [_,_] [([2,3,0],[4])] ([2],[4]) rfl hh) (by omega)
   have lt:k<l.length:=by exact la [_,_] [([2,3,0],[4])] ([2,3,0],[4]) rfl hh
   have e2:l.take (k+1)=l.take k++[l[k]]:=by
    rw [List.take_add_one,getElem?_eq_getElem lt];rfl
   rw [range_succ,List.filterMap_append,e1,e2,List.drop_append_of_le_length (by rw [length_take];omega)]
   congr 1
   have:lo+d=k:=by omega
   simp [this,getElem?_eq_getElem lt]
 rw [e]
theorem JZ (i:Int)(n:Nat):max 0 (min (if i<0 then i+n else i) n)=(bnd i n:Int):=by
 have max0:∀ m:Nat,max 0 (min (m:Int) n)=((min m n:Nat):Int):=λm=>by lia
 unfold bnd
 by_cases h:0<=i
 ·rw [if_neg (Int.not_lt.mpr h),if_pos h]
  obtain ⟨m,rfl⟩:=Int.eq_ofNat_of_zero_le h
  exact max0 m
 ·have lt:=Int.not_le.mp h
  rw [if_pos lt,if_neg h]
  by_cases g:0<=i+n
  ·obtain ⟨m,e⟩:=Int.eq_ofNat_of_zero_le g
   have le:m<=n:=by lia
   rw [e]
   exact (max0 m).trans (congrArg Nat.cast (bj le))
  ·have g:=Int.le_of_lt (Int.not_le.mp g)
   rw [Int.toNat_of_nonpos g]
   exact Int.max_eq_left (Int.le_trans (Int.min_le_left ..) g)
theorem bnd_le (i:Int)(n:Nat):bnd i n<=n:=by
 unfold bnd;split <;> lia
theorem FT (lo hi:Nat):sliceRange (lo:Int) (hi:Int) 1=(range (hi - lo)).map (λk=>lo+k):=by
 unfold sliceRange
 simp only [show (1:Int)>0 by decide,if_true]
 by_cases q:lo<hi
 ·rw [if_pos (by lia)]
  have:(((hi:Int) - lo+1 - 1) / 1).toNat=hi - lo:=by rw [Int.ediv_one];lia
  rw [this]
  refine List.map_congr_left λk U=>?_
  lia
 ·rw [if_neg (by lia),show hi - lo=0 by lia];rfl
def loB (a:Option Int)(n:Nat):Nat:=match a with | some i=>bnd i n | none=>0
def hiB (b:Option Int)(n:Nat):Nat:=match b with | some i=>bnd i n | none=>n
theorem LG (b:Option Int)(n:Nat):hiB b n<=n:=by cases b <;> simp [hiB,bnd_le]
theorem GS {β:Type}(l:List β)(a b:Option Int):slc l a b=(l.take (hiB b l.length)).drop (loB a l.length):=rfl
theorem P3 (a b:Option Int)(n:Nat):Builtin.Str.strSliceIndices a b 1 n=(range (hiB b n - loB a n)).map (λk=>loB a n+k):=by
 rw [<- FT]
 unfold Builtin.Str.strSliceIndices
 cases a <;> cases b <;> simp only [show (1:Int)>0 by decide,if_true,loB,hiB,JZ] <;> rfl
theorem Us (a b:Option Int)(n:Nat):sliceRange (sliceBounds a b none n).1 (sliceBounds a b none n).2.1 (sliceBounds a b none n).2.2=(range (hiB b n - loB a n)).map (λk=>loB a n+k):=by
 rw [<- FT]
 unfold sliceBounds
 cases a <;> cases b <;> simp only [Option.getD_none,show (1:Int)>0 by decide,if_true,loB,hiB,JZ] <;> rfl
set_option tactic.hygienic true in
theorem Oj (x:Txt)(a b:Option Int):(if ((1:Int)==1&&(Builtin.Str.strSliceIndices a b 1 (txt x).length).length==(txt x).length)=true then txt x else ⟨((Builtin.Str.strSliceIndices a b 1 (txt x).length).filterMap ((txt x).cps[·]?)).toArray⟩)=txt (slc x a b):=by
 have e:((Builtin.Str.strSliceIndices a b 1 (txt x).length).filterMap ((txt x).cps[·]?))=slc x a b:=by
  rw [P3,GS,AD]
  have:=GR x (loB a x.length) (hiB b x.length) (LG _ _)
  rw [<- this]
  refine congrFun (congrArg _ (funext λk=>?_)) _
  simp [txt]
 split
 ·rename_i q
  simp only [and_eq_true,beq_iff_eq] at q
  obtain ⟨_,q⟩:=q
  rw [P3,length_map,length_range,AD] at q
  have h1:=LG b x.length
  have:slc x a b=x:=by
   rw [GS]
   have e1:hiB b x.length=x.length:=by exact bc (la [_,_] [([2],[4])] ([2],[4]) rfl h1) (la [_,_,_] [([2],[4]),([4],[6])] ([2],[6]) rfl (aS q.symm) (Nat.sub_le _ _))
   have e2:loB a x.length=0\/x.length=0:=by lia
   rw [e1,take_length]
   rcases e2 with e2 | e2
   ·rw [e2];rfl
   ·rw [length_eq_zero_iff.mp e2];simp
  rw [this]
 ·rw [e];rfl
theorem P4 (vs:List Value)(a b:Option Int):(slicePick vs.toArray a b none).toList=slc vs a b:=by
 unfold slicePick
 rw [List.toList_toArray,Us,size_toArray,GS]
 have:=GR vs (loB a vs.length) (hiB b vs.length) (LG _ _)
 rw [<- this]
 refine congrFun (congrArg _ (funext λk=>?_)) _
 simp
theorem RepL.take {av:List Addr}{l:List PV}{vs:List Value}(k:Nat)(r:RepL H h₀ av V h l vs):RepL H h₀ av V h (l.take k) (vs.take k):=by
 revert k
 refine r.ind (P:=λl vs=>∀ k,RepL H h₀ av V h (l.take k) (vs.take k)) (λk=>by rw [take_nil,take_nil];exact .nil) λp v l vs q U ih k=>?_
 cases k with
 | zero=>exact .nil
 | succ k=>exact .cons q (ih k)
theorem RepL.drop {av:List Addr}{l:List PV}{vs:List Value}(k:Nat)(r:RepL H h₀ av V h l vs):RepL H h₀ av V h (l.drop k) (vs.drop k):=by
 revert k
 refine r.ind (P:=λl vs=>∀ k,RepL H h₀ av V h (l.drop k) (vs.drop k)) (λk=>by rw [drop_nil,drop_nil];exact .nil) λp v l vs q qs ih k=>?_
 cases k with
 | zero=>exact .cons q qs
 | succ k=>exact ih k
theorem RepL.slc {av:List Addr}{l:List PV}{vs:List Value}(a b:Option Int)(r:RepL H h₀ av V h l vs):RepL H h₀ av V h (slc l a b) (slc vs a b):=by
 rw [GS,GS,<- r.length];exact (r.take _).drop _
inductive SimO (W:Wd)(n:Nat)(fm:Fm):Option Expr->Option (M PV)->Prop
 | none:SimO W n fm none none
 | some {e:Expr} {m:M PV} (x:SimE W n fm e m):SimO W n fm (some e) (some m)
def OkP (W:Wd)(fm:Fm)(V:List Addr)(h:Heap)(r:R (Option Int))(v:Value)(s':Shared):Prop:=
 ∃ a ps' α',r = .ok a ps'/\InvS W fm α' ps' s'/\Grow V α' h/\Rel fm.stk fm.tab V h s'.heap/\∃ p:Option (Int × Tok),v=partValue p/\p.map (·.1)=a
set_option tactic.hygienic true in
theorem M5 {oe:Option Expr}{om:Option (M PV)}(q:SimO W n fm oe om)(C:Ctx W fm n A)(I:InvS W fm V ps s)(ns:AM om ps≠.stuck) :
  wpAny W.m A (evalPart oe fm.env) (OkP W fm V s.heap (AM om ps)) (ExE W fm V s.heap (AM om ps)) s:=by
 cases q with
 | none=>exact bg ⟨none,ps,V,rfl,I,.refl ..,.refl ..,none,rfl,rfl⟩
 | @some e m x=>
  rw [evalPart_some]
  have ns':ac m (λv=>match v with
   | .int i=>ae (some i)
   | _=>aq) ps≠.stuck:=ns
  refine Ai.seq (x A V ps s C I (Ad ns')) (λp v α₁ o0 c0 u0 l0 s0 Z0 y0=>?_) λx c0 q=>?_
  ·rw [Ab y0] at ns'
   cases p <;> (try exact absurd rfl ns')
   rename_i i
   obtain ⟨t,rfl⟩:=Z0.inv
   exact ⟨some i,o0,α₁,(Ab y0).trans rfl,u0,l0,s0,some (i,t),rfl,rfl⟩
  ·exact q.bind
theorem M6 (a:Option (Int × Tok)):IsPart (partValue a) (a.map (·.1)):=by
 cases a with
 | none=>exact .none
 | some x=>exact .int x.1 x.2
theorem P5 {p:PV}{v:Value}{a b:Option (Int × Tok)}{value slice:Expr}(C:Ctx W fm n A)(I:InvS W fm V ps s)(r:W.rep fm V s.heap p v)(hs:∀ o i,∃ ops,subscripted slice false o i=operate ops (getItem o i))
  (ns:AT (a.map (·.1)) (b.map (·.1)) p ps≠.stuck):wpAny W.m A (subscriptTail value slice v (.ref s.heap.objs.size)) (OkE W fm V s.heap (AT (a.map (·.1)) (b.map (·.1)) p ps)) (ExE W fm V s.heap (AT (a.map (·.1)) (b.map (·.1)) p ps))
   { s with heap:=s.heap.push { cls:=.type "slice",data:=.fields #[partValue a,partValue b,.none] } }:=by
 have k:∀ c o,s.heap.get? c=some o->(s.heap.push { cls:=.type "slice",data:=.fields #[partValue a,partValue b,.none] }).get? c=some o:=λc o e=>get?_push_of_some _ e
 have I':InvS W fm V ps { s with heap:=s.heap.push { cls:=.type "slice",data:=.fields #[partValue a,partValue b,.none] } }:=⟨I.inv.keeps k,I.gens,I.os⟩
 obtain ⟨ops,e⟩:=hs v (.ref s.heap.objs.size)
 cases p with
 | str x=>
  have ns':au (slc x (a.map (·.1)) (b.map (·.1))) ps≠.stuck:=ns
  have hb:(slc x (a.map (·.1)) (b.map (·.1))).length<=big:=by
   unfold au at ns'
   split at ns'
   ·assumption
   ·exact absurd rfl ns'
  have e1:AT (a.map (·.1)) (b.map (·.1)) (.str x) ps = .ok (.str (slc x (a.map (·.1)) (b.map (·.1)))) ps:=by
   show au _ ps=_
   unfold au;rw [if_pos hb]
  rw [e1]
  obtain ⟨t,rfl⟩:=r.inv
  refine tail_any (T:="str") (typeIs_str _ _ _) F.slot_str_getitem.lookup (wpAny_getItem_str_slice (l:=a) (u:=b) (st:=none) ⟨_,get?_push_size _ rfl,rfl,rfl⟩ rfl ?_) e
  refine post_val_or_str ?_
  have st:=Oj x (a.map (·.1)) (b.map (·.1))
  refine ⟨?_,λt' tk=>?_⟩
  ·show (if ((1:Int)==1&&(Builtin.Str.strSliceIndices (a.map (·.1)) (b.map (·.1)) 1 (txt x).length).length==(txt x).length)=true then txt x else ⟨((Builtin.Str.strSliceIndices (a.map (·.1)) (b.map (·.1)) 1 (txt x).length).filterMap ((txt x).cps[·]?)).toArray⟩).length<=sizeLine
   rw [st,AD,<- Bd];exact hb
  ·show OkE W fm V s.heap (.ok _ ps) (.str (if ((1:Int)==1&&(Builtin.Str.strSliceIndices (a.map (·.1)) (b.map (·.1)) 1 (txt x).length).length==(txt x).length)=true then txt x else ⟨((Builtin.Str.strSliceIndices (a.map (·.1)) (b.map (·.1)) 1 (txt x).length).filterMap ((txt x).cps[·]?)).toArray⟩) t') _
   rw [st]
   exact ⟨_,ps,V,rfl,I'.tok tk,.refl ..,.of_keeps k,.str _ _⟩
 | lst i=>
  have ns':ac (ar i) (λl=>ak (l.length<=big) (ao (slc l (a.map (·.1)) (b.map (·.1))))) ps≠.stuck:=ns
  obtain ⟨l,e1,e2⟩:=Bh (Ad ns')
  rw [Ab e2] at ns'
  obtain ⟨c,e3⟩:=Ak ns'
  rw [e3] at ns'
  have e4:AT (a.map (·.1)) (b.map (·.1)) (.lst i) ps=ao (slc l (a.map (·.1)) (b.map (·.1))) ps:=(Ab e2).trans e3
  rw [e4]
  obtain ⟨ad,vs,rfl,hl,rl⟩:=DD I r e1
  have hl':=IR k hl
  have rl':=RepL.keeps k (prefix_refl _) rl
  rw [decide_eq_true_eq] at c
  refine tail_any hl'.typeIs slot_list_getitem.lookup (wpAny_getItem_list_slice hl' ⟨_,get?_push_size _ rfl,rfl,rfl⟩ (M6 a) (M6 b) .none (by simp) ?_ (by rw [size_toArray,<- rl.length,<- Bd];exact c)) e
  have hlb:(slc l (a.map (·.1)) (b.map (·.1))).length<=big:=Cy ns'
  have k2:∀ c o,s.heap.get? c=some o->((s.heap.push { cls:=.type "slice",data:=.fields #[partValue a,partValue b,.none] }).push { cls:=.type "list",data:=.seq (slicePick vs.toArray (a.map (·.1)) (b.map (·.1)) none) }).get? c=some o:=
   λc o e=>get?_push_of_some _ (k c o e)
  refine OkE.newLst (a:=(s.heap.push { cls:=.type "slice",data:=.fields #[partValue a,partValue b,.none] }).objs.size) C I hlb (RepL.slc (a.map (·.1)) (b.map (·.1)) rl) k2 ?_ ⟨0,?_⟩
  ·cases q:s.heap.get? (s.heap.push { cls:=.type "slice",data:=.fields #[partValue a,partValue b,.none] }).objs.size with
   | none=>rfl
   | some o=>have:=lt_size q;rw [Heap.size_push] at this;exact absurd this (Nat.not_lt_of_le (Nat.le_succ _))
  ·have:=P4 vs (a.map (·.1)) (b.map (·.1))
   rw [<- this]
   exact get?_push_size _ rfl
 | _=>exact absurd rfl ns
theorem A4 {e:Expr}{l u:Option Expr}{p pos:Pos}{me:M PV}{ml mu:Option (M PV)}(he:SimE W n fm e me)(hl:SimO W n fm l ml)(hu:SimO W n fm u mu) :
  SimE W n fm (.Subscript e (.Slice l u none p) pos) (ac me λv=>ac (AM ml) λa=>ac (AM mu) λb=>AT a b v):=.mk λA V ps s C I ns=>by
 refine Subscript_ (Ai.seq (he A V ps s C I (Ad ns)) (λv va α₁ o0 c0 u0 l0 s0 ra y0=>?_) λx c0 q=>q.bind)
 rw [Ab y0] at ns ⊢
 refine wpAny_Slice (aW (M5 hl C u0 (Ad ns)) (λvl z0 q=>?_) λx z0 q=>q.bind.after l0 s0)
 obtain ⟨a,Z1,Y0,W1,Y1,W0,X0,pa,rfl,rfl⟩:=q
 rw [Ab W1] at ns ⊢
 refine aW (M5 hu C Y1 (Ad ns)) (λvu v3 q=>?_) λx v3 q=>(q.bind.after W0 X0).after l0 s0
 obtain ⟨b,w4,W4,Z3,Y2,W3,i4,pb,rfl,rfl⟩:=q
 rw [Ab Z3] at ns ⊢
 refine bg ?_
 exact aW (P5 C Y2 (Y1.stays C i4 W3 (u0.stays C X0 W0 ra)) (λo i=>⟨_,rfl⟩) ns) (λU U q=>((q.after W3 i4).after W0 X0).after l0 s0) (λU U q=>((q.after W3 i4).after W0 X0).after l0 s0)
end
inductive SimL (W:Wd)(n:Nat)(fm:Fm):List Expr->List (M PV)->Prop
 | nil:SimL W n fm [] []
 | cons {e:Expr} {m:M PV} {es:List Expr} {ms:List (M PV)} (x:SimE W n fm e m) (hs:∀ rest env,starEach (e::rest) env=(false,eval e env)::starEach rest env) (t:SimL W n fm es ms):SimL W n fm (e::es) (m::ms)
section
variable {W:Wd}{fm:Fm}{V α' α₁:List Addr}{h h' h₁:Heap}{n:Nat}{A:Around}{ps ps':PS}{s s':Shared}{H:Hd}{h₀:Heap}
inductive OkL (W:Wd)(fm:Fm)(V:List Addr)(h:Heap)(r:R (List PV))(vs:List Value)(s':Shared):Prop
 | mk (l:List PV) (ps':PS) (α':List Addr) (k1:r = .ok l ps') (k2:InvS W fm α' ps' s') (k3:Grow V α' h) (k4:Rel fm.stk fm.tab V h s'.heap) (k5:RepL W.H W.h₀ fm.av α' s'.heap l vs):OkL W fm V h r vs s'
theorem InvS.staysL (C:Ctx W fm n A)(I:InvS W fm V ps s)(x:Rel fm.stk fm.tab V s.heap h₁)(g:Grow V α₁ s.heap){p:List PV}{v:List Value}(r:RepL W.H W.h₀ fm.av V s.heap p v):RepL W.H W.h₀ fm.av α₁ h₁ p v:=
 RepL.stays I.inv.lists x g.pre C.fm.frsAv C.fm.tabAv r
theorem C0 {pos:Pos}:∀ {es:List Expr} {ms:List (M PV)},SimL W n fm es ms->∀ A V ps s,Ctx W fm n A->InvS W fm V ps s->ag ms ps≠.stuck ->
  wpAny W.m A (spliced (backTo pos (starEach es fm.env))) (OkL W fm V s.heap (ag ms ps)) (ExE W fm V s.heap (ag ms ps)) s:=by
 intro _ _ hS
 induction hS with
 | nil=>
  intro A V ps s C I ns
  exact Calls.spliced_nil ⟨[],ps,V,rfl,I,.refl ..,.refl ..,.nil⟩
 | @cons e m es ms q hs qs ih=>
  intro A V ps s C I ns
  rw [hs]
  have ns':ac m (λv=>ac (ag ms) λvs=>ae (v::vs)) ps≠.stuck:=ns
  show wpAny W.m A (spliced ((false,eval e fm.env)::backTo pos (starEach es fm.env))) (OkL W fm V s.heap (ac m (λv=>ac (ag ms) λvs=>ae (v::vs)) ps)) (ExE W fm V s.heap (ac m (λv=>ac (ag ms) λvs=>ae (v::vs)) ps)) s
  refine Calls.spliced_cons (Ai.seq (q A V ps s C I (Ad ns')) (λp v α₁ o0 c0 u0 l0 s0 Z0 y0=>?_) λx c0 q=>q.bind)
  rw [Ab y0] at ns' ⊢
  refine aW (ih A α₁ o0 c0 C u0 (Ad ns')) (λvs z0 q=>?_) λx z0 q=>q.bind.after l0 s0
  obtain ⟨l,Z1,Y0,W1,Y1,W0,X0,j4⟩:=q
  rw [Ab W1]
  exact ⟨p::l,Z1,Y0,rfl,Y1,l0.trans W0 s0,s0.trans X0 l0.new,.cons (u0.stays C X0 W0 Z0) j4⟩
theorem SimL.plain {pos:Pos}:∀ {es:List Expr} {ms:List (M PV)},SimL W n fm es ms->∀ env,(backTo pos (starEach es env)).any (·.1)=false:=by
 intro _ _ hS
 induction hS with
 | nil=>
  intro _
  exact rfl
 | @cons e m es ms q hs qs ih=>
  intro env
  rw [hs];exact ih env
theorem AZ {es:List Expr}{ms:List (M PV)}{pos:Pos}(q:SimL W n fm es ms):SimE W n fm (.List es pos) (ac (ag ms) ao):=.mk λA V ps s C I ns=>by
 refine wpAny_List_spliced (aW (C0 q A V ps s C I (Ad ns)) (λvs c0 z=>?_) λx c0 z=>z.bind)
 obtain ⟨l,o0,α₁,y0,u0,l0,s0,Z0⟩:=z
 rw [Ab y0] at ns ⊢
 have hb:=Cy ns
 refine ⟨by rw [<- Bd,<- Z0.length];exact hb,?_⟩
 exact (OkE.newLst C u0 hb Z0 (λU U e=>get?_push_of_some _ e) (Az _) ⟨0,get?_push_size _ rfl⟩).after l0 s0
theorem Bi (I:InvS W fm V ps s){a:Addr}(e:s.heap.get? a=none):a∉fm.av:=λm=>by
 have:=I.inv.live a m
 rw [e] at this;cases this
theorem D3 {es:List Expr}{ms:List (M PV)}{k:Nat}{pos:Pos}(q:SimL W n fm es ms):SimE W n fm (.Tuple es k pos) (ac (ag ms) Oe):=.mk λA V ps s C I ns=>by
 refine wpAny_Tuple_spliced (aW (C0 q A V ps s C I (Ad ns)) (λvs c0 z=>?_) λx c0 z=>z.bind)
 obtain ⟨l,o0,α₁,y0,u0,l0,s0,Z0⟩:=z
 rw [Ab y0] at ns ⊢
 obtain ⟨c,e⟩:=Ak ns
 rw [decide_eq_true_eq] at c
 refine ⟨by rw [<- Bd,<- Z0.length];exact c,?_⟩
 show OkE W fm V s.heap (ak _ _ o0) _ _
 rw [e]
 have k:=λb o (e:c0.heap.get? b=some o)=>get?_push_of_some ({ cls:=.type "tuple",data:=.seq vs.toArray }:Obj) e
 have hn:c0.heap.get? c0.heap.objs.size=none:=Az _
 exact OkE.after (α₁:=α₁) (h₁:=c0.heap) ⟨.tup l,o0,α₁,rfl,⟨u0.inv.keeps k,u0.gens,u0.os⟩,.refl ..,.of_keeps k,.tup (Bi u0 hn) ⟨_,get?_push_size _ rfl,rfl,0,rfl⟩ (Z0.keeps k (prefix_refl _))⟩ l0 s0
abbrev OpCall.T (W:Wd)(n:Nat)(fm:Fm)(f:Value)(g:List PV->M PV):Prop:=∀ A V ps s l vs,Ctx W fm n A->InvS W fm V ps s->RepL W.H W.h₀ fm.av V s.heap l vs->g l ps≠.stuck->Ai W fm A V ps s (call f vs) (g l)
structure OpCall (W:Wd)(n:Nat)(fm:Fm)(f:Value)(g:List PV->M PV):Prop where
 go:OpCall.T W n fm f g
noncomputable instance {W:Wd} {n:Nat} {fm:Fm} {f:Value} {g:List PV->M PV}:CoeFun (OpCall W n fm f g) (λU=>OpCall.T W n fm f g):=⟨OpCall.go⟩
theorem A2 {f:Value}{args:List (Bool × Sem Value)}{Q:Args->Shared->Prop}{E:Value->Shared->Prop}(hp:args.any (·.1)=false)(h:wpAny W.m A (spliced args) (λvs s'=>Q ⟨vs,[]⟩ s') E s):wpAny W.m A (evalArgs f true args []) Q E s:=by
 cases args with
 | nil=>
  unfold evalArgs
  show wpAny W.m A (spliced [] >>= _) Q E s
  refine bf (aW h (λvs s' h'=>bf (bg ?_)) λU U x=>x)
  refine be ?_
  exact bf (bg (bf (bg (bg h'))))
 | cons a r=>
  obtain ⟨b,x⟩:=a
  have:b=false:=by simpa using (List.any_eq_false.mp hp (b,x) mem_cons_self)
  subst this
  exact Calls.evalArgs_plain h
theorem BX {x:Str}{i:Nat}{v:Value}(C:Ctx W fm n A)(I:InvS W fm V ps s)(hf:x∈BF)(hn:x≠"__name__")(hb:bootBuiltins x=some v){Q:Value->Shared->Prop}{E:Value->Shared->Prop}(hm:(x,NameKind.globalImplicit,i)∈fm.sc){pos:Pos}(hd:(x==("__debug__":Str))=false)
  (h:Q v s):wpAny W.m A (eval (.Name x pos) fm.env) Q E s:=
 Calls.Name_function_global C.fm.kind (C.fm.kindX hm (by decide)) (Calls.loadGlobal_builtin (env:=fm.env) (by rw [C.fm.glob];exact C.hd.g.keeps I.inv.base) (C.hd.free x hf) (by rw [C.fm.bi];exact C.hd.b.keeps I.inv.base) ((C.hd.bu x hn).trans hb) h) hd
theorem LH {x:Str}{i:Nat}{id:String}{np pos:Pos}{es:List Expr}{ms:List (M PV)}{g:List PV->M PV}(hm:(x,NameKind.globalImplicit,i)∈fm.sc)(hf:x∈BF)(hn:x≠"__name__")(hd:(x==("__debug__":Str))=false)(hb:bootBuiltins x=some (.builtin id))
  (q:SimL W n fm es ms) (op:OpCall W n fm (.builtin id) g):SimE W n fm (.Call (.Name x np) es [] pos) (ac (ag ms) g):=.mk λA V ps s C I ns=>by
 show wpAny W.m A (do callWith pos (<- eval (.Name x np) fm.env) [] (backTo pos (starEach es fm.env)) (backToKw pos (keywordEach [] fm.env))) _ _ s
 refine bf (BX C I hf hn hb hm hd ?_)
 refine Calls.callWith_builtin (q.plain _) (A2 (q.plain _) (aW (C0 q A V ps s C I (Ad ns)) (λvs c0 z=>?_) λx c0 z=>z.bind))
 obtain ⟨l,o0,α₁,y0,u0,l0,s0,Z0⟩:=z
 rw [Ab y0] at ns ⊢
 exact aW (op A α₁ o0 c0 l vs C u0 Z0 ns) (λU U q=>q.after l0 s0) (λU U q=>q.after l0 s0)
theorem LI {x:Str}{i:Nat}{T:String}{np pos:Pos}{es:List Expr}{ms:List (M PV)}{g:List PV->M PV}(hm:(x,NameKind.globalImplicit,i)∈fm.sc)(hf:x∈BF)(hn:x≠"__name__")(hd:(x==("__debug__":Str))=false)(hb:bootBuiltins x=some (.type T))
  (q:SimL W n fm es ms) (op:OpCall W n fm (.type T) g):SimE W n fm (.Call (.Name x np) es [] pos) (ac (ag ms) g):=.mk λA V ps s C I ns=>by
 show wpAny W.m A (do callWith pos (<- eval (.Name x np) fm.env) [] (backTo pos (starEach es fm.env)) (backToKw pos (keywordEach [] fm.env))) _ _ s
 refine bf (BX C I hf hn hb hm hd ?_)
 refine PySem.callWith_type (q.plain _) (A2 (q.plain _) (aW (C0 q A V ps s C I (Ad ns)) (λvs c0 z=>?_) λx c0 z=>z.bind))
 obtain ⟨l,o0,α₁,y0,u0,l0,s0,Z0⟩:=z
 rw [Ab y0] at ns ⊢
 exact aW (op A α₁ o0 c0 l vs C u0 Z0 ns) (λU U q=>q.after l0 s0) (λU U q=>q.after l0 s0)
theorem LJ {k:Nat}(h:k<=big):(k:Int)<2 ^ 63:=by
 have:big=16777216:=rfl
 have:((2:Int) ^ 63)=9223372036854775808:=by decide
 lia
theorem Do {β:Type}{f:PV->M β}{l:List PV}{vs:List Value}(r:RepL W.H W.h₀ fm.av V h l vs)(ns:aH l f ps≠.stuck):∃ p v,l=[p]/\vs=[v]/\W.rep fm V h p v/\f p ps≠.stuck:=by
 obtain ⟨p,rfl⟩:=IP ns
 obtain ⟨v,ws,rfl,r1,r2⟩:=r.inv
 obtain rfl:ws=[]:=r2.inv
 exact ⟨p,v,rfl,rfl,r1,ns⟩
set_option tactic.hygienic true in
theorem Be:OpCall W n fm (.builtin "len") Cp:=by
 refine .mk ?_
 intro A V ps s l vs C I r0 ns
 obtain ⟨p,v,rfl,rfl,r,nq⟩:=Do r0 ns
 clear r0
 cases p <;> (try exact absurd rfl ns)
 ·rename_i x
  obtain ⟨t,rfl⟩:=r.inv
  have ns':ak (x.length<=big) (ae (PV.int x.length)) ps≠.stuck:=ns
  obtain ⟨c,e⟩:=Ak ns'
  rw [decide_eq_true_eq] at c
  refine Ai.congr (m':=ae (PV.int x.length)) e ?_
  have:=LJ c
  refine PySem.P.len_str (by rw [AD];lia) ?_
  rw [AD]
  exact OkE.same I (.int _ _)
 ·rename_i i
  have ns':ac (ar i) (λl=>ak (l.length<=big) (ae (PV.int l.length))) ps≠.stuck:=ns
  obtain ⟨l,e1,e2⟩:=Bh (Ad ns')
  rw [Ab e2] at ns'
  obtain ⟨c,e⟩:=Ak ns'
  rw [decide_eq_true_eq] at c
  refine Ai.congr (m':=ae (PV.int l.length)) ((Ab e2).trans e) ?_
  obtain ⟨a,vs,rfl,hl,rl⟩:=DD I r e1
  have sz:vs.toArray.size=l.length:=by rw [size_toArray,rl.length]
  refine Calls.call_len_list hl (by rw [sz];exact LJ c) ?_
  rw [sz]
  exact OkE.same I (.int _ _)
 ·rename_i xs
  obtain ⟨a,vs,rfl,hi,hv⟩:=r.inv
  have ns':ak (xs.length<=big) (ae (PV.int xs.length)) ps≠.stuck:=ns
  obtain ⟨c,e⟩:=Ak ns'
  rw [decide_eq_true_eq] at c
  refine Ai.congr (m':=ae (PV.int xs.length)) e ?_
  obtain ⟨o,e1,e2⟩:=hi
  have sz:=IntsAre.length hv
  rw [Array.length_toList] at sz
  refine Calls.call_len_list ⟨o,I.inv.base _ _ e1,e2⟩ (by rw [sz];exact LJ c) ?_
  rw [sz]
  exact OkE.same I (.int _ _)
theorem DH:OpCall W n fm (.builtin "chr") HG:=by
 refine .mk ?_
 intro A V ps s l vs C I r0 ns
 obtain ⟨p,v,rfl,rfl,r,nq⟩:=Do r0 ns
 clear r0
 obtain ⟨i,e⟩:=AV nq
 obtain rfl:=A6 e
 obtain ⟨t,rfl⟩:=r.inv
 have ns':ak (0<=i&&i<=1114111) (ae (PV.str [i.toNat])) ps≠.stuck:=ns
 obtain ⟨c,e⟩:=Ak ns'
 simp only [and_eq_true,decide_eq_true_eq] at c
 refine Ai.congr (m':=ae (PV.str [i.toNat])) e ?_
 refine PySem.P.chr_of_int (by simp only [or_eq_false_iff,decide_eq_false_iff_not];lia) ?_
 exact OkE.same I (.str [i.toNat] _)
theorem EU:OpCall W n fm (.builtin "ord") Ls:=by
 refine .mk ?_
 intro A V ps s l vs C I r0 ns
 obtain ⟨p,v,rfl,rfl,r,nq⟩:=Do r0 ns
 clear r0
 obtain ⟨x,e⟩:=AV nq
 obtain rfl:=Bg e
 obtain ⟨t,rfl⟩:=r.inv
 obtain ⟨c,e⟩:=AV (o:=one x) nq
 obtain rfl:=EP e
 exact PySem.P.ord_of_char (OkE.same I (.int (c:Int) _))
theorem J0:OpCall W n fm (.type "str") Lu:=by
 refine .mk ?_
 intro A V ps s l vs C I r0 ns
 obtain ⟨p,v,rfl,rfl,r,nq⟩:=Do r0 ns
 clear r0
 obtain ⟨i,e⟩:=AV nq
 obtain rfl:=A6 e
 obtain ⟨t,rfl⟩:=r.inv
 have ns':ak (Ah i) (ae (PV.str (BA i))) ps≠.stuck:=ns
 obtain ⟨c,e⟩:=Ak ns'
 refine Ai.congr (m':=ae (PV.str (BA i))) e ?_
 refine PySem.P.str_of_int ?_ ?_
 ·unfold Ah at c
  rw [decide_eq_true_eq] at c
  by_cases q:i.natAbs=0
  ·rw [q];decide
  ·exact bk ((Nat.log2_lt q).mpr (bk c (by decide:1073741824<=2 ^ 30))) (by decide)
 ·have q:=RepV.str (H:=W.H) (h₀:=W.h₀) (av:=fm.av) (V:=V) (h:=s.heap) (BA i) s.toks
  have e:txt (BA i)=Str.ofString (toString i):=BB _
  rw [e] at q
  exact OkE.same I q
end
def cutH (h:Heap)(l:List Addr):Heap:=⟨h.objs.mapIdx λi o=>if i∈l then { o with data:=.freed } else o,h.life⟩
theorem P6 {h:Heap}{l:List Addr}{b:Addr}(m:b∈l):(cutH h l).get? b=none:=by
 cases q:(cutH h l).get? b with
 | none=>rfl
 | some o=>
  obtain ⟨e,f⟩:=get?_some_iff.mp q
  have e:(h.objs.mapIdx λi o=>if i∈l then { o with data:=.freed } else o)[b]? = some o:=e
  rw [Array.getElem?_mapIdx] at e
  obtain ⟨o',_,rfl⟩:=aU.mp e
  rw [if_pos m] at f
  injection f
theorem M7 {h:Heap}{l:List Addr}{b:Addr}(m:b∉l):(cutH h l).get? b=h.get? b:=by
 have same:∀ x:Option Obj,x.map (λo=>if b∈l then { o with data:=.freed } else o)=x:=λx=>by
  cases x with
  | none=>rfl
  | some o=>exact congrArg some (if_neg m)
 have e:(cutH h l).objs[b]? = h.objs[b]?:=by
  show (h.objs.mapIdx λi o=>if i∈l then { o with data:=.freed } else o)[b]? = _
  rw [Array.getElem?_mapIdx];exact same _
 exact Option.ext λo=>by rw [get?_some_iff,get?_some_iff,e]
theorem H7 (h:Heap)(l:List Addr):∀ b o,(cutH h l).get? b=some o->h.get? b=some o:=λb o e=>by
 by_cases m:b∈l
 ·rw [P6 m] at e;cases e
 ·rwa [M7 m] at e
section
variable {W:Wd}{fm:Fm}{V α' α₁:List Addr}{h h' h₁ start:Heap}{n:Nat}{A:Around}{ps ps':PS}{s s':Shared}{H:Hd}{h₀:Heap}{own:List Addr}
structure Turn0 (stk:List Env)(c:List Addr)(h h':Heap):Prop where
 keep:∀ b o,h.get? b=some o->b∉frs stk->b∉c->h'.get? b=some o
 slot:∀ b o,h.get? b=some o->b∈frs stk->b∉c->∃ sl,h'.get? b=some { o with slots:=sl }
 frames:h'.FunFrames ⟨#[],{}⟩ stk
 flds:∀ b∈c,∃ o vs,h.get? b=some o/\o.data = .fields vs/\CZ o
structure Turn (stk:List Env)(c:List Addr)(h h':Heap):Prop extends Turn0 stk c h h' where
 live:∀ b∈c,(h'.get? b).isSome=true
theorem Turn0.at (T:Turn0 fm.stk c h h'){b:Addr}{o:Obj}(e:h.get? b=some o)(nf:∀ vs,o.data≠.fields vs):∃ sl,h'.get? b=some { o with slots:=sl }:=by
 have nc:b∉c:=λm=>by obtain ⟨o',vs,e',d,_⟩:=T.flds b m;rw [e] at e';cases e';exact nf vs d
 by_cases m:b∈frs fm.stk
 ·exact T.slot b o e m nc
 ·exact ⟨o.slots,T.keep b o e m nc⟩
theorem Turn0.keep' (T:Turn0 fm.stk c h h'){b:Addr}{o:Obj}(e:h.get? b=some o)(nf:∀ vs,o.data≠.fields vs)(m:b∉frs fm.stk):h'.get? b=some o:=
 T.keep b o e m λm=>by obtain ⟨o',vs,e',d,_⟩:=T.flds b m;rw [e] at e';cases e';exact nf vs d
theorem J1 (T:Turn0 fm.stk c h h')(hf:∀ b∈frs fm.stk,b∈fm.av):(∀ {p:PV} {v:Value},RepV H h₀ fm.av V h p v->RepV H h₀ fm.av V h' p v)/\∀ {l:List PV} {vs:List Value},RepL H h₀ fm.av V h l vs->RepL H h₀ fm.av V h' l vs:=by
 refine Dn (λa vs ha hi=>⟨ha,?_⟩) (λi a hi=>hi) λa o es ep ha ho hx hd=>⟨ha,T.keep' ho (λws q=>by rw [hd] at q;cases q) λq=>ha (hf _ q)⟩
 obtain ⟨o,e1,e2,k,e3⟩:=hi
 exact ⟨o,T.keep' e1 (λws q=>by rw [e3] at q;cases q) (λq=>ha (hf _ q)),e2,k,e3⟩
theorem RepV.turn (T:Turn0 fm.stk c h h')(hf:∀ b∈frs fm.stk,b∈fm.av){p:PV}{v:Value}(x:RepV H h₀ fm.av V h p v):RepV H h₀ fm.av V h' p v:=(J1 T hf).1 x
theorem RepL.turn (T:Turn0 fm.stk c h h')(hf:∀ b∈frs fm.stk,b∈fm.av){l:List PV}{vs:List Value}(x:RepL H h₀ fm.av V h l vs):RepL H h₀ fm.av V h' l vs:=(J1 T hf).2 x
theorem OptRep.turn (T:Turn0 fm.stk c h h')(hf:∀ b∈frs fm.stk,b∈fm.av){p:Option PV}{v:Option Value}(x:OptRep H h₀ fm.av V h p v):OptRep H h₀ fm.av V h' p v:=x.map λr=>r.turn T hf
theorem Ch.turn {P:Addr}(x:Ch H h P)(F:h.FunFrames ⟨#[],{}⟩ fm.stk)(T:Turn0 fm.stk c h h'):Ch H h' P:=by
 have nfr:∀ b o vs,h.get? b=some o->o.data = .fields vs->b∉frs fm.stk:=λb o vs e d m=>by
  obtain ⟨_,o',ho,nf⟩:=Heap.FunFrames.mem F m
  rw [e] at ho;cases ho;exact nf vs d
 obtain ⟨ps,e,q⟩:=x
 refine ⟨ps,T.keep P _ e (nfr _ _ _ e rfl) (λm=>?_),?_⟩
 ·obtain ⟨o,vs,e1,_,p⟩:=T.flds P m
  rw [e] at e1;cases e1;exact p.1 rfl
 ·rcases q with q | ⟨k,oc,vs,t,q1,q2,q3,q4,q5⟩
  ·exact .inl q
  ·refine .inr ⟨k,oc,vs,t,q1,T.keep k _ q2 (nfr _ _ _ q2 q4) (λm=>?_),q3,q4,q5⟩
   obtain ⟨o,vs,e1,_,p⟩:=T.flds k m
   rw [q2] at e1;cases e1;exact p.2 q3
theorem Inv.turn0 (F:FmOk h₀ fm)(I:Inv H h₀ fm V ps h)(T:Turn0 fm.stk c h h')(live:∀ b∈c,b∈fm.av->(h'.get? b).isSome=true)(hc:∀ b∈c,h₀.get? b=none):Inv H h₀ fm V ps h':=by
 have rep:=λ{p v}=>OptRep.turn (H:=H) (h₀:=h₀) (V:=V) (p:=p) (v:=v) T F.frsAv
 refine ⟨λb o e=>?_,?_,?_,?_,?_,T.frames,λP hP=>(I.tabs P hP).turn I.frames T⟩
 ·refine T.keep b o (I.base b o e) (λm=>?_) (λm=>?_)
  ·rw [F.fresh b (F.frsAv b m)] at e;cases e
  ·rw [hc b m] at e;cases e
 ·obtain ⟨m,⟨o,es,ep,h1,h2,h3⟩,k⟩:=I.loc
  obtain ⟨sl,e⟩:=T.at h1 λvs q=>by rw [h2] at q;cases q
  exact ⟨m,⟨_,es,ep,e,h2,h3⟩,λx i hm=>rep (k x i hm)⟩
 ·intro x k i hm hk
  obtain ⟨cc,v,h1,h2,h3,h4,h5⟩:=I.cel x k i hm hk
  refine ⟨cc,v,h1,h2,h3,?_,rep h5⟩
  obtain ⟨o,e1,e2⟩:=h4
  obtain ⟨sl,e⟩:=T.at e1 λvs q=>by rw [e2] at q;cases q
  exact ⟨_,e,e2⟩
 ·refine ⟨I.lists.len,λi l e=>?_,I.lists.nodup,I.lists.fresh,I.lists.apart⟩
  obtain ⟨a,vs,h1,h2,h3⟩:=I.lists.at_ i l e
  refine ⟨a,vs,h1,?_,RepL.turn T F.frsAv h3⟩
  obtain ⟨k,e1⟩:=h2
  exact ⟨k,T.keep' e1 (λws q=>by cases q) (λq=>I.lists.apart a (mem_of_getElem? h1) (F.frsAv _ q))⟩
 ·intro a ha
  have:=I.live a ha
  cases q:h.get? a with
  | none=>rw [q] at this;cases this
  | some o=>
   by_cases m:a∈c
   ·exact live a m ha
   ·by_cases m2:a∈frs fm.stk
    ·obtain ⟨sl,e⟩:=T.slot a o q m2 m;rw [e];rfl
    ·rw [T.keep a o q m2 m];rfl
theorem Inv.turn (F:FmOk h₀ fm)(I:Inv H h₀ fm V ps h)(T:Turn fm.stk c h h')(hc:∀ b∈c,h₀.get? b=none):Inv H h₀ fm V ps h':=I.turn0 F T.toTurn0 (λb m U=>T.live b m) hc
theorem Rel.turn0 (R:Rel fm.stk own V start h)(T:Turn0 fm.stk c h h')(hc:∀ b∈c,start.get? b=none):Rel fm.stk own V start h':=by
 refine ⟨λb o e h1 h2 h3=>T.keep b o (R.keep b o e h1 h2 h3) h1 (λm=>by rw [hc b m] at e;cases e),λb o e h1 h2 h3=>?_,λb e=>?_⟩
 ·obtain ⟨sl,e1⟩:=R.slot b o e h1 h2 h3
  obtain ⟨sl',e2⟩:=T.slot b _ e1 h1 λm=>by rw [hc b m] at e;cases e
  exact ⟨sl',e2⟩
 ·cases q:start.get? b with
  | none=>rfl
  | some o=>
   cases q2:h.get? b with
   | none=>rw [R.live b q2] at q;cases q
   | some o2=>
    by_cases m:b∈c
    ·rw [hc b m] at q;cases q
    ·by_cases m2:b∈frs fm.stk
     ·obtain ⟨sl,e2⟩:=T.slot b o2 q2 m2 m;rw [e2] at e;cases e
     ·rw [T.keep b o2 q2 m2 m] at e;cases e
theorem Rel.turn (R:Rel fm.stk own V start h)(T:Turn fm.stk c h h')(hc:∀ b∈c,start.get? b=none):Rel fm.stk own V start h':=R.turn0 T.toTurn0 hc
end
section
variable {W:Wd}{fm:Fm}{V α' α₁ w1:List Addr}{h h' h₁ start:Heap}{n:Nat}{A:Around}{ps ps':PS}{s s':Shared}{H:Hd}{h₀:Heap}{own:List Addr}{e:PX}{x:Value}
theorem Turn.set (F:h.FunFrames ⟨#[],{}⟩ fm.stk){a:Addr}{o:Obj}{vs:Array Value}(ha:h.get? a=some o)(hd:o.data = .fields vs)(pf:CZ o)(f:Array Value->Array Value):Turn fm.stk [a] h (h.update a (Obj.mapFields f)) /\
  (h.update a (Obj.mapFields f)).get? a=some (o.mapFields f)/\(o.mapFields f).data = .fields (f vs):=by
 have hd':=Obj.data_mapFields hd f
 have e1:=Heap.get?_update_self (Obj.mapFields f) ha (Obj.isFreed_of_fields hd')
 have ne:∀ b,b≠a->(h.update a (Obj.mapFields f)).get? b=h.get? b:=λb q=>get?_update_other _ _ (Ne.symm q)
 refine ⟨⟨⟨λb o' e' U m=>by rw [ne b (λq=>m (by rw [q];exact mem_singleton_self _))];exact e',λb o' e' U m=>⟨o'.slots,by rw [ne b (λq=>m (by rw [q];exact mem_singleton_self _))];exact e'⟩,F.of_keeps λb o' e' nf=>?_,λb m=>?_⟩,λb m=>?_⟩,e1,hd'⟩
 ·have:b≠a:=λq=>by rw [q,ha] at e';cases e';exact nf vs hd
  exact ⟨o',(ne b this).trans e',rfl⟩
 ·rw [mem_singleton.mp m];exact ⟨o,vs,ha,hd,pf⟩
 ·rw [mem_singleton.mp m,e1];rfl
theorem Turn.trans {stk:List Env}{c c':List Addr}(T:Turn stk c h h₁)(T':Turn stk c' h₁ h')(hc:∀ b∈c,b∈c'->True)(hs:∀ b∈c',b∈c\/∃ o vs,h.get? b=some o/\o.data = .fields vs/\CZ o)(hl:∀ b∈c,(h'.get? b).isSome=true):Turn stk (c++c') h h':=by
 refine ⟨⟨λb o e1 m1 m2=>?_,λb o e1 m1 m2=>?_,T'.frames,λb m=>?_⟩,λb m=>?_⟩
 ·exact T'.keep b o (T.keep b o e1 m1 λq=>m2 (mem_append_left _ q)) m1 λq=>m2 (mem_append_right _ q)
 ·obtain ⟨sl,e2⟩:=T.slot b o e1 m1 λq=>m2 (mem_append_left _ q)
  obtain ⟨sl',e3⟩:=T'.slot b _ e2 m1 λq=>m2 (mem_append_right _ q)
  exact ⟨sl',e3⟩
 ·rcases mem_append.mp m with q | q
  ·exact T.flds b q
  ·rcases hs b q with q | q
   ·exact T.flds b q
   ·exact q
 ·rcases mem_append.mp m with q | q
  ·exact hl b q
  ·exact T'.live b q
theorem Turn.push {stk:List Env}(F:h.FunFrames ⟨#[],{}⟩ stk)(o:Obj):Turn stk [] h (h.push o):=
 ⟨⟨λb o' e' U U=>get?_push_of_some _ e',λb o' e' U U=>⟨o'.slots,get?_push_of_some _ e'⟩,F.of_keeps λb o' e' U=>⟨o',get?_push_of_some _ e',rfl⟩,λb m=>(by cases m)⟩,λb m=>(by cases m)⟩
theorem Turn.slots {stk:List Env}(F:h.FunFrames ⟨#[],{}⟩ stk)(S:Heap.SlotsOnly (frs stk) h h'):Turn stk [] h h':=
 ⟨⟨λb o e m U=>(S.2.1 b m).trans e,λb o e U U=>S.2.2 b o e,F.of_keeps λb o e U=>by obtain ⟨sl,q⟩:=S.2.2 b o e;exact ⟨_,q,rfl⟩,λb m=>(by cases m)⟩,λb m=>(by cases m)⟩
theorem LK {M:Model}{base:Heap}{e env:Env}{outer:List Env}{L:Addr}{Q:Value->Shared->Prop}{E:Value->Shared->Prop}(hfr:A.frames=some (e::outer))(hl:s.heap.FunFrames base (e::outer))(he:e.frame=env.frame)
  (hf:env.frame=some L) (h:∀ h',Heap.SlotsOnly ((e::outer).filterMap (·.frame)) s.heap h'->Q (.ref L) { s with heap:=h' }):wpAny M A (PySem.frameOf env) Q E s:=by
 unfold PySem.frameOf
 refine bf (wpAny_frameEnvs hfr ?_)
 have hdw:((e::outer).dropWhile λx=>x.frame != env.frame)=e::outer:=by simp [List.dropWhile,he]
 rw [hdw]
 unfold frameObject
 refine bf (bf (wpAny_readyFrames_fun hl λh₁ u4=>bg ?_))
 rw [he,hf]
 exact bg (h h₁ u4)
theorem J7 {a L:Addr}{oe:Obj}{vs:Array Value}{head:Value}{hn:Bool}(hfr:A.frames=some fm.stk)(F:s.heap.FunFrames ⟨#[],{}⟩ fm.stk)(hst:∃ e r,fm.stk=e::r/\e.frame=fm.env.frame)(hf:fm.env.frame=some L)
  (ha:s.heap.get? a=some oe) (hd:oe.data = .fields vs) (pf:CZ oe) (hsz:1<vs.size) {Q:Unit->Shared->Prop} {E:Value->Shared->Prop}
  (hQ:∀ h' T oT ts,Turn fm.stk [a] s.heap h'->h'.get? a=some (oe.mapFields (·.setIfInBounds 1 (.ref T)))->(oe.mapFields (·.setIfInBounds 1 (.ref T))).data = .fields (vs.setIfInBounds 1 (.ref T))->s.heap.get? T=none->T≠a->h'.get? T=some oT->oT.data = .fields ts->3<ts.size->CZ oT->Q () { s with heap:=h' }) :
  wpAny W.m A (do let f <- frameOf fm.env;let pl <- entryPlaceOf L hn;let b <- EntryCells.newEntry head f .none (rawInt L) .none pl;setField (.ref a) 1 b) Q E s:=by
 obtain ⟨er,r,hr,her⟩:=hst
 have F':s.heap.FunFrames ⟨#[],{}⟩ (er::r):=hr▸F
 refine bf (LK (hfr.trans (congrArg some hr)) F' her hf λh₁ u4=>?_)
 refine bf (wpAny_entryPlaceOf λpl hpl=>?_)
 unfold EntryCells.newEntry newFields
 refine bf (wpAny_newObj_type ?_ (hpl.sizeOk5 _ _ _ _ _))
 rw [<- hr] at u4
 have T1:Turn fm.stk [] s.heap h₁:=Turn.slots F u4
 have na:a∉frs fm.stk:=λm=>by
  obtain ⟨_,o,ho,nf⟩:=Heap.FunFrames.mem F m
  rw [ha] at ho;cases ho;exact nf vs hd
 have u7:h₁.get? a=some oe:=(u4.2.1 a na).trans ha
 have T2:=Turn.push T1.frames { cls:=.type "traceback",dict:=none,data:=.fields ([head,.ref L,.none,rawInt L,.none]++(if pl.isEmpty then replicate 6 Value.none else pl)).toArray }
 have v7:=get?_push_of_some { cls:=.type "traceback",dict:=none,data:=.fields ([head,.ref L,.none,rawInt L,.none]++(if pl.isEmpty then replicate 6 Value.none else pl)).toArray } u7
 refine wpAny_setField v7 hd hsz ?_
 obtain ⟨T3,e3,d3⟩:=Turn.set (fm:=fm) T2.frames v7 hd pf (·.setIfInBounds 1 (.ref h₁.objs.size))
 have T12:Turn fm.stk ([]++[]) s.heap _:=T1.trans T2 (λU U U=>trivial) (λb m=>(by cases m)) (λb m=>(by cases m))
 have T123:Turn fm.stk ([]++[]++[a]) s.heap _:=T12.trans T3 (λU U U=>trivial) (λb m=>.inr (by rw [mem_singleton.mp m];exact ⟨oe,vs,ha,hd,pf⟩)) (λb m=>(by cases m))
 have nT:h₁.objs.size≠a:=Nat.ne_of_gt (lt_size u7)
 have fresh:s.heap.get? h₁.objs.size=none:=by rw [u4.1];exact Az _
 refine hQ _ h₁.objs.size _ _ T123 e3 d3 fresh nT ((get?_update_other _ _ (Ne.symm nT)).trans (get?_push_size _ rfl)) rfl ?_ ⟨(λq=>(by cases q)),λq=>absurd (Value.type.inj q) (by decide)⟩
 simp
theorem LL {c:List Addr}{a:Addr}{vs:Array Value}(x:IsTup h a vs)(T:Turn0 fm.stk c h h'):IsTup h' a vs:=by
 obtain ⟨o,e1,e2,k,e3⟩:=x
 obtain ⟨sl,e⟩:=T.at e1 λws q=>by rw [e3] at q;cases q
 exact ⟨_,e,e2,k,e3⟩
theorem EQ.turn {c:List Addr}{v:Option Value}(x:EQ start h e v)(T:Turn fm.stk c h h'):EQ start h' e v:=by
 cases e with
 | std n=>exact x
 | toml m=>obtain ⟨t,tk,h1,h2,h3⟩:=x;exact ⟨t,tk,h1,h2,LL h3 T.toTurn0⟩
theorem P7 {oe:Obj}{v:Option Value}(hc:oe.cls=W.cls e)(x:EQ start h e v):CZ oe:=by
 unfold CZ
 rw [hc]
 cases e with
 | std n=>exact ⟨(λq=>(by cases q)),λq=>x (Value.type.inj q)⟩
 | toml m=>exact ⟨(λq=>(by cases q)),λq=>(by cases q)⟩
theorem Gu (C:Ctx W fm n A)(I:InvS W fm V ps s)(R:Rel fm.stk own w1 start s.heap)(hs0:∀ b,start.get? b=none->W.h₀.get? b=none)(X:Raised W start s.heap e x){Q:Unit->Shared->Prop}{E:Value->Shared->Prop}
  (h:∀ h',InvS W fm V ps { s with heap:=h' }->Rel fm.stk own w1 start h'->RaisedN W start h' e x->Q () { s with heap:=h' }):wpAny W.m A (noteFrame x fm.env) Q E s:=by
 obtain ⟨a,oe,vs,rfl,ha,hc,hd,hsz,hna,harg,htb,hctx⟩:=X
 obtain ⟨fe,fr,hst,hfe,hsome⟩:=C.fm.frame
 obtain ⟨L,hf⟩:=aZ.mp hsome
 have hst':∃ e r,fm.stk=e::r/\e.frame=fm.env.frame:=⟨fe,fr,hst,hfe⟩
 have F:=I.inv.frames
 have h1v:vs[1]? = some (vs[1]'(by exact la [_] [([11,3,0],[2])] ([3,3,0],[2]) rfl hsz)):=Array.getElem?_eq_getElem _
 unfold noteFrame
 simp only [hf]
 refine bf (wpAny_field ha hd h1v ?_)
 have pf:=P7 hc harg
 rcases htb with q | ⟨T,oT,ts,q,nTa,hT,hdT,h3,nT,pT⟩
 ·rw [h1v] at q
  rw [Option.some.inj q]
  rw [if_neg (by decide)]
  refine J7 C.frames F hst' hf ha hd pf (by exact la [_] [([11,3,0],[2])] ([3,3,0],[2]) rfl hsz) λh' T oT ts Tn e1 d1 f1 f2 f3 f4 f5 f6=>?_
  have hc0:∀ b∈[a],start.get? b=none:=λb m=>by rw [mem_singleton.mp m];exact hna
  refine h h' ⟨I.inv.turn C.fm Tn λb m=>hs0 b (hc0 b m),I.gens,I.os⟩ (R.turn Tn hc0) ⟨a,_,_,rfl,e1,(Obj.cls_mapFields _ _).trans hc,d1,by simpa using hsz,hna,?_,?_,?_⟩
  ·rw [Array.getElem?_setIfInBounds_ne (by decide)];exact harg.turn Tn
  ·exact ⟨T,oT,ts,(by simp [show 1<vs.size by exact la [_] [([11,3,0],[2])] ([3,3,0],[2]) rfl hsz]:(vs.setIfInBounds 1 (Value.ref T))[1]? = some (Value.ref T)),f2,f3,f4,f5,R.live T f1,f6⟩
  ·rw [Array.getElem?_setIfInBounds_ne (by decide)];exact hctx
 ·rw [h1v] at q
  rw [Option.some.inj q]
  rw [if_pos (show (Value.ref T != Value.none)=true from by simp)]
  have h3v:ts[3]? = some (ts[3]'h3):=Array.getElem?_eq_getElem _
  refine bf (wpAny_field hT hdT h3v ?_)
  by_cases z:(ts[3]'h3==rawInt L)=true
  ·rw [if_pos z]
   refine bg ?_
   exact h s.heap I R ⟨a,oe,vs,rfl,ha,hc,hd,hsz,hna,harg,⟨T,oT,ts,h1v.trans q,nTa,hT,hdT,h3,nT,pT⟩,hctx⟩
  ·rw [if_neg z]
   refine bf (wpAny_setField hT hdT h3 ?_)
   obtain ⟨T1,e1,d1⟩:=Turn.set (fm:=fm) F hT hdT pT (·.setIfInBounds 3 .none)
   have ha1:(s.heap.update T (Obj.mapFields (·.setIfInBounds 3 .none))).get? a=some oe:=(get?_update_other _ _ nTa).trans ha
   refine J7 (s:={ s with heap:=s.heap.update T (Obj.mapFields (·.setIfInBounds 3 .none)) }) C.frames T1.frames hst' hf ha1 hd pf (by exact la [_] [([11,3,0],[2])] ([3,3,0],[2]) rfl hsz) λh' T' oT' ts' Tn e2 d2 f1 f2 f3 f4 f5 f6=>?_
   have T12:Turn fm.stk ([T]++[a]) s.heap h':=T1.trans Tn (λU U U=>trivial) (λb m=>.inr (by rw [mem_singleton.mp m];exact ⟨oe,vs,ha,hd,pf⟩)) (λb m=>by
    rw [mem_singleton.mp m]
    have na:T∉frs fm.stk:=λm=>by
     obtain ⟨_,o,ho,nf⟩:=Heap.FunFrames.mem F m
     rw [hT] at ho;cases ho;exact nf ts hdT
    rw [Tn.keep T _ e1 na λq=>nTa (mem_singleton.mp q)];rfl)
   have hc0:∀ b∈[T]++[a],start.get? b=none:=λb m=>by
    rcases mem_append.mp m with q | q
    ·rw [mem_singleton.mp q];exact nT
    ·rw [mem_singleton.mp q];exact hna
   have live1:∀ b,(s.heap.update T (Obj.mapFields (·.setIfInBounds 3 .none))).get? b=none->s.heap.get? b=none:=λb q=>by
    by_cases z:b=T
    ·rw [z,e1] at q;cases q
    ·rwa [get?_update_other _ _ (Ne.symm z)] at q
   refine h h' ⟨I.inv.turn C.fm T12 λb m=>hs0 b (hc0 b m),I.gens,I.os⟩ (R.turn T12 hc0) ⟨a,_,_,rfl,e2,(Obj.cls_mapFields _ _).trans hc,d2,by simpa using hsz,hna,?_,?_,?_⟩
   ·rw [Array.getElem?_setIfInBounds_ne (by decide)];exact harg.turn T12
   ·exact ⟨T',oT',ts',(by simp [show 1<vs.size by exact la [_] [([11,3,0],[2])] ([3,3,0],[2]) rfl hsz]:(vs.setIfInBounds 1 (Value.ref T'))[1]? = some (Value.ref T')),f2,f3,f4,f5,R.live T' (live1 T' f1),f6⟩
   ·rw [Array.getElem?_setIfInBounds_ne (by decide)];exact hctx
theorem Cz (C:Ctx W fm n A)(I:InvS W fm V ps s)(R:Rel fm.stk own w1 start s.heap)(hs0:∀ b,start.get? b=none->W.h₀.get? b=none)(X:RaisedN W start s.heap e x)(fl:Option Addr){Q:Unit->Shared->Prop}{E:Value->Shared->Prop}
  (h:∀ h',InvS W fm V ps { s with heap:=h' }->Rel fm.stk own w1 start h'->RaisedN W start h' e x->Q () { s with heap:=h' }):wpAny W.m A (setFlight x fl) Q E s:=by
 obtain ⟨a,oe,vs,rfl,ha,hc,hd,hsz,hna,harg,⟨T,oT,ts,q,nTa,hT,hdT,h3,nT,pT⟩,hctx⟩:=X
 have F:=I.inv.frames
 unfold setFlight
 refine bf (wpAny_field ha hd q ?_)
 rw [if_pos (show (Value.ref T != Value.none)=true from by simp)]
 refine wpAny_setField hT hdT h3 ?_
 obtain ⟨T1,e1,d1⟩:=Turn.set (fm:=fm) F hT hdT pT (·.setIfInBounds 3 (fl.elim Value.none λf=>rawInt f))
 have hc0:∀ b∈[T],start.get? b=none:=λb m=>by rw [mem_singleton.mp m];exact nT
 refine h _ ⟨I.inv.turn C.fm T1 λb m=>hs0 b (hc0 b m),I.gens,I.os⟩ (R.turn T1 hc0) ⟨a,oe,vs,rfl,(get?_update_other _ _ nTa).trans ha,hc,hd,hsz,hna,harg.turn T1,?_,hctx⟩
 exact ⟨T,_,_,q,nTa,e1,d1,by simpa using h3,nT,by unfold CZ;rw [Obj.cls_mapFields];exact pT⟩
theorem SameBut.rel {a:Addr}(S:Heap.SameBut a h h')(ha:(h'.get? a).isSome=true)(m:a∈own)(stk:List Env)(V:List Addr):Rel stk own V h h':=
 ⟨λb o e U h2 U=>(S.2 b λq=>h2 (q▸m)).trans e,λb o e U h2 U=>⟨o.slots,(S.2 b λq=>h2 (q▸m)).trans e⟩,λb e=>by
  by_cases q:b=a
  ·rw [q] at e;rw [e] at ha;cases ha
  ·rw [<- S.2 b q];exact e⟩
theorem J8 {a:Addr}(S:Heap.SameBut a h h')(ha:a∈fm.av)(hα:∀ b∈V,b≠a):(∀ {p:PV} {v:Value},RepV H h₀ fm.av V h p v->RepV H h₀ fm.av V h' p v)/\∀ {l:List PV} {vs:List Value},RepL H h₀ fm.av V h l vs->RepL H h₀ fm.av V h' l vs:=by
 refine Dn (λb vs hn hi=>⟨hn,?_⟩) (λi a hi=>hi) λb o es ep hn ho hx hd=>⟨hn,(S.2 _ λq=>hn (by rw [q];exact ha)).trans ho⟩
 obtain ⟨o,e1,e2⟩:=hi
 exact ⟨o,(S.2 _ λq=>hn (by rw [q];exact ha)).trans e1,e2⟩
theorem RepV.same {a:Addr}(S:Heap.SameBut a h h')(ha:a∈fm.av)(hα:∀ b∈V,b≠a){p:PV}{v:Value}(x:RepV H h₀ fm.av V h p v):RepV H h₀ fm.av V h' p v:=(J8 S ha hα).1 x
theorem RepL.same {a:Addr}(S:Heap.SameBut a h h')(ha:a∈fm.av)(hα:∀ b∈V,b≠a){l:List PV}{vs:List Value}(x:RepL H h₀ fm.av V h l vs):RepL H h₀ fm.av V h' l vs:=(J8 S ha hα).2 x
theorem OptRep.same {a:Addr}(S:Heap.SameBut a h h')(ha:a∈fm.av)(hα:∀ b∈V,b≠a){p:Option PV}{v:Option Value}(x:OptRep H h₀ fm.av V h p v):OptRep H h₀ fm.av V h' p v:=x.map λr=>r.same S ha hα
theorem Inv.mine (F:FmOk h₀ fm)(I:Inv H h₀ fm V ps h){a:Addr}(S:Heap.SameBut a h h')(ha:a∈fm.av)(hs:(h'.get? a).isSome=true)(nf:∀ o,h.get? a=some o->(∀ vs,o.data≠.fields vs)/\∃ o',h'.get? a=some o'/\∀ vs,o'.data≠.fields vs){ps':PS}(hst:ps'.st=ps.st)
  (loc:∃ m,h'.Ns fm.env.locals m/\∀ x i,(x,NameKind.local,i)∈fm.sc->OptRep H h₀ fm.av V h' (ps'.loc i) (m x))
  (cel:∀ x k i,(x,k,i)∈fm.sc->(k = .cell\/k = .free)->∃ c v,fm.env.cells.lookup x=some c/\c∈fm.av/\c≠fm.env.locals/\h'.IsCell c v/\OptRep H h₀ fm.av V h' (ps'.loc i) v):Inv H h₀ fm V ps' h':=by
 have hα:∀ b∈V,b≠a:=λb m q=>I.lists.apart b m (q▸ha)
 refine ⟨λb o e=>(S.2 b λq=>?_).trans (I.base b o e),loc,cel,⟨by rw [hst];exact I.lists.len,λi l e=>?_,I.lists.nodup,I.lists.fresh,I.lists.apart⟩,λb m=>?_,?_,λP hP=>(I.tabs P hP).same S λo vs e=>(nf o e).1 vs⟩
 ·rw [q,F.fresh a ha] at e;cases e
 ·rw [hst] at e
  obtain ⟨b,vs,h1,h2,h3⟩:=I.lists.at_ i l e
  obtain ⟨k,e1⟩:=h2
  exact ⟨b,vs,h1,⟨k,(S.2 b (hα b (mem_of_getElem? h1))).trans e1⟩,RepL.same S ha hα h3⟩
 ·by_cases q:b=a
  ·rw [q];exact hs
  ·rw [S.2 b q];exact I.live b m
 ·have go:∀ l:List Env,h.FunFrames ⟨#[],{}⟩ l->h'.FunFrames ⟨#[],{}⟩ l:=by
   intro l
   induction l with
   | nil=>exact λU=>trivial
   | cons env rest ih=>
    rintro ⟨h1,⟨L,o,h2,h3,h4,h5⟩,h6⟩
    refine ⟨h1,?_,ih h6⟩
    by_cases q:L=a
    ·obtain ⟨_,o',e1,e2⟩:=nf o (q▸h4)
     exact ⟨L,o',h2,h3,by rw [q];exact e1,e2⟩
    ·exact ⟨L,o,h2,h3,(S.2 L q).trans h4,h5⟩
  exact go _ I.frames
theorem EV {x:Str}{k:NameKind}{i:Nat}(C:Ctx W fm n A)(I:InvS W fm V ps s)(hm:(x,k,i)∈fm.sc)(hk:k = .local\/k = .cell){p:PV}{v:Value}(r:W.rep fm V s.heap p v){Q:Unit->Shared->Prop}{E:Value->Shared->Prop}
  (h:∀ s',InvS W fm V { ps with loc:=λj=>if j=i then some p else ps.loc j } s'->Rel fm.stk fm.own V s.heap s'.heap->Q () s'):wpAny W.m A (storeName fm.env x v) Q E s:=by
 have kd:=C.fm.kindX hm (by rcases hk with rfl | rfl <;> decide)
 rcases hk with rfl | rfl
 ·obtain ⟨m,n1,n2⟩:=I.inv.loc
  refine wpAny_storeName_local kd n1 (λh' hn S=>?_) (by simp [C.fm.kind])
  have hα:∀ b∈V,b≠fm.env.locals:=λb m q=>I.inv.lists.apart b m (q▸C.fm.locAv)
  obtain ⟨o',es,ep,e1,e2,e3⟩:=id hn
  have live:(h'.get? fm.env.locals).isSome=true:=by rw [e1];rfl
  refine h _ ⟨I.inv.mine C.fm S C.fm.locAv live (λo eo=>⟨(λvs q=>by obtain ⟨oo,_,_,f1,f2,_⟩:=n1;rw [eo] at f1;cases f1;rw [f2] at q;cases q),o',e1,λvs q=>by rw [e2] at q;cases q⟩) rfl ⟨_,hn,λy j hy=>?_⟩ λy kk j hy hkk=>?_,I.gens,I.os⟩ (SameBut.rel S live C.fm.locOwn _ _)
  ·by_cases q:y=x
   ·have:=(C.fm.once _ _ _ _ _ _ hy hm).mpr q
    subst q this
    simp only [if_true]
    exact .some (r.same S C.fm.locAv hα)
   ·have:j≠i:=λz=>q ((C.fm.once _ _ _ _ _ _ hy hm).mp z)
    simp only [if_neg q,if_neg this]
    exact (n2 y j hy).same S C.fm.locAv hα
  ·obtain ⟨c,v,q1,q2,q3,⟨o,q4,q4'⟩,q5⟩:=I.inv.cel y kk j hy hkk
   refine ⟨c,v,q1,q2,q3,⟨o,(S.2 c q3).trans q4,q4'⟩,?_⟩
   have:j≠i:=λz=>by
    have:=(C.fm.once _ _ _ _ _ _ hy hm).mp z
    subst this
    have k1:=C.fm.kinds _ _ _ hy
    rw [kd] at k1
    rcases k1 with k1 | ⟨_,k1⟩
    ·cases k1
     rcases hkk with q | q <;> cases q
    ·cases k1
   simp only [if_neg this]
   exact q5.same S C.fm.locAv hα
 ·obtain ⟨c,v0,q1,q2,q3,q4,q5⟩:=I.inv.cel x .cell i hm (.inl rfl)
  refine wpAny_storeName_cell C.fm.kind kd q1 q4 λh' hc S=>?_
  have hα:∀ b∈V,b≠c:=λb m q=>I.inv.lists.apart b m (q▸q2)
  obtain ⟨o',e1,e2⟩:=id hc
  have live:(h'.get? c).isSome=true:=by rw [e1];rfl
  refine h _ ⟨I.inv.mine C.fm S q2 live (λo eo=>⟨(λvs q=>by obtain ⟨oo,f1,f2⟩:=q4;rw [eo] at f1;cases f1;rw [f2] at q;cases q),o',e1,λvs q=>by rw [e2] at q;cases q⟩) rfl ?_ λy kk j hy hkk=>?_,I.gens,I.os⟩ (SameBut.rel S live (C.fm.cellOwn x i c hm q1) _ _)
  ·obtain ⟨m,⟨o,es,ep,n1,n2,n3⟩,n4⟩:=I.inv.loc
   refine ⟨m,⟨o,es,ep,(S.2 _ (Ne.symm q3)).trans n1,n2,n3⟩,λy j hy=>?_⟩
   have:j≠i:=λz=>by
    have:=(C.fm.once _ _ _ _ _ _ hy hm).mp z
    subst this
    have k1:=C.fm.kindX hy (by decide)
    rw [kd] at k1
    cases k1
   simp only [if_neg this]
   exact (n4 y j hy).same S q2 hα
  ·obtain ⟨c',v',r1,r2,r3,⟨o,r4,r4'⟩,r5⟩:=I.inv.cel y kk j hy hkk
   by_cases q:c'=c
   ·subst q
    have:=C.fm.cellApart _ _ _ _ _ _ _ hy hm r1 q1
    subst this
    have:=(C.fm.once _ _ _ _ _ _ hy hm).mpr rfl
    subst this
    exact ⟨c',some v,r1,r2,r3,hc,by simp only [if_true];exact .some (r.same S q2 hα)⟩
   ·have:j≠i:=λz=>by
     have:=(C.fm.once _ _ _ _ _ _ hy hm).mp z
     subst this
     rw [q1] at r1;exact q (aT r1).symm
    refine ⟨c',v',r1,r2,r3,⟨o,(S.2 c' q).trans r4,r4'⟩,?_⟩
    simp only [if_neg this]
    exact r5.same S q2 hα
theorem Rel.up (r:Rel fm.stk fm.tab V h h'):Rel fm.stk fm.own V h h':=r.mono λU q=>mem_append_left _ q
theorem Ut (op:Operator){a b:PV}{va vb:Value}(C:Ctx W fm n A)(I:InvS W fm V ps s)(ra:W.rep fm V s.heap a va)(rb:W.rep fm V s.heap b vb)(ns:BG op a b ps≠.stuck):Ai W fm A V ps s (inplaceOp op va vb) (BG op a b):=by
 cases op with
 | Add=>
  have ns':Sm a b ps≠.stuck:=ns
  show Ai W fm A V ps s _ (Sm a b)
  rcases Sn ns' with ⟨_,_,rfl,rfl⟩ | ⟨_,_,rfl,rfl⟩
  ·obtain ⟨_,rfl⟩:=ra.inv;obtain ⟨_,rfl⟩:=rb.inv;exact AutoIntOps.iadd_0 (OkE.same I (.int _ _))
  ·obtain ⟨_,rfl⟩:=ra.inv;obtain ⟨_,rfl⟩:=rb.inv
   exact Ai.str I ns' λhl Q E h=>SB.iadd (λt' k=>D1 _ _▸h k t') (by rw [AD,AD,<- length_append];exact hl)
 | Sub=>
  obtain ⟨i,j,rfl,rfl⟩:=Bz (show By _ a b ps≠.stuck from ns)
  obtain ⟨_,rfl⟩:=ra.inv;obtain ⟨_,rfl⟩:=rb.inv
  exact AutoIntOps.isub_0 (OkE.same I (.int _ _))
 | FloorDiv=>
  obtain ⟨i,j,rfl,rfl⟩:=Bz (show By _ a b ps≠.stuck from ns)
  obtain ⟨_,rfl⟩:=ra.inv;obtain ⟨_,rfl⟩:=rb.inv
  have ns':ak (j != 0&&Ah j) (ae (PV.int (i.fdiv j))) ps≠.stuck:=ns
  obtain ⟨c,e⟩:=Ak ns'
  refine Ai.congr (m':=ae (PV.int (i.fdiv j))) e ?_
  rw [and_eq_true] at c
  exact AutoIntOps.ifloordiv_1 (by simpa using c.1) (by rw [ER c.2];exact bo) (OkE.same I (.int _ _))
 | _=>exact absurd rfl ns
theorem J9 {x:Str}{k:NameKind}{i:Nat}{p pos:Pos}{v:Expr}{m:M PV}(hm:(x,k,i)∈fm.sc)(hk:k = .local\/k = .cell)(hv:SimE W n fm v m)(hs:∀ env,swapsWith v (some (.Name x p)) pos.line env=pure false) :
  SimT W n fm (.Assign [.Name x p] v pos) (ac m λa=>ac (ah i a) λU=>ae .next):=.mk λA V ps s C I ns=>by
 refine wpAny_Assign_Name (Ai.seq (hv A V ps s C I (Ad ns)) (λa va α₁ o0 c0 u0 l0 s0 ra y0=>?_) λx c0 q=>q.toS.bind) (hs _)
 rw [Ab y0]
 refine EV C u0 hm hk ra λs' I' R'=>?_
 exact OkS.after ⟨.next,_,α₁,rfl,I',.refl ..,R',.next⟩ l0 s0.up
theorem P8 {x:Str}{k:NameKind}{i:Nat}{p pos:Pos}{op:Operator}{v:Expr}{m:M PV}(hm:(x,k,i)∈fm.sc)(hk:k = .local\/k = .cell)(hc:(x==("__classdict__":Str))=false)(hv:SimE W n fm v m) :
  SimT W n fm (.AugAssign (.Name x p) op v pos) (ac (af i) λa=>ac m λb=>ac (BG op a b) λr=>ac (ah i r) λU=>ae .next):=.mk λA V ps s C I ns=>by
 obtain ⟨a,ea,ea'⟩:=IV (Ad ns)
 rw [Ab ea'] at ns ⊢
 refine wpAny_AugAssign_Name (GO C I hm (by rcases hk with q | q <;> simp [q]) hc ea λva ra=>?_)
 refine Ai.seq (hv A V ps s C I (Ad ns)) (λb vb α₁ o0 c0 u0 l0 s0 rb y0=>?_) λx c0 q=>q.toS.bind
 rw [Ab y0] at ns ⊢
 refine Ai.seq (Ut op C u0 (I.stays C s0 l0 ra) rb (Ad ns)) (λr vr Y0 Z1 z0 Y1 W0 X0 rr W1=>?_) λx c0 q=>(q.bind.after l0 s0).toS
 rw [Ab W1]
 refine EV C Y1 hm hk rr λs' I' R'=>?_
 exact (OkS.after ⟨.next,_,Y0,rfl,I',.refl ..,R',.next⟩ W0 X0.up).after l0 s0.up
theorem AA {v:Expr}{pos:Pos}{m:M PV}(hv:SimE W n fm v m):SimT W n fm (.Return (some v) pos) (ac m λa=>ae (.ret a)):=.mk λA V ps s C I ns=>by
 refine wpAny_Return_some (Ai.seq (hv A V ps s C I (Ad ns)) (λa va α₁ o0 c0 u0 l0 s0 ra y0=>?_) λx c0 q=>q.toS.bind)
 rw [Ab y0]
 exact ⟨.ret a,o0,α₁,rfl,u0,l0,s0.up,.ret ra⟩
theorem Da {v:Expr}{pos:Pos}{m:M PV}(hv:SimE W n fm v m)(hi:∀ env:Env,env.scope.kind = .function->interactive env=false)(hs:∀ env,swapsWith v none pos.line env=pure false):SimT W n fm (.Expr v pos) (ac m λU=>ae .next):=.mk λA V ps s C I ns=>by
 refine wpAny_Expr_any (Ai.seq (hv A V ps s C I (Ad ns)) (λa va α₁ o0 c0 u0 l0 s0 ra y0=>?_) λx c0 q=>q.toS.bind) (hi _ C.fm.kind) (hs _)
 rw [Ab y0]
 exact ⟨.next,o0,α₁,rfl,u0,l0,s0.up,.next⟩
theorem Fv {pos:Pos}:SimT W n fm (.Continue pos) (ae .cont):=.mk λA V ps s C I ns=>wpAny_Continue ⟨.cont,ps,V,rfl,I,.refl ..,.refl ..,.cont⟩
theorem AJ:SimS W n fm [] (ae .next):=.mk λA V ps s C I ns=>wpAny_execs_nil ⟨.next,ps,V,rfl,I,.refl ..,.refl ..,.next⟩
theorem Aa {st:Stmt}{b:List Stmt}{m r:M PFlow}(hm:SimT W n fm st m)(hr:SimS W n fm b r):SimS W n fm (st::b) (aj m r):=.mk λA V ps s C I ns=>by
 unfold aj at ns ⊢
 refine wpAny_execs_cons (aW (hm A V ps s C I (Ad ns)) (λf c0 q=>?_) λx c0 q=>q.bind)
 obtain ⟨f,o0,α₁,y0,u0,l0,s0,rf⟩:=q
 rw [Ab y0] at ns ⊢
 cases rf with
 | next=>exact aW (hr A α₁ o0 c0 C u0 ns) (λU U q=>q.after l0 s0) λU U q=>q.after l0 s0
 | brk=>exact ⟨.brk,o0,α₁,rfl,u0,l0,s0,.brk⟩
 | cont=>exact ⟨.cont,o0,α₁,rfl,u0,l0,s0,.cont⟩
 | ret r=>exact ⟨.ret _,o0,α₁,rfl,u0,l0,s0,.ret r⟩
theorem LM (m:M PFlow):aj m (ae .next)=m:=by
 funext ps
 unfold aj ac
 cases m ps with
 | ok f s=>cases f <;> rfl
 | ex e s=>rfl
 | stuck=>rfl
theorem Af {st:Stmt}{m:M PFlow}(hm:SimT W n fm st m):SimS W n fm [st] m:=by
 have:=Aa hm (AJ (W:=W) (n:=n) (fm:=fm))
 rwa [LM] at this
theorem AL {t:Expr}{b o:List Stmt}{pos:Pos}{mt:M Bool}{mb mo:M PFlow}(ht:SimB W n fm t mt)(hb:SimS W n fm b mb)(ho:SimS W n fm o mo):SimT W n fm (.If t b o pos) (ac mt λc=>if c then mb else mo):=.mk λA V ps s C I ns=>by
 refine wpAny_If (aW (ht A V ps s C I (Ad ns)) (λc c0 z=>?_) λx c0 z=>z.toS.bind)
 obtain ⟨o0,α₁,y0,u0,l0,s0⟩:=z
 rw [Ab y0] at ns ⊢
 cases c
 ·exact aW (ho A α₁ o0 c0 C u0 ns) (λU U q=>q.after l0 s0.up) λU U q=>q.after l0 s0.up
 ·exact aW (hb A α₁ o0 c0 C u0 ns) (λU U q=>q.after l0 s0.up) λU U q=>q.after l0 s0.up
inductive ExN (W:Wd)(fm:Fm)(V:List Addr)(h:Heap)(r:R PFlow)(x:Value)(s':Shared):Prop
 | mk (e:PX) (ps':PS) (α':List Addr) (k1:r = .ex e ps') (k2:InvS W fm α' ps' s') (k3:Grow V α' h) (k4:Rel fm.stk fm.own V h s'.heap) (k5:RaisedN W h s'.heap e x):ExN W fm V h r x s'
def IY (W:Wd)(fm:Fm)(V:List Addr)(h:Heap)(r:R PFlow):Result->Shared->Prop
 | .ok f,s'=>OkS W fm V h r f s'
 | .error x,s'=>ExN W fm V h r x s'
theorem InvS.none (I:InvS W fm V ps s):∀ b,s.heap.get? b=none->W.h₀.get? b=none:=λb q=>by
 cases z:W.h₀.get? b with
 | none=>rfl
 | some o=>rw [I.inv.base b o z] at q;cases q
theorem EW {r:R PFlow}(C:Ctx W fm n A)(hs0:∀ b,h.get? b=none->W.h₀.get? b=none)(q:ExS W fm V h r x s):notedBy W.m A fm.env (λe s'=>IY W fm V h r (.error e) s') x s:=by
 obtain ⟨e,ps',α',er,I,g,R,X⟩:=q
 unfold notedBy
 exact Gu C I R hs0 X λh' I' R' X'=>⟨e,ps',α',er,I',g,R',X'⟩
theorem Gv {r:R PFlow}(C:Ctx W fm n A)(hs0:∀ b,h.get? b=none->W.h₀.get? b=none)(q:IY W fm V h r (.error x) s):cameBackBy W.m A fm.env (ExS W fm V h r) x s:=by
 obtain ⟨e,ps',α',er,I,g,R,X⟩:=q
 have X':=X
 obtain ⟨a,oe,vs,rfl,ha,hc,hd,hsz,hna,harg,⟨T,oT,ts,q,nTa,hT,hdT,h3,nT,pT⟩,hctx⟩:=X'
 unfold cameBackBy
 refine bf (wpAny_field ha hd q ?_)
 rw [if_neg (show ¬ ((Value.ref T==Value.none)=true) from by simp)]
 refine Cz C I R hs0 X _ λh' I' R' X'=>?_
 exact ⟨e,ps',α',er,I',g,R',X'.raised⟩
theorem Dp {t:Expr}{b:List Stmt}{pos:Pos}{mt:M Bool}{mb:M PFlow}(ht:SimB W n fm t mt)(hb:SimS W n fm b mb)(K:Nat):SimT W n fm (.While t b [] pos) (az mt mb K):=.mk λA V ps s C I ns=>by
 have hs0:=I.none
 refine wpAny_While (codeAny_mono (R:=IY W fm V s.heap (az mt mb K ps)) ?_ λr s' q=>?_)
 ·refine codeAny_whileLoop (λk s'=>∃ ps' α',az mt mb K ps=az mt mb k ps'/\InvS W fm α' ps' s'/\Grow V α' s.heap/\Rel fm.stk fm.own V s.heap s'.heap) ?_ K ⟨ps,V,rfl,I,.refl ..,.refl ..⟩
  rintro k c0 ⟨o0,α₁,y0,u0,l0,s0⟩
  rw [y0] at ns ⊢
  cases k with
  | zero=>exact absurd rfl ns
  | succ k=>
   have ns':ac mt (λc=>if c then ac mb λf=>match f with
    | .next=>az mt mb k
    | .cont=>az mt mb k
    | .brk=>ae .next
    | .ret v=>ae (.ret v)
    else ae .next) o0≠.stuck:=ns
   have eq:az mt mb (k+1) o0=ac mt (λc=>if c then ac mb λf=>match f with
    | .next=>az mt mb k
    | .cont=>az mt mb k
    | .brk=>ae .next
    | .ret v=>ae (.ret v)
    else ae .next) o0:=rfl
   refine aW (ht A α₁ o0 c0 C u0 (Ad ns')) (λc z0 z=>?_) λx z0 z=>EW C hs0 (by rw [eq];exact ExS.after z.toS.bind l0 s0)
   obtain ⟨Z1,Y0,W1,Y1,W0,X0⟩:=z
   rw [Ab W1] at ns' eq
   have g12:=l0.trans W0 s0
   have x12:=s0.trans X0.up l0.new
   cases c with
   | false=>
    simp only [false_eq_true,if_false] at eq ⊢
    rw [eq]
    exact wpAny_execs_nil ⟨.next,Z1,Y0,rfl,Y1,g12,x12,.next⟩
   | true=>
    simp only [if_true] at eq ns' ⊢
    refine aW (hb A Y0 Z1 z0 C Y1 (Ad ns')) (λf v3 z=>?_) λx v3 z=>EW C hs0 (by rw [eq];exact ExS.after z.bind g12 x12)
    obtain ⟨f,w4,W4,Z3,Y2,W3,i4,rf⟩:=z
    rw [Ab Z3] at ns' eq
    have g123:=g12.trans W3 x12
    have x123:=x12.trans i4 g12.new
    cases rf with
    | next=>exact ⟨k,bp k,w4,W4,eq,Y2,g123,x123⟩
    | cont=>exact ⟨k,bp k,w4,W4,eq,Y2,g123,x123⟩
    | brk=>rw [eq];exact ⟨.next,w4,W4,rfl,Y2,g123,x123,.next⟩
    | ret r=>rw [eq];exact ⟨.ret _,w4,W4,rfl,Y2,g123,x123,.ret r⟩
 ·cases r with
  | ok f=>exact q
  | error x=>exact Gv C hs0 q
end
def Ct:List String:=["list_iterator", "str_ascii_iterator", "str_iterator", "range_iterator"]
structure ItOk (W:Wd)(fm:Fm)(w1:List Addr)(I:Addr)(get:Nat->M (Option PV))(St:Nat->Heap->Prop):Prop where
 self:∀ (A:Around) s k (Q:Value->Shared->Prop) (E:Value->Shared->Prop),St k s.heap->Q (.ref I) s->wpAny W.m A (pyIter (.ref I)) Q E s
 stay:∀ k h h',St k h->(∀ o,h.get? I=some o->h'.get? I=some o)->St k h'
 flds:∀ k h,St k h->∃ o vs,h.get? I=some o/\o.data = .fields vs/\∃ c,o.cls = .type c/\c∈Ct
 next:∀ (fm:Fm) (A:Around) V ps s k (Q:Option Value->Shared->Prop) (E:Value->Shared->Prop),A.handled=none->w1 <+: V->FmOk W.h₀ fm->InvS W fm V ps s->St k s.heap->get k ps≠.stuck ->
  (∀ o r h' tk,get k ps = .ok o ps->(∀ b ob,b≠I->s.heap.get? b=some ob->h'.get? b=some ob)->(match (generalizing:=false) o,r with
   | none,none=>True
   | some p,some v=>W.rep fm V h' p v/\St (k+1) h'
   | _,_=>False)->Q r { s with heap:=h',toks:=tk })->wpAny W.m A (pyNext (.ref I)) Q E s
theorem ItOk.to {W:Wd}{fm:Fm}{w1:List Addr}{I:Addr}{get:Nat->M (Option PV)}{St:Nat->Heap->Prop}(x:ItOk W fm w1 I get St)(fm':Fm):ItOk W fm' w1 I get St:=⟨x.self,x.stay,x.flds,x.next⟩
inductive ItRes (W:Wd)(fm:Fm)(V:List Addr)(h:Heap)(r:R (Nat->M (Option PV)))(it:Value)(z0:Shared):Prop
 | mk (get:Nat->M (Option PV)) (ps':PS) (α':List Addr) (I:Addr) (St:Nat->Heap->Prop) (k1:r = .ok get ps') (k2:it = .ref I) (k3:InvS W fm α' ps' z0) (k4:Grow V α' h) (k5:Rel fm.stk fm.tab V h z0.heap) (k6:h.get? I=none) (k7:I∉fm.av) (k8:ItOk W fm α' I get St) (k9:St 0 z0.heap):ItRes W fm V h r it z0
abbrev SimI.T (W:Wd)(n:Nat)(fm:Fm)(e:Expr)(mi:M (Nat->M (Option PV))):Prop:=∀ A V ps s,Ctx W fm n A->InvS W fm V ps s->mi ps≠.stuck->wpAny W.m A (eval e fm.env) (λx c0=>wpAny W.m A (pyIter x) (λit z0=>
  ItRes W fm V s.heap (mi ps) it z0) (ExE W fm V s.heap (mi ps)) c0) (ExE W fm V s.heap (mi ps)) s
structure SimI (W:Wd)(n:Nat)(fm:Fm)(e:Expr)(mi:M (Nat->M (Option PV))):Prop where
 go:SimI.T W n fm e mi
noncomputable instance {W:Wd} {n:Nat} {fm:Fm} {e:Expr} {mi:M (Nat->M (Option PV))}:CoeFun (SimI W n fm e mi) (λU=>SimI.T W n fm e mi):=⟨SimI.go⟩
section
variable {W:Wd}{fm:Fm}{V α' α₁ w1:List Addr}{h h' h₁ start:Heap}{n:Nat}{A:Around}{ps ps':PS}{s s':Shared}{H:Hd}{h₀:Heap}{own:List Addr}{e:PX}{x:Value}{I:Addr}
theorem Turn0.one (F:h.FunFrames ⟨#[],{}⟩ fm.stk)(hI:∃ o vs,h.get? I=some o/\o.data = .fields vs/\∃ c,o.cls = .type c/\c∈Ct)(k:∀ b o,b≠I->h.get? b=some o->h'.get? b=some o):Turn0 fm.stk [I] h h':=by
 obtain ⟨oI,vs,eI,dI,ci,hci,hw⟩:=hI
 have nf:∀ b o,h.get? b=some o->(∀ vs,o.data≠.fields vs)->h'.get? b=some o:=λb o e q=>k b o (λz=>by rw [z,eI] at e;cases e;exact q vs dI) e
 exact ⟨λb o e U m=>k b o (λz=>m (by rw [z];exact mem_singleton_self _)) e,λb o e U m=>⟨o.slots,k b o (λz=>m (by rw [z];exact mem_singleton_self _)) e⟩,
  F.of_keeps λb o e q=>⟨o,nf b o e q,rfl⟩,λb m=>by rw [mem_singleton.mp m];exact ⟨oI,vs,eI,dI,by unfold CZ;rw [hci];exact ⟨(λq=>(by cases q)),λq=>absurd (Value.type.inj q▸hw) (by decide)⟩⟩⟩
theorem ItOk.list {i:Nat}{ax:Addr}(hi:V[i]? = some ax)(hne:ax≠I):ItOk W fm V I (B7 (.lst i)) (λk h=>h.IsListIter I ax k) where
 self:=λA s k Q E st h=>wpAny_pyIter_listiter st h
 stay:=λk h h' st q=>by obtain ⟨o,e,r⟩:=st;exact ⟨o,q o e,r⟩
 flds:=λk h st=>by obtain ⟨o,e,c,d⟩:=st;exact ⟨o,_,e,d,_,c,by simp [Ct]⟩
 next:=by
  intro fm A α' ps s k Q E hh hp F J st ns hQ
  have ns':ac (ar i) (λl=>ae l[k]?) ps≠.stuck:=ns
  obtain ⟨l,e1,e2⟩:=Bh (Ad ns')
  have e3:B7 (.lst i) k ps = .ok l[k]? ps:=Ab e2
  obtain ⟨a,vs,h1,h2',h3⟩:=J.inv.lists.at_ i l e1
  have h2:=h2'.isList
  have:a=ax:=by
   obtain ⟨t,rfl⟩:=hp
   rw [getElem?_append_left (List.getElem?_eq_some_iff.mp hi).1,hi] at h1
   exact (aT h1).symm
  subst this
  obtain ⟨oI,eI,cI,dI⟩:=id st
  cases q:l[k]? with
  | none=>
   refine wpAny_pyNext_list_end hh st h2 ?_ λh' S=>?_
   ·rw [List.getElem?_toArray,List.getElem?_eq_none_iff,<- h3.length];exact bq.mp q
   ·exact hQ none none h' _ (by rw [e3,q]) S trivial
  | some p=>
   obtain ⟨v,hv,r⟩:=h3.get k p q
   refine wpAny_pyNext_list_item st h2 (x:=v) (by simpa using hv) λh' st' S=>?_
   have kk:∀ b o,b≠I->s.heap.get? b=some o->h'.get? b=some o:=λb o z e=>(S.2 b z).trans e
   exact hQ (some p) (some v) h' _ (by rw [e3,q]) kk ⟨RepV.turn (Turn0.one J.inv.frames ⟨oI,_,eI,dI,_,cI,by simp [Ct]⟩ kk) F.frsAv r,st'⟩
theorem ItOk.strA {x:Txt}{t:Tok}:ItOk W fm V I (B7 (.str x)) (λk h=>h.IsStrIter I "str_ascii_iterator" (txt x) t k) where
 self:=λA s k Q E st h=>wpAny_pyIter_striter_ascii st h
 stay:=λk h h' st q=>by obtain ⟨o,e,r⟩:=st;exact ⟨o,q o e,r⟩
 flds:=λk h st=>by obtain ⟨o,e,c,d⟩:=st;exact ⟨o,_,e,d,_,c,by simp [Ct]⟩
 next:=by
  intro fm A α' ps s k Q E hh hp F J st ns hQ
  cases q:x[k]? with
  | none=>
   refine wpAny_pyNext_ascii_end hh st (by simp [txt];exact bq.mp q) λh' S=>?_
   exact hQ none none h' _ (by show R.ok ((x[k]?).map _) ps=_;rw [q];rfl) S trivial
  | some c=>
   refine wpAny_pyNext_ascii_item st (c:=c) (by simp [txt,q]) λh' st' S=>?_
   exact hQ (some (.str [c])) (some _) h' _ (by show R.ok ((x[k]?).map _) ps=_;rw [q];rfl) (λb o z e=>(S.2 b z).trans e) ⟨.str [c] _,st'⟩
theorem ItOk.strW {x:Txt}{t:Tok}:ItOk W fm V I (B7 (.str x)) (λk h=>h.IsStrIter I "str_iterator" (txt x) t k) where
 self:=λA s k Q E st h=>wpAny_pyIter_striter_wide st h
 stay:=λk h h' st q=>by obtain ⟨o,e,r⟩:=st;exact ⟨o,q o e,r⟩
 flds:=λk h st=>by obtain ⟨o,e,c,d⟩:=st;exact ⟨o,_,e,d,_,c,by simp [Ct]⟩
 next:=by
  intro fm A α' ps s k Q E hh hp F J st ns hQ
  cases q:x[k]? with
  | none=>
   refine wpAny_pyNext_wide_end hh st (by simp [txt];exact bq.mp q) λh' S=>?_
   exact hQ none none h' _ (by show R.ok ((x[k]?).map _) ps=_;rw [q];rfl) S trivial
  | some c=>
   refine wpAny_pyNext_wide_item st (c:=c) (by simp [txt,q]) λh' st' S=>?_
   exact hQ (some (.str [c])) (some _) h' _ (by show R.ok ((x[k]?).map _) ps=_;rw [q];rfl) (λb o z e=>(S.2 b z).trans e) ⟨.str [c] _,st'⟩
theorem ItOk.rng {a b:Int}:ItOk W fm V I (BP a b) (λk h=>IsRangeIter h I (a+k) ((if a<b then b - a else 0) - k) 1) where
 self:=λA s k Q E st h=>wpAny_pyIter_rangeiter st h
 stay:=λk h h' e q=>q _ e
 flds:=λk h e=>⟨_,_,e,rfl,_,rfl,by simp [Ct]⟩
 next:=by
  intro fm A α' ps s k Q E hh hp F J st ns hQ
  by_cases q:(k:Int)<b - a
  ·have hab:a<b:=by lia
   rw [if_pos hab] at st
   refine wpAny_pyNext_range_item st (by lia) λh' st' S=>?_
   refine hQ (some (.int (a+k))) (some _) h' _ (by show R.ok (if _ then _ else _) ps=_;rw [if_pos q]) (λb o z e=>(S.2 b z).trans e) ⟨.int _ _,?_⟩
   show IsRangeIter h' I (a+((k+1:Nat):Int)) ((if a<b then b - a else 0) - ((k+1:Nat):Int)) 1
   rw [if_pos hab,show a+((k+1:Nat):Int)=a+k+1 by lia,show (b - a - ((k+1:Nat):Int))=b - a - k - 1 by lia]
   exact st'
  ·refine wpAny_pyNext_range_end hh st (by split <;> lia) λh' S=>?_
   exact hQ none none h' _ (by show R.ok (if _ then _ else _) ps=_;rw [if_neg q]) S trivial
theorem BL (I:InvS W fm V ps s)(o:Obj):InvS W fm V ps { s with heap:=s.heap.push o }:=⟨I.inv.keeps λU U e=>get?_push_of_some o e,I.gens,I.os⟩
theorem Ck (r:Rel fm.stk own V start s.heap)(o:Obj):Rel fm.stk own V start (s.heap.push o):=r.trans (.of_keeps (V:=V) λU U e=>get?_push_of_some o e) λa m q=>absurd m q
set_option tactic.hygienic true in
theorem DI {e:Expr}{m:M PV}(he:SimE W n fm e m):SimI W n fm e (ac m FR):=.mk λA V ps s C I ns=>by
 refine Ai.seq (he A V ps s C I (Ad ns)) (λp v α₁ o0 c0 u0 l0 s0 Z0 y0=>?_) λx c0 q=>q.bind
 rw [Ab y0] at ns
 have fresh:s.heap.get? c0.heap.objs.size=none:=s0.live _ (Az _)
 have nav:c0.heap.objs.size∉fm.av:=Bi u0 (Az _)
 have ne:∀ a o,c0.heap.get? a=some o->a≠c0.heap.objs.size:=λa o q z=>by rw [z,Az] at q;cases q
 cases p <;> (try exact absurd rfl ns)
 ·rename_i t
  obtain ⟨tk,rfl⟩:=Z0.inv
  cases ha:(txt t).cps.all (· < 128)
  ·exact wpAny_pyIter_wide ha ⟨_,o0,α₁,c0.heap.objs.size,_,(Ab y0).trans rfl,rfl,BL u0 _,l0,Ck s0 _,fresh,nav,ItOk.strW,⟨_,get?_push_size _ rfl,rfl,rfl⟩⟩
  ·exact wpAny_pyIter_ascii ha ⟨_,o0,α₁,c0.heap.objs.size,_,(Ab y0).trans rfl,rfl,BL u0 _,l0,Ck s0 _,fresh,nav,ItOk.strA,⟨_,get?_push_size _ rfl,rfl,rfl⟩⟩
 ·rename_i i
  obtain ⟨a,rfl,hi⟩:=Z0.inv
  ·have hl:∃ vs,c0.heap.IsList a vs:=u0.inv.lists.isList (mem_of_getElem? hi)
   obtain ⟨vs,hl⟩:=hl
   have nI:a≠c0.heap.objs.size:=by obtain ⟨o,q,_⟩:=hl;exact ne a o q
   exact wpAny_pyIter_list hl ⟨_,o0,α₁,c0.heap.objs.size,_,(Ab y0).trans rfl,rfl,BL u0 _,l0,Ck s0 _,fresh,nav,ItOk.list hi nI,⟨_,get?_push_size _ rfl,rfl,rfl⟩⟩
theorem Ka {i:Int}(h:Ah i=true):-(2 ^ 62:Int)<=i/\i<2 ^ 62:=by
 unfold Ah at h
 rw [decide_eq_true_eq] at h
 have:((2:Int) ^ 62)=4611686018427387904:=by decide
 omega
theorem Ol {l:List PV}(ns:CD l ps≠.stuck):(∃ b,l=[.int b])\/∃ a b,l=[.int a,.int b]:=by
 obtain ⟨x,e⟩:=AV ns
 rcases So e with ⟨e,_⟩ | ⟨a,e,_⟩
 ·exact .inl ⟨_,e⟩
 ·exact .inr ⟨_,_,e⟩
theorem Et {x:Str}{i:Nat}{np pos:Pos}{es:List Expr}{ms:List (M PV)}(hm:(x,NameKind.globalImplicit,i)∈fm.sc)(hf:x∈BF)(hn:x≠"__name__")(hd:(x==("__debug__":Str))=false)(hb:bootBuiltins x=some (.type "range"))
  (q:SimL W n fm es ms):SimI W n fm (.Call (.Name x np) es [] pos) (ac (ag ms) CD):=.mk λA V ps s C I ns=>by
 show wpAny W.m A (do callWith pos (<- eval (.Name x np) fm.env) [] (backTo pos (starEach es fm.env)) (backToKw pos (keywordEach [] fm.env))) _ _ s
 refine bf (BX C I hf hn hb hm hd ?_)
 refine PySem.callWith_type (q.plain _) (A2 (q.plain _) (aW (C0 q A V ps s C I (Ad ns)) (λvs c0 z=>?_) λx c0 z=>z.bind))
 obtain ⟨l,o0,α₁,y0,u0,l0,s0,Z0⟩:=z
 rw [Ab y0] at ns
 have fin:∀ (o:Obj) (a b:Int) (t u v:Tok) tk,o = { cls:=.type "range",data:=.fields #[.int a t,.int b u,.int 1 v] }->Ah a=true->Ah b=true->CD l o0 = .ok (BP a b) o0 ->
   wpAny W.m A (pyIter (.ref c0.heap.objs.size)) (λit z0=>ItRes W fm V s.heap (ac (ag ms) CD ps) it z0)
    (ExE W fm V s.heap (ac (ag ms) CD ps)) { c0 with heap:=c0.heap.push o,toks:=tk }:=by
  rintro o a b t u v tk rfl ha hb' er
  have a62:=Ka ha
  have b62:=Ka hb'
  have I2:=(BL u0 { cls:=.type "range",data:=.fields #[.int a t,.int b u,.int 1 v] }).tok tk
  refine wpAny_pyIter_range (s:={ c0 with heap:=c0.heap.push { cls:=.type "range",data:=.fields #[.int a t,.int b u,.int 1 v] },toks:=tk }) (IsRange.new ..) (small_one a62.1 a62.2 b62.1 b62.2) ?_
  refine ⟨BP a b,o0,α₁,_,_,(Ab y0).trans er,rfl,BL I2 _,l0,Ck (s:={ c0 with heap:=c0.heap.push _,toks:=tk }) (Ck s0 _) _,?_,Bi I2 (Az _),ItOk.rng (a:=a) (b:=b),?_⟩
  ·exact (Ck s0 { cls:=.type "range",data:=.fields #[.int a t,.int b u,.int 1 v] }).live _ (Az _)
  ·show IsRangeIter _ _ (a+((0:Nat):Int)) _ _
   rw [show a+((0:Nat):Int)=a by lia,show ((if a<b then b - a else 0) - ((0:Nat):Int))=Builtin.Range.rangeSize a b 1 by rw [rangeSize_one];lia]
   exact get?_push_size _ rfl
 have ns1:CD l o0≠.stuck:=ns
 rcases Ol ns1 with ⟨b,rfl⟩ | ⟨a,b,rfl⟩
 ·obtain ⟨_,_,rfl,r,rs⟩:=Z0.inv
  obtain ⟨t,rfl⟩:=r.inv
  obtain rfl:=rs.inv
  have ns':ak (Ah b) (ae (BP 0 b)) o0≠.stuck:=ns
  obtain ⟨c,e⟩:=Ak ns'
  exact call_range_1 (fin _ 0 b _ _ _ _ rfl (by decide) c e)
 ·obtain ⟨_,_,rfl,r,rs⟩:=Z0.inv
  obtain ⟨_,_,rfl,r',rs2⟩:=rs.inv
  obtain rfl:=rs2.inv
  obtain ⟨t,rfl⟩:=r.inv
  obtain ⟨u,rfl⟩:=r'.inv
  have ns':ak (Ah a&&Ah b) (ae (BP a b)) o0≠.stuck:=ns
  obtain ⟨c,e⟩:=Ak ns'
  rw [and_eq_true] at c
  exact call_range_2 (fin _ a b _ _ _ _ rfl c.1 c.2 e)
end
section
variable {prog:Program}{w:World}{A:Around}{E:Value->Shared->Prop}{s:Shared}
theorem Om {it t:Addr}{items:Array Value}(hne:t≠it):∀ (n i:Nat) (s:Shared) (Q:List Value->Shared->Prop),s.heap.IsListIter it t i->s.heap.IsList t items->i+n<=items.size ->
  (∀ h',h'.IsListIter it t (i+n)->Heap.SameBut it s.heap h'->Q ((items.toList.drop i).take n) { s with heap:=h' })->wpAny (model prog w) A (draw (.ref it) n) Q E s:=by
 intro n
 induction n with
 | zero=>
  intro i s Q hit _ _ hQ
  show wpAny _ _ (pure []) Q E s
  exact bg (by simpa using hQ s.heap hit (Heap.SameBut.refl ..))
 | succ n ih=>
  intro i s Q hit ht hle hQ
  have hlt:i<items.size:=by exact la [_,_,_] [([2,4,3,0,0],[6])] ([2,3,0],[6]) rfl hle
  show wpAny _ _ (pyNext (.ref it) >>= _) Q E s
  refine bf (wpAny_pyNext_list_item hit ht (x:=items[i]) (by simp [hlt]) λh₁ Y6 u4=>?_)
  refine bf (be (ih (i+1) _ _ Y6 (ht.extBut u4.extBut hne) (by exact la [_,_,_] [([2,4,3,0,0],[6])] ([2,3,0,4,0],[6]) rfl hle) λW2 i8 Z6=>bg ?_))
  have hd:items.toList.drop i=items[i]::items.toList.drop (i+1):=by simp [List.drop_eq_getElem_cons,hlt]
  have:=hQ W2 (by rw [show i+(n+1)=i+1+n by exact Nat.le_antisymm (la [_,_] [] ([2,4,3,0,0],[2,3,0,4,0]) rfl) (la [_,_] [] ([2,3,0,4,0],[2,4,3,0,0]) rfl)];exact i8) (u4.trans Z6)
  rw [hd,List.take_succ_cons] at this
  exact this
theorem Fw {t:Addr}{items:Array Value}{Q:List Value->Shared->Prop}(hh:A.handled=none)(ht:s.heap.IsList t items)
  (hQ:∀ h',ExtBut s.heap.objs.size s.heap h'->Q items.toList { s with heap:=h' }):wpAny (model prog w) A (unpackItems (.ref t) items.size none) Q E s:=by
 have hlt:t≠s.heap.objs.size:=by obtain ⟨o,ho,_⟩:=ht;exact Nat.ne_of_lt (lt_size ho)
 unfold unpackItems
 refine bf ?_
 ·unfold notIterableAtAll
  refine bf (wpAny_specialOf ht.typeIs slot_list_iter.lookup ?_)
  refine bg ?_
  simp only [false_eq_true,if_false]
  refine bf (be (wpAny_pyIter_list ht ?_))
  refine bf (be (Om hlt items.size 0 _ _ ⟨_,get?_push_size _ rfl,rfl,rfl⟩ (ht.push _) (by exact la [_] [] ([1,2,0],[2]) rfl) λh₁ Y6 u4=>?_))
  have hall:List.take items.size (List.drop 0 items.toList)=items.toList:=by
   rw [drop_zero];exact List.take_of_length_le (by simp)
  rw [hall]
  rw [if_neg (by simp)]
  have j8:h₁.IsList t items:=(ht.push _).extBut u4.extBut hlt
  refine bf (be (wpAny_pyNext_list_end hh Y6 j8 (by simp) λW2 l8=>?_))
  simp only [Option.isSome_none,false_eq_true,if_false]
  refine bg (hQ W2 λb o hb e=>l8 b o hb (u4.extBut b o hb (get?_push_of_some _ e)))
end
inductive OkG (W:Wd)(fm:Fm)(V:List Addr)(h:Heap)(r:R Unit)(s':Shared):Prop
 | mk (ps':PS) (k1:r = .ok () ps') (k2:InvS W fm V ps' s') (k3:Rel fm.stk fm.own V h s'.heap):OkG W fm V h r s'
abbrev SimG.T (W:Wd)(n:Nat)(fm:Fm)(t:Expr)(f:PV->M Unit):Prop:=∀ A V ps s p v,Ctx W fm n A->InvS W fm V ps s->W.rep fm V s.heap p v->f p ps≠.stuck->wpAny W.m A (assign t fm.env v) (λU s'=>OkG W fm V s.heap (f p ps) s') (λU U=>False) s
structure SimG (W:Wd)(n:Nat)(fm:Fm)(t:Expr)(f:PV->M Unit):Prop where
 go:SimG.T W n fm t f
noncomputable instance {W:Wd} {n:Nat} {fm:Fm} {t:Expr} {f:PV->M Unit}:CoeFun (SimG W n fm t f) (λU=>SimG.T W n fm t f):=⟨SimG.go⟩
inductive SimGs (W:Wd)(n:Nat)(fm:Fm):List Expr->List (PV->M Unit)->Prop
 | nil:SimGs W n fm [] []
 | cons {t:Expr} {f:PV->M Unit} {ts:List Expr} {fs:List (PV->M Unit)} (x:SimG W n fm t f) (hs:∀ rest env,assignEach (t::rest) env=(false,assign t env)::assignEach rest env) (r:SimGs W n fm ts fs):SimGs W n fm (t::ts) (f::fs)
section
variable {W:Wd}{fm:Fm}{V α' α₁ w1:List Addr}{h h' h₁ start:Heap}{n:Nat}{A:Around}{ps ps':PS}{s s':Shared}{H:Hd}{h₀:Heap}{own:List Addr}{e:PX}{x:Value}{I:Addr}
theorem On {x:Str}{k:NameKind}{i:Nat}{p:Pos}(hm:(x,k,i)∈fm.sc)(hk:k = .local\/k = .cell):SimG W n fm (.Name x p) (ah i):=.mk λA V ps s q v C J r ns=>
 wpAny_assign_Name (EV C J hm hk r λs' J' R'=>⟨_,rfl,J',R'⟩)
theorem SimGs.plain:∀ {ts:List Expr} {fs:List (PV->M Unit)},SimGs W n fm ts fs->∀ env,(assignEach ts env).length=fs.length/\(assignEach ts env).findIdx? (·.1)=none:=by
 intro _ _ hS
 induction hS with
 | nil=>
  intro env
  exact ⟨rfl,rfl⟩
 | @cons t f ts fs x hs r ih=>
  intro env
  obtain ⟨h1,h2⟩:=ih env
  rw [hs]
  exact ⟨by simp [h1],by simp [List.findIdx?_cons,h2]⟩
set_option tactic.hygienic true in
theorem Sv (C:Ctx W fm n A):∀ {ts:List Expr} {fs:List (PV->M Unit)},SimGs W n fm ts fs->∀ (l:List PV) (vs:List Value) (ps:PS) (s:Shared),InvS W fm V ps s->RepL W.H W.h₀ fm.av V s.heap l vs->aD fs l ps≠.stuck ->
  wpAny W.m A (assignInOrder ((assignEach ts fm.env).map (·.2)) vs) (λU s'=>OkG W fm V s.heap (aD fs l ps) s') (λU U=>False) s:=by
 intro _ _ hS
 induction hS with
 | nil=>
  intro l vs ps s J r ns
  cases r with
  | nil=>exact assignInOrder_nil ⟨ps,rfl,J,.refl ..⟩
  | cons r rs=>exact absurd rfl ns
 | @cons t f ts fs x hs q ih=>
  intro l vs ps s J r ns
  cases r with
  | nil=>exact absurd rfl ns
  | cons r rs=>
   rename_i p v l vs
   have ns':ac (f p) (λU=>aD fs l) ps≠.stuck:=ns
   have eq:aD (f::fs) (p::l) ps=ac (f p) (λU=>aD fs l) ps:=rfl
   rw [hs,eq]
   refine assignInOrder_cons (aW (x A V ps s p v C J r (Ad ns')) (λU c0 z=>?_) λU U z=>z.elim)
   obtain ⟨o0,y0,Z4,Y3⟩:=z
   rw [Ab y0] at ns' ⊢
   refine aW (ih l vs o0 c0 Z4 (RepL.stays J.inv.lists Y3 (prefix_refl _) C.fm.frsAv C.fm.ownAv rs) ns') (λU z0 z=>?_) λU U z=>z
   obtain ⟨Z1,W1,o5,y4⟩:=z
   exact ⟨Z1,W1,o5,Y3.trans y4 λa m q=>absurd m q⟩
theorem Uu {l:List PV}{v:Value}(r:W.rep fm V h (.tup l) v):∃ a vs,v = .ref a/\IsTup h a vs.toArray/\RepL W.H W.h₀ fm.av V h l vs:=by
 obtain ⟨_,_,rfl,_,hi,rs⟩:=r.inv
 exact ⟨_,_,rfl,hi,rs⟩
theorem Inv.extBut (J:InvS W fm V ps s)(he:ExtBut s.heap.objs.size s.heap h'):InvS W fm V ps { s with heap:=h' }/\∀ b o,s.heap.get? b=some o->h'.get? b=some o:=by
 have k:∀ b o,s.heap.get? b=some o->h'.get? b=some o:=λb o e=>he b o (λq=>by rw [q,Az] at e;cases e) e
 exact ⟨⟨J.inv.keeps k,J.gens,J.os⟩,k⟩
set_option tactic.hygienic true in
theorem GT {fs:List (PV->M Unit)}{p:PV}{v:Value}(C:Ctx W fm n A)(hh:fm.hdl=none)(J:InvS W fm V ps s)(r:W.rep fm V s.heap p v)(ns:aC fs p ps≠.stuck){Q:List Value->Shared->Prop}{E:Value->Shared->Prop}
  (hQ:∀ l vs h',aC fs p ps=aD fs l ps->l.length=fs.length->InvS W fm V ps { s with heap:=h' }->(∀ b o,s.heap.get? b=some o->h'.get? b=some o)->RepL W.H W.h₀ fm.av V h' l vs->Q vs { s with heap:=h' }):wpAny W.m A (unpackItems v fs.length none) Q E s:=by
 have hA:A.handled=none:=C.hdl.trans hh
 cases p <;> (try exact absurd rfl ns)
 ·rename_i l
  have ns':ak (l.length==fs.length) (aD fs l) ps≠.stuck:=ns
  obtain ⟨c,e⟩:=Ak ns'
  have c':l.length=fs.length:=by simpa using c
  obtain ⟨a,vs,rfl,hi,rs⟩:=Uu r
  have:fs.length=vs.toArray.size:=by rw [size_toArray,<- rs.length,c']
  rw [this]
  refine unpackItems_tuple hA hi λh' he=>?_
  obtain ⟨J',k⟩:=Inv.extBut J he
  exact hQ l vs h' e c' J' k (rs.keeps k (prefix_refl _))
 ·rename_i i
  have ns':ac (ar i) (λl=>ak (l.length==fs.length) (aD fs l)) ps≠.stuck:=ns
  obtain ⟨l,e1,e2⟩:=Bh (Ad ns')
  have e3:aC fs (.lst i) ps=ak (l.length==fs.length) (aD fs l) ps:=Ab e2
  rw [Ab e2] at ns'
  obtain ⟨c,e⟩:=Ak ns'
  have c':l.length=fs.length:=by simpa using c
  obtain ⟨a,vs,rfl,hl,rs⟩:=DD J r e1
  have:fs.length=vs.toArray.size:=by rw [size_toArray,<- rs.length,c']
  rw [this]
  refine Fw hA hl λh' he=>?_
  obtain ⟨J',k⟩:=Inv.extBut J he
  exact hQ l vs h' (e3.trans e) c' J' k (rs.keeps k (prefix_refl _))
theorem LN {ts:List Expr}{fs:List (PV->M Unit)}{k:Nat}{pos:Pos}(hh:fm.hdl=none)(q:SimGs W n fm ts fs):SimG W n fm (.Tuple ts k pos) (aC fs):=.mk λA V ps s p v C J r ns=>by
 obtain ⟨p1,p2⟩:=q.plain fm.env
 rw [PyProof.Rows.assign_Tuple]
 refine bf (wpAny_standAt ?_)
 unfold unpack
 rw [p1,p2]
 refine bf (be (GT C hh J r ns λl vs h' e c J' k rs=>?_))
 rw [e] at ns ⊢
 refine aW (Sv C q l vs ps _ J' rs ns) (λU c0 z=>?_) λU U z=>z
 obtain ⟨o0,y0,Z4,Y3⟩:=z
 exact ⟨o0,y0,Z4,(Rel.of_keeps k).trans Y3 λa m q=>absurd m q⟩
theorem BU {ts:List Expr}{fs:List (PV->M Unit)}{k:Nat}{tpos pos:Pos}{v:Expr}{m:M PV}(hh:fm.hdl=none)(q:SimGs W n fm ts fs)(hv:SimE W n fm v m)
  (hs:∀ env,swapsWithSole [.Tuple ts k tpos] v pos.line env=pure false) (hw:∀ env,swappedStores [.Tuple ts k tpos] v env=pure none) :
  SimT W n fm (.Assign [.Tuple ts k tpos] v pos) (ac m λa=>ac (aC fs a) λU=>ae .next):=.mk λA V ps s C J ns=>by
 refine Assign_Tuple (Ai.seq (hv A V ps s C J (Ad ns)) (λa va α₁ o0 c0 Z4 l0 s0 ra y0=>?_) λx c0 q=>q.toS.bind) (hs _) (hw _)
 rw [Ab y0] at ns ⊢
 refine aW (LN hh q A α₁ o0 c0 a va C Z4 ra (Ad ns)) (λU z0 z=>?_) λU U z=>z.elim
 obtain ⟨Z1,W1,o5,y4⟩:=z
 rw [Ab W1]
 exact OkS.after ⟨.next,Z1,α₁,rfl,o5,.refl ..,y4,.next⟩ l0 s0.up
set_option backward.match.sparseCases true in
theorem H8 {t:Expr}{I:Addr}{v:Value}{o:Obj}{vs:Array Value}{c:String}(ho:s.heap.get? I=some o)(hd:o.data = .fields vs)(hc:o.cls = .type c)(hw:c∈Ct){Q:Unit->Shared->Prop}{E:Value->Shared->Prop}(h:Q () s):wpAny W.m A (letOwnedTupleGo t (.ref I) v) Q E s:=by
 have key:∀ a,(["enumerate", "zip", "dict_itemiterator", "dict_reverseitemiterator", "odict_iterator", "itertools.zip_longest", "itertools.pairwise"].contains c&&vs[0]?==some (rawInt a))=false:=λa=>by
  have:["enumerate", "zip", "dict_itemiterator", "dict_reverseitemiterator", "odict_iterator", "itertools.zip_longest", "itertools.pairwise"].contains c=false:=by
   simp only [Ct,mem_cons,List.not_mem_nil,or_false] at hw
   rcases hw with rfl | rfl | rfl | rfl <;> decide
  rw [this];rfl
 have go:∀ a,wpAny W.m A (do
   let o <- load I
   match o.cls,o.data with
   | .type n,.fields vs=>
    if ["enumerate", "zip", "dict_itemiterator", "dict_reverseitemiterator", "odict_iterator", "itertools.zip_longest", "itertools.pairwise"].contains n&&vs[0]?==some (rawInt a) then do
     rule "for.unpacks-the-owned-tuple"
     updateField I 0 .none
    else pure ()
   | _,_=>pure ():Sem Unit) Q E s:=λa=>by
  refine bf (wpAny_load ho ?_)
  rw [hc,hd]
  dsimp only
  rw [if_neg (by rw [key a];exact Bool.false_ne_true)]
  exact bg h
 have two:wpAny W.m A (letOwnedTupleGo (.Tuple [] default default) (.ref I) v) Q E s:=by cases v <;> first | exact bg h | exact go _
 cases t <;> first | exact bg h | exact two
theorem ItOk.notMem {get:Nat->M (Option PV)}{St:Nat->Heap->Prop}{k:Nat}(q:ItOk W fm V I get St)(F:FmOk W.h₀ fm)(J:InvS W fm α₁ ps s)(st:St k s.heap)(nav:I∉fm.av):I∉frs fm.stk/\I∉fm.own/\I∉α₁:=by
 refine ⟨λm=>nav (F.frsAv _ m),λm=>nav (F.ownAv _ m),λm=>?_⟩
 obtain ⟨o,vs,e,d,_⟩:=q.flds _ _ st
 obtain ⟨ws,o',e',_,k,d'⟩:=J.inv.lists.isList m
 rw [e] at e';cases e'
 rw [d] at d';cases d'
theorem ItOk.kept {get:Nat->M (Option PV)}{St:Nat->Heap->Prop}{k:Nat}(q:ItOk W fm w1 I get St)(F:FmOk W.h₀ fm)(J:InvS W fm α₁ ps s)(st:St k s.heap)(nav:I∉fm.av){own:List Addr}(ho:∀ b∈own,b∈fm.own)(R:Rel fm.stk own α₁ s.heap h'):St k h':=by
 obtain ⟨n1,n2,n3⟩:=q.notMem F J st nav
 exact q.stay k _ _ st λo e=>R.keep I o e n1 (λm=>n2 (ho _ m)) n3
theorem ItOk.turned {get:Nat->M (Option PV)}{St:Nat->Heap->Prop}{k:Nat}(q:ItOk W fm w1 I get St)(F:FmOk W.h₀ fm)(J:InvS W fm α₁ ps s)(st:St k s.heap)(nav:I∉fm.av)(nb:W.h₀.get? I=none)
  {tk:Nat} (kk:∀ b ob,b≠I->s.heap.get? b=some ob->h'.get? b=some ob):InvS W fm α₁ ps { s with heap:=h',toks:=tk }:=by
 obtain ⟨o,vs,e,d,hc⟩:=q.flds _ _ st
 refine ⟨J.inv.turn0 F (Turn0.one J.inv.frames ⟨o,vs,e,d,hc⟩ kk) (λb m mm=>?_) (λb m=>?_),J.gens,J.os⟩
 ·rw [mem_singleton.mp m] at mm;exact absurd mm nav
 ·rw [mem_singleton.mp m];exact nb
theorem DJ {t it:Expr}{b:List Stmt}{pos:Pos}{mi:M (Nat->M (Option PV))}{mt:PV->M Unit}{mb:M PFlow}(hh:fm.hdl=none)(hi:SimI W n fm it mi)(hg:SimG W n fm t mt)(hb:SimS W n fm b mb)(hs:∀ env x,foldedSetIterable it env x=pure x)(K:Nat) :
  SimT W n fm (.For t it b [] pos) (ac mi λget=>aG get mt mb K 0):=.mk λA V ps s C J ns=>by
 have hs0:=J.none
 have hA:A.handled=none:=C.hdl.trans hh
 refine wpAny_For (aW (hi A V ps s C J (Ad ns)) (λx c0 z=>aW z (λiv z0 z=>?_) λx z0 z=>z.toS.bind) λx z0 z=>z.toS.bind) (hs _)
 obtain ⟨get,Z1,Y0,I,St,W1,rfl,o5,W0,X0,fresh,nav,it,st⟩:=z
 have nb:W.h₀.get? I=none:=hs0 _ fresh
 rw [Ab W1] at ns ⊢
 generalize hR:aG get mt mb K 0 Z1=R0 at ns ⊢
 refine codeAny_mono (R:=IY W fm V s.heap R0) ?_ λr s' q=>?_
 ·refine codeAny_forLoop_any (λk s'=>∃ j ps' α',R0=aG get mt mb k j ps'/\InvS W fm α' ps' s'/\Grow V α' s.heap/\Rel fm.stk fm.own V s.heap s'.heap/\Y0 <+: α'/\St j s'.heap) ?_ K ⟨0,Z1,Y0,hR.symm,o5,W0,X0.up,prefix_refl _,st⟩
  rintro k c0 ⟨j,o0,α₁,y0,Z4,l0,s0,b7,e7⟩
  cases k with
  | zero=>exact absurd y0 ns
  | succ k=>
   have eq:R0=ac (get j) (λo=>match o with
    | none=>ae .next
    | some p=>ac (mt p) λU=>ac mb λfl=>match fl with
     | .next=>aG get mt mb k (j+1)
     | .cont=>aG get mt mb k (j+1)
     | .brk=>ae .next
     | .ret v=>ae (.ret v)) o0:=y0
   refine it.next fm A α₁ o0 c0 j _ _ hA b7 C.fm Z4 e7 (Ad (eq▸ns)) λo r h' tk eo kk rr=>?_
   rw [Ab eo] at eq
   have J1':InvS W fm α₁ o0 { c0 with heap:=h',toks:=tk }:=it.turned C.fm Z4 e7 nav nb kk
   have x1':Rel fm.stk fm.own V s.heap h':=by
    obtain ⟨ob,vs,eI,dI,hcl⟩:=it.flds _ _ e7
    exact s0.turn0 (Turn0.one Z4.inv.frames ⟨ob,vs,eI,dI,hcl⟩ kk) λb m=>by rw [mem_singleton.mp m];exact fresh
   cases o with
   | none=>
    cases r with
    | some _=>exact rr.elim
    | none=>exact wpAny_execs_nil ⟨.next,o0,α₁,eq,J1',l0,x1',.next⟩
   | some p=>
    cases r with
    | none=>exact rr.elim
    | some v=>
    obtain ⟨rp,st2⟩:=rr
    obtain ⟨ob,vs,eI,dI,c,hc,hw⟩:=it.flds _ _ st2
    refine H8 (s:={ c0 with heap:=h',toks:=tk }) eI dI hc hw ?_
    have eq2:R0=ac (mt p) (λU=>ac mb λfl=>match fl with
     | .next=>aG get mt mb k (j+1)
     | .cont=>aG get mt mb k (j+1)
     | .brk=>ae .next
     | .ret v=>ae (.ret v)) o0:=eq
    refine aW (hg A α₁ o0 { c0 with heap:=h',toks:=tk } p v C J1' rp (Ad (eq2▸ns))) (λU v3 z=>?_) λU U z=>z.elim
    obtain ⟨w4,Z3,w7,v4⟩:=z
    rw [Ab Z3] at eq2
    have st3:St (j+1) v3.heap:=it.kept C.fm J1' st2 nav (λU q=>q) v4
    have x3:Rel fm.stk fm.own V s.heap v3.heap:=x1'.trans v4 l0.new
    refine aW (hb A α₁ w4 v3 C w7 (Ad (eq2▸ns))) (λf X4 z=>?_) λx X4 z=>EW C hs0 (ExS.after (eq2▸z.bind) l0 x3)
    obtain ⟨f,w5,y5,f7,w6,u5,z5,rf⟩:=z
    rw [Ab f7] at eq2
    have g4:=l0.trans u5 x3
    have x4:=x3.trans z5 l0.new
    have st4:St (j+1) X4.heap:=it.kept C.fm w7 st3 nav (λU q=>q) z5
    cases rf with
    | next=>exact ⟨k,bp k,j+1,w5,y5,eq2,w6,g4,x4,b7.trans u5.pre,st4⟩
    | cont=>exact ⟨k,bp k,j+1,w5,y5,eq2,w6,g4,x4,b7.trans u5.pre,st4⟩
    | brk=>exact ⟨.next,w5,y5,eq2,w6,g4,x4,.next⟩
    | ret r=>exact ⟨.ret _,w5,y5,eq2,w6,g4,x4,.ret r⟩
 ·cases r with
  | ok f=>exact q
  | error x=>exact Gv C hs0 q
end
structure Fi where
 scope:Scope
 body:List Stmt
 params:List Str
 sc:List (Str × NameKind × Nat)
structure Fi.Ok (fi:Fi):Prop where
 kind:fi.scope.kind = .function
 co:fi.scope.isCoroutine=false
 gen:fi.scope.isGenerator=false
 kinds:∀ x k i,(x,k,i)∈fi.sc->fi.scope.names.lookup x=some k
 once:∀ x k i y k' j,(x,k,i)∈fi.sc->(y,k',j)∈fi.sc->(i=j↔x=y)
 nodup:fi.params.Nodup
 parK:∀ p∈fi.params,fi.scope.names.lookup p=some .local\/fi.scope.names.lookup p=some .cell
 parI:∀ x k i,(x,k,i)∈fi.sc->k = .local\/k = .cell->∀ j,fi.params[j]? = some x↔(i=j/\j<fi.params.length)
 noFree:∀ x k i,(x,k,i)∈fi.sc->k≠.free
structure FnAt (h:Heap)(a:Addr)(fd:FuncData)(fi:Fi):Prop where
 obj:∃ o,h.get? a=some o/\o.data = .func fd
 scope:fd.scope=fi.scope
 body:fd.body = .stmts fi.body
 clo:fd.closure=[]
 glob:fd.globals=mainGlobals
 bi:fd.builtins=builtinsNs
 code:h.CodeRec fd.code fd.qualname
section
variable {W:Wd}{fm:Fm}{V α' α₁ w1:List Addr}{h h' h₁ start:Heap}{n:Nat}{A:Around}{ps ps':PS}{s s':Shared}{H:Hd}{h₀:Heap}{own av av':List Addr}{e:PX}{x:Value}{I:Addr}
theorem Kd (k:∀ a∈av,a∈av'):(∀ {p:PV} {v:Value},RepV H h₀ av' V h p v->RepV H h₀ av V h p v)/\∀ {l:List PV} {vs:List Value},RepL H h₀ av' V h l vs->RepL H h₀ av V h l vs:=
 Dn (λa vs ha hi=>⟨λq=>ha (k _ q),hi⟩) (λi a hi=>hi) λa o es ep ha ho hx hd=>⟨λq=>ha (k _ q),ho⟩
theorem RepV.weak (k:∀ a∈av,a∈av'){p:PV}{v:Value}(x:RepV H h₀ av' V h p v):RepV H h₀ av V h p v:=(Kd k).1 x
theorem RepL.weak (k:∀ a∈av,a∈av'){l:List PV}{vs:List Value}(x:RepL H h₀ av' V h l vs):RepL H h₀ av V h l vs:=(Kd k).2 x
theorem GU (k:∀ a∈av',a∈av\/h.get? a=Option.none):(∀ {p:PV} {v:Value},RepV H h₀ av V h p v->RepV H h₀ av' V h p v)/\∀ {l:List PV} {vs:List Value},RepL H h₀ av V h l vs->RepL H h₀ av' V h l vs:=by
 have k':∀ a o,a∉av->h.get? a=some o->a∉av':=λa o ha e q=>(k a q).elim ha λz=>nomatch z.symm.trans e
 exact Dn (λa vs ha hi=>⟨k' a _ ha hi.choose_spec.1,hi⟩) (λi a hi=>hi) λa o es ep ha ho hx hd=>⟨k' a o ha ho,ho⟩
theorem RepV.strong (k:∀ a∈av',a∈av\/h.get? a=Option.none){p:PV}{v:Value}(x:RepV H h₀ av V h p v):RepV H h₀ av' V h p v:=(GU k).1 x
theorem RepL.strong (k:∀ a∈av',a∈av\/h.get? a=none){l:List PV}{vs:List Value}(x:RepL H h₀ av V h l vs):RepL H h₀ av' V h l vs:=(GU k).2 x
theorem Inv.carry (F:FmOk h₀ fm)(I:Inv H h₀ fm V ps h)(R:Rel fm.stk fm.tab V h h'){st':List (List PV)}(L':ListsAt H h₀ fm.av α' st' h')(g:Grow V α' h)(fr:h'.FunFrames ⟨#[],{}⟩ fm.stk)(tb:∀ P∈fm.tab,Ch H h' P):Inv H h₀ fm α' ⟨ps.loc,st'⟩ h':=by
 have rep:=λ{p v}=>OptRep.stays (H:=H) (h₀:=h₀) (p:=p) (v:=v) I.lists R g.pre F.frsAv F.tabAv
 have at_:∀ b o,b∈fm.av->b∉fm.tab->h.get? b=some o->∃ sl,h'.get? b=some { o with slots:=sl }:=λb o m nt e=>by
  by_cases q:b∈frs fm.stk
  ·exact R.slot b o e q nt λz=>I.lists.apart b z m
  ·exact ⟨o.slots,R.keep b o e q nt λz=>I.lists.apart b z m⟩
 have nt:∀ b o,h.get? b=some o->(∀ vs,o.data≠.fields vs)->b∉fm.tab:=λb o e n m=>by
  obtain ⟨ps,e',_⟩:=I.tabs b m
  rw [e] at e';cases e';exact n ps rfl
 refine ⟨λb o e=>R.keep b o (I.base b o e) (λm=>?_) (λm=>?_) (λm=>?_),?_,?_,L',?_,fr,tb⟩
 ·rw [F.fresh b (F.frsAv b m)] at e;cases e
 ·rw [F.fresh b (F.tabAv b m)] at e;cases e
 ·rw [I.lists.fresh b m] at e;cases e
 ·obtain ⟨m,⟨o,es,ep,h1,h2,h3⟩,k⟩:=I.loc
  obtain ⟨sl,e⟩:=at_ _ _ F.locAv (nt _ _ h1 λvs q=>by rw [h2] at q;cases q) h1
  exact ⟨m,⟨_,es,ep,e,h2,h3⟩,λx i hm=>rep (k x i hm)⟩
 ·intro x k i hm hk
  obtain ⟨cc,v,h1,h2,h3,⟨o,e1,e2⟩,h5⟩:=I.cel x k i hm hk
  obtain ⟨sl,e⟩:=at_ _ _ h2 (nt _ _ e1 λvs q=>by rw [e2] at q;cases q) e1
  exact ⟨cc,v,h1,h2,h3,⟨_,e,e2⟩,rep h5⟩
 ·intro a ha
  have:=I.live a ha
  cases q:h.get? a with
  | none=>rw [q] at this;cases this
  | some o=>
   by_cases z:a∈fm.tab
   ·obtain ⟨ps,e,_⟩:=tb a z
    rw [e];rfl
   ·obtain ⟨sl,e⟩:=at_ a o ha z q;rw [e];rfl
theorem Kf {B:List (Str × Value)->(Str->Option Value)->Str->Option Value}{x:Str}(h0:∀ m,B [] m x=m x)(h1:∀ p v r m,∃ m',B ((p,v)::r) m x=B r m' x/\m' x=if p=x then some v else m x):∀ (ps:List Str) (vs:List Value) (m:Str->Option Value),ps.Nodup->ps.length=vs.length->∀ (i:Nat) (b:Bool),(∀ j,ps[j]? = some x↔(i=j/\b=true)) ->
  B (ps.zip vs) m x=if b then vs[i]? else m x:=by
 intro ps
 induction ps with
 | nil=>
  intro vs m _ _ i b hi
  cases b with
  | false=>exact h0 m
  | true=>have:=(hi i).mpr ⟨rfl,rfl⟩;injection this
 | cons p ps ih=>
  intro vs m nd hl i b hi
  cases vs with
  | nil=>injection hl
  | cons v vs=>
   have nd':=nodup_cons.mp nd
   have hl:=Nat.succ.inj hl
   obtain ⟨m',e,em⟩:=h1 p v (ps.zip vs) m
   refine Eq.trans e ?_
   by_cases q:p=x
   ·subst q
    obtain ⟨rfl,rfl⟩:=(hi 0).mp rfl
    rw [ih vs m' nd'.2 hl 0 false λj=>⟨λe=>absurd (mem_of_getElem? e) nd'.1,λe=>(by have:=e.2;cases this)⟩]
    exact em.trans (if_pos rfl)
   ·rw [if_neg q] at em
    cases b with
    | false=>
     rw [ih vs m' nd'.2 hl i false λj=>⟨λe=>(by have:=((hi (j+1)).mp e).2;cases this),λe=>(by have:=e.2;cases this)⟩]
     exact em
    | true=>
     cases i with
     | zero=>exact absurd (aT ((hi 0).mpr ⟨rfl,rfl⟩)) q
     | succ i=>exact ih vs m' nd'.2 hl i true λj=>⟨λe=>⟨Nat.succ.inj ((hi (j+1)).mp e).1,rfl⟩,λe=>(hi (j+1)).mpr ⟨congrArg Nat.succ e.1,rfl⟩⟩
theorem Oo (kindOf:Str->Option NameKind){x:Str}(hx:kindOf x=some .local):∀ (ps:List Str) (vs:List Value) (m:Str->Option Value),ps.Nodup->ps.length=vs.length->∀ (i:Nat) (b:Bool),(∀ j,ps[j]? = some x↔(i=j/\b=true)) ->
  bindL kindOf (ps.zip vs) m x=if b then vs[i]? else m x:=
 Kf (B:=bindL kindOf) (λU=>rfl) λp v r m=>⟨_,rfl,by
  by_cases q:p=x
  ·subst q;rw [if_pos hx,if_pos rfl]
  ·rw [if_neg q];split
   ·exact if_neg (Ne.symm q)
   ·rfl⟩
theorem Op (kindOf:Str->Option NameKind){x:Str}(hx:kindOf x≠some .local):∀ (ps:List Str) (vs:List Value) (m:Str->Option Value),ps.Nodup->ps.length=vs.length->∀ (i:Nat) (b:Bool),(∀ j,ps[j]? = some x↔(i=j/\b=true)) ->
  bindC kindOf (ps.zip vs) m x=if b then vs[i]? else m x:=
 Kf (B:=bindC kindOf) (λU=>rfl) λp v r m=>⟨_,rfl,by
  by_cases q:p=x
  ·subst q;rw [if_neg hx,if_pos rfl]
  ·rw [if_neg q];split
   ·rfl
   ·exact if_neg (Ne.symm q)⟩
set_option tactic.hygienic true in
theorem Cb {x:Str}(names:List (Str × NameKind)):∀ (k:Nat) (acc:List (Str × Addr)),names.lookup x=some .cell\/(acc.lookup x).isSome=true->((cellsFrom k names acc).lookup x).isSome=true:=by
 induction names with
 | nil=>
  intro k acc h
  rcases h with h | h
  ·cases h
  ·exact h
 | cons p r ih=>
  obtain ⟨y,kd⟩:=p
  intro k acc h
  unfold cellsFrom
  split
  ·refine ih _ _ ?_
   by_cases q:x=y
   ·subst q;right;simp
   ·rcases h with h | h
    ·left;rw [lookup_cons,show (x==y)=false from by simpa using q] at h;exact h
    ·right;rw [lookup_cons,show (x==y)=false from by simpa using q];exact h
  ·rename_i nk
   refine ih _ _ ?_
   by_cases q:x=y
   ·subst q
    rcases h with h | h
    ·simp at h;exact absurd (by rw [h];rfl) nk
    ·exact .inr h
   ·rcases h with h | h
    ·left;rw [lookup_cons,show (x==y)=false from by simpa using q] at h;exact h
    ·exact .inr h
end
def Bj (fd:FuncData)(fi:Fi)(L a:Addr):Env:=newEnv fi.scope L mainGlobals (cellsFrom (L+1) fi.scope.names []) (fd.qualname++".<locals>.") (some a) fd.code none builtinsNs
def D4 (cs:List (Str × Addr)):List Addr:=cs.filterMap λp=>cs.lookup p.1
theorem Cc {cs:List (Str × Addr)}{c:Addr}:c∈D4 cs↔∃ y,cs.lookup y=some c:=by
 unfold D4
 rw [List.mem_filterMap]
 constructor
 ·rintro ⟨p,_,e⟩;exact ⟨p.1,e⟩
 ·rintro ⟨y,e⟩;exact ⟨(y,c),mem_of_lookup e,e⟩
def AN (fm:Fm)(fd:FuncData)(fi:Fi)(L a:Addr):Fm:=
 { env:=Bj fd fi L a,stk:=Bj fd fi L a::fm.stk,av:=L::D4 (cellsFrom (L+1) fi.scope.names [])++fm.av,own0:=L::D4 (cellsFrom (L+1) fi.scope.names []),tab:=fm.tab,sc:=fi.sc,hdl:=fm.hdl }
section
variable {W:Wd}{fm:Fm}{V α' α₁ w1:List Addr}{h h' h₁ start:Heap}{n:Nat}{A:Around}{ps ps':PS}{s s' c0:Shared}{H:Hd}{h₀:Heap}{own av av':List Addr}{e:PX}{x:Value}{fd:FuncData}{fi:Fi}{a:Addr}{vs:List Value}{l:List PV}
theorem InvS.free (I:InvS W fm V ps s){c:Addr}(hc:s.heap.objs.size<=c):s.heap.get? c=Option.none/\W.h₀.get? c=Option.none/\c∉fm.av:=by
 have h1:s.heap.get? c=Option.none:=Heap.get?_none_of_le hc
 refine ⟨h1,I.none c h1,λm=>?_⟩
 have:=I.inv.live c m
 rw [h1] at this;cases this
theorem Fx (X:InCallC s s.heap.objs.size m (cellsFrom (s.heap.objs.size+1) fi.scope.names []) cm c0):∀ b∈(AN fm fd fi s.heap.objs.size a).own0,s.heap.objs.size<=b:=by
 intro b hb
 rcases mem_cons.mp hb with q | q
 ·rw [q];exact aR _
 ·obtain ⟨y,hy⟩:=Cc.mp q
  exact br (X.above y b (mem_of_lookup hy))
theorem GV (t1:∀ b∈fm.tab,b∈fm.av)(t2:∀ b∈frs fm.stk,b∈fm.av)(t3:∀ b∈fm.av,W.h₀.get? b=none)(I:InvS W fm V ps s)(ok:fi.Ok)
  (X:InCallC s s.heap.objs.size m (cellsFrom (s.heap.objs.size+1) fi.scope.names []) cm c0):FmOk W.h₀ (AN fm fd fi s.heap.objs.size a) where
 kind:=ok.kind
 glob:=rfl
 bi:=rfl
 locAv:=mem_cons_self ..
 locOwn:=mem_append_right _ (mem_cons_self ..)
 ownAv:=λb m=>by
  rcases mem_append.mp m with m | m
  ·exact mem_append_right _ (t1 b m)
  ·exact mem_append_left _ m
 frsAv:=λb m=>by
  rcases mem_cons.mp (show b∈s.heap.objs.size::frs fm.stk from m) with q | q
  ·rw [q];exact mem_append_left _ (mem_cons_self ..)
  ·exact mem_append_right _ (t2 b q)
 fresh:=λb m=>by
  rcases mem_append.mp m with q | q
  ·exact (I.free (Fx (fm:=fm) (fd:=fd) (a:=a) X b q)).2.1
  ·exact t3 b q
 kinds:=λx k i h=>.inl (ok.kinds x k i h)
 once:=ok.once
 cellOwn:=λx i c hm hc=>mem_append_right _ (mem_cons_of_mem _ (Cc.mpr ⟨x,hc⟩))
 cellApart:=λx k i y k' j c h1 h2 h3 h4=>name_of_addr X.apart (mem_of_lookup h3) (mem_of_lookup h4)
 frame:=⟨_,_,rfl,rfl,rfl⟩
theorem H9 (F:FmOk W.h₀ fm)(I:InvS W fm V ps s)(ok:fi.Ok)
  (X:InCallC s s.heap.objs.size m (cellsFrom (s.heap.objs.size+1) fi.scope.names []) cm c0):FmOk W.h₀ (AN fm fd fi s.heap.objs.size a):=GV F.tabAv F.frsAv F.fresh I ok X
theorem Eu (I:InvS W fm V ps s)(ok:fi.Ok)(hl:fi.params.length=vs.length)(rl:RepL W.H W.h₀ fm.av V s.heap l vs)
  (X:InCallC s s.heap.objs.size (bindL (Bj fd fi s.heap.objs.size a).kindOf (fi.params.zip vs) λU=>none) (cellsFrom (s.heap.objs.size+1) fi.scope.names []) (bindC (Bj fd fi s.heap.objs.size a).kindOf (fi.params.zip vs) λU=>none) c0) :
  InvS W (AN fm fd fi s.heap.objs.size a) V ⟨λi=>l[i]?,ps.st⟩ c0:=by
 have kp:=X.toInCall.keep
 obtain ⟨W2,tk,rfl⟩:=X.toInCall.same
 have fr:∀ b∈(AN fm fd fi s.heap.objs.size a).av,b∈fm.av\/s.heap.get? b=none:=λb m=>by
  rcases mem_append.mp m with q | q
  ·exact .inr (I.free (Fx (fm:=fm) (fd:=fd) (a:=a) X b q)).1
  ·exact .inl q
 have rl':RepL W.H W.h₀ (AN fm fd fi s.heap.objs.size a).av V W2 l vs:=(rl.strong fr).keeps kp (prefix_refl _)
 have arg:∀ i:Nat,OptRep W.H W.h₀ (AN fm fd fi s.heap.objs.size a).av V W2 (l[i]?) (vs[i]?):=λ(i:Nat)=>by
  cases q:(l[i]?) with
  | none=>
   rw [List.getElem?_eq_none_iff] at q
   rw [List.getElem?_eq_none_iff.mpr (by rw [<- rl.length];exact q)];exact .none
  | some p=>obtain ⟨v,hv,r⟩:=rl'.get i p q;rw [hv];exact .some r
 have argN:∀ i:Nat,¬ i<fi.params.length->l[i]? = none:=λ(i:Nat) q=>bq.mpr (by rw [rl.length,<- hl];exact la [_,_] [([2],[4])] ([2],[4]) rfl (Nat.not_lt.mp q))
 have par:∀ x k i,(x,k,i)∈fi.sc->k = .local\/k = .cell->∀ j,fi.params[j]? = some x↔(i=j/\decide (i<fi.params.length)=true):=λx k i hm hk j=>by
  rw [ok.parI x k i hm hk j]
  constructor
  ·rintro ⟨rfl,q⟩;exact ⟨rfl,by simpa using q⟩
  ·rintro ⟨rfl,q⟩;exact ⟨rfl,by simpa using q⟩
 refine ⟨⟨λb o e=>kp b o (I.inv.base b o e),⟨_,X.toInCall.ns,λx i hm=>?_⟩,λx k i hm hk=>?_,⟨I.inv.lists.len,λi li e=>?_,I.inv.lists.nodup,I.inv.lists.fresh,λb m q=>?_⟩,λb m=>?_,?_,λP hP=>(I.inv.tabs P hP).keeps kp⟩,I.gens,I.os⟩
 ·rw [Oo _ (ok.kinds x _ i hm) _ _ _ ok.nodup hl i (decide (i<fi.params.length)) (par x _ i hm (.inl rfl))]
  show OptRep _ _ _ _ _ l[i]? _
  by_cases q:i<fi.params.length
  ·simp only [q,decide_true,if_true];exact arg i
  ·simp only [q,decide_false,false_eq_true,if_false];rw [argN i q];exact .none
 ·have hk:k = .cell:=hk.resolve_right (ok.noFree x k i hm)
  subst hk
  obtain ⟨c,hc⟩:=aZ.mp (Cb (x:=x) fi.scope.names (s.heap.objs.size+1) [] (.inl (ok.kinds x _ i hm)))
  have kd:(Bj fd fi s.heap.objs.size a).kindOf x≠some .local:=by
   show fi.scope.names.lookup x≠_
   rw [ok.kinds x _ i hm];decide
  refine ⟨c,_,hc,mem_append_left _ (mem_cons_of_mem _ (Cc.mpr ⟨x,hc⟩)),Nat.ne_of_gt (X.above x c (mem_of_lookup hc)),X.cell x c hc,?_⟩
  rw [Op _ kd _ _ _ ok.nodup hl i (decide (i<fi.params.length)) (par x _ i hm (.inr rfl))]
  show OptRep _ _ _ _ _ l[i]? _
  by_cases q:i<fi.params.length
  ·simp only [q,decide_true,if_true];exact arg i
  ·simp only [q,decide_false,false_eq_true,if_false];rw [argN i q];exact .none
 ·obtain ⟨b,ws,h1,⟨k,e1⟩,h3⟩:=I.inv.lists.at_ i li e
  exact ⟨b,ws,h1,⟨k,kp _ _ e1⟩,(h3.strong fr).keeps kp (prefix_refl _)⟩
 ·obtain ⟨ws,o,e1,_⟩:=I.inv.lists.isList m
  rcases fr b q with z | z
  ·exact I.inv.lists.apart b m z
  ·rw [z] at e1;cases e1
 ·rcases mem_append.mp m with q | q
  ·rcases mem_cons.mp q with q | q
   ·obtain ⟨o,es,ep,e1,_⟩:=X.toInCall.ns
    rw [q,e1];rfl
   ·obtain ⟨y,hy⟩:=Cc.mp q
    obtain ⟨o,e1,_⟩:=X.cell y b hy
    rw [e1];rfl
  ·have:=I.inv.live b q
   cases z:s.heap.get? b with
   | none=>rw [z] at this;cases this
   | some o=>rw [kp b o z];rfl
 ·obtain ⟨o,es,ep,e1,e2,_⟩:=X.toInCall.ns
  refine ⟨by show fi.scope.kind≠_;rw [ok.kind];decide,⟨_,o,rfl,rfl,e1,λvs q=>by rw [e2] at q;cases q⟩,?_⟩
  exact I.inv.frames.of_keeps λb o e U=>⟨o,kp b o e,rfl⟩
theorem CP (F:FmOk W.h₀ fm)(I:InvS W fm V ps s)(X:InCallC s s.heap.objs.size m (cellsFrom (s.heap.objs.size+1) fi.scope.names []) cm c0)
  (I1:InvS W (AN fm fd fi s.heap.objs.size a) α' ps' s') (g:Grow V α' c0.heap) (R:Rel (AN fm fd fi s.heap.objs.size a).stk (AN fm fd fi s.heap.objs.size a).own V c0.heap s'.heap) :
  InvS W fm α' ⟨ps.loc,ps'.st⟩ s'/\Grow V α' s.heap/\Rel fm.stk fm.tab V s.heap s'.heap:=by
 have kp:=X.toInCall.keep
 have av:∀ b,b∈fm.av->b∈(AN fm fd fi s.heap.objs.size a).av:=λb m=>mem_append_right _ m
 have nown:∀ b o,s.heap.get? b=some o->b∉fm.tab->b∉(AN fm fd fi s.heap.objs.size a).own:=λb o e nt m=>by
  have m:=(mem_append.mp m).resolve_left nt
  have:=(I.free (Fx (fm:=fm) (fd:=fd) (a:=a) X b m)).1
  rw [this] at e;cases e
 have none':∀ b,c0.heap.get? b=none->s.heap.get? b=none:=λb e=>by
  cases q:s.heap.get? b with
  | none=>rfl
  | some o=>rw [kp b o q] at e;cases e
 have nL:∀ b o,s.heap.get? b=some o->b≠s.heap.objs.size:=λb o e q=>by rw [q,Az] at e;cases e
 have Rr:Rel fm.stk fm.tab V s.heap s'.heap:=by
  refine ⟨λb o e h1 h2 h3=>R.keep b o (kp b o e) (λm=>?_) (nown b o e h2) h3,λb o e h1 h2 h3=>R.slot b o (kp b o e) (mem_cons_of_mem _ h1) (nown b o e h2) h3,λb e=>none' b (R.live b e)⟩
  rcases mem_cons.mp (show b∈s.heap.objs.size::frs fm.stk from m) with q | q
  ·exact nL b o e q
  ·exact h1 q
 have g':Grow V α' s.heap:=⟨g.pre,λb m q=>none' b (g.new b m q)⟩
 refine ⟨⟨I.inv.carry F Rr ⟨I1.inv.lists.len,λi li e=>?_,I1.inv.lists.nodup,I1.inv.lists.fresh,λb m q=>I1.inv.lists.apart b m (av b q)⟩ g' I1.inv.frames.2.2 I1.inv.tabs,I1.gens,I1.os⟩,g',Rr⟩
 obtain ⟨b,ws,h1,h2,h3⟩:=I1.inv.lists.at_ i li e
 exact ⟨b,ws,h1,h2,h3.weak av⟩
theorem Sw {m:M PFlow}(h:m ⟨λi=>l[i]?,ps.st⟩ = .ok f ps'):am m l ps = .ok (Of f) ⟨ps.loc,ps'.st⟩:=by
 unfold am;rw [h]
theorem Sx {m:M PFlow}(h:m ⟨λi=>l[i]?,ps.st⟩ = .ex e ps'):am m l ps = .ex e ⟨ps.loc,ps'.st⟩:=by
 unfold am;rw [h]
theorem Sy {m:M PFlow}(h:am m l ps≠.stuck):m ⟨λi=>l[i]?,ps.st⟩≠.stuck:=by
 intro e;unfold am at h;rw [e] at h;exact h rfl
theorem IZ {m:M PFlow}{pos:List Value}{kw:List (Str × Value)}(C:Ctx W fm (n+1) A)(I:InvS W fm V ps s)(Fa:FnAt s.heap a fd fi)(ok:fi.Ok)(hb:BindsTo s fd ⟨pos,kw⟩ (fi.params.zip vs))(hl:fi.params.length=vs.length)
  (rl:RepL W.H W.h₀ fm.av V s.heap l vs) (body:∀ fm':Fm,fm'.sc=fi.sc->fm'.env.scope=fi.scope->fm'.hdl=fm.hdl->SimS W n fm' fi.body m) (ns:am m l ps≠.stuck) :
  Ai W fm A V ps s (call (.ref a) pos kw) (am m l):=by
 obtain ⟨⟨o,ho,hd⟩,hscope,hbody,hclo,hglob,hbi,hcode⟩:=Fa
 have lim:s.heap.NoLimit:=C.hd.lim.keeps I.inv.base
 have hdep:=C.depth
 refine wpAny_call (codeAny_call_function (by show A.depth<1000;exact la [_,_] [([2,4,3,0,0,3,0],[1981])] ([2,3,0],[2001]) rfl hdep) ho hd (by rw [hscope];exact ok.co) (by rw [hscope];exact ok.gen) hbody hcode (hb _ _ _ _ ?_))
 rw [hscope,hglob,hclo,hbi]
 refine wpAny_newFunctionEnv_cells ok.kind (λp hp=>?_) λenv he c0 X=>?_
 ·have hm:p.1∈fi.params:=(of_mem_zip (show (p.1,p.2)∈fi.params.zip vs from hp)).1
  rcases ok.parK p.1 hm with q | q
  ·exact .inl q
  ·exact .inr ⟨q,Cb _ _ _ (.inl q)⟩
 ·have he':env=Bj fd fi s.heap.objs.size a:=he
  subst he'
  refine ⟨lim.keeps X.toInCall.keep,codeAny_func ?_⟩
  have F':=H9 (fd:=fd) (a:=a) C.fm I ok X
  have I':=Eu (fd:=fd) (a:=a) (ps:=ps) I ok hl rl X
  have C':Ctx W (AN fm fd fi s.heap.objs.size a) n (A.deeper (Bj fd fi s.heap.objs.size a)):=by
   refine ⟨Around.frames_deeper C.frames,?_,?_,C.hdl,C.tab,F',C.hd⟩
   ·show A.depth+1+n<990;exact la [_,_] [([2,4,3,0,0,3,0],[1981])] ([2,3,0,4,0,3,0],[1981]) rfl hdep
   ·have:=C.units
    show A.units+3+20*n+1000<cLine;lia
  have ns':=Sy ns
  refine aW (body (AN fm fd fi s.heap.objs.size a) rfl rfl rfl _ V _ c0 C' I' ns') (λf s' z=>?_) λx s' z=>?_
  ·obtain ⟨p,o0,α₁,y0,u0,l0,Y3,rf⟩:=z
   obtain ⟨J,g,R⟩:=CP C.fm I X u0 l0 Y3
   refine ⟨Of p,_,α₁,Sw y0,J,g,R,?_⟩
   have av:∀ b,b∈fm.av->b∈(AN fm fd fi s.heap.objs.size a).av:=λb m=>mem_append_right _ m
   cases rf with
   | next=>exact .none
   | brk=>exact .none
   | cont=>exact .none
   | ret r=>exact RepV.weak av r
  ·obtain ⟨e,o0,α₁,y0,u0,l0,Y3,i6⟩:=z
   have hs0:=I'.none
   unfold leaving
   refine bf (Gu C' u0 Y3 hs0 i6 λW2 Y1 y4 j6=>Cz C' Y1 y4 hs0 j6 _ λw3 Y2 v4 i5=>?_)
   obtain ⟨J,g,R⟩:=CP C.fm I X Y2 l0 v4
   refine ⟨e,_,α₁,Sx y0,J,g,R,i5.raised.start λb q=>?_⟩
   cases z:s.heap.get? b with
   | none=>rfl
   | some o=>rw [X.toInCall.keep b o z] at q;cases q
end
inductive SimKw (W:Wd)(n:Nat)(fm:Fm):List Keyword->List (M PV)->Prop
 | nil:SimKw W n fm [] []
 | cons {nm:Str} {e:Expr} {p:Pos} {m:M PV} {ks:List Keyword} {ms:List (M PV)} (x:SimE W n fm e m) (t:SimKw W n fm ks ms):SimKw W n fm (⟨some nm,e,p⟩::ks) (m::ms)
def Dq (ks:List Keyword):List Str:=ks.filterMap (·.arg)
section
variable {W:Wd}{fm:Fm}{V α' α₁ w1:List Addr}{h h' h₁ start:Heap}{n:Nat}{A:Around}{ps ps':PS}{s s' c0:Shared}{H:Hd}{h₀:Heap}{own av av':List Addr}{e:PX}{x:Value}{fd:FuncData}{fi:Fi}{a:Addr}{vs:List Value}{l:List PV}
theorem FnAt.keeps (F:FnAt h a fd fi)(k:∀ b o,h.get? b=some o->h'.get? b=some o):FnAt h' a fd fi:=
 ⟨let ⟨o,e,d⟩:=F.obj;⟨o,k _ _ e,d⟩,F.scope,F.body,F.clo,F.glob,F.bi,F.code.keeps k⟩
theorem EX:∀ {ms:List (M PV)} {ps:PS} {l:List PV} {ps':PS},ag ms ps = .ok l ps'->l.length=ms.length:=by
 intro ms
 induction ms with
 | nil=>
  intro ps l ps' e
  have:R.ok ([]:List PV) ps = .ok l ps':=e
  cases this;rfl
 | cons m ms ih=>
  intro ps l ps' e
  have e':ac m (λv=>ac (ag ms) λvs=>ae (v::vs)) ps = .ok l ps':=e
  unfold ac at e'
  cases q:m ps with
  | ok v p1=>
   rw [q] at e'
   simp only at e'
   cases q2:ag ms p1 with
   | ok vs p2=>
    rw [q2] at e'
    have:R.ok (v::vs) p2 = .ok l ps':=e'
    cases this
    simp [ih q2]
   | ex e p2=>rw [q2] at e';cases e'
   | stuck=>rw [q2] at e';cases e'
  | ex e p1=>rw [q] at e';cases e'
  | stuck=>rw [q] at e';cases e'
theorem SimKw.some:∀ {ks:List Keyword} {ms:List (M PV)},SimKw W n fm ks ms->∀ pos env,(backToKw pos (keywordEach ks env)).all (·.1.isSome)=true/\(backToKw pos (keywordEach ks env)).filterMap (·.1)=Dq ks/\ks.length=ms.length/\(Dq ks).length=ms.length:=by
 intro _ _ hS
 induction hS with
 | nil=>
  intro pos env
  exact ⟨rfl,rfl,rfl,rfl⟩
 | @cons nm e p m ks ms x t ih=>
  intro pos env
  obtain ⟨h1,h2,h3,h4⟩:=ih pos env
  refine ⟨?_,?_,by simp [h3],by simp [Dq] at h4 ⊢;exact h4⟩
  ·show ((_::backToKw pos (keywordEach ks env)).all _)=true
   rw [all_cons,h1];rfl
  ·show List.filterMap _ (_::backToKw pos (keywordEach ks env))=_
   rw [filterMap_cons,h2];rfl
theorem LO {pos:Pos}:∀ {ks:List Keyword} {ms:List (M PV)},SimKw W n fm ks ms->∀ A V ps s,Ctx W fm n A->InvS W fm V ps s->ag ms ps≠.stuck ->
  wpAny W.m A (evalAll ((backToKw pos (keywordEach ks fm.env)).map (·.2))) (OkL W fm V s.heap (ag ms ps)) (ExE W fm V s.heap (ag ms ps)) s:=by
 intro _ _ hS
 induction hS with
 | nil=>
  intro A V ps s C I ns
  exact wpAny_evalAll_nil ⟨[],ps,V,rfl,I,.refl ..,.refl ..,.nil⟩
 | @cons nm e p m ks ms q qs ih=>
  intro A V ps s C I ns
  have ns':ac m (λv=>ac (ag ms) λvs=>ae (v::vs)) ps≠.stuck:=ns
  have eq:ag (m::ms) ps=ac m (λv=>ac (ag ms) λvs=>ae (v::vs)) ps:=rfl
  rw [eq]
  refine wpAny_evalAll_cons (bf ?_)
  refine Ai.seq (q A V ps s C I (Ad ns')) (λp v α₁ o0 c0 u0 l0 s0 Z0 y0=>bf (wpAny_standAt (bg ?_))) λx c0 q=>q.bind
  rw [Ab y0] at ns' ⊢
  refine aW (ih A α₁ o0 c0 C u0 (Ad ns')) (λvs z0 q=>?_) λx z0 q=>q.bind.after l0 s0
  obtain ⟨l,Z1,Y0,W1,Y1,W0,X0,j4⟩:=q
  rw [Ab W1]
  exact ⟨p::l,Z1,Y0,rfl,Y1,l0.trans W0 s0,s0.trans X0 l0.new,.cons (u0.stays C X0 W0 Z0) j4⟩
def Ee (W:Wd)(fd:FuncData)(fi:Fi)(np:Nat)(kws:List Str)(ext:List Value):Prop:=
 fi.params.length=np+kws.length+ext.length/\∀ s vs ks,(∀ b o,W.h₀.get? b=some o->s.heap.get? b=some o)->vs.length=np->ks.length=kws.length->BindsTo s fd ⟨vs,kws.zip ks⟩ (fi.params.zip (vs++(ks++ext)))
theorem FU {es:List Expr}{ms:List (M PV)}{pos:Pos}{m:M PFlow}{ext:List PV}{extv:List Value}(C:Ctx W fm (n+1) A)(I:InvS W fm V ps s)(q:SimL W (n+1) fm es ms)(Fa:FnAt W.h₀ a fd fi)(ok:fi.Ok)(hb:Ee W fd fi ms.length [] extv)
  (hx:∀ av V h,RepL W.H W.h₀ av V h ext extv) (body:∀ fm':Fm,fm'.sc=fi.sc->fm'.env.scope=fi.scope->fm'.hdl=fm.hdl->SimS W n fm' fi.body m) (ns:ac (ag ms) (λl=>am m (l++ext)) ps≠.stuck) :
  Ai W fm A V ps s (callWith pos (.ref a) [] (backTo pos (starEach es fm.env)) (backToKw pos (keywordEach [] fm.env))) (ac (ag ms) λl=>am m (l++ext)):=by
 obtain ⟨o,ho,hd⟩:=Fa.obj
 refine callWith_function_kw (o:=o) (fd:=fd) (A2 (q.plain _) (aW (C0 q A V ps s C I (Ad ns)) (λvs c0 z=>?_) λx c0 z=>z.bind))
 obtain ⟨l,o0,α₁,y0,u0,l0,s0,Z0⟩:=z
 rw [Ab y0] at ns ⊢
 refine ⟨⟨u0.inv.base _ _ ho,hd⟩,?_⟩
 have hlen:vs.length=ms.length:=by rw [<- Z0.length,EX y0]
 have b:=hb.2 c0 vs [] u0.inv.base hlen rfl
 refine aW (IZ (l:=l++ext) (vs:=vs++extv) C u0 (Fa.keeps u0.inv.base) ok b (by rw [hb.1,length_append,hlen];simp) (Z0.append (hx _ _ _)) body ns) (λU U q=>q.after l0 s0) (λU U q=>q.after l0 s0)
theorem P9 {e:Expr}{es:List Expr}{ks:List Keyword}{ms mks:List (M PV)}{pos:Pos}{m:M PFlow}(C:Ctx W fm (n+1) A)(I:InvS W fm V ps s)(q:SimL W (n+1) fm (e::es) ms)(qk:SimKw W (n+1) fm ks mks)(Fa:FnAt W.h₀ a fd fi)(ok:fi.Ok)(hb:Ee W fd fi ms.length (Dq ks) [])
  (body:∀ fm':Fm,fm'.sc=fi.sc->fm'.env.scope=fi.scope->fm'.hdl=fm.hdl->SimS W n fm' fi.body m) (ns:ac (ag ms) (λl=>ac (ag mks) λlk=>am m (l++lk)) ps≠.stuck) :
  Ai W fm A V ps s (callWith pos (.ref a) [] (backTo pos (starEach (e::es) fm.env)) (backToKw pos (keywordEach ks fm.env))) (ac (ag ms) λl=>ac (ag mks) λlk=>am m (l++lk)):=by
 obtain ⟨o,ho,hd⟩:=Fa.obj
 obtain ⟨k1,k2,k3,k4⟩:=qk.some pos fm.env
 have sq:=C0 (pos:=pos) q A V ps s C I (Ad ns)
 cases q with
 | @cons _ m0 _ ms0 q0 hs qs=>
  rw [hs] at sq ⊢
  refine callWith_function_kw (o:=o) (fd:=fd) (evalArgs_kw k1 (aW sq (λvs c0 z=>?_) λx c0 z=>z.bind))
  obtain ⟨l,o0,α₁,y0,u0,l0,s0,Z0⟩:=z
  rw [Ab y0] at ns ⊢
  refine aW (LO qk A α₁ o0 c0 C u0 (Ad ns)) (λvk z0 z=>?_) λx z0 z=>z.bind.after l0 s0
  obtain ⟨lk,Z1,Y0,W1,Y1,W0,X0,j4⟩:=z
  rw [Ab W1] at ns ⊢
  refine ⟨⟨Y1.inv.base _ _ ho,hd⟩,?_⟩
  rw [k2]
  have hlen:vs.length=(m0::ms0).length:=by rw [<- Z0.length,EX y0]
  have hlen2:vk.length=(Dq ks).length:=by rw [<- j4.length,EX W1,k4]
  have b:=hb.2 z0 vs vk Y1.inv.base hlen hlen2
  rw [append_nil] at b
  refine aW (IZ (l:=l++lk) (vs:=vs++vk) C Y1 (Fa.keeps Y1.inv.base) ok b (by rw [hb.1,length_append,hlen,hlen2];simp) ((u0.staysL C X0 W0 Z0).append j4) body ns) (λU U q=>(q.after W0 X0).after l0 s0) (λU U q=>(q.after W0 X0).after l0 s0)
theorem Gw {x:Str}{i:Nat}{v:Value}(C:Ctx W fm n A)(I:InvS W fm V ps s)(hv:W.H.mg x=some v){Q:Value->Shared->Prop}{E:Value->Shared->Prop}(hm:(x,NameKind.globalImplicit,i)∈fm.sc){pos:Pos}(hd:(x==("__debug__":Str))=false)
  (h:Q v s):wpAny W.m A (eval (.Name x pos) fm.env) Q E s:=
 Calls.Name_function_global C.fm.kind (C.fm.kindX hm (by decide)) (Calls.loadGlobal_global (env:=fm.env) (by rw [C.fm.glob];exact C.hd.g.keeps I.inv.base) hv h) hd
theorem Oq {x:Str}{i:Nat}{np pos:Pos}{es:List Expr}{ms:List (M PV)}{m:M PFlow}(hm:(x,NameKind.globalImplicit,i)∈fm.sc)(hd:(x==("__debug__":Str))=false)(hv:W.H.mg x=some (.ref a))(q:SimL W (n+1) fm es ms)(Fa:FnAt W.h₀ a fd fi)(ok:fi.Ok)(hb:Ee W fd fi ms.length [] [])
  (body:∀ fm':Fm,fm'.sc=fi.sc->fm'.env.scope=fi.scope->fm'.hdl=fm.hdl->SimS W n fm' fi.body m):SimE W (n+1) fm (.Call (.Name x np) es [] pos) (ac (ag ms) (am m)):=.mk λA V ps s C I ns=>by
 rw [arm_eval_Call_Name']
 refine bf (Gw C I hv hm hd ?_)
 have e:(λl=>am m (l++[]))=am m:=funext λl=>by rw [append_nil]
 have:=FU (ext:=[]) (extv:=[]) (pos:=pos) C I q Fa ok hb (λU U U=>.nil) body (by rw [e];exact ns)
 rw [e] at this
 exact this
theorem I4 {x:Str}{i:Nat}{np pos:Pos}{e:Expr}{es:List Expr}{ks:List Keyword}{ms mks:List (M PV)}{m:M PFlow}(hm:(x,NameKind.globalImplicit,i)∈fm.sc)(hd:(x==("__debug__":Str))=false)(hv:W.H.mg x=some (.ref a))(q:SimL W (n+1) fm (e::es) ms)(qk:SimKw W (n+1) fm ks mks)
  (Fa:FnAt W.h₀ a fd fi) (ok:fi.Ok) (hb:Ee W fd fi ms.length (Dq ks) []) (body:∀ fm':Fm,fm'.sc=fi.sc->fm'.env.scope=fi.scope->fm'.hdl=fm.hdl->SimS W n fm' fi.body m) :
  SimE W (n+1) fm (.Call (.Name x np) (e::es) ks pos) (ac (ag ms) λl=>ac (ag mks) λlk=>am m (l++lk)):=.mk λA V ps s C I ns=>by
 rw [arm_eval_Call_Name']
 refine bf (Gw C I hv hm hd ?_)
 exact P9 (pos:=pos) C I q qk Fa ok hb body ns
end
structure StdX (T:String):Prop where
 exc:isSubtype (.type T) (.type "BaseException")=pure true
 nt:isSubtype (.type ((Manifest.find? T).elim "type" λx=>x.metatype)) (.type "tuple")=pure false
 self:isSubtype (.type T) (.type T)=pure true
theorem LP:StdX "IndexError":=⟨by rw [isSubtype_type];kernel_rfl,by rw [isSubtype_type];kernel_rfl,by rw [isSubtype_type];kernel_rfl⟩
theorem LQ:StdX "ValueError":=⟨by rw [isSubtype_type];kernel_rfl,by rw [isSubtype_type];kernel_rfl,by rw [isSubtype_type];kernel_rfl⟩
theorem Qa:StdX "KeyError":=⟨by rw [isSubtype_type];kernel_rfl,by rw [isSubtype_type];kernel_rfl,by rw [isSubtype_type];kernel_rfl⟩
def Fm.mark (fm:Fm)(x:Value):Fm:={ fm with hdl:=some x }
section
variable {W:Wd}{fm:Fm}{V α' α₁ w1:List Addr}{h h' h₁ start:Heap}{n:Nat}{A:Around}{ps ps':PS}{s s' c0:Shared}{H:Hd}{h₀:Heap}{own av av':List Addr}{e:PX}{x y:Value}
theorem InvS.mark (I:InvS W fm V ps s):InvS W (fm.mark y) V ps s:=⟨⟨I.inv.base,I.inv.loc,I.inv.cel,I.inv.lists,I.inv.live,I.inv.frames,I.inv.tabs⟩,I.gens,I.os⟩
theorem InvS.unmark (I:InvS W (fm.mark y) V ps s):InvS W fm V ps s:=⟨⟨I.inv.base,I.inv.loc,I.inv.cel,I.inv.lists,I.inv.live,I.inv.frames,I.inv.tabs⟩,I.gens,I.os⟩
theorem FmOk.mark (F:FmOk h₀ fm):FmOk h₀ (fm.mark y):=⟨F.kind,F.glob,F.bi,F.locAv,F.locOwn,F.ownAv,F.frsAv,F.fresh,F.kinds,F.once,F.cellOwn,F.cellApart,F.frame⟩
theorem Ctx.mark (C:Ctx W fm n A):Ctx W (fm.mark y) n (A.mark (some y)):=⟨C.frames,C.depth,C.units,rfl,C.tab,C.fm.mark,C.hd⟩
theorem OkS.unmark {r:R PFlow}{f:Flow}(q:OkS W (fm.mark y) V h r f s):OkS W fm V h r f s:=by
 obtain ⟨p,ps',α',e,I,g,R,rf⟩:=q
 exact ⟨p,ps',α',e,I.unmark,g,R,by cases rf with
  | next=>exact .next
  | brk=>exact .brk
  | cont=>exact .cont
  | ret r=>exact .ret r⟩
theorem IY.unmark {r:R PFlow}{f:Result}(q:IY W (fm.mark y) V h r f s):IY W fm V h r f s:=by
 cases f with
 | ok f=>exact OkS.unmark (y:=y) q
 | error x=>
  obtain ⟨e,ps',α',er,I,g,R,X⟩:=q
  exact ⟨e,ps',α',er,I.unmark,g,R,X⟩
theorem LR {r:R PFlow}(C:Ctx W fm n A)(hs0:∀ b,h.get? b=none->W.h₀.get? b=none)(q:ExS W (fm.mark y) V h r x s) :
  notedBy W.m (A.mark (some y)) fm.env (cameBackBy W.m A fm.env (ExS W fm V h r)) x s:=by
 have:=EW C.mark hs0 q
 unfold notedBy at this ⊢
 exact aW this (λU U z=>Gv C hs0 (IY.unmark z)) λU U z=>Gv C hs0 (IY.unmark z)
theorem Sz {X:PX->Option (M PFlow)}{m:M PFlow}{f:PFlow}(q:m ps = .ok f ps'):aE X m ps = .ok f ps':=by unfold aE;rw [q]
theorem SA {X:PX->Option (M PFlow)}{m:M PFlow}{e:PX}(q:m ps = .ex e ps')(ns:aE X m ps≠.stuck):∃ hm,X e=some hm/\aE X m ps=hm ps':=by
 unfold aE at ns ⊢
 rw [q] at ns ⊢
 dsimp only at ns ⊢
 cases z:X e with
 | none=>rw [z] at ns;exact absurd rfl ns
 | some hm=>exact ⟨hm,rfl,rfl⟩
theorem SD {X:PX->Option (M PFlow)}{m:M PFlow}(ns:aE X m ps≠.stuck):m ps≠.stuck:=by
 intro q;unfold aE at ns;rw [q] at ns;exact ns rfl
theorem Ia {b:List Stmt}{hd:ExceptHandler}{pos:Pos}{m:M PFlow}{X:PX->Option (M PFlow)}(hb:SimS W n fm b m)
  (hh:∀ A V ps s e x hm (w1:List Addr) (start:Heap),Ctx W fm n A->(∀ b,start.get? b=none->W.h₀.get? b=none)->(∀ b∈fm.av,(start.get? b).isSome=true)->InvS W fm V ps s->Grow w1 V start->Rel fm.stk fm.own w1 start s.heap->RaisedN W start s.heap e x->X e=some hm->hm ps≠.stuck ->
   wpAny W.m A (handleBy x fm.env [hd]) (OkS W fm w1 start (hm ps)) (ExS W fm w1 start (hm ps)) s) :
  SimT W n fm (.Try b [hd] [] [] pos) (aE X m):=.mk λA V ps s C I ns=>by
 have hs0:=I.none
 refine wpAny_Try_except (aW (hb A V ps s C I (SD ns)) (λf c0 z=>?_) λx c0 z=>?_)
 ·obtain ⟨p,o0,α₁,y0,u0,l0,Y3,rf⟩:=z
  rw [Sz y0]
  cases rf with
  | next=>exact wpAny_execs_nil ⟨.next,o0,α₁,rfl,u0,l0,Y3,.next⟩
  | brk=>exact ⟨.brk,o0,α₁,rfl,u0,l0,Y3,.brk⟩
  | cont=>exact ⟨.cont,o0,α₁,rfl,u0,l0,Y3,.cont⟩
  | ret r=>exact ⟨.ret _,o0,α₁,rfl,u0,l0,Y3,.ret r⟩
 ·obtain ⟨e,o0,α₁,y0,u0,l0,Y3,i6⟩:=z
  obtain ⟨hm,hX,eq⟩:=SA y0 ns
  rw [eq] at ns ⊢
  exact Gu C u0 Y3 hs0 i6 λW2 Y1 y4 j6=>Cz C Y1 y4 hs0 j6 _ λw3 Y2 v4 i5=>hh A α₁ o0 _ e x hm V s.heap C hs0 I.inv.live Y2 l0 v4 i5 hX ns
end
end Mi
end
section
open PySem PySem.W PyProof.Rows
set_option maxRecDepth 100000
namespace Mi
inductive TomlObj (C:Addr)(h:Heap)(a:Addr)(t:Txt):Prop
 | mk (o:Obj) (vs:Array Value) (T:Addr) (tk:Tok) (k1:h.get? a=some o) (k2:o.cls = .ref C) (k3:o.data = .fields vs) (k4:vs[0]? = some (.ref T)) (k5:IsTup h T #[.str (txt t) tk]):TomlObj C h a t
section
variable {prog:Program}{w:World}{A:Around}{E:Value->Shared->Prop}{h:Heap}{g:Array GenState}{d:Drawn}{t:Nat}{os:OsState}{C e:Addr}{m:Txt}
theorem Os:mroOf (.type "ValueError")=pure Od:=PySem.F.excBase_ValueError.mroIs
theorem Fy {M:Model}{x:Addr}{nm q:Str}{N:Addr}{bs bm:List Value}{hdct:Bool}{sn:List Str}{sub:List Value}{ab:Bool}{col:Option Bool}{dd:Option Addr}{k0 k1 k2 k3 k5:Option Value}{B newId:String}{mN:Str->Option Value}
  {o:Obj} {name:Str} {id:String} {args:List Value} {Q:Option Value->Shared->Prop} (hx:h.get? x=some o) (hc:o.cls = .ref C)
  (hC:h.get? C=some (excClassObj nm q C N bs bm hdct sn sub ab col dd k0 k1 k2 k3 k5 newId)) (hn:h.Ns N mN) (hno:mN name=none) (hbm:mroOf (.type B)=pure bm) (S:Slot B name id)
  (hcall:wpAny M A (call (.builtin id) (.ref x::args)) (λv=>Q (some v)) E ⟨h,g,d,t,os⟩):wpAny M A (callSpecial? (.ref x) name args) Q E ⟨h,g,d,t,os⟩:=by
 simp only [callSpecial?]
 refine bf (wpAny_specialOf_inst hx hc hC hn hno hbm S.lookup ?_)
 simp only [S.bind]
 exact be (bf (bg (bf (aW hcall (λv s' h'=>bg h') λU U h'=>h'))))
theorem I5 {M:Model}{s:Shared}{o:Obj}{vs:Array Value}{T:Addr}{tk:Tok}{x:Str}{Q:Value × List Value->Shared->Prop}(ho:s.heap.get? e=some o)(hd:o.data = .fields vs)(h0:vs[0]? = some (.ref T))(hT:IsTup s.heap T #[.str x tk])(hq:Q (.ref T,[.str x tk]) s) :
  wpAny M A (Builtin.BaseException.bexcArgs (.ref e)) Q E s:=by
 obtain ⟨ot,hto,_,k,htd⟩:=hT
 unfold Builtin.BaseException.bexcArgs
 refine bf (wpAny_field ho hd h0 (bf (wpAny_seqItems hto htd ?_)))
 exact bg hq
theorem Kg {s:Shared}{o:Obj}{vs:Array Value}{T:Addr}{tk:Tok}{x:Str}{Q:Fin->Shared->Prop}(ho:s.heap.get? e=some o)(hd:o.data = .fields vs)(h0:vs[0]? = some (.ref T))(hT:IsTup s.heap T #[.str x tk])(hq:Q (.done (.ret (.str x tk))) s) :
  wpAny (model prog w) A (Builtin.«BaseException.__str__» ⟨[.ref e],[]⟩) Q E s:=by
 unfold Builtin.«BaseException.__str__»
 repeat (first | with_reducible refine I5 ho hd h0 hT ?_ | wp_step)
 exact hq
theorem Ot:builtinKind "BaseException.__str__" = some .slot:=by decide +kernel
theorem LT:splitId "BaseException.__str__" = some ("BaseException", "__str__"):=by decide +kernel
theorem M8:Od.contains (.type "BaseException")=true:=by decide +kernel
theorem HJ {id owner n:String}{b:Builtin}{bm:List Value}(h1:builtinKind id=some .slot)(h2:splitId id=some (owner,n))(ha:argsOk id ⟨[.ref e],[]⟩)(hp:plainId id=true)(he:entryFor table id=some b)(hm:bm.contains (.type owner)=true)
  {o:Obj} {Q:Value->Shared->Prop} {nm q:Str} {N:Addr} {bs:List Value} {hdct:Bool} {sn:List Str} {sub:List Value} {ab:Bool} {col:Option Bool} {dd:Option Addr} {k0 k1 k2 k3 k5:Option Value} {newId:String} (ho:h.get? e=some o) (hc:o.cls = .ref C)
  (hC:h.get? C=some (excClassObj nm q C N bs bm hdct sn sub ab col dd k0 k1 k2 k3 k5 newId))
  (hb:wpAny (model prog w) A.in1 (b ⟨[.ref e],[]⟩) (λfin s'=>∃ v,fin = .done (.ret v)/\Q v s') E ⟨h,g,d,t,os⟩) :
  wpAny (model prog w) A (call (.builtin id) [.ref e]) Q E ⟨h,g,d,t,os⟩:=by
 refine wpAny_call (codeAny_call_builtin hp he (wpAny_check_slot_inst h1 h2 ha hm ho hc hC ?_))
 refine aW hb (λfin s' h'=>?_) λU U z=>z
 obtain ⟨v,rfl,hv⟩:=h';exact hv
theorem Ou (K:ClsAt C h){o:Obj}{vs:Array Value}{T:Addr}{tk:Tok}(ho:h.get? e=some o)(hc:o.cls = .ref C)(hd:o.data = .fields vs)(h0:vs[0]? = some (.ref T))(hT:IsTup h T #[.str (txt m) tk]){Q:Value->Shared->Prop}(hq:Q (.str (txt m) tk) ⟨h,g,d,t,os⟩) :
  wpAny (model prog w) A (call (.builtin "BaseException.__str__") [.ref e]) Q E ⟨h,g,d,t,os⟩:=by
 have b:wpAny (model prog w) A.in1 (Builtin.«BaseException.__str__» ⟨[.ref e],[]⟩) (λfin s'=>∃ v,fin = .done (.ret v)/\Q v s') E ⟨h,g,d,t,os⟩:=Kg (s:=⟨h,g,d,t,os⟩) ho hd h0 hT ⟨_,rfl,hq⟩
 obtain ⟨nm,q,N,bs,hdct,sn,sub,ab,col,dd,k0,k1,k2,k3,k5,mN,hC,hN,hno⟩:=K.at_
 exact HJ Ot LT (PySem.F.args_bexc_str _) PySem.F.excStr_ValueError.str.plain PySem.F.entry_bexc_str M8 ho hc hC b
theorem LU (hu:A.units<cLine)(K:ClsAt C h){o:Obj}{vs:Array Value}{T:Addr}{tk:Tok}(ho:h.get? e=some o)(hc:o.cls = .ref C)(hd:o.data = .fields vs)(h0:vs[0]? = some (.ref T))(hT:IsTup h T #[.str (txt m) tk]){Q:Value->Shared->Prop}(hq:Q (.str (txt m) tk) ⟨h,g,d,t,os⟩) :
  wpAny (model prog w) A (Builtin.Str.strOf (.ref e)) Q E ⟨h,g,d,t,os⟩:=by
 have hcall:∀ Q:Value->Shared->Prop,Q (.str (txt m) tk) ⟨h,g,d,t,os⟩->wpAny (model prog w) A (call (.builtin "BaseException.__str__") [.ref e]) Q E ⟨h,g,d,t,os⟩:=λQ hq=>Ou K ho hc hd h0 hT hq
 obtain ⟨nm,q,N,bs,hdct,sn,sub,ab,col,dd,k0,k1,k2,k3,k5,mN,hC,hN,hno⟩:=K.at_
 have hn:mN (Str.ofString "__str__")=none:=hno _ (by decide +kernel)
 unfold Builtin.Str.strOf
 rw [show Builtin.Str.isExactStr (.ref e)=false from rfl]
 rw [if_neg Bool.false_ne_true]
 refine bf (wpAny_cRoomFor hu ?_)
 refine bf (m:=callSpecial? (.ref e) (Str.ofString "__str__")) (Fy ho hc hC hN hn Os PySem.F.excStr_ValueError.str (hcall _ ?_))
 exact bg hq
theorem Kh (hu:A.units+2<cLine)(K:ClsAt C h)(X:TomlObj C h e m){Q:Value->Shared->Prop}(hq:∀ tk,Q (.str (txt m) tk) ⟨h,g,d,t,os⟩) :
  wpAny (model prog w) A (call (.type "str") [.ref e]) Q E ⟨h,g,d,t,os⟩:=by
 obtain ⟨o,vs,T,tk,ho,hc,hd,h0,hT⟩:=X
 exact callType_new PySem.F.called_str (by decide) (PySem.F.typeCall_str_1 _) (PySem.F.newCall_str_1 _) (λobj=>PySem.F.args_object_init_2 obj _) PySem.F.entry_str_new
  (meets_str_new (S:=λA' R s'=>A'.units+1<cLine/\s'=⟨h,g,d,t,os⟩/\R (.ok (.ret (.str (txt m) tk))) s')
   λU U A' U U hq=>by obtain ⟨h1,h2,h3⟩:=hq;subst h2;exact LU (A:=A'.in1) h1 K ho hc hd h0 hT h3)
  ⟨(show A.units+1+1<cLine from hu),rfl,typeIs_str _ _ _,hq tk⟩
end
end Mi
end
section
open PySem PySem.W PyProof.Rows
set_option maxRecDepth 10000
namespace Mi
inductive ErrAt (W:Wd)(fm:Fm)(h:Heap)(x:Str)(t:Txt):Prop
 | mk (m:Str->Option Value) (a:Addr) (o:Obj) (vs:Array Value) (T:Addr) (tk:Tok) (k1:h.Ns fm.env.locals m) (k2:m x=some (.ref a)) (k3:h.get? a=some o) (k4:o.cls = .ref W.H.toml) (k5:o.data = .fields vs) (k6:vs[0]? = some (.ref T)) (k7:T∉fm.av) (k8:IsTup h T #[.str (txt t) tk]):ErrAt W fm h x t
section
variable {M:Model}{A:Around}{E:Value->Shared->Prop}{s:Shared}{env:Env}
theorem Qb {n:Str}{pos:Pos}{m:Str->Option Value}{Q:Unit->Shared->Prop}(hl:env.kindOf n=some .local)(hn:s.heap.Ns env.locals m)
  (hp:(env.scope.kind==.class||(env.scope.kind==.module&&env.locals != env.globals))=false)
  (h:∀ h' v,h'.Ns env.locals (λy=>if y=n then v else m y)->Heap.SameBut env.locals s.heap h'->Q () { s with heap:=h',toks:=s.toks+1 }) :
  wpAny M A (do bindName env n .none;unbindBehindTheSuite env n pos) Q E s:=by
 refine bf (wpAny_bindName (wpAny_storeName_local hl hn (λh₁ m8 u4=>?_) hp))
 unfold unbindBehindTheSuite
 refine wpAny_onRaise ?_
 unfold unbindName
 refine bf (wpAny_point (bf ?_))
 unfold deleteName
 simp only [hl,hp]
 rw [if_neg (by decide)]
 refine bf (wpAny_nsDel_keeps m8 λW2 v m6 Z6=>?_)
 simp only [if_true,Option.isSome_some,Bool.not_true,false_eq_true,if_false]
 refine bg (wpAny_point (h W2 v ?_ (u4.trans Z6)))
 have:(λx=>if x=n then v else if x=n then some Value.none else m x)=λy=>if y=n then v else m y:=funext λy=>by by_cases q:y=n <;> simp [q]
 rw [this] at m6
 exact m6
end
section
variable {W:Wd}{fm:Fm}{V α' α₁ w1:List Addr}{h h' h₁ start:Heap}{n:Nat}{A:Around}{ps ps':PS}{s s' c0:Shared}{H:Hd}{h₀:Heap}{own av av':List Addr}{e:PX}{y:Value}{x:Str}{t:Txt}
abbrev SimEx.T (W:Wd)(n:Nat)(fm:Fm)(x:Str)(t:Txt)(e:Expr)(m:M PV):Prop:=∀ A V ps s,Ctx W fm n A->InvS W fm V ps s->ErrAt W fm s.heap x t->m ps≠.stuck->Ai W fm A V ps s (eval e fm.env) m
structure SimEx (W:Wd)(n:Nat)(fm:Fm)(x:Str)(t:Txt)(e:Expr)(m:M PV):Prop where
 go:SimEx.T W n fm x t e m
noncomputable instance {W:Wd} {n:Nat} {fm:Fm} {x:Str} {t:Txt} {e:Expr} {m:M PV}:CoeFun (SimEx W n fm x t e m) (λU=>SimEx.T W n fm x t e m):=⟨SimEx.go⟩
abbrev SimSx.T (W:Wd)(n:Nat)(fm:Fm)(x:Str)(t:Txt)(b:List Stmt)(m:M PFlow):Prop:=∀ A V ps s,Ctx W fm n A->InvS W fm V ps s->ErrAt W fm s.heap x t->m ps≠.stuck->wpAny W.m A (execs b fm.env) (OkS W fm V s.heap (m ps)) (ExS W fm V s.heap (m ps)) s
structure SimSx (W:Wd)(n:Nat)(fm:Fm)(x:Str)(t:Txt)(b:List Stmt)(m:M PFlow):Prop where
 go:SimSx.T W n fm x t b m
noncomputable instance {W:Wd} {n:Nat} {fm:Fm} {x:Str} {t:Txt} {b:List Stmt} {m:M PFlow}:CoeFun (SimSx W n fm x t b m) (λU=>SimSx.T W n fm x t b m):=⟨SimSx.go⟩
theorem Qc {i:Nat}{np xp pos:Pos}(hk:fm.env.kindOf x=some .local)(hd:(x==("__debug__":Str))=false)(hm:(("str":Str),NameKind.globalImplicit,i)∈fm.sc) :
  SimEx W n fm x t (.Call (.Name "str" np) [.Name x xp] [] pos) (ae (.str t)):=.mk λA V ps s C I X ns=>by
 show wpAny W.m A (do callWith pos (<- eval (.Name "str" np) fm.env) [] (backTo pos (starEach [.Name x xp] fm.env)) (backToKw pos (keywordEach [] fm.env))) _ _ s
 refine bf (BX (v:=.type "str") C I (by decide +kernel) (by decide +kernel) (by kernel_rfl) hm (by decide +kernel) ?_)
 obtain ⟨m,a,o,vs,T,tk,hns,hmx,ho,hc,hdd,h0,hT,hI⟩:=X
 refine PySem.callWith_type rfl (A2 rfl (Calls.spliced_cons (wpAny_Name (wpAny_loadName_local C.fm.kind hk hns hmx (Calls.spliced_nil ?_)) hd)))
 have hu:A.units+2<cLine:=by have:=C.units;lia
 obtain ⟨hp,g,d,tk',os⟩:=s
 exact Kh hu (C.hd.tomlC.keeps I.inv.base) ⟨o,vs,T,tk,ho,hc,hdd,h0,hI⟩ λtk=>OkE.same' I (.str _ _)
theorem SE {m:M PFlow}(ns:aK m ps≠.stuck):∃ f ps',m ps = .ok f ps'/\aK m ps = .ok f ps':=by
 unfold aK at ns ⊢
 cases q:m ps with
 | ok f p=>exact ⟨f,p,rfl,rfl⟩
 | ex e p=>rw [q] at ns;exact absurd rfl ns
 | stuck=>rw [q] at ns;exact absurd rfl ns
theorem GW (F:FmOk W.h₀ fm)(I:InvS W fm V ps s)(hx:∀ k i,(x,k,i)∉fm.sc){m:Str->Option Value}{v:Option Value}{tk:Nat}(hns:s.heap.Ns fm.env.locals m)(hn:h'.Ns fm.env.locals (λy=>if y=x then v else m y))(S:Heap.SameBut fm.env.locals s.heap h') :
  InvS W fm V ps { s with heap:=h',toks:=tk }/\Rel fm.stk fm.own V s.heap h':=by
 obtain ⟨o',es,ep,e1,e2,e3⟩:=id hn
 have live:(h'.get? fm.env.locals).isSome=true:=by rw [e1];rfl
 have hα:∀ b∈V,b≠fm.env.locals:=λb m q=>I.inv.lists.apart b m (q▸F.locAv)
 refine ⟨⟨I.inv.mine F S F.locAv live (λo eo=>⟨(λvs q=>by obtain ⟨oo,_,_,f1,f2,_⟩:=hns;rw [eo] at f1;cases f1;rw [f2] at q;cases q),o',e1,λvs q=>by rw [e2] at q;cases q⟩) rfl ?_ λz k i hz hk=>?_,I.gens,I.os⟩,SameBut.rel S live F.locOwn _ _⟩
 ·obtain ⟨m',n1,n2⟩:=I.inv.loc
  have:m'=m:=funext λz=>by
   obtain ⟨o1,es1,ep1,a1,a2,a3,a4⟩:=n1
   obtain ⟨o2,es2,ep2,b1,b2,b3,b4⟩:=hns
   rw [a1] at b1;cases b1;rw [a2] at b2;cases b2
   rw [<- a4,<- b4]
  subst this
  refine ⟨_,hn,λz i hz=>?_⟩
  have:z≠x:=λq=>hx _ _ (q▸hz)
  simp only [if_neg this]
  exact (n2 z i hz).same S F.locAv hα
 ·obtain ⟨c,v',q1,q2,q3,⟨o,q4,q4'⟩,q5⟩:=I.inv.cel z k i hz hk
  exact ⟨c,v',q1,q2,q3,⟨o,(S.2 c q3).trans q4,q4'⟩,q5.same S F.locAv hα⟩
theorem Ib {i:Nat}(C:Ctx W fm n A)(I:InvS W fm V ps s){Q:Value->Shared->Prop}{E:Value->Shared->Prop}(hm:(("TOMLDecodeError":Str),NameKind.globalImplicit,i)∈fm.sc){pos:Pos}
  (h:Q (.ref W.H.toml) s):wpAny W.m A (eval (.Name "TOMLDecodeError" pos) fm.env) Q E s:=Gw C I C.hd.toml hm (by decide +kernel) h
theorem I6 {a:Addr}{o:Obj}(K:ClsAt W.H.toml s.heap)(ho:s.heap.get? a=some o)(hc:o.cls = .ref W.H.toml){Q:Bool->Shared->Prop}{E:Value->Shared->Prop}(h:Q true s):wpAny W.m A (excMatches (.ref a) (.ref W.H.toml)) Q E s:=by
 obtain ⟨nm,q,N,bs,hdct,sn,sub,ab,col,dd,k0,k1,k2,k3,k5,mN,hC,_⟩:=K.at_
 obtain ⟨hp,g,d,tk',os⟩:=s
 exact wpAny_excMatches_sub_self hC ho hc M8 h
theorem LV {i:Nat}{tp hp pos:Pos}{b:List Stmt}{b0:Stmt}{suite:List Stmt}{m:M PFlow}{hm:Txt->M PFlow}(ht:(("TOMLDecodeError":Str),NameKind.globalImplicit,i)∈fm.sc)(hx:∀ k i,(x,k,i)∉fm.sc)(hk:fm.env.kindOf x=some .local)
  (hb:SimS W n fm b m) (hh:∀ y t,SimSx W n (fm.mark y) x t (b0::suite) (hm t)):SimT W n fm (.Try b [.ExceptHandler (some (.Name "TOMLDecodeError" tp)) (some x) (b0::suite) hp] [] [] pos) (aE (PO λt=>aK (hm t)) m):=by
 refine Ia hb λA V ps s e xv hm' w1 start C hs0 hlive I g R X hX ns=>?_
 cases e with
 | std c=>exact (by cases hX)
 | toml t=>
  obtain rfl:=aT (show some (aK (hm t))=some hm' from hX)
  obtain ⟨fl,o0,ef,ec⟩:=SE ns
  have X':=X
  obtain ⟨a,oe,vs,rfl,ha,hcl,hrest⟩:=X
  refine wpAny_handleBy_cons (codeAny_handlers_test (Ib (C.mark (y:=.ref a)) I.mark ht ?_)) (by intro q;cases q)
  refine I6 (C.hd.tomlC.keeps I.inv.base) ha hcl ?_
  refine codeAny_handlers_suite_as ?_
  refine Cz (C.mark (y:=.ref a)) I.mark R hs0 X' _ λw3 Y2 v4 i5=>?_
  obtain ⟨mL,hns,hloc⟩:=Y2.inv.loc
  refine wpAny_storeName_local hk hns (λo8 y7 i7=>?_) (by simp [C.fm.kind])
  obtain ⟨r6,j7⟩:=GW (tk:=_) C.fm Y2.unmark hx hns y7 i7
  have R04:=v4.trans j7 g.new
  obtain ⟨a',oe',vs',ea,ha',hc',hd',hsz',hna',⟨T,tk,h0',hTn,hT'⟩,_⟩:=i5
  cases ea
  have hTav:T∉fm.av:=λq=>by have:=hlive T q;rw [hTn] at this;cases this
  have nea:a≠fm.env.locals:=λq=>by have:=hlive _ C.fm.locAv;rw [<- q,hna'] at this;cases this
  have neT:T≠fm.env.locals:=λq=>hTav (q▸C.fm.locAv)
  have err:ErrAt W (fm.mark (.ref a)) o8 x t:=by
   obtain ⟨oT,t1,t2⟩:=hT'
   exact ⟨_,a,oe',vs',T,tk,y7,by simp,(i7.2 a nea).trans ha',hc',hd',h0',hTav,oT,(i7.2 T neT).trans t1,t2⟩
  refine aW (hh (.ref a) t _ V ps _ C.mark r6.mark err (by rw [ef];exact λz=>(by cases z))) (λf s6 z=>?_) λy s6 z=>?_
  ·obtain ⟨p,r8,z7,u6,l7,s8,t8,rf⟩:=z
   rw [ef] at u6
   cases u6
   obtain ⟨m5,hns5,_⟩:=l7.inv.loc
   refine Qb hk hns5 (by simp [C.fm.kind]) λW8 v u8 W7=>?_
   obtain ⟨v8,w8⟩:=GW (tk:=s6.toks+1) C.fm l7.unmark hx hns5 u8 W7
   have g5:=g.trans s8 R04
   rw [ec]
   refine ⟨fl,o0,z7,rfl,v8,g5,(R04.trans t8 g.new).trans w8 g5.new,?_⟩
   cases rf with
   | next=>exact .next
   | brk=>exact .brk
   | cont=>exact .cont
   | ret r=>
    exact .ret (r.same W7 C.fm.locAv λb m q=>l7.inv.lists.apart b m (q▸C.fm.locAv))
  ·obtain ⟨e,r8,z7,u6,_⟩:=z
   rw [ef] at u6;cases u6
end
end Mi
end
section
open PySem PySem.W PyProof.Rows
set_option maxRecDepth 100000
namespace Mi
inductive MadeAt (C:Addr)(h:Heap)(e:Addr)(m:Txt):Prop
 | mk (o:Obj) (vs:Array Value) (T:Addr) (tk:Tok) (k1:h.get? e=some o) (k2:o.cls = .ref C) (k3:o.data = .fields vs) (k4:5<vs.size) (k5:vs[0]? = some (.ref T)) (k6:vs[1]? = some .none) (k7:IsTup h T #[.str (txt m) tk]):MadeAt C h e m
section
variable {M:Model}{A:Around}{E:Value->Shared->Prop}{s:Shared}{C e:Addr}
theorem Ic {o:Obj}(K:ClsAt C s.heap)(he:s.heap.get? e=some o)(hc:o.cls = .ref C){vs:Array Value}(hd:o.data = .fields vs){c:String}{Q:Value->Shared->Prop}(h:Q (.ref e) s):wpAny M A (excFromValue (.ref e) c) Q E s:=by
 obtain ⟨nm,q,N,bs,hdct,sn,sub,ab,col,dd,k0,k1,k2,k3,k5,mN,hC,_⟩:=K.at_
 obtain ⟨hp,g,d,tk,os⟩:=s
 obtain ⟨cls,dct,data,sl⟩:=o
 simp only at hc hd
 subst hc hd
 have hcB:(Value.ref C::Od).contains (.type "BaseException")=true:=by rw [List.contains_cons,show Od.contains (.type "BaseException")=true from by decide +kernel,Bool.or_true]
 unfold excFromValue isExcClass
 repeat (first | with_reducible refine wpAny_loadPart_at he ?_ | with_reducible refine wpAny_loadPart_at hC ?_ | (with_reducible refine wpAny_isSubtype_exc hC ?_;rw [hcB]) | wp_step)
 exact h
theorem SF {o:Obj}(K:ClsAt C s.heap)(he:s.heap.get? e=some o)(hc:o.cls = .ref C){vs:Array Value}(hd:o.data = .fields vs){Q:Value->Shared->Prop}(h:Q (.ref e) s):wpAny M A (raisedInstance (.ref e)) Q E s:=by
 obtain ⟨nm,q,N,bs,hdct,sn,sub,ab,col,dd,k0,k1,k2,k3,k5,mN,hC,_⟩:=K.at_
 obtain ⟨hp,g,d,tk,os⟩:=s
 obtain ⟨cls,dct,data,sl⟩:=o
 simp only at hc hd
 subst hc hd
 unfold raisedInstance
 repeat (first | with_reducible refine wpAny_loadPart_at he ?_ | with_reducible refine wpAny_loadPart_at hC ?_ | wp_step)
 exact h
theorem SG {o:Obj}(K:ClsAt C s.heap)(he:s.heap.get? e=some o)(hc:o.cls = .ref C){vs:Array Value}(hd:o.data = .fields vs){Q:Bool->Shared->Prop}(h:Q false s):wpAny M A (isType (.ref e)) Q E s:=by
 obtain ⟨nm,q,N,bs,hdct,sn,sub,ab,col,dd,k0,k1,k2,k3,k5,mN,hC,_⟩:=K.at_
 obtain ⟨hp,g,d,tk,os⟩:=s
 obtain ⟨cls,dct,data,sl⟩:=o
 simp only at hc hd
 subst hc hd
 unfold isType
 repeat (first | with_reducible refine wpAny_loadPart_at he ?_ | with_reducible refine wpAny_loadPart_at hC ?_ | wp_step)
 exact h
end
def AQ (h:Heap)(e:Addr)(k:Nat)(x:Value):Heap:=h.update e (Obj.mapFields (·.setIfInBounds k x))
theorem MadeAt.set {C e:Addr}{h:Heap}{m:Txt}(X:MadeAt C h e m){k:Nat}{x:Value}(h0:k≠0)(h1:k≠1):MadeAt C (AQ h e k x) e m:=by
 obtain ⟨o,vs,T,tk,he,hc,hd,hsz,v0,v1,oT,t1,t2,kk,t3⟩:=X
 have hd':=Obj.data_mapFields hd (·.setIfInBounds k x)
 have nT:T≠e:=λq=>by rw [q,he] at t1;cases t1;rw [hd] at t3;cases t3
 refine ⟨_,_,T,tk,Heap.get?_update_self (Obj.mapFields (·.setIfInBounds k x)) he (Obj.isFreed_of_fields hd'),(Obj.cls_mapFields _ _).trans hc,hd',by simpa using hsz,?_,?_,oT,(get?_update_other _ _ (Ne.symm nT)).trans t1,t2,kk,t3⟩
 ·rw [Array.getElem?_setIfInBounds_ne h0];exact v0
 ·rw [Array.getElem?_setIfInBounds_ne h1];exact v1
section
variable {prog:Program}{w:World}{A:Around}{E:Value->Shared->Prop}{s:Shared}{C e:Addr}{m:Txt}
theorem C1 {k:Nat}{x:Value}{Q:Unit->Shared->Prop}(X:MadeAt C s.heap e m)(hk:k<=5)(h:Q () { s with heap:=AQ s.heap e k x }):wpAny (model prog w) A (setField (.ref e) k x) Q E s:=by
 obtain ⟨o,vs,T,tk,he,hc,hd,hsz,v0,v1,hT⟩:=X
 exact wpAny_setField he hd (by exact la [_,_] [([2],[11]),([11,3,0],[4])] ([2,3,0],[4]) rfl hk hsz) h
theorem GX {fl:Option Addr}{Q:Unit->Shared->Prop}(X:MadeAt C s.heap e m)(h:Q () s):wpAny (model prog w) A (setFlight (.ref e) fl) Q E s:=by
 obtain ⟨o,vs,T,tk,he,hc,hd,hsz,v0,v1,hT⟩:=X
 unfold setFlight
 refine bf (wpAny_field he hd v1 ?_)
 rw [if_neg (by decide)]
 exact bg h
theorem HK:entryFor table "proto.unchain" = some Builtin.«proto.unchain»:=entryFor_of_tree (by kernel_rfl)
theorem HL {V:Type}{Q:V->Shared->Prop}(X:MadeAt C s.heap e m)
  (h:(A.handled=none/\E (.ref e) s)\/∃ a o vs,A.handled=some (.ref a)/\a≠e/\s.heap.get? a=some o/\o.data = .fields vs/\vs[2]? = some .none/\E (.ref e) { s with heap:=AQ s.heap e 2 (.ref a) }):wpAny (model prog w) A (raiseNew (.ref e):Sem V) Q E s:=by
 rcases h with ⟨hh,h⟩ | ⟨a,o,vs,hh,ne,ho,hd,h2,h⟩
 ·exact wpAny_raiseNew_none hh h
 ·unfold raiseNew
  refine bf (wpAny_handled ?_)
  rw [hh]
  dsimp only
  rw [if_pos (show (Value.ref a != Value.ref e)=true from by simpa using ne)]
  have un:wpAny (model prog w) A (runValue (.builtin "proto.unchain" ⟨[.ref e,.ref a,.ref a,.bool false],[]⟩)) (λU s'=>s'=s) E s:=by
   refine wpAny_runValue (codeAny_builtin HK ?_)
   unfold Builtin.«proto.unchain»
   show wpAny _ _ (field (.ref a) 2 >>= _) _ _ s
   refine bf (wpAny_field ho hd h2 ?_)
   rw [if_pos (by rfl)]
   exact bg rfl
  refine bf (be (aW un (λU s' q=>?_) λU U z=>z))
  subst q
  exact bf (C1 X (by exact la [] [] ([5],[11]) rfl) (wpAny_throw h))
end
section
variable {prog:Program}{w:World}{A:Around}{E:Value->Shared->Prop}{s:Shared}{C e:Addr}{m:Txt}{env:Env}
def I7 (A:Around)(h:Heap)(e:Addr)(E:Heap->Prop):Prop:=
 (A.handled=none/\E h)\/∃ a o vs,A.handled=some (.ref a)/\a≠e/\h.get? a=some o/\o.data = .fields vs/\vs[2]? = some .none/\E (AQ h e 2 (.ref a))
theorem Id {Q:Flow->Shared->Prop}(K:ClsAt C s.heap)(X:MadeAt C s.heap e m)(h:I7 A s.heap e λh'=>E (.ref e) { s with heap:=h' }) :
  wpAny (model prog w) A (do
   let e <- if <- isType (.ref e) then holding [.ref e] (raisedFor (.ref e) (.ref e)) else raisedInstance (.ref e)
   setFlight e none
   raiseNew e:Sem Flow) Q E s:=by
 obtain ⟨o,vs,T,tk,he,hc,hd,hsz,v0,v1,hT⟩:=id X
 refine bf (SG K he hc hd ?_)
 simp only [false_eq_true,if_false]
 refine bf (SF K he hc hd ?_)
 refine bf (GX X ?_)
 refine HL X ?_
 rcases h with ⟨h1,h2⟩ | ⟨a,oa,va,h1,h2,h3,h4,h5,h6⟩
 ·exact .inl ⟨h1,h2⟩
 ·exact .inr ⟨a,oa,va,h1,h2,h3,h4,h5,h6⟩
theorem Ie {k:Nat}{x:Value}(K:ClsAt C s.heap)(X:MadeAt C s.heap e m):ClsAt C (AQ s.heap e k x):=by
 obtain ⟨nm,q,N,bs,hdct,sn,sub,ab,col,dd,k0,k1,k2,k3,k5,mN,hC,⟨oN,es,ep,n1,n2,n3⟩,hno⟩:=K.at_
 obtain ⟨o,vs,T,tk,he,hc,hd,_⟩:=X
 have nC:C≠e:=λq=>by rw [q,he] at hC;cases hC;cases hd
 have nN:N≠e:=λq=>by rw [q,he] at n1;cases n1;rw [hd] at n2;cases n2
 exact ⟨nm,q,N,bs,hdct,sn,sub,ab,col,dd,k0,k1,k2,k3,k5,mN,(get?_update_other _ _ (Ne.symm nC)).trans hC,⟨oN,es,ep,(get?_update_other _ _ (Ne.symm nN)).trans n1,n2,n3⟩,hno⟩
theorem F8 {x:Sem Value}{Q:Flow->Shared->Prop}
  (h:wpAny (model prog w) A x (λv c0=>∃ e m,v = .ref e/\ClsAt C c0.heap/\MadeAt C c0.heap e m/\I7 A c0.heap e λh'=>E (.ref e) { c0 with heap:=h' }) E s):wpAny (model prog w) A (raiseStmt env (some x) none) Q E s:=by
 unfold raiseStmt
 refine bf (aW h (λv c0 z=>?_) λU U z=>z)
 obtain ⟨e,m,rfl,K,X,R⟩:=z
 obtain ⟨o,vs,T,tk,he,hc,hd,_⟩:=id X
 refine bf (bg (bf (be (Ic K he hc hd ?_))))
 exact Id K X R
theorem GY {x:Sem Value}{pos:Pos}{k:Nat}{Q:Flow->Shared->Prop}
  (h:wpAny (model prog w) A x (λv c0=>∃ e m,v = .ref e/\ClsAt C c0.heap/\MadeAt C c0.heap e m/\I7 A (AQ (AQ c0.heap e 3 .none) e 4 (.bool true)) e λh'=>E (.ref e) { c0 with heap:=h' }) E s) (c:Sem Value) (hc0:∀ (s:Shared) (Q:Value->Shared->Prop),Q .none s->wpAny (model prog w) A c Q E s) :
  wpAny (model prog w) A (raiseStmt env (some x) (some c)) Q E s:=by
 unfold raiseStmt
 refine bf (aW h (λv c0 z=>?_) λU U z=>z)
 obtain ⟨e,m,rfl,K,X,R⟩:=z
 obtain ⟨o,vs,T,tk,he,hc,hd,_⟩:=id X
 refine bf (be (hc0 _ _ ?_))
 refine bf (bg ?_)
 refine bf (be (Ic K he hc hd ?_))
 dsimp only
 rw [if_pos (show (Value.none==Value.none)=true from rfl)]
 refine bf (bg ?_)
 refine bf (C1 X (by exact la [] [] ([7],[11]) rfl) ?_)
 refine bf (C1 (s:={ c0 with heap:=AQ c0.heap e 3 .none }) (X.set (by decide) (by decide)) (by exact la [] [] ([9],[11]) rfl) ?_)
 exact Id (s:={ c0 with heap:=AQ (AQ c0.heap e 3 .none) e 4 (.bool true) }) (Ie (s:={ c0 with heap:=AQ c0.heap e 3 .none }) (Ie K X) (X.set (by decide) (by decide))) ((X.set (by decide) (by decide)).set (by decide) (by decide)) R
end
inductive NewExc (C:Addr)(start h:Heap)(e:Addr)(m:Txt):Prop
 | mk (k1:start.get? e=none) (o:Obj) (vs:Array Value) (T:Addr) (tk:Tok) (k2:h.get? e=some o) (k3:o.cls = .ref C) (k4:o.data = .fields vs) (k5:5<vs.size) (k6:vs[0]? = some (.ref T)) (k7:vs[1]? = some .none) (k8:IsTup h T #[.str (txt m) tk]) (k9:start.get? T=none):NewExc C start h e m
section
variable {W:Wd}{fm:Fm}{V α' α₁ w1:List Addr}{h h' h₁ start:Heap}{n:Nat}{A:Around}{ps ps':PS}{s s' c0:Shared}{H:Hd}{h₀:Heap}{own av av':List Addr}{y:Value}{x:Str}{t m:Txt}{C e:Addr}
theorem NewExc.made (X:NewExc C start h e m):MadeAt C h e m:=by
 obtain ⟨_,o,vs,T,tk,h1,h2,h3,h4,h5,h6,h7,_⟩:=X
 exact ⟨o,vs,T,tk,h1,h2,h3,h4,h5,h6,h7⟩
theorem NewExc.set (X:NewExc C start h e m){k:Nat}{x:Value}(k0:k≠0)(k1:k≠1):NewExc C start (AQ h e k x) e m:=by
 obtain ⟨hn,o,vs,T,tk,he,hc,hd,hsz,v0,v1,⟨oT,t1,t2,kk,t3⟩,hT⟩:=X
 have hd':=Obj.data_mapFields hd (·.setIfInBounds k x)
 have nT:T≠e:=λq=>by rw [q,he] at t1;cases t1;rw [hd] at t3;cases t3
 refine ⟨hn,_,_,T,tk,Heap.get?_update_self (Obj.mapFields (·.setIfInBounds k x)) he (Obj.isFreed_of_fields hd'),(Obj.cls_mapFields _ _).trans hc,hd',by simpa using hsz,?_,?_,⟨oT,(get?_update_other _ _ (Ne.symm nT)).trans t1,t2,kk,t3⟩,hT⟩
 ·rw [Array.getElem?_setIfInBounds_ne k0];exact v0
 ·rw [Array.getElem?_setIfInBounds_ne k1];exact v1
theorem NewExc.raised (X:NewExc W.H.toml start h e m):Raised W start h (.toml m) (.ref e):=by
 obtain ⟨hn,o,vs,T,tk,he,hc,hd,hsz,v0,v1,hI,hT⟩:=X
 exact ⟨e,o,vs,rfl,he,hc,hd,hsz,hn,⟨T,tk,v0,hT,hI⟩,.inl v1,trivial⟩
theorem NewExc.turn (X:NewExc C start h e m)(F:h.FunFrames ⟨#[],{}⟩ fm.stk)(k:Nat)(x:Value):Turn fm.stk [e] h (AQ h e k x):=by
 obtain ⟨hn,o,vs,T,tk,he,hc,hd,_⟩:=X
 exact (Turn.set (fm:=fm) F he hd ⟨(by rw [hc];exact λq=>(by cases q)),by rw [hc];exact λq=>(by cases q)⟩ (·.setIfInBounds k x)).1
inductive XcRes (W:Wd)(fm:Fm)(V:List Addr)(h:Heap)(r:R Txt)(v:Value)(s':Shared):Prop
 | mk (a:Addr) (t:Txt) (ps':PS) (α':List Addr) (k1:r = .ok t ps') (k2:v = .ref a) (k3:InvS W fm α' ps' s') (k4:Grow V α' h) (k5:Rel fm.stk fm.tab V h s'.heap) (k6:NewExc W.H.toml h s'.heap a t):XcRes W fm V h r v s'
abbrev SimXc.T (W:Wd)(n:Nat)(fm:Fm)(e:Expr)(mx:M Txt):Prop:=∀ A V ps s,Ctx W fm n A->InvS W fm V ps s->mx ps≠.stuck->wpAny W.m A (eval e fm.env) (λv s'=>XcRes W fm V s.heap (mx ps) v s') (ExE W fm V s.heap (mx ps)) s
structure SimXc (W:Wd)(n:Nat)(fm:Fm)(e:Expr)(mx:M Txt):Prop where
 go:SimXc.T W n fm e mx
noncomputable instance {W:Wd} {n:Nat} {fm:Fm} {e:Expr} {mx:M Txt}:CoeFun (SimXc W n fm e mx) (λU=>SimXc.T W n fm e mx):=⟨SimXc.go⟩
inductive HdlAt (h:Heap)(fm:Fm)(a:Addr):Prop
 | mk (o:Obj) (vs:Array Value) (k1:h.get? a=some o) (k2:o.data = .fields vs) (k3:vs[2]? = some .none):HdlAt h fm a
theorem HdlAt.rel (F:FmOk W.h₀ fm)(I:InvS W fm V ps s){a:Addr}(hav:a∉fm.av)(ho:∀ b∈own,b∈fm.av)(R:Rel fm.stk own V s.heap h')(q:HdlAt s.heap fm a):HdlAt h' fm a:=by
 obtain ⟨o,vs,he,hd,h2⟩:=q
 have nα:a∉V:=λz=>by
  obtain ⟨ws,o',e',_,k',d'⟩:=I.inv.lists.isList z
  rw [he] at e';cases e';rw [hd] at d';cases d'
 exact ⟨o,vs,R.keep _ _ he (λz=>hav (F.frsAv _ z)) (λz=>hav (ho _ z)) nα,hd,h2⟩
theorem CQ {v:Expr}{pos:Pos}{mx:M Txt}(hh:fm.hdl=none)(hv:SimXc W n fm v mx):SimT W n fm (.Raise (some v) none pos) (ac mx λt=>aL (.toml t)):=.mk λA V ps s C I ns=>by
 have hA:A.handled=none:=C.hdl.trans hh
 rw [arm_exec_Raise]
 refine bf (wpAny_standAt (F8 (C:=W.H.toml) ?_))
 refine bf (aW (hv A V ps s C I (Ad ns)) (λv s' z=>bf (wpAny_standAt (bg ?_))) λx s' z=>z.toS.bind)
 obtain ⟨a,t,ps',α',e,rfl,I',g,R,X⟩:=z
 refine ⟨a,t,rfl,C.hd.tomlC.keeps I'.inv.base,X.made,.inl ⟨hA,?_⟩⟩
 exact ⟨.toml t,ps',α',by rw [Ab e];rfl,I',g,R.up,X.raised⟩
theorem NewExc.step (C:Ctx W fm n A)(I:InvS W fm V ps s)(hs0:∀ b,start.get? b=none->W.h₀.get? b=none)(X:NewExc W.H.toml start s.heap e m)(R:Rel fm.stk own w1 start s.heap){k:Nat}{x:Value}(k0:k≠0)(k1:k≠1) :
  InvS W fm V ps { s with heap:=AQ s.heap e k x }/\Rel fm.stk own w1 start (AQ s.heap e k x)/\NewExc W.H.toml start (AQ s.heap e k x) e m:=by
 have T:=X.turn (fm:=fm) I.inv.frames k x
 have hc:∀ b∈[e],start.get? b=none:=λb q=>by rw [mem_singleton.mp q];exact X.1
 exact ⟨⟨I.inv.turn C.fm T λb q=>hs0 b (hc b q),I.gens,I.os⟩,R.turn T hc,X.set k0 k1⟩
abbrev SimSh.T (W:Wd)(n:Nat)(fm:Fm)(b:List Stmt)(m:M PFlow):Prop:=∀ A V ps s a,Ctx W fm n A->InvS W fm V ps s->fm.hdl=some (.ref a)->a∉fm.av->HdlAt s.heap fm a->m ps≠.stuck->wpAny W.m A (execs b fm.env) (OkS W fm V s.heap (m ps)) (ExS W fm V s.heap (m ps)) s
structure SimSh (W:Wd)(n:Nat)(fm:Fm)(b:List Stmt)(m:M PFlow):Prop where
 go:SimSh.T W n fm b m
noncomputable instance {W:Wd} {n:Nat} {fm:Fm} {b:List Stmt} {m:M PFlow}:CoeFun (SimSh W n fm b m) (λU=>SimSh.T W n fm b m):=⟨SimSh.go⟩
theorem LW {p:Pos}{k:Nat}{pos:Pos}{env:Env}{E:Value->Shared->Prop}(s:Shared)(Q:Value->Shared->Prop)(h:Q .none s):wpAny W.m A (do let v <- eval (.Constant .none k p) env;standAt pos;pure v) Q E s:=
 bf (bg (bf (wpAny_standAt (bg h))))
theorem Ev {v:Expr}{k:Nat}{p pos:Pos}{b:List Stmt}{mx:M Txt}(hv:SimXc W n fm v mx):SimSh W n fm (.Raise (some v) (some (.Constant .none k p)) pos::b) (ac mx λt=>aL (.toml t)):=.mk λA V ps s a C I hh hav hat ns=>by
 have hA:A.handled=some (.ref a):=C.hdl.trans hh
 have hs0:=I.none
 refine wpAny_execs_cons ?_
 rw [arm_exec_Raise]
 refine bf (wpAny_standAt (GY (C:=W.H.toml) (pos:=pos) (k:=k) ?_ _ λs Q h=>LW s Q h))
 refine bf (aW (hv A V ps s C I (Ad ns)) (λv s' z=>bf (wpAny_standAt (bg ?_))) λx s' z=>z.toS.bind)
 obtain ⟨e,t,ps',α',er,rfl,I',g,R,X⟩:=z
 obtain ⟨o,vs,ho,hd,h2⟩:=HdlAt.rel (own:=fm.tab) C.fm I hav C.fm.tabAv R hat
 have ne:a≠e:=λq=>by
  obtain ⟨o',vs',h1,_⟩:=hat
  rw [q,X.1] at h1;cases h1
 obtain ⟨I1,R1,X1⟩:=X.step C I' hs0 R.up (k:=3) (x:=.none) (by decide) (by decide)
 obtain ⟨I2,R2,X2⟩:=X1.step C I1 hs0 R1 (k:=4) (x:=.bool true) (by decide) (by decide)
 obtain ⟨I3,R3,X3⟩:=X2.step C I2 hs0 R2 (k:=2) (x:=.ref a) (by decide) (by decide)
 refine ⟨e,t,rfl,C.hd.tomlC.keeps I'.inv.base,X.made,.inr ⟨a,o,vs,hA,ne,?_,hd,h2,?_⟩⟩
 ·exact (get?_update_other _ _ (Ne.symm ne)).trans ((get?_update_other _ _ (Ne.symm ne)).trans ho)
 ·exact ⟨.toml t,ps',α',by rw [Ab er];rfl,I3,g,R3,X3.raised⟩
end
end Mi
end
section
open PySem PySem.W PyProof.Rows
set_option maxRecDepth 10000
namespace Mi
section
variable {W:Wd}{fm:Fm}{V α' α₁ w1:List Addr}{h h' h₁ start:Heap}{n:Nat}{A:Around}{ps ps':PS}{s s' c0:Shared}{H:Hd}{h₀:Heap}{own av av':List Addr}{y:Value}{x:Str}{t m:Txt}{C e:Addr}
theorem LX {st:Stmt}{b:List Stmt}{m r:M PFlow}(hm:SimT W n fm st m)(hr:SimSh W n fm b r):SimSh W n fm (st::b) (aj m r):=.mk λA V ps s a C I hh hav hat ns=>by
 unfold aj at ns ⊢
 refine wpAny_execs_cons (aW (hm A V ps s C I (Ad ns)) (λf c0 q=>?_) λx c0 q=>q.bind)
 obtain ⟨f,o0,α₁,y0,u0,l0,s0,rf⟩:=q
 rw [Ab y0] at ns ⊢
 cases rf with
 | next=>exact aW (hr A α₁ o0 c0 a C u0 hh hav (HdlAt.rel C.fm I hav C.fm.ownAv s0 hat) ns) (λU U q=>q.after l0 s0) λU U q=>q.after l0 s0
 | brk=>exact ⟨.brk,o0,α₁,rfl,u0,l0,s0,.brk⟩
 | cont=>exact ⟨.cont,o0,α₁,rfl,u0,l0,s0,.cont⟩
 | ret r=>exact ⟨.ret _,o0,α₁,rfl,u0,l0,s0,.ret r⟩
theorem Qd {t:Expr}{b:List Stmt}{pos:Pos}{mt:M Bool}{mb:M PFlow}(ht:SimB W n fm t mt)(hb:SimSh W n fm b mb):SimSh W n fm [.If t b [] pos] (ac mt λc=>if c then mb else ae .next):=.mk λA V ps s a C I hh hav hat ns=>by
 have key:wpAny W.m A (exec (.If t b [] pos) fm.env) (OkS W fm V s.heap (ac mt (λc=>if c then mb else ae .next) ps)) (ExS W fm V s.heap (ac mt (λc=>if c then mb else ae .next) ps)) s:=by
  refine wpAny_If (aW (ht A V ps s C I (Ad ns)) (λc c0 z=>?_) λx c0 z=>z.toS.bind)
  obtain ⟨o0,α₁,y0,u0,l0,s0⟩:=z
  rw [Ab y0] at ns ⊢
  cases c
  ·exact wpAny_execs_nil ⟨.next,o0,α₁,rfl,u0,l0,s0.up,.next⟩
  ·exact aW (hb A α₁ o0 c0 a C u0 hh hav (HdlAt.rel (own:=fm.tab) C.fm I hav C.fm.tabAv s0 hat) ns) (λU U q=>q.after l0 s0.up) λU U q=>q.after l0 s0.up
 refine wpAny_execs_cons (aW key (λf c0 z=>?_) λU U z=>z)
 obtain ⟨p,o0,α₁,y0,u0,l0,s0,rf⟩:=z
 cases rf with
 | next=>exact wpAny_execs_nil ⟨.next,o0,α₁,y0,u0,l0,s0,.next⟩
 | brk=>exact ⟨.brk,o0,α₁,y0,u0,l0,s0,.brk⟩
 | cont=>exact ⟨.cont,o0,α₁,y0,u0,l0,s0,.cont⟩
 | ret r=>exact ⟨.ret _,o0,α₁,y0,u0,l0,s0,.ret r⟩
theorem Fz {T:String}{t:Str}{i:Nat}{tp hp pos:Pos}{b:List Stmt}{b0:Stmt}{suite:List Stmt}{m hm:M PFlow}(F:StdX T)(ht:(t,NameKind.globalImplicit,i)∈fm.sc)(hf:t∈BF)(hn:t≠"__name__")(hd:(t==("__debug__":Str))=false)(hbt:bootBuiltins t=some (.type T))
  (hb:SimS W n fm b m) (hh:∀ y,SimSh W n (fm.mark y) (b0::suite) hm):SimT W n fm (.Try b [.ExceptHandler (some (.Name t tp)) none (b0::suite) hp] [] [] pos) (aE (H1 T hm) m):=by
 refine Ia hb λA V ps s e x hm' w1 start C hs0 hlive I g R X hX ns=>?_
 cases e with
 | toml t=>exact (by cases hX)
 | std c=>
  by_cases hc:c=T
  ·subst hc
   have hX:some hm=some hm':=(if_pos rfl:(if c=c then some hm else none)=some hm).symm.trans hX
   obtain rfl:=aT hX
   have X':=X
   obtain ⟨a,oe,vs,rfl,ha,hcl,hrest⟩:=X
   refine wpAny_handleBy_cons (codeAny_handlers_test (BX (C.mark (y:=.ref a)) I.mark hf hn hbt ht hd ?_)) (by intro q;cases q)
   refine wpAny_excMatches_type ⟨oe,ha,hcl⟩ F.exc F.nt F.self ?_
   refine codeAny_handlers_suite ?_
   refine Cz (C.mark (y:=.ref a)) I.mark R hs0 X' _ λw3 Y2 v4 i5=>?_
   obtain ⟨a',oe',vs',ea,ha',hc',hd',hsz',hna',_,_,hctx⟩:=i5
   cases ea
   have hav:a∉fm.av:=λq=>by have:=hlive a q;rw [hna'] at this;cases this
   refine aW (hh (.ref a) _ V ps _ a C.mark Y2 rfl hav ⟨oe',vs',ha',hd',hctx⟩ ns) (λf X4 z=>?_) λy X4 z=>?_
   ·exact OkS.unmark (y:=.ref a) (z.after g v4)
   ·exact LR (y:=.ref a) C hs0 (z.after g v4)
  ·have hX:none=some hm':=(if_neg hc:(if c=T then some hm else none)=none).symm.trans hX
   exact (by cases hX)
end
section
variable {W:Wd}{fm:Fm}{V α' α₁ w1:List Addr}{h h' h₁ start:Heap}{n:Nat}{A:Around}{ps ps':PS}{s s' c0:Shared}{H:Hd}{h₀:Heap}
theorem GZ {x:Txt}(ns:au x ps≠.stuck):x.length<=sizeLine/\au x ps = .ok (.str x) ps:=by
 unfold au at ns ⊢
 by_cases q:x.length<=big
 ·rw [if_pos q];exact ⟨Bd▸q,rfl⟩
 ·rw [if_neg q] at ns;exact absurd rfl ns
theorem Ig {i:Int}(h:Ah i=true):i.natAbs.log2<1920:=by
 have:i.natAbs<1073741824:=aX h
 by_cases z:i.natAbs=0
 ·rw [z];decide
 ·have:=(Nat.log2_lt z).mpr (show i.natAbs<2 ^ 30 from this)
  exact la [_] [([2,3,0],[61])] ([2,3,0],[3841]) rfl this
theorem M9 (i:Int):txt (BA i)=Str.ofString (toString i):=BB _
set_option tactic.hygienic true in
theorem I8 {v:Expr}{pos:Pos}{m:M PV}(hv:SimE W n fm v m):SimE W n fm (.FormattedValue v (-1) none pos) (ac m Ec):=.mk λA V ps s C I ns=>by
 refine wpAny_FormattedValue_plain (Ai.seq (hv A V ps s C I (Ad ns)) (λp v α₁ o0 c0 u0 l0 s0 Z0 y0=>?_) λx c0 q=>q.bind)
 rw [Ab y0] at ns ⊢
 cases p <;> (try exact absurd rfl ns)
 ·rename_i i
  obtain ⟨t,rfl⟩:=Z0.inv
  have ns':ak (Ah i) (ae (PV.str (BA i))) o0≠.stuck:=ns
  obtain ⟨c,e⟩:=Ak ns'
  refine aW (Q:=OkE W fm α₁ c0.heap (ae (PV.str (BA i)) o0)) (E:=λU U=>False) ?_ (λU U q=>?_) λU U z=>z.elim
  ·refine wpAny_formatField_int (Ig c) ?_
   have:=OkE.same (t:=c0.toks+1+1) u0 (RepV.str (H:=W.H) (h₀:=W.h₀) (av:=fm.av) (V:=α₁) (h:=c0.heap) (BA i) (c0.toks+1))
   rw [M9] at this
   exact this
  ·have eq:Ec (.int i) o0=ae (PV.str (BA i)) o0:=e
   rw [eq];exact q.after l0 s0
 ·rename_i x
  obtain ⟨t,rfl⟩:=Z0.inv
  have ns':au x o0≠.stuck:=ns
  obtain ⟨hl,e⟩:=GZ ns'
  have eq:Ec (.str x) o0 = .ok (.str x) o0:=e
  rw [eq]
  exact wpAny_formatField_str ((OkE.same' u0 (.str x t)).after l0 s0) ((OkE.same (t:=c0.toks+1) u0 (.str x c0.toks)).after l0 s0) (by rw [AD];exact hl)
set_option tactic.hygienic true in
theorem G0 {v:Expr}{pos:Pos}{m:M PV}(hv:SimE W n fm v m):SimE W n fm (.FormattedValue v 114 none pos) (ac m GI):=.mk λA V ps s C I ns=>by
 refine wpAny_FormattedValue_repr (Ai.seq (hv A V ps s C I (Ad ns)) (λp v α₁ o0 c0 u0 l0 s0 Z0 y0=>?_) λx c0 q=>q.bind)
 rw [Ab y0] at ns ⊢
 cases p <;> (try exact absurd rfl ns)
 rename_i x
 obtain ⟨t,rfl⟩:=Z0.inv
 have ns':au (AY x) o0≠.stuck:=ns
 obtain ⟨hl,e⟩:=GZ ns'
 have eq:GI (.str x) o0 = .ok (.str (AY x)) o0:=e
 have et:reprText (txt x)=txt (AY x):=(BB _).symm
 rw [eq]
 refine pyReprObj_str ?_ (by rw [et,AD];exact hl)
 rw [et]
 exact wpAny_formatField_str ((OkE.same (t:=c0.toks+1) u0 (.str (AY x) _)).after l0 s0) ((OkE.same (t:=c0.toks+1+1) u0 (.str (AY x) _)).after l0 s0) (by rw [AD];exact hl)
set_option tactic.hygienic true in
theorem Qe {R0:R PV}(C:Ctx W fm n A):∀ {es:List Expr} {ms:List (M PV)},All2 (SimE W n fm) es ms->∀ (acc:Txt) (V:List Addr) (ps:PS) (s:Shared),InvS W fm V ps s->Grow w1 V start->Rel fm.stk fm.tab w1 start s.heap->R0=ay ms acc ps->R0≠.stuck ->
  Joins W.m A (ExE W fm w1 start R0) (evalEach es fm.env) (txt acc) (λout c0=>out.length<=sizeLine/\OkE W fm w1 start R0 (.str out c0.toks) { c0 with toks:=c0.toks+1 }) s:=by
 intro _ _ hS
 induction hS with
 | nil=>
  intro acc V ps s I g x e ns
  have ns':au acc ps≠.stuck:=by rw [e] at ns;exact ns
  obtain ⟨hl,e'⟩:=GZ ns'
  refine ⟨by rw [AD];exact hl,.str acc,ps,V,e.trans e',I.tok _,g,x,.str acc _⟩
 | @cons v m es ms q qs ih=>
  intro acc V ps s I g x e ns
  have eq:R0=ac m (λv=>match v with
   | .str t=>ak ((acc++t).length<=big) (ay ms (acc++t))
   | _=>aq) ps:=e
  show wpAny W.m A (eval v fm.env) _ _ s
  refine Ai.seq (q A V ps s C I (Ad (eq▸ns))) (λp v α₁ o0 c0 u0 l0 s0 Z0 y0=>?_) λy c0 z=>by rw [eq];exact z.bind.after g x
  rw [Ab y0] at eq
  cases p <;> (try exact absurd eq ns)
  rename_i t
  obtain ⟨tk,rfl⟩:=Z0.inv
  have eq:R0=ak ((acc++t).length<=big) (ay ms (acc++t)) o0:=eq
  have ns':ak ((acc++t).length<=big) (ay ms (acc++t)) o0≠.stuck:=λz=>ns (eq.trans z)
  obtain ⟨c,e2⟩:=Ak ns'
  rw [decide_eq_true_eq] at c
  refine ⟨txt t,tk,rfl,by rw [D1,AD,<- Bd];exact c,?_⟩
  rw [D1]
  exact ih (acc++t) α₁ o0 c0 u0 (g.trans l0 x) (x.trans s0 g.new) (eq.trans e2) ns
theorem Dr {e1 e2:Expr}{es:List Expr}{ms:List (M PV)}{pos:Pos}(q:All2 (SimE W n fm) (e1::e2::es) ms):SimE W n fm (.JoinedStr (e1::e2::es) pos) (ay ms []):=.mk λA V ps s C I ns=>
 wpAny_JoinedStr (Qe C q [] V ps s I (.refl ..) (.refl ..) rfl ns)
end
def EY:PV->M PV
 | .int i=>ae (.int (-i))
 | _=>aq
def FA (W5 X5:CmpOp)(a b:PV)(mc:M PV):M PV:=
 ac (Au W5 a b) λc=>ac (tst c) λt=>if t then ac mc λd=>Au X5 b d else ae c
def Ov {K:Type}(enc:K->PV)(ks:List K)(l:List PV):M PV:=ae (.dct (ks.map enc) l)
section
variable {W:Wd}{fm:Fm}{V α' α₁ w1:List Addr}{h h' h₁ start:Heap}{n:Nat}{A:Around}{ps ps':PS}{s s' c0:Shared}{H:Hd}{h₀:Heap}
theorem Cd {e:Expr}{pos:Pos}{m:M PV}(he:SimE W n fm e m):SimE W n fm (.UnaryOp .USub e pos) (ac m EY):=.mk λA V ps s C I ns=>by
 refine wpAny_UnaryOp (Ai.seq (he A V ps s C I (Ad ns)) (λa va α₁ o0 c0 u0 l0 s0 ra y0=>?_) λx c0 q=>q.bind)
 rw [Ab y0] at ns ⊢
 cases a <;> (try exact absurd rfl ns)
 obtain ⟨_,rfl⟩:=ra.inv
 exact PySem.P.neg_int ((OkE.same u0 (.int _ _)).after l0 s0)
theorem Ih {l Z0 j4:Expr}{W5 X5:CmpOp}{pos:Pos}{ml X7 Y7:M PV}(hl:SimE W n fm l ml)(h1:SimE W n fm Z0 X7)(h2:SimE W n fm j4 Y7)(hm:lastMarks [W5,X5] [Z0,j4]=false) :
  SimE W n fm (.Compare l [W5,X5] [Z0,j4] pos) (ac ml λa=>ac X7 λb=>FA W5 X5 a b Y7):=.mk λA V ps s C I ns=>by
 refine Compare_chain (Ai.seq (hl A V ps s C I (Ad ns)) (λa va α₁ o0 c0 u0 l0 s0 ra y0=>?_) λx c0 q=>q.bind) hm
 rw [Ab y0] at ns ⊢
 refine chain_link (Ai.seq (h1 A α₁ o0 c0 C u0 (Ad ns)) (λb vb Y0 Z1 z0 Y1 W0 X0 rb W1=>?_) λx c0 q=>q.bind.after l0 s0)
 rw [Ab W1] at ns ⊢
 unfold FA at ns ⊢
 refine Ai.seq (IU W5 A Y0 Z1 z0 a b va vb C Y1 (u0.stays C X0 W0 ra) rb (Ad ns)) (λc vc W4 w4 v3 Y2 W3 i4 rc Z3=>?_) λx c0 q=>(q.bind.after W0 X0).after l0 s0
 rw [Ab Z3] at ns ⊢
 obtain ⟨t,tb,et⟩:=LE (Ad ns)
 rw [Ab et] at ns ⊢
 have hv:=Es rc tb
 subst hv
 refine wpAny_truthy_bool ?_
 cases t with
 | false=>
  simp only [false_eq_true,if_false]
  exact ((OkE.same' Y2 rc).after W3 i4 |>.after W0 X0).after l0 s0
 | true=>
  simp only [if_true] at ns ⊢
  refine chain_last (Ai.seq (h2 A W4 w4 v3 C Y2 (Ad ns)) (λd vd y5 w5 X4 r6 u5 z5 rd f7=>?_) λx c0 q=>((q.bind.after W3 i4).after W0 X0).after l0 s0)
  rw [Ab f7] at ns ⊢
  have rb':=Y2.stays C z5 u5 (Y1.stays C i4 W3 rb)
  exact aW (IU X5 A y5 w5 X4 b d vb vd C r6 rb' rd ns) (λU U q=>(((q.after u5 z5).after W3 i4).after W0 X0).after l0 s0) (λU U q=>(((q.after u5 z5).after W3 i4).after W0 X0).after l0 s0)
def TS (W:Wd)(fm:Fm){K:Type}[DecidableEq K](knd:KeyKind W.H.prog W.H.w K)(e:Expr)(k:K):Prop:=
 ∀ A s (Q:Value->Shared->Prop) (E:Value->Shared->Prop),(∀ v tk,knd.is k v=true->Q v { s with toks:=tk })->wpAny W.m A (eval e fm.env) Q E s
theorem V8 {i:Int}{k:Nat}{pos:Pos}:TS W fm (intKind _ _) (.Constant (.int i) k pos) i:=λA s Q E h=>wpAny_Constant_int (h _ _ (intKind_is _ _ _ _))
def Fm.more (fm:Fm)(D:Addr):Fm:={ fm with av:=D::fm.av }
inductive SimD (W:Wd)(n:Nat)(fm:Fm){K:Type}[DecidableEq K](knd:KeyKind W.H.prog W.H.w K):List (Option Expr)->List Expr->List K->List (M PV)->Prop
 | nil:SimD W n fm knd [] [] [] []
 | cons {ke ve:Expr} {k:K} {m:M PV} {kes:List (Option Expr)} {ves:List Expr} {ks:List K} {ms:List (M PV)} (hk:∀ D,TS W (fm.more D) knd ke k) (hv:∀ D,SimE W n (fm.more D) ve m) (r:SimD W n fm knd kes ves ks ms):SimD W n fm knd (some ke::kes) (ve::ves) (k::ks) (m::ms)
variable {K:Type}[DecidableEq K]{knd:KeyKind W.H.prog W.H.w K}
theorem SimD.facts:∀ {kes:List (Option Expr)} {ves:List Expr} {ks:List K} {ms:List (M PV)},SimD W n fm knd kes ves ks ms->kes.all (·.isSome)=true/\kes.length=ves.length/\kes.length=ks.length:=by
 intro _ _ _ _ hS
 induction hS with
 | nil=>

  exact ⟨rfl,rfl,rfl⟩
 | @cons ke ve k m kes ves ks ms hk hv r ih=>

  obtain ⟨h1,h2,h3⟩:=ih
  exact ⟨by simp [h1],by simp [h2],by simp [h3]⟩
theorem Qf {pos:Pos}{D:Addr}:∀ {kes:List (Option Expr)} {ves:List Expr} {ks:List K} {ms:List (M PV)},SimD W n fm knd kes ves ks ms->∀ A V ps s,Ctx W (fm.more D) n A->InvS W (fm.more D) V ps s->ag ms ps≠.stuck ->
  wpAny W.m A (evalPairs (pairTrees kes ves (fm.more D).env pos)) (λvs s'=>OkL W (fm.more D) V s.heap (ag ms ps) (vs.map (·.2)) s'/\Carries knd vs (ks.zip (vs.map (·.2)))/\vs.length=ks.length) (ExE W (fm.more D) V s.heap (ag ms ps)) s:=by
 intro _ _ _ _ hS
 induction hS with
 | nil=>
  intro A V ps s C I ns
  exact pairTrees_nil_walk ⟨⟨[],ps,V,rfl,I,.refl ..,.refl ..,.nil⟩,trivial,rfl⟩
 | @cons ke ve k m kes ves ks ms hk hv r ih=>
  intro A V ps s C I ns
  have ns':ac m (λv=>ac (ag ms) λvs=>ae (v::vs)) ps≠.stuck:=ns
  have eq:ag (m::ms) ps=ac m (λv=>ac (ag ms) λvs=>ae (v::vs)) ps:=rfl
  rw [eq]
  refine pairTrees_cons_walk (hk D A s _ _ λkv tk hkv=>?_)
  refine Ai.seq (hv D A V ps { s with toks:=tk } C (I.tok tk) (Ad ns')) (λp v α₁ o0 c0 u0 l0 s0 Z0 y0=>?_) λx c0 q=>q.bind
  rw [Ab y0] at ns' ⊢
  refine aW (ih A α₁ o0 c0 C u0 (Ad ns')) (λvs z0 q=>?_) λx z0 q=>q.bind.after l0 s0
  obtain ⟨⟨l,Z1,Y0,W1,Y1,W0,X0,j4⟩,hc,hl⟩:=q
  rw [Ab W1]
  exact ⟨⟨p::l,Z1,Y0,rfl,Y1,l0.trans W0 s0,s0.trans X0 l0.new,.cons (u0.stays C X0 W0 Z0) j4⟩,⟨hkv,rfl,hc⟩,by simp [hl]⟩
theorem LY (acc:List (K × Value))(k:K)(v:Value)(hn:k∉acc.map (·.1)):stored acc k v=acc++[(k,v)]:=by
 unfold stored
 rw [if_neg]
 intro q
 obtain ⟨kv,h1,h2⟩:=any_eq_true.mp q
 exact hn (mem_map.mpr ⟨kv,h1,by simpa using h2⟩)
theorem LZ (kvs:List (K × Value)):∀ (acc:List (K × Value)),((acc++kvs).map (·.1)).Nodup->merged acc kvs=acc++kvs:=by
 induction kvs with
 | nil=>intro acc _;simp [merged]
 | cons p kvs ih=>
  obtain ⟨k,v⟩:=p
  intro acc h
  have hk:k∉acc.map (·.1):=by
   intro q
   rw [map_append,nodup_append] at h
   exact h.2.2 k q k (by simp) rfl
  have:=ih (acc++[(k,v)]) (by simpa using h)
  show merged (stored acc k v) kvs=_
  rw [LY acc k v hk,this];simp
theorem Ow (enc:K->PV)(he:∀ {V:List Addr} {h:Heap} {k:K} {v:Value},knd.is k v=true->W.rep fm V h (enc k) v){ks:List K}:∀ {es:List DictEntry} {l:List PV} {vs:List Value},Pairs knd es (ks.zip vs)->ks.length=vs.length->RepL W.H W.h₀ fm.av V h l vs ->
  RepL W.H W.h₀ fm.av V h (ks.map enc) (es.map (·.key))/\RepL W.H W.h₀ fm.av V h l (es.map (·.val)):=by
 induction ks with
 | nil=>
  intro es l vs p hl r
  cases eq_nil_of_length_eq_zero hl.symm
  cases p;cases r;exact ⟨.nil,.nil⟩
 | cons k ks ih=>
  intro es l vs p hl r
  cases vs with
  | nil=>cases hl
  | cons v vs=>
   cases p with
   | cons h1 h2 p=>
    obtain ⟨_,_,rfl,r,rs⟩:=r.inv'
    obtain ⟨q1,q2⟩:=ih p (Nat.succ.inj hl) rs
    exact ⟨.cons (he h1) q1,.cons (by have h2:_=v:=h2;subst h2;exact r) q2⟩
theorem SH {ks:List K}:∀ {vs:List Value},ks.length=vs.length->(ks.zip vs).map (·.1)=ks:=by
 induction ks with
 | nil=>exact λU=>rfl
 | cons k ks ih=>
  intro vs h
  cases vs with
  | nil=>cases h
  | cons v vs=>exact congrArg (k::·) (ih (Nat.succ.inj h))
theorem Ctx.more {D:Addr}(C:Ctx W fm n A)(hD:W.h₀.get? D=Option.none):Ctx W (fm.more D) n A:=
 ⟨C.frames,C.depth,C.units,C.hdl,C.tab,⟨C.fm.kind,C.fm.glob,C.fm.bi,mem_cons_of_mem _ C.fm.locAv,C.fm.locOwn,λa h=>mem_cons_of_mem _ (C.fm.ownAv a h),λa h=>mem_cons_of_mem _ (C.fm.frsAv a h),λa h=>by
  rcases mem_cons.mp h with q | q
  ·rw [q];exact hD
  ·exact C.fm.fresh a q,C.fm.kinds,C.fm.once,C.fm.cellOwn,C.fm.cellApart,C.fm.frame⟩,C.hd⟩
theorem InvS.more {D:Addr}(I:InvS W fm V ps s)(nD:s.heap.get? D=Option.none)(x:Rel fm.stk fm.tab V s.heap s'.heap)(J:InvS W fm V ps s')(hs:(s'.heap.get? D).isSome=true)(kp:∀ b o,s.heap.get? b=some o->s'.heap.get? b=some o):InvS W (fm.more D) V ps s':=by
 have st:∀ a∈(fm.more D).av,a∈fm.av\/s.heap.get? a=Option.none:=λa h=>by
  rcases mem_cons.mp h with q | q
  ·rw [q];exact .inr nD
  ·exact .inl q
 have nα:D∉V:=λz=>by
  obtain ⟨ws,o,e,_⟩:=I.inv.lists.isList z
  rw [nD] at e;cases e
 have pre:V <+: V:=prefix_refl _
 have rep:∀ {p v},OptRep W.H W.h₀ fm.av V s.heap p v->OptRep W.H W.h₀ (fm.more D).av V s'.heap p v:=λr=>r.map λr=>(r.strong st).keeps kp pre
 refine ⟨⟨J.inv.base,?_,λx k i hx hk=>?_,⟨I.inv.lists.len,λi l e=>?_,I.inv.lists.nodup,I.inv.lists.fresh,λa m q=>?_⟩,λa m=>?_,J.inv.frames,J.inv.tabs⟩,J.gens,J.os⟩
 ·obtain ⟨m,n1,n2⟩:=I.inv.loc
  exact ⟨m,n1.keeps kp,λx i hm=>rep (n2 x i hm)⟩
 ·obtain ⟨c,v,q1,q2,q3,⟨o,q4,q4'⟩,q5⟩:=I.inv.cel x k i hx hk
  exact ⟨c,v,q1,mem_cons_of_mem _ q2,q3,⟨o,kp _ _ q4,q4'⟩,rep q5⟩
 ·obtain ⟨a,vs,h1,h2,h3⟩:=I.inv.lists.at_ i l e
  exact ⟨a,vs,h1,h2.at (kp _),(h3.strong st).keeps kp pre⟩
 ·rcases mem_cons.mp q with q | q
  ·exact nα (q▸m)
  ·exact I.inv.lists.apart a m q
 ·rcases mem_cons.mp m with q | q
  ·rw [q];exact hs
  ·exact J.inv.live a q
theorem InvS.less {D:Addr}(I:InvS W (fm.more D) V ps s)(hD:∀ v,¬ s.heap.IsCell D v):InvS W fm V ps s:=by
 have wk:∀ a,a∈fm.av->a∈(fm.more D).av:=λa m=>mem_cons_of_mem _ m
 have rep:∀ {p v},OptRep W.H W.h₀ (fm.more D).av V s.heap p v->OptRep W.H W.h₀ fm.av V s.heap p v:=λr=>r.map λr=>r.weak wk
 refine ⟨⟨I.inv.base,?_,λx k i hx hk=>?_,⟨I.inv.lists.len,λi l e=>?_,I.inv.lists.nodup,I.inv.lists.fresh,λa m q=>I.inv.lists.apart a m (wk a q)⟩,λa m=>I.inv.live a (wk a m),I.inv.frames,I.inv.tabs⟩,I.gens,I.os⟩
 ·obtain ⟨m,n1,n2⟩:=I.inv.loc
  exact ⟨m,n1,λx i hm=>rep (n2 x i hm)⟩
 ·obtain ⟨c,v,q1,q2,q3,q4,q5⟩:=I.inv.cel x k i hx hk
  refine ⟨c,v,q1,?_,q3,q4,rep q5⟩
  rcases mem_cons.mp q2 with z | z
  ·exact absurd q4 (z▸hD v)
  ·exact z
 ·obtain ⟨a,vs,h1,h2,h3⟩:=I.inv.lists.at_ i l e
  exact ⟨a,vs,h1,h2,h3.weak wk⟩
theorem ExE.less {D:Addr}{β:Type}{r:R β}{x:Value}(hD:∀ v,¬ s'.heap.IsCell D v)(q:ExE W (fm.more D) V h r x s'):ExE W fm V h r x s':=by
 obtain ⟨e,ps',α',er,I,g,R,X⟩:=q
 exact ⟨e,ps',α',er,I.less hD,g,R,X⟩
theorem Qg (enc:K->PV)(he:∀ {V:List Addr} {h:Heap} {k:K} {v:Value},knd.is k v=true->W.rep fm V h (enc k) v)
  (fin:∀ {ks vs:List PV} {a:Addr} {o:Obj} {es:Array DictEntry} {ep:Nat} {V:List Addr} {h:Heap},(a∉fm.av/\(a==sysModules)=false)->h.get? a=some o->o.ExactDict->o.data = .dict es ep->KeysOf knd es ->
   RepL W.H W.h₀ fm.av V h ks (es.toList.map (·.key))->RepL W.H W.h₀ fm.av V h vs (es.toList.map (·.val))->W.rep fm V h (.dct ks vs) (.ref a))
  {kes:List (Option Expr)} {ves:List Expr} {ks:List K} {ms:List (M PV)} {pos:Pos} (q:SimD W n fm knd kes ves ks ms) (hn:ks.Nodup) (h0:kes≠[]) (hlen:kes.length<=15) :
  SimE W n fm (.Dict kes ves pos) (ac (ag ms) (Ov enc ks)):=.mk λA V ps s C I ns=>by
 obtain ⟨f1,f2,f3⟩:=q.facts
 have nD:s.heap.get? s.heap.objs.size=none:=Az _
 have navD:s.heap.objs.size∉fm.av:=Bi I nD
 have nα:s.heap.objs.size∉V:=λz=>by
  obtain ⟨ws,o,e,_⟩:=I.inv.lists.isList z
  rw [nD] at e;cases e
 have kp:∀ b o,s.heap.get? b=some o->(s.heap.push { cls:=.type "dict",data:=.dict #[] }).get? b=some o:=λb o e=>get?_push_of_some _ e
 have nDt:s.heap.objs.size∉fm.tab:=λm=>navD (C.fm.tabAv _ m)
 have P:InvS W (fm.more s.heap.objs.size) V ps { s with heap:=s.heap.push { cls:=.type "dict",data:=.dict #[] } }:=I.more nD (.of_keeps kp) (BL I _) (by rw [get?_push_size _ rfl];rfl) kp
 refine wpAny_Dict_walk (knd:=knd) f1 f2 h0 hlen ?_
 refine aW (Qf (D:=s.heap.objs.size) q A V ps _ (C.more (I.none _ nD)) P (Ad ns)) (λvs c0 z=>?_) λx c0 z=>?_
 rotate_left
 ·have z2:=z
  obtain ⟨_,_,_,_,_,_,Rz,_⟩:=z2
  refine ExE.less (λv hv=>?_) (z.bind.after (.refl ..) (.of_keeps kp))
  have eD:=Rz.keep _ _ (get?_push_size _ rfl) (λz=>navD (C.fm.frsAv _ z)) nDt nα
  obtain ⟨o,e1,e2⟩:=hv
  rw [eD] at e1;cases e1;cases e2
 obtain ⟨⟨l,o0,α₁,y0,u0,l0,s0,Z0⟩,hc,hl⟩:=z
 rw [Ab y0]
 have hl2:ks.length=(vs.map (·.2)).length:=by rw [length_map,hl]
 have keepD:∀ o,(s.heap.push { cls:=.type "dict",data:=.dict #[] }).get? s.heap.objs.size=some o->c0.heap.get? s.heap.objs.size=some o:=λo e=>
  s0.keep _ o e (λz=>navD (C.fm.frsAv _ z)) nDt nα
 refine ⟨ks.zip (vs.map (·.2)),hc,(Heap.DictOf.new s.heap).at keepD,λh' hd hs=>?_⟩
 rw [LZ _ [] (by rw [nil_append,SH hl2];exact hn),nil_append] at hd
 obtain ⟨o,es,ep,ho,hx,hdt,hk,hp,_⟩:=hd
 have nsys:(s.heap.objs.size==sysModules)=false:=by
  refine bv.mpr λz=>?_
  obtain ⟨o,eo⟩:=aZ.mp C.hd.sysm
  have:=I.inv.base _ _ eo
  rw [<- z,nD] at this;cases this
 have mem:s.heap.objs.size∈(fm.more s.heap.objs.size).av:=mem_cons_self ..
 have hα:∀ b∈α₁,b≠s.heap.objs.size:=λb m q=>u0.inv.lists.apart b m (q▸mem)
 have J:InvS W (fm.more s.heap.objs.size) α₁ o0 { c0 with heap:=h',toks:=c0.toks+vs.length }:=by
  refine ⟨u0.inv.mine (C.more (I.none _ nD)).fm hs mem (by rw [ho];rfl) (λo' eo=>⟨(λvs q=>by rw [keepD _ (get?_push_size _ rfl)] at eo;cases eo;cases q),o,ho,λvs q=>by rw [hdt] at q;cases q⟩) rfl ?_ λx k i hx hkk=>?_,u0.gens,u0.os⟩
  ·obtain ⟨m,⟨oL,eL,epL,n1,n2,n3⟩,nr⟩:=u0.inv.loc
   have nL:fm.env.locals≠s.heap.objs.size:=λq=>navD (q▸C.fm.locAv)
   exact ⟨m,⟨oL,eL,epL,(hs.2 _ nL).trans n1,n2,n3⟩,λx i hm=>(nr x i hm).same hs mem hα⟩
  ·obtain ⟨c,v,q1,q2,q3,⟨oc,q4,q4'⟩,q5⟩:=u0.inv.cel x k i hx hkk
   refine ⟨c,v,q1,q2,q3,⟨oc,(hs.2 c λq=>?_).trans q4,q4'⟩,q5.same hs mem hα⟩
   have eD:=keepD _ (get?_push_size _ rfl)
   rw [q,eD] at q4;cases q4;cases q4'
 have x2:Rel fm.stk fm.tab V s.heap h':=by
  have x0:=(Rel.of_keeps (stk:=fm.stk) (own:=fm.tab) (V:=V) kp).trans s0 λa m q=>absurd m q
  exact ⟨λb o e m1 m2 m3=>(hs.2 b λq=>by rw [q,nD] at e;cases e).trans (x0.keep b o e m1 m2 m3),λb o e m1 m2 m3=>by
   obtain ⟨sl,e'⟩:=x0.slot b o e m1 m2 m3
   exact ⟨sl,(hs.2 b λq=>by rw [q,nD] at e;cases e).trans e'⟩,λb e=>by
   by_cases q:b=s.heap.objs.size
   ·rw [q];exact nD
   ·exact x0.live b ((hs.2 b q).symm.trans e)⟩
 obtain ⟨q1,q2⟩:=Ow (fm:=fm) enc he hp hl2 (RepL.weak (λa m=>mem_cons_of_mem _ m) (RepL.same (fm:=fm.more s.heap.objs.size) hs mem hα Z0))
 exact ⟨.dct (ks.map enc) l,o0,α₁,rfl,J.less (λv hv=>by obtain ⟨oc,e1,e2⟩:=hv;rw [ho] at e1;cases e1;rw [hdt] at e2;cases e2),⟨l0.pre,λa m q=>Rel.live (Rel.of_keeps (stk:=fm.stk) (own:=fm.tab) (V:=V) kp) a (l0.new a m q)⟩,x2,fin ⟨navD,nsys⟩ ho hx hdt hk q1 q2⟩
theorem Ox {kes:List (Option Expr)}{ves:List Expr}{ks:List Int}{ms:List (M PV)}{pos:Pos}(q:SimD W n fm (intKind _ _) kes ves ks ms)(hn:ks.Nodup)(h0:kes≠[])(hlen:kes.length<=15) :
  SimE W n fm (.Dict kes ves pos) (ac (ag ms) (Ov .int ks)):=
 Qg .int (λh=>by obtain ⟨t,rfl⟩:=Value.isInt_shape h;exact .int _ t) (λh1 h2 h3 h4 h5 h6 h7=>.dct h1 h2 h3 h4 (.inr h5) h6 h7) q hn h0 hlen
end
def aF (js:List Nat)(m:M PV):M PV:=λs=>match m ⟨λi=>if i∈js then none else s.loc i,s.st⟩ with
 | .ok v s'=>.ok v ⟨s.loc,s'.st⟩
 | _=>.stuck
def HM (cells:List (Str × Addr)):List (Str × NameKind)->List (Str × Addr)->List (Str × Addr)
 | [],acc=>acc
 | (x,k)::r,acc=>HM cells r (if k==.free then (x,(cells.lookup x).getD 0)::acc else acc)
theorem SJ {env:Env}:∀ (names:List (Str × NameKind)) (acc:List (Str × Addr)),(∀ y∈names,y.2 = .free->(env.cells.lookup y.1).isSome=true) ->
  (forIn names acc λ(x:Str × NameKind) (cs:List (Str × Addr))=>(if (x.2==.free)=true then do let c <- cellOf env x.1;pure (ForInStep.yield ((x.1,c)::cs)) else pure (ForInStep.yield cs):Sem _))=pure (HM env.cells names acc):=by
 intro names
 induction names with
 | nil=>intro acc _;rw [forIn_nil];rfl
 | cons xk r ih=>
  intro acc h
  obtain ⟨x,k⟩:=xk
  rw [forIn_cons]
  by_cases q:k = .free
  ·subst q
   obtain ⟨c,hc⟩:=aZ.mp (h (x,.free) mem_cons_self rfl)
   simp only at hc
   have e:cellOf env x=pure c:=by unfold cellOf;rw [hc]
   simp only [beq_self_eq_true,if_true,e,pure_bind]
   rw [ih _ λy hy=>h y (mem_cons_of_mem _ hy)]
   show _=pure (HM env.cells r (if (NameKind.free==NameKind.free)=true then (x,(env.cells.lookup x).getD 0)::acc else acc))
   rw [hc];rfl
  ·have:(k==NameKind.free)=false:=by simpa using q
   simp only [this,false_eq_true,if_false,pure_bind]
   rw [ih _ λy hy=>h y (mem_cons_of_mem _ hy)]
   show _=pure (HM env.cells r (if (k==.free)=true then (x,(env.cells.lookup x).getD 0)::acc else acc))
   rw [this];rfl
theorem HN {env:Env}{scope:Scope}(h:∀ y∈scope.names,y.2 = .free->(env.cells.lookup y.1).isSome=true):closureFor scope env=pure (HM env.cells scope.names []):=by
 have:=SJ (env:=env) scope.names [] h
 unfold closureFor
 show (forIn scope.names [] _ >>= _)=_
 have e:∀ (f g:Str × NameKind->List (Str × Addr)->Sem (ForInStep (List (Str × Addr)))),(∀ x cs,f x cs=g x cs)->(forIn scope.names [] f)=forIn scope.names [] g:=λf g h=>by
  have:f=g:=funext λx=>funext λcs=>h x cs
  rw [this]
 rw [e _ (λ(x:Str × NameKind) (cs:List (Str × Addr))=>(if (x.2==.free)=true then do let c <- cellOf env x.1;pure (ForInStep.yield ((x.1,c)::cs)) else pure (ForInStep.yield cs):Sem _)) (λx cs=>rfl),this]
 rfl
theorem G1 {cells:List (Str × Addr)}{x:Str}{c:Addr}:∀ {names:List (Str × NameKind)} {acc:List (Str × Addr)},(∀ y∈names,y.2 = .free->(cells.lookup y.1).isSome=true)->(HM cells names acc).lookup x=some c ->
  ((x,NameKind.free)∈names/\cells.lookup x=some c)\/acc.lookup x=some c:=by
 intro names
 induction names with
 | nil=>exact λU h=>.inr h
 | cons yk r ih=>
  intro acc hs h
  obtain ⟨y,k⟩:=yk
  have ih:=ih (λy hy=>hs y (mem_cons_of_mem _ hy)) h
  rcases ih with ⟨h1,h2⟩ | ih
  ·exact .inl ⟨mem_cons_of_mem _ h1,h2⟩
  ·by_cases q:k = .free
   ·subst q
    simp only [beq_self_eq_true,if_true,lookup_cons] at ih
    by_cases z:x=y
    ·subst z
     simp only [beq_self_eq_true] at ih
     obtain ⟨c',hc'⟩:=aZ.mp (hs (x,.free) mem_cons_self rfl)
     simp only at hc'
     rw [hc'] at ih
     simp only [Option.getD_some] at ih
     exact .inl ⟨mem_cons_self,by rw [hc',<- ih]⟩
    ·rw [show (x==y)=false from by simpa using z] at ih
     exact .inr ih
   ·have:(k==NameKind.free)=false:=by simpa using q
    simp only [this,false_eq_true,if_false] at ih
    exact .inr ih
theorem Qh {cells:List (Str × Addr)}{x:Str}:∀ {names:List (Str × NameKind)} {acc:List (Str × Addr)},((x,NameKind.free)∈names\/(acc.lookup x).isSome=true)->((HM cells names acc).lookup x).isSome=true:=by
 intro names
 induction names with
 | nil=>
  intro acc h
  rcases h with h | h
  ·cases h
  ·exact h
 | cons yk r ih=>
  intro acc h
  obtain ⟨y,k⟩:=yk
  refine ih ?_
  by_cases q:k = .free
  ·subst q
   simp only [beq_self_eq_true,if_true,lookup_cons]
   by_cases z:x=y
   ·subst z;right;simp
   ·rw [show (x==y)=false from by simpa using z]
    rcases h with h | h
    ·rcases mem_cons.mp h with h | h
     ·injection h with h;exact absurd h z
     ·exact .inl h
    ·exact .inr h
  ·have:(k==NameKind.free)=false:=by simpa using q
   simp only [this,false_eq_true,if_false]
   rcases h with h | h
   ·rcases mem_cons.mp h with h | h
    ·injection h with _ h;exact absurd h.symm q
    ·exact .inl h
   ·exact .inr h
theorem G2 {env:Env}{x:Str}{k:NameKind}{names:List (Str × NameKind)}:names.lookup x=some k ->
  (names.map λ(n,k)=>if (k==NameKind.free&&env.scope.kind==.function&&env.kindOf n==some .cell) then (n,NameKind.cell) else (n,k)).lookup x=some k \/
   (k = .free/\(names.map λ(n,k)=>if (k==NameKind.free&&env.scope.kind==.function&&env.kindOf n==some .cell) then (n,NameKind.cell) else (n,k)).lookup x=some .cell):=by
 induction names with
 | nil=>intro h;simp at h
 | cons p r ih=>
  obtain ⟨y,k'⟩:=p
  intro h
  show lookup x ((if (k'==NameKind.free&&env.scope.kind==.function&&env.kindOf y==some .cell)=true then (y,NameKind.cell) else (y,k'))::_)=_\/(_/\lookup x ((if (k'==NameKind.free&&env.scope.kind==.function&&env.kindOf y==some .cell)=true then (y,NameKind.cell) else (y,k'))::_)=_)
  cases hx:x==y with
  | true=>
   simp only [lookup_cons,hx] at h
   cases (h)
   by_cases hc:(k==NameKind.free&&env.scope.kind==.function&&env.kindOf y==some .cell)=true
   ·rw [if_pos hc]
    simp only [and_eq_true,beq_iff_eq] at hc
    exact .inr ⟨hc.1.1,by simp [lookup_cons,hx]⟩
   ·rw [if_neg hc]
    exact .inl (by simp [lookup_cons,hx])
  | false=>
   simp only [lookup_cons,hx] at h
   by_cases hc:(k'==NameKind.free&&env.scope.kind==.function&&env.kindOf y==some .cell)=true
   ·rw [if_pos hc];simp only [lookup_cons,hx];exact ih h
   ·rw [if_neg hc];simp only [lookup_cons,hx];exact ih h
structure Ci (osc:List (Str × NameKind × Nat))(scope:Scope)(sc:List (Str × NameKind × Nat))(js:List Nat):Prop where
 kind:scope.kind = .function
 noCell:∀ y∈scope.names,y.2≠.cell
 names:∀ y∈scope.names,y.2 = .local->scope.names.lookup y.1=some .local
 free:∀ y∈scope.names,y.2 = .free->∃ k i,(y.1,k,i)∈osc/\(k = .cell\/k = .free)
 look:∀ x k i,(x,k,i)∈sc->k≠.cell/\scope.names.lookup x=some k
 cap:∀ x i,(x,NameKind.free,i)∈sc->∃ k,(x,k,i)∈osc/\(k = .cell\/k = .free)
 loc:∀ x k i,(x,k,i)∈sc->(k = .local↔i∈js)
 once:∀ x k i y k' j,(x,k,i)∈sc->(y,k',j)∈sc->(i=j↔x=y)
def ciB (osc:List (Str × NameKind × Nat))(scope:Scope)(sc:List (Str × NameKind × Nat))(js:List Nat):Bool:=
 decide (scope.kind = .function)&&scope.names.all (λy=>decide (y.2≠.cell))&&scope.names.all (λy=>!decide (y.2 = .local)||decide (scope.names.lookup y.1=some .local)) &&
 scope.names.all (λy=>!decide (y.2 = .free)||osc.any λe=>decide (e.1=y.1)&&(decide (e.2.1 = .cell)||decide (e.2.1 = .free))) &&
 sc.all (λe=>decide (e.2.1≠.cell)&&decide (scope.names.lookup e.1=some e.2.1)) &&
 sc.all (λe=>!decide (e.2.1 = .free)||osc.any λo=>decide (o.1=e.1)&&decide (o.2.2=e.2.2)&&(decide (o.2.1 = .cell)||decide (o.2.1 = .free))) &&
 sc.all (λe=>decide (e.2.1 = .local)==decide (e.2.2∈js)) &&
 sc.all (λe=>sc.all λo=>decide (e.2.2=o.2.2)==decide (e.1=o.1))
theorem Ci.of {osc:List (Str × NameKind × Nat)}{scope:Scope}{sc:List (Str × NameKind × Nat)}{js:List Nat}(h:ciB osc scope sc js=true):Ci osc scope sc js:=by
 unfold ciB at h
 simp only [and_eq_true,all_eq_true,decide_eq_true_eq,or_eq_true,not_eq_true',decide_eq_false_iff_not,any_eq_true,beq_iff_eq] at h
 obtain ⟨⟨⟨⟨⟨⟨⟨h1,h2⟩,h3⟩,h4⟩,h5⟩,h6⟩,h7⟩,h8⟩:=h
 refine ⟨h1,h2,λy hy q=>(h3 y hy).resolve_left λz=>z q,λy hy q=>?_,λx k i hm=>h5 _ hm,λx i hm=>?_,λx k i hm=>?_,λx k i y k' j hm hm'=>?_⟩
 ·obtain ⟨⟨x,k,i⟩,e1,e2,e3⟩:=(h4 y hy).resolve_left λz=>z q
  exact ⟨k,i,by have e2:x=y.1:=e2;rw [<- e2];exact e1,e3⟩
 ·obtain ⟨⟨x',k,i'⟩,e1,⟨e2,e2'⟩,e3⟩:=(h6 _ hm).resolve_left λz=>z rfl
  have e2:x'=x:=e2
  have e2':i'=i:=e2'
  subst e2 e2'
  exact ⟨k,e1,e3⟩
 ·have:=h7 _ hm
  exact decide_eq_decide.mp this
 ·have:=h8 _ hm _ hm'
  exact decide_eq_decide.mp this
section
variable {W:Wd}{fm:Fm}{V α' α₁ w1:List Addr}{h h' h₁ W2 w3 start:Heap}{n:Nat}{A:Around}{ps ps':PS}{s s' c0:Shared}{H:Hd}{h₀:Heap}{own:List Addr}
theorem Qi:∀ {es:List Expr} {ms:List (M Bool)},All2 (SimB W n fm) es ms->∀ A V ps s,Ctx W fm n A->InvS W fm V ps s->AG .And ms ps≠.stuck ->
  wpAny W.m A (forIn es true λc r=>if r=true then do let ok <- isTrue c fm.env (eval c fm.env);pure (ForInStep.yield ok) else pure (ForInStep.yield r)) (OkB W fm V s.heap (AG .And ms ps)) (ExE W fm V s.heap (AG .And ms ps)) s:=by
 intro _ _ hS
 induction hS with
 | nil=>
  intro A V ps s C I ns
  rw [forIn_nil]
  exact bg (.same I)
 | @cons e m es ms q qs ih=>
  intro A V ps s C I ns
  unfold AG at ns ⊢
  rw [forIn_cons]
  refine bf ?_
  simp only [if_true]
  refine bf (aW (q A V ps s C I (Ad ns)) (λb c0 z=>?_) (λU U z=>z.bind))
  obtain ⟨o0,α₁,y0,u0,l0,s0⟩:=z
  rw [Ab y0] at ns ⊢
  refine bg ?_
  cases b with
  | true=>exact aW (ih A α₁ o0 c0 C u0 ns) (λU U q=>q.after l0 s0) (λU U q=>q.after l0 s0)
  | false=>
   have go:∀ es:List Expr,(forIn es false λc r=>if r=true then do let ok <- isTrue c fm.env (eval c fm.env);pure (ForInStep.yield ok) else pure (ForInStep.yield r):Sem Bool)=pure false:=by
    intro es
    induction es with
    | nil=>rw [forIn_nil]
    | cons e es ih=>
     rw [forIn_cons]
     simp only [false_eq_true,if_false,pure_bind]
     exact ih
   show wpAny W.m A (forIn es false _) _ _ _
   rw [go]
   exact bg ⟨o0,α₁,rfl,u0,l0,s0⟩
theorem Rel.fresh {stk:List Env}{tab:List Addr}(x:Rel stk tab V h₁ W2)(y:Rel stk own α' W2 w3)(n:∀ a∈α',a∉V->h₁.get? a=none)(f:∀ a∈own,a∈tab\/h₁.get? a=none):Rel stk tab V h₁ w3:=by
 have q:∀ b o,h₁.get? b=some o->b∉V->b∉α':=λb o e h1 h2=>by rw [n b h2 h1] at e;cases e
 have q2:∀ b o,h₁.get? b=some o->b∉tab->b∉own:=λb o e nt h2=>by rw [(f b h2).resolve_left nt] at e;cases e
 refine ⟨λb o e h1 h2 h3=>y.keep b o (x.keep b o e h1 h2 h3) h1 (q2 b o e h2) (q b o e h3),λb o e h1 h2 h3=>?_,λb e=>x.live b (y.live b e)⟩
 obtain ⟨sl,W1⟩:=x.slot b o e h1 h2 h3
 obtain ⟨sl',Z3⟩:=y.slot b _ W1 h1 (q2 b o e h2) (q b o e h3)
 exact ⟨sl',Z3⟩
theorem InvS.poke (F:FmOk W.h₀ fm)(I:InvS W fm V ps s){a:Addr}(m:a∈fm.av)(nl:a≠fm.env.locals)(nc:∀ v,¬ s.heap.IsCell a v)(nf:∀ o vs,s.heap.get? a=some o->o.data≠.fields vs)(S:Heap.SameBut a s.heap h'){o:Obj}(ho:h'.get? a=some o)(hd:∀ vs,o.data≠.fields vs){tk:Nat} :
  InvS W fm V ps { s with heap:=h',toks:=tk }:=by
 have hα:∀ b∈V,b≠a:=λb m' q=>I.inv.lists.apart b m' (q▸m)
 refine ⟨I.inv.mine F S m (by rw [ho];rfl) (λo' eo=>⟨λvs=>nf o' vs eo,o,ho,hd⟩) rfl ?_ λx k i hx hkk=>?_,I.gens,I.os⟩
 ·obtain ⟨mm,⟨oL,eL,epL,n1,n2,n3⟩,nr⟩:=I.inv.loc
  exact ⟨mm,⟨oL,eL,epL,(S.2 _ nl.symm).trans n1,n2,n3⟩,λx i hm=>(nr x i hm).same S m hα⟩
 ·obtain ⟨c,v,q1,q2,q3,q4,q5⟩:=I.inv.cel x k i hx hkk
  refine ⟨c,v,q1,q2,q3,?_,q5.same S m hα⟩
  have:c≠a:=λq=>nc v (q▸q4)
  obtain ⟨oc,e1,e2⟩:=q4
  exact ⟨oc,(S.2 c this).trans e1,e2⟩
def AE (fm:Fm)(scope:Scope)(sc:List (Str × NameKind × Nat))(D C:Addr):Fm:=
 { env:=compEnvC scope (HM fm.env.cells scope.names []) C fm.env,stk:=fm.stk,av:=D::C::fm.av,own0:=[C],tab:=fm.tab,sc:=sc,hdl:=fm.hdl }
theorem Ci.cells {scope:Scope}{sc:List (Str × NameKind × Nat)}{js:List Nat}(ci:Ci fm.sc scope sc js)(I:InvS W fm V ps s):∀ y∈scope.names,y.2 = .free->(fm.env.cells.lookup y.1).isSome=true:=λy hy q=>by
 obtain ⟨k,i,h1,h2⟩:=ci.free y hy q
 obtain ⟨c,v,q1,_⟩:=I.inv.cel _ _ _ h1 h2
 rw [q1];rfl
theorem Oy {scope:Scope}{sc:List (Str × NameKind × Nat)}{js:List Nat}{D C:Addr}(ci:Ci fm.sc scope sc js)(F:FmOk W.h₀ fm)(I:InvS W fm V ps s)(hD:W.h₀.get? D=none)(hC:W.h₀.get? C=none):FmOk W.h₀ (AE fm scope sc D C) where
 kind:=ci.kind
 glob:=F.glob
 bi:=F.bi
 locAv:=mem_cons_of_mem _ (mem_cons_self ..)
 locOwn:=mem_append_right _ (mem_cons_self ..)
 ownAv:=λa h=>by
  rcases mem_append.mp h with h | h
  ·exact mem_cons_of_mem _ (mem_cons_of_mem _ (F.tabAv a h))
  ·rw [mem_singleton.mp h];exact mem_cons_of_mem _ (mem_cons_self ..)
 frsAv:=λa h=>mem_cons_of_mem _ (mem_cons_of_mem _ (F.frsAv a h))
 fresh:=λa h=>by
  rcases mem_cons.mp h with q | q
  ·rw [q];exact hD
  ·rcases mem_cons.mp q with q | q
   ·rw [q];exact hC
   ·exact F.fresh a q
 kinds:=λx k i hm=>G2 (ci.look x k i hm).2
 once:=ci.once
 cellOwn:=λx i c hm U=>absurd rfl (ci.look x _ i hm).1
 cellApart:=λx k i y k' j c h1 h2 h3 h4=>by
  have hs:=ci.cells I
  obtain ⟨a1,a2⟩:=(G1 hs h3).resolve_right (by simp)
  obtain ⟨b1,b2⟩:=(G1 hs h4).resolve_right (by simp)
  obtain ⟨kx,ix,ex,_⟩:=ci.free _ a1 rfl
  obtain ⟨ky,iy,ey,_⟩:=ci.free _ b1 rfl
  exact F.cellApart _ _ _ _ _ _ _ ex ey a2 b2
 frame:=F.frame
end
section
variable {W:Wd}{fm:Fm}{V α' α₁ Y0 w1:List Addr}{h h' h₁ W2 w3 start:Heap}{n:Nat}{A:Around}{ps ps':PS}{s s' c0 z0:Shared}{H:Hd}{h₀:Heap}{own:List Addr}
theorem Qj {js:List Nat}{m:M PV}(ns:aF js m ps≠.stuck):∃ v s',m ⟨λi=>if i∈js then none else ps.loc i,ps.st⟩ = .ok v s'/\aF js m ps = .ok v ⟨ps.loc,s'.st⟩:=by
 unfold aF at ns ⊢
 cases q:m ⟨λi=>if i∈js then none else ps.loc i,ps.st⟩ with
 | ok v s'=>exact ⟨v,s',rfl,rfl⟩
 | ex e s'=>rw [q] at ns;exact absurd rfl ns
 | stuck=>rw [q] at ns;exact absurd rfl ns
theorem L0 {scope:Scope}{sc:List (Str × NameKind × Nat)}{js:List Nat}{D C:Addr}(ci:Ci fm.sc scope sc js)(F:FmOk W.h₀ fm)(I:InvS W fm V ps s)(hD:s.heap.get? D=none)(hC:s.heap.get? C=none)
  (kp:∀ b o,s.heap.get? b=some o->h₁.get? b=some o) (hns:h₁.Ns C λU=>none) (hDl:(h₁.get? D).isSome=true) {tk:Nat} :
  InvS W (AE fm scope sc D C) V ⟨λi=>if i∈js then none else ps.loc i,ps.st⟩ { s with heap:=h₁,toks:=tk }:=by
 have st:∀ a∈(AE fm scope sc D C).av,a∈fm.av\/s.heap.get? a=Option.none:=λa h=>by
  rcases mem_cons.mp h with q | q
  ·rw [q];exact .inr hD
  ·rcases mem_cons.mp q with q | q
   ·rw [q];exact .inr hC
   ·exact .inl q
 have pre:V <+: V:=prefix_refl _
 have rep:∀ {p v},OptRep W.H W.h₀ fm.av V s.heap p v->OptRep W.H W.h₀ (AE fm scope sc D C).av V h₁ p v:=λr=>r.map λr=>(r.strong st).keeps kp pre
 have nα:∀ b,s.heap.get? b=none->b∉V:=λb e z=>by
  obtain ⟨ws,o,e',_⟩:=I.inv.lists.isList z
  rw [e] at e';cases e'
 refine ⟨⟨λb o e=>kp b o (I.inv.base b o e),⟨_,hns,λx i hm=>?_⟩,λx k i hm hk=>?_,⟨I.inv.lists.len,λi l e=>?_,I.inv.lists.nodup,I.inv.lists.fresh,λa m q=>?_⟩,λa m=>?_,?_,?_⟩,I.gens,I.os⟩
 ·have:=(ci.loc x _ i hm).mp rfl
  simp only [this,if_true]
  exact .none
 ·have hk:k = .free:=hk.resolve_left (ci.look x k i hm).1
  subst hk
  obtain ⟨k',h1,h2⟩:=ci.cap x i hm
  obtain ⟨c,v,q1,q2,q3,⟨o,q4,q4'⟩,q5⟩:=I.inv.cel x k' i h1 h2
  have hin:(x,NameKind.free)∈scope.names:=mem_of_lookup (ci.look x _ i hm).2
  obtain ⟨c',hc'⟩:=aZ.mp (Qh (cells:=fm.env.cells) (acc:=[]) (.inl hin))
  obtain ⟨_,e2⟩:=(G1 (ci.cells I) hc').resolve_right (by simp)
  rw [q1] at e2;cases e2
  have nj:i∉js:=λz=>by have:=(ci.loc x _ i hm).mpr z;cases this
  refine ⟨c,v,hc',mem_cons_of_mem _ (mem_cons_of_mem _ q2),λq=>?_,⟨o,kp _ _ q4,q4'⟩,?_⟩
  ·have:s.heap.get? C=some o:=by rw [<- (show c=C from q)];exact q4
   rw [hC] at this;cases this
  ·simp only [nj,if_false]
   exact rep q5
 ·obtain ⟨a,vs,h1,h2,h3⟩:=I.inv.lists.at_ i l e
  exact ⟨a,vs,h1,h2.at (kp _),(h3.strong st).keeps kp pre⟩
 ·rcases st a q with z | z
  ·exact I.inv.lists.apart a m z
  ·exact nα a z m
 ·rcases mem_cons.mp m with q | q
  ·rw [q];exact hDl
  ·rcases mem_cons.mp q with q | q
   ·obtain ⟨o,_,_,e,_⟩:=hns
    rw [q,e];rfl
   ·obtain ⟨o,e⟩:=aZ.mp (I.inv.live a q)
    rw [kp a o e];rfl
 ·exact I.inv.frames.of_keeps λb o e U=>⟨o,kp b o e,rfl⟩
 ·exact λP hP=>(I.inv.tabs P hP).keeps kp
theorem FunFrames.but {a:Addr}(S:Heap.SameBut a h h'){l:List Env}(nb:∀ b∈frs l,b≠a)(x:h.FunFrames ⟨#[],{}⟩ l):h'.FunFrames ⟨#[],{}⟩ l:=by
 induction l with
 | nil=>exact trivial
 | cons env rest ih=>
  obtain ⟨h1,⟨L,o,h2,h3,h4,h5⟩,h6⟩:=x
  have e:frs (env::rest)=L::frs rest:=by unfold frs;rw [filterMap_cons,h2]
  rw [e] at nb
  exact ⟨h1,⟨L,o,h2,h3,(S.2 L (nb L (mem_cons_self ..))).trans h4,h5⟩,ih (λb m=>nb b (mem_cons_of_mem _ m)) h6⟩
theorem Ki {scope:Scope}{sc:List (Str × NameKind × Nat)}{D C:Addr}{acc:List PV}{vs:List Value}(F:FmOk W.h₀ fm)(I:InvS W fm V ps s)(hD:s.heap.get? D=none)(hC:s.heap.get? C=none)(hDC:D≠C)
  (J:InvS W (AE fm scope sc D C) α' ps' s') (g:Grow V α' s.heap) (R:Rel fm.stk fm.tab V s.heap s'.heap) (hl:s'.heap.PlainList D vs.toArray) (rl:RepL W.H W.h₀ (AE fm scope sc D C).av α' s'.heap acc vs) (S:Heap.SameBut C s'.heap h') :
  InvS W fm (α'++[D]) ⟨ps.loc,ps'.st++[acc]⟩ { s' with heap:=h' }/\Grow V (α'++[D]) s.heap/\Rel fm.stk fm.tab V s.heap h'/\(α'++[D])[ps'.st.length]? = some D:=by
 have wk:∀ a,a∈fm.av->a∈(AE fm scope sc D C).av:=λa m=>mem_cons_of_mem _ (mem_cons_of_mem _ m)
 have mC:C∈(AE fm scope sc D C).av:=mem_cons_of_mem _ (mem_cons_self ..)
 have mD:D∈(AE fm scope sc D C).av:=mem_cons_self ..
 have hαC:∀ b∈α',b≠C:=λb m q=>J.inv.lists.apart b m (q▸mC)
 have hαD:D∉α':=λm=>J.inv.lists.apart D m mD
 have CH:∀ b o,s.heap.get? b=some o->b≠C:=λb o e q=>by rw [q,hC] at e;cases e
 have nfC:∀ o vs,s'.heap.get? C=some o->o.data≠.fields vs:=λo vs e q=>by
  obtain ⟨mm,⟨oL,eL,epL,n1,n2,_⟩,_⟩:=J.inv.loc
  rw [show s'.heap.get? C=some oL from n1] at e;cases e
  rw [n2] at q;cases q
 have R':Rel fm.stk fm.tab V s.heap h':=⟨λb o e m1 m2 m3=>(S.2 b (CH b o e)).trans (R.keep b o e m1 m2 m3),λb o e m1 m2 m3=>by
   obtain ⟨sl,e'⟩:=R.slot b o e m1 m2 m3
   exact ⟨sl,(S.2 b (CH b o e)).trans e'⟩,λb e=>by
   by_cases q:b=C
   ·rw [q];exact hC
   ·exact R.live b ((S.2 b q).symm.trans e)⟩
 have g':Grow V (α'++[D]) s.heap:=⟨g.pre.trans (prefix_append _ _),λa m q=>by
  rcases mem_append.mp m with m | m
  ·exact g.new a m q
  ·rw [mem_singleton.mp m];exact hD⟩
 have fr:h'.FunFrames ⟨#[],{}⟩ fm.stk:=by
  refine FunFrames.but S (λb m q=>?_) J.inv.frames
  have:=I.inv.live b (F.frsAv b m)
  rw [q,hC] at this;cases this
 have stp:α' <+: α'++[D]:=prefix_append _ _
 have kk:∀ b o,h'.get? b=some o->h'.get? b=some o:=λU U e=>e
 have lift:∀ {l:List PV} {ws:List Value},RepL W.H W.h₀ (AE fm scope sc D C).av α' s'.heap l ws->RepL W.H W.h₀ fm.av (α'++[D]) h' l ws:=λr=>
  RepL.keeps kk stp (RepL.weak wk (RepL.same (fm:=AE fm scope sc D C) S mC hαC r))
 refine ⟨⟨I.inv.carry F R' ⟨by simp [J.inv.lists.len],λi l e=>?_,?_,λa m=>?_,λa m q=>?_⟩ g' fr λP hP=>(J.inv.tabs P hP).same S nfC,J.gens,J.os⟩,g',R',?_⟩
 ·by_cases hi:i<ps'.st.length
  ·rw [getElem?_append_left hi] at e
   obtain ⟨a,ws,q1,⟨k,q2⟩,q3⟩:=J.inv.lists.at_ i l e
   exact ⟨a,ws,by rw [getElem?_append_left (by rw [J.inv.lists.len];exact hi)];exact q1,⟨k,(S.2 a (hαC a (mem_of_getElem? q1))).trans q2⟩,lift q3⟩
  ·have:i=ps'.st.length:=by
    have:=(ba.mp e).1
    simp at this;exact bc (la [_,_] [([2,3,0],[4,3,0])] ([2],[4]) rfl this) (la [_,_] [([2],[4])] ([2],[4]) rfl (Nat.not_lt.mp hi))
   subst this
   rw [getElem?_append_right (Nat.le_refl _)] at e
   simp at e
   subst e
   obtain ⟨k,q2⟩:=hl
   exact ⟨D,vs,by rw [<- J.inv.lists.len,getElem?_append_right (Nat.le_refl _)];simp,⟨k,(S.2 D hDC).trans q2⟩,lift rl⟩
 ·rw [nodup_append]
  exact ⟨J.inv.lists.nodup,by simp,λx hx y hy=>by simp at hy;subst hy;exact λe=>hαD (e▸hx)⟩
 ·rcases mem_append.mp m with q | q
  ·exact J.inv.lists.fresh a q
  ·rw [mem_singleton.mp q];exact I.none _ hD
 ·rcases mem_append.mp m with p | p
  ·exact J.inv.lists.apart a p (wk a q)
  ·rw [mem_singleton.mp p] at q
   have:=I.inv.live D q
   rw [hD] at this;cases this
 ·rw [<- J.inv.lists.len,getElem?_append_right (Nat.le_refl _)];simp
theorem Ew {D:Addr}{ws:Array Value}(R:Rel fm.stk own V h h')(x:h.PlainList D ws)(n1:D∉frs fm.stk)(n2:D∉own)(n3:D∉V):h'.PlainList D ws:=by
 obtain ⟨k,e⟩:=x
 exact ⟨k,R.keep D _ e n1 n2 n3⟩
inductive CompI (W:Wd)(fm F:Fm)(Y0:List Addr)(B:Heap)(D:Addr)(St:Nat->Heap->Prop)(run:Nat->Nat->List PV->PS->Prop)(k:Nat)(s':Shared):Prop
 | mk (i:Nat) (ps':PS) (α':List Addr) (acc:List PV) (vs:List Value) (e:run k i acc ps') (I:InvS W F α' ps' s') (g:Grow Y0 α' B) (x:Rel fm.stk fm.tab Y0 B s'.heap) (l:s'.heap.PlainList D vs.toArray) (r:RepL W.H W.h₀ F.av α' s'.heap acc vs) (t:St i s'.heap):CompI W fm F Y0 B D St run k s'
end
structure MethAt (T id:String)(name:Str):Prop where
 pa:PlainAttrs T
 slot:Slot T name id
 ty:typeOf (.builtin id)=pure (.type "method_descriptor")
def Bo:PV->Bool
 | .str _=>true
 | _=>false
def C2:PV->Bool
 | .lst _=>true
 | _=>false
def Ii:PV->Bool
 | .fset _=>true
 | _=>false
def G3 (sep:Txt):List Txt->Txt
 | []=>[]
 | t::r=>r.foldl (λacc p=>acc++sep++p) t
def Ds:List PV->Option (List Txt)
 | []=>some []
 | p::r=>(asS p).bind λs=>(Ds r).map (s::·)
def DK (l:List Txt):Nat:=(l.map (·.length)).sum
def Ce (v:PV)(l:List PV):M PV:=ap (asL v) λi=>aH l λx=>ac (ar i) λl=>ak (l.length+1<=big) (ac (aI i (l++[x])) λU=>ae .none)
def EZ (v:PV)(l:List PV):M PV:=ap (asS v) λsep=>aH l λp=>ap (asL p) λi=>ac (ar i) λl=>ac (aB (Ds l)) λts=>ak (DK ts+ts.length*sep.length<=big) (ae (.str (G3 sep ts)))
def findFrom (x y:Txt)(lo:Nat):Option Nat:=(range' lo (x.length+1 - lo)).find? λi=>decide (i+y.length<=x.length)&&((x.drop i).take y.length==y)
def Vm (l:List PV):Option (Txt × Option Int):=un l λp r=>(asS p).bind λs=>match r with
 | []=>some (s,none)
 | q::r=>(asI q).bind λi=>cond r.isEmpty (some (s,some i)) none
theorem SK {l:List PV}{x:Txt × Option Int}(h:Vm l=some x):(l=[.str x.1]/\x.2=none)\/∃ i,l=[.str x.1,.int i]/\x.2=some i:=by
 obtain ⟨p,r,rfl,h⟩:=EO h
 obtain ⟨s,e,h⟩:=aV.mp h
 rw [Bg e]
 cases r with
 | nil=>obtain rfl:=aT h;exact .inl ⟨rfl,rfl⟩
 | cons q r=>
  obtain ⟨i,e',h⟩:=aV.mp h
  obtain ⟨e1,rfl⟩:=Fq h
  rw [A6 e',e1]
  exact .inr ⟨i,rfl,rfl⟩
def Ex (hd:Bool)(v:PV)(l:List PV):M PV:=ap (asS v) λx=>ap (Vm l) λy=>match y.2 with
 | none=>(match findFrom x y.1 0 with
  | some i=>ae (.int i)
  | none=>aq)
 | some p=>ak (0<=p&&Ah p) (match findFrom x y.1 p.toNat with
  | some i=>ae (.int i)
  | none=>aJ hd "ValueError")
section
variable {W:Wd}{fm:Fm}{V α' α₁ Y0 w1:List Addr}{h h' h₁ W2 w3 start:Heap}{n:Nat}{A:Around}{ps ps':PS}{s s' c0 z0:Shared}{H:Hd}{h₀:Heap}{own:List Addr}
def Ij (W:Wd)(fm:Fm)(K:PV->Bool)(T:String):Prop:=∀ n A V ps s p v,Ctx W fm n A->InvS W fm V ps s->K p=true->W.rep fm V s.heap p v->s.TypeIs v T/\(∀ a,v = .ref a->∃ ob,s.heap.get? a=some ob/\ob.dict=none)
theorem G4 {p:PV}(h:Bo p=true):∃ x,p = .str x:=by
 cases p with
 | str x=>exact ⟨x,rfl⟩
 | _=>cases h
theorem L1 {p:PV}(h:C2 p=true):∃ i,p = .lst i:=by
 cases p with
 | lst i=>exact ⟨i,rfl⟩
 | _=>cases h
theorem Qk {p:PV}(h:Ii p=true):∃ k,p = .fset k:=by
 cases p with
 | fset k=>exact ⟨k,rfl⟩
 | _=>cases h
abbrev OpMeth.T (W:Wd)(n:Nat)(fm:Fm)(K:PV->Bool)(id:String)(g:PV->List PV->M PV):Prop:=∀ A V ps s p v l vs,Ctx W fm n A->InvS W fm V ps s->K p=true->W.rep fm V s.heap p v->RepL W.H W.h₀ fm.av V s.heap l vs->g p l ps≠.stuck->Ai W fm A V ps s (call (.builtin id) (v::vs)) (g p l)
structure OpMeth (W:Wd)(n:Nat)(fm:Fm)(K:PV->Bool)(id:String)(g:PV->List PV->M PV):Prop where
 go:OpMeth.T W n fm K id g
noncomputable instance {W:Wd} {n:Nat} {fm:Fm} {K:PV->Bool} {id:String} {g:PV->List PV->M PV}:CoeFun (OpMeth W n fm K id g) (λU=>OpMeth.T W n fm K id g):=⟨OpMeth.go⟩
theorem Cl:Ij W fm Bo "str":=λn A V ps s p v C I hK r=>by
 obtain ⟨x,rfl⟩:=G4 hK
 obtain ⟨_,rfl⟩:=r.inv
 exact ⟨typeIs_str _ _ _,λU e=>(by cases e)⟩
theorem Db:Ij W fm C2 "list":=λn A V ps s p v C I hK r=>by
 obtain ⟨i,rfl⟩:=L1 hK
 obtain ⟨a,rfl,hi⟩:=r.inv
 ·have lt:=(ba.mp hi).1
  obtain ⟨a',vs,h1,h2,_⟩:=I.inv.lists.at_ i _ (getElem?_eq_getElem (I.inv.lists.len▸lt))
  obtain rfl:=aT (hi.symm.trans h1)
  obtain ⟨k,eo⟩:=h2
  exact ⟨⟨_,eo,rfl⟩,λb eb=>by cases eb;exact ⟨_,eo,rfl⟩⟩
theorem Na:Ij W fm Ii "frozenset":=λn A V ps s p v C I hK r=>by
 obtain ⟨x,rfl⟩:=Qk hK
 obtain ⟨_,rfl,e⟩:=r.inv
 ·obtain ⟨m,⟨es,ep,t,ho,_⟩,_⟩:=C.hd.set I.inv.base _ e
  exact ⟨⟨_,ho,rfl⟩,λb eb=>by cases eb;exact ⟨_,ho,rfl⟩⟩
theorem Ql {o:Expr}{name:Str}{apos pos:Pos}{es:List Expr}{mo:M PV}{ms:List (M PV)}{g:PV->List PV->M PV}{K:PV->Bool}{T id:String}(ho:SimE W n fm o mo)(q:SimL W n fm es ms)(Ma:MethAt T id name)(KT:Ij W fm K T)(op:OpMeth W n fm K id g)
  (hbase:∀ env,attributeBase o name env (eval o env)=eval o env) (hlen:es.length<30) (hline:(apos.endLine==pos.line)=true) :
  SimE W n fm (.Call (.Attribute o name apos) es [] pos) (ac mo λp=>ak (K p) (ac (ag ms) (g p))):=.mk λA V ps s C I ns=>by
 have hpl:(backTo pos (starEach es fm.env)).all (λx=>!x.1)=true:=by
  have:=q.plain (pos:=pos) fm.env
  rw [List.any_eq_false] at this
  rw [all_eq_true]
  intro x hx
  simpa using this x hx
 refine wpAny_Call_method_lateS (hbase _) (by rw [hpl];exact decide_eq_true hlen) hline (Ai.seq (ho A V ps s C I (Ad ns)) (λp v α₁ o0 c0 u0 l0 s0 Z0 y0=>?_) λx c0 q=>q.bind)
 rw [Ab y0] at ns ⊢
 obtain ⟨c,e⟩:=Ak ns
 rw [e] at ns ⊢
 obtain ⟨k1,k2⟩:=KT n A α₁ o0 c0 p v C u0 c Z0
 refine ⟨T,id,Ma.pa,Ma.slot,Ma.ty,k1,k2,?_⟩
 refine Calls.callWith_builtin (q.plain _) (A2 (q.plain _) (aW (C0 q A α₁ o0 c0 C u0 (Ad ns)) (λvs z0 z=>?_) λx c0 z=>z.bind.after l0 s0))
 obtain ⟨l,Z1,Y0,W1,Y1,W0,X0,j4⟩:=z
 rw [Ab W1] at ns ⊢
 exact aW (op A Y0 Z1 z0 p v l vs C Y1 c (u0.stays C X0 W0 Z0) j4 ns) (λU U q=>(q.after W0 X0).after l0 s0) (λU U q=>(q.after W0 X0).after l0 s0)
theorem Kj {av:List Addr}{a:Addr}(S:Heap.SameBut a h h')(hl:∃ ws,h.IsList a ws):(∀ {p:PV} {v:Value},RepV H h₀ av V h p v->RepV H h₀ av V h' p v)/\∀ {l:List PV} {vs:List Value},RepL H h₀ av V h l vs->RepL H h₀ av V h' l vs:=by
 refine Dn (λb vs hn hi=>⟨hn,?_⟩) (λi a hi=>hi) λb o es ep hn ho hx hd=>⟨hn,(S.2 _ λq=>?_).trans ho⟩
 ·obtain ⟨o,e1,e2⟩:=hi
  refine ⟨o,(S.2 _ λq=>?_).trans e1,e2⟩
  obtain ⟨ws,hl⟩:=hl
  exact C8 ⟨o,e1,e2⟩ (q▸hl)
 ·obtain ⟨ws,o',e1,e2,_⟩:=hl
  rw [<- q,ho] at e1;cases e1
  rw [hx.1] at e2;exact absurd e2 (by decide)
theorem RepV.butL {av:List Addr}{a:Addr}(S:Heap.SameBut a h h')(hl:∃ ws,h.IsList a ws){p:PV}{v:Value}(x:RepV H h₀ av V h p v):RepV H h₀ av V h' p v:=(Kj S hl).1 x
theorem RepL.butL {av:List Addr}{a:Addr}(S:Heap.SameBut a h h')(hl:∃ ws,h.IsList a ws){l:List PV}{vs:List Value}(x:RepL H h₀ av V h l vs):RepL H h₀ av V h' l vs:=(Kj S hl).2 x
theorem InvS.setLst (F:FmOk W.h₀ fm)(I:InvS W fm V ps s){i:Nat}{a:Addr}{l:List PV}{vs ws:List Value}(hi:V[i]? = some a)(hl:s.heap.PlainList a vs.toArray)(S:Heap.SameBut a s.heap h')(hl':h'.PlainList a ws.toArray)(r:RepL W.H W.h₀ fm.av V s.heap l ws){tk:Nat} :
  InvS W fm V { ps with st:=ps.st.set i l } { s with heap:=h',toks:=tk }/\Rel fm.stk fm.tab V s.heap h':=by
 have hL:∃ ws,s.heap.IsList a ws:=⟨_,hl.isList⟩
 have ma:=mem_of_getElem? hi
 have nav:a∉fm.av:=I.inv.lists.apart a ma
 have rep:∀ {p v},OptRep W.H W.h₀ fm.av V s.heap p v->OptRep W.H W.h₀ fm.av V h' p v:=λr=>by
  match r with
  | .none=>exact .none
  | .some r=>exact .some (r.butL S hL)
 have nfr:a∉frs fm.stk:=λm=>nav (F.frsAv _ m)
 have lt:=(ba.mp hi).1
 refine ⟨⟨⟨λb o e=>(S.2 b λq=>?_).trans (I.inv.base b o e),?_,λx k i hx hkk=>?_,⟨by simp [I.inv.lists.len],λj l' e=>?_,I.inv.lists.nodup,I.inv.lists.fresh,I.inv.lists.apart⟩,λb m=>?_,?_,λP hP=>(I.inv.tabs P hP).same S λo vs e q=>by
  obtain ⟨k,e'⟩:=hl
  rw [e'] at e;cases e;cases q⟩,I.gens,I.os⟩,⟨λb o e U U m=>(S.2 b λq=>m (q▸ma)).trans e,λb o e m U m2=>⟨o.slots,(S.2 b λq=>m2 (q▸ma)).trans e⟩,λb e=>?_⟩⟩
 ·rw [q,I.inv.lists.fresh a ma] at e;cases e
 ·obtain ⟨mm,⟨oL,eL,epL,n1,n2,n3⟩,nr⟩:=I.inv.loc
  exact ⟨mm,⟨oL,eL,epL,(S.2 _ λq=>nav (q▸F.locAv)).trans n1,n2,n3⟩,λx i hm=>rep (nr x i hm)⟩
 ·obtain ⟨c,v,q1,q2,q3,⟨oc,q4,q4'⟩,q5⟩:=I.inv.cel x k i hx hkk
  exact ⟨c,v,q1,q2,q3,⟨oc,(S.2 c λq=>nav (q▸q2)).trans q4,q4'⟩,rep q5⟩
 ·by_cases q:j=i
  ·subst q
   rw [List.getElem?_set_self (by rw [<- I.inv.lists.len];exact lt)] at e
   cases e
   exact ⟨a,ws,hi,hl',r.butL S hL⟩
  ·rw [getElem?_set_ne (Ne.symm q)] at e
   obtain ⟨b,us,h1,⟨k,h2⟩,h3⟩:=I.inv.lists.at_ j l' e
   have:b≠a:=λz=>by
    subst z
    have lj:=(ba.mp h1).1
    exact q ((List.getElem?_inj lj I.inv.lists.nodup).mp (h1.trans hi.symm))
   exact ⟨b,us,h1,⟨k,(S.2 b this).trans h2⟩,h3.butL S hL⟩
 ·by_cases q:b=a
  ·exact absurd m (q▸nav)
  ·rw [S.2 b q];exact I.inv.live b m
 ·exact FunFrames.but S (λb m q=>nfr (q▸m)) I.inv.frames
 ·by_cases q:b=a
  ·obtain ⟨k,e'⟩:=hl'
   rw [q,e'] at e;cases e
  ·rwa [S.2 b q] at e
theorem Cm:MethAt "list" "list.append" "append":=⟨by first | exact PySem.F.plainAttrs_list | exact F.plainAttrs_list,slot_list_append,by first | exact F.type_list_append | (rw [typeOf_builtin];kernel_rfl)⟩
theorem Dc:OpMeth W n fm C2 "list.append" Ce:=.mk λA V ps s p v l vs C I hK r rl ns=>by
 obtain ⟨i,rfl⟩:=L1 hK
 obtain ⟨x,vx,rfl,rfl,rx,nq⟩:=Do (f:=λx=>ac (ar i) λl=>ak (l.length+1<=big) (ac (aI i (l++[x])) λU=>ae PV.none)) rl ns
 ··have ns':ac (ar i) (λl=>ak (l.length+1<=big) (ac (aI i (l++[x])) λU=>ae PV.none)) ps≠.stuck:=ns
   obtain ⟨l,e1,e2⟩:=Bh (Ad ns')
   rw [Ab e2] at ns'
   obtain ⟨c,e3⟩:=Ak ns'
   rw [decide_eq_true_eq] at c
   have e4:aI i (l++[x]) ps = .ok () { ps with st:=ps.st.set i (l++[x]) }:=by
    unfold aI;rw [if_pos (by simpa using c)]
   have e5:Ce (.lst i) [x] ps = .ok PV.none { ps with st:=ps.st.set i (l++[x]) }:=(Ab e2).trans (e3.trans (Ab e4))
   obtain ⟨a,ws,rfl,hi,hl,rw'⟩:=M2 I r e1
   unfold Ai
   rw [e5]
   refine wpAny_list_append_plain hl (λh' hl' S=>?_) (by rw [size_toArray,<- rw'.length,<- Bd];lia)
   obtain ⟨J,R⟩:=I.setLst (l:=l++[x]) (ws:=ws++[vx]) (tk:=s.toks) C.fm hi hl S (by simpa using hl') (rw'.append (.cons rx .nil))
   exact ⟨.none,_,V,rfl,J,.refl ..,R,.none⟩
end
end Mi
end
section
open PySem PySem.W PyProof.Rows
open PySem.Builtin PySem.Builtin.Str
set_option maxRecDepth 10000
namespace Mi
section
variable {W:Wd}{fm:Fm}{V α' α₁ Y0 w1:List Addr}{h h' h₁ W2 w3 start:Heap}{n:Nat}{A:Around}{ps ps':PS}{s s' c0 z0:Shared}{H:Hd}{h₀:Heap}{own:List Addr}
theorem SL:∀ {l:List PV} {vs:List Value} {ts:List Txt},Ds l=some ts->RepL H h₀ α₁ V h l vs->∃ lt:List (Str × Tok),vs=strValues lt/\lt.map (·.1)=ts.map txt:=by
 intro l
 induction l with
 | nil=>intro _ _ e r;cases r;cases e;exact ⟨[],rfl,rfl⟩
 | cons p l ih=>
  intro _ ts e r
  obtain ⟨v0,vs0,rfl,r,rs⟩:=r.inv
  obtain ⟨x,ex,e0⟩:=aV.mp (show (asS p).bind (λx=>(Ds l).map (x::·))=some ts from e)
  clear e
  obtain rfl:=Bg ex
  have e:=e0
  cases q:Ds l with
  | none=>rw [q] at e;cases e
  | some ts'=>
   rw [q] at e
   have e:some (x::ts')=some ts:=e
   cases e
   obtain ⟨lt,h1,h2⟩:=ih q rs
   obtain ⟨t,rfl⟩:=r.inv
   ·exact ⟨(txt x,t)::lt,by rw [h1];rfl,by rw [map_cons,h2];rfl⟩
theorem Qm (sep:Txt)(ts:List Txt):Txt.join (txt sep) (ts.map txt)=txt (G3 sep ts):=by
 show glued _ _=_
 apply Str.ext'
 cases ts with
 | nil=>rfl
 | cons t r=>
  show (r.map txt).foldl (λacc p=>acc++(txt sep).cps++p.cps) (txt t).cps=_
  have:∀ (r:List Txt) (acc:Txt),(r.map txt).foldl (λacc p=>acc++(txt sep).cps++p.cps) acc.toArray=(r.foldl (λacc p=>acc++sep++p) acc).toArray:=by
   intro r
   induction r with
   | nil=>intro acc;rfl
   | cons p r ih=>
    intro acc
    rw [map_cons,foldl_cons,foldl_cons,<- ih]
    congr 1
    simp [txt]
  exact this r t
theorem L5 (ts:List Txt):((ts.map txt).map (·.length)).sum=DK ts:=by
 unfold DK
 rw [List.map_map]
 exact congrArg List.sum (List.map_congr_left λt U=>AD t)
theorem D5:MethAt "str" "str.join" "join":=⟨PySem.F.plainAttrs_str,PySem.F.slot_str_join,PySem.F.type_str_join⟩
theorem Gx:OpMeth W n fm Bo "str.join" EZ:=.mk λA V ps s p v l vs C I hK r rl ns=>by
 obtain ⟨sep,rfl⟩:=G4 hK
 obtain ⟨x,vx,rfl,rfl,rx,nq⟩:=Do (f:=λp=>ap (asL p) λi=>ac (ar i) λl=>ac (aB (Ds l)) λts=>ak (DK ts+ts.length*sep.length<=big) (ae (PV.str (G3 sep ts)))) rl ns
 obtain ⟨i,e⟩:=AV nq
 obtain rfl:=Lr e
 have ns':ac (ar i) (λl=>ac (aB (Ds l)) λts=>ak (DK ts+ts.length*sep.length<=big) (ae (PV.str (G3 sep ts)))) ps≠.stuck:=ns
 obtain ⟨l,e1,e2⟩:=Bh (Ad ns')
 rw [Ab e2] at ns'
 obtain ⟨ts,e3,e4⟩:=Fr (Ad ns')
 rw [Ab e4] at ns'
 obtain ⟨c,e5⟩:=Ak ns'
 rw [decide_eq_true_eq] at c
 have e6:EZ (.str sep) [.lst i] ps = .ok (.str (G3 sep ts)) ps:=(Ab e2).trans ((Ab e4).trans e5)
 obtain ⟨a,ws,rfl,hl,rw'⟩:=DD I rx e1
 obtain ⟨lt,q1,q2⟩:=SL e3 rw'
 unfold Ai
 rw [e6]
 obtain ⟨t,rfl⟩:=r.inv
 refine SC.join (by rw [q1] at hl;exact hl) q2 ?_ λt' k=>?_
 ·unfold JoinOk
  rw [StrLaws.joinTotal,L5,length_map,AD]
  unfold tooLong
  rw [decide_eq_false (by rw [<- Bd];lia)];rfl
 ·rw [Qm]
  exact OkE.same I (.str _ _)
theorem I9 (x y:Str)(i:Int)(t u v:Tok)(k:Nat)(rest:List Nat)(h:occurrences x y (fromIndex x.length i) x.length 1=k::rest):Gives («str.index» ⟨[.str x t,.str y u,.int i v],[]⟩) (.int k):=by
 show Gives (match occurrences x y (fromIndex x.length i) (min x.length x.length) 1 with | i::_=>retInt i | []=>(do rule "str.index.not-found";raiseError "ValueError" "substring not found")) _
 rw [Nat.min_self,h]
 exact .of_eq rfl
theorem HO (x y:Str)(i:Int)(t u v:Tok)(h:occurrences x y (fromIndex x.length i) x.length 1=[]):Meets («str.index» ⟨[.str x t,.str y u,.int i v],[]⟩) (raisesNew "ValueError"):=by
 intro prog w A R s hS
 show wpAny _ _ (match occurrences x y (fromIndex x.length i) (min x.length x.length) 1 with | i::_=>retInt i | []=>_) _ _ s
 rw [Nat.min_self,h]
 first
  | exact bf (wpAny_rule (by exact_raiseError plainExc_ValueError hS.1 hS.2))
  | exact bf (wpAny_rule (bf (by exact_raiseError plainExc_ValueError hS.1 hS.2)))
def AtT (x y:Txt)(i:Nat):Prop:=i+y.length<=x.length/\(x.drop i).take y.length=y
theorem Gy (x y:Txt)(i:Nat):StrLaws.At (txt x) (txt y) (txt x).length i↔AtT x y i:=by
 unfold StrLaws.At AtT
 rw [StrLaws.subAt_eq,AD,AD]
 simp [txt]
theorem Ik (x y:Txt)(lo:Nat):(findFrom x y lo=none/\∀ i,lo<=i->¬ AtT x y i)\/∃ i,findFrom x y lo=some i/\lo<=i/\AtT x y i/\∀ k,lo<=k->k<i->¬ AtT x y k:=by
 have pi:∀ i,(decide (i+y.length<=x.length)&&((x.drop i).take y.length==y))=true↔AtT x y i:=λi=>by
  unfold AtT;simp
 cases q:findFrom x y lo with
 | none=>
  refine .inl ⟨rfl,λi hi ha=>?_⟩
  unfold findFrom at q
  rw [List.find?_eq_none] at q
  exact q i (List.mem_range'_1.mpr ⟨hi,by have:=ha.1;exact la [_,_,_,_,_] [([2,4,0],[6]),([6,3,0],[8,10,0])] ([2,3,0],[10,8,0]) rfl this (Mi.lcS _ _)⟩) ((pi i).mpr ha)
 | some i=>
  refine .inr ⟨i,rfl,?_⟩
  unfold findFrom at q
  rw [List.find?_range'_eq_some] at q
  obtain ⟨h1,h2,h3⟩:=q
  have h2:=List.mem_range'_1.mp h2
  refine ⟨h2.1,(pi i).mp h1,λk k1 k2 ha=>?_⟩
  have:=h3 k k1 k2
  rw [(pi k).mpr ha] at this
  simp at this
theorem Kk (x y:Txt)(lo:Nat):match findFrom x y lo with
  | none=>occurrences (txt x) (txt y) lo (txt x).length 1=[]
  | some i=>∃ r,occurrences (txt x) (txt y) lo (txt x).length 1=i::r:=by
 rcases StrLaws.occ_head_from (txt x) (txt y) lo 1 (aR _) with ⟨o1,o2⟩ | ⟨i,r,o1,o2,o3,o4⟩ <;> rcases Ik x y lo with ⟨f1,f2⟩ | ⟨j,f1,f2,f3,f4⟩
 ·rw [f1];exact o1
 ·exact absurd ((Gy x y j).mpr f3) (o2 j f2)
 ·exact absurd ((Gy x y i).mp o3) (f2 i o2)
 ·rw [f1]
  have:i=j:=by
   rcases Nat.lt_trichotomy i j with q | q | q
   ·exact absurd ((Gy x y i).mp o3) (f4 i o2 q)
   ·exact q
   ·exact absurd ((Gy x y j).mpr f3) (o4 j f2 q)
  subst this
  exact ⟨r,o1⟩
theorem L6:MethAt "str" "str.index" "index":=⟨PySem.F.plainAttrs_str,PySem.F.slot_str_index,PySem.F.type_str_index⟩
theorem Qn:OpMeth W n fm Bo "str.index" (Ex fm.hdl.isSome):=.mk λA V ps s p v l vs C I hK r rl ns=>by
 obtain ⟨x,rfl⟩:=G4 hK
 obtain ⟨t,rfl⟩:=r.inv
 obtain ⟨⟨y,oi⟩,e⟩:=AV (f:=λy:Txt × Option Int=>match y.2 with
  | none=>(match findFrom x y.1 0 with
   | some i=>ae (PV.int i)
   | none=>aq)
  | some p=>ak (0<=p&&Ah p) (match findFrom x y.1 p.toNat with
   | some i=>ae (PV.int i)
   | none=>aJ fm.hdl.isSome "ValueError")) ns
 rcases SK e with ⟨rfl,_⟩ | ⟨i,rfl,_⟩
 ·obtain ⟨vy,ws,rfl,rx,rs⟩:=rl.inv
  obtain rfl:ws=[]:=rs.inv
  obtain ⟨u,rfl⟩:=rx.inv
  ·have ns':(match findFrom x y 0 with
    | some i=>ae (PV.int i)
    | none=>aq) ps≠.stuck:=ns
   have oc:=Kk x y 0
   unfold Ai
   show wpAny _ _ _ (OkE W fm V s.heap ((match findFrom x y 0 with
    | some i=>ae (PV.int i)
    | none=>aq) ps)) _ _
   cases q:findFrom x y 0 with
   | none=>rw [q] at ns';exact absurd rfl ns'
   | some i=>
    rw [q] at oc
    obtain ⟨r,oc⟩:=oc
    exact SC.index oc (OkE.same I (.int _ _))
 ·obtain ⟨vy,ws,rfl,rx,rs⟩:=rl.inv
  obtain ⟨vz,ws,rfl,rz,rs⟩:=rs.inv
  obtain rfl:ws=[]:=rs.inv
  obtain ⟨u,rfl⟩:=rx.inv
  obtain ⟨v,rfl⟩:=rz.inv
  ··have ns':ak (0<=i&&Ah i) (match findFrom x y i.toNat with
     | some i=>ae (PV.int i)
     | none=>aJ fm.hdl.isSome "ValueError") ps≠.stuck:=ns
    obtain ⟨c,e⟩:=Ak ns'
    rw [e] at ns'
    refine Ai.congr (m:=Ex fm.hdl.isSome (.str x) [.str y,.int i]) e ?_
    rw [and_eq_true,decide_eq_true_eq] at c
    have fi:fromIndex (txt x).length i=i.toNat:=by
     unfold fromIndex
     rw [if_neg (by lia)]
     congr 1;lia
    have oc:=Kk x y i.toNat
    cases q:findFrom x y i.toNat with
    | none=>
     simp only [q] at ns' oc
     obtain ⟨h1,h2⟩:=Fu ns'
     have hh:A.handled=none:=by rw [C.hdl];exact Option.isNone_iff_eq_none.mp (by cases hq:fm.hdl <;> simp_all)
     refine Ai.congr (m':=λps=>.ex (.std "ValueError") ps) h2 ?_
     exact call_meets F.slot_str_index (typeIs_str _ _ _) F.entry_str_index (F.args_str_index_3 _ _ _) (HO (txt x) (txt y) i t u v (by rw [fi];exact oc)) ⟨hh,λh' tk e x=>Ft I x⟩
    | some k=>
     simp only [q] at ns' oc
     obtain ⟨r,oc⟩:=oc
     exact call_gives F.slot_str_index (typeIs_str _ _ _) F.entry_str_index (F.args_str_index_3 _ _ _) (I9 (txt x) (txt y) i t u v k r (by rw [fi];exact oc)) (OkE.same I (.int _ _))
end
end Mi
end
section
open PySem PySem.W PyProof.Rows
open PySem.Builtin PySem.Builtin.Str
set_option maxRecDepth 100000
namespace Mi
theorem Ef:PlainAttrs "frozenset":=
 ⟨⟨"object.__getattribute__",by rw [typeLookup_type,builtinLookup_eq_fast];kernel_rfl,by decide +kernel⟩,by rw [typeLookup_type,builtinLookup_eq_fast];kernel_rfl⟩
def asF:PV->Option Nat
 | .fset k=>some k
 | _=>none
def Oz (v:PV)(l:List PV):M PV:=ap (asF v) λk=>aH l λp=>ap (asS p) λx=>ae (.bool (x.all λc=>!A1 k c))
def OA (v:PV)(l:List PV):M PV:=ap (asF v) λk=>aH l λp=>ap (asS p) λx=>ae (.bool (x.all λc=>A1 k c))
section
variable {W:Wd}{fm:Fm}{V α' α₁ Y0 w1:List Addr}{h h' h₁ W2 w3 start:Heap}{n:Nat}{A:Around}{ps ps':PS}{s s' c0 z0:Shared}{H:Hd}{h₀:Heap}{own:List Addr}{E:Value->Shared->Prop}
theorem Kl {x:Txt}{i:Nat}:B7 (.str x) i ps = .ok ((x[i]?).map λc=>PV.str [c]) ps:=rfl
theorem Cq:Slot "frozenset" "isdisjoint" "frozenset.isdisjoint":=
 .of (owner:="frozenset") (n:="isdisjoint") (by rw [typeLookup_type,builtinLookup_eq_fast];kernel_rfl) (by decide +kernel) (by decide +kernel) (by decide +kernel)
  (by first | exact .inl (by decide +kernel) | exact .inr (by decide +kernel)) (by rw [isSubtype_type];kernel_rfl)
theorem F9:typeOf (.builtin "frozenset.isdisjoint")=pure (.type "method_descriptor"):=by show builtinType _=_;rw [builtinType_eq_fast];kernel_rfl
theorem Ga (a b:Value):argsOk "frozenset.isdisjoint" ⟨[a,b],[]⟩:=by
 unfold argsOk;kernel_rfl
theorem FD:entryFor table "frozenset.isdisjoint" = some Builtin.«frozenset.isdisjoint»:=entryFor_of_tree (by kernel_rfl)
theorem Ba:plainId "frozenset.isdisjoint.loop" = true:=by decide +kernel
theorem DB:entryFor table "frozenset.isdisjoint.loop" = some Builtin.«frozenset.isdisjoint.loop»:=entryFor_of_tree (by kernel_rfl)
theorem Gb:MethAt "frozenset" "frozenset.isdisjoint" "isdisjoint":=⟨Ef,Cq,F9⟩
theorem Km {It:Addr}{x:Txt}{St:Nat->Heap->Prop}(hA:A.handled=none)(F:FmOk W.h₀ fm)(nav:It∉fm.av)(freshI:start.get? It=none)(h0I:W.h₀.get? It=none)(itk:ItOk W fm V It (B7 (.str x)) St)
  {i:Nat} {s:Shared} (J:InvS W fm V ps s) (R:Rel fm.stk fm.tab V start s.heap) (st:St i s.heap) {Q:Option Value->Shared->Prop} {E:Value->Shared->Prop}
  (h0:x[i]? = none->∀ s',InvS W fm V ps s'->Rel fm.stk fm.tab V start s'.heap->Q none s')
  (h1:∀ c t s',x[i]? = some c->InvS W fm V ps s'->Rel fm.stk fm.tab V start s'.heap->St (i+1) s'.heap->Q (some (.str (txt [c]) t)) s'):wpAny W.m A (pyNext (.ref It)) Q E s:=by
 refine itk.next fm A V ps s i _ _ hA (prefix_refl _) F J st (by rw [Kl];exact λq=>(by cases q)) λo r h' tk eo kk rr=>?_
 rw [Kl] at eo
 obtain ⟨ob,vs,eI,dI,cI⟩:=itk.flds _ _ st
 have J2:=itk.turned (tk:=tk) F J st nav h0I kk
 have R2:=R.turn0 (Turn0.one J.inv.frames ⟨ob,vs,eI,dI,cI⟩ kk) (λb m=>by rw [mem_singleton.mp m];exact freshI)
 cases e:x[i]? with
 | none=>
  rw [e] at eo
  cases eo
  cases r with
  | some v=>exact rr.elim
  | none=>exact h0 e _ J2 R2
 | some c=>
  rw [e] at eo
  cases eo
  cases r with
  | none=>exact rr.elim
  | some v=>
   obtain ⟨rp,st2⟩:=rr
   obtain ⟨t,rfl⟩:=rp.inv
   exact h1 c t _ e J2 R2 st2
theorem Il {x:Txt}{i:Nat}{f:Nat->Bool}(e:x[i]? = none):(x.drop i).all f=true:=by
 rw [List.drop_of_length_le (List.getElem?_eq_none_iff.mp e)];rfl
theorem Im {x:Txt}{i c:Nat}{f:Nat->Bool}(e:x[i]? = some c):(x.drop i).all f=(f c&&(x.drop (i+1)).all f):=by
 obtain ⟨lt,e⟩:=ba.mp e
 rw [List.drop_eq_getElem_cons lt,all_cons,e]
set_option backward.match.sparseCases true in
theorem Gc {S It:Addr}{k m:Nat}{x:Txt}{St:Nat->Heap->Prop}(hS:FrozAt (strKind W.H.prog W.H.w) W.h₀ S (Fp k) m)(hm:m<4096)(hA:A.handled=none)(F:FmOk W.h₀ fm)(nav:It∉fm.av)(freshI:start.get? It=none)(h0I:W.h₀.get? It=none)
  (itk:ItOk W fm V It (B7 (.str x)) St) (d:Nat):∀ (i:Nat) (s:Shared),x.length<i+d->i<=x.length->InvS W fm V ps s->Rel fm.stk fm.tab V start s.heap->St i s.heap ->
  codeAny W.m A (.builtin "frozenset.isdisjoint.loop" ⟨[.ref S,.ref It],[]⟩) (λr s'=>match r with
   | .ok (.ret v)=>OkE W fm V start (.ok (.bool ((x.drop i).all λc=>!A1 k c)) ps) v s'
   | .ok _=>False
   | .error e=>E e s') s:=by
 have done:∀ (b:Bool) (s:Shared),InvS W fm V ps s->Rel fm.stk fm.tab V start s.heap->OkE W fm V start (.ok (.bool b) ps) (.bool b) s:=λb s J R=>⟨_,ps,V,rfl,J,.refl ..,R,.bool _⟩
 induction d with
 | zero=>intro i s hd hi;exact absurd hd (Nat.not_lt.mpr hi)
 | succ d ih=>
  intro i s hd hi J R st
  refine codeAny_builtin DB ?_
  rw [Around.under_plainId Ba _]
  show wpAny _ A.in1 (pyNext (.ref It) >>= _) _ _ s
  refine bf (Km (A:=A.in1) hA F nav freshI h0I itk J R st (λe s' J R=>bg ?_) λc t s' e J R st=>?_)
  ·rw [Il e];exact done true _ J R
  rw [Im e]
  have lt:=(ba.mp e).1
  obtain ⟨es,ep,tt,ho,hr⟩:=hS
  refine bf (be (IT (s:=s') (S:=Fp k) ⟨es,ep,tt,J.inv.base _ _ ho,hr⟩ hm ?_))
  rw [ET]
  show wpAny _ _ (if A1 k c=true then _ else _) _ _ _
  cases q:A1 k c with
  | true=>rw [if_pos rfl,Bool.not_true,Bool.false_and];exact bg (done false _ (J.tok _) R)
  | false=>rw [if_neg (by decide),Bool.not_false,Bool.true_and];exact bg ⟨plainId_quiet Ba _,ih (i+1) _ (by exact la [_,_,_] [([2,3,0],[4,6,3,0,0])] ([2,3,0],[4,3,0,6,0]) rfl hd) lt (J.tok _) R st⟩
theorem Nb {l:List PV}{f:Txt->M PV}(ns:aH l (λp=>ap (asS p) f) ps≠.stuck):∃ x,l=[.str x]:=by
 obtain ⟨p,rfl⟩:=IP ns
 obtain ⟨x,e⟩:=AV (f:=f) ns
 exact ⟨x,by rw [Bg e]⟩
set_option backward.match.sparseCases true in
theorem HP (hh:fm.hdl=none):OpMeth W n fm Ii "frozenset.isdisjoint" Oz:=.mk λA V ps s p v l vs C I hK r rl ns=>by
 have hA:A.handled=none:=C.hdl.trans hh
 obtain ⟨k,rfl⟩:=Qk hK
 obtain ⟨x,rfl⟩:=Nb (f:=λx=>ae (.bool (x.all λc=>!A1 k c))) ns
 obtain ⟨vx,ws,rfl,rx,rs⟩:=rl.inv
 cases (show ws=[] from rs.inv)
 obtain ⟨t,rfl⟩:=rx.inv
 obtain ⟨S,rfl,e⟩:=r.inv
 obtain ⟨m,hS,hm⟩:=C.hd.sets k S e
 have hS':=hS
 obtain ⟨es,ep,tt,ho,_⟩:=hS'
 have hT:s.TypeIs (.ref S) "frozenset":=⟨_,I.inv.base _ _ ho,rfl⟩
 have fresh:s.heap.get? s.heap.objs.size=none:=Az _
 have nav:=Bi I fresh
 have fin:∀ (St:Nat->Heap->Prop) o,ItOk W fm V s.heap.objs.size (B7 (.str x)) St->St 0 (s.heap.push o) ->
   codeAny W.m A (.builtin "frozenset.isdisjoint.loop" ⟨[.ref S,.ref s.heap.objs.size],[]⟩) (λr s'=>match r with
    | .ok (.ret v)=>OkE W fm V s.heap (Oz (.fset k) [.str x] ps) v s'
    | .ok _=>False
    | .error e=>ExE W fm V s.heap (Oz (.fset k) [.str x] ps) e s') { s with heap:=s.heap.push o }:=λSt o itk st=>by
  have:=Gc (E:=ExE W fm V s.heap (Oz (.fset k) [.str x] ps)) hS hm hA C.fm nav fresh (I.none _ fresh) itk (x.length+1) 0 { s with heap:=s.heap.push o } (by exact la [_] [] ([2,3,0],[1,2,3,0,0]) rfl) (aP _) (BL I o) (.of_keeps λb ob e=>get?_push_of_some _ e) st
  exact this
 refine wpAny_call (codeAny_call_builtin Cq.plain FD (Cq.check _ _ _ _ _ _ _ _ hT (Ga _ _) ?_))
 unfold Builtin.«frozenset.isdisjoint» Frozenset.oneOther
 unfold Frozenset.addrOf
 refine bf (bf (bg (bg ?_)))
 dsimp only
 rw [if_neg (by simp)]
 refine bf (wpAny_typeOf (typeIs_str _ _ _) ?_)
 rw [if_neg (by decide)]
 cases ha:(txt x).cps.all (· < 128)
 ·exact bf (wpAny_pyIter_wide ha (bg ⟨plainId_quiet Ba _,fin _ _ ItOk.strW ⟨_,get?_push_size _ rfl,rfl,rfl⟩⟩))
 ·exact bf (wpAny_pyIter_ascii ha (bg ⟨plainId_quiet Ba _,fin _ _ ItOk.strA ⟨_,get?_push_size _ rfl,rfl,rfl⟩⟩))
theorem Cr:Slot "frozenset" "issuperset" "frozenset.issuperset":=
 .of (owner:="frozenset") (n:="issuperset") (by rw [typeLookup_type,builtinLookup_eq_fast];kernel_rfl) (by decide +kernel) (by decide +kernel) (by decide +kernel)
  (by first | exact .inl (by decide +kernel) | exact .inr (by decide +kernel)) (by rw [isSubtype_type];kernel_rfl)
theorem Gd:typeOf (.builtin "frozenset.issuperset")=pure (.type "method_descriptor"):=by show builtinType _=_;rw [builtinType_eq_fast];kernel_rfl
theorem Ge (a b:Value):argsOk "frozenset.issuperset" ⟨[a,b],[]⟩:=by
 unfold argsOk;kernel_rfl
theorem FE:entryFor table "frozenset.issuperset" = some Builtin.«frozenset.issuperset»:=entryFor_of_tree (by kernel_rfl)
theorem Bb:plainId "frozenset.issuperset.loop" = true:=by decide +kernel
theorem DC:entryFor table "frozenset.issuperset.loop" = some Builtin.«frozenset.issuperset.loop»:=entryFor_of_tree (by kernel_rfl)
theorem Gf:MethAt "frozenset" "frozenset.issuperset" "issuperset":=⟨Ef,Cr,Gd⟩
set_option backward.match.sparseCases true in
theorem Gg {S It:Addr}{k m:Nat}{x:Txt}{St:Nat->Heap->Prop}(hS:FrozAt (strKind W.H.prog W.H.w) W.h₀ S (Fp k) m)(hm:m<4096)(hA:A.handled=none)(F:FmOk W.h₀ fm)(nav:It∉fm.av)(freshI:start.get? It=none)(h0I:W.h₀.get? It=none)
  (itk:ItOk W fm V It (B7 (.str x)) St) (d:Nat):∀ (i:Nat) (s:Shared),x.length<i+d->i<=x.length->InvS W fm V ps s->Rel fm.stk fm.tab V start s.heap->St i s.heap ->
  codeAny W.m A (.builtin "frozenset.issuperset.loop" ⟨[.ref S,.ref It],[]⟩) (λr s'=>match r with
   | .ok (.ret v)=>OkE W fm V start (.ok (.bool ((x.drop i).all λc=>A1 k c)) ps) v s'
   | .ok _=>False
   | .error e=>E e s') s:=by
 have done:∀ (b:Bool) (s:Shared),InvS W fm V ps s->Rel fm.stk fm.tab V start s.heap->OkE W fm V start (.ok (.bool b) ps) (.bool b) s:=λb s J R=>⟨_,ps,V,rfl,J,.refl ..,R,.bool _⟩
 induction d with
 | zero=>intro i s hd hi;exact absurd hd (Nat.not_lt.mpr hi)
 | succ d ih=>
  intro i s hd hi J R st
  refine codeAny_builtin DC ?_
  rw [Around.under_plainId Bb _]
  show wpAny _ A.in1 (pyNext (.ref It) >>= _) _ _ s
  refine bf (Km (A:=A.in1) hA F nav freshI h0I itk J R st (λe s' J R=>bg ?_) λc t s' e J R st=>?_)
  ·rw [Il e];exact done true _ J R
  rw [Im e]
  have lt:=(ba.mp e).1
  obtain ⟨es,ep,tt,ho,hr⟩:=hS
  refine bf (be (IT (s:=s') (S:=Fp k) ⟨es,ep,tt,J.inv.base _ _ ho,hr⟩ hm ?_))
  rw [ET]
  show wpAny _ _ (if A1 k c=true then _ else _) _ _ _
  cases q:A1 k c with
  | true=>rw [if_pos rfl,Bool.true_and];exact bg ⟨plainId_quiet Bb _,ih (i+1) _ (by exact la [_,_,_] [([2,3,0],[4,6,3,0,0])] ([2,3,0],[4,3,0,6,0]) rfl hd) lt (J.tok _) R st⟩
  | false=>rw [if_neg (by decide),Bool.false_and];exact bg (done false _ (J.tok _) R)
set_option backward.match.sparseCases true in
theorem HQ (hh:fm.hdl=none):OpMeth W n fm Ii "frozenset.issuperset" OA:=.mk λA V ps s p v l vs C I hK r rl ns=>by
 have hA:A.handled=none:=C.hdl.trans hh
 obtain ⟨k,rfl⟩:=Qk hK
 obtain ⟨x,rfl⟩:=Nb (f:=λx=>ae (.bool (x.all λc=>A1 k c))) ns
 obtain ⟨vx,ws,rfl,rx,rs⟩:=rl.inv
 cases (show ws=[] from rs.inv)
 obtain ⟨t,rfl⟩:=rx.inv
 obtain ⟨S,rfl,e⟩:=r.inv
 obtain ⟨m,hS,hm⟩:=C.hd.sets k S e
 have hS':=hS
 obtain ⟨es,ep,tt,ho,_⟩:=hS'
 have hT:s.TypeIs (.ref S) "frozenset":=⟨_,I.inv.base _ _ ho,rfl⟩
 have fresh:s.heap.get? s.heap.objs.size=none:=Az _
 have nav:=Bi I fresh
 have fin:∀ (St:Nat->Heap->Prop) o,ItOk W fm V s.heap.objs.size (B7 (.str x)) St->St 0 (s.heap.push o) ->
   codeAny W.m A (.builtin "frozenset.issuperset.loop" ⟨[.ref S,.ref s.heap.objs.size],[]⟩) (λr s'=>match r with
    | .ok (.ret v)=>OkE W fm V s.heap (OA (.fset k) [.str x] ps) v s'
    | .ok _=>False
    | .error e=>ExE W fm V s.heap (OA (.fset k) [.str x] ps) e s') { s with heap:=s.heap.push o }:=λSt o itk st=>by
  have:=Gg (E:=ExE W fm V s.heap (OA (.fset k) [.str x] ps)) hS hm hA C.fm nav fresh (I.none _ fresh) itk (x.length+1) 0 { s with heap:=s.heap.push o } (by exact la [_] [] ([2,3,0],[1,2,3,0,0]) rfl) (aP _) (BL I o) (.of_keeps λb ob e=>get?_push_of_some _ e) st
  exact this
 refine wpAny_call (codeAny_call_builtin Cr.plain FE (Cr.check _ _ _ _ _ _ _ _ hT (Ge _ _) ?_))
 unfold Builtin.«frozenset.issuperset» Frozenset.oneOther
 unfold Frozenset.addrOf
 refine bf (bf (bg (bg ?_)))
 dsimp only
 refine bf (m:=Frozenset.isAnySet (.str (txt x) t)) ?_
 unfold Frozenset.isAnySet
 refine bf (wpAny_isInstance (typeIs_str s (txt x) t) (b:=false) (by kernel_rfl) ?_)
 refine bf (bg ?_)
 refine wpAny_isInstance (typeIs_str s (txt x) t) (b:=false) (by kernel_rfl) ?_
 rw [if_neg (by decide)]
 cases ha:(txt x).cps.all (· < 128)
 ·exact bf (wpAny_pyIter_wide ha (bg ⟨plainId_quiet Bb _,fin _ _ ItOk.strW ⟨_,get?_push_size _ rfl,rfl,rfl⟩⟩))
 ·exact bf (wpAny_pyIter_ascii ha (bg ⟨plainId_quiet Bb _,fin _ _ ItOk.strA ⟨_,get?_push_size _ rfl,rfl,rfl⟩⟩))
end
end Mi
end
section
open PySem PySem.W PyProof.Rows
open PySem.Builtin PySem.Builtin.Str PySem.NumText
set_option maxRecDepth 100000
namespace Mi
def hexdig (c:Nat):Nat:=if c<=57 then c - 48 else if 97<=c then c - 87 else c - 55
def hexval (x:Txt):Nat:=x.foldl (λa c=>a*16+hexdig c) 0
theorem Nc {c:Nat}(h:hexd c=true):c<128:=by
 unfold hexd at h
 simp only [or_eq_true,and_eq_true,decide_eq_true_eq] at h
 lia
theorem Ca {c:Nat}(h:hexd c=true):digit? c=some (hexdig c)/\hexdig c<16/\c≠95/\c≠0/\blank c=false/\c≠45/\c≠43/\c<128/\c≠120/\c≠88:=
 (by decide +kernel:∀ c<128,hexd c=true->digit? c=some (hexdig c)/\hexdig c<16/\c≠95/\c≠0/\blank c=false/\c≠45/\c≠43/\c<128/\c≠120/\c≠88) c (Nc h) h
theorem L7 (x:Txt):∀ (acc:Array Nat) (b:Bool),x.all hexd=true->x.foldlM (step 16) (acc,b)=some (acc++(x.map hexdig).toArray,b||!x.isEmpty):=by
 induction x with
 | nil=>intro acc b _;simp
 | cons c x ih=>
  intro acc b h
  rw [all_cons,and_eq_true] at h
  obtain ⟨d1,d2,d3,_⟩:=Ca h.1
  rw [List.foldlM_cons]
  have e:step 16 (acc,b) c=some (acc.push (hexdig c),true):=by
   unfold NumText.step
   simp only [beq_iff_eq,d3,if_false,d1,d2,if_true]
  rw [e]
  show x.foldlM (step 16) (acc.push (hexdig c),true)=_
  rw [ih _ _ h.2]
  simp
theorem Eg (x:Txt)(h:x.all hexd=true):x.dropWhile blank=x:=by
 cases x with
 | nil=>rfl
 | cons c x=>
  rw [all_cons,and_eq_true] at h
  obtain ⟨_,_,_,_,d5,_⟩:=Ca h.1
  rw [List.dropWhile_cons,d5];rfl
theorem SM (x:Txt)(h:x.all hexd=true):x.reverse.all hexd=true:=by rw [List.all_reverse];exact h
theorem Qo (x:Txt)(h:x.all hexd=true):sign x=(false,x):=by
 cases x with
 | nil=>rfl
 | cons c x=>
  rw [all_cons,and_eq_true] at h
  obtain ⟨_,_,_,_,_,d6,d7,_⟩:=Ca h.1
  unfold sign
  delta NumText.sign.match_1
  exact (dif_neg d6).trans (dif_neg d7)
theorem L8 (x:Txt)(h:x.all hexd=true):prefix? x≠some 16:=by
 cases x with
 | nil=>exact nofun
 | cons a x=>
  cases x with
  | nil=>
   by_cases q:a=48
   ·subst q;exact nofun
   ·unfold prefix?
    delta NumText.prefix?.match_1
    exact λz=>nomatch (dif_neg q).symm.trans z
  | cons c r=>
   by_cases q:a=48
   ·subst q
    rw [all_cons,and_eq_true,all_cons,and_eq_true] at h
    obtain ⟨_,_,_,_,_,_,_,_,d9,d10⟩:=Ca h.2.1
    show (if (c==120||c==88)=true then some 16 else if (c==111||c==79)=true then some 8 else if (c==98||c==66)=true then some 2 else none)≠some 16
    rw [if_neg (by simp [d9,d10])]
    by_cases q1:(c==111||c==79)=true
    ·rw [if_pos q1];exact nofun
    ·rw [if_neg q1]
     by_cases q2:(c==98||c==66)=true
     ·rw [if_pos q2];exact nofun
     ·rw [if_neg q2];exact nofun
   ·unfold prefix?
    delta NumText.prefix?.match_1
    exact λz=>nomatch (dif_neg q).symm.trans z
theorem OB (x:Txt)(h:x.all hexd=true):based 16 x=(16,false,x):=by
 have hp:=L8 x h
 unfold based
 cases e:prefix? x with
 | none=>rfl
 | some p=>
  have:p≠16:=λz=>hp (e.trans (congrArg some z))
  exact if_neg (by simp;exact λe=>this e.symm)
theorem Uv (x:Txt)(h:x.all hexd=true)(ne:x≠[]):(int_private% "readNumeral") 0 16 x=(int_private% "Numeral.value") (hexval x):=by
 have e1:=Eg x h
 have e2:=Qo x h
 have e3:=OB x h
 have e4:=Eg x.reverse (SM x h)
 refine (readNumeral_eq 0 16 x).trans ?_
 rw [e1,e2]
 simp only [e3,e4,List.reverse_reverse]
 unfold digits?
 rw [L7 x #[] false h]
 have:x.isEmpty=false:=by cases x with
  | nil=>exact absurd rfl ne
  | cons=>rfl
 simp only [this,Option.bind_some,Bool.not_false,Bool.or_true,if_true]
 unfold judge
 simp only [Array.empty_append]
 have ev:(x.map hexdig).toArray.foldl (λacc d=>acc*16+d) 0=hexval x:=by
  rw [List.foldl_toArray,List.foldl_map];rfl
 rw [if_neg (by simp),if_neg (by simp),ev]
 rfl
theorem OC {M:Model}{A:Around}{E:Value->Shared->Prop}{s:Shared}{Q:Value->Shared->Prop}{v:Value}{text:List Nat}{n:Int}
  (hs:(text.takeWhile (· != 0)).length<=640) (hr:(int_private% "readNumeral") 0 16 (text.takeWhile (· != 0))=(int_private% "Numeral.value") n)
  (ha:((text.takeWhile (· != 0)).length==text.length)=true) (h:Q (.int n s.toks) { s with toks:=s.toks+1 }) :
  wpAny M A ((int_private% "intFromText") v text 16) Q E s:=by
 obtain ⟨hp,g,d,tk,os⟩:=s
 repeat (any_goals (first
  | assumption
  | (with_reducible refine wpAny_ite_true (decide_eq_true hs) ?_)
  | (with_reducible refine wpAny_ite_true (decide_eq_true ha) ?_)
  | wp_step))
 all_goals (try rw [hr])
 all_goals (try dsimp only)
 repeat (any_goals (first
  | assumption
  | (with_reducible refine wpAny_ite_true (decide_eq_true hs) ?_)
  | (with_reducible refine wpAny_ite_true (decide_eq_true ha) ?_)
  | wp_step))
theorem G5 (x:Txt)(h:x.all hexd=true):x.takeWhile (· != 0)=x:=by
 induction x with
 | nil=>rfl
 | cons c x ih=>
  rw [all_cons,and_eq_true] at h
  obtain ⟨_,_,_,d4,_⟩:=Ca h.1
  rw [List.takeWhile_cons,if_pos (by simpa using d4),ih h.2]
set_option maxHeartbeats 4000000 in
theorem OD {x:Txt}{u v:Tok}(h:x.all hexd=true)(ne:x≠[])(hl:x.length<=640):Gives (Builtin.«int.__new__» ⟨[.type "int",.str (txt x) u,.int 16 v],[]⟩) (.int (hexval x)):=
 .of_wp λM A E s Q hq=>by
  obtain ⟨hp,g,d,tk,os⟩:=s
  have f1:=F.conv_sub_int
  have f2:=F.madeHere_int
  have f6:typeOf (.str (txt x) u)=pure (.type "str"):=rfl
  have e0:(txt x).cps.all (· < 128)=true:=by
   rw [<- Array.all_toList]
   show x.toArray.toList.all _=true
   rw [List.toList_toArray,all_eq_true]
   intro c hc
   obtain ⟨_,_,_,_,_,_,_,d8,_⟩:=Ca (all_eq_true.mp h c hc)
   exact decide_eq_true d8
  have e1:(txt x).cps.toList=x:=by simp [txt]
  have hs:(x.takeWhile (· != 0)).length<=640:=by rw [G5 x h];exact hl
  have hr:(int_private% "readNumeral") 0 16 (x.takeWhile (· != 0))=(int_private% "Numeral.value") (hexval x):=by rw [G5 x h];exact Uv x h ne
  have ha:((x.takeWhile (· != 0)).length==x.length)=true:=by rw [G5 x h];exact beq_self_eq_true _
  have hk:=W.KIN.Hid.mk (And.intro hs (And.intro hr ha))
  clear hs hr ha hl h ne
  repeat (any_goals (first
   | assumption
   | ((with_reducible show wpAny _ _ ((int_private% "intFromText") _ _ _) _ _ _);simp only [e0,e1,if_true];refine OC hk.out.1 hk.out.2.1 hk.out.2.2 ?_)
   | wp_step))
  all_goals first | exact ⟨_,rfl,hq⟩ | skip
end Mi
end
section
open PySem PySem.W PyProof.Rows
open PySem.Builtin PySem.Builtin.Str
set_option maxRecDepth 100000
namespace Mi
def V9 (x:Txt × Int):M PV:=ak (x.2==16&&!x.1.isEmpty&&x.1.all hexd&&x.1.length<=640) (ae (.int (hexval x.1)))
def TT (l:List PV):Option (Txt × Int):=un l λp r=>(asS p).bind λs=>un r λq r=>(asI q).bind λi=>cond r.isEmpty (some (s,i)) none
def SO (l:List PV):M PV:=ap (TT l) V9
theorem Qp {l:List PV}{x:Txt × Int}(h:TT l=some x):l=[.str x.1,.int x.2]:=by
 obtain ⟨p,r,rfl,h⟩:=EO h
 obtain ⟨s,e,h⟩:=aV.mp h
 obtain ⟨q,r,rfl,h⟩:=EO h
 obtain ⟨i,e',h⟩:=aV.mp h
 obtain ⟨e1,rfl⟩:=Fq h
 rw [Bg e,A6 e',e1]
theorem G6 (a b:Value):checkTypeCall "int" ⟨[a,b],[]⟩=pure ():=by kernel_rfl
theorem HR (a b:Value):checkBuiltinCall "int.__new__" ⟨[.type "int",a,b],[]⟩=pure ():=by kernel_rfl
theorem Ey (a b c:Value):argsOk "object.__init__" ⟨[a,b,c],[]⟩:=by unfold argsOk;kernel_rfl
section
variable {W:Wd}{fm:Fm}{V α' α₁ Y0 w1:List Addr}{h h' h₁ W2 w3 start:Heap}{n:Nat}{A:Around}{ps ps':PS}{s s' c0 z0:Shared}{H:Hd}{h₀:Heap}{own:List Addr}{E:Value->Shared->Prop}
theorem L9:OpCall W n fm (.type "int") SO:=.mk λA V ps s l vs C I rl ns=>by
 obtain ⟨⟨x,b⟩,e⟩:=AV ns
 obtain rfl:=Qp e
 obtain ⟨va,ws,rfl,ra,rs⟩:=rl.inv
 obtain ⟨vb,ws,rfl,rb,rs⟩:=rs.inv
 obtain rfl:ws=[]:=rs.inv
 have ns':ak (b==16&&!x.isEmpty&&x.all hexd&&x.length<=640) (ae (PV.int (hexval x))) ps≠.stuck:=ns
 obtain ⟨c,e⟩:=Ak ns'
 refine Ai.congr (m':=ae (PV.int (hexval x))) e ?_
 simp only [and_eq_true,decide_eq_true_eq,beq_iff_eq,not_eq_true'] at c
 obtain ⟨⟨⟨rfl,c2⟩,c3⟩,c4⟩:=c
 obtain ⟨_,rfl⟩:=ra.inv;obtain ⟨_,rfl⟩:=rb.inv
 exact callType_new F.called_int F.newNe_int (G6 _ _) (HR _ _) (λobj=>Ey obj _ _) F.entry_int_new (OD c3 (by intro q;rw [q] at c2;cases c2) c4).meets
  (show (Made.int (hexval x)).post _ s from ⟨rfl,OkE.same I (.int _ _)⟩)
theorem Qq {av:List Addr}{l:List Int}{vs:List Value}(x:IntsAre vs l):RepL H h₀ av V h (l.map .int) vs:=by
 induction x with
 | nil=>exact .nil
 | cons n t r ih=>exact .cons (.int n t) ih
theorem Io {av:List Addr}{x:Txt}:∀ (acc:List Value) (i:Nat),(∀ (j:Nat) v,acc[j]? = some v->SignAt (txt x) (i+j) v)->i+acc.length<=x.length->RepL H h₀ av V h (((x.drop i).take acc.length).map λc=>PV.str [c]) acc
 | [],i,_,_=>by simpa using RepL.nil
 | v::acc,i,hv,hl=>by
  have lt:i<x.length:=by simp at hl;exact la [_,_,_] [([2,4,3,0,0],[6])] ([2,3,0],[6]) rfl hl
  obtain ⟨c,t,hc,rfl⟩:=hv 0 v rfl
  have e:x.drop i=x[i]::x.drop (i+1):=List.drop_eq_getElem_cons lt
  have hc':x[i]=c:=by
   have:x[i]? = some c:=by simpa [txt] using hc
   rw [getElem?_eq_getElem lt] at this
   exact aT this
  rw [e,length_cons,List.take_succ_cons,map_cons,hc']
  refine .cons (.str [c] t) ?_
  have:=Io (av:=av) (x:=x) acc (i+1) (λj v q=>by have:=hv (j+1) v (by simpa using q);rwa [show i+(j+1)=i+1+j by exact Nat.le_antisymm (la [_,_] [] ([2,4,3,0,0],[2,3,0,4,0]) rfl) (la [_,_] [] ([2,3,0,4,0],[2,4,3,0,0]) rfl)] at this) (by simp at hl;exact la [_,_,_] [([2,4,3,0,0],[6])] ([2,3,0,4,0],[6]) rfl hl)
  exact this
set_option tactic.hygienic true in
theorem Ip (hh:fm.hdl=none):OpCall W n fm (.type "list") M0:=.mk λA V ps s l vs C I r0 ns=>by
 have hA:A.handled=none:=C.hdl.trans hh
 obtain ⟨p,v,rfl,rfl,r,nq⟩:=Do r0 ns
 clear r0
 cases p <;> (try exact absurd rfl ns)
 ·rename_i x
  have ns':ao (x.map λc=>PV.str [c]) ps≠.stuck:=ns
  have hb:=Cy ns'
  rw [length_map] at hb
  obtain ⟨t,rfl⟩:=r.inv
  have sz:(txt x).cps.size=x.length:=by simp [txt]
  refine Ai.congr (m':=ao (x.map λc=>PV.str [c])) rfl ?_
  refine call_list_str hA (txt x) t (λh' tk acc' c' hk ho hi=>?_) (by rw [sz,<- Bd];exact hb)
  have len:acc'.toList.length=x.length:=by rw [Array.length_toList,hi.1,sz]
  have rl:RepL W.H W.h₀ fm.av V s.heap (x.map λc=>PV.str [c]) acc'.toList:=by
   have:=Io (H:=W.H) (h₀:=W.h₀) (V:=V) (h:=s.heap) (av:=fm.av) (x:=x) acc'.toList 0 (λj v q=>by rw [Nat.zero_add];exact hi.2 j v (by rw [<- Array.getElem?_toList];exact q)) (by exact la [_,_] [([2],[4])] ([1,2,0],[4]) rfl (aS len))
   rwa [drop_zero,len,take_length] at this
  exact OkE.newLst (a:=s.heap.objs.size) C I (by rw [length_map];exact hb) rl hk (Az _) ⟨c',by simpa using ho⟩
 ·rename_i l
  have ns':ao (l.map .int) ps≠.stuck:=ns
  have hb:=Cy ns'
  rw [length_map] at hb
  obtain ⟨a,vs,rfl,hl,hv⟩:=r.inv
  ·obtain ⟨o,ho,hc,k,hd⟩:=hl
   have len:vs.size=l.length:=by rw [<- Array.length_toList];exact hv.length
   refine Ai.congr (m':=ao (l.map .int)) rfl ?_
   refine call_list_seq (hsz:=by rw [len,<- Bd];exact hb) a (.inl rfl) (I.inv.base _ _ ho) hc hd λh' c' hk hS=>?_
   exact OkE.newLst (tk:=s.toks) (a:=s.heap.objs.size) C I (by rw [length_map];exact hb) (Qq hv) hk (Az _) ⟨c',by simpa using hS⟩
end
end Mi
end
section
open PySem PySem.W PyProof.Rows
set_option maxRecDepth 100000
namespace Mi
def Ja (h:Heap)(f:Addr)(fd:FuncData)(fi:Fi):Prop:=
 (∃ o,h.get? f=some o/\o.data = .func fd)/\fd.scope=fi.scope/\fd.body = .stmts fi.body/\fd.closure=[]/\fd.globals=mainGlobals/\fd.builtins=builtinsNs /\
  ∃ c oc vs t,fd.code = .ref c/\h.get? c=some oc/\oc.cls = .type "code"/\oc.data = .fields vs/\vs[1]? = some (.str fd.qualname t)
theorem Ja.fnAt {h:Heap}{f:Addr}{fd:FuncData}{fi:Fi}(x:Ja h f fd fi):FnAt h f fd fi:=by
 obtain ⟨h1,h2,h3,h4,h5,h6,c,oc,vs,t,e1,e2,e3,e4,e5⟩:=x
 exact ⟨h1,h2,h3,h4,h5,h6,c,oc,vs,t,e1,e2,e4,e5⟩
section
variable {W:Wd}{fm:Fm}{V α' α₁ Y0 w1:List Addr}{h h' h₁ W2 w3 start:Heap}{n:Nat}{A:Around}{ps ps':PS}{s s' c0 z0:Shared}{H:Hd}{h₀:Heap}{own:List Addr}{E:Value->Shared->Prop}
theorem InvS.tabStep (F:FmOk W.h₀ fm)(I:InvS W fm V ps s){P:Addr}(hP:P∈fm.tab)(x:ExtBut P s.heap h')(lv:(h'.get? P).isSome=true)(tb:∀ Q∈fm.tab,Ch W.H h' Q){tk:Nat} :
  InvS W fm V ps { s with heap:=h',toks:=tk }/\Rel fm.stk fm.tab V s.heap h':=by
 have neT:∀ b,b∉fm.tab->b≠P:=λb m q=>m (q▸hP)
 have R:Rel fm.stk fm.tab V s.heap h':=⟨λb o e U m U=>x b o (neT b m) e,λb o e U m U=>⟨o.slots,x b o (neT b m) e⟩,λb e=>by
  cases q:s.heap.get? b with
  | none=>rfl
  | some o=>
   by_cases z:b=P
   ·rw [z] at e;rw [e] at lv;cases lv
   ·rw [x b o z q] at e;cases e⟩
 have pav:=F.tabAv P hP
 refine ⟨⟨I.inv.carry F R ⟨I.inv.lists.len,λi l e=>?_,I.inv.lists.nodup,I.inv.lists.fresh,I.inv.lists.apart⟩ (.refl ..) ?_ tb,I.gens,I.os⟩,R⟩
 ·obtain ⟨a,vs,h1,⟨k,h2⟩,h3⟩:=I.inv.lists.at_ i l e
  exact ⟨a,vs,h1,⟨k,x a _ (λq=>I.inv.lists.apart a (mem_of_getElem? h1) (q▸pav)) h2⟩,RepL.stays I.inv.lists R (prefix_refl _) F.frsAv F.tabAv h3⟩
 ·refine I.inv.frames.of_keeps λb o e nf=>⟨o,x b o (λq=>?_) e,rfl⟩
  obtain ⟨ps0,e0,_⟩:=I.inv.tabs P hP
  rw [q,e0] at e;cases e;exact nf ps0 rfl
theorem Gh {name qual:Str}{params:Arguments}{body:List Stmt}{scope:Scope}{pos:Pos}{fl:Nat}{c P:Addr}{fi:Fi}{Q:Value->Shared->Prop}(C:Ctx W fm n A)(I:InvS W fm V ps s)(hc:fm.env.code = .ref c)(hcd:CodeHd W.h₀ c P)(hP:fm.tab=[P])
  (hp:pos=W.H.tabPos) (hq:qual=W.H.tabQ) (hfree:∀ y∈scope.names,y.2≠.free) (hs:scope=fi.scope) (hb:body=fi.body) (hbm:∃ bm ob,W.H.mg "__builtins__" = some (.ref bm)/\bm≠builtinsNs/\W.h₀.get? bm=some ob/\ob.cls = .type "module"/\ob.dict=some builtinsNs/\ob.data = .plain)
  (h:∀ f doc ctv c' s',InvS W fm V ps s'->Rel fm.stk fm.tab V s.heap s'.heap->f∉fm.av->s.heap.get? f=none->Ja s'.heap f (fnX name qual params body scope [] .none .none doc ((W.H.mg "__name__").getD .none) none (.ref c') ctv) fi->Q (.ref f) s') :
  wpAny W.m A (makeFunction name qual params (.stmts body) scope fm.env [] [] [] pos fl) Q E s:=by
 have hPm:P∈fm.tab:=by rw [hP];exact mem_singleton_self _
 have hcl:closureFor scope fm.env=pure []:=closureFor_none hfree
 have hg:s.heap.Ns mainGlobals W.H.mg:=C.hd.g.keeps I.inv.base
 have hcd':=hcd.keeps I.inv.base
 obtain ⟨bm,ob,b1,b2,b3,b4,b5,b6⟩:=hbm
 obtain ⟨ps0,eP,ht⟩:=I.inv.tabs P hPm
 have pav:=C.fm.tabAv P hPm
 have notP:∀ b o,W.h₀.get? b=some o->b≠P:=λb o e q=>by rw [q,C.fm.fresh P pav] at e;cases e
 have hgP:mainGlobals≠P:=by
  obtain ⟨o,_,_,e,_⟩:=C.hd.g
  exact notP _ _ e
 have hbG:bm≠mainGlobals:=λq=>by
  obtain ⟨o,es,ep,e,hd,_⟩:=C.hd.g
  rw [q,e] at b3;cases b3;rw [hd] at b6;cases b6
 rcases ht with rfl | ⟨k,oc,vs,t,rfl,k1,k2,k3,k4⟩
 ·rw [makeFunction_eq]
  simp only [List.zip_nil_right,List.filterMap_nil,isEmpty_nil,if_true,pure_bind]
  unfold makeTail
  rw [hcl,C.fm.glob,C.fm.bi]
  refine bf (bg ?_)
  simp only [isEmpty_nil,if_true]
  refine bf (bg ?_)
  refine bf (wpAny_functionCodeX hc (hcd'.code eP trivial) (hcd'.tab eP) rfl λc' h' tk hx hge hlt U hrec htb htc=>?_)
  have hg':=hg.extBut hx hgP
  refine bf (wpAny_builtinsFor hg' b1 b2 (hx _ _ (notP _ _ b3) (I.inv.base _ _ b3)) b4 b5 b6 ?_)
  refine bf (wpAny_nsGet hg' ?_)
  obtain ⟨P',hP',_,⟨⟨oc,vs,q1,q2,q3,q4⟩,_⟩⟩:=htc
  obtain ⟨X8,Y8,Z8,Z7,W1,g1,g2,g3⟩:=hrec
  cases W1
  rw [q1] at g1;cases g1
  rw [q3] at g2;cases g2
  have tb:∀ Q∈fm.tab,Ch W.H h' Q:=λQ hQ=>by
   rw [hP] at hQ
   rw [mem_singleton.mp hQ]
   exact ⟨_,htb.2,.inr ⟨c',_,_,Z7,by rw [<- hp];rfl,q1,q2,q3,by rw [<- hq];exact g3⟩⟩
  have fin:∀ (doc:Value) (tk:Nat),wpAny W.m A (newObj (.type "function") (.func (fnX name qual params body scope [] .none .none doc ((W.H.mg "__name__").getD .none) none (.ref c') .none))) Q E { s with heap:=h',toks:=tk }:=λdoc tk=>by
   obtain ⟨J,R⟩:=I.tabStep (tk:=tk) C.fm hPm hx (by rw [htb.2];rfl) tb
   have fr:=Bi J (Az _)
   refine wpAny_newObj_type (h _ _ _ _ _ (BL J _) (Ck (s:={ s with heap:=h',toks:=tk }) R _) fr (R.live _ (Az _)) ⟨⟨_,get?_push_size _ rfl,rfl⟩,hs,by rw [<- hb],rfl,rfl,rfl,c',_,_,Z7,rfl,get?_push_of_some _ q1,q2,q3,g3⟩) (by size_fits)
  cases hdoc:docOf body with
  | none=>exact bf (bg (fin _ _))
  | some t=>exact bf (wpAny_mkText (fin _ _))
 ·refine makeFunction_hit (mg:=W.H.mg) (cv:=.ref k) hcl C.fm.glob hg hc hcd' eP trivial (by rw [hp];simp [codeAmong,rawInt]) ⟨bm,ob,b1,b2,hbG,notP _ _ b3,I.inv.base _ _ b3,b4,b5,b6⟩ λctv doc h' tk hk hsz=>?_
  have J:InvS W fm V ps { s with heap:=h',toks:=tk }:=⟨I.inv.keeps hk,I.gens,I.os⟩
  have R:Rel fm.stk fm.tab V s.heap h':=.of_keeps hk
  exact h _ doc ctv k _ (BL J _) (Ck (s:={ s with heap:=h',toks:=tk }) R _) (Bi J (Az _)) (R.live _ (Az _)) ⟨⟨_,get?_push_size _ rfl,rfl⟩,hs,by rw [<- hb],rfl,rfl,rfl,k,oc,vs,t,rfl,get?_push_of_some _ (hk _ _ k1),k2,k3,by rw [hq];exact k4⟩
end
end Mi
end
section
open PySem PySem.W PyProof.Rows
open PySem.Builtin PySem.Builtin.Str
set_option maxRecDepth 100000
namespace Mi
def posns (c:Nat)(x:Txt)(hi:Nat):List Nat:=(range hi).filter λi=>x[i]?==some c
def Nd (l:List PV):Option (Nat × Int × Int):=un l λp r=>(asS p).bind λs=>(one s).bind λc=>un r λq r=>(asI q).bind λa=>un r λq r=>(asI q).bind λb=>cond r.isEmpty (some (c,a,b)) none
theorem Qr {l:List PV}{x:Nat × Int × Int}(h:Nd l=some x):l=[.str [x.1],.int x.2.1,.int x.2.2]:=by
 obtain ⟨p,r,rfl,h⟩:=EO h
 obtain ⟨s,es,h⟩:=aV.mp h
 obtain ⟨c,ec,h⟩:=aV.mp h
 obtain ⟨q,r,rfl,h⟩:=EO h
 obtain ⟨a,ea,h⟩:=aV.mp h
 obtain ⟨q',r,rfl,h⟩:=EO h
 obtain ⟨b,eb,h⟩:=aV.mp h
 obtain ⟨rfl,rfl⟩:=Fq h
 rw [Bg es,EP ec,A6 ea,A6 eb]
def G7 (v:PV)(l:List PV):M PV:=ap (asS v) λx=>ap (Nd l) λq=>ak (q.2.1==0&&0<=q.2.2&&Ah q.2.2) (ae (.int (posns q.1 x (min q.2.2.toNat x.length)).length))
def E0 (v:PV)(l:List PV):M PV:=ap (asS v) λx=>ap (Nd l) λq=>ak (q.2.1==0&&0<=q.2.2&&Ah q.2.2) (match (posns q.1 x (min q.2.2.toNat x.length)).getLast? with
  | some i=>ae (.int i)
  | none=>aq)
theorem Jb (x:Txt)(c hi i:Nat)(hh:hi<=x.length):(i+(⟨#[c]⟩:Str).length<=hi/\subAt (txt x) ⟨#[c]⟩ i=true)↔i<hi/\x[i]? = some c:=by
 have e:(⟨#[c]⟩:Str).length=1:=rfl
 have:subAt (txt x) ⟨#[c]⟩ i=true↔x[i]? = some c:=by
  rw [StrLaws.subAt_eq]
  simp only [e,txt]
  exact StrLaws.take1_drop
 rw [this,e]
 constructor
 ·rintro ⟨h1,h2⟩;exact ⟨by exact la [_,_] [([2,3,0],[4])] ([2,3,0],[4]) rfl h1,h2⟩
 ·rintro ⟨h1,h2⟩;exact ⟨by exact la [_,_] [([2,3,0],[4])] ([2,3,0],[4]) rfl h1,h2⟩
theorem Nf (x:Txt)(c hi limit:Nat)(hh:hi<=x.length)(l:List Nat):∀ (found:Array Nat) (free:Nat),(∀ i∈l,free<=i)->l.Pairwise (· < ·)->found.size+l.length<=limit ->
  (forIn l (found,free) (StrLaws.occBody (txt x) ⟨#[c]⟩ hi limit)).run.fst.toList=found.toList++l.filter λi=>decide (i<hi)&&(x[i]?==some c):=by
 induction l with
 | nil=>intro found free _ _ _;simp
 | cons a l ih=>
  intro found free hf hp hl
  have hp':=List.pairwise_cons.mp hp
  rw [forIn_cons]
  unfold StrLaws.occBody
  have hfa:=hf a mem_cons_self
  simp only [length_cons] at hl
  by_cases q:a<hi/\x[a]? = some c
  ·have q':=(Jb x c hi a hh).mpr q
   rw [if_pos ⟨⟨⟨by show found.size<limit;exact la [_,_,_] [([2,4,3,0,0],[6])] ([2,3,0],[6]) rfl hl,hfa⟩,q'.1⟩,q'.2⟩]
   refine (ih (found.push a) (a+1) (λi m=>hp'.1 i m) hp'.2 (by simp;exact la [_,_,_] [([2,4,3,0,0],[6])] ([2,3,0,4,0],[6]) rfl hl)).trans ?_
   rw [filter_cons,if_pos (by simp [q.1,q.2])]
   simp
  ·have q':¬ (((((found,free):Array Nat × Nat).fst.size<limit/\((found,free):Array Nat × Nat).snd<=a)/\a+(⟨#[c]⟩:Str).length<=hi)/\subAt (txt x) ⟨#[c]⟩ a=true):=λz=>q ((Jb x c hi a hh).mp ⟨z.1.2,z.2⟩)
   rw [if_neg q']
   refine (ih found free (λi m=>hf i (mem_cons_of_mem _ m)) hp'.2 (by exact la [_,_,_] [([2,4,3,0,0],[6])] ([2,4,0],[6]) rfl hl)).trans ?_
   rw [filter_cons,if_neg (by simpa using λh=>by simpa using λz=>q ⟨h,z⟩)]
theorem FF (c:Nat)(x:Txt)(hi:Nat):((range' 0 (hi+1 - 0)).filter λi=>decide (i<hi)&&(x[i]?==some c))=posns c x hi:=by
 rw [Nat.sub_zero,<- List.range_eq_range',range_succ,filter_append]
 have e1:[hi].filter (λi=>decide (i<hi)&&(x[i]?==some c))=[]:=by simp
 rw [e1,append_nil]
 unfold posns
 exact filter_congr λi m=>by rw [mem_range] at m;simp [m]
theorem Qs (x:Txt)(c hi:Nat)(hh:hi<=x.length)(l:List Nat):∀ (st:Option Nat),(forIn l st (StrLaws.lastBody (txt x) ⟨#[c]⟩ hi)).run=match (l.filter λi=>decide (i<hi)&&(x[i]?==some c)).getLast? with | some a=>some a | none=>st:=by
 induction l with
 | nil=>intro st;simp
 | cons a l ih=>
  intro st
  rw [forIn_cons]
  unfold StrLaws.lastBody
  by_cases q:a<hi/\x[a]? = some c
  ·rw [if_pos ((Jb x c hi a hh).mpr q)]
   refine (ih (some a)).trans ?_
   rw [filter_cons,if_pos (by simp [q.1,q.2]),List.getLast?_cons]
   cases (l.filter λi=>decide (i<hi)&&(x[i]?==some c)).getLast? <;> rfl
  ·rw [if_neg λz=>q ((Jb x c hi a hh).mp z)]
   refine (ih st).trans ?_
   rw [filter_cons,if_neg (by simpa using λh=>by simpa using λz=>q ⟨h,z⟩)]
theorem Jc (x y:Str)(i j:Int)(t u v z:Tok):Gives («str.count» ⟨[.str x t,.str y u,.int i v,.int j z],[]⟩) (.int (occurrences x y (fromIndex x.length i) (min (fromIndex x.length j) x.length) (x.length+1)).length):=by
 show Gives (retInt (occurrences x y (fromIndex x.length i) (min (fromIndex x.length j) x.length) (x.length+1)).length) _
 exact .of_eq rfl
theorem HS (x y:Str)(i j:Int)(t u v z:Tok)(k:Nat)(h:lastOccurrence x y (fromIndex x.length i) (min (fromIndex x.length j) x.length)=some k):Gives («str.rindex» ⟨[.str x t,.str y u,.int i v,.int j z],[]⟩) (.int k):=by
 show Gives (match lastOccurrence x y (fromIndex x.length i) (min (fromIndex x.length j) x.length) with | some i=>retInt i | none=>(do rule "str.rindex.not-found";raiseError "ValueError" "substring not found")) _
 rw [h]
 exact .of_eq rfl
section
variable {W:Wd}{fm:Fm}{V α' α₁ Y0 w1:List Addr}{h h' h₁ W2 w3 start:Heap}{n:Nat}{A:Around}{ps ps':PS}{s s' c0 z0:Shared}{H:Hd}{h₀:Heap}{own:List Addr}{E:Value->Shared->Prop}
theorem E2 {len:Nat}{b:Int}(h:0<=b):fromIndex len b=b.toNat:=by
 unfold fromIndex
 rw [if_neg (by lia)]
 congr 1;lia
theorem G8 {β:Type}{f:Nat × Int × Int->M β}{l:List PV}{vs:List Value}(r:RepL W.H W.h₀ fm.av V h l vs)(ns:ap (Nd l) f ps≠.stuck):∃ c a b t u v,l=[.str [c],.int a,.int b]/\vs=[.str (txt [c]) t,.int a u,.int b v]:=by
 obtain ⟨⟨c,a,b⟩,e⟩:=AV ns
 obtain rfl:=Qr e
 obtain ⟨_,_,rfl,r1,s1⟩:=r.inv
 obtain ⟨_,_,rfl,r2,s2⟩:=s1.inv
 obtain ⟨_,_,rfl,r3,s3⟩:=s2.inv
 obtain ⟨_,rfl⟩:=r1.inv;obtain ⟨_,rfl⟩:=r2.inv;obtain ⟨_,rfl⟩:=r3.inv
 obtain rfl:_=[]:=s3.inv
 exact ⟨c,a,b,_,_,_,rfl,rfl⟩
theorem Mb:MethAt "str" "str.count" "count":=⟨PySem.F.plainAttrs_str,PySem.F.slot_str_count,PySem.F.type_str_count⟩
theorem Ko:MethAt "str" "str.rindex" "rindex":=⟨PySem.F.plainAttrs_str,PySem.F.slot_str_rindex,PySem.F.type_str_rindex⟩
theorem Qt:OpMeth W n fm Bo "str.count" G7:=.mk λA V ps s p v l vs C I hK r rl ns=>by
 obtain ⟨x,rfl⟩:=G4 hK
 obtain ⟨c,a,b,t,u,v,rfl,rfl⟩:=G8 rl ns
 obtain ⟨t0,rfl⟩:=r.inv
 have ns':ak (a==0&&0<=b&&Ah b) (ae (PV.int (posns c x (min b.toNat x.length)).length)) ps≠.stuck:=ns
 obtain ⟨cc,e⟩:=Ak ns'
 simp only [and_eq_true,decide_eq_true_eq,beq_iff_eq] at cc
 obtain ⟨⟨rfl,hb⟩,_⟩:=cc
 refine Ai.congr (m:=G7 (.str x) [.str [c],.int 0,.int b]) e ?_
 have f0:fromIndex (txt x).length 0=0:=E2 (by lia)
 have key:occurrences (txt x) (txt [c]) (fromIndex (txt x).length 0) (min (fromIndex (txt x).length b) (txt x).length) ((txt x).length+1)=posns c x (min b.toNat x.length):=by
  rw [f0,E2 hb,AD,StrLaws.occ_eq]
  have:=Nf x c (min b.toNat x.length) (x.length+1) (by exact la [_,_] [([2],[4])] ([2],[4]) rfl (Nat.min_le_right _ _)) (range' 0 (min b.toNat x.length+1 - 0)) #[] 0 (λU U=>aP _) (List.pairwise_lt_range' ..) (by simp;exact la [_,_] [([2],[4])] ([2],[4]) rfl (Nat.min_le_right _ _))
  exact this.trans (by rw [FF];simp)
 have g:=Jc (txt x) (txt [c]) 0 b t0 t u v
 rw [key] at g
 exact call_gives F.slot_str_count (typeIs_str _ _ _) F.entry_str_count (F.args_str_count_4 _ _ _ _) g (OkE.same I (.int _ _))
theorem OE:OpMeth W n fm Bo "str.rindex" E0:=.mk λA V ps s p v l vs C I hK r rl ns=>by
 obtain ⟨x,rfl⟩:=G4 hK
 obtain ⟨c,a,b,t,u,v,rfl,rfl⟩:=G8 rl ns
 obtain ⟨t0,rfl⟩:=r.inv
 have ns':ak (a==0&&0<=b&&Ah b) (match (posns c x (min b.toNat x.length)).getLast? with
  | some i=>ae (PV.int i)
  | none=>aq) ps≠.stuck:=ns
 obtain ⟨cc,e⟩:=Ak ns'
 rw [e] at ns'
 simp only [and_eq_true,decide_eq_true_eq,beq_iff_eq] at cc
 obtain ⟨⟨rfl,hb⟩,_⟩:=cc
 refine Ai.congr (m:=E0 (.str x) [.str [c],.int 0,.int b]) e ?_
 have f0:fromIndex (txt x).length 0=0:=E2 (by lia)
 have key:lastOccurrence (txt x) (txt [c]) (fromIndex (txt x).length 0) (min (fromIndex (txt x).length b) (txt x).length)=(posns c x (min b.toNat x.length)).getLast?:=by
  rw [f0,E2 hb,AD,StrLaws.last_eq]
  have:=Qs x c (min b.toNat x.length) (by exact la [_,_] [([2],[4])] ([2],[4]) rfl (Nat.min_le_right _ _)) (range' 0 (min b.toNat x.length+1 - 0)) none
  refine this.trans ?_
  rw [FF]
  cases (posns c x (min b.toNat x.length)).getLast? <;> rfl
 cases q:(posns c x (min b.toNat x.length)).getLast? with
 | none=>rw [q] at ns';exact absurd rfl ns'
 | some k=>
  simp only [q] at ns' ⊢
  exact call_gives F.slot_str_rindex (typeIs_str _ _ _) F.entry_str_rindex (F.args_str_rindex_4 _ _ _ _) (HS (txt x) (txt [c]) 0 b t0 t u v k (key.trans q)) (OkE.same I (.int _ _))
end
end Mi
end
section
open PySem PySem.W PyProof.Rows
set_option maxRecDepth 100000
namespace Mi
abbrev SimF.T (W:Wd)(n:Nat)(fm:Fm)(P:Heap->Prop)(e:Expr)(m:M PV):Prop:=∀ A V ps s,Ctx W fm n A->InvS W fm V ps s->P s.heap->m ps≠.stuck->Ai W fm A V ps s (eval e fm.env) m
structure SimF (W:Wd)(n:Nat)(fm:Fm)(P:Heap->Prop)(e:Expr)(m:M PV):Prop where
 go:SimF.T W n fm P e m
noncomputable instance {W:Wd} {n:Nat} {fm:Fm} {P:Heap->Prop} {e:Expr} {m:M PV}:CoeFun (SimF W n fm P e m) (λU=>SimF.T W n fm P e m):=⟨SimF.go⟩
def Qu (W:Wd)(fm:Fm)(P:Heap->Prop):Prop:=∀ V ps s h',FmOk W.h₀ fm->InvS W fm V ps s->P s.heap->Rel fm.stk fm.tab V s.heap h'->P h'
inductive CrAt (fm:Fm)(x:Str)(fi:Fi)(f:Addr)(of:Obj)(fd:FuncData)(h:Heap):Prop
 | mk (m:Str->Option Value) (k1:h.Ns fm.env.locals m) (k2:m x=some (.ref f)) (k3:f∉fm.av) (k4:h.get? f=some of) (k5:of.data = .func fd) (k6:Ja h f fd fi):CrAt fm x fi f of fd h
def aA (m:M Txt)(l:List PV):M Txt:=λs=>match m ⟨λi=>l[i]?,s.st⟩ with
 | .ok t s'=>.ok t ⟨s.loc,s'.st⟩
 | .ex e s'=>.ex e ⟨s.loc,s'.st⟩
 | .stuck=>.stuck
def TU (v:PV):M Txt:=match v with
 | .str t=>ae t
 | _=>aq
def Ez (m2:M PFlow):M Txt:=
 ac (ay [ac (af 2) Ec,ae (.str (" (at ":Str).cps.toList),ac (ac (ag [af 0,af 1]) (am m2)) Ec,ae (.str (")":Str).cps.toList)] []) TU
section
variable {W:Wd}{fm:Fm}{V α' α₁ Y0 w1:List Addr}{h h' h₁ W2 w3 start:Heap}{n:Nat}{A:Around}{ps ps':PS}{s s' c0 z0:Shared}{H:Hd}{h₀:Heap}{own:List Addr}{E:Value->Shared->Prop}{P:Heap->Prop}
theorem SimE.toF {e:Expr}{m:M PV}(h:SimE W n fm e m):SimF W n fm P e m:=.mk λA V ps s C I U ns=>h A V ps s C I ns
theorem CrAt.stay {x:Str}{fi:Fi}{f:Addr}{of:Obj}{fd:FuncData}:Qu W fm (CrAt fm x fi f of fd):=λα ps s h' F I q R=>by
 obtain ⟨m,⟨oL,es,ep,n1,n2,n3⟩,hm,fav,f1,f2,⟨_,g1,g2,g3,g4,g5,c,oc,vs,t,c1,c2,c3,c4,c5⟩⟩:=q
 have nL:fm.env.locals∉fm.tab:=λm=>by
  obtain ⟨ps,e',_⟩:=I.inv.tabs _ m
  rw [n1] at e';cases e';cases n2
 have at_:∃ sl,h'.get? fm.env.locals=some { oL with slots:=sl }:=by
  by_cases q:fm.env.locals∈frs fm.stk
  ·exact R.slot _ _ n1 q nL λz=>I.inv.lists.apart _ z F.locAv
  ·exact ⟨oL.slots,R.keep _ _ n1 q nL λz=>I.inv.lists.apart _ z F.locAv⟩
 obtain ⟨sl,e1⟩:=at_
 have fk:h'.get? f=some of:=R.keep _ _ f1 (λz=>fav (F.frsAv _ z)) (λz=>fav (F.tabAv _ z)) λz=>by
  obtain ⟨ws,o',e',_,k',d'⟩:=I.inv.lists.isList z
  rw [f1] at e';cases e';rw [f2] at d';cases d'
 have ck:h'.get? c=some oc:=R.keep _ _ c2 (λz=>by
  obtain ⟨_,o',ho',nf⟩:=Heap.FunFrames.mem I.inv.frames z
  rw [c2] at ho';cases ho';exact nf vs c4) (λz=>by
  obtain ⟨ps,e',_⟩:=I.inv.tabs _ z
  rw [c2] at e';cases e';cases c3) λz=>by
  obtain ⟨ws,o',e',_,k',d'⟩:=I.inv.lists.isList z
  rw [c2] at e';cases e';rw [c4] at d';cases d'
 exact ⟨m,⟨_,es,ep,e1,n2,n3⟩,hm,fav,fk,f2,⟨⟨of,fk,f2⟩,g1,g2,g3,g4,g5,c,oc,vs,t,c1,ck,c3,c4,c5⟩⟩
set_option tactic.hygienic true in
theorem Qv {v:Expr}{pos:Pos}{m:M PV}(hv:SimF W n fm P v m):SimF W n fm P (.FormattedValue v (-1) none pos) (ac m Ec):=.mk λA V ps s C I hP ns=>by
 refine wpAny_FormattedValue_plain (Ai.seq (hv A V ps s C I hP (Ad ns)) (λp v α₁ o0 c0 u0 l0 s0 Z0 y0=>?_) λx c0 q=>q.bind)
 rw [Ab y0] at ns ⊢
 cases p <;> (try exact absurd rfl ns)
 ·rename_i i
  obtain ⟨t,rfl⟩:=Z0.inv
  have ns':ak (Ah i) (ae (PV.str (BA i))) o0≠.stuck:=ns
  obtain ⟨c,e⟩:=Ak ns'
  refine aW (Q:=OkE W fm α₁ c0.heap (ae (PV.str (BA i)) o0)) (E:=λU U=>False) ?_ (λU U q=>?_) λU U z=>z.elim
  ·refine wpAny_formatField_int (Ig c) ?_
   have:=OkE.same (t:=c0.toks+1+1) u0 (RepV.str (H:=W.H) (h₀:=W.h₀) (av:=fm.av) (V:=α₁) (h:=c0.heap) (BA i) (c0.toks+1))
   rw [M9] at this
   exact this
  ·have eq:Ec (.int i) o0=ae (PV.str (BA i)) o0:=e
   rw [eq];exact q.after l0 s0
 ·rename_i x
  obtain ⟨t,rfl⟩:=Z0.inv
  have ns':au x o0≠.stuck:=ns
  obtain ⟨hl,e⟩:=GZ ns'
  have eq:Ec (.str x) o0 = .ok (.str x) o0:=e
  rw [eq]
  exact wpAny_formatField_str ((OkE.same' u0 (.str x t)).after l0 s0) ((OkE.same (t:=c0.toks+1) u0 (.str x c0.toks)).after l0 s0) (by rw [AD];exact hl)
set_option tactic.hygienic true in
theorem OF (st:Qu W fm P){R0:R PV}(C:Ctx W fm n A):∀ {es:List Expr} {ms:List (M PV)},All2 (SimF W n fm P) es ms->∀ (acc:Txt) (V:List Addr) (ps:PS) (s:Shared),InvS W fm V ps s->P s.heap->Grow w1 V start->Rel fm.stk fm.tab w1 start s.heap->R0=ay ms acc ps->R0≠.stuck ->
  Joins W.m A (ExE W fm w1 start R0) (evalEach es fm.env) (txt acc) (λout c0=>out.length<=sizeLine/\OkE W fm w1 start R0 (.str out c0.toks) { c0 with toks:=c0.toks+1 }) s:=by
 intro _ _ hS
 induction hS with
 | nil=>
  intro acc V ps s I hP g x e ns
  have ns':au acc ps≠.stuck:=by rw [e] at ns;exact ns
  obtain ⟨hl,e'⟩:=GZ ns'
  refine ⟨by rw [AD];exact hl,.str acc,ps,V,e.trans e',I.tok _,g,x,.str acc _⟩
 | @cons v m es ms q qs ih=>
  intro acc V ps s I hP g x e ns
  have eq:R0=ac m (λv=>match v with
   | .str t=>ak ((acc++t).length<=big) (ay ms (acc++t))
   | _=>aq) ps:=e
  show wpAny W.m A (eval v fm.env) _ _ s
  refine Ai.seq (q A V ps s C I hP (Ad (eq▸ns))) (λp v α₁ o0 c0 u0 l0 s0 Z0 y0=>?_) λy c0 z=>by rw [eq];exact z.bind.after g x
  rw [Ab y0] at eq
  cases p <;> (try exact absurd eq ns)
  rename_i t
  obtain ⟨tk,rfl⟩:=Z0.inv
  have eq:R0=ak ((acc++t).length<=big) (ay ms (acc++t)) o0:=eq
  have ns':ak ((acc++t).length<=big) (ay ms (acc++t)) o0≠.stuck:=λz=>ns (eq.trans z)
  obtain ⟨c,e2⟩:=Ak ns'
  rw [decide_eq_true_eq] at c
  refine ⟨txt t,tk,rfl,by rw [D1,AD,<- Bd];exact c,?_⟩
  rw [D1]
  exact ih (acc++t) α₁ o0 c0 u0 (st _ _ _ _ C.fm I hP s0) (g.trans l0 x) (x.trans s0 g.new) (eq.trans e2) ns
theorem Kp (st:Qu W fm P){e1 e2:Expr}{es:List Expr}{ms:List (M PV)}{pos:Pos}(q:All2 (SimF W n fm P) (e1::e2::es) ms):SimF W n fm P (.JoinedStr (e1::e2::es) pos) (ay ms []):=.mk λA V ps s C I hP ns=>
 wpAny_JoinedStr (OF st C q [] V ps s I hP (.refl ..) (.refl ..) rfl ns)
theorem Vn {x:Str}{fi:Fi}{f:Addr}{of:Obj}{fd:FuncData}{np pos:Pos}{e0:Expr}{es:List Expr}{ms:List (M PV)}{m:M PFlow}(hk:fm.env.kindOf x=some .local)(hd:(x==("__debug__":Str))=false)(q:SimL W (n+1) fm (e0::es) ms)(ok:fi.Ok)
  (hlen:fi.params.length=ms.length) (hb:∀ s vs,vs.length=ms.length->BindsTo s fd ⟨vs,[]⟩ (fi.params.zip vs)) (body:∀ fm':Fm,fm'.sc=fi.sc->fm'.env.scope=fi.scope->fm'.hdl=fm.hdl->SimS W n fm' fi.body m) :
  SimF W (n+1) fm (CrAt fm x fi f of fd) (.Call (.Name x np) (e0::es) [] pos) (ac (ag ms) (am m)):=.mk λA V ps s C I hP ns=>by
 have hP0:=hP
 obtain ⟨mL,hns,hm,fav,f1,f2,N⟩:=hP0
 unfold Ai
 rw [arm_eval_Call_Name']
 refine bf (wpAny_Name (wpAny_loadName_local C.fm.kind hk hns hm ?_) hd)
 refine callWith_function_kw (fd:=fd) (o:=of) (A2 (q.plain _) (aW (C0 q A V ps s C I (Ad ns)) (λvs c0 z=>?_) λx c0 z=>z.bind))
 obtain ⟨l,o0,α₁,y0,u0,l0,s0,Z0⟩:=z
 rw [Ab y0] at ns ⊢
 obtain ⟨_,_,_,_,f1',_,m7⟩:=CrAt.stay (W:=W) (fm:=fm) V ps s c0.heap C.fm I hP s0
 refine ⟨⟨f1',f2⟩,?_⟩
 have len:vs.length=ms.length:=by rw [<- Z0.length,EX y0]
 exact aW (IZ (l:=l) (vs:=vs) C u0 m7.fnAt ok (hb c0 vs len) (by rw [hlen,len]) Z0 body ns) (λU U q=>q.after l0 s0) (λU U q=>q.after l0 s0)
theorem NewExc.since {C e:Addr}{m:Txt}(X:NewExc C h₁ h e m)(l:∀ b,h₁.get? b=none->W2.get? b=none):NewExc C W2 h e m:=by
 obtain ⟨a,o,vs,T,tk,h1,h2,h3,h4,h5,h6,h7,h8⟩:=X
 exact ⟨l _ a,o,vs,T,tk,h1,h2,h3,h4,h5,h6,h7,l _ h8⟩
theorem Qw {t:Txt}{tk:Tok}{Q:Value->Shared->Prop}(C:Ctx W fm n A)(I:InvS W fm V ps s)(h:∀ e s',InvS W fm V ps s'->Rel fm.stk fm.tab V s.heap s'.heap->NewExc W.H.toml s.heap s'.heap e t->Q (.ref e) s') :
  wpAny W.m A (call (.ref W.H.toml) [.str (txt t) tk]) Q E s:=by
 obtain ⟨nm,q,N,bs,hdct,sn,sub,ab,col,dd,k0,k1,k2,k3,k5,mN,hC,hN,hno⟩:=(C.hd.tomlC.keeps I.inv.base).at_
 have hni:mN "__init__" = none:=hno _ (by decide +kernel)
 obtain ⟨hp,g,d,tk',os⟩:=s
 refine wpAny_call_exc_subT (hrest:=by simp [sizeLine]) PySem.F.excBase_ValueError .base hC hN hni λh' e X=>?_
 obtain ⟨T,hT,nT,hI⟩:=X.there
 refine h e _ ⟨I.inv.keeps X.keeps,I.gens,I.os⟩ (.of_keeps X.keeps) ⟨X.new,_,_,T,tk,hT,rfl,rfl,by simp,rfl,rfl,⟨_,hI,rfl,0,rfl⟩,nT⟩
theorem OG {pos:Pos}{args:List (Bool × Sem Value)}{Q:Value->Shared->Prop}(hplain:args.any (·.1)=false)
  (h:wpAny W.m A (evalArgs (.ref W.H.toml) true args []) (λa c0=>a.kw=[]/\ClsAt W.H.toml c0.heap/\wpAny W.m A (call (.ref W.H.toml) a.pos) Q E c0) E s) :
  wpAny W.m A (callWith pos (.ref W.H.toml) [] args []) Q E s:=by
 refine bf (be (aW h (λa c0 h₁=>bf (wpAny_standAt ?_)) λU U x=>x))
 obtain ⟨apos,akw⟩:=a
 obtain ⟨hkw,K,h₁⟩:=h₁
 obtain rfl:akw=[]:=hkw
 obtain ⟨nm,q,N,bs,hdct,sn,sub,ab,col,dd,k0,k1,k2,k3,k5,mN,hC,hN,hno⟩:=K.at_
 obtain ⟨hp,g,d,tk,os⟩:=c0
 rw [hplain]
 refine bf (wpAny_keeperOf_exc hC ?_)
 exact bf (aW h₁ (λr z0 hr=>bf (be (wpAny_point (bg hr)))) λU U x=>x)
inductive OkX (W:Wd)(fm:Fm)(V:List Addr)(h:Heap)(r:R Txt)(f:Flow)(s':Shared):Prop
 | mk (a:Addr) (t:Txt) (ps':PS) (α':List Addr) (k1:f = .ret (.ref a)) (k2:r = .ok t ps') (k3:InvS W fm α' ps' s') (k4:Grow V α' h) (k5:Rel fm.stk fm.own V h s'.heap) (k6:NewExc W.H.toml h s'.heap a t):OkX W fm V h r f s'
def FV:List (Str × NameKind × Nat):=[(("src":Str),NameKind.local,0),(("pos":Str),NameKind.local,1),(("msg":Str),NameKind.local,2),(("TOMLDecodeError":Str),NameKind.globalImplicit,3)]
structure SufFm (W:Wd)(fm:Fm)(c P:Addr):Prop where
 sc:fm.sc=FV
 kind:fm.env.kindOf "coord_repr" = some .local
 code:fm.env.code = .ref c
 head:CodeHd W.h₀ c P
 tab:fm.tab=[P]
 qual:fm.env.qual++("coord_repr":Str)=W.H.tabQ
set_option tactic.hygienic true in
theorem Kq {fi:Fi}{params:Arguments}{scope:Scope}{body:List Stmt}{c P:Addr}{m2:M PFlow}{dp p1 p2 p3 p4 p5 p6 p7 p8 p9 p10 p11 p12 p13:Pos}{k1 k2:Nat}(S:SufFm W fm c P)(hp:dp=W.H.tabPos)(hd0:params.defaults=[])(hk0:params.kw_defaults=[])(ha:∀ env,annTrees params none env=[])
  (hfree:∀ y∈scope.names,y.2≠.free) (hs:scope=fi.scope) (hb:body=fi.body) (hlen:fi.params.length=2) (hbd:∀ doc pm c' ctv s vs,vs.length=2->BindsTo s (fnX "coord_repr" W.H.tabQ params body scope [] .none .none doc pm none (.ref c') ctv) ⟨vs,[]⟩ (fi.params.zip vs))
  (ok:fi.Ok) (hbody:∀ fm':Fm,fm'.sc=fi.sc->fm'.env.scope=fi.scope->fm'.hdl=fm.hdl->SimS W n fm' fi.body m2) (C:Ctx W fm (n+1) A) (I:InvS W fm V ps s) (ns:Ez m2 ps≠.stuck) :
  wpAny W.m A (execs [.FunctionDef "coord_repr" params body [] none [] scope none "coord_repr" dp,
   .Return (some (.Call (.Name "TOMLDecodeError" p1) [.JoinedStr [.FormattedValue (.Name "msg" p2) (-1) none p3,.Constant (.str " (at ") k1 p4,.FormattedValue (.Call (.Name "coord_repr" p5) [.Name "src" p6,.Name "pos" p7] [] p8) (-1) none p9,.Constant (.str ")") k2 p10] p11] [] p12)) p13] fm.env)
   (OkX W fm V s.heap (Ez m2 ps)) (ExS W fm V s.heap (Ez m2 ps)) s:=by
 have i0:(("src":Str),NameKind.local,0)∈fm.sc:=by rw [S.sc];simp [FV]
 have i1:(("pos":Str),NameKind.local,1)∈fm.sc:=by rw [S.sc];simp [FV]
 have i2:(("msg":Str),NameKind.local,2)∈fm.sc:=by rw [S.sc];simp [FV]
 have i3:(("TOMLDecodeError":Str),NameKind.globalImplicit,3)∈fm.sc:=by rw [S.sc];simp [FV]
 have hx:∀ k i,(("coord_repr":Str),k,i)∉fm.sc:=λk i=>by
  rw [S.sc]
  intro q
  simp only [FV,mem_cons,Prod.mk.injEq,List.not_mem_nil,or_false] at q
  rcases q with q | q | q | q <;> exact absurd q.1 (by decide +kernel)
 refine wpAny_execs_cons (nestDef_K hd0 hk0 (ha _) ?_)
 have eq:qualnameIn fm.env ("coord_repr":Str) ("coord_repr":Str)=W.H.tabQ:=by
  unfold qualnameIn
  rw [S.kind,if_neg (by decide)]
  exact S.qual
 rw [eq]
 refine Gh C I S.code S.head S.tab hp rfl hfree hs hb C.hd.bmain λf doc ctv c' c0 J R fav fnew N=>?_
 obtain ⟨mL,hns,hloc⟩:=J.inv.loc
 refine wpAny_storeName_local S.kind hns (λW2 m6 y6=>?_) (by simp [C.fm.kind])
 obtain ⟨o5,y4⟩:=GW (tk:=c0.toks+1) C.fm J hx hns m6 y6
 have fL:f≠fm.env.locals:=λq=>fav (q▸C.fm.locAv)
 obtain ⟨⟨of,of1,of2⟩,N1,N2,N3,N4,N5,cc,oc,vs,t,N6,N7,N8,N9,N10⟩:=N
 have cL:cc≠fm.env.locals:=λq=>by
  obtain ⟨o,_,_,e,d,_⟩:=hns
  rw [q,e] at N7;cases N7;rw [d] at N9;cases N9
 have cr:CrAt fm "coord_repr" fi f of (fnX "coord_repr" W.H.tabQ params body scope [] .none .none doc ((W.H.mg "__name__").getD .none) none (.ref c') ctv) W2:=⟨_,m6,by simp,fav,(y6.2 f fL).trans of1,of2,⟨⟨of,(y6.2 f fL).trans of1,of2⟩,N1,N2,N3,N4,N5,cc,oc,vs,t,N6,(y6.2 cc cL).trans N7,N8,N9,N10⟩⟩
 have R02:=(R.up).trans y4 λa m q=>absurd m q
 have hcall:=Vn (fd:=(fnX "coord_repr" W.H.tabQ params body scope [] .none .none doc ((W.H.mg "__name__").getD .none) none (.ref c') ctv)) (W:=W) (n:=n) (np:=p5) (pos:=p8) (f:=f) (of:=of) S.kind (by decide +kernel) (.cons (Gr (pos:=p6) i0 (.inl rfl) (by decide +kernel) (by decide +kernel)) (λU U=>rfl) (.cons (Gr (pos:=p7) i1 (.inl rfl) (by decide +kernel) (by decide +kernel)) (λU U=>rfl) .nil)) ok hlen (hbd doc _ c' ctv) hbody
 have parts:All2 (SimF W (n+1) fm (CrAt fm "coord_repr" fi f of (fnX "coord_repr" W.H.tabQ params body scope [] .none .none doc ((W.H.mg "__name__").getD .none) none (.ref c') ctv))) [.FormattedValue (.Name "msg" p2) (-1) none p3,.Constant (.str " (at ") k1 p4,.FormattedValue (.Call (.Name "coord_repr" p5) [.Name "src" p6,.Name "pos" p7] [] p8) (-1) none p9,.Constant (.str ")") k2 p10]
   [ac (af 2) Ec,ae (.str (" (at ":Str).cps.toList),ac (ac (ag [af 0,af 1]) (am m2)) Ec,ae (.str (")":Str).cps.toList)]:=
  .cons (I8 (Gr i2 (.inl rfl) (by decide +kernel) (by decide +kernel))).toF (.cons Gq.toF (.cons (Qv hcall) (.cons Gq.toF .nil)))
 unfold Ez at ns ⊢
 refine wpAny_execs_cons (wpAny_Return_some ?_)
 rw [arm_eval_Call_Name']
 refine bf (Ib (s:={ c0 with heap:=W2,toks:=c0.toks+1 }) C o5 i3 ?_)
 refine OG rfl (A2 rfl (Calls.spliced_cons ?_))
 have nsJ:=Ad ns
 have hj:=Kp (pos:=p11) CrAt.stay parts
 have ex:∀ {β:Type} {r:Mi.R β} {x:Value} {v3:Shared},ExE W fm V W2 r x v3->ExS W fm V s.heap r x v3:=λq=>ExS.after q.toS (.refl ..) R02
 refine Ai.seq (hj A V ps { c0 with heap:=W2,toks:=c0.toks+1 } C o5 cr nsJ) (λp v α₁ o0 v3 Y2 W3 i4 y8 Z3=>?_) λx v3 q=>ex q.bind
 rw [Ab Z3] at ns ⊢
 cases p <;> (try exact absurd rfl ns)
 rename_i t
 obtain ⟨tk,rfl⟩:=y8.inv
 refine Calls.spliced_nil ⟨rfl,C.hd.tomlC.keeps Y2.inv.base,?_⟩
 have R3:=R02.trans i4.up λa m q=>absurd m q
 have g3:Grow V α₁ s.heap:=⟨W3.pre,λa m q=>R02.live a (W3.new a m q)⟩
 refine Qw C Y2 λe X4 r6 j7 X=>?_
 exact ⟨e,t,o0,α₁,rfl,rfl,r6,g3,R3.trans j7.up g3.new,X.since λb q=>R3.live b q⟩
end
section
variable {W:Wd}{fm:Fm}{V α' α₁ Y0 w1:List Addr}{h h' h₁ W2 w3 start:Heap}{n:Nat}{A:Around}{ps ps':PS}{s s' c0 z0:Shared}{H:Hd}{h₀:Heap}{own:List Addr}{E:Value->Shared->Prop}{P:Heap->Prop}{fd:FuncData}{fi:Fi}{a:Addr}{vs:List Value}{l:List PV}
theorem Qx {m:M Txt}{t:Txt}(h:m ⟨λi=>l[i]?,ps.st⟩ = .ok t ps'):aA m l ps = .ok t ⟨ps.loc,ps'.st⟩:=by
 unfold aA;rw [h]
theorem Qy {m:M Txt}{e:PX}(h:m ⟨λi=>l[i]?,ps.st⟩ = .ex e ps'):aA m l ps = .ex e ⟨ps.loc,ps'.st⟩:=by
 unfold aA;rw [h]
theorem Qz {m:M Txt}(h:aA m l ps≠.stuck):m ⟨λi=>l[i]?,ps.st⟩≠.stuck:=by
 intro e;unfold aA at h;rw [e] at h;exact h rfl
theorem QC {m:M Txt}{pos:List Value}{kw:List (Str × Value)}(C:Ctx W fm (n+1) A)(I:InvS W fm V ps s)(Fa:FnAt s.heap a fd fi)(ok:fi.Ok)(hb:BindsTo s fd ⟨pos,kw⟩ (fi.params.zip vs))(hl:fi.params.length=vs.length)
  (rl:RepL W.H W.h₀ fm.av V s.heap l vs) (body:∀ L A V ps s,Ctx W (AN fm fd fi L a) n A->InvS W (AN fm fd fi L a) V ps s->m ps≠.stuck->wpAny W.m A (execs fi.body (AN fm fd fi L a).env) (OkX W (AN fm fd fi L a) V s.heap (m ps)) (ExS W (AN fm fd fi L a) V s.heap (m ps)) s) (ns:aA m l ps≠.stuck) :
  wpAny W.m A (call (.ref a) pos kw) (λv s'=>∃ e t ps' α',aA m l ps = .ok t ps'/\v = .ref e/\InvS W fm α' ps' s'/\Grow V α' s.heap/\Rel fm.stk fm.tab V s.heap s'.heap/\NewExc W.H.toml s.heap s'.heap e t) (ExE W fm V s.heap (aA m l ps)) s:=by
 obtain ⟨⟨o,ho,hd⟩,hscope,hbody,hclo,hglob,hbi,hcode⟩:=Fa
 have lim:s.heap.NoLimit:=C.hd.lim.keeps I.inv.base
 have hdep:=C.depth
 refine wpAny_call (codeAny_call_function (by show A.depth<1000;exact la [_,_] [([2,4,3,0,0,3,0],[1981])] ([2,3,0],[2001]) rfl hdep) ho hd (by rw [hscope];exact ok.co) (by rw [hscope];exact ok.gen) hbody hcode (hb _ _ _ _ ?_))
 rw [hscope,hglob,hclo,hbi]
 refine wpAny_newFunctionEnv_cells ok.kind (λp hp=>?_) λenv he c0 X=>?_
 ·have hm:p.1∈fi.params:=(of_mem_zip (show (p.1,p.2)∈fi.params.zip vs from hp)).1
  rcases ok.parK p.1 hm with q | q
  ·exact .inl q
  ·exact .inr ⟨q,Cb _ _ _ (.inl q)⟩
 ·have he':env=Bj fd fi s.heap.objs.size a:=he
  subst he'
  refine ⟨lim.keeps X.toInCall.keep,codeAny_func ?_⟩
  have F':=H9 (fd:=fd) (a:=a) C.fm I ok X
  have I':=Eu (fd:=fd) (a:=a) (ps:=ps) I ok hl rl X
  have C':Ctx W (AN fm fd fi s.heap.objs.size a) n (A.deeper (Bj fd fi s.heap.objs.size a)):=by
   refine ⟨Around.frames_deeper C.frames,?_,?_,C.hdl,C.tab,F',C.hd⟩
   ·show A.depth+1+n<990;exact la [_,_] [([2,4,3,0,0,3,0],[1981])] ([2,3,0,4,0,3,0],[1981]) rfl hdep
   ·have:=C.units
    show A.units+3+20*n+1000<cLine;lia
  have ns':=Qz ns
  have up:∀ b,c0.heap.get? b=none->s.heap.get? b=none:=λb q=>by
   cases z:s.heap.get? b with
   | none=>rfl
   | some o=>rw [X.toInCall.keep b o z] at q;cases q
  refine aW (body s.heap.objs.size _ V _ c0 C' I' ns') (λf s' z=>?_) λx s' z=>?_
  ·obtain ⟨e,t,o0,α₁,rfl,y0,u0,l0,Y3,m7⟩:=z
   obtain ⟨J,g,R⟩:=CP C.fm I X u0 l0 Y3
   exact ⟨e,t,_,α₁,Qx y0,rfl,J,g,R,m7.since up⟩
  ·obtain ⟨e,o0,α₁,y0,u0,l0,Y3,i6⟩:=z
   have hs0:=I'.none
   unfold leaving
   refine bf (Gu C' u0 Y3 hs0 i6 λW2 Y1 y4 j6=>Cz C' Y1 y4 hs0 j6 _ λw3 Y2 v4 i5=>?_)
   obtain ⟨J,g,R⟩:=CP C.fm I X Y2 l0 v4
   exact ⟨e,_,α₁,Qy y0,J,g,R,i5.raised.start up⟩
theorem OH {x:Str}{i:Nat}{np pos:Pos}{es:List Expr}{ms:List (M PV)}{m:M Txt}(hm:(x,NameKind.globalImplicit,i)∈fm.sc)(hd:(x==("__debug__":Str))=false)(hv:W.H.mg x=some (.ref a))(q:SimL W (n+1) fm es ms)(Fa:FnAt W.h₀ a fd fi)(ok:fi.Ok)(hb:Ee W fd fi ms.length [] [])
  (body:∀ L A V ps s,Ctx W (AN fm fd fi L a) n A->InvS W (AN fm fd fi L a) V ps s->m ps≠.stuck->wpAny W.m A (execs fi.body (AN fm fd fi L a).env) (OkX W (AN fm fd fi L a) V s.heap (m ps)) (ExS W (AN fm fd fi L a) V s.heap (m ps)) s) :
  SimXc W (n+1) fm (.Call (.Name x np) es [] pos) (ac (ag ms) (aA m)):=.mk λA V ps s C I ns=>by
 rw [arm_eval_Call_Name']
 refine bf (Gw C I hv hm hd ?_)
 obtain ⟨o,ho,hdt⟩:=Fa.obj
 refine callWith_function_kw (o:=o) (fd:=fd) (A2 (q.plain _) (aW (C0 q A V ps s C I (Ad ns)) (λvs c0 z=>?_) λx c0 z=>z.bind))
 obtain ⟨l,o0,α₁,y0,u0,l0,s0,Z0⟩:=z
 rw [Ab y0] at ns ⊢
 refine ⟨⟨u0.inv.base _ _ ho,hdt⟩,?_⟩
 have hlen:vs.length=ms.length:=by rw [<- Z0.length,EX y0]
 have b:=hb.2 c0 vs [] u0.inv.base hlen rfl
 rw [append_nil,append_nil] at b
 refine aW (QC (l:=l) (vs:=vs) C u0 (Fa.keeps u0.inv.base) ok b (by rw [hb.1,hlen];simp) Z0 body ns) (λv z0 z=>?_) (λU U q=>q.after l0 s0)
 obtain ⟨e,t,Z1,Y0,W1,rfl,Y1,W0,X0,X⟩:=z
 exact ⟨e,t,Z1,Y0,W1,rfl,Y1,l0.trans W0 s0,s0.trans X0 l0.new,X.since s0.live⟩
end
def fiB (fi:Fi):Bool:=
 decide (fi.scope.kind = .function)&&!fi.scope.isCoroutine&&!fi.scope.isGenerator &&
 fi.sc.all (λe=>decide (fi.scope.names.lookup e.1=some e.2.1)&&decide (e.2.1≠.free)) &&
 fi.sc.all (λe=>fi.sc.all λo=>decide (e.2.2=o.2.2)==decide (e.1=o.1)) &&
 decide fi.params.Nodup &&
 fi.params.all (λp=>decide (fi.scope.names.lookup p=some .local)||decide (fi.scope.names.lookup p=some .cell)) &&
 fi.sc.all (λe=>!(decide (e.2.1 = .local)||decide (e.2.1 = .cell))||((range fi.params.length).all λj=>decide (fi.params[j]? = some e.1)==decide (e.2.2=j)))
theorem Fi.Ok.of {fi:Fi}(h:fiB fi=true):fi.Ok:=by
 unfold fiB at h
 simp only [and_eq_true,all_eq_true,decide_eq_true_eq,or_eq_true,not_eq_true',beq_iff_eq,mem_range] at h
 obtain ⟨⟨⟨⟨⟨⟨⟨h1,h2⟩,h3⟩,h4⟩,h5⟩,h6⟩,h7⟩,h8⟩:=h
 refine ⟨h1,h2,h3,λx k i m=>(h4 _ m).1,λx k i y k' j m m'=>decide_eq_decide.mp (h5 _ m _ m'),h6,h7,λx k i m hk j=>?_,λx k i m=>(h4 _ m).2⟩
 have:=(h8 _ m).resolve_left (by
  intro q
  rcases hk with rfl | rfl <;> simp at q)
 constructor
 ·intro e
  have lt:=(ba.mp e).1
  exact ⟨(decide_eq_decide.mp (this j lt)).mp e,lt⟩
 ·rintro ⟨e,lt⟩
  exact (decide_eq_decide.mp (this j lt)).mpr e
theorem scm {fm:Fm}{sc:List (Str × NameKind × Nat)}(h:fm.sc=sc)(k:Nat){e:Str × NameKind × Nat}(q:sc[k]? = some e):e∈fm.sc:=h▸mem_of_getElem? q
def Dt (W:Wd)(x:Str)(fi:Fi)(np:Nat)(kws:List Str)(ext:List Value):Prop:=∃ a fd,W.H.mg x=some (.ref a)/\FnAt W.h₀ a fd fi/\Ee W fd fi np kws ext
def aM (T:Nat->Option (M PFlow × List PV))(ms:List (M PV)):PV->M PV
 | .fn k=>match T k with
  | some (m,ext)=>ac (ag ms) λl=>am m (l++ext)
  | none=>aq
 | _=>aq
section
variable {W:Wd}{fm:Fm}{V α' α₁ Y0 w1:List Addr}{h h' h₁ W2 w3 start:Heap}{n k:Nat}{A:Around}{ps ps':PS}{s s' c0 z0:Shared}{fi:Fi}
theorem Ctx.down (C:Ctx W fm k A)(h:n<=k):Ctx W fm n A:=⟨C.frames,by have:=C.depth;exact la [_,_,_] [([2],[4]),([6,4,0,3,0],[1981])] ([6,2,0,3,0],[1981]) rfl h this,by have:=C.units;lia,C.hdl,C.tab,C.fm,C.hd⟩
theorem SimS.up {b:List Stmt}{m:M PFlow}(x:SimS W n fm b m)(h:n<=k):SimS W k fm b m:=.mk λA V ps s C I ns=>x A V ps s (C.down h) I ns
theorem Mc {e:Expr}:SimB W n fm e aq:=.mk λA V ps s C I ns=>absurd rfl ns
theorem Md {e:Stmt}:SimT W n fm e aq:=.mk λA V ps s C I ns=>absurd rfl ns
theorem EA {e:List Stmt}:SimS W n fm e aq:=.mk λA V ps s C I ns=>absurd rfl ns
theorem QD {x:Str}{k:Nat}{pos:Pos}{t:Txt}(h:x.cps.toList=t):SimE W n fm (.Constant (.str x) k pos) (ae (.str t)):=h▸Gq
theorem G9 {x:Str}{i:Nat}{np pos:Pos}{es:List Expr}{ms:List (M PV)}{m:M PFlow}(F:Dt W x fi ms.length [] [])(ok:fi.Ok)(hm:(x,NameKind.globalImplicit,i)∈fm.sc)(hd:(x==("__debug__":Str))=false)(q:SimL W (n+1) fm es ms)
  (body:∀ fm':Fm,fm'.sc=fi.sc->fm'.env.scope=fi.scope->fm'.hdl=fm.hdl->SimS W n fm' fi.body m):SimE W (n+1) fm (.Call (.Name x np) es [] pos) (ac (ag ms) (am m)):=by
 obtain ⟨a,fd,hv,Fa,hb⟩:=F
 exact Oq hm hd hv q Fa ok hb body
theorem Eh {x:Str}{i:Nat}{np pos:Pos}{e:Expr}{es:List Expr}{ks:List Keyword}{ms mks:List (M PV)}{m:M PFlow}(F:Dt W x fi ms.length (Dq ks) [])(ok:fi.Ok)(hm:(x,NameKind.globalImplicit,i)∈fm.sc)(hd:(x==("__debug__":Str))=false)(q:SimL W (n+1) fm (e::es) ms)(qk:SimKw W (n+1) fm ks mks)
  (body:∀ fm':Fm,fm'.sc=fi.sc->fm'.env.scope=fi.scope->fm'.hdl=fm.hdl->SimS W n fm' fi.body m) :
  SimE W (n+1) fm (.Call (.Name x np) (e::es) ks pos) (ac (ag ms) λl=>ac (ag mks) λlk=>am m (l++lk)):=by
 obtain ⟨a,fd,hv,Fa,hb⟩:=F
 exact I4 hm hd hv q qk Fa ok hb body
def TV (W:Wd)(fi fi2:Fi):Prop:=∃ a fd c,W.H.mg "suffixed_err" = some (.ref a)/\FnAt W.h₀ a fd fi/\Ee W fd fi 3 [] []/\fd.code = .ref c/\CodeHd W.h₀ c W.H.tabP/\fd.qualname++(".<locals>.":Str)++("coord_repr":Str)=W.H.tabQ
theorem Ku {i:Nat}{fi2:Fi}{np pos:Pos}{es:List Expr}{m1 m2 m3:M PV}{params:Arguments}{mc:M PFlow}{dp p1 p2 p3 p4 p5 p6 p7 p8 p9 p10 p11 p12 p13:Pos}{k1 k2:Nat}(F:TV W fi fi2)(ok:fi.Ok)(ok2:fi2.Ok)(hsc:fi.sc=FV)(hcr:fi.scope.names.lookup (("coord_repr":Str))=some NameKind.local)
  (hbody:fi.body=[.FunctionDef "coord_repr" params fi2.body [] none [] fi2.scope none "coord_repr" dp,
   .Return (some (.Call (.Name "TOMLDecodeError" p1) [.JoinedStr [.FormattedValue (.Name "msg" p2) (-1) none p3,.Constant (.str " (at ") k1 p4,.FormattedValue (.Call (.Name "coord_repr" p5) [.Name "src" p6,.Name "pos" p7] [] p8) (-1) none p9,.Constant (.str ")") k2 p10] p11] [] p12)) p13])
  (hp:dp=W.H.tabPos) (hd0:params.defaults=[]) (hk0:params.kw_defaults=[]) (ha:∀ env,annTrees params none env=[]) (hfree:∀ y∈fi2.scope.names,y.2≠.free) (hlen:fi2.params.length=2)
  (hbd:∀ doc pm c' ctv q v w,bindArgs (fnX "coord_repr" q params fi2.body fi2.scope [] .none .none doc pm none (.ref c') ctv) ⟨[v,w],[]⟩=pure (fi2.params.zip [v,w])) (hm:(("suffixed_err":Str),NameKind.globalImplicit,i)∈fm.sc) (q:SimL W (n+2) fm es [m1,m2,m3])
  (body:∀ fm':Fm,fm'.sc=fi2.sc->fm'.env.scope=fi2.scope->fm'.hdl=fm.hdl->SimS W n fm' fi2.body mc) :
  SimXc W (n+2) fm (.Call (.Name "suffixed_err" np) es [] pos) (ac (ag [m1,m2,m3]) (aA (Ez mc))):=by
 obtain ⟨a,fd,c,hv,Fa,hb,hc,hcd,hq⟩:=F
 refine OH hm (by decide +kernel) hv q Fa ok hb λL A V ps s C I ns=>?_
 rw [hbody]
 refine Kq (c:=c) (P:=W.H.tabP) (fi:=fi2) ⟨hsc,hcr,hc,hcd,C.tab,hq⟩ hp hd0 hk0 ha hfree rfl rfl hlen (λdoc pm c' ctv s vs hl=>?_) ok2 body C I ns
 cases vs with
 | nil=>cases hl
 | cons v vs=>
  cases vs with
  | nil=>cases hl
  | cons w vs=>
   cases vs with
   | nil=>exact BindsTo.of_eq (hbd doc pm c' ctv _ v w)
   | cons=>cases hl
theorem Kv {T:Nat->Option (M PFlow × List PV)}{ms:List (M PV)}:aM T ms (.fn k)=match T k with
  | some (m,ext)=>ac (ag ms) λl=>am m (l++ext)
  | none=>aq:=rfl
set_option tactic.hygienic true in
theorem OI {x:Str}{kd:NameKind}{i:Nat}{np pos:Pos}{es:List Expr}{ms:List (M PV)}{T:Nat->Option (M PFlow × List PV)}(hm:(x,kd,i)∈fm.sc)(hk:kd = .local\/kd = .cell\/kd = .free)(hc:(x==("__classdict__":Str))=false)(hd:(x==("__debug__":Str))=false)(q:SimL W (n+1) fm es ms)
  (hT:∀ k m ext,T k=some (m,ext)->∃ fd fi extv,FnAt W.h₀ (W.H.fnv k) fd fi/\fi.Ok/\Ee W fd fi ms.length [] extv/\(∀ av V h,RepL W.H W.h₀ av V h ext extv)/\∀ fm':Fm,fm'.sc=fi.sc->fm'.env.scope=fi.scope->fm'.hdl=fm.hdl->SimS W n fm' fi.body m) :
  SimE W (n+1) fm (.Call (.Name x np) es [] pos) (ac (af i) (aM T ms)):=.mk λA V ps s C I ns=>by
 obtain ⟨p,e,e'⟩:=IV (Ad ns)
 unfold Ai
 rw [Ab e'] at ns ⊢
 rw [arm_eval_Call_Name']
 refine bf (wpAny_Name (GO C I hm hk hc e λv r=>?_) hd)
 cases p <;> first | exact absurd rfl ns | skip
 rename_i k
 cases q2:T k with
 | none=>
  have:aM T ms (.fn k) ps = .stuck:=by rw [Kv,q2];rfl
  exact absurd this ns
 | some mt=>
  obtain ⟨m,ext⟩:=mt
  have eq:aM T ms (.fn k)=ac (ag ms) λl=>am m (l++ext):=by rw [Kv,q2]
  rw [eq] at ns ⊢
  obtain ⟨fd,fi,extv,Fa,ok,hb,hx,body⟩:=hT k m ext q2
  obtain rfl:_=_:=r.inv
  exact FU (pos:=pos) C I q Fa ok hb hx body ns
end
def AO:Stmt->List Stmt
 | .FunctionDef _ _ b _ _ _ _ _ _ _=>b
 | _=>[]
def AP:Stmt->Scope
 | .FunctionDef _ _ _ _ _ _ s _ _ _=>s
 | _=>default
def Ha:Stmt->Arguments
 | .FunctionDef _ a _ _ _ _ _ _ _ _=>a
 | _=>default
def Ng:Stmt->Pos
 | .FunctionDef _ _ _ _ _ _ _ _ _ p=>p
 | _=>default
theorem Uw {l:List (Str × NameKind × Nat)}{x:Str}{k:NameKind}{i:Nat}(h:l.all (λe=>!decide (e.1=x))=true):(x,k,i)∉l:=λm=>by
 have:=all_eq_true.mp h _ m
 simp at this
def Kw (e:Expr):Bool:=Nat.beq e.ctorIdx 22
def QE (e:Expr):Bool:=Nat.ble 8 e.ctorIdx&&Nat.ble e.ctorIdx 10
def Vo (e:Expr):Bool:=!(Nat.beq e.ctorIdx 0||(Nat.beq e.ctorIdx 3||(Nat.beq e.ctorIdx 5||Nat.beq e.ctorIdx 15)))
def Me (e:Expr):Bool:=Nat.beq e.ctorIdx 7
def Wa (e:Expr):Bool:=Nat.beq e.ctorIdx 25
theorem Nh {e:Expr}(h:Kw e=false):∀ rest env,starEach (e::rest) env=(false,eval e env)::starEach rest env:=by
 intro rest env
 cases e <;> first | rfl | cases h
theorem Ux {e:Expr}(h:Kw e=false):∀ rest env,assignEach (e::rest) env=(false,assign e env)::assignEach rest env:=by
 intro rest env
 cases e <;> first | rfl | cases h
theorem SP {e:Expr}:∀ o i,∃ ops,subscripted e false o i=operate ops (getItem o i):=by
 intro o i
 cases e with
 | Slice a b c p=>cases c <;> exact ⟨_,rfl⟩
 | _=>exact ⟨_,rfl⟩
theorem CR {v:Expr}{x:Option Expr}{l:Nat}(h:QE v=false):∀ env,swapsWith v x l env=pure false:=by
 intro env
 cases v <;> first | rfl | cases h
theorem D6 {t v:Expr}{l:Nat}(h:QE v=false):∀ env,swapsWithSole [t] v l env=pure false:=λenv=>CR h env
theorem D7 {ts:List Expr}{k:Nat}{p:Pos}{v:Expr}(h:Wa v=false):∀ env,swappedStores [.Tuple ts k p] v env=pure none:=by
 intro env
 cases v <;> first | rfl | cases h
theorem Cf {e:Expr}(h:Vo e=true):∀ env whole,isTrue e env whole=(do let v <- whole;standAt e.pos;holding [v] (truthy v)):=by
 intro env whole
 cases e <;> first | rfl | cases h
theorem CS {e:Expr}(h:Me e=false):∀ env x,foldedSetIterable e env x=pure x:=by
 intro env x
 cases e <;> first | rfl | cases h
theorem DL {op:CmpOp}{e:Expr}(h:Me e=false):behindInMarks op e=false:=by
 cases e <;> first | rfl | cases h
theorem Ni {o1 o2:CmpOp}{e1 e2:Expr}(h:Me e2=false):lastMarks [o1,o2] [e1,e2]=false:=DL h
theorem DM:∀ env:Env,env.scope.kind = .function->interactive env=false:=λenv h=>by unfold interactive;rw [h];rfl
def QF (e:Expr):Bool:=!Nat.beq e.ctorIdx 16
theorem SQ {o:Expr}{name:Str}(h:QF o=true):∀ env,attributeBase o name env (eval o env)=eval o env:=by
 intro env
 cases o <;> first | rfl | cases h
section
variable {W:Wd}{fm:Fm}{V α' α₁ Y0 w1:List Addr}{h h' h₁ W2 w3 start:Heap}{n k:Nat}{A:Around}{ps ps':PS}{s s' c0 z0:Shared}{fi:Fi}
theorem OJ (hh:fm.hdl=none):OpMeth W n fm Bo "str.index" (Ex false):=by
 have:=Qn (W:=W) (n:=n) (fm:=fm)
 rw [hh] at this
 exact this
theorem Gz {x:Str}{i:Nat}{pos:Pos}(hv:∃ a,W.H.mg x=some (.ref a)/\W.H.setv k=some a)(hm:(x,NameKind.globalImplicit,i)∈fm.sc)(hd:(x==("__debug__":Str))=false):SimE W n fm (.Name x pos) (ae (.fset k)):=by
 obtain ⟨a,h1,h2⟩:=hv
 exact GP hm h1 (λU U=>.fset k h2) hd
theorem Nj {x:Str}{i:Nat}{pos:Pos}(hv:W.H.mg x=some (.ref (W.H.fnv k)))(hm:(x,NameKind.globalImplicit,i)∈fm.sc)(hd:(x==("__debug__":Str))=false):SimE W n fm (.Name x pos) (ae (.fn k)):=GP hm hv (λU U=>.fn k) hd
theorem SR {x:Str}{i:Nat}{pos:Pos}(hv:W.H.mg x=some (.ref W.H.mpv))(hm:(x,NameKind.globalImplicit,i)∈fm.sc)(hd:(x==("__debug__":Str))=false):SimE W n fm (.Name x pos) (ae .mp):=GP hm hv (λU U=>.mp) hd
end
def Hb (e:Expr):Option PV:=match e with
 | .Constant c _ _=>match c with
  | .int i=>some (.int i)
  | .str x=>some (.str x.cps.toList)
  | _=>none
 | _=>none
def DN:List Expr->Option (List PV)
 | []=>some []
 | e::es=>(Hb e).bind λv=>(DN es).bind λvs=>some (v::vs)
def TW:PV->Option Int
 | .int i=>some i
 | _=>none
def Uy (e:Option Expr):Option Int:=(e.bind Hb).bind TW
def FG:List (Option Expr)->Option (List Int)
 | []=>some []
 | e::es=>(Uy e).bind λi=>(FG es).bind λl=>some (i::l)
theorem Mf {V β:Type}{o:Option V}{f:V->Option β}{b:β}{C:Prop}(h:o.bind f=some b)(k:∀ a,o=some a->f a=some b->C):C:=by
 cases o with
 | none=>cases h
 | some a=>exact k a rfl h
inductive ConstAt:Expr->PV->Prop
 | int {i:Int} {k:Nat} {p:Pos}:ConstAt (.Constant (.int i) k p) (.int i)
 | str {x:Str} {k:Nat} {p:Pos}:ConstAt (.Constant (.str x) k p) (.str x.cps.toList)
theorem constOne_at {e:Expr}{v:PV}(h:Hb e=some v):ConstAt e v:=by
 cases e with
 | Constant c k p=>
  cases c with
  | int i=>cases h;exact .int
  | str x=>cases h;exact .str
  | _=>cases h
 | _=>cases h
theorem intOf_is {v:PV}{i:Int}(h:TW v=some i):v = .int i:=by
 cases v with
 | int=>cases h;rfl
 | _=>cases h
section
variable {W:Wd}{fm:Fm}{n:Nat}
theorem Hc:∀ (l:List PV),ag (l.map ae)=ae l
 | []=>rfl
 | v::l=>by
  show ac (ae v) (λv=>ac (ag (l.map ae)) λvs=>ae (v::vs))=_
  rw [Hc l];rfl
theorem ConstAt.sim {e:Expr}{v:PV}(c:ConstAt e v):SimE W n fm e (ae v):=by
 cases c with
 | int=>exact Ac
 | str=>exact Gq
theorem ConstAt.star {e:Expr}{v:PV}(c:ConstAt e v):Kw e=false:=by
 cases c <;> rfl
theorem Jd {es:List Expr}:∀ {vs:List PV},DN es=some vs->SimL W n fm es (vs.map ae):=by
 induction es with
 | nil=>intro vs h;cases h;exact .nil
 | cons e es ih=>
  intro vs h
  refine Mf h λv h1 h=>Mf h λvs' h2 h=>?_
  cases h
  exact .cons (constOne_at h1).sim (Nh (constOne_at h1).star) (ih h2)
theorem CA {es:List Expr}{vs:List PV}{pos:Pos}(h:DN es=some vs):SimE W n fm (.List es pos) (ao vs):=by
 have:=AZ (pos:=pos) (Jd (W:=W) (n:=n) (fm:=fm) h)
 rw [Hc] at this
 exact this
theorem HT {kes:List (Option Expr)}:∀ {ves:List Expr} {ks:List Int} {vs:List PV},FG kes=some ks->DN ves=some vs->kes.length=ves.length->SimD W n fm (intKind _ _) kes ves ks (vs.map ae):=by
 induction kes with
 | nil=>
  intro ves ks vs h1 h2 h3
  cases ves with
  | nil=>cases h1;cases h2;exact .nil
  | cons=>cases h3
 | cons ke kes ih=>
  intro ves ks vs h1 h2 h3
  cases ves with
  | nil=>cases h3
  | cons e es=>
   refine Mf h1 λi q1 a1=>Mf a1 λl q2 a2=>Mf h2 λv p1 a3=>Mf a3 λvs' p2 a4=>Mf q1 λu u1 u2=>?_
   obtain ⟨e',rfl,e1⟩:=aV.mp u1
   cases a2;cases a4
   cases intOf_is u2
   cases constOne_at e1
   exact .cons (λU=>V8) (λU=>(constOne_at p1).sim) (ih q2 p2 (Nat.succ.inj h3))
theorem Iq {kes:List (Option Expr)}{ves:List Expr}{ks:List Int}{vs:List PV}{pos:Pos}(h1:FG kes=some ks)(h2:DN ves=some vs)(hl:kes.length=ves.length)(hn:ks.Nodup)(h0:kes≠[])(hlen:kes.length<=15) :
  SimE W n fm (.Dict kes ves pos) (Ov .int ks vs):=by
 have:=Ox (pos:=pos) (HT (W:=W) (n:=n) (fm:=fm) h1 h2 hl) hn h0 hlen
 rw [Hc] at this
 exact this
end
end Mi
end
section
open PySem PySem.W PyProof.Rows
set_option maxRecDepth 10000
namespace Mi
section
variable {W:Wd}{fm:Fm}{n:Nat}{sc:List (Str × NameKind × Nat)}{x:Str}{k:NameKind}{i:Nat}{p pos np:Pos}{e l r:Expr}{es:List Expr}{m ml mr:M PV}{ms:List (M PV)}
def ckL (k:NameKind):Bool:=decide (k = .local\/k = .cell)
def ckV (x:Str)(k:NameKind):Bool:=decide (k = .local\/k = .cell\/k = .free)&&(!(x==("__classdict__":Str))&&!(x==("__debug__":Str)))
def ckB (x:Str):Bool:=decide (x∈BF)&&(decide (x≠("__name__":Str))&&!(x==("__debug__":Str)))
theorem A8 {a b:Bool}(h:(a&&b)=true):a=true/\b=true:=and_eq_true_iff.mp h
theorem EB {a:Bool}(h:(!a)=true):a=false:=not_eq_true' a▸h
theorem sv (h:fm.sc=sc)(j:Nat)(q:sc[j]? = some (x,k,i))(c:ckV x k=true:=by decide +kernel):SimE W n fm (.Name x pos) (af i):=Gr (scm h j q) (aX (A8 c).1) (EB (A8 (A8 c).2).1) (EB (A8 (A8 c).2).2)
theorem sl (h:Kw e=false)(a:SimE W n fm e m)(b:SimL W n fm es ms):SimL W n fm (e::es) (m::ms):=.cons a (Nh h) b
theorem cb {id:String}{g:List PV->M PV}(h:fm.sc=sc)(j:Nat)(q:sc[j]? = some (x,.globalImplicit,i))(a:SimL W n fm es ms)(o:OpCall W n fm (.builtin id) g)(c:ckB x=true:=by decide +kernel)(h4:bootBuiltins x=some (.builtin id):=by kernel_rfl) :
  SimE W n fm (.Call (.Name x np) es [] pos) (ac (ag ms) g):=LH (scm h j q) (aX (A8 c).1) (aX (A8 (A8 c).2).1) (EB (A8 (A8 c).2).2) h4 a o
theorem ct {T:String}{g:List PV->M PV}(h:fm.sc=sc)(j:Nat)(q:sc[j]? = some (x,.globalImplicit,i))(a:SimL W n fm es ms)(o:OpCall W n fm (.type T) g)(c:ckB x=true:=by decide +kernel)(h4:bootBuiltins x=some (.type T):=by kernel_rfl) :
  SimE W n fm (.Call (.Name x np) es [] pos) (ac (ag ms) g):=LI (scm h j q) (aX (A8 c).1) (aX (A8 (A8 c).2).1) (EB (A8 (A8 c).2).2) h4 a o
theorem sa {v:Expr}(h:fm.sc=sc)(j:Nat)(q:sc[j]? = some (x,k,i))(hs:(ckL k&&!QE v)=true)(a:SimE W n fm v m):SimT W n fm (.Assign [.Name x p] v pos) (ac m λa=>ac (ah i a) λU=>ae .next):=J9 (scm h j q) (aX (A8 hs).1) a (CR (EB (A8 hs).2))
theorem sg {op:Operator}{v:Expr}(h:fm.sc=sc)(j:Nat)(q:sc[j]? = some (x,k,i))(a:SimE W n fm v m)(c:(ckL k&&!(x==("__classdict__":Str)))=true:=by decide +kernel) :
  SimT W n fm (.AugAssign (.Name x p) op v pos) (ac (af i) λa=>ac m λb=>ac (BG op a b) λr=>ac (ah i r) λU=>ae .next):=P8 (scm h j q) (aX (A8 c).1) (EB (A8 c).2) a
theorem cm {op:CmpOp}(h:Me r=false)(a:SimE W n fm l ml)(b:SimE W n fm r mr):SimB W n fm (.Compare l [op] [r] pos) (ac ml λa=>ac mr λb=>ac (Au op a b) tst):=PT a b (DL h)
theorem ss {kk:Nat}{t:Txt}(h:x.cps.toList=t:=by kernel_rfl):SimE W n fm (.Constant (.str x) kk pos) (ae (.str t)):=QD h
theorem gn (h:fm.sc=sc)(j:Nat)(q:sc[j]? = some (x,k,i))(hk:ckL k=true):SimG W n fm (.Name x p) (ah i):=On (scm h j q) (aX hk)
theorem gs {t:Expr}{f:PV->M Unit}{ts:List Expr}{fs:List (PV->M Unit)}(h:Kw t=false)(a:SimG W n fm t f)(b:SimGs W n fm ts fs):SimGs W n fm (t::ts) (f::fs):=.cons a (Ux h) b
theorem it {me mi:M PV}{ix:Expr}(hh:fm.hdl=none)(a:SimE W n fm e me)(b:SimE W n fm ix mi):SimE W n fm (.Subscript e ix pos) (ac me λa=>ac mi λb=>As false a b):=P2 (by rw [hh];rfl) a b SP
theorem fc {fi:Fi}{a:Nat}{mm:M PFlow}(F:Dt W x fi ms.length [] [])(ok:fi.Ok)(h:fm.sc=sc)(j:Nat)(q:sc[j]? = some (x,.globalImplicit,i))(A:SimL W (n+1) fm es ms)(hh:fm.hdl=none)(s:∀ {fm':Fm},fm'.sc=fi.sc->fm'.env.scope=fi.scope->fm'.hdl=none->SimS W a fm' fi.body mm)(c:(decide (a<=n)&&!(x==("__debug__":Str)))=true:=by decide +kernel) :
  SimE W (n+1) fm (.Call (.Name x np) es [] pos) (ac (ag ms) (am mm)):=G9 F ok (scm h j q) (EB (A8 c).2) A λfm' hs he hd=>(s hs he (hd.trans hh)).up (aX (A8 c).1)
end
section
variable {W:Wd}{fm:Fm}{n:Nat}{pos:Pos}{l r:Expr}{es:List Expr}{m ml mr:M PV}{ms:List (M PV)}
theorem ce {op:CmpOp}(h:Me r=false)(a:SimE W n fm l ml)(b:SimE W n fm r mr):SimE W n fm (.Compare l [op] [r] pos) (ac ml λa=>ac mr λb=>Au op a b):=Sr a b (DL h)
theorem me {o:Expr}{name:Str}{apos:Pos}{mo:M PV}{g:PV->List PV->M PV}{K:PV->Bool}{T id:String}(hb:QF o=true)(hc:(decide (es.length<30)&&(apos.endLine==pos.line))=true)(ho:SimE W n fm o mo)(q:SimL W n fm es ms)(Ma:MethAt T id name)(KT:Ij W fm K T)(op:OpMeth W n fm K id g) :
  SimE W n fm (.Call (.Attribute o name apos) es [] pos) (ac mo λp=>ak (K p) (ac (ag ms) (g p))):=Ql ho q Ma KT op (SQ hb) (aX (A8 hc).1) (A8 hc).2
end
end Mi
end
section
open PySem PySem.W PyProof.Rows
open PySem.Builtin PySem.Builtin.Str
set_option maxRecDepth 100000
namespace Mi
def splitT (c:Nat):Txt->List Txt
 | []=>[[]]
 | a::x=>if a=c then []::splitT c x else match splitT c x with
  | y::r=>(a::y)::r
  | []=>[[a]]
def He (v:PV)(l:List PV):M PV:=ap (asS v) λx=>aH l λp=>ap (asS p) λs=>ap (one s) λc=>ak (decide (c<256)&&decide (x.length<=big)) (ao ((splitT c x).map .str))
def asD:PV->Option (List PV × List PV)
 | .dct ks vs=>some (ks,vs)
 | _=>none
def Je (p:PV):Bool:=(asD p).isSome
def as2 (l:List PV):Option (PV × PV):=un l λp r=>un r λq r=>cond r.isEmpty (some (p,q)) none
theorem QG {l:List PV}{x:PV × PV}(h:as2 l=some x):l=[x.1,x.2]:=by
 obtain ⟨p,t,rfl,h⟩:=EO h
 obtain ⟨q,r,rfl,h⟩:=EO (show un t (λq r=>cond r.isEmpty (some (p,q)) none)=some x from h)
 obtain ⟨rfl,rfl⟩:=Fq h
 rfl
def QH (v:PV)(l:List PV):M PV:=ap (asD v) λkv=>ap (as2 l) λx=>aB ((C9 kv.1 kv.2 x.1).map λr=>r.getD x.2)
def Uz (l:List PV):M PV:=ap (as2 l) λx=>ap (asI x.1) λa=>ap (asI x.2) λb=>ae (.int (if b>a then b else a))
def BY (x:Txt)(from_:Nat):List Nat->List Txt
 | []=>[x.drop from_]
 | i::r=>((x.take i).drop from_)::BY x (i+1) r
theorem Mg (c a:Nat)(x:Txt):posns c (a::x) (x.length+1)=(if a=c then [0] else [])++(posns c x x.length).map (·+1):=by
 unfold posns
 rw [List.range_succ_eq_map,filter_cons]
 have:(map Nat.succ (range x.length)).filter (λi=>(a::x)[i]?==some c)=((range x.length).filter λi=>x[i]?==some c).map (·+1):=by
  rw [List.filter_map]
  rfl
 rw [this]
 by_cases q:a=c
 ·subst q;simp
 ·simp [q]
theorem FW (a:Nat)(x:Txt)(l:List Nat):∀ (k:Nat),BY (a::x) (k+1) (l.map (·+1))=BY x k l:=by
 induction l with
 | nil=>intro k;rfl
 | cons i l ih=>
  intro k
  rw [map_cons,BY,BY,ih (i+1)]
  simp
theorem EC (c:Nat)(x:Txt):splitT c x=BY x 0 (posns c x x.length):=by
 induction x with
 | nil=>rfl
 | cons a x ih=>
  rw [length_cons,Mg,splitT]
  by_cases q:a=c
  ·rw [if_pos q,if_pos q,ih]
   show _=BY (a::x) 0 (0::(posns c x x.length).map (·+1))
   rw [BY,FW]
   rfl
  ·rw [if_neg q,if_neg q,nil_append,ih]
   cases hp:posns c x x.length with
   | nil=>simp [BY]
   | cons i r=>
    rw [map_cons,BY,BY,FW]
    simp
theorem OK (x:Txt)(l:List Nat):∀ (k:Nat),(((k::l.map (·+1)).zip (l++[x.length])).map λp=>strSub (txt x) p.1 p.2)=(BY x k l).map txt:=by
 induction l with
 | nil=>
  intro k
  simp only [map_nil,nil_append,List.zip_cons_cons,List.zip_nil_left,map_cons,BY]
  congr 1
  unfold strSub
  simp [txt]
  exact List.take_of_length_le (by simp)
 | cons i l ih=>
  intro k
  rw [map_cons,cons_append,List.zip_cons_cons,map_cons,ih (i+1),BY,map_cons]
  congr 1
  unfold strSub
  simp [txt]
  exact List.drop_take.symm
theorem OL (c:Nat)(x:Txt):occurrences (txt x) (txt [c]) 0 (txt x).length ((txt x).length+1)=posns c x x.length:=by
 rw [AD,StrLaws.occ_eq]
 have:=Nf x c x.length (x.length+1) (aR _) (range' 0 (x.length+1 - 0)) #[] 0 (λU U=>aP _) (List.pairwise_lt_range' ..) (by simp)
 exact this.trans (by rw [FF];simp)
set_option tactic.hygienic true in
theorem Ir {c:Nat}(hc:c<256)(x:Txt):Txt.split (txt x) (txt [c])=(splitT c x).map txt:=by
 unfold Txt.split
 rw [OL,EC]
 have hp:partsBetween (txt x) (posns c x x.length) (txt [c]).length=(BY x 0 (posns c x x.length)).map txt:=by
  unfold partsBetween
  have:=OK x (posns c x x.length) 0
  rw [<- this]
  rfl
 have h0:(posns c x x.length)=[]->[txt x]=(BY x 0 (posns c x x.length)).map txt:=λe=>by rw [e];rfl
 split
 ·rename_i q
  refine h0 ?_
  rw [or_eq_true,decide_eq_true_eq,decide_eq_true_eq] at q
  rcases q with q | q
  ·rw [AD] at q
   have:x=[]:=eq_nil_of_length_eq_zero (by have:(txt [c]).length=1:=rfl;exact bc (la [_,_] [([2,3,0],[4]),([4],[3])] ([2],[1]) rfl q (aS this)) (la [_] [] ([1],[2]) rfl))
   subst this;rfl
  ·have k1:Builtin.Str.strKind (txt [c])=1:=by
    unfold Builtin.Str.strKind
    rw [if_pos (by simp [txt,hc])]
   have:1<=Builtin.Str.strKind (txt x):=by
    unfold Builtin.Str.strKind
    split
    ·exact aR _
    ·split <;> decide
   lia
 ·split
  ·rename_i q
   exact h0 (isEmpty_iff.mp q)
  ·exact hp
section
variable {prog:Program}{w:World}{A:Around}{E:Value->Shared->Prop}{s:Shared}{x y:Str}{t u:Tok}{Q:Value->Shared->Prop}
theorem OM (hy:(y.length==0)=false)(hsz:x.length<=sizeLine)(hsz2:(Txt.split x y).length<=sizeLine)
  (h:∀ l k,l.map (·.1)=Txt.split x y->Q (.ref s.heap.objs.size) { s with heap:=s.heap.push { cls:=.type "list",data:=.seq (strValues l).toArray },toks:=k }):wpAny (model prog w) A (call (.builtin "str.split") [.str x t,.str y u]) Q E s:=by
 by_cases h1:(decide (x.length<y.length)||decide (Builtin.Str.strKind x<Builtin.Str.strKind y))=true
 ·exact call_meets F.slot_str_split (typeIs_str _ _ _) F.entry_str_split (F.args_str_split_2 _ _) (meets_str_split_cannot_occur x y t u h1) (h [(x,t)] s.toks (by unfold Txt.split;rw [if_pos h1];rfl))
 ·have h1':=Bool.eq_false_iff.mpr h1
  by_cases hf:(occurrences x y 0 x.length (x.length+1)).isEmpty=true
  ·exact call_meets F.slot_str_split (typeIs_str _ _ _) F.entry_str_split (F.args_str_split_2 _ _) (meets_str_split_not_found x y t u h1' hy hf) (h [(x,t)] s.toks (by unfold Txt.split;rw [if_neg h1,if_pos hf];rfl))
  ·have hf':=Bool.eq_false_iff.mpr hf
   have e:Txt.split x y=partsBetween x (occurrences x y 0 x.length (x.length+1)) y.length:=by unfold Txt.split;rw [if_neg h1,if_neg hf]
   rw [e] at hsz2
   refine call_meets F.slot_str_split (typeIs_str _ _ _) F.entry_str_split (F.args_str_split_2 _ _) (meets_str_split_sep x y t u h1' hy hf' hsz hsz2) ?_
   have:=h (numbered s.toks (partsBetween x (occurrences x y 0 x.length (x.length+1)) y.length)) (s.toks+(partsBetween x (occurrences x y 0 x.length (x.length+1)) y.length).length) (by rw [numbered_texts,e])
   rw [<- strsFrom_eq] at this
   exact this
end
section
variable {W:Wd}{fm:Fm}{V:List Addr}{h:Heap}{n:Nat}{A:Around}{ps:PS}{s:Shared}
theorem QI:Ij W fm Je "dict":=λn A V ps s p v C I hK r=>by
 cases p <;> first | exact Bool.noConfusion hK | skip
 cases r with
 | dct hna ho hx hd hk rk rv=>exact ⟨⟨_,ho,hx.1⟩,λb eb=>by cases eb;exact ⟨_,ho,hx.2.1⟩⟩
theorem Mj:MethAt "str" "str.split" "split":=⟨PySem.F.plainAttrs_str,PySem.F.slot_str_split,PySem.F.type_str_split⟩
theorem QJ:MethAt "dict" "dict.get" "get":=⟨PySem.F.plainAttrs_dict,PySem.F.slot_dict_get,PySem.F.type_dict_get⟩
theorem ON (x:Txt)(l:List Nat):∀ (k:Nat),(BY x k l).length=l.length+1:=by
 induction l with
 | nil=>exact λU=>rfl
 | cons i l ih=>exact λk=>congrArg (·+1) (ih (i+1))
theorem FX {Key:Type}(P:Key->Value->Bool)(es:Array DictEntry)(k:Key):findBy P es k=(es.toList.find? λe=>P k e.key).map (·.val):=by
 unfold findBy;obtain ⟨l⟩:=es;simp
theorem OO {ts:List Txt}{lt:List (Str × Tok)}(e:lt.map (·.1)=ts.map txt):RepL W.H W.h₀ fm.av V h (ts.map .str) (strValues lt):=by
 induction ts generalizing lt with
 | nil=>
  cases lt with
  | nil=>exact .nil
  | cons a l=>simp at e
 | cons t ts ih=>
  cases lt with
  | nil=>simp at e
  | cons a l=>
   simp only [map_cons,List.cons.injEq] at e
   obtain ⟨y,k⟩:=a
   have e1:y=txt t:=e.1
   subst e1
   exact .cons (.str _ _) (ih e.2)
theorem QK:OpMeth W n fm Bo "str.split" He:=.mk λA V ps s p v l vs C I hK r rl ns=>by
 obtain ⟨x,e⟩:=AV ns
 have e:=Bg e
 subst e
 obtain ⟨p,rfl⟩:=IP (show aH l _ ps≠.stuck from ns)
 obtain ⟨y,e⟩:=AV (show ap (asS p) _ ps≠.stuck from ns)
 have e:=Bg e
 subst e
 obtain ⟨c,e⟩:=AV (show ap (one y) _ ps≠.stuck from ns)
 have e:=EP e
 subst e
 obtain ⟨_,_,rfl,r1,rl⟩:=rl.inv
 cases rl
 cases r1
 cases r
 have ns':ak (decide (c<256)&&decide (x.length<=big)) (ao ((splitT c x).map .str)) ps≠.stuck:=ns
 obtain ⟨cc,e⟩:=Ak ns'
 simp only [and_eq_true,decide_eq_true_eq] at cc
 have ns2:ao ((splitT c x).map .str) ps≠.stuck:=by rw [e] at ns';exact ns'
 have hb:=Cy ns2
 refine Ai.congr (m:=He (.str x) [.str [c]]) e ?_
 refine OM rfl (by rw [AD,<- Bd];exact cc.2) (by rw [Ir cc.1,length_map,<- Bd];simpa using hb) λlt k hlt=>?_
 rw [Ir cc.1] at hlt
 exact OkE.newLst (a:=s.heap.objs.size) C I hb (OO hlt) (λb o e=>get?_push_of_some _ e) (Az _) ⟨_,get?_push_size _ rfl⟩
theorem UA {p:PV}{kv:List PV × List PV}(h:asD p=some kv):p = .dct kv.1 kv.2:=by cases p <;> first | (injection h;done) | (injection h with h;rw [<- h])
theorem UB:OpMeth W n fm Je "dict.get" QH:=.mk λA V ps s p v l vs C I hK r rl ns=>by
 obtain ⟨⟨ks,dv⟩,e⟩:=AV ns
 have e:=UA e
 subst e
 obtain ⟨⟨x,d⟩,e⟩:=AV (show ap (as2 l) _ ps≠.stuck from ns)
 have e:=QG e
 subst e
 obtain ⟨_,_,rfl,r1,rl⟩:=rl.inv
 obtain ⟨_,_,rfl,r2,rl⟩:=rl.inv
 cases rl
 have ns':aB ((C9 ks dv x).map λr=>r.getD d) ps≠.stuck:=ns
 obtain ⟨z,ez,e⟩:=Fr ns'
 obtain ⟨rr,er,rfl⟩:=aU.mp ez
 refine Ai.congr (m:=QH (.dct ks dv) [x,d]) e ?_
 obtain ⟨_,o,es,ep,rfl,hna,ho,hx,hd,hk,rk,rv⟩:=r.inv
 rcases hk with hk | hk
 ·obtain ⟨t,rfl⟩:=Er hk rk r1 er
  cases r1
  have hm:s.heap.MapOf (strKind W.H.prog W.H.w) _ (λk=>findBy (strKind W.H.prog W.H.w).is _ k):=⟨_,_,_,ho,hx,hd,hk,λU=>rfl⟩
  refine call_meetsIn F.slot_dict_get hm.typeIs F.entry_dict_get (F.args_dict_get_3 _ _ _) (meets_dict_get_default _ _ (strKind_is _ _ _ _) hna.2 _) ⟨_,hm,?_⟩
  have sp:=GM hk rk rv (B9 er)
  rw [FX]
  cases rr with
  | none=>simp only at sp;rw [sp];exact OkE.same I r2
  | some z=>obtain ⟨e,e1,e2⟩:=sp;rw [e1];exact OkE.same I e2
 ·obtain ⟨t,rfl⟩:=DE hk rk r1 er
  cases r1
  have hm:s.heap.MapOf (intKind W.H.prog W.H.w) _ (λk=>findBy (intKind W.H.prog W.H.w).is _ k):=⟨_,_,_,ho,hx,hd,hk,λU=>rfl⟩
  refine call_meetsIn F.slot_dict_get hm.typeIs F.entry_dict_get (F.args_dict_get_3 _ _ _) (meets_dict_get_default _ _ (intKind_is _ _ _ _) hna.2 _) ⟨_,hm,?_⟩
  have sp:=GN hk rk rv (B9 er)
  rw [FX]
  cases rr with
  | none=>simp only at sp;rw [sp];exact OkE.same I r2
  | some z=>obtain ⟨e,e1,e2⟩:=sp;rw [e1];exact OkE.same I e2
theorem QM {f:Int->Int->M PV}{l:List PV}{vs:List Value}(r:RepL W.H W.h₀ fm.av V h l vs)(ns:ap (as2 l) (λx=>ap (asI x.1) λa=>ap (asI x.2) λb=>f a b) ps≠.stuck):∃ a b t u,l=[.int a,.int b]/\vs=[.int a t,.int b u]:=by
 obtain ⟨⟨x,d⟩,e⟩:=AV ns
 have e:=QG e
 subst e
 obtain ⟨a,e⟩:=AV (show ap (asI x) _ ps≠.stuck from ns)
 have e:=A6 e
 subst e
 obtain ⟨b,e⟩:=AV (show ap (asI d) _ ps≠.stuck from ns)
 have e:=A6 e
 subst e
 obtain ⟨_,_,rfl,r1,r⟩:=r.inv
 obtain ⟨_,_,rfl,r2,r⟩:=r.inv
 cases r;obtain ⟨_,rfl⟩:=r1.inv;obtain ⟨_,rfl⟩:=r2.inv
 exact ⟨a,b,_,_,rfl,rfl⟩
theorem QN (hh:fm.hdl=none):OpCall W n fm (.builtin "max") Uz:=.mk λA V ps s l vs C I r0 ns=>by
 obtain ⟨a,b,t,u,rfl,rfl⟩:=QM r0 ns
 refine max_two_ints (C.hdl.trans hh) λh' tk k=>?_
 refine ⟨.int (if b>a then b else a),ps,V,rfl,⟨I.inv.keeps k,I.gens,I.os⟩,.refl ..,.of_keeps k,?_⟩
 split
 ·exact .int _ _
 ·exact .int _ _
end
end Mi
end
section
open PySem PySem.W PyProof.Rows
set_option maxRecDepth 100000
namespace Mi
section
variable {W:Wd}{fm:Fm}{n:Nat}{x:Str}{t:Txt}
variable {V:List Addr}{A:Around}{ps:PS}{s:Shared}
end
section
variable {W:Wd}{fm:Fm}{n:Nat}
end
section
variable {W:Wd}{fm:Fm}{n:Nat}{H:Hd}{h₀:Heap}{av V:List Addr}{h:Heap}
end
end Mi
end
section
open PySem PySem.W PyProof.Rows
set_option maxRecDepth 10000
namespace Mi
section
variable {W:Wd}{fm:Fm}{V α' α₁ Y0 w1:List Addr}{h h' h₁ W2 w3 start:Heap}{n:Nat}{A:Around}{ps ps':PS}{s s' c0 z0:Shared}{H:Hd}{h₀:Heap}{own:List Addr}{C D:Addr}{st':List (List PV)}
theorem Inv.carryMore (F:FmOk h₀ fm)(I:Inv H h₀ fm V ps h)(hC:h.get? C=Option.none)(R:Rel fm.stk fm.tab V h h')(K:Inv H h₀ fm α' ⟨ps.loc,st'⟩ h')(L':ListsAt H h₀ (fm.more C).av α' st' h')(g:Grow V α' h)(hs:(h'.get? C).isSome=true):Inv H h₀ (fm.more C) α' ⟨ps.loc,st'⟩ h':=by
 have st:∀ a∈(fm.more C).av,a∈fm.av\/h.get? a=Option.none:=λa m=>by
  rcases mem_cons.mp m with q | q
  ·rw [q];exact .inr hC
  ·exact .inl q
 have nα:C∉V:=λz=>by
  obtain ⟨ws,o,e,_⟩:=I.lists.isList z
  rw [hC] at e;cases e
 have L:ListsAt H h₀ (fm.more C).av V ps.st h:=⟨I.lists.len,λi l e=>by
   obtain ⟨a,vs,h1,h2,h3⟩:=I.lists.at_ i l e
   exact ⟨a,vs,h1,h2,h3.strong st⟩,I.lists.nodup,I.lists.fresh,λa m q=>by
   rcases mem_cons.mp q with q | q
   ·exact nα (q▸m)
   ·exact I.lists.apart a m q⟩
 have rep:∀ {p v},OptRep H h₀ fm.av V h p v->OptRep H h₀ (fm.more C).av α' h' p v:=λr=>OptRep.stays L R g.pre (λb m=>mem_cons_of_mem _ (F.frsAv b m)) (λb m=>mem_cons_of_mem _ (F.tabAv b m)) (r.map λr=>r.strong st)
 have at_:∀ b o,b∈fm.av->b∉fm.tab->h.get? b=some o->∃ sl,h'.get? b=some { o with slots:=sl }:=λb o m nt e=>by
  by_cases q:b∈frs fm.stk
  ·exact R.slot b o e q nt λz=>I.lists.apart b z m
  ·exact ⟨o.slots,R.keep b o e q nt λz=>I.lists.apart b z m⟩
 have nt:∀ b o,h.get? b=some o->(∀ vs,o.data≠.fields vs)->b∉fm.tab:=λb o e n m=>by
  obtain ⟨ps,e',_⟩:=I.tabs b m
  rw [e] at e';cases e';exact n ps rfl
 refine ⟨K.base,?_,?_,L',?_,K.frames,K.tabs⟩
 ·obtain ⟨m,⟨o,es,ep,h1,h2,h3⟩,k⟩:=I.loc
  obtain ⟨sl,e⟩:=at_ _ _ F.locAv (nt _ _ h1 λvs q=>by rw [h2] at q;cases q) h1
  exact ⟨m,⟨_,es,ep,e,h2,h3⟩,λx i hm=>rep (k x i hm)⟩
 ·intro x k i hm hk
  obtain ⟨cc,v,h1,h2,h3,⟨o,e1,e2⟩,h5⟩:=I.cel x k i hm hk
  obtain ⟨sl,e⟩:=at_ _ _ h2 (nt _ _ e1 λvs q=>by rw [e2] at q;cases q) e1
  exact ⟨cc,v,h1,mem_cons_of_mem _ h2,h3,⟨_,e,e2⟩,rep h5⟩
 ·intro a ha
  rcases mem_cons.mp ha with q | q
  ·rw [q];exact hs
  ·exact K.live a q
theorem Ky {scope:Scope}{sc:List (Str × NameKind × Nat)}{acc:List PV}{vs:List Value}(F:FmOk W.h₀ fm)(I:InvS W fm V ps s)(hD:s.heap.get? D=Option.none)(hC:s.heap.get? C=Option.none)(hDC:D≠C)
  (J:InvS W (AE fm scope sc D C) α' ps' s') (g:Grow V α' s.heap) (R:Rel fm.stk fm.tab V s.heap s'.heap) (hl:s'.heap.PlainList D vs.toArray) (rl:RepL W.H W.h₀ (AE fm scope sc D C).av α' s'.heap acc vs) :
  InvS W (fm.more C) (α'++[D]) ⟨ps.loc,ps'.st++[acc]⟩ s'/\Grow V (α'++[D]) s.heap/\(α'++[D])[ps'.st.length]? = some D:=by
 obtain ⟨K,g',R',hiD⟩:=Ki F I hD hC hDC J g R hl rl (.refl ..)
 have mC:C∈(AE fm scope sc D C).av:=mem_cons_of_mem _ (mem_cons_self ..)
 have wk:∀ a,a∈(fm.more C).av->a∈(AE fm scope sc D C).av:=λa m=>mem_cons_of_mem _ m
 have stp:α' <+: α'++[D]:=prefix_append _ _
 have kk:∀ b o,s'.heap.get? b=some o->s'.heap.get? b=some o:=λU U e=>e
 have lift:∀ {l:List PV} {ws:List Value},RepL W.H W.h₀ (AE fm scope sc D C).av α' s'.heap l ws->RepL W.H W.h₀ (fm.more C).av (α'++[D]) s'.heap l ws:=λr=>RepL.keeps kk stp (RepL.weak wk r)
 refine ⟨⟨I.inv.carryMore F hC R K.inv ⟨K.inv.lists.len,λi l e=>?_,K.inv.lists.nodup,K.inv.lists.fresh,λa m q=>?_⟩ g' (J.inv.live C mC),J.gens,J.os⟩,g',hiD⟩
 ·by_cases hi:i<ps'.st.length
  ·rw [getElem?_append_left hi] at e
   obtain ⟨a,ws,q1,q2,q3⟩:=J.inv.lists.at_ i l e
   exact ⟨a,ws,by rw [getElem?_append_left (by rw [J.inv.lists.len];exact hi)];exact q1,q2,lift q3⟩
  ·have:i=ps'.st.length:=by
    have:=(ba.mp e).1
    simp at this;exact bc (la [_,_] [([2,3,0],[4,3,0])] ([2],[4]) rfl this) (la [_,_] [([2],[4])] ([2],[4]) rfl (Nat.not_lt.mp hi))
   subst this
   rw [getElem?_append_right (Nat.le_refl _)] at e
   simp at e
   subst e
   exact ⟨D,vs,hiD,hl,lift rl⟩
 ·rcases mem_cons.mp q with q | q
  ·rcases mem_append.mp m with p | p
   ·exact J.inv.lists.apart a p (q▸mC)
   ·rw [mem_singleton.mp p] at q;exact hDC q
  ·exact K.inv.lists.apart a m q
theorem InvS.shed (F:FmOk W.h₀ fm)(J:InvS W (fm.more C) V ps s)(hC0:W.h₀.get? C=Option.none)(nav:C∉fm.av)(nf:∀ o vs,s.heap.get? C=some o->o.data≠.fields vs)(nc:∀ v,¬ s.heap.IsCell C v)(S:Heap.SameBut C s.heap h'):InvS W fm V ps { s with heap:=h' }:=by
 have mC:C∈(fm.more C).av:=mem_cons_self ..
 have wk:∀ a,a∈fm.av->a∈(fm.more C).av:=λa m=>mem_cons_of_mem _ m
 have hαC:∀ b∈V,b≠C:=λb m q=>J.inv.lists.apart b m (q▸mC)
 have ne:∀ b∈fm.av,b≠C:=λb m q=>nav (q▸m)
 have rep:∀ {p v},OptRep W.H W.h₀ (fm.more C).av V s.heap p v->OptRep W.H W.h₀ fm.av V h' p v:=λr=>(OptRep.same (fm:=fm.more C) S mC hαC r).map λr=>r.weak wk
 refine ⟨⟨λb o e=>?_,?_,λx k i hx hk=>?_,⟨J.inv.lists.len,λi l e=>?_,J.inv.lists.nodup,J.inv.lists.fresh,λa m q=>J.inv.lists.apart a m (wk a q)⟩,λa m=>?_,?_,λP hP=>(J.inv.tabs P hP).same S nf⟩,J.gens,J.os⟩
 ·have hb:b≠C:=λq=>by rw [q,hC0] at e;cases e
  exact (S.2 b hb).trans (J.inv.base b o e)
 ·obtain ⟨m,n1,n2⟩:=J.inv.loc
  exact ⟨m,n1.sameBut S (ne _ F.locAv),λx i hm=>rep (n2 x i hm)⟩
 ·obtain ⟨c,v,q1,q2,q3,q4,q5⟩:=J.inv.cel x k i hx hk
  have hc:c≠C:=λz=>nc v (z▸q4)
  exact ⟨c,v,q1,(mem_cons.mp q2).resolve_left hc,q3,q4.sameBut S hc,rep q5⟩
 ·obtain ⟨a,vs,h1,⟨k,h2⟩,h3⟩:=J.inv.lists.at_ i l e
  exact ⟨a,vs,h1,⟨k,(S.2 a (hαC a (mem_of_getElem? h1))).trans h2⟩,RepL.weak wk (RepL.same (fm:=fm.more C) S mC hαC h3)⟩
 ·show (h'.get? a).isSome=true
  rw [S.2 a (ne a m)]
  exact J.inv.live a (wk a m)
 ·exact FunFrames.but S (λb m=>ne b (F.frsAv b m)) J.inv.frames
end
section
variable {W:Wd}{fm:Fm}{n:Nat}
structure SimU (W:Wd)(n:Nat)(fm:Fm)(e:Expr)(m:M PV):Prop where
 toE:SimE W n fm e m
 sw:∀ x p l env,∃ b,swapsWith e (some (.Name x p)) l env=pure b
 us:∀ A V ps s,Ctx W fm n A->InvS W fm V ps s->m ps≠.stuck->∀ {u:Value->Sem Unit} {Q:Unit->Shared->Prop} {E:Value->Shared->Prop},(∀ x s',ExE W fm V s.heap (m ps) x s'->E x s') ->
  (∀ (β:List Addr) (ps':PS) (i:Nat) (D C:Addr) (s':Shared),m ps = .ok (.lst i) ps'->s.heap.get? C=none->(∃ m,s'.heap.Ns C m)->InvS W (fm.more C) β ps' s'->Grow V β s.heap->Rel fm.stk fm.tab V s.heap s'.heap->β[i]? = some D ->
   wpAny W.m A (u (.ref D)) (λU s''=>∃ m,s''.heap.Ns C m/\∀ h',Heap.SameBut C s''.heap h'->Q () { s'' with heap:=h' }) E s')->wpAny W.m A (evalThenUse e fm.env u) Q E s
variable {V β:List Addr}{A:Around}{ps ps':PS}{s s' s'':Shared}{h':Heap}{C D:Addr}
theorem QP {m:Str->Option Value}(x:s.heap.Ns C m):(∀ o vs,s.heap.get? C=some o->o.data≠.fields vs)/\∀ v,¬ s.heap.IsCell C v:=by
 obtain ⟨o,es,ep,e,d,_⟩:=x
 refine ⟨λo' vs e' q=>?_,λv z=>?_⟩
 ·rw [e] at e';cases e';rw [d] at q;cases q
 ·obtain ⟨o',e',q⟩:=z
  rw [e] at e';cases e';rw [d] at q;cases q
end
def aw (get:Nat->M (Option PV))(gt:PV->M Unit)(t:M Bool)(m:M PV):Nat->Nat->List PV->M PV
 | 0,_,_=>aq
 | f+1,k,acc=>ac (get k) λo=>match o with
  | none=>ao acc
  | some p=>ac (gt p) λU=>ac t λc=>if c then ac m λv=>ak (acc.length+1<=big) (aw get gt t m f (k+1) (acc++[v])) else aw get gt t m f (k+1) acc
def QQ (m:Model)(A:Around)(elt target:Expr)(ifs:List Expr)(it acc:Value)(env:Env)(R:Result->Shared->Prop)(X:Shared->Prop)(s:Shared):Prop:=
 let N:=notedBy m A env λe s'=>R (.error e) s'
 wpAny m A (pyNext it) (λr c0=>match r with
  | none=>R (.ok .next) c0
  | some v=>wpAny m A (letOwnedTupleGo target it v) (λU u3=>wpAny m A (assign target env v) (λU z0=>wpAny m A (forIn ifs true λc r=>if r=true then do let ok <- isTrue c env (eval c env);pure (ForInStep.yield ok) else pure (ForInStep.yield r))
   (λok v3=>if ok=true then wpAny m A (eval elt env) (λx X4=>wpAny m A (call (.builtin "list.append") [acc,x]) (λU s6=>X s6) N X4) N v3 else X v3) N z0) N u3) N c0) N s
theorem Mk {prog:Program}{w:World}{A:Around}{s:Shared}{elt target iter:Expr}{ifs:List Expr}{scope:Scope}{pos:Pos}{it acc:Value}{env:Env}{R:Result->Shared->Prop}(I:Nat->Shared->Prop)
  (turn:∀ n s,I n s->QQ (model prog w) A elt target ifs it acc env R (λs'=>∃ m,m<n/\I m s') s) (n:Nat) (h:I n s) :
  codeAny (model prog w) A (.compLoop (.ListComp elt [⟨target,iter,ifs,0⟩] scope pos) 0 it acc env) R s:=by
 refine codeAny_loop rfl I (λk t hI=>?_) n h
 refine wpAny_noted (m:=compTurn (.ListComp elt [⟨target,iter,ifs,0⟩] scope pos) 0 it acc env) ?_
 have tn:=turn k t hI
 unfold QQ at tn
 dsimp only at tn
 rw [compTurn_list]
 refine bf (wpAny_standAt (bf (aW tn (λr c0 z=>?_) λU U z=>z)))
 cases r with
 | none=>exact bg z
 | some v=>
  refine bf (aW z (λU u3 z=>bf (aW z (λU z0 z=>bf (aW z (λok v3 z=>?_) λU U z=>z)) λU U z=>z)) λU U z=>z)
  cases ok with
  | false=>exact bg ⟨rfl,z⟩
  | true=>exact bf (bf (aW z (λx X4 z=>bf (aW z (λU s6 z=>bg (bg ⟨rfl,z⟩)) λU U z=>z)) λU U z=>z))
section
variable {W:Wd}{fm:Fm}{n:Nat}
theorem Hf {elt iter:Expr}{tg:Expr}{pos:Pos}{ifs:List Expr}{scope:Scope}{sc:List (Str × NameKind × Nat)}{js:List Nat}{gt:PV->M Unit}{mi:M (Nat->M (Option PV))}{mc:List (M Bool)}{me:M PV}(hh:fm.hdl=none)(ci:Ci fm.sc scope sc js)(hx:∀ fm':Fm,fm'.sc=sc->fm'.hdl=none->SimG W n fm' tg gt)
  (hi:SimI W n fm iter mi) (hc:∀ fm':Fm,fm'.sc=sc->fm'.hdl=none->All2 (SimB W n fm') ifs mc) (he:∀ fm':Fm,fm'.sc=sc->fm'.hdl=none->SimE W n fm' elt me) (hs:∀ env x,foldedSetIterable iter env x=pure x) (K:Nat) {A:Around} {V:List Addr} {ps:PS} {s:Shared} (Cx:Ctx W fm n A) (I0:InvS W fm V ps s) (ns:(ac mi λget=>aF js (aw get gt (AG .And mc) me K 0 [])) ps≠.stuck) {use:Option (Value->Sem Unit)} {Q E:Value->Shared->Prop}
  (hE:∀ x s',ExE W fm V s.heap ((ac mi λget=>aF js (aw get gt (AG .And mc) me K 0 [])) ps) x s'->E x s')
  (fin:∀ (β:List Addr) (ps':PS) (i:Nat) (D C:Addr) (s':Shared),(ac mi λget=>aF js (aw get gt (AG .And mc) me K 0 [])) ps = .ok (.lst i) ps'->s.heap.get? C=none->(∃ m,s'.heap.Ns C m)->InvS W (fm.more C) β ps' s'->Grow V β s.heap->Rel fm.stk fm.tab V s.heap s'.heap->β[i]? = some D->compPost W.m A E use Q (.ref D) C (.ok .next) s') {p0:Pos} :
  wpAny W.m A (comprehension (.ListComp elt [⟨tg,iter,ifs,0⟩] scope pos) scope fm.env p0 (newList []) false (eval iter fm.env) use) Q E s:=by
 have hA:A.handled=none:=Cx.hdl.trans hh
 refine wpAny_comprehension_free (cl:=HM fm.env.cells scope.names []) rfl (hs _) (HN (ci.cells I0)) ci.kind ci.names ?_
 refine aW (hi A V ps s Cx I0 (Ad ns)) (λxv c0 z=>aW z (λit z0 z=>?_) λU U z=>hE _ _ z.bind) λU U z=>hE _ _ z.bind
 obtain ⟨get,Z1,Y0,It,St,W1,rfl,I,W0,X0,freshI,nav,itk,st⟩:=z
 rw [Ab W1] at ns
 refine wpAny_newObj_type (wpAny_newFunctionEnv ci.noCell (by intro y hy;simp at hy) (λh₁ o7 z6=>?_) ci.kind)
 dsimp only at o7 z6 ⊢
 generalize hH2:z0.heap.push { cls:=.type "list",dict:=none,data:=.seq ([]:List Value).toArray } = H2 at o7 z6 ⊢
 have hC:H2.objs.size=z0.heap.objs.size+1:=by rw [<- hH2,Heap.size_push]
 have hDC:z0.heap.objs.size≠H2.objs.size:=by rw [hC];exact Nat.ne_of_lt (bp _)
 have below:∀ b,b<z0.heap.objs.size->b≠H2.objs.size:=λb hb=>by rw [hC];exact Nat.ne_of_lt (Nat.lt_succ_of_lt hb)
 have old:∀ b o,z0.heap.get? b=some o->h₁.get? b=some o:=λb o e=>z6.extBut b o (below b (lt_size e)) (get?_push_of_some _ (hH2▸get?_push_of_some _ e))
 have hacc:h₁.PlainList z0.heap.objs.size ([]:List Value).toArray:=⟨0,z6.extBut _ _ hDC (get?_push_of_some _ (hH2▸get?_push_size _ rfl))⟩
 have nD:z0.heap.get? z0.heap.objs.size=none:=Az _
 have nC:z0.heap.get? H2.objs.size=none:=Heap.get?_none_of_le (by rw [hC];exact Nat.le_succ _)
 have hs0:=I.none
 have FC:FmOk W.h₀ (AE fm scope sc z0.heap.objs.size H2.objs.size):=Oy ci Cx.fm I (hs0 _ nD) (hs0 _ nC)
 have CC:Ctx W (AE fm scope sc z0.heap.objs.size H2.objs.size) n A:=⟨Cx.frames,Cx.depth,Cx.units,Cx.hdl,Cx.tab,FC,Cx.hd⟩
 have I1:InvS W (AE fm scope sc z0.heap.objs.size H2.objs.size) Y0 ⟨λi=>if i∈js then none else Z1.loc i,Z1.st⟩ { z0 with heap:=h₁,toks:=z0.toks+([]:List (Str × Value)).length }:=
  L0 ci Cx.fm I nD nC old (by simpa using o7) (by obtain ⟨o,e⟩:=hacc;rw [e];rfl)
 obtain ⟨rv,rs,eR,eS⟩:=Qj ns
 obtain ⟨oI,vsI,eI,dI,cI⟩:=itk.flds _ _ st
 have ItD:It≠z0.heap.objs.size:=λq=>by rw [q,nD] at eI;cases eI
 have ItC':It≠H2.objs.size:=λq=>by rw [q,nC] at eI;cases eI
 have navC:It∉(AE fm scope sc z0.heap.objs.size H2.objs.size).av:=λm=>by
  rcases mem_cons.mp m with q | q
  ·exact ItD q
  ·rcases mem_cons.mp q with q | q
   ·exact ItC' q
   ·exact nav q
 have mC:H2.objs.size∈(AE fm scope sc z0.heap.objs.size H2.objs.size).av:=mem_cons_of_mem _ (mem_cons_self ..)
 have mD:z0.heap.objs.size∈(AE fm scope sc z0.heap.objs.size H2.objs.size).av:=mem_cons_self ..
 have Dfr:z0.heap.objs.size∉frs fm.stk:=λm=>Bi I nD (Cx.fm.frsAv _ m)
 have Dtab:z0.heap.objs.size∉fm.tab:=λm=>Bi I nD (Cx.fm.tabAv _ m)
 -- the heap less the walker
 have T0:Turn0 fm.stk [It] z0.heap (cutH z0.heap [It]):=Turn0.one I.inv.frames ⟨oI,vsI,eI,dI,cI⟩ λb o q e=>by rw [M7 (by simpa using q)];exact e
 have IB:InvS W fm Y0 Z1 { z0 with heap:=cutH z0.heap [It] }:=⟨I.inv.turn0 Cx.fm T0 (λb m q=>absurd q (by rw [mem_singleton.mp m];exact nav)) (λb m=>by rw [mem_singleton.mp m];exact I0.none _ freshI),I.gens,I.os⟩
 have cutI:(cutH z0.heap [It]).get? It=none:=P6 (mem_singleton_self _)
 have cutN:∀ b,z0.heap.get? b=none->(cutH z0.heap [It]).get? b=none:=λb e=>by
  cases q:(cutH z0.heap [It]).get? b with
  | none=>rfl
  | some o=>rw [H7 _ _ _ _ q] at e;cases e
 have xB:Rel fm.stk fm.tab V s.heap (cutH z0.heap [It]):=X0.turn0 T0 λb m=>by rw [mem_singleton.mp m];exact freshI
 have stays:∀ b o,(cutH z0.heap [It]).get? b=some o->z0.heap.get? b=some o:=λb o e=>H7 _ _ _ _ e
 generalize z0.heap.objs.size=D at *
 generalize H2.objs.size=C at *
 generalize cutH z0.heap [It]=B at *
 have loop:∀ v3:Shared,v3 = { z0 with heap:=h₁,toks:=z0.toks+([]:List (Str × Value)).length } ->
   codeAny W.m A (.compLoop (.ListComp elt [⟨tg,iter,ifs,0⟩] scope pos) 0 (.ref It) (.ref D) (compEnvC scope (HM fm.env.cells scope.names []) C fm.env))
    (compPost W.m A E use Q (.ref D) C) v3:=by
  rintro v3 rfl
  have fin2:∀ (α':List Addr) (acc:List PV) (vs:List Value) (ps':PS) (s':Shared),ao acc ps' = .ok rv rs->InvS W (AE fm scope sc D C) α' ps' s'->Grow Y0 α' B->Rel fm.stk fm.tab Y0 B s'.heap->s'.heap.PlainList D vs.toArray->RepL W.H W.h₀ (AE fm scope sc D C).av α' s'.heap acc vs->compPost W.m A E use Q (.ref D) C (.ok .next) s':=λα' acc vs ps' s' eq J g R hl rl=>by
   unfold ao at eq
   split at eq
   ·cases eq
    obtain ⟨mL,nL,_⟩:=J.inv.loc
    obtain ⟨K1,K2,K3⟩:=Ky Cx.fm IB (cutN _ nD) (cutN _ nC) hDC J g R hl rl
    exact fin _ _ _ _ _ _ ((Ab W1).trans eS) (xB.live C (cutN _ nC)) ⟨mL,nL⟩ K1 (W0.trans K2 xB) (xB.trans R W0.new) K3
   ·cases eq
  generalize compPost W.m A E use Q (.ref D) C=RR at fin2 ⊢
  obtain ⟨CI,mkI,elI⟩:∃ CI:Nat->Shared->Prop,(∀ k s,CompI W fm (AE fm scope sc D C) Y0 B D St (λk i acc ps=>aw get gt (AG .And mc) me k i acc ps = .ok rv rs) k s->CI k s)/\(∀ k s,CI k s->CompI W fm (AE fm scope sc D C) Y0 B D St (λk i acc ps=>aw get gt (AG .And mc) me k i acc ps = .ok rv rs) k s):=⟨_,λU U h=>h,λU U h=>h⟩
  refine Mk CI ?_ K (mkI _ _
   ⟨0,_,Y0,[],[],eR,I1,.refl ..,.of_keeps λb o e=>old b o (stays b o e),hacc,.nil,itk.stay _ _ _ st λo e=>old _ o e⟩)
  intro k s' hi
  unfold QQ
  dsimp only
  generalize notedBy _ _ _ _=EE
  obtain ⟨i,ps',α',acc,vs,e',I',g',x',hl',rl',st'⟩:=elI _ _ hi
  clear hi elI
  cases k with
  | zero=>
   have e':aw get gt (AG .And mc) me 0 i acc ps' = .ok rv rs:=e'
   cases e'
  | succ k=>
   have eq:ac (get i) (λo=>match o with
    | none=>ao acc
    | some p=>ac (gt p) λU=>ac (AG .And mc) λc=>if c then ac me λv=>ak (acc.length+1<=big) (aw get gt (AG .And mc) me k (i+1) (acc++[v])) else aw get gt (AG .And mc) me k (i+1) acc) ps' = .ok rv rs:=e'
   have nns:∀ {r:R PV},r = .ok rv rs->r≠.stuck:=λe q=>by rw [q] at e;cases e
   have ItC:=itk.to (AE fm scope sc D C)
   have Dα:∀ {β ps s},InvS W (AE fm scope sc D C) β ps s->D∉β:=λJ m=>J.inv.lists.apart _ m mD
   refine ItC.next (AE fm scope sc D C) A α' ps' s' i _ _ hA g'.pre FC I' st' (Ad (nns eq)) λo r h2 tk eo kk rr=>?_
   rw [Ab eo] at eq
   obtain ⟨oJ,vsJ,eJ,dJ,cJ⟩:=itk.flds _ _ st'
   have T1:Turn0 fm.stk [It] s'.heap h2:=Turn0.one I'.inv.frames ⟨oJ,vsJ,eJ,dJ,cJ⟩ kk
   have J:InvS W (AE fm scope sc D C) α' ps' { s' with heap:=h2,toks:=tk }:=ItC.turned FC I' st' navC (I0.none _ freshI) kk
   have x1:Rel fm.stk fm.tab Y0 (B) h2:=x'.turn0 T1 λb m=>by rw [mem_singleton.mp m];exact cutI
   have hl1:h2.PlainList D vs.toArray:=by
    obtain ⟨oD,e⟩:=hl'
    exact ⟨oD,kk _ _ (Ne.symm ItD) e⟩
   have rl1:RepL W.H W.h₀ (AE fm scope sc D C).av α' h2 acc vs:=RepL.turn (fm:=AE fm scope sc D C) T1 FC.frsAv rl'
   cases o with
   | none=>
    cases r with
    | some _=>exact rr.elim
    | none=>
    exact fin2 _ _ _ _ _ eq J g' x1 hl1 rl1
   | some p=>
    cases r with
    | none=>exact rr.elim
    | some v=>
    obtain ⟨rp,st2⟩:=rr
    have eq:ac (gt p) (λU=>ac (AG .And mc) λc=>if c then ac me λv=>ak (acc.length+1<=big) (aw get gt (AG .And mc) me k (i+1) (acc++[v])) else aw get gt (AG .And mc) me k (i+1) acc) ps' = .ok rv rs:=eq
    obtain ⟨oN,vsN,eN,dN,cN,hcN,hwN⟩:=ItC.flds _ _ st2
    refine H8 (s:={ s' with heap:=h2,toks:=tk }) eN dN hcN hwN ?_
    refine aW (hx _ rfl (Cx.hdl▸hA) A α' ps' _ p v CC J rp (Ad (nns eq))) (λU s3 z=>?_) λU U z=>z.elim
    obtain ⟨ps3,e3,J3,R3⟩:=z
    rw [Ab e3] at eq
    have x3:Rel fm.stk fm.tab Y0 (B) s3.heap:=x1.fresh R3 g'.new λa m=>by
     rcases mem_append.mp m with m | m
     ·exact .inl m
     ·rw [mem_singleton.mp m];exact .inr (cutN _ nC)
    have hl3:=Ew R3 hl1 Dfr (λm=>by
     rcases mem_append.mp m with m | m
     ·exact Dtab m
     ·exact hDC (mem_singleton.mp m)) (Dα J)
    have rl3:=RepL.stays J.inv.lists R3 (prefix_refl _) FC.frsAv FC.ownAv rl1
    have st3:St (i+1) s3.heap:=ItC.kept FC J st2 navC (λU q=>q) R3
    have bad:∀ {β:Type} {x:Value} {s} {r:R β},ExE W (AE fm scope sc D C) α' s3.heap r x s->(∀ e q,r≠.ex e q)->False:=λq n=>by
     obtain ⟨e,ps,V,er,_⟩:=q
     exact n e ps er
    refine aW (Qi (hc _ rfl (Cx.hdl▸hA)) A α' _ s3 CC J3 (Ad (nns eq))) (λc s4 z=>?_) λy s4 z=>(bad z λe q er=>by rw [Gp er] at eq;cases eq).elim
    obtain ⟨ps4,α4,e4,J4,g4,R4⟩:=z
    rw [Ab e4] at eq
    have x4:=x3.trans R4 g'.new
    have g4':=g'.trans g4 x3
    have hl4:=Ew R4 hl3 Dfr Dtab (Dα J3)
    have rl4:=J3.staysL CC R4 g4 rl3
    have st4:St (i+1) s4.heap:=ItC.kept FC J3 st3 navC (λU q=>mem_append_left _ q) R4
    cases c with
    | false=>
     simp only [false_eq_true,if_false] at eq ⊢
     exact ⟨k,bp k,mkI _ _ ⟨i+1,ps4,α4,acc,vs,eq,J4,g4',x4,hl4,rl4,st4⟩⟩
    | true=>
     simp only [if_true] at eq ⊢
     have bad:∀ {β:Type} {x:Value} {s} {r:R β},ExE W (AE fm scope sc D C) α4 s4.heap r x s->(∀ e q,r≠.ex e q)->False:=λq n=>by
      obtain ⟨e,ps,V,er,_⟩:=q
      exact n e ps er
     refine aW (he _ rfl (Cx.hdl▸hA) A α4 ps4 s4 CC J4 (Ad (nns eq))) (λy s5 z=>?_) λy s5 z=>(bad z λe q er=>by rw [Gp er] at eq;cases eq).elim
     obtain ⟨q,ps5,α5,e5,J5,g5,R5,rq⟩:=z
     rw [Ab e5] at eq
     have x5:=x4.trans R5 g4'.new
     have g5':=g4'.trans g5 x4
     have hl5:=Ew R5 hl4 Dfr Dtab (Dα J4)
     have rl5:=J4.staysL CC R5 g5 rl4
     have st5:St (i+1) s5.heap:=ItC.kept FC J4 st4 navC (λU q=>mem_append_left _ q) R5
     obtain ⟨hb,eb⟩:=Ak (nns eq)
     rw [eb] at eq
     rw [decide_eq_true_eq] at hb
     refine wpAny_list_append_plain hl5 (λh6 hl6 S6=>?_) (by rw [size_toArray,<- rl5.length,<- Bd];lia)
     have hα5:∀ b∈α5,b≠D:=λb m z=>Dα J5 (z▸m)
     obtain ⟨o6,eo6,_,k6,d6⟩:=hl6.isList
     have J6:InvS W (AE fm scope sc D C) α5 ps5 { s5 with heap:=h6 }:=J5.poke (tk:=s5.toks) FC mD hDC (λv hv=>by
      obtain ⟨oc,e1,e2⟩:=hv
      obtain ⟨od,e3,_,kd,d3⟩:=hl5.isList
      rw [e3] at e1;cases e1;rw [d3] at e2;cases e2) (λo vs e q=>by
      obtain ⟨od,e3,_,kd,d3⟩:=hl5.isList
      rw [e3] at e;cases e;rw [d3] at q;cases q) S6 eo6 (λvs q=>by rw [d6] at q;cases q)
     have live6:(h6.get? D).isSome=true:=by rw [eo6];rfl
     have R6:Rel fm.stk [D] α5 s5.heap h6:=SameBut.rel S6 live6 (mem_singleton_self _) _ _
     have x6:Rel fm.stk fm.tab Y0 (B) h6:=x5.fresh R6 g5'.new λa m=>by rw [mem_singleton.mp m];exact .inr (cutN _ nD)
     refine ⟨k,bp k,mkI _ _ ⟨i+1,ps5,α5,acc++[q],vs++[y],eq,J6,g5',x6,by simpa using hl6,?_,itk.stay _ _ _ st5 λo e=>(S6.2 It ItD).trans e⟩⟩
     exact RepL.append (RepL.same S6 mD hα5 rl5) (.cons (RepV.same S6 mD hα5 rq) .nil)
 exact codeAny_compStart_list (loop _ rfl) (itk.self A _ 0 _ _ (itk.stay _ _ _ st λo e=>old _ o e) (loop _ rfl))
variable {V β:List Addr}{A:Around}{ps ps':PS}{s s' s'':Shared}{h':Heap}{C D:Addr}
theorem ED {elt iter:Expr}{tg:Expr}{pos:Pos}{ifs:List Expr}{scope:Scope}{sc:List (Str × NameKind × Nat)}{js:List Nat}{gt:PV->M Unit}{mi:M (Nat->M (Option PV))}{mc:List (M Bool)}{me:M PV}(hh:fm.hdl=none)(ci:Ci fm.sc scope sc js)(hx:∀ fm':Fm,fm'.sc=sc->fm'.hdl=none->SimG W n fm' tg gt)
  (hi:SimI W n fm iter mi) (hc:∀ fm':Fm,fm'.sc=sc->fm'.hdl=none->All2 (SimB W n fm') ifs mc) (he:∀ fm':Fm,fm'.sc=sc->fm'.hdl=none->SimE W n fm' elt me) (hs:∀ env x,foldedSetIterable iter env x=pure x) (K:Nat) :
  SimU W n fm (.ListComp elt [⟨tg,iter,ifs,0⟩] scope pos) (ac mi λget=>aF js (aw get gt (AG .And mc) me K 0 [])) where
 toE:=.mk λA V ps s Cx I0 ns=>by
  unfold Ai
  rw [eval_ListComp]
  refine Hf hh ci hx hi hc he hs K Cx I0 ns (λU U z=>z) λβ ps' i D C s' e nC hm J g R hi=>?_
  obtain ⟨m,hm⟩:=hm
  obtain ⟨f1,f2⟩:=QP hm
  have nav:C∉fm.av:=Bi I0 nC
  refine ⟨m,hm,λh' S=>?_⟩
  refine ⟨.lst i,ps',β,e,J.shed Cx.fm (I0.none _ nC) nav f1 f2 S,g,?_,.lst hi⟩
  have CH:∀ b o,s.heap.get? b=some o->b≠C:=λb o e q=>by rw [q,nC] at e;cases e
  exact ⟨λb o e m1 m2 m3=>(S.2 b (CH b o e)).trans (R.keep b o e m1 m2 m3),λb o e m1 m2 m3=>by
   obtain ⟨sl,e'⟩:=R.slot b o e m1 m2 m3
   exact ⟨sl,(S.2 b (CH b o e)).trans e'⟩,λb e=>by
   by_cases q:b=C
   ·rw [q];exact nC
   ·exact R.live b ((S.2 b q).symm.trans e)⟩
 sw:=λx p l env=>⟨_,rfl⟩
 us:=λA V ps s Cx I0 ns {u Q E} hE fin=>by
  show wpAny W.m A (do let _ <- comprehension (.ListComp elt [⟨tg,iter,ifs,0⟩] scope pos) scope fm.env iter.pos (newList []) false (eval iter fm.env) (some u)) Q E s
  refine bf (aW (Hf hh ci hx hi hc he hs K (Q:=λU s'=>Q () s') Cx I0 ns hE λβ ps' i D C s' e nC hm J g R hi=>?_) (λU U q=>bg q) λU U q=>q)
  exact fin β ps' i D C s' e nC hm J g R hi
end
section
variable {W:Wd}{fm:Fm}{V α' α₁:List Addr}{h h':Heap}{n:Nat}{A:Around}{ps ps':PS}{s s':Shared}
end
section
variable {W:Wd}{fm:Fm}{n:Nat}
end
section
variable {W:Wd}{fm:Fm}{V:List Addr}{n:Nat}{A:Around}{ps:PS}{s:Shared}{x:Str}{t:Txt}
def eqB (a b:PV):M Bool:=λs=>match toD s.st 20000000 a,toD s.st 20000000 b with
 | some x,some y=>if SeqAt.shaped x&&SeqAt.shaped y then .ok (PyData.eqv x y) s else .stuck
 | _,_=>.stuck
def neB (a b:PV):M PV:=ac (eqB a b) λr=>ae (.bool !r)
theorem QR {a b:PV}(ns:eqB a b ps≠.stuck):∃ x y,eqB a b ps = .ok (PyData.eqv x y) ps/\toD ps.st 20000000 a=some x/\toD ps.st 20000000 b=some y/\SeqAt.shaped x=true/\SeqAt.shaped y=true:=by
 unfold eqB at ns ⊢
 cases ex:toD ps.st 20000000 a with
 | none=>rw [ex] at ns;exact absurd rfl ns
 | some x=>
  cases ey:toD ps.st 20000000 b with
  | none=>rw [ex,ey] at ns;exact absurd rfl ns
  | some y=>
   rw [ex,ey] at ns
   by_cases q:(SeqAt.shaped x&&SeqAt.shaped y)=true
   ·have q':=and_eq_true_iff.mp q
    exact ⟨x,y,by simp only [q,if_true],rfl,rfl,q'.1,q'.2⟩
   ·simp only [q,if_false] at ns;exact absurd rfl ns
theorem UC {a b:PV}{va vb:Value}(C:Ctx W fm n A)(I:InvS W fm V ps s)(ra:W.rep fm V s.heap a va)(rb:W.rep fm V s.heap b vb)(ns:neB a b ps≠.stuck):Ai W fm A V ps s (compareOp .NotEq va vb) (neB a b):=by
 obtain ⟨x,y,e,ex,ey,sx,sy⟩:=QR (Ad ns)
 obtain ⟨as,x1⟩:=Cj I.inv.lists _ _ _ _ ex ra
 obtain ⟨bs,x2⟩:=Cj I.inv.lists _ _ _ _ ey rb
 unfold Ai
 rw [show neB a b ps = .ok (.bool !(PyData.eqv x y)) ps from Ab e]
 exact SeqAt.compareNe_shaped x1 x2 sx sy C.u64 (.same' I (.bool _))
theorem cmL {l r:Expr}{pos:Pos}{ml mr:M PV}(h:Me r=false)(hl:SimE W n fm l ml)(hr:SimE W n fm r mr) :
  SimB W n fm (.Compare l [.NotEq] [r] pos) (ac ml λa=>ac mr λb=>ac (neB a b) tst):=.mk λA V ps s C I ns=>by
 refine wpAny_isTrue_Compare1 (Ai.seq (hl A V ps s C I (Ad ns)) (λa va α₁ o0 c0 u0 l0 s0 ra y0=>?_) λx c0 q=>q.bind) (DL h)
 rw [Ab y0] at ns ⊢
 refine Ai.seq (hr A α₁ o0 c0 C u0 (Ad ns)) (λb vb Y0 Z1 z0 Y1 W0 X0 rb W1=>?_) λx c0 q=>q.bind.after l0 s0
 rw [Ab W1] at ns ⊢
 refine Ai.seq (UC C Y1 (u0.stays C X0 W0 ra) rb (Ad ns)) (λc vc W4 w4 v3 Y2 W3 i4 rc Z3=>?_) λx c0 q=>(q.bind.after W0 X0).after l0 s0
 rw [Ab Z3] at ns ⊢
 exact aW (D2 Y2 rc ns) (λU U q=>((q.after W3 i4).after W0 X0).after l0 s0) (λU U q=>q)
def eqL (a b:PV):M PV:=ac (eqB a b) λr=>ae (.bool r)
theorem UD {a b:PV}{va vb:Value}(C:Ctx W fm n A)(I:InvS W fm V ps s)(ra:W.rep fm V s.heap a va)(rb:W.rep fm V s.heap b vb)(ns:eqL a b ps≠.stuck):Ai W fm A V ps s (compareOp .Eq va vb) (eqL a b):=by
 obtain ⟨x,y,e,ex,ey,sx,sy⟩:=QR (Ad ns)
 obtain ⟨as,x1⟩:=Cj I.inv.lists _ _ _ _ ex ra
 obtain ⟨bs,x2⟩:=Cj I.inv.lists _ _ _ _ ey rb
 unfold Ai
 rw [show eqL a b ps = .ok (.bool (PyData.eqv x y)) ps from Ab e]
 exact SeqAt.compareEq_shaped x1 x2 sx sy C.u64 (.same' I (.bool _))
theorem cmE {l r:Expr}{pos:Pos}{ml mr:M PV}(h:Me r=false)(hl:SimE W n fm l ml)(hr:SimE W n fm r mr) :
  SimB W n fm (.Compare l [.Eq] [r] pos) (ac ml λa=>ac mr λb=>ac (eqL a b) tst):=.mk λA V ps s C I ns=>by
 refine wpAny_isTrue_Compare1 (Ai.seq (hl A V ps s C I (Ad ns)) (λa va α₁ o0 c0 u0 l0 s0 ra y0=>?_) λx c0 q=>q.bind) (DL h)
 rw [Ab y0] at ns ⊢
 refine Ai.seq (hr A α₁ o0 c0 C u0 (Ad ns)) (λb vb Y0 Z1 z0 Y1 W0 X0 rb W1=>?_) λx c0 q=>q.bind.after l0 s0
 rw [Ab W1] at ns ⊢
 refine Ai.seq (UD C Y1 (u0.stays C X0 W0 ra) rb (Ad ns)) (λc vc W4 w4 v3 Y2 W3 i4 rc Z3=>?_) λx c0 q=>(q.bind.after W0 X0).after l0 s0
 rw [Ab Z3] at ns ⊢
 exact aW (D2 Y2 rc ns) (λU U q=>((q.after W3 i4).after W0 X0).after l0 s0) (λU U q=>q)
theorem Jf {y:Str}{k:NameKind}{i:Nat}{p pos:Pos}{v:Expr}{m:M PV}(hm:(y,k,i)∈fm.sc)(hk:k = .local\/k = .cell)(hv:SimEx W n fm x t v m)(hs:∀ env,swapsWith v (some (.Name y p)) pos.line env=pure false) :
  SimSx W n fm x t [.Assign [.Name y p] v pos] (ac m λa=>ac (ah i a) λU=>ae .next):=.mk λA V ps s C I X ns=>by
 refine wpAny_execs_cons (wpAny_Assign_Name (Ai.seq (hv A V ps s C I X (Ad ns)) (λa va α₁ o0 c0 u0 l0 s0 ra y0=>?_) λx c0 q=>q.toS.bind) (hs _))
 rw [Ab y0]
 refine EV C u0 hm hk ra λs' I' R'=>?_
 exact wpAny_execs_nil (OkS.after ⟨.next,_,α₁,rfl,I',.refl ..,R',.next⟩ l0 s0.up)
end
section
variable {W:Wd}{fm:Fm}{n i:Nat}{x:Str}{np pos:Pos}{es:List Expr}{ms:List (M PV)}{sc:List (Str × NameKind × Nat)}
theorem fq {fi:Fi}{a:Nat}{mm:M PFlow}(F:Dt W x fi ms.length [] [])(ok:fi.Ok)(h:fm.sc=sc)(j:Nat)(q:sc[j]? = some (x,.globalImplicit,i))(A:SimL W (n+1) fm es ms)(hh:fm.hdl=none)(s:∀ {fm':Fm},fm'.sc=fi.sc->fm'.env.scope=fi.scope->fm'.hdl=none->SimS W a fm' fi.body mm)(c:a<=n:=by lia)(d:(x==("__debug__":Str))=false:=by decide +kernel) :
  SimE W (n+1) fm (.Call (.Name x np) es [] pos) (ac (ag ms) (am mm)):=G9 F ok (scm h j q) d A λfm' hs he hd=>(s hs he (hd.trans hh)).up c
end
section
variable {W:Wd}{fm:Fm}{V:List Addr}{n:Nat}{A:Around}{ps:PS}{s:Shared}
def Kz (i:Nat)(l:List PV):M PV:=match l.getLast? with
 | some x=>ak (decide (l.length<=big)) (ac (aI i l.dropLast) λU=>ae x)
 | none=>aq
def SS (v:PV)(l:List PV):M PV:=match v,l with
 | .lst i,[]=>ac (ar i) (Kz i)
 | _,_=>aq
theorem QS:MethAt "list" "list.pop" "pop":=⟨by first | exact PySem.F.plainAttrs_list | exact F.plainAttrs_list,PySem.F.slot_list_pop,PySem.F.type_list_pop⟩
theorem UE:OpMeth W n fm C2 "list.pop" SS:=.mk λA V ps s p v l vs C I hK r rl ns=>by
 obtain ⟨i,rfl⟩:=L1 hK
 cases l with
 | cons x l=>exact absurd rfl ns
 | nil=>
  obtain rfl:vs=[]:=by cases rl;rfl
  have ns':ac (ar i) (Kz i) ps≠.stuck:=ns
  obtain ⟨l,e1,e2⟩:=Bh (Ad ns')
  rw [Ab e2] at ns'
  unfold Kz at ns'
  cases ex:l.getLast? with
  | none=>rw [ex] at ns';exact absurd rfl ns'
  | some x=>
   rw [ex] at ns'
   obtain ⟨c,e3⟩:=Ak ns'
   rw [decide_eq_true_eq] at c
   have e4:aI i l.dropLast ps = .ok () { ps with st:=ps.st.set i l.dropLast }:=by
    unfold aI;rw [if_pos (by rw [List.length_dropLast];lia)]
   have e5:SS (.lst i) [] ps = .ok x { ps with st:=ps.st.set i l.dropLast }:=by
    show ac (ar i) (Kz i) ps=_
    rw [Ab e2]
    unfold Kz
    rw [ex]
    exact e3.trans (Ab e4)
   obtain ⟨a,ws,rfl,hi,hl,rw'⟩:=M2 I r e1
   obtain ⟨l',rfl⟩:∃ l',l=l'++[x]:=⟨l.dropLast,by
    obtain ⟨ys,h⟩:=List.getLast?_eq_some_iff.mp ex
    rw [h,List.dropLast_concat]⟩
   obtain ⟨us,vx,rfl,ru,rx⟩:∃ us vx,ws=us++[vx]/\RepL W.H W.h₀ fm.av V s.heap l' us/\W.rep fm V s.heap x vx:=by
    have h1:=rw'.take l'.length
    have h2:=rw'.drop l'.length
    rw [List.take_left' rfl] at h1
    rw [List.drop_left' rfl] at h2
    have e:=take_append_drop l'.length ws
    cases q:ws.drop l'.length with
    | nil=>rw [q] at h2;have:=h2.length;cases this
    | cons v r=>
     rw [q] at h2 e
     obtain ⟨p,l2,e2,r1,r2⟩:=h2.inv'
     cases e2
     have:=r2.length
     obtain rfl:r=[]:=eq_nil_of_length_eq_zero this.symm
     exact ⟨_,v,e.symm,h1,r1⟩
   unfold Ai
   rw [e5]
   obtain ⟨k,ho⟩:=id hl
   have len:=ru.length
   refine Copied.pop_at ho (y:=vx) (by simp) (λh' S ho'=>?_) (by rw [size_toArray,length_append,<- len,<- Bd];rw [length_append] at c;exact c)
   rw [List.dropLast_concat]
   obtain ⟨J,R⟩:=I.setLst (l:=l') (ws:=us) (tk:=s.toks) C.fm hi hl S ⟨k+1,by simpa using ho'⟩ ru
   exact ⟨x,_,V,rfl,J,.refl ..,R,rx.butL S ⟨_,hl.isList⟩⟩
end
end Mi
end
section
open PySem PySem.W PyProof.Rows
set_option maxRecDepth 100000
set_option maxHeartbeats 2000000
namespace Mi
open PySem.Challenge
def nth (i:Nat):Stmt:=pw_kp0046_04.main.body.getD i (.Pass default)
def Cn:Fi:={ scope:=AP (nth 28),body:=AO (nth 28),params:=["k"],sc:=[(("k":Str),.local,0),(("first":Str),.local,1),(("chr":Str),.globalImplicit,2)] }
theorem FY:Cn.Ok:=.of (by decide +kernel)
def Co:Fi:={ scope:=AP (nth 29),body:=AO (nth 29),params:=["y"],sc:=[(("y":Str),.local,0),(("signs":Str),.local,1),(("_law_sign":Str),.globalImplicit,2),(("len":Str),.globalImplicit,3)] }
theorem KA:Co.Ok:=.of (by decide +kernel)
def BZ:Fi:={ scope:=AP (nth 30),body:=AO (nth 30),params:=["sign"],sc:=[(("sign":Str),.local,0),(("ord":Str),.globalImplicit,1)] }
theorem E3:BZ.Ok:=.of (by decide +kernel)
def CE:Fi:={ scope:=AP (nth 31),body:=AO (nth 31),params:=["sign", "way"],sc:=[(("sign":Str),.local,0),(("way":Str),.local,1),(("short":Str),.local,2),(("n":Str),.local,3),(("size":Str),.local,4),(("row":Str),.local,5),(("k":Str),.local,6),(("ord":Str),.globalImplicit,7),(("_law_plain":Str),.globalImplicit,8),(("range":Str),.globalImplicit,9)] }
theorem Ml:CE.Ok:=.of (by decide +kernel)
def B0:Fi:={ scope:=AP (nth 32),body:=AO (nth 32),params:=["text", "way"],sc:=[(("text":Str),.cell,0),(("way":Str),.cell,1),(("len":Str),.globalImplicit,2),(("list":Str),.globalImplicit,3),(("range":Str),.globalImplicit,4)] }
theorem Jg:B0.Ok:=.of (by decide +kernel)
def Aw:Fi:={ scope:=AP (nth 33),body:=AO (nth 33),params:=["row", "way", "left", "bad"],sc:=[(("row":Str),.local,0),(("way":Str),.local,1),(("left":Str),.local,2),(("bad":Str),.local,3),(("whole":Str),.local,4),(("due":Str),.local,5),(("k":Str),.local,6),(("gap":Str),.local,7),(("part":Str),.local,8),(("told":Str),.local,9),(("units":Str),.local,10),(("at":Str),.local,11),(("lines":Str),.local,12),(("shown":Str),.local,13),(("range":Str),.globalImplicit,14),(("len":Str),.globalImplicit,15),(("_law_folded":Str),.globalImplicit,16),(("_law_units":Str),.globalImplicit,17),(("str":Str),.globalImplicit,18),(("chr":Str),.globalImplicit,19)] }
theorem Ei:Aw.Ok:=.of (by decide +kernel)
def BM:Fi:={ scope:=AP (nth 18),body:=AO (nth 18),params:=["src", "pos", "expect", "error_on", "error_on_eof"],sc:=[(("src":Str),.local,0),(("pos":Str),.local,1),(("expect":Str),.local,2),(("error_on":Str),.local,3),(("error_on_eof":Str),.local,4),(("new_pos":Str),.local,5),(("ValueError":Str),.globalImplicit,6),(("len":Str),.globalImplicit,7),(("suffixed_err":Str),.globalImplicit,8)] }
theorem HU:BM.Ok:=.of (by decide +kernel)
def A0:Fi:={ scope:=AP (nth 23),body:=AO (nth 23),params:=["src", "pos"],sc:=[(("src":Str),.local,0),(("pos":Str),.local,1),(("start_pos":Str),.local,2),(("skip_until":Str),.globalImplicit,3),(("ILLEGAL_LITERAL_STR_CHARS":Str),.globalImplicit,4)] }
theorem DO:A0.Ok:=.of (by decide +kernel)
def HV:Fi:={ scope:=AP (nth 17),body:=AO (nth 17),params:=["src", "pos", "chars"],sc:=[(("src":Str),.local,0),(("pos":Str),.local,1),(("chars":Str),.local,2),(("IndexError":Str),.globalImplicit,3)] }
def AF:Fi:={ scope:=AP (nth 26),body:=AO (nth 26),params:=["codepoint"],sc:=[(("codepoint":Str),.local,0)] }
theorem CF:AF.Ok:=.of (by decide +kernel)
def Bf:Fi:={ scope:=AP (nth 22),body:=AO (nth 22),params:=["src", "pos", "hex_len"],sc:=[(("src":Str),.local,0),(("pos":Str),.local,1),(("hex_len":Str),.local,2),(("hex_str":Str),.local,3),(("hex_int":Str),.local,4),(("len":Str),.globalImplicit,5),(("HEXDIGIT_CHARS":Str),.globalImplicit,6),(("suffixed_err":Str),.globalImplicit,7),(("int":Str),.globalImplicit,8),(("is_unicode_scalar_value":Str),.globalImplicit,9),(("chr":Str),.globalImplicit,10)] }
theorem CT:Bf.Ok:=.of (by decide +kernel)
def Ax:Fi:={ scope:=AP (nth 20),body:=AO (nth 20),params:=["src", "pos", "multiline"],sc:=[(("src":Str),.local,0),(("pos":Str),.local,1),(("multiline":Str),.local,2),(("escape_id":Str),.local,3),(("char":Str),.local,4),(("skip_chars":Str),.globalImplicit,5),(("TOML_WS":Str),.globalImplicit,6),(("IndexError":Str),.globalImplicit,7),(("suffixed_err":Str),.globalImplicit,8),(("TOML_WS_AND_NEWLINE":Str),.globalImplicit,9),(("parse_hex_char":Str),.globalImplicit,10),(("BASIC_STR_ESCAPE_REPLACEMENTS":Str),.globalImplicit,11),(("KeyError":Str),.globalImplicit,12)] }
theorem CM:Ax.Ok:=.of (by decide +kernel)
def A9:Fi:={ scope:=AP (nth 24),body:=AO (nth 24),params:=["src", "pos", "multiline"],sc:=[(("src":Str),.local,0),(("pos":Str),.local,1),(("multiline":Str),.local,2),(("error_on":Str),.local,3),(("parse_escapes":Str),.local,4),(("result":Str),.local,5),(("start_pos":Str),.local,6),(("char":Str),.local,7),(("parsed_escape":Str),.local,8),(("ILLEGAL_MULTILINE_BASIC_STR_CHARS":Str),.globalImplicit,9),(("parse_basic_str_escape_multiline":Str),.globalImplicit,10),(("ILLEGAL_BASIC_STR_CHARS":Str),.globalImplicit,11),(("parse_basic_str_escape":Str),.globalImplicit,12),(("IndexError":Str),.globalImplicit,13),(("suffixed_err":Str),.globalImplicit,14)] }
theorem EF:A9.Ok:=.of (by decide +kernel)
def AB:Fi:={ scope:=AP (nth 19),body:=AO (nth 19),params:=["src", "pos"],sc:=[(("src":Str),.local,0),(("pos":Str),.local,1),(("parse_basic_str":Str),.globalImplicit,2)] }
theorem Cu:AB.Ok:=.of (by decide +kernel)
def Ar:Fi:={ scope:=AP (nth 34),body:=AO (nth 34),params:=["whole"],sc:=[(("whole":Str),.local,0),(("row":Str),.local,1),(("gap":Str),.local,2),(("pos":Str),.local,3),(("part":Str),.local,4),(("len":Str),.globalImplicit,5),(("parse_literal_str":Str),.globalImplicit,6),(("parse_one_line_basic_str":Str),.globalImplicit,7),(("_law_unfolded":Str),.globalImplicit,8)] }
theorem Dx:Ar.Ok:=.of (by decide +kernel)
def Hg:Fi:={ scope:=AP (nth 35),body:=AO (nth 35),params:=["script"],sc:=[(("script":Str),.local,0),(("rows":Str),.local,1),(("total":Str),.local,2),(("texts":Str),.local,3),(("x":Str),.local,4),(("y":Str),.local,5),(("text":Str),.local,6),(("gap":Str),.local,7),(("part":Str),.local,8),(("tree":Str),.local,9),(("bad":Str),.local,10),(("way":Str),.local,11),(("left":Str),.local,12),(("whole":Str),.local,13),(("rest":Str),.local,14),(("due":Str),.local,15),(("told":Str),.local,16),(("list":Str),.globalImplicit,17),(("len":Str),.globalImplicit,18),(("_law_text":Str),.globalImplicit,19),(("max":Str),.globalImplicit,20),(("_law_folded":Str),.globalImplicit,21),(("_law_unfolded":Str),.globalImplicit,22),(("TOMLDecodeError":Str),.globalImplicit,23),(("str":Str),.globalImplicit,24)] }
theorem UF:Hg.Ok:=.of (by decide +kernel)
def Bt:Fi:={ scope:=AP (nth 25),body:=AO (nth 25),params:=["src", "pos", "msg"],sc:=FV }
theorem Gi:Bt.Ok:=.of (by decide +kernel)
def E4:Fi:={ scope:=AP ((AO (nth 25)).getD 0 (.Pass default)),body:=AO ((AO (nth 25)).getD 0 (.Pass default)),params:=["src", "pos"],sc:=[(("src":Str),.local,0),(("pos":Str),.local,1),(("line":Str),.local,2),(("column":Str),.local,3),(("len":Str),.globalImplicit,4)] }
theorem QT:E4.Ok:=.of (by decide +kernel)
structure Mod (W:Wd):Prop where
 f_law_sign:Dt W "_law_sign" Cn 1 [] []
 f_law_text:Dt W "_law_text" Co 1 [] []
 f_law_plain:Dt W "_law_plain" BZ 1 [] []
 f_law_one:Dt W "_law_one" CE 2 [] []
 f_law_units:Dt W "_law_units" B0 2 [] []
 f_law_folded:Dt W "_law_folded" Aw 4 [] []
 f_skip_until:Dt W "skip_until" BM 3 ["error_on", "error_on_eof"] []
 f_parse_literal_str:Dt W "parse_literal_str" A0 2 [] []
 f_skip_chars:Dt W "skip_chars" HV 3 [] []
 f_is_unicode_scalar_value:Dt W "is_unicode_scalar_value" AF 1 [] []
 f_parse_hex_char:Dt W "parse_hex_char" Bf 3 [] []
 f_parse_basic_str:Dt W "parse_basic_str" A9 2 ["multiline"] []
 f_parse_one_line_basic_str:Dt W "parse_one_line_basic_str" AB 2 [] []
 f_law_unfolded:Dt W "_law_unfolded" Ar 1 [] []
 s_ILLEGAL_BASIC_STR_CHARS:∃ a,W.H.mg "ILLEGAL_BASIC_STR_CHARS" = some (.ref a)/\W.H.setv 0=some a
 s_ILLEGAL_LITERAL_STR_CHARS:∃ a,W.H.mg "ILLEGAL_LITERAL_STR_CHARS" = some (.ref a)/\W.H.setv 0=some a
 s_ILLEGAL_MULTILINE_BASIC_STR_CHARS:∃ a,W.H.mg "ILLEGAL_MULTILINE_BASIC_STR_CHARS" = some (.ref a)/\W.H.setv 1=some a
 s_TOML_WS:∃ a,W.H.mg "TOML_WS" = some (.ref a)/\W.H.setv 2=some a
 s_TOML_WS_AND_NEWLINE:∃ a,W.H.mg "TOML_WS_AND_NEWLINE" = some (.ref a)/\W.H.setv 3=some a
 s_HEXDIGIT_CHARS:∃ a,W.H.mg "HEXDIGIT_CHARS" = some (.ref a)/\W.H.setv 4=some a
 mp:W.H.mg "BASIC_STR_ESCAPE_REPLACEMENTS" = some (.ref W.H.mpv)
 v_parse_basic_str_escape:W.H.mg "parse_basic_str_escape" = some (.ref (W.H.fnv 0))
 v_parse_basic_str_escape_multiline:W.H.mg "parse_basic_str_escape_multiline" = some (.ref (W.H.fnv 1))
 c_parse_basic_str_escape:∃ fd,FnAt W.h₀ (W.H.fnv 0) fd Ax/\Ee W fd Ax 2 [] [.bool false]
 suf:TV W Bt E4
 tabPos:W.H.tabPos=Ng ((AO (nth 25)).getD 0 (.Pass default))
def BN:M PFlow:=
  (aj (ac ((ac (af 1) λa=>ac ((ac (ag [af 0]) Cp)) λb=>ac (Au .GtE a b) tst)) λc=>if c then (ac (ae (.str [101,110,100,32,111,102,32,100,111,99,117,109,101,110,116])) λa=>ae (.ret a)) else (ae .next))
  (aj (ac ((ac ((ac (af 0) λa=>ak (Bo a) (ac (ag [ae (.str [10]),ae (.int 0),af 1]) (G7 a)))) λa=>ac (ae (.int 1)) λb=>Aj .Add a b)) λa=>ac (ah 2 a) λU=>ae .next)
  (aj (ac ((ac (af 2) λa=>ac (ae (.int 1)) λb=>ac (Au .Eq a b) tst)) λc=>if c then (ac ((ac (af 1) λa=>ac (ae (.int 1)) λb=>Aj .Add a b)) λa=>ac (ah 3 a) λU=>ae .next) else (ac ((ac (af 1) λa=>ac ((ac (af 0) λb=>ak (Bo b) (ac (ag [ae (.str [10]),ae (.int 0),af 1]) (E0 b)))) λb=>Aj .Sub a b)) λa=>ac (ah 3 a) λU=>ae .next))
  (ac ((ay [ae (.str [108,105,110,101,32]),(ac (af 2) Ec),ae (.str [44,32,99,111,108,117,109,110,32]),(ac (af 3) Ec)] [])) λa=>ae (.ret a)))))
theorem ST {W:Wd}{n:Nat}{fm:Fm}(hsc:fm.sc=E4.sc):SimS W n fm E4.body BN:=
  Aa (AL (cm rfl (sv hsc 1 rfl) (cb hsc 4 rfl (sl rfl (sv hsc 0 rfl) .nil) Be)) (Af (AA ss)) AJ)
  (Aa (sa hsc 2 rfl rfl (Ae (me rfl rfl (sv hsc 0 rfl) (sl rfl ss (sl rfl Ac (sl rfl (sv hsc 1 rfl) .nil))) Mb Cl (Qt)) Ac))
  (Aa (AL (cm rfl (sv hsc 2 rfl) Ac) (Af (sa hsc 3 rfl rfl (Ae (sv hsc 1 rfl) Ac))) (Af (sa hsc 3 rfl rfl (Ae (sv hsc 1 rfl) (me rfl rfl (sv hsc 0 rfl) (sl rfl ss (sl rfl Ac (sl rfl (sv hsc 1 rfl) .nil))) Ko Cl (OE))))))
  (Af (AA (Dr (All2.cons ss (All2.cons (I8 (sv hsc 2 rfl)) (All2.cons ss (All2.cons (I8 (sv hsc 3 rfl)) (All2.nil))))))))))
theorem BQ {W:Wd}{n i:Nat}{fm:Fm}{np pos:Pos}{es:List Expr}{m1 m2 m3:M PV}(Mo:Mod W)(hm:(("suffixed_err":Str),.globalImplicit,i)∈fm.sc)(q:SimL W (n+2) fm es [m1,m2,m3]) :
  SimXc W (n+2) fm (.Call (.Name "suffixed_err" np) es [] pos) (ac (ag [m1,m2,m3]) (aA (Ez BN))):=
 Ku (params:=Ha ((AO (nth 25)).getD 0 (.Pass default))) (dp:=Ng ((AO (nth 25)).getD 0 (.Pass default))) Mo.suf Gi QT rfl (by decide +kernel) rfl Mo.tabPos.symm rfl rfl (λU=>rfl) (by decide +kernel) rfl (λU U U U U U U=>rfl) hm q λfm' hs he hd=>ST hs
def CG (K:Nat):M PFlow:=
  (aj (ac ((ao [.int 34,.int 92,.int 39,.int 9,.int 10,.int 13,.int 8,.int 12,.int 127,.int 0,.int 31,.int 32,.int 47,.int 48,.int 117,.int 85,.int 98,.int 110,.int 65,.int 102,.int 128,.int 55295,.int 57344,.int 65535,.int 65536,.int 1114111])) λa=>ac (ah 1 a) λU=>ae .next)
  (aj (ac ((ac (af 0) λa=>ac (ae (.int 26)) λb=>ac (Au .Lt a b) tst)) λc=>if c then (ac ((ac (ag [(ac (af 1) λa=>ac (af 0) λb=>As false a b)]) HG)) λa=>ae (.ret a)) else (ae .next))
  (ac ((ac ((ac ((ac (af 0) λa=>ac (ae (.int 26)) λb=>Aj .Sub a b)) λa=>ac (ae (.int 55296)) λb=>ac (Au .Lt a b) tst)) λc=>if c then (ac (ag [(ac (af 0) λa=>ac (ae (.int 26)) λb=>Aj .Sub a b)]) HG) else (ac (ag [(ac ((ac (af 0) λa=>ac (ae (.int 26)) λb=>Aj .Sub a b)) λa=>ac (ae (.int 2048)) λb=>Aj .Add a b)]) HG))) λa=>ae (.ret a))))
theorem Hh (K:Nat){W:Wd}(Mo:Mod W){fm:Fm}(hsc:fm.sc=Cn.sc)(hen:fm.env.scope=Cn.scope)(hh:fm.hdl=none):SimS W 0 fm Cn.body (CG K):=
  Aa (sa hsc 1 rfl rfl (CA (by kernel_rfl)))
  (Aa (AL (cm rfl (sv hsc 0 rfl) Ac) (Af (AA (cb hsc 2 rfl (sl rfl (it hh (sv hsc 1 rfl) (sv hsc 0 rfl)) .nil) (DH)))) AJ)
  (Af (AA (A7 (cm rfl (Ae (sv hsc 0 rfl) Ac) Ac) (cb hsc 2 rfl (sl rfl (Ae (sv hsc 0 rfl) Ac) .nil) (DH)) (cb hsc 2 rfl (sl rfl (Ae (Ae (sv hsc 0 rfl) Ac) Ac) .nil) (DH))))))
def Dy (K:Nat):M PFlow:=
  ((aj (ac (af 0) λa=>ac (ae (.int 1112090)) λb=>ac (BG .FloorDiv a b) λc=>ac (ah 0 c) λU=>ae .next)
  (ac ((ac (af 1) λa=>ak (C2 a) (ac (ag [(ac (ag [(ac (af 0) λb=>ac (ae (.int 1112090)) λc=>Aj .Mod b c)]) (am (CG K)))]) (Ce a)))) λU=>ae .next)))
def Du (K:Nat):M PFlow:=
  (aj (ac ((ac (ag [(ac (ag [(ac (af 0) λa=>ac (ae (.int 1112090)) λb=>Aj .Mod a b)]) (am (CG K)))]) ao)) λa=>ac (ah 1 a) λU=>ae .next)
  (aj (az ((AG .And [(ac (af 0) λa=>ac (ae (.int 1112090)) λb=>ac (Au .GtE a b) tst),(ac ((ac (ag [af 1]) Cp)) λa=>ac (ae (.int 6)) λb=>ac (Au .Lt a b) tst)])) (Dy K) K)
  (ac ((ac (ae (.str [])) λa=>ak (Bo a) (ac (ag [af 1]) (EZ a)))) λa=>ae (.ret a))))
theorem Mm (K:Nat){W:Wd}(Mo:Mod W){fm:Fm}(hsc:fm.sc=Co.sc)(hen:fm.env.scope=Co.scope)(hh:fm.hdl=none):SimS W 1 fm Co.body (Du K):=
  Aa (sa hsc 1 rfl rfl (AZ (sl rfl (fc Mo.f_law_sign FY hsc 2 rfl (sl rfl (Ae (sv hsc 0 rfl) Ac) .nil) hh (Hh K Mo)) .nil)))
  (Aa (Dp (Bc (All2.cons (cm rfl (sv hsc 0 rfl) Ac) (All2.cons (cm rfl (cb hsc 3 rfl (sl rfl (sv hsc 1 rfl) .nil) Be) Ac) (All2.nil)))) (Aa (sg hsc 0 rfl Ac)
  (Af (Da (me rfl rfl (sv hsc 1 rfl) (sl rfl (fc Mo.f_law_sign FY hsc 2 rfl (sl rfl (Ae (sv hsc 0 rfl) Ac) .nil) hh (Hh K Mo)) .nil) Cm Db (Dc)) DM (CR rfl)))) K)
  (Af (AA (me rfl rfl ss (sl rfl (sv hsc 1 rfl) .nil) D5 Cl (Gx)))))
def Bn (K:Nat):M PFlow:=
  (ac ((BS .And [(ac ((ac (ag [af 0]) Ls)) λa=>ac (ae (.int 127)) λb=>Au .NotEq a b),(BS .Or [(ac ((ac (ag [af 0]) Ls)) λa=>ac (ae (.int 9)) λb=>Au .Eq a b),(ac ((ac (ag [af 0]) Ls)) λa=>ac (ae (.int 32)) λb=>Au .GtE a b)])])) λa=>ae (.ret a))
theorem FZ (K:Nat){W:Wd}(Mo:Mod W){fm:Fm}(hsc:fm.sc=BZ.sc)(hen:fm.env.scope=BZ.scope)(hh:fm.hdl=none):SimS W 0 fm BZ.body (Bn K):=
  Af (AA (Fs (All2.cons (ce rfl (cb hsc 1 rfl (sl rfl (sv hsc 0 rfl) .nil) (EU)) Ac) (All2.cons (Fs (All2.cons (ce rfl (cb hsc 1 rfl (sl rfl (sv hsc 0 rfl) .nil) (EU)) Ac) (All2.cons (ce rfl (cb hsc 1 rfl (sl rfl (sv hsc 0 rfl) .nil) (EU)) Ac) (All2.nil)))) (All2.nil)))))
def CJ (K:Nat):M PFlow:=
  ((aj (ac ((ac ((ac (ae (.str [48,49,50,51,52,53,54,55,56,57,97,98,99,100,101,102,48,49,50,51,52,53,54,55,56,57,65,66,67,68,69,70])) λa=>ac ((ac ((ac (af 3) λb=>ac (ae (.int 16)) λc=>Aj .Mod b c)) λb=>ac ((ac (ae (.int 16)) λc=>ac ((ac ((ac ((ac (af 1) λd=>ac (ae (.int 4)) λe=>Aj .FloorDiv d e)) λd=>ac ((ac (ae (.int 2)) λe=>ac (af 6) λf=>Aj .Pow e f)) λe=>Aj .FloorDiv d e)) λd=>ac (ae (.int 2)) λe=>Aj .Mod d e)) λd=>Aj .Mult c d)) λc=>Aj .Add b c)) λb=>As false a b)) λa=>ac (af 5) λb=>Aj .Add a b)) λa=>ac (ah 5 a) λU=>ae .next)
  (ac (af 3) λa=>ac (ae (.int 16)) λb=>ac (BG .FloorDiv a b) λc=>ac (ah 3 c) λU=>ae .next)))
def CB (K:Nat):M PFlow:=
  (aj (ac ((Ov .int [8,9,10,12,13,34,92] [.str [98],.str [116],.str [110],.str [102],.str [114],.str [34],.str [92]])) λa=>ac (ah 2 a) λU=>ae .next)
  (aj (ac ((ac (ag [af 0]) Ls)) λa=>ac (ah 3 a) λU=>ae .next)
  (aj (ac ((AG .And [(ac ((ac (af 1) λa=>ac (ae (.int 4)) λb=>Aj .Mod a b)) λa=>ac (ae (.int 0)) λb=>ac (Au .Eq a b) tst),(ac ((ac (ag [af 0]) (am (Bn K)))) tst),(ac (af 3) λa=>ac (ae (.int 34)) λb=>ac (Au .NotEq a b) tst),(ac (af 3) λa=>ac (ae (.int 92)) λb=>ac (Au .NotEq a b) tst)])) λc=>if c then (ac (af 0) λa=>ae (.ret a)) else (ae .next))
  (aj (ac ((AG .And [(ac ((ac (af 1) λa=>ac (ae (.int 4)) λb=>Aj .Mod a b)) λa=>ac (ae (.int 1)) λb=>ac (Au .LtE a b) tst),(ac (af 3) λa=>ac (af 2) λb=>ac (Au .In a b) tst)])) λc=>if c then (ac ((ac (ae (.str [92])) λa=>ac ((ac (af 2) λb=>ac (af 3) λd=>As false b d)) λb=>Aj .Add a b)) λa=>ae (.ret a)) else (ae .next))
  (aj (ac ((ac ((AG .And [(ac ((ac (af 1) λa=>ac (ae (.int 4)) λb=>Aj .Mod a b)) λa=>ac (ae (.int 2)) λb=>ac (Au .LtE a b) tst),(ac (af 3) λa=>ac (ae (.int 65536)) λb=>ac (Au .Lt a b) tst)])) λc=>if c then ae (.int 4) else ae (.int 8))) λa=>ac (ah 4 a) λU=>ae .next)
  (aj (ac (ae (.str [])) λa=>ac (ah 5 a) λU=>ae .next)
  (aj (ac (ac (ag [af 4]) CD) λa=>aG a (ah 6) (CJ K) K 0)
  (ac ((ac ((ac ((ac (af 4) λa=>ac (ae (.int 4)) λb=>ac (Au .Eq a b) tst)) λc=>if c then ae (.str [92,117]) else ae (.str [92,85]))) λa=>ac (af 5) λb=>Aj .Add a b)) λa=>ae (.ret a)))))))))
theorem OP (K:Nat){W:Wd}(Mo:Mod W){fm:Fm}(hsc:fm.sc=CE.sc)(hen:fm.env.scope=CE.scope)(hh:fm.hdl=none):SimS W 1 fm CE.body (CB K):=
  Aa (sa hsc 2 rfl rfl (Iq (by kernel_rfl) (by kernel_rfl) rfl (by decide) (cons_ne_nil _ _) (Nat.le_of_ble_eq_true rfl)))
  (Aa (sa hsc 3 rfl rfl (cb hsc 7 rfl (sl rfl (sv hsc 0 rfl) .nil) (EU)))
  (Aa (AL (Bc (All2.cons (cm rfl (Ae (sv hsc 1 rfl) Ac) Ac) (All2.cons (BK (fc Mo.f_law_plain E3 hsc 8 rfl (sl rfl (sv hsc 0 rfl) .nil) hh (FZ K Mo)) (Cf rfl)) (All2.cons (cm rfl (sv hsc 3 rfl) Ac) (All2.cons (cm rfl (sv hsc 3 rfl) Ac) (All2.nil)))))) (Af (AA (sv hsc 0 rfl))) AJ)
  (Aa (AL (Bc (All2.cons (cm rfl (Ae (sv hsc 1 rfl) Ac) Ac) (All2.cons (cm rfl (sv hsc 3 rfl) (sv hsc 2 rfl)) (All2.nil)))) (Af (AA (Ae ss (it hh (sv hsc 2 rfl) (sv hsc 3 rfl))))) AJ)
  (Aa (sa hsc 4 rfl rfl (A7 (Bc (All2.cons (cm rfl (Ae (sv hsc 1 rfl) Ac) Ac) (All2.cons (cm rfl (sv hsc 3 rfl) Ac) (All2.nil)))) Ac Ac))
  (Aa (sa hsc 5 rfl rfl ss)
  (Aa (DJ hh (Et (scm hsc 9 rfl) (by decide +kernel) (by decide +kernel) (by decide +kernel) (by kernel_rfl) (sl rfl (sv hsc 4 rfl) .nil)) (gn hsc 6 rfl rfl) (Aa (sa hsc 5 rfl rfl (Ae (it hh ss (Ae (Ae (sv hsc 3 rfl) Ac) (Ae Ac (Ae (Ae (Ae (sv hsc 1 rfl) Ac) (Ae Ac (sv hsc 6 rfl))) Ac)))) (sv hsc 5 rfl)))
  (Af (sg hsc 3 rfl Ac))) (CS rfl) K)
  (Af (AA (Ae (A7 (cm rfl (sv hsc 4 rfl) Ac) ss ss) (sv hsc 5 rfl))))))))))
def Gj:List (Str × NameKind × Nat):=[(("sign":Str),.local,5),(("_law_plain":Str),.globalImplicit,6)]
def Gk:List (Str × NameKind × Nat):=[(("i":Str),.local,7),(("text":Str),.free,0),(("way":Str),.free,1),(("_law_one":Str),.globalImplicit,8)]
def CU (K:Nat):M PFlow:=
  (aj (ac ((ac ((ac (ag [af 0]) Cp)) λa=>ac (ae (.int 80)) λb=>ac (Au .Gt a b) tst)) λc=>if c then (ac (ae (.int 0)) λa=>ac (ah 1 a) λU=>ae .next) else (ae .next))
  (aj (ac ((AG .And [(ac ((ac (af 1) λa=>ac (ae (.int 5)) λb=>Aj .Mod a b)) λa=>ac (ae (.int 0)) λb=>ac (Au .Eq a b) tst),(ac ((ac (ac (af 0) FR) λa=>aF [5] (aw a (ah 5) (AG .And [(AG .Or [(ac (af 5) λb=>ac (ae (.str [39])) λd=>ac (Au .Eq b d) tst),(ac ((ac ((ac (ag [af 5]) (am (Bn K)))) tst)) λc=>ae !c)])]) (af 5) K 0 []))) λa=>ac ((ac (ag []) ao)) λb=>ac (eqL a b) tst)])) λc=>if c then (ac ((ac ((ac ((ao [.str [39]])) λa=>ac ((ac (ag [af 0]) M0)) λb=>Aj .Add a b)) λa=>ac ((ao [.str [39]])) λb=>Aj .Add a b)) λa=>ae (.ret a)) else (ae .next))
  (ac ((ac ((ac ((ao [.str [34]])) λa=>ac ((ac (ac (ag [(ac (ag [af 0]) Cp)]) CD) λb=>aF [7] (aw b (ah 7) (AG .And []) ((ac (ag [(ac (af 0) λc=>ac (af 7) λd=>As false c d),(ac (af 1) λc=>ac ((ac (af 7) λd=>ac (ae (.int 1)) λe=>Aj .Add d e)) λd=>Aj .Mult c d)]) (am (CB K)))) K 0 []))) λb=>Aj .Add a b)) λa=>ac ((ao [.str [34]])) λb=>Aj .Add a b)) λa=>ae (.ret a))))
theorem KB (K:Nat){W:Wd}(Mo:Mod W){fm:Fm}(hsc:fm.sc=B0.sc)(hen:fm.env.scope=B0.scope)(hh:fm.hdl=none):SimS W 2 fm B0.body (CU K):=
  Aa (AL (cm rfl (cb hsc 2 rfl (sl rfl (sv hsc 0 rfl) .nil) Be) Ac) (Af (sa hsc 1 rfl rfl Ac)) AJ)
  (Aa (AL (Bc (All2.cons (cm rfl (Ae (sv hsc 1 rfl) Ac) Ac) (All2.cons (cmE rfl ((ED (sc:=Gj) hh (Ci.of (by rw [hsc];decide +kernel)) (λfm' hsc hh=>gn hsc 0 rfl rfl) (DI (sv hsc 0 rfl)) (λfm' hsc hh=>All2.cons (Bc (All2.cons (cm rfl (sv hsc 0 rfl) ss) (All2.cons (DG (BK (fc Mo.f_law_plain E3 hsc 1 rfl (sl rfl (sv hsc 0 rfl) .nil) hh (FZ K Mo)) (Cf rfl))) (All2.nil)))) (All2.nil)) (λfm' hsc hh=>sv hsc 0 rfl) (CS rfl) K).toE) (AZ .nil)) (All2.nil)))) (Af (AA (Ae (Ae (CA (by kernel_rfl)) (ct hsc 3 rfl (sl rfl (sv hsc 0 rfl) .nil) (Ip hh))) (CA (by kernel_rfl))))) AJ)
  (Af (AA (Ae (Ae (CA (by kernel_rfl)) ((ED (sc:=Gk) hh (Ci.of (by rw [hsc];decide +kernel)) (λfm' hsc hh=>gn hsc 0 rfl rfl) (Et (scm hsc 4 rfl) (by decide +kernel) (by decide +kernel) (by decide +kernel) (by kernel_rfl) (sl rfl (cb hsc 2 rfl (sl rfl (sv hsc 0 rfl) .nil) Be) .nil)) (λfm' hsc hh=>All2.nil) (λfm' hsc hh=>fc Mo.f_law_one Ml hsc 3 rfl (sl rfl (it hh (sv hsc 1 rfl) (sv hsc 0 rfl)) (sl rfl (Ae (sv hsc 2 rfl) (Ae (sv hsc 0 rfl) Ac)) .nil)) hh (OP K Mo)) (CS rfl) K).toE)) (CA (by kernel_rfl))))))
def AR (K:Nat)(rec:M PFlow):M PFlow:=
  ((aj (ac ((ac (af 0) λa=>ac (af 6) λb=>As false a b)) λa=>ac (aC [ah 7,ah 8] a) λU=>ae .next)
  (aj (ac (af 4) λa=>ac (af 7) λb=>ac (BG .Add a b) λc=>ac (ah 4 c) λU=>ae .next)
  (aj (ac ((ac ((ac (af 7) λa=>ac (AM (some ((ac (ae (.int 1)) EY)))) λb=>ac (AM none) λd=>AT b d a)) λa=>ac (ae (.str [58])) λb=>ac (Au .Eq a b) tst)) λc=>if c then (aj (ac ((ac (ag [af 8,(ac (af 1) λa=>ac (ae (.int 3)) λb=>Aj .Mult a b),af 2,af 3]) (am rec))) λa=>ac (aC [ah 8,ah 2,ah 9] a) λU=>ae .next)
  (ac (af 5) λa=>ac (af 9) λb=>ac (BG .Add a b) λc=>ac (ah 5 c) λU=>ae .next)) else (ae .next))
  (aj (ac ((ac (ag [af 8,(ac (af 1) λa=>ac ((ac (af 6) λb=>ac (ae (.int 1)) λc=>Aj .Add b c)) λb=>Aj .Mult a b)]) (am (CU K)))) λa=>ac (ah 10 a) λU=>ae .next)
  (aj (ac ((ac ((ac (af 7) λa=>ac (AM (some ((ac (ae (.int 1)) EY)))) λb=>ac (AM none) λd=>AT b d a)) λa=>ac (ae (.str [58])) λb=>ac (Au .NotEq a b) tst)) λc=>if c then (aj (ac ((ac (af 2) λa=>ac (ae (.int 0)) λb=>ac (Au .Eq a b) tst)) λc=>if c then (aj (ac ((ac (ae (.int 1)) λa=>ac ((ac ((ac (af 1) λb=>ac (af 3) λd=>Aj .Add b d)) λb=>ac ((ac ((ac (ag [af 10]) Cp)) λd=>ac (ae (.int 1)) λe=>Aj .Sub d e)) λd=>Aj .Mod b d)) λb=>Aj .Add a b)) λa=>ac (ah 11 a) λU=>ae .next)
  (aj (ac ((ac ((ac (af 4) λa=>ac ((ac (ae (.str [])) λb=>ak (Bo b) (ac (ag [(ac (af 10) λc=>ac (AM none) λd=>ac (AM (some (af 11))) λe=>AT d e c)]) (EZ b)))) λb=>Aj .Add a b)) λa=>ak (Bo a) (ac (ag [ae (.str [10])]) (He a)))) λa=>ac (ah 12 a) λU=>ae .next)
  (aj (ac ((ac ((Ov .int [10,13] [.str [39,92,110,39],.str [39,92,114,39]])) λa=>ak (Je a) (ac (ag [af 3,(ac ((ac ((ac (ae (.str [39,92,120])) λb=>ac ((ac (ae (.str [48,49,50,51,52,53,54,55])) λc=>ac ((ac (af 3) λd=>ac (ae (.int 16)) λe=>Aj .FloorDiv d e)) λd=>As false c d)) λc=>Aj .Add b c)) λb=>ac ((ac (ae (.str [48,49,50,51,52,53,54,55,56,57,97,98,99,100,101,102])) λc=>ac ((ac (af 3) λd=>ac (ae (.int 16)) λe=>Aj .Mod d e)) λd=>As false c d)) λc=>Aj .Add b c)) λb=>ac (ae (.str [39])) λc=>Aj .Add b c)]) (QH a)))) λa=>ac (ah 13 a) λU=>ae .next)
  (aj (ac ((ac ((ac ((ac ((ac (af 10) λa=>ac (ae (.int 0)) λb=>As false a b)) λa=>ac (ae (.str [39])) λb=>ac (Au .Eq a b) tst)) λc=>if c then ae (.str [70,111,117,110,100,32,105,110,118,97,108,105,100,32,99,104,97,114,97,99,116,101,114,32]) else ae (.str [73,108,108,101,103,97,108,32,99,104,97,114,97,99,116,101,114,32]))) λa=>ac (af 13) λb=>Aj .Add a b)) λa=>ac (ah 5 a) λU=>ae .next)
  (aj (ac (af 5) λa=>ac ((ac ((ac ((ac ((ac (ae (.str [32,40,97,116,32,108,105,110,101,32])) λb=>ac ((ac (ag [(ac (ag [af 12]) Cp)]) Lu)) λc=>Aj .Add b c)) λb=>ac (ae (.str [44,32,99,111,108,117,109,110,32])) λc=>Aj .Add b c)) λb=>ac ((ac (ag [(ac ((ac (ag [(ac (af 12) λc=>ac ((ac (ae (.int 1)) EY)) λd=>As false c d)]) Cp)) λc=>ac (ae (.int 1)) λd=>Aj .Add c d)]) Lu)) λc=>Aj .Add b c)) λb=>ac (ae (.str [41])) λc=>Aj .Add b c)) λb=>ac (BG .Add a b) λc=>ac (ah 5 c) λU=>ae .next)
  (ac ((ac ((ac ((ac (af 10) λa=>ac (AM none) λb=>ac (AM (some (af 11))) λc=>AT b c a)) λa=>ac ((ac (ag [(ac (ag [af 3]) HG)]) ao)) λb=>Aj .Add a b)) λa=>ac ((ac (af 10) λb=>ac (AM (some (af 11))) λc=>ac (AM none) λd=>AT c d b)) λb=>Aj .Add a b)) λa=>ac (ah 10 a) λU=>ae .next)))))) else (ae .next))
  (ac (af 2) λa=>ac (ae (.int 1)) λb=>ac (BG .Sub a b) λc=>ac (ah 2 c) λU=>ae .next)) else (ae .next))
  (ac (af 4) λa=>ac ((ac (ae (.str [])) λb=>ak (Bo b) (ac (ag [af 10]) (EZ b)))) λb=>ac (BG .Add a b) λc=>ac (ah 4 c) λU=>ae .next)))))))
def B4 (K:Nat)(rec:M PFlow):M PFlow:=
  (aj (ac (ae (.str [])) λa=>ac (ah 4 a) λU=>ae .next)
  (aj (ac (ae (.str [])) λa=>ac (ah 5 a) λU=>ae .next)
  (aj (ac (ac (ag [(ac ((ac (ag [af 0]) Cp)) λa=>ac (ae (.int 1)) λb=>Aj .Sub a b)]) CD) λa=>aG a (ah 6) (AR K rec) K 0)
  (ac ((ac (ag [(ac (af 4) λa=>ac ((ac (af 0) λb=>ac ((ac (ae (.int 1)) EY)) λc=>As false b c)) λb=>Aj .Add a b),af 2,af 5]) ao)) λa=>ae (.ret a)))))
theorem Hi (K d:Nat){W:Wd}(Mo:Mod W){rec:M PFlow}{fm:Fm}(hsc:fm.sc=Aw.sc)(hen:fm.env.scope=Aw.scope)(hh:fm.hdl=none)(hrec:∀ {fm':Fm},fm'.sc=Aw.sc->fm'.env.scope=Aw.scope->fm'.hdl=none->SimS W (d+3) fm' Aw.body rec):SimS W (d+4) fm Aw.body (B4 K rec):=
  Aa (sa hsc 4 rfl rfl ss)
  (Aa (sa hsc 5 rfl rfl ss)
  (Aa (DJ hh (Et (scm hsc 14 rfl) (by decide +kernel) (by decide +kernel) (by decide +kernel) (by kernel_rfl) (sl rfl (Ae (cb hsc 15 rfl (sl rfl (sv hsc 0 rfl) .nil) Be) Ac) .nil)) (gn hsc 6 rfl rfl) (Aa (BU hh (gs rfl (gn hsc 7 rfl rfl) (gs rfl (gn hsc 8 rfl rfl) .nil)) (it hh (sv hsc 0 rfl) (sv hsc 6 rfl)) (D6 rfl) (D7 rfl))
  (Aa (sg hsc 4 rfl (sv hsc 7 rfl))
  (Aa (AL (cm rfl (A4 (sv hsc 7 rfl) (SimO.some (Cd Ac)) SimO.none) ss) (Aa (BU hh (gs rfl (gn hsc 8 rfl rfl) (gs rfl (gn hsc 2 rfl rfl) (gs rfl (gn hsc 9 rfl rfl) .nil))) (fq Mo.f_law_folded Ei hsc 16 rfl (sl rfl (sv hsc 8 rfl) (sl rfl (Ae (sv hsc 1 rfl) Ac) (sl rfl (sv hsc 2 rfl) (sl rfl (sv hsc 3 rfl) .nil)))) hh hrec) (D6 rfl) (D7 rfl))
  (Af (sg hsc 5 rfl (sv hsc 9 rfl)))) AJ)
  (Aa (sa hsc 10 rfl rfl (fq Mo.f_law_units Jg hsc 17 rfl (sl rfl (sv hsc 8 rfl) (sl rfl (Ae (sv hsc 1 rfl) (Ae (sv hsc 6 rfl) Ac)) .nil)) hh (KB K Mo)))
  (Aa (AL (cm rfl (A4 (sv hsc 7 rfl) (SimO.some (Cd Ac)) SimO.none) ss) (Aa (AL (cm rfl (sv hsc 2 rfl) Ac) (Aa (sa hsc 11 rfl rfl (Ae Ac (Ae (Ae (sv hsc 1 rfl) (sv hsc 3 rfl)) (Ae (cb hsc 15 rfl (sl rfl (sv hsc 10 rfl) .nil) Be) Ac))))
  (Aa (sa hsc 12 rfl rfl (me rfl rfl (Ae (sv hsc 4 rfl) (me rfl rfl ss (sl rfl (A4 (sv hsc 10 rfl) SimO.none (SimO.some (sv hsc 11 rfl))) .nil) D5 Cl (Gx))) (sl rfl ss .nil) Mj Cl (QK)))
  (Aa (sa hsc 13 rfl rfl (me rfl rfl (Iq (by kernel_rfl) (by kernel_rfl) rfl (by decide) (cons_ne_nil _ _) (Nat.le_of_ble_eq_true rfl)) (sl rfl (sv hsc 3 rfl) (sl rfl (Ae (Ae (Ae ss (it hh ss (Ae (sv hsc 3 rfl) Ac))) (it hh ss (Ae (sv hsc 3 rfl) Ac))) ss) .nil)) QJ QI (UB)))
  (Aa (sa hsc 5 rfl rfl (Ae (A7 (cm rfl (it hh (sv hsc 10 rfl) Ac) ss) ss ss) (sv hsc 13 rfl)))
  (Aa (sg hsc 5 rfl (Ae (Ae (Ae (Ae ss (ct hsc 18 rfl (sl rfl (cb hsc 15 rfl (sl rfl (sv hsc 12 rfl) .nil) Be) .nil) J0)) ss) (ct hsc 18 rfl (sl rfl (Ae (cb hsc 15 rfl (sl rfl (it hh (sv hsc 12 rfl) (Cd Ac)) .nil) Be) Ac) .nil) J0)) ss))
  (Af (sa hsc 10 rfl rfl (Ae (Ae (A4 (sv hsc 10 rfl) SimO.none (SimO.some (sv hsc 11 rfl))) (AZ (sl rfl (cb hsc 19 rfl (sl rfl (sv hsc 3 rfl) .nil) (DH)) .nil))) (A4 (sv hsc 10 rfl) (SimO.some (sv hsc 11 rfl)) SimO.none))))))))) AJ)
  (Af (sg hsc 2 rfl Ac))) AJ)
  (Af (sg hsc 4 rfl (me rfl rfl ss (sl rfl (sv hsc 10 rfl) .nil) D5 Cl (Gx))))))))) (CS rfl) K)
  (Af (AA (AZ (sl rfl (Ae (sv hsc 4 rfl) (it hh (sv hsc 0 rfl) (Cd Ac))) (sl rfl (sv hsc 2 rfl) (sl rfl (sv hsc 5 rfl) .nil))))))))
def BC (K:Nat):Nat->M PFlow
 | 0=>aq
 | d+1=>B4 K (BC K d)
theorem Ej (K:Nat){W:Wd}(Mo:Mod W):∀ (d:Nat) {fm:Fm},fm.sc=Aw.sc->fm.env.scope=Aw.scope->fm.hdl=none->SimS W (d+3) fm Aw.body (BC K d)
 | 0,_,_,_,_=>EA
 | d+1,_,h1,h2,h3=>Hi K d Mo h1 h2 h3 (Ej K Mo d)
def E5 (K:Nat):M PFlow:=BC K 5
theorem Jh (K:Nat){W:Wd}(Mo:Mod W){fm:Fm}(hsc:fm.sc=Aw.sc)(hen:fm.env.scope=Aw.scope)(hh:fm.hdl=none):SimS W 8 fm Aw.body (E5 K):=Ej K Mo 5 hsc hen hh
def CV (K:Nat):M PFlow:=
  ((ac (af 1) λa=>ac (ae (.int 1)) λb=>ac (BG .Add a b) λc=>ac (ah 1 c) λU=>ae .next))
def Bp (K:Nat):M PFlow:=
  (aj (aE (H1 "ValueError" (aj (ac ((ac (ag [af 0]) Cp)) λx3=>ac (ah 5 x3) λU=>ae .next) (ac ((ac (af 4) tst)) λc=>if c then (ac ((ac (ag [af 0,af 5,(ay [ae (.str [69,120,112,101,99,116,101,100,32]),(ac (af 2) GI)] [])]) (aA (Ez BN)))) λt=>aL (.toml t)) else ae .next))) ((ac ((ac (af 0) λx1=>ak (Bo x1) (ac (ag [af 2,af 1]) (Ex false x1)))) λx2=>ac (ah 5 x2) λU=>ae .next)))
  (aj (ac ((ac ((ac ((ac (af 3) λa=>ak (Ii a) (ac (ag [(ac (af 0) λb=>ac (AM (some (af 1))) λd=>ac (AM (some (af 5))) λe=>AT d e b)]) (Oz a)))) tst)) λc=>ae !c)) λc=>if c then (aj (az ((ac ((ac (af 0) λa=>ac (af 1) λb=>As false a b)) λa=>ac (af 3) λb=>ac (Au .NotIn a b) tst)) (CV K) K)
  (ac ((ac (ag [af 0,af 1,(ay [ae (.str [70,111,117,110,100,32,105,110,118,97,108,105,100,32,99,104,97,114,97,99,116,101,114,32]),(ac ((ac (af 0) λa=>ac (af 1) λb=>As false a b)) GI)] [])]) (aA (Ez BN)))) λt=>aL (.toml t))) else (ae .next))
  (ac (af 5) λa=>ae (.ret a))))
theorem Ji (K:Nat){W:Wd}(Mo:Mod W){fm:Fm}(hsc:fm.sc=BM.sc)(hen:fm.env.scope=BM.scope)(hh:fm.hdl=none):SimS W 2 fm BM.body (Bp K):=
  Aa (Fz LQ (scm hsc 6 rfl) (by decide +kernel) (by decide +kernel) (by decide +kernel) (by kernel_rfl) (Af (sa hsc 5 rfl rfl (me rfl rfl (sv hsc 0 rfl) (sl rfl (sv hsc 2 rfl) (sl rfl (sv hsc 1 rfl) .nil)) L6 Cl (OJ hh)))) (λy=>have hsc:(fm.mark y).sc=_:=hsc;LX (sa hsc 5 rfl rfl (cb hsc 7 rfl (sl rfl (sv hsc 0 rfl) .nil) Be)) (Qd (BK (sv hsc 4 rfl) (Cf rfl)) (Ev (BQ Mo (scm hsc 8 rfl) (sl rfl (sv hsc 0 rfl) (sl rfl (sv hsc 5 rfl) (sl rfl (Dr (All2.cons ss (All2.cons (G0 (sv hsc 2 rfl)) (All2.nil)))) .nil))))))))
  (Aa (AL (DG (BK (me rfl rfl (sv hsc 3 rfl) (sl rfl (A4 (sv hsc 0 rfl) (SimO.some (sv hsc 1 rfl)) (SimO.some (sv hsc 5 rfl))) .nil) Gb Na (HP hh)) (Cf rfl))) (Aa (Dp (cm rfl (it hh (sv hsc 0 rfl) (sv hsc 1 rfl)) (sv hsc 3 rfl)) (Af (sg hsc 1 rfl Ac)) K)
  (Af (CQ hh (BQ Mo (scm hsc 8 rfl) (sl rfl (sv hsc 0 rfl) (sl rfl (sv hsc 1 rfl) (sl rfl (Dr (All2.cons ss (All2.cons (G0 (it hh (sv hsc 0 rfl) (sv hsc 1 rfl))) (All2.nil)))) .nil))))))) AJ)
  (Af (AA (sv hsc 5 rfl))))
def Ap (K:Nat):M PFlow:=
  (aj (ac (af 1) λa=>ac (ae (.int 1)) λb=>ac (BG .Add a b) λc=>ac (ah 1 c) λU=>ae .next)
  (aj (ac (af 1) λa=>ac (ah 2 a) λU=>ae .next)
  (aj (ac ((ac (ag [af 0,af 1,ae (.str [39])]) λa=>ac (ag [ae (.fset 0),ae (.bool true)]) λb=>am (Bp K) (a++b))) λa=>ac (ah 1 a) λU=>ae .next)
  (ac ((ac (ag [(ac (af 1) λa=>ac (ae (.int 1)) λb=>Aj .Add a b),(ac (af 0) λa=>ac (AM (some (af 2))) λb=>ac (AM (some (af 1))) λc=>AT b c a)]) Oe)) λa=>ae (.ret a)))))
theorem Ed (K:Nat){W:Wd}(Mo:Mod W){fm:Fm}(hsc:fm.sc=A0.sc)(hen:fm.env.scope=A0.scope)(hh:fm.hdl=none):SimS W 3 fm A0.body (Ap K):=
  Aa (sg hsc 1 rfl Ac)
  (Aa (sa hsc 2 rfl rfl (sv hsc 1 rfl))
  (Aa (sa hsc 1 rfl rfl (Eh Mo.f_skip_until HU (scm hsc 3 rfl) (by decide +kernel) (sl rfl (sv hsc 0 rfl) (sl rfl (sv hsc 1 rfl) (sl rfl ss .nil))) (SimKw.cons (Gz Mo.s_ILLEGAL_LITERAL_STR_CHARS (scm hsc 4 rfl) (by decide +kernel)) (SimKw.cons DF (SimKw.nil))) (λfm' hs he hd=>(Ji K Mo hs he (hd.trans hh)).up (by decide))))
  (Af (AA (D3 (sl rfl (Ae (sv hsc 1 rfl) Ac) (sl rfl (A4 (sv hsc 0 rfl) (SimO.some (sv hsc 2 rfl)) (SimO.some (sv hsc 1 rfl))) .nil)))))))
def AU (K:Nat):M PFlow:=
  (ac ((BS .Or [(ac (ae (.int 0)) λa=>ac (af 0) λb=>FA .LtE .LtE a b (ae (.int 55295))),(ac (ae (.int 57344)) λa=>ac (af 0) λb=>FA .LtE .LtE a b (ae (.int 1114111)))])) λa=>ae (.ret a))
theorem CN (K:Nat){W:Wd}(Mo:Mod W){fm:Fm}(hsc:fm.sc=AF.sc)(hen:fm.env.scope=AF.scope)(hh:fm.hdl=none):SimS W 0 fm AF.body (AU K):=
  Af (AA (Fs (All2.cons (Ih Ac (sv hsc 0 rfl) Ac (Ni rfl)) (All2.cons (Ih Ac (sv hsc 0 rfl) Ac (Ni rfl)) (All2.nil)))))
def AH (K:Nat):M PFlow:=
  (aj (ac ((ac (af 0) λa=>ac (AM (some (af 1))) λb=>ac (AM (some ((ac (af 1) λc=>ac (af 2) λd=>Aj .Add c d)))) λc=>AT b c a)) λa=>ac (ah 3 a) λU=>ae .next)
  (aj (ac ((AG .Or [(ac ((ac (ag [af 3]) Cp)) λa=>ac (af 2) λb=>ac (Au .NotEq a b) tst),(ac ((ac ((ac (ae (.fset 4)) λa=>ak (Ii a) (ac (ag [af 3]) (OA a)))) tst)) λc=>ae !c)])) λc=>if c then (ac ((ac (ag [af 0,af 1,ae (.str [73,110,118,97,108,105,100,32,104,101,120,32,118,97,108,117,101])]) (aA (Ez BN)))) λt=>aL (.toml t)) else (ae .next))
  (aj (ac (af 1) λa=>ac (af 2) λb=>ac (BG .Add a b) λc=>ac (ah 1 c) λU=>ae .next)
  (aj (ac ((ac (ag [af 3,ae (.int 16)]) SO)) λa=>ac (ah 4 a) λU=>ae .next)
  (aj (ac ((ac ((ac ((ac (ag [af 4]) (am (AU K)))) tst)) λc=>ae !c)) λc=>if c then (ac ((ac (ag [af 0,af 1,ae (.str [69,115,99,97,112,101,100,32,99,104,97,114,97,99,116,101,114,32,105,115,32,110,111,116,32,97,32,85,110,105,99,111,100,101,32,115,99,97,108,97,114,32,118,97,108,117,101])]) (aA (Ez BN)))) λt=>aL (.toml t)) else (ae .next))
  (ac ((ac (ag [af 1,(ac (ag [af 4]) HG)]) Oe)) λa=>ae (.ret a)))))))
theorem Dd (K:Nat){W:Wd}(Mo:Mod W){fm:Fm}(hsc:fm.sc=Bf.sc)(hen:fm.env.scope=Bf.scope)(hh:fm.hdl=none):SimS W 2 fm Bf.body (AH K):=
  Aa (sa hsc 3 rfl rfl (A4 (sv hsc 0 rfl) (SimO.some (sv hsc 1 rfl)) (SimO.some (Ae (sv hsc 1 rfl) (sv hsc 2 rfl)))))
  (Aa (AL (Bc (All2.cons (cm rfl (cb hsc 5 rfl (sl rfl (sv hsc 3 rfl) .nil) Be) (sv hsc 2 rfl)) (All2.cons (DG (BK (me rfl rfl (Gz Mo.s_HEXDIGIT_CHARS (scm hsc 6 rfl) (by decide +kernel)) (sl rfl (sv hsc 3 rfl) .nil) Gf Na (HQ hh)) (Cf rfl))) (All2.nil)))) (Af (CQ hh (BQ Mo (scm hsc 7 rfl) (sl rfl (sv hsc 0 rfl) (sl rfl (sv hsc 1 rfl) (sl rfl ss .nil)))))) AJ)
  (Aa (sg hsc 1 rfl (sv hsc 2 rfl))
  (Aa (sa hsc 4 rfl rfl (ct hsc 8 rfl (sl rfl (sv hsc 3 rfl) (sl rfl Ac .nil)) (L9)))
  (Aa (AL (DG (BK (fc Mo.f_is_unicode_scalar_value CF hsc 9 rfl (sl rfl (sv hsc 4 rfl) .nil) hh (CN K Mo)) (Cf rfl))) (Af (CQ hh (BQ Mo (scm hsc 7 rfl) (sl rfl (sv hsc 0 rfl) (sl rfl (sv hsc 1 rfl) (sl rfl ss .nil)))))) AJ)
  (Af (AA (D3 (sl rfl (sv hsc 1 rfl) (sl rfl (cb hsc 10 rfl (sl rfl (sv hsc 4 rfl) .nil) (DH)) .nil)))))))))
def Aq (K:Nat):M PFlow:=
  (aj (ac ((ac (af 0) λa=>ac (AM (some (af 1))) λb=>ac (AM (some ((ac (af 1) λc=>ac (ae (.int 2)) λd=>Aj .Add c d)))) λc=>AT b c a)) λa=>ac (ah 3 a) λU=>ae .next)
  (aj (ac (af 1) λa=>ac (ae (.int 2)) λb=>ac (BG .Add a b) λc=>ac (ah 1 c) λU=>ae .next)
  (aj (ac ((AG .And [(ac (af 2) tst),aq])) λc=>if c then aq else (ae .next))
  (aj (ac ((ac (af 3) λa=>ac (ae (.str [92,117])) λb=>ac (Au .Eq a b) tst)) λc=>if c then (ac ((ac (ag [af 0,af 1,ae (.int 4)]) (am (AH K)))) λa=>ae (.ret a)) else (ae .next))
  (aj (ac ((ac (af 3) λa=>ac (ae (.str [92,85])) λb=>ac (Au .Eq a b) tst)) λc=>if c then (ac ((ac (ag [af 0,af 1,ae (.int 8)]) (am (AH K)))) λa=>ae (.ret a)) else (ae .next))
  (aE (H1 "KeyError" (ac ((ac (ag [af 0,af 1,ae (.str [85,110,101,115,99,97,112,101,100,32,39,92,39,32,105,110,32,97,32,115,116,114,105,110,103])]) (aA (Ez BN)))) λt=>aL (.toml t))) ((ac ((ac (ag [af 1,(ac (ae .mp) λx16=>ac (af 3) λx17=>As false x16 x17)]) Oe)) λx18=>ae (.ret x18)))))))))
theorem C3 (K:Nat){W:Wd}(Mo:Mod W){fm:Fm}(hsc:fm.sc=Ax.sc)(hen:fm.env.scope=Ax.scope)(hh:fm.hdl=none):SimS W 3 fm Ax.body (Aq K):=
  Aa (sa hsc 3 rfl rfl (A4 (sv hsc 0 rfl) (SimO.some (sv hsc 1 rfl)) (SimO.some (Ae (sv hsc 1 rfl) Ac))))
  (Aa (sg hsc 1 rfl Ac)
  (Aa (AL (Bc (All2.cons (BK (sv hsc 2 rfl) (Cf rfl)) (All2.cons (Mc) (All2.nil)))) EA AJ)
  (Aa (AL (cm rfl (sv hsc 3 rfl) ss) (Af (AA (fc Mo.f_parse_hex_char CT hsc 10 rfl (sl rfl (sv hsc 0 rfl) (sl rfl (sv hsc 1 rfl) (sl rfl Ac .nil))) hh (Dd K Mo)))) AJ)
  (Aa (AL (cm rfl (sv hsc 3 rfl) ss) (Af (AA (fc Mo.f_parse_hex_char CT hsc 10 rfl (sl rfl (sv hsc 0 rfl) (sl rfl (sv hsc 1 rfl) (sl rfl Ac .nil))) hh (Dd K Mo)))) AJ)
  (Af (Fz Qa (scm hsc 12 rfl) (by decide +kernel) (by decide +kernel) (by decide +kernel) (by kernel_rfl) (Af (AA (D3 (sl rfl (sv hsc 1 rfl) (sl rfl (it hh (SR Mo.mp (scm hsc 11 rfl) (by decide +kernel)) (sv hsc 3 rfl)) .nil))))) (λy=>have hsc:(fm.mark y).sc=_:=hsc;Ev (BQ Mo (scm hsc 8 rfl) (sl rfl (sv hsc 0 rfl) (sl rfl (sv hsc 1 rfl) (sl rfl ss .nil)))))))))))
def UG (K:Nat):Nat->Option (M PFlow × List PV)
 | 0=>some (Aq K,[.bool false])
 | _=>none
theorem SU (K:Nat){W:Wd}{n:Nat}(Mo:Mod W){fm:Fm}(hh:fm.hdl=none):∀ k m ext,UG K k=some (m,ext)->∃ fd fi extv,FnAt W.h₀ (W.H.fnv k) fd fi/\fi.Ok/\Ee W fd fi 2 [] extv/\(∀ av V h,RepL W.H W.h₀ av V h ext extv)/\∀ fm':Fm,fm'.sc=fi.sc->fm'.env.scope=fi.scope->fm'.hdl=fm.hdl->SimS W (n+3) fm' fi.body m:=by
 intro k m ext h
 obtain ⟨fd,a,b⟩:=Mo.c_parse_basic_str_escape
 cases k with
 | succ=>injection h
 | zero=>
  cases h
  exact ⟨fd,_,_,a,CM,b,λU U U=>.cons (.bool false) .nil,λfm' hs he hd=>(C3 K Mo hs he (hd.trans hh)).up (by exact la [_] [] ([7],[2,7,0]) rfl)⟩
def Al (K:Nat):M PFlow:=
  ((aj (aE (H1 "IndexError" (ac ((ac (ag [af 0,af 1,ae (.str [85,110,116,101,114,109,105,110,97,116,101,100,32,115,116,114,105,110,103])]) (aA (Ez BN)))) λt=>aL (.toml t))) ((ac ((ac (af 0) λx7=>ac (af 1) λx8=>As false x7 x8)) λx9=>ac (ah 7 x9) λU=>ae .next)))
  (aj (ac ((ac (af 7) λa=>ac (ae (.str [34])) λb=>ac (Au .Eq a b) tst)) λc=>if c then (aj (ac ((ac ((ac (af 2) tst)) λc=>ae !c)) λc=>if c then (ac ((ac (ag [(ac (af 1) λa=>ac (ae (.int 1)) λb=>Aj .Add a b),(ac (af 5) λa=>ac ((ac (af 0) λb=>ac (AM (some (af 6))) λd=>ac (AM (some (af 1))) λe=>AT d e b)) λb=>Aj .Add a b)]) Oe)) λa=>ae (.ret a)) else (ae .next))
  (aj aq
  (aj (ac (af 1) λa=>ac (ae (.int 1)) λb=>ac (BG .Add a b) λc=>ac (ah 1 c) λU=>ae .next)
  (ae .cont)))) else (ae .next))
  (aj (ac ((ac (af 7) λa=>ac (ae (.str [92])) λb=>ac (Au .Eq a b) tst)) λc=>if c then (aj (ac (af 5) λa=>ac ((ac (af 0) λb=>ac (AM (some (af 6))) λd=>ac (AM (some (af 1))) λe=>AT d e b)) λb=>ac (BG .Add a b) λd=>ac (ah 5 d) λU=>ae .next)
  (aj (ac ((ac (af 4) (aM (UG K) [af 0,af 1]))) λa=>ac (aC [ah 1,ah 8] a) λU=>ae .next)
  (aj (ac (af 5) λa=>ac (af 8) λb=>ac (BG .Add a b) λc=>ac (ah 5 c) λU=>ae .next)
  (aj (ac (af 1) λa=>ac (ah 6 a) λU=>ae .next)
  (ae .cont))))) else (ae .next))
  (aj (ac ((ac (af 7) λa=>ac (af 3) λb=>ac (Au .In a b) tst)) λc=>if c then (ac ((ac (ag [af 0,af 1,(ay [ae (.str [73,108,108,101,103,97,108,32,99,104,97,114,97,99,116,101,114,32]),(ac (af 7) GI)] [])]) (aA (Ez BN)))) λt=>aL (.toml t)) else (ae .next))
  (ac (af 1) λa=>ac (ae (.int 1)) λb=>ac (BG .Add a b) λc=>ac (ah 1 c) λU=>ae .next))))))
def Bv (K:Nat):M PFlow:=
  (aj (ac ((ac (af 2) tst)) λc=>if c then (aj (ac (ae (.fset 1)) λa=>ac (ah 3 a) λU=>ae .next)
  (ac (ae (.fn 1)) λa=>ac (ah 4 a) λU=>ae .next)) else (aj (ac (ae (.fset 0)) λa=>ac (ah 3 a) λU=>ae .next)
  (ac (ae (.fn 0)) λa=>ac (ah 4 a) λU=>ae .next)))
  (aj (ac (ae (.str [])) λa=>ac (ah 5 a) λU=>ae .next)
  (aj (ac (af 1) λa=>ac (ah 6 a) λU=>ae .next)
  (az ((ac (ae (.bool true)) tst)) (Al K) K))))
theorem E6 (K:Nat){W:Wd}(Mo:Mod W){fm:Fm}(hsc:fm.sc=A9.sc)(hen:fm.env.scope=A9.scope)(hh:fm.hdl=none):SimS W 4 fm A9.body (Bv K):=
  Aa (AL (BK (sv hsc 2 rfl) (Cf rfl)) (Aa (sa hsc 3 rfl rfl (Gz Mo.s_ILLEGAL_MULTILINE_BASIC_STR_CHARS (scm hsc 9 rfl) (by decide +kernel)))
  (Af (sa hsc 4 rfl rfl (Nj Mo.v_parse_basic_str_escape_multiline (scm hsc 10 rfl) (by decide +kernel))))) (Aa (sa hsc 3 rfl rfl (Gz Mo.s_ILLEGAL_BASIC_STR_CHARS (scm hsc 11 rfl) (by decide +kernel)))
  (Af (sa hsc 4 rfl rfl (Nj Mo.v_parse_basic_str_escape (scm hsc 12 rfl) (by decide +kernel))))))
  (Aa (sa hsc 5 rfl rfl ss)
  (Aa (sa hsc 6 rfl rfl (sv hsc 1 rfl))
  (Af (Dp (BK DF (Cf rfl)) (Aa (Fz LP (scm hsc 13 rfl) (by decide +kernel) (by decide +kernel) (by decide +kernel) (by kernel_rfl) (Af (sa hsc 7 rfl rfl (it hh (sv hsc 0 rfl) (sv hsc 1 rfl)))) (λy=>have hsc:(fm.mark y).sc=_:=hsc;Ev (BQ Mo (scm hsc 14 rfl) (sl rfl (sv hsc 0 rfl) (sl rfl (sv hsc 1 rfl) (sl rfl ss .nil))))))
  (Aa (AL (cm rfl (sv hsc 7 rfl) ss) (Aa (AL (DG (BK (sv hsc 2 rfl) (Cf rfl))) (Af (AA (D3 (sl rfl (Ae (sv hsc 1 rfl) Ac) (sl rfl (Ae (sv hsc 5 rfl) (A4 (sv hsc 0 rfl) (SimO.some (sv hsc 6 rfl)) (SimO.some (sv hsc 1 rfl)))) .nil))))) AJ)
  (Aa (Md)
  (Aa (sg hsc 1 rfl Ac)
  (Af Fv)))) AJ)
  (Aa (AL (cm rfl (sv hsc 7 rfl) ss) (Aa (sg hsc 5 rfl (A4 (sv hsc 0 rfl) (SimO.some (sv hsc 6 rfl)) (SimO.some (sv hsc 1 rfl))))
  (Aa (BU hh (gs rfl (gn hsc 1 rfl rfl) (gs rfl (gn hsc 8 rfl rfl) .nil)) (OI (scm hsc 4 rfl) (Or.inl rfl) (by decide +kernel) (by decide +kernel) (sl rfl (sv hsc 0 rfl) (sl rfl (sv hsc 1 rfl) .nil)) (SU K Mo hh)) (D6 rfl) (D7 rfl))
  (Aa (sg hsc 5 rfl (sv hsc 8 rfl))
  (Aa (sa hsc 6 rfl rfl (sv hsc 1 rfl))
  (Af Fv))))) AJ)
  (Aa (AL (cm rfl (sv hsc 7 rfl) (sv hsc 3 rfl)) (Af (CQ hh (BQ Mo (scm hsc 14 rfl) (sl rfl (sv hsc 0 rfl) (sl rfl (sv hsc 1 rfl) (sl rfl (Dr (All2.cons ss (All2.cons (G0 (sv hsc 7 rfl)) (All2.nil)))) .nil)))))) AJ)
  (Af (sg hsc 1 rfl Ac)))))) K))))
def Ag (K:Nat):M PFlow:=
  (aj (ac (af 1) λa=>ac (ae (.int 1)) λb=>ac (BG .Add a b) λc=>ac (ah 1 c) λU=>ae .next)
  (ac ((ac (ag [af 0,af 1]) λa=>ac (ag [ae (.bool false)]) λb=>am (Bv K) (a++b))) λa=>ae (.ret a)))
theorem CK (K:Nat){W:Wd}(Mo:Mod W){fm:Fm}(hsc:fm.sc=AB.sc)(hen:fm.env.scope=AB.scope)(hh:fm.hdl=none):SimS W 5 fm AB.body (Ag K):=
  Aa (sg hsc 1 rfl Ac)
  (Af (AA (Eh Mo.f_parse_basic_str EF (scm hsc 2 rfl) (by decide +kernel) (sl rfl (sv hsc 0 rfl) (sl rfl (sv hsc 1 rfl) .nil)) (SimKw.cons DF (SimKw.nil)) (λfm' hs he hd=>(E6 K Mo hs he (hd.trans hh)).up (by decide)))))
def Ao (K:Nat)(rec:M PFlow):M PFlow:=
  ((aj (ac ((AG .And [(ac ((ac (af 0) λa=>ac (af 3) λb=>As false a b)) λa=>ac (ae (.str [39])) λb=>ac (Au .NotEq a b) tst),(ac ((ac (af 0) λa=>ac (af 3) λb=>As false a b)) λa=>ac (ae (.str [34])) λb=>ac (Au .NotEq a b) tst)])) λc=>if c then (aj (ac (af 2) λa=>ac ((ac (af 0) λb=>ac (af 3) λd=>As false b d)) λb=>ac (BG .Add a b) λd=>ac (ah 2 d) λU=>ae .next)
  (aj (ac (af 3) λa=>ac (ae (.int 1)) λb=>ac (BG .Add a b) λc=>ac (ah 3 c) λU=>ae .next)
  (ae .cont))) else (ae .next))
  (aj (ac ((ac ((ac (af 0) λa=>ac (af 3) λb=>As false a b)) λa=>ac (ae (.str [39])) λb=>ac (Au .Eq a b) tst)) λc=>if c then (ac ((ac (ag [af 0,af 3]) (am (Ap K)))) λa=>ac (aC [ah 3,ah 4] a) λU=>ae .next) else (ac ((ac (ag [af 0,af 3]) (am (Ag K)))) λa=>ac (aC [ah 3,ah 4] a) λU=>ae .next))
  (aj (ac ((ac (af 1) λa=>ak (C2 a) (ac (ag [(ac (ag [af 2,(ac ((ac ((ac (af 2) λb=>ac (AM (some ((ac (ae (.int 1)) EY)))) λd=>ac (AM none) λe=>AT d e b)) λb=>ac (ae (.str [58])) λd=>ac (Au .Eq b d) tst)) λc=>if c then (ac (ag [af 4]) (am rec)) else af 4)]) ao)]) (Ce a)))) λU=>ae .next)
  (ac (ae (.str [])) λa=>ac (ah 2 a) λU=>ae .next)))))
def BH (K:Nat)(rec:M PFlow):M PFlow:=
  (aj (ac ((ac (ag []) ao)) λa=>ac (ah 1 a) λU=>ae .next)
  (aj (ac (ae (.str [])) λa=>ac (ah 2 a) λU=>ae .next)
  (aj (ac (ae (.int 0)) λa=>ac (ah 3 a) λU=>ae .next)
  (aj (az ((ac (af 3) λa=>ac ((ac (ag [af 0]) Cp)) λb=>ac (Au .Lt a b) tst)) (Ao K rec) K)
  (ac ((ac (af 1) λa=>ac ((ac (ag [af 2]) ao)) λb=>Aj .Add a b)) λa=>ae (.ret a))))))
theorem FH (K d:Nat){W:Wd}(Mo:Mod W){rec:M PFlow}{fm:Fm}(hsc:fm.sc=Ar.sc)(hen:fm.env.scope=Ar.scope)(hh:fm.hdl=none)(hrec:∀ {fm':Fm},fm'.sc=Ar.sc->fm'.env.scope=Ar.scope->fm'.hdl=none->SimS W (d+6) fm' Ar.body rec):SimS W (d+7) fm Ar.body (BH K rec):=
  Aa (sa hsc 1 rfl rfl (AZ .nil))
  (Aa (sa hsc 2 rfl rfl ss)
  (Aa (sa hsc 3 rfl rfl Ac)
  (Aa (Dp (cm rfl (sv hsc 3 rfl) (cb hsc 5 rfl (sl rfl (sv hsc 0 rfl) .nil) Be)) (Aa (AL (Bc (All2.cons (cm rfl (it hh (sv hsc 0 rfl) (sv hsc 3 rfl)) ss) (All2.cons (cm rfl (it hh (sv hsc 0 rfl) (sv hsc 3 rfl)) ss) (All2.nil)))) (Aa (sg hsc 2 rfl (it hh (sv hsc 0 rfl) (sv hsc 3 rfl)))
  (Aa (sg hsc 3 rfl Ac)
  (Af Fv))) AJ)
  (Aa (AL (cm rfl (it hh (sv hsc 0 rfl) (sv hsc 3 rfl)) ss) (Af (BU hh (gs rfl (gn hsc 3 rfl rfl) (gs rfl (gn hsc 4 rfl rfl) .nil)) (fq Mo.f_parse_literal_str DO hsc 6 rfl (sl rfl (sv hsc 0 rfl) (sl rfl (sv hsc 3 rfl) .nil)) hh (Ed K Mo)) (D6 rfl) (D7 rfl))) (Af (BU hh (gs rfl (gn hsc 3 rfl rfl) (gs rfl (gn hsc 4 rfl rfl) .nil)) (fq Mo.f_parse_one_line_basic_str Cu hsc 7 rfl (sl rfl (sv hsc 0 rfl) (sl rfl (sv hsc 3 rfl) .nil)) hh (CK K Mo)) (D6 rfl) (D7 rfl))))
  (Aa (Da (me rfl rfl (sv hsc 1 rfl) (sl rfl (AZ (sl rfl (sv hsc 2 rfl) (sl rfl (A7 (cm rfl (A4 (sv hsc 2 rfl) (SimO.some (Cd Ac)) SimO.none) ss) (fq Mo.f_law_unfolded Dx hsc 8 rfl (sl rfl (sv hsc 4 rfl) .nil) hh hrec) (sv hsc 4 rfl)) .nil))) .nil) Cm Db (Dc)) DM (CR rfl))
  (Af (sa hsc 2 rfl rfl ss))))) K)
  (Af (AA (Ae (sv hsc 1 rfl) (AZ (sl rfl (sv hsc 2 rfl) .nil))))))))
def Bk (K:Nat):Nat->M PFlow
 | 0=>aq
 | d+1=>BH K (Bk K d)
theorem Dz (K:Nat){W:Wd}(Mo:Mod W):∀ (d:Nat) {fm:Fm},fm.sc=Ar.sc->fm.env.scope=Ar.scope->fm.hdl=none->SimS W (d+6) fm Ar.body (Bk K d)
 | 0,_,_,_,_=>EA
 | d+1,_,h1,h2,h3=>FH K d Mo h1 h2 h3 (Dz K Mo d)
def DP (K:Nat):M PFlow:=Bk K 5
theorem Hj (K:Nat){W:Wd}(Mo:Mod W){fm:Fm}(hsc:fm.sc=Ar.sc)(hen:fm.env.scope=Ar.scope)(hh:fm.hdl=none):SimS W 11 fm Ar.body (DP K):=Dz K Mo 5 hsc hen hh
def OQ:List (Str × NameKind × Nat):=[(("sign":Str),.local,25)]
def EG (K:Nat):M PFlow:=
  ((aj (ac ((ac ((ac (af 4) λa=>ac (ae (.int 0)) λb=>ac (Au .GtE a b) tst)) λc=>if c then (ac (ae (.int 2)) λa=>ac (af 4) λb=>Aj .Mult a b) else (ac ((ac ((ac (ae (.int 2)) EY)) λa=>ac (af 4) λb=>Aj .Mult a b)) λa=>ac (ae (.int 1)) λb=>Aj .Sub a b))) λa=>ac (ah 5 a) λU=>ae .next)
  (aj (ac ((ac ((ac ((ac (ae (.int 3)) λa=>ac (af 2) λb=>Aj .Mult a b)) λa=>ac (af 5) λb=>Aj .Add a b)) λa=>ac (ae (.int 1024)) λb=>Aj .Mod a b)) λa=>ac (ah 2 a) λU=>ae .next)
  (aj (ac ((ac (ag [(ac (af 5) λa=>ac (ae (.int 5)) λb=>Aj .FloorDiv a b)]) (am (Du K)))) λa=>ac (ah 6 a) λU=>ae .next)
  (aj (ac ((ac ((ac ((ac (af 2) λa=>ac (ae (.int 3)) λb=>Aj .Mod a b)) λa=>ac (ae (.int 0)) λb=>ac (Au .Eq a b) tst)) λc=>if c then ae (.str []) else (ac (ae (.str [])) λa=>ak (Bo a) (ac (ag [(ac (ac (af 6) FR) λb=>aF [25] (aw b (ah 25) (AG .And [(AG .And [(ac (af 25) λd=>ac (ae (.str [39])) λe=>ac (Au .NotEq d e) tst),(ac (af 25) λd=>ac (ae (.str [34])) λe=>ac (Au .NotEq d e) tst)])]) (af 25) K 0 []))]) (EZ a))))) λa=>ac (ah 7 a) λU=>ae .next)
  (ac ((AG .And [(ac ((ac (af 5) λa=>ac (ae (.int 5)) λb=>Aj .Mod a b)) λa=>ac (ae (.int 3)) λb=>ac (Au .Eq a b) tst),(ac ((ac (ag [af 1]) Cp)) λa=>ac (ae (.int 5)) λb=>ac (Au .Lt a b) tst)])) λc=>if c then (ac ((ac (af 1) λa=>ak (C2 a) (ac (ag [(ac (ag []) ao)]) (Ce a)))) λU=>ae .next) else (ac ((AG .And [(ac ((ac (af 5) λa=>ac (ae (.int 5)) λb=>Aj .Mod a b)) λa=>ac (ae (.int 4)) λb=>ac (Au .Eq a b) tst),(ac ((ac (ag [af 1]) Cp)) λa=>ac (ae (.int 1)) λb=>ac (Au .Gt a b) tst)])) λc=>if c then (aj (ac ((ac ((ac (af 1) λa=>ak (C2 a) (ac (ag []) (SS a)))) λa=>ac ((ac (ag [af 7]) ao)) λb=>Aj .Add a b)) λa=>ac (ah 8 a) λU=>ae .next)
  (ac ((ac ((ac (af 1) λa=>ac ((ac (ae (.int 1)) EY)) λb=>As false a b)) λa=>ak (C2 a) (ac (ag [(ac (ag [(ac (af 7) λb=>ac (ae (.str [58])) λd=>Aj .Add b d),af 8]) ao)]) (Ce a)))) λU=>ae .next)) else (aj (ac ((ac ((ac (af 1) λa=>ac ((ac (ae (.int 1)) EY)) λb=>As false a b)) λa=>ak (C2 a) (ac (ag [(ac (ag [(ac ((ac ((ac (af 7) λb=>ac (AM (some ((ac (ae (.int 1)) EY)))) λd=>ac (AM none) λe=>AT d e b)) λb=>ac (ae (.str [58])) λd=>ac (Au .Eq b d) tst)) λc=>if c then (ac (af 7) λb=>ac (ae (.str [61])) λd=>Aj .Add b d) else af 7),(ac ((ac ((ac (af 2) λb=>ac (ae (.int 7)) λd=>Aj .Mod b d)) λb=>ac (ae (.int 6)) λd=>ac (Au .Eq b d) tst)) λc=>if c then ae (.str []) else af 6)]) ao)]) (Ce a)))) λU=>ae .next)
  (ac (af 3) λa=>ac (ae (.int 1)) λb=>ac (BG .Add a b) λc=>ac (ah 3 c) λU=>ae .next)))))))))
def EH (K:Nat):M PFlow:=
  ((aj (ac ((ac (ag [af 9,af 11,af 12,af 10]) (am (E5 K)))) λa=>ac (aC [ah 13,ah 14,ah 15] a) λU=>ae .next)
  (aj (aE (PO λt=>aK (ac (ae (.str t)) λa=>ac (ah 16 a) λU=>ae .next)) ((ac ((ac (ag [af 13]) (am (DP K)))) λb=>ac (ah 16 b) λU=>ae .next)))
  (ac ((ac (af 16) λa=>ac ((ac ((ac (af 15) λb=>ac (ae (.str [])) λd=>ac (Au .Eq b d) tst)) λc=>if c then af 9 else af 15)) λb=>ac (neB a b) tst)) λc=>if c then (ac (ae (.bool false)) λa=>ae (.ret a)) else (ae .next)))))
def EI (K:Nat):M PFlow:=
  ((ac (ac ((ac (ag [(ac (ae (.int 1)) EY),(ac (af 2) λa=>ac ((ac (ag [af 3,ae (.int 1)]) Uz)) λb=>Aj .Mod a b)]) ao)) FR) λa=>aG a (ah 12) (EH K) K 0))
def Iu (K:Nat):M PFlow:=
  (aj (ac ((ac (ag [(ac (ag []) ao)]) ao)) λa=>ac (ah 1 a) λU=>ae .next)
  (aj (ac (ae (.int 0)) λa=>ac (ah 2 a) λU=>ae .next)
  (aj (ac (ae (.int 0)) λa=>ac (ah 3 a) λU=>ae .next)
  (aj (ac (ac ((ac ((ac (ag [af 0]) M0)) λa=>ac ((ac (ag [(ac (ag [af 0]) Cp),ae (.int 2),ae (.int 2),ae (.int 2),ae (.int 2)]) ao)) λb=>Aj .Add a b)) FR) λa=>aG a (ah 4) (EG K) K 0)
  (aj (ac ((ac ((ac (af 1) λa=>ac (ae (.int 0)) λb=>As false a b)) λa=>ac ((ao [.str [92]])) λb=>Aj .Add a b)) λa=>ac (ah 9 a) λU=>ae .next)
  (aj (ac ((ac ((ac ((ac ((ac (af 2) λa=>ac (ae (.int 8)) λb=>Aj .FloorDiv a b)) λa=>ac (ae (.int 32)) λb=>Aj .Mod a b)) λa=>ac (ae (.int 9)) λb=>ac (Au .Eq a b) tst)) λc=>if c then ae (.int 127) else (ac ((ac (af 2) λa=>ac (ae (.int 8)) λb=>Aj .FloorDiv a b)) λa=>ac (ae (.int 32)) λb=>Aj .Mod a b))) λa=>ac (ah 10 a) λU=>ae .next)
  (aj (ac (ac ((ac (ag [ae (.int 0),af 2,(ac ((ac (ae (.int 3)) λa=>ac (af 2) λb=>Aj .Mult a b)) λa=>ac (ae (.int 1)) λb=>Aj .Add a b)]) ao)) FR) λa=>aG a (ah 11) (EI K) K 0)
  (ac (ae (.bool true)) λa=>ae (.ret a)))))))))
theorem Vp (K:Nat){W:Wd}(Mo:Mod W){fm:Fm}(hsc:fm.sc=Hg.sc)(hen:fm.env.scope=Hg.scope)(hh:fm.hdl=none):SimS W 12 fm Hg.body (Iu K):=
  Aa (sa hsc 1 rfl rfl (AZ (sl rfl (AZ .nil) .nil)))
  (Aa (sa hsc 2 rfl rfl Ac)
  (Aa (sa hsc 3 rfl rfl Ac)
  (Aa (DJ hh (DI (Ae (ct hsc 17 rfl (sl rfl (sv hsc 0 rfl) .nil) (Ip hh)) (AZ (sl rfl (cb hsc 18 rfl (sl rfl (sv hsc 0 rfl) .nil) Be) (sl rfl Ac (sl rfl Ac (sl rfl Ac (sl rfl Ac .nil)))))))) (gn hsc 4 rfl rfl) (Aa (sa hsc 5 rfl rfl (A7 (cm rfl (sv hsc 4 rfl) Ac) (Ae Ac (sv hsc 4 rfl)) (Ae (Ae (Cd Ac) (sv hsc 4 rfl)) Ac)))
  (Aa (sa hsc 2 rfl rfl (Ae (Ae (Ae Ac (sv hsc 2 rfl)) (sv hsc 5 rfl)) Ac))
  (Aa (sa hsc 6 rfl rfl (fc Mo.f_law_text KA hsc 19 rfl (sl rfl (Ae (sv hsc 5 rfl) Ac) .nil) hh (Mm K Mo)))
  (Aa (sa hsc 7 rfl rfl (A7 (cm rfl (Ae (sv hsc 2 rfl) Ac) Ac) ss (me rfl rfl ss (sl rfl ((ED (sc:=OQ) hh (Ci.of (by rw [hsc];decide +kernel)) (λfm' hsc hh=>gn hsc 0 rfl rfl) (DI (sv hsc 6 rfl)) (λfm' hsc hh=>All2.cons (Bc (All2.cons (cm rfl (sv hsc 0 rfl) ss) (All2.cons (cm rfl (sv hsc 0 rfl) ss) (All2.nil)))) (All2.nil)) (λfm' hsc hh=>sv hsc 0 rfl) (CS rfl) K).toE) .nil) D5 Cl (Gx))))
  (Af (AL (Bc (All2.cons (cm rfl (Ae (sv hsc 5 rfl) Ac) Ac) (All2.cons (cm rfl (cb hsc 18 rfl (sl rfl (sv hsc 1 rfl) .nil) Be) Ac) (All2.nil)))) (Af (Da (me rfl rfl (sv hsc 1 rfl) (sl rfl (AZ .nil) .nil) Cm Db (Dc)) DM (CR rfl))) (Af (AL (Bc (All2.cons (cm rfl (Ae (sv hsc 5 rfl) Ac) Ac) (All2.cons (cm rfl (cb hsc 18 rfl (sl rfl (sv hsc 1 rfl) .nil) Be) Ac) (All2.nil)))) (Aa (sa hsc 8 rfl rfl (Ae (me rfl rfl (sv hsc 1 rfl) .nil QS Db (UE)) (AZ (sl rfl (sv hsc 7 rfl) .nil))))
  (Af (Da (me rfl rfl (it hh (sv hsc 1 rfl) (Cd Ac)) (sl rfl (AZ (sl rfl (Ae (sv hsc 7 rfl) ss) (sl rfl (sv hsc 8 rfl) .nil))) .nil) Cm Db (Dc)) DM (CR rfl)))) (Aa (Da (me rfl rfl (it hh (sv hsc 1 rfl) (Cd Ac)) (sl rfl (AZ (sl rfl (A7 (cm rfl (A4 (sv hsc 7 rfl) (SimO.some (Cd Ac)) SimO.none) ss) (Ae (sv hsc 7 rfl) ss) (sv hsc 7 rfl)) (sl rfl (A7 (cm rfl (Ae (sv hsc 2 rfl) Ac) Ac) ss (sv hsc 6 rfl)) .nil))) .nil) Cm Db (Dc)) DM (CR rfl))
  (Af (sg hsc 3 rfl Ac))))))))))) (CS rfl) K)
  (Aa (sa hsc 9 rfl rfl (Ae (it hh (sv hsc 1 rfl) Ac) (CA (by kernel_rfl))))
  (Aa (sa hsc 10 rfl rfl (A7 (cm rfl (Ae (Ae (sv hsc 2 rfl) Ac) Ac) Ac) Ac (Ae (Ae (sv hsc 2 rfl) Ac) Ac)))
  (Aa (DJ hh (DI (AZ (sl rfl Ac (sl rfl (sv hsc 2 rfl) (sl rfl (Ae (Ae Ac (sv hsc 2 rfl)) Ac) .nil))))) (gn hsc 11 rfl rfl) (Af (DJ hh (DI (AZ (sl rfl (Cd Ac) (sl rfl (Ae (sv hsc 2 rfl) (cb hsc 20 rfl (sl rfl (sv hsc 3 rfl) (sl rfl Ac .nil)) (QN hh))) .nil)))) (gn hsc 12 rfl rfl) (Aa (BU hh (gs rfl (gn hsc 13 rfl rfl) (gs rfl (gn hsc 14 rfl rfl) (gs rfl (gn hsc 15 rfl rfl) .nil))) (fc Mo.f_law_folded Ei hsc 21 rfl (sl rfl (sv hsc 9 rfl) (sl rfl (sv hsc 11 rfl) (sl rfl (sv hsc 12 rfl) (sl rfl (sv hsc 10 rfl) .nil)))) hh (Jh K Mo)) (D6 rfl) (D7 rfl))
  (Aa (LV (scm hsc 23 rfl) (λk i q=>absurd q (by rw [hsc];exact Uw (by decide +kernel))) (by show fm.env.scope.names.lookup _=_;rw [hen];decide +kernel) (Af (sa hsc 16 rfl rfl (fc Mo.f_law_unfolded Dx hsc 22 rfl (sl rfl (sv hsc 13 rfl) .nil) hh (Hj K Mo)))) (λy t=>Jf (show _∈fm.sc from (scm hsc 16 rfl)) (Or.inl rfl) (Qc (i:=24) (by show fm.env.scope.names.lookup _=_;rw [hen];decide +kernel) (by decide +kernel) (show _∈fm.sc from (scm hsc 24 rfl))) (CR  rfl)))
  (Af (AL (cmL rfl (sv hsc 16 rfl) (A7 (cm rfl (sv hsc 15 rfl) ss) (sv hsc 9 rfl) (sv hsc 15 rfl))) (Af (AA DF)) AJ)))) (CS rfl) K)) (CS rfl) K)
  (Af (AA DF))))))))
end Mi
end
section
open PySem PySem.W PySem.Calls PyProof.Rows
open PySem.Sem (wp)
set_option maxRecDepth 10000
namespace Mh
theorem TX {c:ClaimW}{u3 c0 s':Shared}{args:List WData}{vs:List Value}{as:List Addr}{r:Result}(hsame:c.same=none)(hwi:c.within=[])(hi:∀ a b,c.ident a b=true)
  (hrd:ReadsAllW c.records (classAt u3.heap) c0.heap vs args as) (hold:∀ a∈as,∃ o,c0.heap.get? a=some o) (z8:c0.os=u3.os)
  (g:GoodWG c (classAt u3.heap) (ExcName.means u3.heap) args { c0 with gens:=#[] } r s') (hg:s'.gens = #[]):c.Ends u3 args vs c0 r s'/\s'.os=u3.os/\s'.gens = #[]:=by
 obtain ⟨hcase,hK,hos,hg'⟩:=g
 refine ⟨?_,hos.trans z8,hg⟩
 rcases hcase with ⟨v,d,bs,rfl,hnr,hrv,hpost,hun⟩ | ⟨e,ob,cls,rfl,he,hcls,hpr,hnew⟩
 ·exact .inl ⟨v,rfl,hnr,⟨d,args,bs,as,hrv,hrd.keepsK λb o e hc=>hK.get_of_cls e hc,hpost,λhu=>⟨(hun hu).1,(hun hu).2,λa ha hb'=>by
   obtain ⟨o,ho⟩:=hold a hb'
   have:=(hun hu).2 a ha
   rw [show c0.heap.get? a=none from this] at ho;cases ho⟩,λU U=>hi _ _⟩,(λi hi'=>by rw [hsame] at hi';cases hi'),(λb o hb' U U=>hK.old b o hb'),λi hi'=>by rw [hwi] at hi';cases hi'⟩
 ·exact .inr ⟨e,ob,cls,rfl,he,hcls,hpr,hnew,λb o hb'=>hK.old b o hb'⟩
abbrev QU (q:Program)(loose:List Str)(XP:(Str->Option Value)->Heap->Prop)(YP:World->Heap->Prop)(r:RowW)(d:DefRec)(kwd:List (Str × Expr))(run:Value->List Value->Sem Value):Prop:=
 ∀ (w:World) (u3 c0:Shared) (mg mb:Str->Option Value),Ground q loose r.records XP w u3 mg mb c0.heap->YP w c0.heap->∀ (a:Addr) (o:Obj) (pm cd doc dV kV:Value),c0.heap.get? a=some o ->
  o.data = .func { docDef d.name d.params d.body d.scope pm cd doc with defaults:=dV,kwdefaults:=kV }->c0.heap.CodeRec cd d.name->Dflts mg c0.heap d.params kwd dV kV->mg d.name=some (.ref a)->c0.gens = #[] ->
  ∀ (args:List WData) (vals:List Value) (as:List Addr),r.claim.pre args=true->WData.layableAll args=true->ReadsAllW r.records (classAt u3.heap) c0.heap vals args as->WellAll w.params c0.heap vals args->(∀ a∈as,(a==sysModules)=false) ->
   wpAny (model r.prog w) callerA (run (.ref a) vals) (λv s'=>GoodWG r.claim (classAt u3.heap) (ExcName.means u3.heap) args c0 (.ok (.ret v)) s'/\s'.gens = #[])
    (λe s'=>GoodWG r.claim (classAt u3.heap) (ExcName.means u3.heap) args c0 (.error e) s'/\s'.gens = #[]) c0
theorem Mn {V:Type}{r:OpenRow}{q:Program}{loose:List Str}{Yf:Shared->V}{Ya:World->V}{g:List (Addr × List Str)->Bool}{YP:World->Heap->Prop}{d:DefRec}{kwd:List (Str × Expr)}
  (left:∀ w,MW r.prog q loose Yf Ya g w) (hY:∀ w (S:SX),Inv w S->g S.gh=true->Yf S.sh.abs=Ya w->YP w S.sh.abs.heap) (hYk:∀ w h h',YP w h->(∀ b o,h.get? b=some o->h'.get? b=some o)->YP w h')
  (hdef:defOf q r.name=some (d,kwd)) (hp:r.prog.theDef r.name=some (d.params,d.body,d.scope)) (hk:kwWritten? d.params.kwonlyargs d.params.kw_defaults=some kwd) (hR:r.records=[]) (hw0:r.writes=false)
  (k1:r.wellSaid=true) (ok:(chainsOk q&&opensWell r.prog&&(frees r.toRowW&&r.within.isEmpty))=true) (hb:r.prog.bare) (hw:r.toRowW.promised)
  (call:QU q loose (λU U=>True) YP r.toRowW d kwd λf vs=>PySem.call f vs):r.Holds:=by
 obtain ⟨ok,k5⟩:=and_eq_true_iff.mp ok
 obtain ⟨hch,o1⟩:=and_eq_true_iff.mp ok
 obtain ⟨k5,k6⟩:=and_eq_true_iff.mp k5
 obtain ⟨hsame,hu,ha,hap,hm⟩:=frees_parts k5
 refine ⟨k1,hw,⟨hb,o1,by show r.makers.map _=[];rw [hm];rfl⟩,hw.witness,λw=>⟨(left w).1,λs' hs'=>?_⟩⟩
 obtain ⟨u3,hf,hg0,S,hI,hgh,hYf,hT,hz,hgens,hg,G00⟩:=(left w).2 s' hs'
 have RF:RecFacts r.records S.sh.abs.heap:=recFacts_nil hR
 have Y:=hY w S hI hgh hYf
 refine ⟨u3,hf,hg0,S.sh.abs,hT,λn hn=>?_,RF.1,RF.2.1,?_⟩
 ·obtain rfl:n=r.name:=by split at hn <;> simp_all
  exact pinned_of_view hg G00 hdef hp hk
 ·have G:Ground q loose r.records (λU U=>True) w S.sh.abs _ _ S.sh.abs.heap:=RF.ground G00
  refine ClaimW.callFrom_of_specN (c:=r.toRowW.claim) (tree:=λvs=>do match <- nsGet mainNs r.name with
   | some f=>do ret (<- PySem.call f vs)
   | none=>unsupported "claim.caller:no-such-global") hz hgens λargs hpre hlay ord hord=>?_
  obtain ⟨⟨vs,c0⟩,hlaid⟩:=Option.isSome_iff_exists.mp (layAllW_isSome (P:=w.params) (ord:=ord) G.has args r.args S.sh.abs (pre_splitW hpre).1)
  have keeps:=layAllW_keeps _ _ _ hlaid
  have hal:=layAllW_rest _ _ _ hlaid
  obtain ⟨as,hrd,hin,hold⟩:=reads_layAllW hord _ _ _ hlaid hlay c0.heap (λU U e=>e)
  have r7:=G.keeps (λU U U U U=>trivial) keeps
  obtain ⟨a,o,pm,cd,doc,dV,kV,h1,h2,h3,h4,h5⟩:=r7.fn hdef
  have h:=call w S.sh.abs { c0 with gens:=#[] } _ _ r7 (hYk _ _ _ Y keeps) a o pm cd doc dV kV h2 h3 h4 h5 (defOf_name hdef▸h1) rfl args vs as hpre hlay hrd (well_layAllW hord args S.sh.abs (vs,c0) hlaid _ λU U e=>e)
   (λa ha=>beq_eq_false_iff_ne.mpr λe=>by have:=(hin.2.2 a ha).1;subst e;exact absurd G.low (Nat.not_lt.mpr this))
  have hi:=ident_freeW hu ha hap
  have hwi:r.toRowW.claim.within=[]:=isEmpty_iff.mp k6
  have noW:∀ h':Heap,r.writes=true->namesKept r.prog r.keeps S.sh.abs.heap h'/\∀ x∈r.toRowW.claim.records,∀ a,classAt S.sh.abs.heap x.1=some a->recordClass h' a x.1 (x.2.map (·.1))=true:=λh' q=>by rw [hw0] at q;cases q
  have ht:∀ (s:Shared) (mg:Str->Option Value) (f:Value) (Q:PySem.Fin->Shared->Prop) (E:Value->Shared->Prop),s.heap.Ns mainGlobals mg->mg r.name=some f->wpAny (model r.prog w) callerA (PySem.call f vs) (λv s'=>Q (.done (.ret v)) s') E s ->
    wpAny (model r.prog w) callerA (do match <- nsGet mainNs r.name with
     | some f=>do ret (<- PySem.call f vs)
     | none=>unsupported "claim.caller:no-such-global") Q E s:=
   λs mg f Q E hg hf h=>wpAny_bind (wpAny_nsGet hg (by rw [hf];exact wpAny_bind (wpAny_mono h (λU U x=>wpAny_pure x) λU U x=>x)))
  exact ⟨vs,c0,hlaid,ht { c0 with gens:=#[] } _ _ _ _ r7.T.g (defOf_name hdef▸h1) (wpAny_mono h (λv s' g=>⟨_,rfl,have z:=TX (c:=r.toRowW.claim) hsame hwi hi hrd hold hal.2.2.1 g.1 g.2;⟨z.1,z.2.1,z.2.2,noW _⟩⟩)
   λe s' g=>have z:=TX (c:=r.toRowW.claim) hsame hwi hi hrd hold hal.2.2.1 g.1 g.2;⟨z.1,z.2.1,z.2.2,noW _⟩)⟩
end Mh
end
section
open PySem PySem.W PyProof.Rows
set_option maxRecDepth 10000
namespace Mi
section
variable {W:Wd}{n:Nat}{s:Shared}{fd:FuncData}{fi:Fi}{a P:Addr}{vs:List Value}{l:List PV}
def fm0 (P:Addr):Fm:={ env:={ (default:Env) with locals:=mainGlobals },stk:=[],av:=[P],own0:=[],tab:=[P],sc:=[],hdl:=none }
theorem SV (hb:∀ b o,W.h₀.get? b=some o->s.heap.get? b=some o)(hg:s.gens=W.gens)(ho:s.os=W.os)(hd:W.H.At W.h₀)(hP:Ch W.H s.heap P):InvS W (fm0 P) [] ⟨λU=>none,[]⟩ s:=by
 refine ⟨⟨hb,⟨_,hd.g.keeps hb,λx i h=>(by cases h)⟩,λx k i h=>(by cases h),⟨rfl,λi l e=>by simp at e,nodup_nil,λa h=>(by cases h),λa h=>(by cases h)⟩,λa h=>?_,trivial,λQ h=>?_⟩,hg,ho⟩
 ·have h:=mem_singleton.mp h
  subst h
  obtain ⟨ps,e,_⟩:=hP
  rw [e];rfl
 ·have h:=mem_singleton.mp h
  subst h
  exact hP
theorem QV {m:M PFlow}{ps':PS}{p:PV}(hb0:∀ b o,W.h₀.get? b=some o->s.heap.get? b=some o)(hg:s.gens=W.gens)(hos:s.os=W.os)(hd:W.H.At W.h₀)(hP:Ch W.H s.heap P)(hP0:W.h₀.get? P=none)(hPt:P=W.H.tabP)
  (Fa:FnAt W.h₀ a fd fi) (ok:fi.Ok) (hb:BindsTo s fd ⟨vs,[]⟩ (fi.params.zip vs)) (hl:fi.params.length=vs.length)
  (rl:RepL W.H W.h₀ [P] [] s.heap l vs) (hn:n<=12) (body:∀ fm':Fm,fm'.sc=fi.sc->fm'.env.scope=fi.scope->fm'.hdl=none->SimS W n fm' fi.body m) (res:m ⟨λi=>l[i]?,[]⟩ = .ok (.ret p) ps') :
  wpAny W.m callerA (call (.ref a) vs) (λv s'=>(∃ av V,RepV W.H W.h₀ av V s'.heap p v)/\(∀ b o,W.h₀.get? b=some o->s'.heap.get? b=some o)/\Ch W.H s'.heap P/\s'.gens=W.gens/\s'.os=W.os) (λU U=>False) s:=by
 have Fa':=Fa.keeps hb0
 have I:=SV hb0 hg hos hd hP
 obtain ⟨⟨o,ho,hd'⟩,hscope,hbody,hclo,hglob,hbi,hcode⟩:=Fa'
 have lim:s.heap.NoLimit:=hd.lim.keeps hb0
 have hdep:callerA.depth+n<900:=by
  have:callerA.depth<500:=by decide +kernel
  lia
 refine wpAny_call (codeAny_call_function (by show callerA.depth<1000;lia) ho hd' (by rw [hscope];exact ok.co) (by rw [hscope];exact ok.gen) hbody hcode (hb _ _ _ _ ?_))
 rw [hscope,hglob,hclo,hbi]
 refine wpAny_newFunctionEnv_cells ok.kind (λp hp=>?_) λenv he c0 X=>?_
 ·have hm:p.1∈fi.params:=(of_mem_zip (show (p.1,p.2)∈fi.params.zip vs from hp)).1
  rcases ok.parK p.1 hm with q | q
  ·exact .inl q
  ·exact .inr ⟨q,Cb _ _ _ (.inl q)⟩
 ·have he':env=Bj fd fi s.heap.objs.size a:=he
  subst he'
  refine ⟨lim.keeps X.toInCall.keep,codeAny_func ?_⟩
  have F':FmOk W.h₀ (AN (fm0 P) fd fi s.heap.objs.size a):=GV (λb m=>m) (λb m=>(by cases m)) (λb m=>by
   have m:=mem_singleton.mp m
   rw [m];exact hP0) I ok X
  have I':=Eu (fd:=fd) (a:=a) I ok hl rl X
  have C':Ctx W (AN (fm0 P) fd fi s.heap.objs.size a) n (callerA.deeper (Bj fd fi s.heap.objs.size a)):=by
   refine ⟨Around.frames_deeper (A:=callerA) (outer:=[]) rfl,?_,?_,rfl,?_,F',hd⟩
   ·show callerA.depth+1+n<990;lia
   ·have:callerA.units=4:=rfl
    show callerA.units+3+20*n+1000<cLine
    have:1500<cLine:=by decide +kernel
    lia
   ·show [P]=[W.H.tabP];rw [hPt]
  refine aW (body (AN (fm0 P) fd fi s.heap.objs.size a) rfl rfl rfl _ [] _ c0 C' I' (by rw [res];nofun)) (λf s' z=>?_) λx s' z=>?_
  ·obtain ⟨p',o0,α₁,y0,u0,l0,Y3,rf⟩:=z
   have y0:m ⟨λi=>l[i]?,[]⟩ = .ok p' o0:=y0
   rw [res] at y0;cases y0
   cases rf with
   | ret r=>exact ⟨⟨_,_,r⟩,u0.inv.base,u0.inv.tabs P (mem_singleton.mpr rfl),u0.gens,u0.os⟩
  ·obtain ⟨e,o0,α₁,y0,_⟩:=z
   have y0:m ⟨λi=>l[i]?,[]⟩ = .ex e o0:=y0
   rw [res] at y0;cases y0
end
def Vq (x y:Txt):Bool:=x==y
theorem SW {x y:Txt}(h:Vq x y=true):x=y:=eq_of_beq h
def EJ {β:Type}(o:Option β)(f:β->Bool):Bool:=match o with
 | some x=>f x
 | none=>false
theorem Bw {β:Type}{o:Option β}{f:β->Bool}(h:EJ o f=true):∃ x,o=some x/\f x=true:=by
 cases o with
 | none=>cases h
 | some x=>exact ⟨x,rfl,h⟩
def gIs (h:Heap)(x:Str)(a:Nat):Bool:=EJ (h.nsMap mainGlobals x) λv=>EJ (Mh.IF v) λb=>Nat.beq b a
theorem DQ {h:Heap}{x:Str}{a:Nat}(q:gIs h x a=true):h.nsMap mainGlobals x=some (.ref a):=by
 obtain ⟨v,e,q⟩:=Bw q
 obtain ⟨b,f,q⟩:=Bw q
 rw [e,Mh.Cv f,Nat.eq_of_beq_eq_true q]
def Mp (x:Str):Option Nat:=one x.cps.toList
def UH (c:Nat)(l:List Str):Bool:=l.any λx=>EJ (Mp x) (Nat.beq c)
def TY (l:List Str):Bool:=l.all λx=>EJ (Mp x) (Nat.blt · 128)
def QW (k:Nat)(l:List Str):Bool:=TY l&&(range 128).all λc=>(UH c l==A1 k c)
theorem OR {k c:Nat}(h:128<=c):A1 k c=false:=by
 rcases k with _ | _ | _ | _ | _ | k
 ·show (ctl c&&c != 9)=false
  simp [ctl];lia
 ·show (ctl c&&c != 9&&c != 10)=false
  simp [ctl];lia
 ·show (c==32||c==9)=false
  simp;lia
 ·show (c==32||c==9||c==10)=false
  simp;lia
 ·show hexd c=false
  simp [hexd];lia
 ·show ((48<=c&&c<=57)||(97<=c&&c<=122)||(65<=c&&c<=90)||c==45||c==95)=false
  simp;lia
theorem F0 {x:Str}{c:Nat}(h:Mp x=some c):x=txt [c]:=by
 rw [<- BB x,EP h]
theorem KC {l:List Str}{c:Nat}:UH c l=true↔txt [c]∈l:=by
 refine any_eq_true.trans ⟨λ⟨x,m,h⟩=>?_,λm=>⟨_,m,Nat.beq_refl c⟩⟩
 obtain ⟨d,e,h⟩:=Bw h
 rw [Nat.eq_of_beq_eq_true h,<- F0 e]
 exact m
theorem Iv {l:List Str}(h:TY l=true)(x:Str)(m:x∈l):∃ c,x=txt [c]/\c<128:=by
 obtain ⟨d,e,h⟩:=Bw (all_eq_true.mp h x m)
 exact ⟨d,F0 e,by simpa [Nat.blt_eq] using h⟩
theorem QX {k:Nat}{l:List Str}(h:QW k l=true):(λx=>decide (x∈l))=Fp k:=by
 obtain ⟨h1,h2⟩:=and_eq_true_iff.mp h
 have key:∀ c,decide (txt [c]∈l)=A1 k c:=λc=>by
  by_cases q:c<128
  ·have:=all_eq_true.mp h2 c (mem_range.mpr q)
   rw [<- beq_iff_eq.mp this]
   cases z:UH c l with
   | true=>exact decide_eq_true (KC.mp z)
   | false=>exact decide_eq_false λm=>by rw [KC.mpr m] at z;cases z
  ·rw [OR (by exact la [_] [([257],[2])] ([257],[2]) rfl (Nat.not_lt.mp q))]
   refine decide_eq_false λm=>?_
   obtain ⟨d,e,lt⟩:=Iv h1 _ m
   have:=(List.cons.inj (M1 e)).1
   exact q (this▸lt)
 funext x
 have no:(∀ c,x.cps.toList≠[c])->decide (x∈l)=false:=λn=>decide_eq_false λm=>by
  obtain ⟨c,e,_⟩:=Iv h1 _ m
  exact n c (by rw [e];rfl)
 show _=JU k x.cps.toList
 cases e:x.cps.toList with
 | nil=>exact no λc z=>by rw [e] at z;cases z
 | cons c r=>
  cases r with
  | nil=>exact (by rw [<- e,BB]:txt [c]=x)▸key c
  | cons d r=>exact no λc z=>by rw [e] at z;cases z
theorem UI {w:World}{S:Mh.SX}(I:Mh.Inv w S){a k:Nat}{l:List Str}(e:Mh.Eb a S.gh=some l)(h:QW k l=true)(prog:Program):∃ n,FrozAt (strKind prog w) S.sh.abs.heap a (Fp k) n/\n<4096:=by
 obtain ⟨hn,es,ep,t,e1,Si⟩:=I a l e
 refine ⟨l.length,?_,by have:=Si.lt;exact la [_] [([2,3,0],[2001])] ([2,3,0],[8193]) rfl this⟩
 rw [<- QX h]
 exact Si.froz (Mh.C7 hn e1)
theorem Mq {prog:Program}{w:World}{K:Type}[DecidableEq K]{knd:KeyKind prog w K}{h h':Heap}{a:Addr}{S:K->Bool}{n:Nat}(x:FrozAt knd h a S n)(k:∀ o,h.get? a=some o->h'.get? a=some o):FrozAt knd h' a S n:=by
 obtain ⟨es,ep,t,e,r⟩:=x
 exact ⟨es,ep,t,k _ e,r⟩
def SY:Value->Option Str
 | .str k _=>some k
 | _=>none
theorem Nk {v:Value}{k:Str}(h:SY v=some k):∃ t,v = .str k t:=by
 cases v with
 | str k t=>cases h;exact ⟨t,rfl⟩
 | _=>cases h
def OS (v:Value)(x:Txt):Bool:=match SY v with
 | some k=>Vq k.cps.toList x
 | none=>false
theorem Nl {v:Value}{x:Txt}(h:OS v x=true):∃ t,v = .str (txt x) t:=by
 unfold OS at h
 cases e:SY v with
 | none=>rw [e] at h;cases h
 | some k=>
  rw [e] at h
  obtain ⟨t,rfl⟩:=Nk e
  exact ⟨t,by rw [<- SW h,BB]⟩
def SZ:List DictEntry->List (Txt × Txt)->Bool
 | [],l=>l.isEmpty
 | e::es,l=>match l with
  | []=>false
  | p::l=>OS e.key p.1&&(OS e.val p.2&&SZ es l)
inductive EsAt:List DictEntry->List (Txt × Txt)->Prop
 | nil:EsAt [] []
 | cons {hs:Int} {a b:Txt} {tk tv:Tok} {es:List DictEntry} {l:List (Txt × Txt)} (r:EsAt es l):EsAt (⟨hs,.str (txt a) tk,.str (txt b) tv⟩::es) ((a,b)::l)
theorem S0 {es:List DictEntry}:∀ {l:List (Txt × Txt)},SZ es l=true->EsAt es l:=by
 induction es with
 | nil=>
  intro l h
  cases l with
  | nil=>exact .nil
  | cons=>cases h
 | cons e es ih=>
  intro l h
  cases l with
  | nil=>cases h
  | cons p l=>
   obtain ⟨h1,h2⟩:=and_eq_true_iff.mp (show (OS e.key p.1&&(OS e.val p.2&&SZ es l))=true from h)
   obtain ⟨h2,h3⟩:=and_eq_true_iff.mp h2
   obtain ⟨hs,ke,va⟩:=e
   obtain ⟨tk,rfl⟩:=Nl h1
   obtain ⟨tv,rfl⟩:=Nl h2
   exact .cons (ih h3)
def UJ (c:String):Value->Bool
 | .type d=>decide (d=c)
 | _=>false
theorem Nm {c:String}{v:Value}(h:UJ c v=true):v = .type c:=by
 cases v with
 | type d=>rw [of_decide_eq_true h]
 | _=>cases h
def UK:List Value->Option Addr
 | [v]=>Mh.IF v
 | _=>none
def QY:Data->Option Addr
 | .fields vs=>UK vs.toList
 | _=>none
theorem OT {d:Data}{a:Addr}(h:QY d=some a):d = .fields #[.ref a]:=by
 cases d with
 | fields vs=>
  obtain ⟨l⟩:=vs
  cases l with
  | nil=>cases h
  | cons v r=>
   cases r with
   | nil=>rw [Mh.Cv h]
   | cons=>cases h
 | _=>cases h
def QZ:Data->Option (List DictEntry)
 | .dict es _=>some es.toList
 | _=>none
theorem OU {d:Data}{es:List DictEntry}(h:QZ d=some es):∃ ep,d = .dict es.toArray ep:=by
 cases d with
 | dict es ep=>cases h;exact ⟨ep,rfl⟩
 | _=>cases h
def UL (o:Obj):Bool:=UJ "dict" o.cls&&(o.dict.isNone&&o.slots.toList.isEmpty)
def Nn (h:Heap)(a:Addr):Option (Addr × List DictEntry):=
 (h.get? a).bind λo=>cond (UJ "mappingproxy" o.cls) ((QY o.data).bind λd=>cond (Nat.beq d sysModules) none ((h.get? d).bind λod=>cond (UL od) ((QZ od.data).bind λes=>some (d,es)) none)) none
theorem Mr {h:Heap}{a d:Addr}{es:List DictEntry}(q:Nn h a=some (d,es)):∃ o od ep,h.get? a=some o/\o.cls = .type "mappingproxy"/\o.data = .fields #[.ref d]/\(d==sysModules)=false/\h.get? d=some od/\od.ExactDict/\od.data = .dict es.toArray ep:=by
 refine Mh.A5 q λo e q=>Mh.B6 q λc q=>Mh.A5 q λd' e1 q=>Mh.Pp q λn q=>Mh.A5 q λod e2 q=>Mh.B6 q λx q=>Mh.A5 q λes' e3 q=>?_
 obtain ⟨ep,e4⟩:=OU e3
 have q1:d'=d:=(Prod.mk.inj (aT q)).1
 have q2:es'=es:=(Prod.mk.inj (aT q)).2
 rw [q1] at e1 e2 n
 rw [q2] at e4
 obtain ⟨x1,x2⟩:=and_eq_true_iff.mp x
 obtain ⟨x2,x3⟩:=and_eq_true_iff.mp x2
 refine ⟨o,od,ep,e,Nm c,OT e1,?_,e2,?_,e4⟩
 ·exact bv.mpr λz=>by rw [z,Nat.beq_refl] at n;cases n
 ·exact ⟨Nm x1,Option.isNone_iff_eq_none.mp x2,Array.ext' (isEmpty_iff.mp x3)⟩
theorem OV {prog:Program}{w:World}{es:List DictEntry}{l:List (Txt × Txt)}(h:EsAt es l)(x:Txt):(l.lookup x=none->findBy (strKind prog w).is es.toArray (txt x)=none)/\∀ t,l.lookup x=some t->∃ tk,findBy (strKind prog w).is es.toArray (txt x)=some (.str (txt t) tk):=by
 induction h with
 | nil=>exact ⟨λU=>rfl,λt e=>(by cases e)⟩
 | @cons hs a b tk tv es l r ih=>
  unfold findBy at ih ⊢
  rw [List.find?_toArray] at ih ⊢
  rw [find?_cons,lookup_cons]
  by_cases q:x=a
  ·subst q
   rw [strKind_is,beq_self_eq_true]
   exact ⟨λe=>(by cases e),λt e=>⟨tv,by cases e;rfl⟩⟩
  ·have n1:(x==a)=false:=bv.mpr q
   have n2:(strKind prog w).is (txt x) (.str (txt a) tk)=false:=by
    cases z:(strKind prog w).is (txt x) (.str (txt a) tk) with
    | false=>rfl
    | true=>exact absurd (M1 ((strKind prog w).inj _ _ _ z (strKind_is prog w _ tk))) q
   rw [n1,n2]
   exact ih
theorem OW {prog:Program}{w:World}{es:List DictEntry}{l:List (Txt × Txt)}(h:EsAt es l)(hh:es.map (·.hash)=l.map (λe=>hashStr w (txt e.1))):∀ e∈es,∃ k,(strKind prog w).is k e.key=true/\e.hash=(strKind prog w).hash k:=by
 induction h with
 | nil=>intro e m;cases m
 | @cons hs a b tk tv es l r ih=>
  intro e m
  have hh:=List.cons.inj hh
  cases m with
  | head=>exact ⟨txt a,strKind_is _ _ _ _,hh.1⟩
  | tail _ z=>exact ih hh.2 e z
theorem KD (x:Txt):escT x=DZ.lookup x:=rfl
def OX (prog:Program)(w:World)(h:Heap)(a:Addr):Prop:=∃ o d f,h.get? a=some o/\o.cls = .type "mappingproxy"/\o.data = .fields #[.ref d]/\(d==sysModules)=false/\h.MapOf (strKind prog w) d f /\
  ∀ x:Txt,(escT x=none->f (txt x)=none)/\∀ t,escT x=some t->∃ tk,f (txt x)=some (.str (txt t) tk)
def Vr (h:Heap)(a:Addr):Option (List Int):=(Nn h a).bind λr=>cond (SZ r.2 DZ) (some (r.2.map (·.hash))) none
theorem Vs {prog:Program}{w:World}{h:Heap}{a:Addr}(q:Vr h a=some (DZ.map λe=>hashStr w (txt e.1))):OX prog w h a:=by
 refine Mh.A5 q λr e q=>Mh.B6 q λho q=>?_
 obtain ⟨d,es⟩:=r
 obtain ⟨o,od,ep,h1,h2,h3,h4,h5,h6,h7⟩:=Mr e
 have E:=S0 ho
 refine ⟨o,d,λk=>findBy (strKind prog w).is es.toArray k,h1,h2,h3,h4,⟨od,es.toArray,ep,h5,h6,h7,λe m=>OW E (aT q) e (Array.mem_toList_iff.mpr m),λU=>rfl⟩,λx=>?_⟩
 rw [KD]
 exact OV E x
theorem OX.keeps {prog:Program}{w:World}{h h':Heap}{a:Addr}(x:OX prog w h a)(k:∀ b o,h.get? b=some o->o.cls≠.none->h'.get? b=some o):OX prog w h' a:=by
 obtain ⟨o,d,f,h1,h2,h3,h4,⟨od,es,ep,m1,m2,m3⟩,h6⟩:=x
 exact ⟨o,d,f,k _ _ h1 (by rw [h2];nofun),h2,h3,h4,⟨od,es,ep,k _ _ m1 (by rw [m2.1];nofun),m2,m3⟩,h6⟩
def Q0 (h:Heap):Bool:=h.ownExcOk "TOMLDecodeError" [] Od "ValueError.__new__"&&match h.clsAt mainGlobals "TOMLDecodeError" with
 | some (_,_,cd)=>(["__init__", "__getattribute__", "__getattr__", "args", "__str__", "__repr__", "__new__"]:List Str).all λx=>(h.nsMap cd.ns x).isNone
 | none=>false
set_option tactic.hygienic true in
theorem UM {h:Heap}(q:Q0 h=true):∃ C,h.nsMap mainGlobals "TOMLDecodeError" = some (.ref C)/\ClsAt C h:=by
 unfold Q0 at q
 obtain ⟨q1,q2⟩:=and_eq_true_iff.mp q
 obtain ⟨C,N,nm,qn,bs,hdct,sn,sub,ab,col,dd,k0,k1,k2,k3,k5,g1,g2,g3,g4⟩:=Heap.ownExc_of_ok q1
 refine ⟨C,g1,⟨nm,qn,N,bs,hdct,sn,sub,ab,col,dd,k0,k1,k2,k3,k5,_,g2,g3,λx m=>?_⟩⟩
 split at q2
 ·rename_i C' o cd e
  obtain ⟨f1,f2,f3⟩:=Heap.clsAt_spec e
  rw [g1] at f1;cases f1
  rw [g2] at f2;cases f2
  cases f3
  have:=all_eq_true.mp q2 x m
  simpa using this
 ·cases q2
theorem ClsAt.keepsC {C:Addr}{h h':Heap}(x:ClsAt C h)(k:∀ b o,h.get? b=some o->o.cls≠.none\/(∀ vs,o.data≠.fields vs)->h'.get? b=some o):ClsAt C h':=by
 obtain ⟨nm,q,N,bs,hdct,sn,sub,ab,col,dd,k0,k1,k2,k3,k5,mN,h1,⟨o,es,ep,n1,n2,n3⟩,h3⟩:=x.at_
 exact ⟨nm,q,N,bs,hdct,sn,sub,ab,col,dd,k0,k1,k2,k3,k5,mN,k _ _ h1 (.inl (by nofun)),⟨o,es,ep,k _ _ n1 (.inr λvs z=>by rw [n2] at z;cases z),n2,n3⟩,h3⟩
end Mi
end
section
open PySem PySem.W PySem.Calls PyProof.Rows
set_option maxRecDepth 100000
namespace Mi
open PySem.Challenge
def F1 (fd:FuncData)(ps:List Str)(np:Nat)(kws:List Str):Prop:=∀ vs ks:List Value,vs.length=np->ks.length=kws.length->bindArgs fd ⟨vs,kws.zip ks⟩=pure (ps.zip (vs++(ks++[])))
theorem De {vs:List Value}{n:Nat}(h:vs.length=n+1):∃ a r,vs=a::r/\r.length=n:=by
 cases vs with
 | nil=>cases h
 | cons a r=>exact ⟨a,r,rfl,Nat.succ.inj h⟩
theorem Q1 {fd:FuncData}{ps:List Str}(h:∀ a,bindArgs fd ⟨[a],[]⟩=pure (ps.zip [a])):F1 fd ps 1 []:=by
 intro vs ks q1 q2
 obtain ⟨a,r1,rfl,p1⟩:=De q1
 cases eq_nil_of_length_eq_zero p1
 cases eq_nil_of_length_eq_zero q2
 exact h a
theorem S5 {fd:FuncData}{ps:List Str}(h:∀ a b,bindArgs fd ⟨[a,b],[]⟩=pure (ps.zip [a,b])):F1 fd ps 2 []:=by
 intro vs ks q1 q2
 obtain ⟨a,r1,rfl,p1⟩:=De q1
 obtain ⟨b,r2,rfl,p2⟩:=De p1
 cases eq_nil_of_length_eq_zero p2
 cases eq_nil_of_length_eq_zero q2
 exact h a b
theorem UN {fd:FuncData}{ps:List Str}(h:∀ a b c,bindArgs fd ⟨[a,b,c],[]⟩=pure (ps.zip [a,b,c])):F1 fd ps 3 []:=by
 intro vs ks q1 q2
 obtain ⟨a,r1,rfl,p1⟩:=De q1
 obtain ⟨b,r2,rfl,p2⟩:=De p1
 obtain ⟨c,r3,rfl,p3⟩:=De p2
 cases eq_nil_of_length_eq_zero p3
 cases eq_nil_of_length_eq_zero q2
 exact h a b c
theorem Wb {fd:FuncData}{ps:List Str}(h:∀ a b c d,bindArgs fd ⟨[a,b,c,d],[]⟩=pure (ps.zip [a,b,c,d])):F1 fd ps 4 []:=by
 intro vs ks q1 q2
 obtain ⟨a,r1,rfl,p1⟩:=De q1
 obtain ⟨b,r2,rfl,p2⟩:=De p1
 obtain ⟨c,r3,rfl,p3⟩:=De p2
 obtain ⟨d,r4,rfl,p4⟩:=De p3
 cases eq_nil_of_length_eq_zero p4
 cases eq_nil_of_length_eq_zero q2
 exact h a b c d
theorem Vt {fd:FuncData}{ps:List Str}{x:Str}(h:∀ a b c,bindArgs fd ⟨[a,b],[(x,c)]⟩=pure (ps.zip [a,b,c])):F1 fd ps 2 [x]:=by
 intro vs ks q1 q2
 obtain ⟨a,r1,rfl,p1⟩:=De q1
 obtain ⟨b,r2,rfl,p2⟩:=De p1
 obtain ⟨c,r3,rfl,p3⟩:=De q2
 cases eq_nil_of_length_eq_zero p2
 cases eq_nil_of_length_eq_zero p3
 exact h a b c
theorem UO {fd:FuncData}{ps:List Str}{x y:Str}(h:∀ a b c d e,bindArgs fd ⟨[a,b,c],[(x,d),(y,e)]⟩=pure (ps.zip [a,b,c,d,e])):F1 fd ps 3 [x,y]:=by
 intro vs ks q1 q2
 obtain ⟨a,r1,rfl,p1⟩:=De q1
 obtain ⟨b,r2,rfl,p2⟩:=De p1
 obtain ⟨c,r3,rfl,p3⟩:=De p2
 obtain ⟨d,r4,rfl,p4⟩:=De q2
 obtain ⟨e,r5,rfl,p5⟩:=De p4
 cases eq_nil_of_length_eq_zero p3
 cases eq_nil_of_length_eq_zero p5
 exact h a b c d e
theorem Q2 {s:Shared}{fd:FuncData}{x:Str}{u:Value}{d:Addr}{m:Str->Option Value}{vs:List Value}{L:List (Str × Value)}{α₁ Y0:Type}{e8:Option Value->Sem α₁}{f8:α₁->Sem Y0}{g8:Y0->Sem (List (Str × Value))}(hn:s.heap.Ns d m)(hm:m x=some u)
  (h:bindArgs fd ⟨vs,[]⟩=((nsGet d x >>= e8) >>= f8) >>= g8) (hF:(e8 (some u) >>= f8) >>= g8=pure L):BindsTo s fd ⟨vs,[]⟩ L:=by
 intro M A E Q hq
 rw [h,bind_assoc,bind_assoc]
 refine bf (wpAny_nsGet hn ?_)
 rw [hm,<- bind_assoc,hF]
 exact bg hq
section
variable {p:Program}{loose:List Str}{mean:ExcName->Option Value}{mg mb:Str->Option Value}{h:Heap}{W:Wd}
theorem TZ {d:DefRec}{fi:Fi}(T:Top p loose mean mg mb h)(K:∀ b o,h.get? b=some o->o≠tabObj #[]->W.h₀.get? b=some o){j:Nat}(hj:(recsOf p)[j]? = some d)(h1:d.scope=fi.scope)(h2:d.body=fi.body) :
  ∃ a pm cd doc,mg d.name=some (.ref a)/\FnAt W.h₀ a (docDef d.name d.params d.body d.scope pm cd doc) fi:=by
 obtain ⟨a,o,pm,cd,doc,e1,e2,e3,e4⟩:=T.fn d (mem_of_getElem? hj)
 obtain ⟨c,oc,vs,t,f1,f2,f3,f4⟩:=e4
 refine ⟨a,pm,cd,doc,e1,⟨o,K _ _ e2 (λz=>by rw [z] at e3;cases e3),e3⟩,h1,by show FuncBody.stmts d.body=_;rw [h2],rfl,rfl,rfl,⟨c,oc,vs,t,f1,K _ _ f2 λz=>?_,f3,f4⟩⟩
 rw [z] at f3
 cases f3
 simp at f4
theorem CW {d:DefRec}{fi:Fi}{x:Str}{np:Nat}{kws:List Str}(hH:W.H.mg=mg)(T:Top p loose mean mg mb h)(K:∀ b o,h.get? b=some o->o≠tabObj #[]->W.h₀.get? b=some o){j:Nat}(hj:(recsOf p)[j]? = some d)(hx:d.name=x)
  (h1:d.scope=fi.scope) (h2:d.body=fi.body) (hl:fi.params.length=np+kws.length+0) (hb:∀ pm cd doc,F1 (docDef d.name d.params d.body d.scope pm cd doc) fi.params np kws):Dt W x fi np kws []:=by
 obtain ⟨a,pm,cd,doc,e1,F⟩:=TZ T K hj h1 h2
 exact ⟨a,_,by rw [hH,<- hx];exact e1,F,hl,λs vs ks U q1 q2=>.of_eq (hb pm cd doc vs ks q1 q2)⟩
end
def q04:Program:=view pw_kp0046_04 [0,1,3,4,5,6,7,8,9,10,11,13,15,16,17,18,19,21,22,23,24,25,26,28,29,30,31,32,33,34,35]
def Bq:List Str:=["_WallAttr", "ASCII_CTRL", "ILLEGAL_BASIC_STR_CHARS", "ILLEGAL_MULTILINE_BASIC_STR_CHARS", "ILLEGAL_LITERAL_STR_CHARS", "TOML_WS", "TOML_WS_AND_NEWLINE", "hexdigits", "HEXDIGIT_CHARS", "MappingProxyType", "BASIC_STR_ESCAPE_REPLACEMENTS", "parse_basic_str_escape"]
def Q3 (k:Nat):Option Addr:=[72,77,78,86,87][k]?
def OY (k a:Nat)(gh:List (Addr × List Str)):Bool:=EJ (Mh.Eb a gh) (QW k)
def g04 (gh:List (Addr × List Str)):Bool:=OY 0 72 gh&&(OY 1 77 gh&&(OY 2 78 gh&&(OY 3 86 gh&&OY 4 87 gh)))
theorem E7 {k a:Nat}{w:World}{S:Mh.SX}(I:Mh.Inv w S)(h:OY k a S.gh=true)(prog:Program):∃ n,FrozAt (strKind prog w) S.sh.abs.heap a (Fp k) n/\n<4096:=by
 obtain ⟨l,e,h⟩:=Bw h
 exact UI I e h prog
def Ms:Data->Option FuncData
 | .func fd=>some fd
 | _=>none
def KF:Data->Option (Array Value)
 | .fields vs=>some vs
 | _=>none
def Vu:Value->Bool
 | .type _=>true
 | _=>false
theorem KG {d:Data}{fd:FuncData}(h:Ms d=some fd):d = .func fd:=by cases d <;> cases h <;> rfl
theorem fieldsOf_some {d:Data}{vs:Array Value}(h:KF d=some vs):d = .fields vs:=by cases d <;> cases h <;> rfl
def Jj (h:Heap)(a:Addr):Option (Str × Arguments × FuncBody × Scope × Addr × List (Str × Addr) × Value × Addr):=(h.get? a).bind λo=>(Ms o.data).bind λfd=>some (fd.qualname,fd.params,fd.body,fd.scope,fd.globals,fd.closure,fd.defaults,fd.builtins)
def No (h:Heap)(a:Addr)(q x:Str):Bool:=EJ (h.get? a) λo=>EJ (Ms o.data) λfd=>EJ (Mh.IF fd.kwdefaults) λd=>h.isNs d&&(decide (h.nsMap d x=some (.bool false))&&EJ (Mh.IF fd.code) λc=>EJ (h.get? c) λoc=>Vu oc.cls&&EJ (KF oc.data) λvs=>EJ vs[1]? λv=>EJ (SY v) λq'=>decide (q'=q))
def KH (h:Heap)(a:Addr)(q x:Str)(st:Stmt):Prop:=∃ o fd d m,h.get? a=some o/\o.data = .func fd/\fd.qualname=q/\fd.params=Ha st/\fd.body = .stmts (AO st)/\fd.scope=AP st/\fd.globals=mainGlobals/\fd.closure=[]/\fd.defaults = .none/\fd.builtins=builtinsNs /\
 fd.kwdefaults = .ref d/\h.Ns d m/\m x=some (.bool false)/\∃ c oc vs t,fd.code = .ref c/\h.get? c=some oc/\oc.cls≠.none/\oc.data = .fields vs/\vs[1]? = some (.str q t)
theorem UP {h:Heap}{a:Addr}{q x:Str}{st:Stmt}(h1:Jj h a=some (q,Ha st,.stmts (AO st),AP st,mainGlobals,[],.none,builtinsNs))(h2:No h a q x=true):KH h a q x st:=by
 obtain ⟨o,e,h2⟩:=Bw h2
 obtain ⟨fd,f,h2⟩:=Bw h2
 obtain ⟨d,ed,h2⟩:=Bw h2
 obtain ⟨n1,h2⟩:=and_eq_true_iff.mp h2
 obtain ⟨n2,h2⟩:=and_eq_true_iff.mp h2
 obtain ⟨c,ec,h2⟩:=Bw h2
 obtain ⟨oc,eo,h2⟩:=Bw h2
 obtain ⟨et,h2⟩:=and_eq_true_iff.mp h2
 obtain ⟨vs,ev,h2⟩:=Bw h2
 obtain ⟨v,v1,h2⟩:=Bw h2
 obtain ⟨q',v2,h2⟩:=Bw h2
 obtain ⟨t,rfl⟩:=Nk v2
 rw [Jj,e,Option.bind_some,f,Option.bind_some] at h1
 have h1:=aT h1
 exact ⟨o,fd,d,_,e,KG f,congrArg (·.1) h1,congrArg (·.2.1) h1,congrArg (·.2.2.1) h1,congrArg (·.2.2.2.1) h1,congrArg (·.2.2.2.2.1) h1,congrArg (·.2.2.2.2.2.1) h1,congrArg (·.2.2.2.2.2.2.1) h1,congrArg (·.2.2.2.2.2.2.2) h1,
  Mh.Cv ed,.of_isNs n1,aX n2,c,oc,vs,t,Mh.Cv ec,eo,λz=>by (rw [z] at et;cases et),fieldsOf_some ev,aX h2▸v1⟩
theorem KH.keeps {h h':Heap}{a:Addr}{q x:Str}{st:Stmt}(X:KH h a q x st)(k:∀ b o,h.get? b=some o->o≠tabObj #[]->h'.get? b=some o):KH h' a q x st:=by
 obtain ⟨o,fd,d,m,h1,h2,h3,h4,h5,h6,h7,h8,h9,h10,h11,⟨o',es,ep,n1,n2,n3⟩,h13,c,oc,vs,t,c1,c2,c3,c4⟩:=X
 exact ⟨o,fd,d,m,k _ _ h1 (λz=>by rw [z] at h2;cases h2),h2,h3,h4,h5,h6,h7,h8,h9,h10,h11,⟨o',es,ep,k _ _ n1 (λz=>by rw [z] at n2;cases n2),n2,n3⟩,h13,c,oc,vs,t,c1,k _ _ c2 (λz=>by rw [z] at c3;exact c3 rfl),c3,c4⟩
def Vv:Data->Bool
 | .dict _ _=>true
 | _=>false
def T4 (h:Heap):Bool:=EJ (h.get? sysModules) λo=>Vv o.data
def Q4 (h:Heap):Prop:=∃ o es ep,h.get? sysModules=some o/\o.data = .dict es ep
theorem UQ {h:Heap}(q:T4 h=true):Q4 h:=by
 obtain ⟨o,e,q⟩:=Bw q
 cases z:o.data <;> rw [z] at q <;> cases q
 exact ⟨o,_,_,e,z⟩
def Np (h:Heap):Bool:=gIs h "ILLEGAL_BASIC_STR_CHARS" 72&&(gIs h "ILLEGAL_LITERAL_STR_CHARS" 72&&(gIs h "ILLEGAL_MULTILINE_BASIC_STR_CHARS" 77&&(gIs h "TOML_WS" 78&&(gIs h "TOML_WS_AND_NEWLINE" 86&&(gIs h "HEXDIGIT_CHARS" 87 &&
 (gIs h "BASIC_STR_ESCAPE_REPLACEMENTS" 93&&(gIs h "parse_basic_str_escape" 135&&(Q0 h&&(T4 h&&(h.isNs mainGlobals&&No h 135 "parse_basic_str_escape" "multiline"))))))))))
abbrev Y04:Type:=Bool × Option (List Int) × Option (Str × Arguments × FuncBody × Scope × Addr × List (Str × Addr) × Value × Addr)
def Mt (s:Shared):Y04:=(Np s.heap,Vr s.heap 93,Jj s.heap 135)
def Mu (w:World):Y04:=(true,some (DZ.map λe=>hashStr w (txt e.1)),some ("parse_basic_str_escape",Ha (nth 20),.stmts (AO (nth 20)),AP (nth 20),mainGlobals,[],.none,builtinsNs))
structure Head04 (w:World)(h:Heap)(m:Str->Option Value):Prop where
 ns:h.Ns mainGlobals m
 n0:m "ILLEGAL_BASIC_STR_CHARS" = some (.ref 72)
 n1:m "ILLEGAL_LITERAL_STR_CHARS" = some (.ref 72)
 n2:m "ILLEGAL_MULTILINE_BASIC_STR_CHARS" = some (.ref 77)
 n3:m "TOML_WS" = some (.ref 78)
 n4:m "TOML_WS_AND_NEWLINE" = some (.ref 86)
 n5:m "HEXDIGIT_CHARS" = some (.ref 87)
 n6:m "BASIC_STR_ESCAPE_REPLACEMENTS" = some (.ref 93)
 n7:m "parse_basic_str_escape" = some (.ref 135)
 cls:∃ C,m "TOMLDecodeError" = some (.ref C)/\ClsAt C h
 sys:Q4 h
 mp:OX pw_kp0046_04 w h 93
 sets:∀ k a,Q3 k=some a->∃ n,FrozAt (strKind pw_kp0046_04 w) h a (Fp k) n/\n<4096
 esc:KH h 135 "parse_basic_str_escape" "multiline" (nth 20)
theorem Head04.keeps {w:World}{h h':Heap}{m:Str->Option Value}(x:Head04 w h m)(k:∀ b o,h.get? b=some o->o≠tabObj #[]->h'.get? b=some o):Head04 w h' m where
 ns:=by
  obtain ⟨o,es,ep,e,hd,r⟩:=x.ns
  exact ⟨o,es,ep,k _ _ e (λz=>by rw [z] at hd;cases hd),hd,r⟩
 n0:=x.n0
 n1:=x.n1
 n2:=x.n2
 n3:=x.n3
 n4:=x.n4
 n5:=x.n5
 n6:=x.n6
 n7:=x.n7
 cls:=by
  obtain ⟨C,e,X⟩:=x.cls
  exact ⟨C,e,X.keepsC λb o e q=>k b o e λz=>by
  subst z
  rcases q with q | q
  ·exact q rfl
  ·exact q #[] rfl⟩
 sys:=by
  obtain ⟨o,es,ep,e,hd⟩:=x.sys
  exact ⟨o,es,ep,k _ _ e (λz=>by rw [z] at hd;cases hd),hd⟩
 mp:=x.mp.keeps λb o e n=>k b o e λz=>by rw [z] at n;exact n rfl
 sets:=λi a e=>by
  obtain ⟨n,F,lt⟩:=x.sets i a e
  exact ⟨n,Mq F (λo e=>k _ _ e λz=>(by
  obtain ⟨es,ep,t,e',_⟩:=F
  rw [e] at e'
  rw [z] at e'
  cases e')),lt⟩
 esc:=x.esc.keeps k
def S7 (w:World)(h:Heap):Prop:=∃ m,Head04 w h m
theorem Mv (w:World)(h h':Heap):S7 w h->(∀ b o,h.get? b=some o->h'.get? b=some o)->S7 w h':=λ⟨m,x⟩ k=>⟨m,x.keeps λb o e U=>k b o e⟩
theorem S8 (w:World)(S:Mh.SX)(I:Mh.Inv w S)(hg:g04 S.gh=true)(hy:Mt S.sh.abs=Mu w):S7 w S.sh.abs.heap:=by
 simp only [Mt,Mu,Prod.mk.injEq] at hy
 obtain ⟨y1,y2,y3⟩:=hy
 simp only [Np,and_eq_true] at y1
 obtain ⟨a0,a1,a2,a3,a4,a5,a6,a7,a8,a9,a10,a11⟩:=y1
 simp only [g04,and_eq_true] at hg
 obtain ⟨g0,g1,g2,g3,g4⟩:=hg
 refine ⟨_,.of_isNs a10,DQ a0,DQ a1,DQ a2,DQ a3,DQ a4,DQ a5,DQ a6,DQ a7,UM a8,UQ a9,Vs y2,λk a e=>?_,UP y3 a11⟩
 rcases k with _ | _ | _ | _ | _ | k <;> cases e
 ·exact E7 I g0 _
 ·exact E7 I g1 _
 ·exact E7 I g2 _
 ·exact E7 I g3 _
 ·exact E7 I g4 _
theorem Q5 (w:World)(os:OsState):Mh.Dm (Mh.En pw_kp0046_04 ((w.withFollow "comprehension-iter-twice" true).withFollow "special-get-raises" true) os)
  (Mh.look pw_kp0046_04 q04 Bq ((w.withFollow "comprehension-iter-twice" true).withFollow "special-get-raises" true) Mt) g04 =
  some (Mh.Lp q04 Bq ((w.withFollow "comprehension-iter-twice" true).withFollow "special-get-raises" true) os (Mu ((w.withFollow "comprehension-iter-twice" true).withFollow "special-get-raises" true))):=by kernel_rfl
theorem Q6 (w:World)(os:OsState):Mh.Dm (Mh.En pw_kp0046_04 ((w.withFollow "comprehension-iter-twice" true).withFollow "special-get-raises" false) os)
  (Mh.look pw_kp0046_04 q04 Bq ((w.withFollow "comprehension-iter-twice" true).withFollow "special-get-raises" false) Mt) g04 =
  some (Mh.Lp q04 Bq ((w.withFollow "comprehension-iter-twice" true).withFollow "special-get-raises" false) os (Mu ((w.withFollow "comprehension-iter-twice" true).withFollow "special-get-raises" false))):=by kernel_rfl
theorem Q7 (w:World)(os:OsState):Mh.Dm (Mh.En pw_kp0046_04 ((w.withFollow "comprehension-iter-twice" false).withFollow "special-get-raises" true) os)
  (Mh.look pw_kp0046_04 q04 Bq ((w.withFollow "comprehension-iter-twice" false).withFollow "special-get-raises" true) Mt) g04 =
  some (Mh.Lp q04 Bq ((w.withFollow "comprehension-iter-twice" false).withFollow "special-get-raises" true) os (Mu ((w.withFollow "comprehension-iter-twice" false).withFollow "special-get-raises" true))):=by kernel_rfl
theorem Q8 (w:World)(os:OsState):Mh.Dm (Mh.En pw_kp0046_04 ((w.withFollow "comprehension-iter-twice" false).withFollow "special-get-raises" false) os)
  (Mh.look pw_kp0046_04 q04 Bq ((w.withFollow "comprehension-iter-twice" false).withFollow "special-get-raises" false) Mt) g04 =
  some (Mh.Lp q04 Bq ((w.withFollow "comprehension-iter-twice" false).withFollow "special-get-raises" false) os (Mu ((w.withFollow "comprehension-iter-twice" false).withFollow "special-get-raises" false))):=by kernel_rfl
theorem Vw (b1 b2:Bool)(w:World)(os:OsState):Mh.Dm (Mh.En pw_kp0046_04 ((w.withFollow "comprehension-iter-twice" b1).withFollow "special-get-raises" b2) os)
  (Mh.look pw_kp0046_04 q04 Bq ((w.withFollow "comprehension-iter-twice" b1).withFollow "special-get-raises" b2) Mt) g04 =
  some (Mh.Lp q04 Bq ((w.withFollow "comprehension-iter-twice" b1).withFollow "special-get-raises" b2) os (Mu ((w.withFollow "comprehension-iter-twice" b1).withFollow "special-get-raises" b2))):=by
 cases b1 <;> cases b2
 ·exact Q8 w os
 ·exact Q7 w os
 ·exact Q6 w os
 ·exact Q5 w os
theorem Mw {R:WRecords}{cl:Str->Option Addr}{h:Heap}:∀ {xs:List WData} {vs:List Value} {as:List Addr},WShape.hasItems R xs .int=true->ReadsAllW R cl h vs xs as->∃ l:List Int,xs=l.map .int/\IntsAre vs l:=by
 intro xs
 induction xs with
 | nil=>
  intro vs as _ r
  obtain ⟨rfl,_⟩:=readsAllW_nil_inv r
  exact ⟨[],rfl,.nil⟩
 | cons x xs ih=>
  intro vs as hx r
  obtain ⟨h1,h2⟩:=and_eq_true_iff.mp hx
  obtain ⟨i,rfl⟩:=hasW_int h1
  obtain ⟨v,vs,_,_,rfl,_,a,b⟩:=readsAllW_cons_inv r
  obtain ⟨t,rfl,_⟩:=readsW_int_inv a
  obtain ⟨l,rfl,q⟩:=ih h2 b
  exact ⟨i::l,rfl,.cons i t q⟩
theorem OZ {R:WRecords}{cl:Str->Option Addr}{h:Heap}{args:List WData}{vals:List Value}{as:List Addr}(h1:WShape.hasAll R args [.list .int]=true)(rd:ReadsAllW R cl h vals args as) :
  ∃ L vs l,vals=[.ref L]/\args=[.list (l.map .int)]/\h.IsList L vs/\IntsAre vs.toList l:=by
 obtain ⟨d,r,rfl,hd,hr⟩:=hasAllW_cons h1
 obtain rfl:=hasAllW_nil hr
 obtain ⟨xs,rfl,hi⟩:=hasW_list hd
 obtain ⟨v,vs,_,_,rfl,_,a,b⟩:=readsAllW_cons_inv rd
 obtain ⟨rfl,_⟩:=readsAllW_nil_inv b
 obtain ⟨L,o,its,n,ai,rfl,e1,e2,e3,e4,_⟩:=readsW_list_open a
 obtain ⟨l,rfl,q⟩:=Mw hi e4
 exact ⟨L,its,l,rfl,rfl,⟨o,e1,e2,n,e3⟩,q⟩
theorem S9 {R:WRecords}{n:Nat}{l:List Int}{b:WTm}(h:(WTm.and (.not (.lt (.lit (.int n)) (.len (.arg 0)))) b).holds R { args:=[.list (l.map .int)] } = true):l.length<=n:=by
 have h:=condW_of (X:=!decide ((n:Int)<((l.map WData.int).length:Int))) (holds_andW h).1 rfl
 rw [length_map] at h
 refine Nat.le_of_not_lt λq=>?_
 rw [decide_eq_true (Int.ofNat_lt.mpr q)] at h
 injection h
section
variable {p:Program}{loose:List Str}{mean:ExcName->Option Value}{mg mb:Str->Option Value}{h:Heap}
theorem Vx {H:Hd}{c P:Addr}(hT:TabsAt [(c,P)] h)(T:Top p loose mean mg mb h)(hg:H.mg=mg)(hb:H.mb=mb)(hfree:(BF.all λx=>!startupNames.contains x&&(!loose.contains x&&(!((recsOf p).map (·.name)).contains x&&(!((litsOf p).map (·.1)).contains x&&!((clssOf p loose).map (·.name)).contains x))))=true)
  (toml:mg "TOMLDecodeError" = some (.ref H.toml)) (tomlC:ClsAt H.toml (ghostOf h [(c,P)])) (sys:Q4 h)
  (sets:∀ k a,H.setv k=some a->∃ n,FrozAt (strKind H.prog H.w) (ghostOf h [(c,P)]) a (Fp k) n/\n<4096) (mp:OX H.prog H.w (ghostOf h [(c,P)]) H.mpv):H.At (ghostOf h [(c,P)]) where
 g:=by rw [hg];exact ghost_ns hT T.g
 b:=by rw [hb];exact ghost_ns hT T.b
 lim:=let ⟨mc,a,r⟩:=T.nolimit;⟨mc,ghost_ns hT a,r⟩
 sysm:=by
  obtain ⟨o,es,ep,e,hd⟩:=sys
  rw [ghost_get hT e (λz=>by rw [z] at hd;cases hd)];rfl
 bu:=by rw [hb];exact T.builtins
 free:=λx m=>by
  rw [hg]
  have:=all_eq_true.mp hfree x m
  simp only [and_eq_true,not_eq_true',List.contains_eq_mem,decide_eq_false_iff_not] at this
  exact T.free x this.1 this.2.1 this.2.2.1 this.2.2.2.1 this.2.2.2.2
 toml:=by rw [hg];exact toml
 tomlC:=tomlC
 bmain:=by
  rw [hg]
  obtain ⟨bm,ob,a1,a2,a3,a4,a5,a6⟩:=T.bmain
  exact ⟨bm,ob,a1,a2,ghost_get hT a3 (λq=>by rw [q] at a4;cases a4),a4,a5,a6⟩
 sets:=sets
 mp:=mp
end
def Nq:Prop:=∀ l:List Int,l.length<=63->∃ K ps',Iu K ⟨λi=>([PV.ints l])[i]?,[]⟩ = .ok (.ret (.bool true)) ps'
def dOf (x:Str)(i:Nat):DefRec:=⟨x,Ha (nth i),AO (nth i),AP (nth i),Ng (nth i)⟩
def KI (w:World)(mg mb:Str->Option Value)(C P:Addr):Hd:={ prog:=pw_kp0046_04,w:=w,mg:=mg,mb:=mb,fnv:=λk=>if k=0 then 135 else match mg "parse_basic_str_escape_multiline" with | some (.ref a)=>a | _=>0,setv:=Q3,mpv:=93,toml:=C,tabPos:=Ng ((AO (nth 25)).getD 0 (.Pass default)),tabQ:=("suffixed_err":Str)++(".<locals>.":Str)++("coord_repr":Str),tabP:=P }
theorem UR:(BF.all λx=>!startupNames.contains x&&(!(looseW q04 Bq).contains x&&(!((recsOf q04).map (·.name)).contains x&&(!((litsOf q04).map (·.1)).contains x&&!((clssOf q04 (looseW q04 Bq)).map (·.name)).contains x))))=true:=by kernel_rfl
theorem Vy {os:OsState}{w:World}{mean:ExcName->Option Value}{mg mb:Str->Option Value}{h:Heap}{c P C:Addr}(T:Top q04 (looseW q04 Bq) mean mg mb h)(hT:TabsAt [(c,P)] h)(Y:Head04 w h mg)
  (hs:∃ a pm doc,mg "suffixed_err" = some (.ref a)/\FnAt (ghostOf h [(c,P)]) a (docDef (dOf "suffixed_err" 25).name (dOf "suffixed_err" 25).params (dOf "suffixed_err" 25).body (dOf "suffixed_err" 25).scope pm (.ref c) doc) Bt) :
  Mod { H:=KI w mg mb C P,h₀:=ghostOf h [(c,P)],gens:=#[],os:=os }:=by
 have K:∀ b o,h.get? b=some o->o≠tabObj #[]->(ghostOf h [(c,P)]).get? b=some o:=λb o e n=>ghost_get hT e n
 refine {
  f_law_sign:=CW (d:=dOf "_law_sign" 28) rfl T K (j:=10) (by kernel_rfl) rfl rfl rfl rfl λU U U=>Q1 λU=>rfl
  f_law_text:=CW (d:=dOf "_law_text" 29) rfl T K (j:=11) (by kernel_rfl) rfl rfl rfl rfl λU U U=>Q1 λU=>rfl
  f_law_plain:=CW (d:=dOf "_law_plain" 30) rfl T K (j:=12) (by kernel_rfl) rfl rfl rfl rfl λU U U=>Q1 λU=>rfl
  f_law_one:=CW (d:=dOf "_law_one" 31) rfl T K (j:=13) (by kernel_rfl) rfl rfl rfl rfl λU U U=>S5 λU U=>rfl
  f_law_units:=CW (d:=dOf "_law_units" 32) rfl T K (j:=14) (by kernel_rfl) rfl rfl rfl rfl λU U U=>S5 λU U=>rfl
  f_law_folded:=CW (d:=dOf "_law_folded" 33) rfl T K (j:=15) (by kernel_rfl) rfl rfl rfl rfl λU U U=>Wb λU U U U=>rfl
  f_skip_until:=CW (d:=dOf "skip_until" 18) rfl T K (j:=2) (by kernel_rfl) rfl rfl rfl rfl λU U U=>UO λU U U U U=>rfl
  f_parse_literal_str:=CW (d:=dOf "parse_literal_str" 23) rfl T K (j:=6) (by kernel_rfl) rfl rfl rfl rfl λU U U=>S5 λU U=>rfl
  f_skip_chars:=CW (d:=dOf "skip_chars" 17) rfl T K (j:=1) (by kernel_rfl) rfl rfl rfl rfl λU U U=>UN λU U U=>rfl
  f_is_unicode_scalar_value:=CW (d:=dOf "is_unicode_scalar_value" 26) rfl T K (j:=9) (by kernel_rfl) rfl rfl rfl rfl λU U U=>Q1 λU=>rfl
  f_parse_hex_char:=CW (d:=dOf "parse_hex_char" 22) rfl T K (j:=5) (by kernel_rfl) rfl rfl rfl rfl λU U U=>UN λU U U=>rfl
  f_parse_basic_str:=CW (d:=dOf "parse_basic_str" 24) rfl T K (j:=7) (by kernel_rfl) rfl rfl rfl rfl λU U U=>Vt λU U U=>rfl
  f_parse_one_line_basic_str:=CW (d:=dOf "parse_one_line_basic_str" 19) rfl T K (j:=3) (by kernel_rfl) rfl rfl rfl rfl λU U U=>S5 λU U=>rfl
  f_law_unfolded:=CW (d:=dOf "_law_unfolded" 34) rfl T K (j:=16) (by kernel_rfl) rfl rfl rfl rfl λU U U=>Q1 λU=>rfl
  s_ILLEGAL_BASIC_STR_CHARS:=⟨72,Y.n0,rfl⟩
  s_ILLEGAL_LITERAL_STR_CHARS:=⟨72,Y.n1,rfl⟩
  s_ILLEGAL_MULTILINE_BASIC_STR_CHARS:=⟨77,Y.n2,rfl⟩
  s_TOML_WS:=⟨78,Y.n3,rfl⟩
  s_TOML_WS_AND_NEWLINE:=⟨86,Y.n4,rfl⟩
  s_HEXDIGIT_CHARS:=⟨87,Y.n5,rfl⟩
  mp:=Y.n6
  v_parse_basic_str_escape:=Y.n7
  v_parse_basic_str_escape_multiline:=?_
  c_parse_basic_str_escape:=?_
  suf:=?_
  tabPos:=rfl }
 ·obtain ⟨a,pm,cd,doc,e1,F⟩:=TZ (W:={ H:=KI w mg mb C P,h₀:=ghostOf h [(c,P)],gens:=#[],os:=os }) (d:=dOf "parse_basic_str_escape_multiline" 21) (fi:={ scope:=AP (nth 21),body:=AO (nth 21),params:=[],sc:=[] }) T K (j:=4) (by kernel_rfl) rfl rfl
  have e1:mg "parse_basic_str_escape_multiline" = some (.ref a):=e1
  show mg "parse_basic_str_escape_multiline" = some (.ref (if (1:Nat)=0 then 135 else match mg "parse_basic_str_escape_multiline" with | some (.ref a)=>a | _=>0))
  rw [e1];rfl
 ·obtain ⟨o,fd,d,m,h1,h2,h3,h4,h5,h6,h7,h8,h9,h10,h11,h12,h13,c',oc,vs,t,c1,c2,c3,c4,c5⟩:=Y.esc.keeps K
  refine ⟨fd,⟨⟨o,h1,h2⟩,h6,h5,h8,h7,h10,by rw [h3];exact ⟨c',oc,vs,t,c1,c2,c4,c5⟩⟩,rfl,λs ws ks k q1 q2=>?_⟩
  obtain ⟨nm,qn,pr,bd,sc,gl,clo,df,kd,dc,pm,an,co,ct,bu⟩:=fd
  dsimp only at h3 h4 h5 h6 h7 h8 h9 h10 h11 c1
  subst h3 h4 h5 h6 h7 h8 h9 h10 h11 c1
  obtain ⟨x,r1,rfl,p1⟩:=De (n:=1) q1
  obtain ⟨y,r2,rfl,p2⟩:=De (n:=0) p1
  cases eq_nil_of_length_eq_zero p2
  cases eq_nil_of_length_eq_zero q2
  exact Q2 (x:="multiline") (h12.keeps k) h13 rfl rfl
 ·obtain ⟨a,pm,doc,e1,F⟩:=hs
  obtain ⟨X,_⟩:=hT _ (.head _)
  refine ⟨a,_,c,e1,F,⟨rfl,λs ws ks U q1 q2=>.of_eq ((UN (ps:=Bt.params) λU U U=>rfl:F1 (docDef (dOf "suffixed_err" 25).name (dOf "suffixed_err" 25).params (dOf "suffixed_err" 25).body (dOf "suffixed_err" 25).scope pm (.ref c) doc) Bt.params 3 []) ws ks q1 q2)⟩,rfl,?_,rfl⟩
  exact (ghost_code hT).1
theorem Nr {W:Wd}{h:Heap}{a:Addr}{o:Obj}{fd:FuncData}{fi:Fi}(K:∀ b o,h.get? b=some o->o≠tabObj #[]->W.h₀.get? b=some o)(e2:h.get? a=some o)(e3:o.data = .func fd)(h1:fd.scope=fi.scope)(h2:fd.body = .stmts fi.body)(h3:fd.closure=[])
  (h4:fd.globals=mainGlobals) (h5:fd.builtins=builtinsNs) (e4:h.CodeRec fd.code fd.qualname):FnAt W.h₀ a fd fi:=by
 obtain ⟨c,oc,vs,t,f1,f2,f3,f4⟩:=e4
 refine ⟨⟨o,K _ _ e2 (λz=>by rw [z] at e3;cases e3),e3⟩,h1,h2,h3,h4,h5,⟨c,oc,vs,t,f1,K _ _ f2 λz=>?_,f3,f4⟩⟩
 rw [z] at f3
 cases f3
 simp at f4
theorem Ta {cw:ClaimW}{cl:Str->Option Addr}{mean:ExcName->Option Value}{args:List WData}{c0 s':Shared}{H:Hd}{c P:Addr}(hT:TabsAt [(c,P)] c0.heap)(hr:∀ cls,cw.raises args cls=false)(hp:cw.post args (.bool true) args=true)
  (hb:∀ b o,(ghostOf c0.heap [(c,P)]).get? b=some o->s'.heap.get? b=some o) (hP:Ch H s'.heap P) (hg:s'.gens = #[]) (hos:s'.os=c0.os):GoodWG cw cl mean args c0 (.ok (.ret (.bool true))) s':=by
 obtain ⟨ps,eP,_⟩:=hP
 have tP:=(hT _ (.head _)).2
 have keep:∀ b o,b≠P->c0.heap.get? b=some o->s'.heap.get? b=some o:=λb o n e=>hb b o (ghost_ne e (λm=>n (mem_singleton.mp m)))
 refine ⟨.inl ⟨_,.bool true,[],rfl,hr,.bool true,hp,λU=>⟨nodup_nil,λa m=>(by cases m)⟩⟩,⟨λb o e=>?_,λb o e=>?_⟩,hos,by rw [hg];exact .of_eq rfl⟩
 ·by_cases q:b=P
  ·subst q
   have e':c0.heap.get? b=some (tabObj #[]):=tP
   rw [e] at e'
   cases e'
   exact .inr (.inl ⟨((hT _ (.head _)).1.tab tP).isCodeTable,rfl,#[],ps,rfl,by rw [Array.empty_append];exact eP⟩)
  ·exact .inl (keep b o q e)
 ·by_cases q:b=P
  ·exact ⟨_,by rw [q];exact eP⟩
  ·exact ⟨o,keep b o q e⟩
theorem O0 (R:WRecords)(x:WCtx):(WShape.has R (.bool true) .bool&&(WTm.eq .res (.lit (.bool true))).holds R { x with res:=some (.bool true) })=true:=
 and_eq_true_iff.mpr ⟨rfl,holdsW_of_value (w_eq_bool (k:=true) (l:=true) rfl rfl)⟩
theorem US (plain:Nq):Mh.QU q04 Bq (λU U=>True) S7 rw_kp0046_04.row.toRowW (dOf "law" 35) [] λf vs=>PySem.call f vs:=by
 intro w u3 c0 mg mb G Y a o pm cd doc dV kV ho hd hcd hdf hmg hgens args vals as hpre hlay hrd hwell hsys
 obtain ⟨m,Y⟩:=Y
 obtain rfl:m=mg:=Y.ns.eq_nsMap.trans G.T.g.eq_nsMap.symm
 obtain ⟨p1,p2⟩:=pre_splitW hpre
 obtain ⟨L,vs,l,rfl,rfl,hL,hI⟩:=OZ p1 hrd
 have hlen:l.length<=63:=S9 p2
 obtain ⟨K,ps',res⟩:=plain l hlen
 have hmem:dOf "suffixed_err" 25∈recsOf q04:=mem_of_getElem? (i:=8) (by kernel_rfl)
 obtain ⟨as,oS,fdS,c,P,t1,t2,t3,t4,t5,t6⟩:=G.T.tab _ hmem
 obtain ⟨a',o',pm',cd',doc',e1,e2,e3,e4⟩:=G.T.fn _ hmem
 rw [t1] at e1;cases e1
 rw [t2] at e2;cases e2
 rw [t3] at e3;cases e3
 have t4:cd' = .ref c:=t4
 subst t4
 have hT:TabsAt [(c,P)] c0.heap:=λq hq=>by
  obtain rfl:=mem_singleton.mp hq
  exact ⟨CodeHd.of t5 t6,t6.2⟩
 have K':∀ b o,c0.heap.get? b=some o->o≠tabObj #[]->(ghostOf c0.heap [(c,P)]).get? b=some o:=λb o e n=>ghost_get hT e n
 have Yg:=Y.keeps K'
 obtain ⟨C,k1,k2⟩:=Yg.cls
 have At:(KI w m mb C P).At (ghostOf c0.heap [(c,P)]):=Vx hT G.T rfl rfl UR k1 k2 Y.sys Yg.sets Yg.mp
 have Mo:Mod { H:=KI w m mb C P,h₀:=ghostOf c0.heap [(c,P)],gens:=#[],os:=c0.os }:=
  Vy G.T hT Y ⟨as,pm',doc',t1,Nr (W:={ H:=KI w m mb C P,h₀:=ghostOf c0.heap [(c,P)],gens:=#[],os:=c0.os }) K' t2 t3 rfl rfl rfl rfl rfl e4⟩
 obtain ⟨d1,d2⟩:=hdf
 have dN:dV = .none:=by
  rcases d1 with q | q
  ·exact q.2
  ·exact absurd rfl q.1
 have kN:kV = .none:=by
  rcases d2 with q | q
  ·exact q.2
  ·exact absurd rfl q.1
 subst dN kN
 have F:=Nr (W:={ H:=KI w m mb C P,h₀:=ghostOf c0.heap [(c,P)],gens:=#[],os:=c0.os }) (fi:=Hg) K' ho hd rfl rfl rfl rfl rfl hcd
 refine aW (QV (W:={ H:=KI w m mb C P,h₀:=ghostOf c0.heap [(c,P)],gens:=#[],os:=c0.os }) (P:=P) (n:=12) (l:=[.ints l]) (vs:=[.ref L]) (λb o e=>of_hideAll _ e) hgens rfl At ⟨#[],t6.2,.inl rfl⟩ (hideAll_none _ (mem_singleton.mpr rfl)) rfl F UF (.of_eq rfl) rfl
  (.cons (.ints (ghost_list hT hL) hI) .nil) (by decide) (λfm' hs he hh=>Vp K Mo hs he hh) res) (λv s' z=>?_) λe s' z=>z.elim
 obtain ⟨⟨av,V,r⟩,z1,z2,z3,z4⟩:=z
 cases r
 exact ⟨Ta (H:=KI w m mb C P) hT (λU=>rfl) (O0 [] { args:=[.list (l.map .int)],after:=[.list (l.map .int)] }) z1 z2 z3 z4,z3⟩
theorem holds04 (plain:Nq):rw_kp0046_04.Holds:=by
 refine holds_law (by kernel_rfl) λhw=>?_
 exact Mh.Mn (q:=q04) (loose:=Bq) (g:=g04) (Mh.Lq "comprehension-iter-twice" "special-get-raises" λb1 b2 w=>Mh.Ul (by kernel_rfl) (λs=>rfl) (by kernel_rfl) (Vw b1 b2 w)) S8 Mv (d:=dOf "law" 35) (kwd:=[]) (by kernel_rfl) (by kernel_rfl) (by kernel_rfl) rfl rfl hw (by kernel_rfl) ⟨rfl,rfl,rfl,rfl,rfl,by kernel_rfl⟩ (RowW.promised_of_found (by kernel_rfl)) (US plain)
end Mi
end
section
open PySem PySem.W
set_option maxRecDepth 10000
namespace Mi
def Kx:Nat:=Classical.choose (show ∃ K,100000000<K from ⟨100000001,by decide⟩)
theorem Cs:100000000<Kx:=Classical.choose_spec (show ∃ K,100000000<K from ⟨100000001,by decide⟩)
def wp {V:Type}(m:M V)(s:PS)(Q:V->PS->Prop)(E:PX->PS->Prop):Prop:=match m s with
 | .ok a s'=>Q a s'
 | .ex e s'=>E e s'
 | .stuck=>False
section
variable {V β:Type}{s:PS}{loc:Nat->Option PV}{st:List (List PV)}
nonrec theorem wp_mono {m:M V}{Q Q':V->PS->Prop}{E E':PX->PS->Prop}(h:wp m s Q E)(hq:∀ a s',Q a s'->Q' a s')(he:∀ e s',E e s'->E' e s'):wp m s Q' E':=by
 unfold wp at h ⊢
 cases q:m s with
 | ok a s'=>rw [q] at h;exact hq _ _ h
 | ex e s'=>rw [q] at h;exact he _ _ h
 | stuck=>rw [q] at h;exact h
nonrec theorem wp_bind {m:M V}{f:V->M β}{Q:β->PS->Prop}{E:PX->PS->Prop}:wp (ac m f) s Q E=wp m s (λa s'=>wp (f a) s' Q E) E:=by
 unfold wp ac
 cases m s <;> rfl
theorem FI {a:V}{Q:V->PS->Prop}{E:PX->PS->Prop}:wp (ae a) s Q E=Q a s:=rfl
def upd (loc:Nat->Option PV)(i:Nat)(v:PV):Nat->Option PV:=λj=>if j=i then some v else loc j
def loc0 (l:List PV):Nat->Option PV:=λi=>l[i]?
theorem upd_eq {i:Nat}{v:PV}:upd loc i v i=some v:=by simp [upd]
theorem UT {i j:Nat}{v:PV}(h:(j==i)=false):upd loc i v j=loc j:=by simp at h;simp [upd,h]
theorem UU {a:PV}{l:List PV}:loc0 (a::l) 0=some a:=rfl
theorem Nt {i:Nat}{Q:PV->PS->Prop}{E:PX->PS->Prop}:wp (af i) ⟨loc,st⟩ Q E=match loc i with | some v=>Q v ⟨loc,st⟩ | none=>False:=by
 unfold wp af
 dsimp only
 cases loc i <;> rfl
theorem Am {c:Bool}{m:M V}{Q:V->PS->Prop}{E:PX->PS->Prop}:wp (ak c m) s Q E=(c=true/\wp m s Q E):=by
 unfold wp ak
 cases c <;> simp
theorem Jk {o:Option V}{Q:V->PS->Prop}{E:PX->PS->Prop}:wp (aB o) s Q E=match o with | some a=>Q a s | none=>False:=by
 unfold wp aB
 cases o <;> rfl
theorem FJ {t:Txt}{Q:PV->PS->Prop}{E:PX->PS->Prop}:wp (au t) s Q E=(t.length<=big/\Q (.str t) s):=by
 unfold wp au
 by_cases h:t.length<=big <;> simp [h]
theorem D8 {l:List PV}{Q:PV->PS->Prop}{E:PX->PS->Prop}:wp (ao l) ⟨loc,st⟩ Q E=(l.length<=big/\Q (.lst st.length) ⟨loc,st++[l]⟩):=by
 unfold wp ao
 by_cases h:l.length<=big <;> simp [h]
theorem BI {i:Nat}{Q:List PV->PS->Prop}{E:PX->PS->Prop}:wp (ar i) ⟨loc,st⟩ Q E=match st[i]? with | some l=>Q l ⟨loc,st⟩ | none=>False:=by
 unfold wp ar
 dsimp only
 cases st[i]? <;> rfl
theorem KJ {b:Bool}{Q:Bool->PS->Prop}{E:PX->PS->Prop}:wp (tst (.bool b)) s Q E=Q b s:=rfl
theorem KK {m r:M PFlow}{Q:PFlow->PS->Prop}{E:PX->PS->Prop}:wp (aj m r) s Q E=wp m s (λf s'=>match f with | .next=>wp r s' Q E | .brk=>Q .brk s' | .cont=>Q .cont s' | .ret v=>Q (.ret v) s') E:=by
 unfold aj
 rw [wp_bind]
 congr 1
 funext f s'
 cases f <;> rfl
theorem Nu {m:M PFlow}{l:List PV}{Q:PV->PS->Prop}{E:PX->PS->Prop}:wp (am m l) ⟨loc,st⟩ Q E=wp m ⟨loc0 l,st⟩ (λf s'=>Q (Of f) ⟨loc,s'.st⟩) (λe s'=>E e ⟨loc,s'.st⟩):=by
 unfold wp am loc0
 dsimp only
 cases m ⟨λi=>l[i]?,st⟩ <;> rfl
theorem Q9 {m:M Txt}{l:List PV}{Q:Txt->PS->Prop}{E:PX->PS->Prop}:wp (aA m l) ⟨loc,st⟩ Q E=wp m ⟨loc0 l,st⟩ (λt s'=>Q t ⟨loc,s'.st⟩) (λe s'=>E e ⟨loc,s'.st⟩):=by
 unfold wp aA loc0
 dsimp only
 cases m ⟨λi=>l[i]?,st⟩ <;> rfl
theorem FK {X:PX->Option (M PFlow)}{m:M PFlow}{Q:PFlow->PS->Prop}{E:PX->PS->Prop}:wp (aE X m) s Q E=wp m s Q (λe s'=>match X e with | some h=>wp h s' Q E | none=>False):=by
 unfold wp aE
 cases m s with
 | ok a s'=>rfl
 | stuck=>rfl
 | ex e s'=>
  dsimp only
  cases X e <;> rfl
theorem Tc {m:M PFlow}{Q:PFlow->PS->Prop}{E:PX->PS->Prop}:wp (aK m) s Q E=wp m s Q (λU U=>False):=by
 unfold wp aK
 cases m s <;> rfl
theorem Mx {Q:List PV->PS->Prop}{E:PX->PS->Prop}:wp (ag []) s Q E=Q [] s:=rfl
theorem F2 {m:M PV}{r:List (M PV)}{Q:List PV->PS->Prop}{E:PX->PS->Prop}:wp (ag (m::r)) s Q E=wp m s (λv s'=>wp (ag r) s' (λvs s''=>Q (v::vs) s'') E) E:=by
 show wp (ac m λv=>ac (ag r) λvs=>ae (v::vs)) s Q E=_
 rw [wp_bind]
 congr 1
 funext v s'
 rw [wp_bind]
 rfl
theorem F3 {op:BoolOp}{Q:Bool->PS->Prop}{E:PX->PS->Prop}:wp (AG op []) s Q E=Q (op==.And) s:=rfl
theorem F4 {m:M Bool}{r:List (M Bool)}{Q:Bool->PS->Prop}{E:PX->PS->Prop}:wp (AG .And (m::r)) s Q E=wp m s (λb s'=>if b=true then wp (AG .And r) s' Q E else Q false s') E:=by
 show wp (ac m λb=>if GQ .And b then ae b else AG .And r) s Q E=_
 rw [wp_bind]
 congr 1
 funext b s'
 cases b <;> rfl
theorem My {m:M Bool}{r:List (M Bool)}{Q:Bool->PS->Prop}{E:PX->PS->Prop}:wp (AG .Or (m::r)) s Q E=wp m s (λb s'=>if b=true then Q true s' else wp (AG .Or r) s' Q E) E:=by
 show wp (ac m λb=>if GQ .Or b then ae b else AG .Or r) s Q E=_
 rw [wp_bind]
 congr 1
 funext b s'
 cases b <;> rfl
theorem Ra {m:M PV}{Q:Option Int->PS->Prop}{E:PX->PS->Prop}:wp (AM (some m)) s Q E=wp m s (λv s'=>match v with | .int i=>Q (some i) s' | _=>False) E:=by
 show wp (ac m λv=>match v with | .int i=>ae (some i) | _=>aq) s Q E=_
 rw [wp_bind]
 congr 1
 funext v s'
 cases v <;> rfl
variable {a b:Int}{x y:Txt}{Q:PV->PS->Prop}{E:PX->PS->Prop}
theorem Td:wp (Aj .Add (.str x) (.str y)) s Q E=((x++y).length<=big/\Q (.str (x++y)) s):=FJ
theorem Te:wp (Aj .Mult (.int a) (.int b)) s Q E=((Ah a||Ah b)=true/\Q (.int (a*b)) s):=Am
theorem Tf:wp (Aj .FloorDiv (.int a) (.int b)) s Q E=((b != 0&&Ah b)=true/\Q (.int (a.fdiv b)) s):=Am
theorem Tg:wp (Aj .Mod (.int a) (.int b)) s Q E=((b != 0&&Ah b)=true/\Q (.int (a.fmod b)) s):=Am
theorem Th:wp (Aj .Pow (.int a) (.int b)) s Q E=((2<=a&&a<=16&&0<=b&&b<=16)=true/\Q (.int (a ^ b.toNat)) s):=Am
theorem Rb:wp (BG .Add (.str x) (.str y)) s Q E=((x++y).length<=big/\Q (.str (x++y)) s):=FJ
theorem Rc:wp (BG .FloorDiv (.int a) (.int b)) s Q E=((b != 0&&Ah b)=true/\Q (.int (a.fdiv b)) s):=Am
theorem UV:wp (Au .Eq (.int a) (.int b)) s Q E=Q (.bool (a==b)) s:=rfl
theorem UW:wp (Au .NotEq (.int a) (.int b)) s Q E=Q (.bool (!(a==b))) s:=rfl
theorem UX:wp (Au .GtE (.int a) (.int b)) s Q E=Q (.bool (decide (a≥b))) s:=rfl
theorem KL:wp (As false (.str x) (.int a)) s Q E=(Ah a=true/\match idx a x.length with | some j=>Q (.str [x.getD j 0]) s | none=>E (.std "IndexError") s):=by
 show wp (ak (Ah a) _) s Q E=_
 rw [Am]
 congr 1
 cases idx a x.length <;> rfl
theorem O1 {i j:Option Int}:wp (AT i j (.str x)) s Q E=((slc x i j).length<=big/\Q (.str (slc x i j)) s):=FJ
theorem Ti:wp (Cp [.str x]) s Q E=(decide (x.length<=big)=true/\Q (.int x.length) s):=Am
theorem UY {c:Nat}:wp (Ls [.str [c]]) s Q E=Q (.int c) s:=rfl
theorem UZ:wp (HG [.int a]) s Q E=((0<=a&&a<=1114111)=true/\Q (.str [a.toNat]) s):=Am
theorem Tj:wp (Lu [.int a]) s Q E=(Ah a=true/\Q (.str (BA a)) s):=Am
end
section
variable {V β:Type}{s:PS}{loc:Nat->Option PV}{st:List (List PV)}{a b:Int}{x y:Txt}{Q:PV->PS->Prop}{E:PX->PS->Prop}{QL:List PV->PS->Prop}{QA:V->PS->Prop}{QO:Option Int->PS->Prop}{QB:Bool->PS->Prop}
abbrev Kt (f:V->M β)(Q:β->PS->Prop)(E:PX->PS->Prop)(a:V)(s:PS):Prop:=wp (f a) s Q E
nonrec theorem KtI {f:V->M β}{a:V}{Q:β->PS->Prop}(h:wp (f a) s Q E):Kt f Q E a s:=h
nonrec theorem wpB {m:M V}{f:V->M β}{Q:β->PS->Prop}(h:wp m s (Kt f Q E) E):wp (ac m f) s Q E:=wp_bind▸h
nonrec theorem wpR {a:V}(h:QA a s):wp (ae a) s QA E:=h
nonrec theorem wpG {i:Nat}{v:PV}(g:loc i=some v)(h:Q v ⟨loc,st⟩):wp (af i) ⟨loc,st⟩ Q E:=by rw [Nt,g];exact h
nonrec theorem wpSet {i:Nat}{v:PV}{Q:Unit->PS->Prop}(h:Q () ⟨upd loc i v,st⟩):wp (ah i v) ⟨loc,st⟩ Q E:=h
nonrec theorem wpO {c:Bool}{m:M V}(hc:c=true)(h:wp m s QA E):wp (ak c m) s QA E:=by rw [Am];exact ⟨hc,h⟩
nonrec theorem wpSN (h:QL [] s):wp (ag []) s QL E:=h
abbrev Kc (Q:List PV->PS->Prop)(v:PV)(l:List PV)(s:PS):Prop:=Q (v::l) s
abbrev Ks (r:List (M PV))(Q:List PV->PS->Prop)(E:PX->PS->Prop)(v:PV)(s:PS):Prop:=wp (ag r) s (Kc Q v) E
nonrec theorem wpSC {m:M PV}{r:List (M PV)}(h:wp m s (Ks r QL E) E):wp (ag (m::r)) s QL E:=F2▸h
nonrec theorem wpTb {c:Bool}(h:QB c s):wp (tst (.bool c)) s QB E:=h
nonrec theorem wpPN (h:QO none s):wp (AM none) s QO E:=h
nonrec theorem wpPI {m:M PV}(h:wp m s (λv s'=>∃ i,v = .int i/\QO (some i) s') E):wp (AM (some m)) s QO E:=by
 rw [Ra]
 refine wp_mono h (λv s' z=>?_) λU U z=>z
 obtain ⟨i,rfl,z⟩:=z
 exact z
nonrec theorem wpAI (h:Q (.int (a+b)) s):wp (Aj .Add (.int a) (.int b)) s Q E:=h
nonrec theorem wpSI (h:Q (.int (a - b)) s):wp (Aj .Sub (.int a) (.int b)) s Q E:=h
nonrec theorem wpAS (l:(x++y).length<=big)(h:Q (.str (x++y)) s):wp (Aj .Add (.str x) (.str y)) s Q E:=by rw [Td];exact ⟨l,h⟩
theorem Jl (c:(Ah a||Ah b)=true)(h:Q (.int (a*b)) s):wp (Aj .Mult (.int a) (.int b)) s Q E:=by rw [Te];exact ⟨c,h⟩
nonrec theorem wpDI (c:(b != 0&&Ah b)=true)(h:Q (.int (a.fdiv b)) s):wp (Aj .FloorDiv (.int a) (.int b)) s Q E:=by rw [Tf];exact ⟨c,h⟩
nonrec theorem wpModI (c:(b != 0&&Ah b)=true)(h:Q (.int (a.fmod b)) s):wp (Aj .Mod (.int a) (.int b)) s Q E:=by rw [Tg];exact ⟨c,h⟩
nonrec theorem wpgAI (h:Q (.int (a+b)) s):wp (BG .Add (.int a) (.int b)) s Q E:=h
nonrec theorem wpgSI (h:Q (.int (a - b)) s):wp (BG .Sub (.int a) (.int b)) s Q E:=h
nonrec theorem wpgAS (l:(x++y).length<=big)(h:Q (.str (x++y)) s):wp (BG .Add (.str x) (.str y)) s Q E:=by rw [Rb];exact ⟨l,h⟩
nonrec theorem wpEqI (h:Q (.bool (a==b)) s):wp (Au .Eq (.int a) (.int b)) s Q E:=h
nonrec theorem wpEqS (h:Q (.bool (x==y)) s):wp (Au .Eq (.str x) (.str y)) s Q E:=h
nonrec theorem wpNeI (h:Q (.bool (!(a==b))) s):wp (Au .NotEq (.int a) (.int b)) s Q E:=h
nonrec theorem wpLtI (h:Q (.bool (decide (a<b))) s):wp (Au .Lt (.int a) (.int b)) s Q E:=h
nonrec theorem wpLeI (h:Q (.bool (decide (a<=b))) s):wp (Au .LtE (.int a) (.int b)) s Q E:=h
nonrec theorem wpGtI (h:Q (.bool (decide (a>b))) s):wp (Au .Gt (.int a) (.int b)) s Q E:=h
nonrec theorem wpGeI (h:Q (.bool (decide (a≥b))) s):wp (Au .GtE (.int a) (.int b)) s Q E:=h
nonrec theorem wpInF {k:Nat}(h:Q (.bool (JU k x)) s):wp (Au .In (.str x) (.fset k)) s Q E:=h
theorem Hk {j:Nat}(c:Ah a=true)(e:idx a x.length=some j)(h:Q (.str [x.getD j 0]) s):wp (As false (.str x) (.int a)) s Q E:=by rw [KL,e];exact ⟨c,h⟩
theorem KM {i j:Option Int}{t:Txt}(e:slc x i j=t)(l:t.length<=big)(h:Q (.str t) s):wp (AT i j (.str x)) s Q E:=by subst e;rw [O1];exact ⟨l,h⟩
nonrec theorem wpLS (l:x.length<=big)(h:Q (.int x.length) s):wp (Cp [.str x]) s Q E:=by rw [Ti];exact ⟨decide_eq_true l,h⟩
nonrec theorem wpOrd {c:Nat}(h:Q (.int c) s):wp (Ls [.str [c]]) s Q E:=h
theorem T5 (c:(0<=a&&a<=1114111)=true)(h:Q (.str [a.toNat]) s):wp (HG [.int a]) s Q E:=by rw [UZ];exact ⟨c,h⟩
nonrec theorem wpStr (c:Ah a=true)(h:Q (.str (BA a)) s):wp (Lu [.int a]) s Q E:=by rw [Tj];exact ⟨c,h⟩
nonrec theorem wpNeg (h:Q (.int (-a)) s):wp (EY (.int a)) s Q E:=h
nonrec theorem wpNL {l:List PV}(c:l.length<=big)(h:Q (.lst st.length) ⟨loc,st++[l]⟩):wp (ao l) ⟨loc,st⟩ Q E:=by rw [D8];exact ⟨c,h⟩
nonrec theorem wpTup {l:List PV}(c:l.length<=big)(h:Q (.tup l) s):wp (Oe l) s Q E:=by
 show wp (ak _ _) s Q E
 rw [Am];exact ⟨decide_eq_true c,h⟩
def Kn (r:M PFlow)(Q:PFlow->PS->Prop)(E:PX->PS->Prop)(f:PFlow)(s:PS):Prop:=match f with
 | .next=>wp r s Q E
 | .brk=>Q .brk s
 | .cont=>Q .cont s
 | .ret v=>Q (.ret v) s
nonrec theorem KnI {r:M PFlow}{Q:PFlow->PS->Prop}(h:wp r s Q E):Kn r Q E .next s:=h
theorem Bl {m r:M PFlow}{Q:PFlow->PS->Prop}(h:wp m s (Kn r Q E) E):wp (aj m r) s Q E:=by
 rw [KK]
 refine wp_mono h (λf s' z=>?_) λU U z=>z
 cases f <;> exact z
nonrec theorem wpN {m r:M PFlow}{Q:PFlow->PS->Prop}(P:PS->Prop)(h1:wp m s (λf s'=>f = .next/\P s') λU U=>False)(h2:∀ s',P s'->wp r s' Q E):wp (aj m r) s Q E:=by
 rw [KK]
 refine wp_mono h1 (λf s' z=>?_) λU U z=>z.elim
 obtain ⟨rfl,z⟩:=z
 exact h2 s' z
theorem Wc {P:PS->Prop}(h:P s):wp (ae PFlow.next) s (λf s'=>f = .next/\P s') E:=⟨rfl,h⟩
end
abbrev Tb:=List (Option PV)
def Loc (t:Tb)(L:Nat->Option PV):Prop:=∀ i v,t[i]? = some (some v)->L i=some v
inductive At (st:List (List PV))(t:Tb)(s:PS):Prop
 | mk (L:Nat->Option PV) (e:s=⟨L,st⟩) (h:Loc t L):At st t s
section
variable {V β:Type}{s:PS}{loc:Nat->Option PV}{st:List (List PV)}{t:Tb}{Q:PV->PS->Prop}{E:PX->PS->Prop}
set_option tactic.hygienic true in
theorem Loc.set (h:Loc t loc)(i:Nat)(v:PV):Loc (t.set i (some v)) (upd loc i v):=λj w e=>by
 by_cases q:i=j
 ·subst q
  rw [List.getElem?_set] at e
  split at e
  ·split at e
   ·cases e;exact upd_eq
   ·cases e
  ·rename_i n;exact absurd rfl n
 ·rw [getElem?_set_ne q] at e
  rw [UT (beq_eq_false_iff_ne.mpr λz=>q z.symm)];exact h j w e
set_option tactic.hygienic true in
theorem Loc.drop (h:Loc t loc)(i:Nat):Loc (t.set i none) loc:=λj w e=>by
 by_cases q:i=j
 ·subst q
  rw [List.getElem?_set] at e
  split at e
  ·split at e <;> cases e
  ·rename_i n;exact absurd rfl n
 ·rw [getElem?_set_ne q] at e;exact h j w e
theorem Loc.init (l:List PV)(n:Nat):Loc (l.map some++replicate n none) (loc0 l):=λi v e=>by
 unfold loc0
 by_cases q:i<l.length
 ·rw [getElem?_append_left (by simpa using q),getElem?_map] at e
  cases z:l[i]? with
  | none=>rw [z] at e;cases e
  | some w=>rw [z] at e;cases e;rfl
 ·rw [getElem?_append_right (by simpa using Nat.le_of_not_lt q),List.getElem?_replicate] at e
  split at e <;> cases e
nonrec theorem wpL {i:Nat}{v:PV}(h:Loc t loc)(e:t[i]? = some (some v))(k:Q v ⟨loc,st⟩):wp (af i) ⟨loc,st⟩ Q E:=wpG (h i v e) k
abbrev Kr (loc:Nat->Option PV)(Q:PV->PS->Prop)(f:PFlow)(s:PS):Prop:=Q (Of f) ⟨loc,s.st⟩
abbrev Ke (loc:Nat->Option PV)(E:PX->PS->Prop)(e:PX)(s:PS):Prop:=E e ⟨loc,s.st⟩
theorem BR {m:M PFlow}{l:List PV}(n:Nat)(h:∀ L,Loc (l.map some++replicate n none) L->wp m ⟨L,st⟩ (Kr loc Q) (Ke loc E)):wp (am m l) ⟨loc,st⟩ Q E:=by
 rw [Nu];exact h _ (Loc.init l n)
end
nonrec theorem wpA {m r:M PFlow}{s:PS}{Q:PFlow->PS->Prop}{E:PX->PS->Prop}(st:List (List PV))(t:Tb)(h1:wp m s (λf s'=>f = .next/\At st t s') λU U=>False)(h2:∀ L,Loc t L->wp r ⟨L,st⟩ Q E):wp (aj m r) s Q E:=
 wpN (At st t) h1 λU a=>by
  obtain ⟨L,e,B⟩:=a
  exact e▸h2 L B
theorem Df {x y:Txt}{a b:Nat}(hx:x.length<=a)(hy:y.length<=b)(h:a+b<=big):(x++y).length<=big:=by
 rw [length_append];exact aQ (Nat.add_le_add hx hy) h
theorem BD {x y:Txt}{a b:Nat}(hx:x.length<=a)(hy:y.length<=b):(x++y).length<=a+b:=by
 rw [length_append];exact Nat.add_le_add hx hy
theorem fuel {n k f:Nat}(h:n - k<f+1)(lt:k<n):n - (k+1)<f:=by exact la [_,_,_,_,_] [([2,3,0],[4,3,0]),([6,8,3,0,0],[10]),([10],[2,8,0])] ([6,3,0],[4]) rfl h (Mi.lcC (la [_,_] [([2,3,0],[4])] ([2,3,0],[4]) rfl lt)) (Mi.lcS _ _)
theorem T6 {n f p q:Nat}(h:n<f+1+p)(l:p<q):n<f+q:=by exact la [_,_,_,_] [([2,3,0],[4,3,0,6,0]),([6,3,0],[8])] ([2,3,0],[4,8,0]) rfl h l
theorem A3 {n:Nat}(h:n<=12500000):n<=big:=aQ h (by decide)
theorem isZ {a b:Nat}:((a:Int)==(b:Int))=decide (a=b):=by
 by_cases q:a=b
 ·subst q;simp
 ·rw [decide_eq_false q];exact bv.mpr λz=>q (Int.ofNat.inj z)
theorem AK {V:Type}{t:M Bool}{s:PS}{c:Bool}{m r:M V}{Q:V->PS->Prop}{E:PX->PS->Prop}(h:wp t s (λb s'=>b=c/\s'=s) λU U=>False)(h1:c=true->wp m s Q E)(h2:c=false->wp r s Q E):wp (ac t λb=>if b then m else r) s Q E:=by
 refine wpB (wp_mono h (λb s' z=>?_) λU U z=>z.elim)
 obtain ⟨rfl,rfl⟩:=z
 cases b
 ·exact h2 rfl
 ·exact h1 rfl
end Mi
end
section
open PySem PySem.W
set_option maxRecDepth 10000
set_option maxHeartbeats 1000000
namespace Mi
def BJ (c:Nat):Bool:=c != 127&&(c==9||decide (32<=c))
theorem Tk {m:M PV}{r:List (M PV)}{s:PS}{Q:PV->PS->Prop}{E:PX->PS->Prop}(h:r≠[]):wp (BS .And (m::r)) s Q E=wp m s (λv s'=>match truP v with | some true=>wp (BS .And r) s' Q E | some false=>Q v s' | none=>False) E:=by
 match r,h with
 | m'::r',_=>
  show wp (ac m λv=>ac (tst v) λb=>if GQ .And b then ae v else BS .And (m'::r')) s Q E=_
  rw [wp_bind]
  congr 1
  funext v s'
  rw [wp_bind]
  unfold tst
  rw [Jk]
  cases truP v with
  | none=>rfl
  | some b=>cases b <;> rfl
theorem Rd {m:M PV}{r:List (M PV)}{s:PS}{Q:PV->PS->Prop}{E:PX->PS->Prop}(h:r≠[]):wp (BS .Or (m::r)) s Q E=wp m s (λv s'=>match truP v with | some true=>Q v s' | some false=>wp (BS .Or r) s' Q E | none=>False) E:=by
 match r,h with
 | m'::r',_=>
  show wp (ac m λv=>ac (tst v) λb=>if GQ .Or b then ae v else BS .Or (m'::r')) s Q E=_
  rw [wp_bind]
  congr 1
  funext v s'
  rw [wp_bind]
  unfold tst
  rw [Jk]
  cases truP v with
  | none=>rfl
  | some b=>cases b <;> rfl
theorem Re {op:BoolOp}{m:M PV}{s:PS}{Q:PV->PS->Prop}{E:PX->PS->Prop}:wp (BS op [m]) s Q E=wp m s Q E:=rfl
theorem Hl {c:Nat}{loc:Nat->Option PV}{st:List (List PV)}{Q:PV->PS->Prop}{E:PX->PS->Prop}:wp (am (Bn Kx) [.str [c]]) ⟨loc,st⟩ Q E=Q (.bool (BJ c)) ⟨loc,st⟩:=by
 rw [Nu]
 unfold Bn
 simp only [wp_bind,F2,Mx,Nt,UU,UY,FI,UW,UV,UX,Re,Tk,Rd,show ∀ b,truP (.bool b)=some b from λU=>rfl,ne_eq,cons_ne_nil,not_false_eq_true,show ∀ v,Of (.ret v)=v from λU=>rfl]
 unfold BJ
 by_cases h1:c=127
 ·subst h1;rfl
 ·by_cases h2:c=9
  ·subst h2;rfl
  ·have e4:(c != 127)=true:=by simp [h1]
   have e5:(c==9)=false:=by simp [h2]
   have e1:((c:Int)==127)=false:=by simp;lia
   have e2:((c:Int)==9)=false:=by simp;lia
   by_cases h3:32<=c
   ·have e3:decide ((c:Int)≥32)=true:=by simp;lia
    simp [e1,e2,e3,e4,e5,h3]
   ·have e3:decide ((c:Int)≥32)=false:=by simp;lia
    simp [e1,e2,e3,e4,e5,h3]
inductive UnitOf (c:Nat):Txt->Prop
 | raw:BJ c=true->c≠34->c≠92->UnitOf c [c]
 | short {d:Nat}:escT [92,d]=some [c]->d≠117->d≠85->UnitOf c [92,d]
 | four {h:Txt}:h.length=4->h.all hexd=true->hexval h=c->UnitOf c (92::117::h)
 | eight {h:Txt}:h.length=8->h.all hexd=true->hexval h=c->UnitOf c (92::85::h)
def U0:Txt:=[48,49,50,51,52,53,54,55,56,57,97,98,99,100,101,102,48,49,50,51,52,53,54,55,56,57,65,66,67,68,69,70]
theorem Tl (k b:Nat)(hk:k<16)(hb:b<2):∃ d,U0.getD (k+16*b) 0=d/\hexd d=true/\hexdig d=k:=by
 have:∀ k<16,∀ b<2,hexd (U0.getD (k+16*b) 0)=true/\hexdig (U0.getD (k+16*b) 0)=k:=by decide +kernel
 exact ⟨_,rfl,this k hk b hb⟩
theorem KN (d:Nat)(h:Txt):hexval (d::h)=hexdig d*16 ^ h.length+hexval h:=by
 have go:∀ (h:Txt) (a:Nat),h.foldl (λa c=>a*16+hexdig c) a=a*16 ^ h.length+h.foldl (λa c=>a*16+hexdig c) 0:=by
  intro h
  induction h with
  | nil=>intro a;simp
  | cons x h ih=>
   intro a
   rw [foldl_cons,foldl_cons,ih,ih (0*16+hexdig x),length_cons,Nat.pow_succ]
   generalize List.foldl (λa c=>a*16+hexdig c) 0 h=z
   generalize 16 ^ h.length=y
   rw [Nat.add_mul,Nat.add_mul,Nat.mul_assoc,Nat.mul_comm 16 y]
   lia
 unfold hexval
 rw [foldl_cons,go]
 simp
theorem Nv {get:Nat->M (Option PV)}{t:PV->M Unit}{b:M PFlow}{Q:PFlow->PS->Prop}{E:PX->PS->Prop}(I:Nat->PS->Prop)(n:Nat)(p:Nat->PV)
  (hget:∀ k s,I k s->k<n->get k s = .ok (some (p k)) s) (hend:∀ s,I n s->get n s = .ok none s)
  (step:∀ k s,I k s->k<n->wp (t (p k)) s (λU s'=>wp b s' (λfl s''=>match fl with | .next=>I (k+1) s'' | .cont=>I (k+1) s'' | .brk=>Q .next s'' | .ret v=>Q (.ret v) s'') E) E)
  (fin:∀ s,I n s->Q .next s):∀ (f k:Nat) (s:PS),I k s->k<=n->n - k<f->wp (aG get t b f k) s Q E:=by
 intro f
 induction f with
 | zero=>exact λU U U U h=>absurd h (bw _)
 | succ f ih=>
  intro k s i hk h
  show wp (ac (get k) λo=>match o with
   | none=>ae .next
   | some p=>ac (t p) λU=>ac b λfl=>match fl with
    | .next=>aG get t b f (k+1)
    | .cont=>aG get t b f (k+1)
    | .brk=>ae .next
    | .ret v=>ae (.ret v)) s Q E
  rw [wp_bind]
  by_cases q:k=n
  ·subst q
   unfold wp
   rw [hend s i]
   exact fin s i
  ·have lt:k<n:=Nat.lt_of_le_of_ne hk q
   unfold wp
   rw [hget k s i lt]
   show wp _ s Q E
   dsimp only
   rw [wp_bind]
   refine wp_mono (step k s i lt) (λU s' z=>?_) λU U z=>z
   rw [wp_bind]
   refine wp_mono z (λfl s'' z=>?_) λU U z=>z
   cases fl with
   | next=>exact ih (k+1) s'' z lt (fuel h lt)
   | cont=>exact ih (k+1) s'' z lt (fuel h lt)
   | brk=>exact z
   | ret v=>exact z
theorem Jm {n k:Nat}{s:PS}(h:k<n):BP 0 (n:Int) k s = .ok (some (.int k)) s:=by
 unfold BP ae
 rw [if_pos (by lia)]
 simp
theorem Jn {n:Nat}{s:PS}:BP 0 (n:Int) n s = .ok none s:=by
 unfold BP ae
 rw [if_neg (by lia)]
theorem Hm {n:Nat}{s:PS}{Q:(Nat->M (Option PV))->PS->Prop}{E:PX->PS->Prop}(h:n<1073741824):wp (CD [.int n]) s Q E=Q (BP 0 n) s:=by
 show wp (ak (Ah n) (ae (BP 0 n))) s Q E=_
 rw [Am]
 have:Ah (n:Int)=true:=by unfold Ah;simp;lia
 simp [this,FI]
def short (c:Nat):Option Nat:=if c=8 then some 98 else if c=9 then some 116 else if c=10 then some 110 else if c=12 then some 102 else if c=13 then some 114 else if c=34 then some 34 else if c=92 then some 92 else none
abbrev Hn:PV:=.dct [.int 8,.int 9,.int 10,.int 12,.int 13,.int 34,.int 92] [.str [98],.str [116],.str [110],.str [102],.str [114],.str [34],.str [92]]
theorem Ho (c:Nat):C9 [.int 8,.int 9,.int 10,.int 12,.int 13,.int 34,.int 92] [.str [98],.str [116],.str [110],.str [102],.str [114],.str [34],.str [92]] (.int c)=some ((short c).map λd=>.str [d]):=by
 unfold short
 by_cases h1:c=8
 ·subst h1;rfl
 by_cases h2:c=9
 ·subst h2;rfl
 by_cases h3:c=10
 ·subst h3;rfl
 by_cases h4:c=12
 ·subst h4;rfl
 by_cases h5:c=13
 ·subst h5;rfl
 by_cases h6:c=34
 ·subst h6;rfl
 by_cases h7:c=92
 ·subst h7;rfl
 have go:∀ (k:Nat) ks v vs,c≠k->CO (.int k::ks) (v::vs) (.int c)=CO ks vs (.int c):=λk ks v vs h=>by
  show (match some ((k:Int)==(c:Int)) with
   | some true=>some (some v)
   | some false=>CO ks vs (.int c)
   | none=>none)=_
  rw [show ((k:Int)==(c:Int))=false from beq_eq_false_iff_ne.mpr λz=>h (Int.ofNat.inj z).symm]
 rw [if_neg h1,if_neg h2,if_neg h3,if_neg h4,if_neg h5,if_neg h6,if_neg h7]
 exact (go 8 _ _ _ h1).trans ((go 9 _ _ _ h2).trans ((go 10 _ _ _ h3).trans ((go 12 _ _ _ h4).trans ((go 13 _ _ _ h5).trans ((go 34 _ _ _ h6).trans (go 92 _ _ _ h7))))))
theorem O2 {c d:Nat}(h:short c=some d):escT [92,d]=some [c]/\d≠117/\d≠85:=by
 unfold short at h
 by_cases h1:c=8
 ·subst h1;cases h;decide
 by_cases h2:c=9
 ·subst h2;cases h;decide
 by_cases h3:c=10
 ·subst h3;cases h;decide
 by_cases h4:c=12
 ·subst h4;cases h;decide
 by_cases h5:c=13
 ·subst h5;cases h;decide
 by_cases h6:c=34
 ·subst h6;cases h;decide
 by_cases h7:c=92
 ·subst h7;cases h;decide
 simp [h1,h2,h3,h4,h5,h6,h7] at h
local macro_rules | `(tactic| walk_at "wp") => do
 let a <- ("B SC SN R Set PN PI Tb AI SI AS gAS gAI gSI Neg EqI EqS NeI LtI LeI GtI GeI InSS InF Str LS NL Tup Ord".splitOn " ").toArray.mapM fun s=>`(Lean.Parser.Tactic.tacticSeq| apply $(Lean.mkIdent (.str `Mi ("wp"++s))))
 `(tactic| (repeat' first
  | (with_reducible first $[| $a]* | refine KnI ?_ | refine wpO rfl ?_ | refine ⟨_,rfl,?_⟩ | refine wpDI rfl ?_ | refine wpModI rfl ?_ | refine wpModI ?_ ?_)
  | refine wpL (by assumption) rfl ?_) <;> try with_reducible refine KtI ?_)
section
variable {V β:Type}{s S:PS}{E:PX->PS->Prop}
end
theorem E8 {s:PS}{F:PX->PS->Prop}:wp (AG .And []) s (λc s'=>c=true/\s'=s) F:=⟨rfl,rfl⟩
theorem Bu {m:M Bool}{r:List (M Bool)}{s:PS}{F:PX->PS->Prop}{B C:Bool}(h1:wp m s (λb s'=>b=B/\s'=s) F)(h2:B=true->wp (AG .And r) s (λb s'=>b=C/\s'=s) F):wp (AG .And (m::r)) s (λb s'=>b=(B&&C)/\s'=s) F:=by
 rw [F4]
 refine wp_mono h1 (λb s' z=>?_) λU U z=>z
 obtain ⟨rfl,rfl⟩:=z
 cases b
 ·exact ⟨rfl,rfl⟩
 ·simpa using h2 rfl
theorem AC {i:Int}(h:i.natAbs<1073741824):Ah i=true:=by unfold Ah;simpa using h
theorem Mz {c:Nat}{s:PS}{Q:PV->PS->Prop}{E:PX->PS->Prop}:wp (Au .In (.int c) Hn) s Q E=Q (.bool (short c).isSome) s:=by
 unfold wp
 have:Au .In (.int c) Hn s=R.ok (PV.bool (short c).isSome) s:=by
  show (ac (aB ((C9 _ _ (.int c)).map (·.isSome))) λr=>ae (PV.bool r)) s=_
  rw [Ho]
  cases short c <;> rfl
 rw [this]
theorem Jo {c d:Nat}(h:short c=some d){s:PS}{Q:PV->PS->Prop}{E:PX->PS->Prop}:wp (As false Hn (.int c)) s Q E=Q (.str [d]) s:=by
 unfold wp
 have:As false Hn (.int c) s=R.ok (PV.str [d]) s:=by
  show aB ((C9 _ _ (.int c)).bind id) s=_
  rw [Ho,h]
  rfl
 rw [this]
theorem Tm:∀ k:Nat,k<8->((2:Int) ^ ((k:Int).toNat) != 0&&Ah ((2:Int) ^ ((k:Int).toNat)))=true:=by decide
theorem E9 {i n:Nat}(h:i<n):idx (i:Int) n=some i:=by
 unfold idx
 rw [if_pos (by lia)]
 simp [h]
theorem We {m b:Nat}(h:m<16)(h':b<2):m+16*b<32:=by lia
theorem To {m b:Nat}(h:m<16)(h':b<2):((m:Int)+16*(b:Int)).natAbs<1073741824:=by omega
theorem Dg (a b:Nat):Int.fmod (a:Int) (b:Int)=((a % b:Nat):Int):=by
 rw [Int.fmod_eq_emod_of_nonneg _ (by lia)];rfl
theorem Fb (a b:Nat):Int.fdiv (a:Int) (b:Int)=((a / b:Nat):Int):=by
 rw [Int.fdiv_eq_ediv_of_nonneg _ (by lia)];rfl
theorem Vz (i:Int):∃ b:Nat,b<2/\i.fmod 2=b:=by
 have h1:0<=i.fmod 2:=Int.fmod_nonneg_of_pos i (by decide)
 have h2:i.fmod 2<2:=Int.fmod_lt_of_pos i (by decide)
 exact ⟨(i.fmod 2).toNat,by lia,by lia⟩
theorem VA {a b:Int}{s:PS}{Q:PV->PS->Prop}{E:PX->PS->Prop}(c:(2<=a&&a<=16&&0<=b&&b<=16)=true)(h:Q (.int (a ^ b.toNat)) s):wp (Aj .Pow (.int a) (.int b)) s Q E:=by rw [Th];exact ⟨c,h⟩
theorem T7 {a b:Int}{s:PS}{Q:PV->PS->Prop}{E:PX->PS->Prop}(c:(b != 0&&Ah b)=true)(h:Q (.int (a.fdiv b)) s):wp (BG .FloorDiv (.int a) (.int b)) s Q E:=by rw [Rc];exact ⟨c,h⟩
theorem U1:∀ k:Nat,k<8->(2<=(2:Int)&&(2:Int)<=16&&0<=(k:Int)&&(k:Int)<=16)=true:=by decide
abbrev tO (c:Nat)(way:Int)(n size row k:Option PV):Tb:=[some (.str [c]),some (.int way),some Hn,n,size,row,k]
inductive OneI (st:List (List PV))(c:Nat)(way:Int)(size k:Nat)(s:PS):Prop
 | mk (row:Txt) (a:At st (tO c way (some (.int ((c / 16 ^ k:Nat):Int))) (some (.int size)) (some (.str row)) none) s) (l:row.length=k) (h:row.all hexd=true) (v:hexval row=c % 16 ^ k):OneI st c way size k s
theorem Rf {c size:Nat}{way:Int}{L:Nat->Option PV}{st:List (List PV)}{E:PX->PS->Prop}(hK:9<=Kx)(h8:size<=8)(B:Loc (tO c way (some (.int c)) (some (.int size)) (some (.str [])) none) L) :
  wp (aG (BP 0 size) (ah 6) (CJ Kx) Kx 0) ⟨L,st⟩ (λf s'=>f = .next/\OneI st c way size size s') E:=by
 refine Nv (OneI st c way size) size (λk=>.int k) (λk s U lt=>Jm lt) (λs U=>Jn) (λk s z lt=>?_) (λs z=>⟨rfl,z⟩) Kx 0 _ (.mk [] (.mk L rfl (by rw [Nat.pow_zero,Nat.div_one];exact B)) rfl rfl (by rw [Nat.pow_zero,Nat.mod_one];rfl)) (aP _) (bx h8 hK)
 obtain ⟨row,⟨L',rfl,B⟩,q6,q7,q8⟩:=z
 obtain ⟨b,hb2,hb⟩:=Vz ((way.fdiv 4).fdiv (2 ^ ((k:Int).toNat)))
 have hk8:k<8:=bk lt h8
 have m16:c / 16 ^ k % 16<16:=Nat.mod_lt _ (by decide)
 have e16:Int.fmod (((c / 16 ^ k:Nat):Int)) 16=((c / 16 ^ k % 16:Nat):Int):=Dg _ 16
 obtain ⟨d,d1,d2,d3⟩:=Tl (c / 16 ^ k % 16) b m16 hb2
 refine wpSet ?_
 have B:=B.set 6 (.int k)
 unfold CJ
 refine wpA st (tO c way (some (.int ((c / 16 ^ k:Nat):Int))) (some (.int size)) (some (.str (d::row))) (some (.int k))) ?_ λL B=>?_
 ·walk_at "wp"
  refine VA (U1 k hk8) ?_
  refine wpDI (Tm k hk8) ?_
  walk_at "wp"
  refine Jl rfl ?_
  walk_at "wp"
  rw [e16,hb]
  refine Hk (AC (To m16 hb2)) (E9 (We m16 hb2)) ?_
  rw [show [48,49,50,51,52,53,54,55,56,57,97,98,99,100,101,102,48,49,50,51,52,53,54,55,56,57,65,66,67,68,69,70].getD (c / 16 ^ k % 16+16*b) 0=d from d1]
  walk_at "wp"
  ·exact A3 (by rw [length_append,q6];exact aQ (Nat.add_le_add_left (br hk8) 1) (by decide))
  exact ⟨rfl,(B.set 5 _ |> At.mk _ rfl)⟩
 refine wpB (wpL B rfl (wpB (wpR (wpB (T7 rfl ?_)))))
 walk_at "wp"
 rw [show Int.fdiv ((c / 16 ^ k:Nat):Int) 16=((c / 16 ^ k / 16:Nat):Int) from Fb _ 16,Nat.div_div_eq_div_mul,<- Nat.pow_succ]
 refine .mk (d::row) (.mk _ rfl ((B.set 3 _).drop 6)) (by rw [length_cons,q6]) (by rw [all_cons,d2,q7];rfl) ?_
 rw [KN,d3,q6,q8,Nat.pow_succ,Nat.mod_mul,Nat.mul_comm,Nat.add_comm]
set_option tactic.hygienic true in
theorem Rg {c:Nat}{way:Int}{loc:Nat->Option PV}{st:List (List PV)}{Q:PV->PS->Prop}{E:PX->PS->Prop}(hK:9<=Kx)(hc:c<1114112)(h:∀ t,UnitOf c t->(way=0->t.length<=6)->Q (.str t) ⟨loc,st⟩):wp (am (CB Kx) [.str [c],.int way]) ⟨loc,st⟩ Q E:=by
 refine BR 5 λL B=>?_
 unfold CB
 refine wpA st (tO c way none none none none) (wpB (wpR (wpB (wpSet (Wc (B.set 2 _ |> At.mk _ rfl)))))) λL B=>?_
 refine wpA st (tO c way (some (.int c)) none none none) (by walk_at "wp";exact ⟨rfl,(B.set 3 _ |> At.mk _ rfl)⟩) λL B=>?_
 refine Bl ?_
 refine AK (c:=((way.fmod 4==0)&&(BJ c&&((!((c:Int)==34))&&((!((c:Int)==92))&&true))))) (Bu (by walk_at "wp";exact ⟨rfl,rfl⟩) λU=>Bu (by walk_at "wp";rw [Hl];exact ⟨rfl,rfl⟩) λU=>Bu (by walk_at "wp";exact ⟨rfl,rfl⟩) λU=>Bu (by walk_at "wp";exact ⟨rfl,rfl⟩) λU=>E8) (λhb=>?_) λhz=>?_
 ·simp only [and_eq_true,not_eq_true',beq_eq_false_iff_ne,ne_eq,Bool.and_true] at hb
  walk_at "wp"
  exact h _ (.raw hb.2.1 (λz=>hb.2.2.1 (congrArg Int.ofNat z)) (λz=>hb.2.2.2 (congrArg Int.ofNat z))) λU=>(by decide:1<=6)
 refine wpR ?_
 refine Bl ?_
 refine AK (c:=(decide (way.fmod 4<=1)&&((short c).isSome&&true))) (Bu (by walk_at "wp";exact ⟨rfl,rfl⟩) λU=>Bu (by walk_at "wp";rw [Mz];exact ⟨rfl,rfl⟩) λU=>E8) (λhb=>?_) λU=>?_
 ·simp only [and_eq_true,Bool.and_true] at hb
  obtain ⟨d,hd⟩:=aZ.mp hb.2
  obtain ⟨h1,h2,h3⟩:=O2 hd
  walk_at "wp"
  rw [Jo hd]
  walk_at "wp"
  ·exact (by decide:2<=big)
  exact h _ (.short h1 h2 h3) λU=>(by decide:2<=6)
 refine wpR ?_
 obtain ⟨size,hs,hcs,hs8,hs0⟩:∃ size:Nat,size=(if (decide (way.fmod 4<=2)&&(decide ((c:Int)<65536)&&true))=true then 4 else 8)/\c<16 ^ size/\size<=8/\(size=4\/size=8):=by
  refine ⟨_,rfl,?_⟩
  split
  ·rename_i q
   simp only [and_eq_true,decide_eq_true_eq,Bool.and_true] at q
   exact ⟨Int.ofNat_lt.mp q.2,by decide,.inl rfl⟩
  ·exact ⟨bk hc (by decide),by decide,.inr rfl⟩
 have hw:way=0->size=4:=λw=>by
  subst w
  rw [hs]
  refine if_pos ?_
  by_cases q:c<65536
  ·rw [decide_eq_true (show (c:Int)<65536 from Int.ofNat_lt.mpr q)];rfl
  ·exfalso
   have p1:BJ c=true:=by
    unfold BJ
    rw [bne_iff_ne.mpr (show c≠127 by lia),decide_eq_true (show 32<=c by exact la [_] [([131073],[2])] ([65],[2]) rfl (Nat.not_lt.mp q)),Bool.or_true];rfl
   rw [p1,beq_eq_false_iff_ne.mpr (show (c:Int)≠34 by lia),beq_eq_false_iff_ne.mpr (show (c:Int)≠92 by lia)] at hz
   exact absurd hz (by decide)
 refine wpA st (tO c way (some (.int c)) (some (.int size)) none none) ?_ λL B=>?_
 ·refine wpB ?_
  refine AK (c:=(decide (way.fmod 4<=2)&&(decide ((c:Int)<65536)&&true))) (Bu (by walk_at "wp";exact ⟨rfl,rfl⟩) λU=>Bu (by walk_at "wp";exact ⟨rfl,rfl⟩) λU=>E8) (λhb=>?_) λhb=>?_
  ·rw [hb] at hs
   subst hs
   walk_at "wp"
   exact ⟨rfl,(B.set 4 _ |> At.mk _ rfl)⟩
  ·rw [hb] at hs
   subst hs
   walk_at "wp"
   exact ⟨rfl,(B.set 4 _ |> At.mk _ rfl)⟩
 refine wpA st (tO c way (some (.int c)) (some (.int size)) (some (.str [])) none) (by walk_at "wp";exact ⟨rfl,(B.set 5 _ |> At.mk _ rfl)⟩) λL B=>?_
 clear hs
 refine wpN (OneI st c way size size) ?_ ?_
 ·walk_at "wp"
  rw [Hm (Nat.lt_of_le_of_lt hs8 (by decide))]
  exact Rf hK hs8 B
 clear B
 rintro _ ⟨row,⟨L,rfl,B⟩,q6,q7,q8⟩
 rw [Nat.mod_eq_of_lt hcs] at q8
 refine wpB (wpB (AK (c:=decide (size=4)) (by walk_at "wp";exact ⟨isZ (b:=4),rfl⟩) (λhb=>?_) λhb=>?_))
 ·have hb:=aX hb
  subst hb
  walk_at "wp"
  ·exact A3 (by rw [length_append,q6];decide)
  exact h _ (.four q6 q7 q8) λU=>by rw [length_append,q6];decide
 ·have hb:size=8:=hs0.resolve_left (of_decide_eq_false hb)
  subst hb
  walk_at "wp"
  ·exact A3 (by rw [length_append,q6];decide)
  exact h _ (.eight q6 q7 q8) λw=>absurd (hw w) (by decide)
theorem Dh {n:Nat}(h:n<10 ^ 10):(BA (n:Int)).length<=10:=by
 have:(Nat.toDigits 10 n).length<=10:=(Nat.length_toDigits_le_iff (by decide) (by decide)).mpr h
 unfold BA
 rw [Str.ofString_eq_toList]
 show ((Nat.repr n).toList.map Char.toNat).length<=10
 rw [length_map]
 simpa [Nat.repr] using this
section
variable {s:PS}{x:Txt}{Q:PV->PS->Prop}{E:PX->PS->Prop}
theorem Tp:wp (Ec (.str x)) s Q E=(x.length<=big/\Q (.str x) s):=FJ
theorem Tq {i:Int}:wp (Ec (.int i)) s Q E=(Ah i=true/\Q (.str (BA i)) s):=Am
theorem Ts:wp (GI (.str x)) s Q E=((AY x).length<=big/\Q (.str (AY x)) s):=FJ
theorem KO {acc:Txt}:wp (ay [] acc) s Q E=(acc.length<=big/\Q (.str acc) s):=FJ
theorem Jp {m:M PV}{r:List (M PV)}{acc:Txt}:wp (ay (m::r) acc) s Q E=wp m s (λv s'=>match v with | .str t=>(acc++t).length<=big/\wp (ay r (acc++t)) s' Q E | _=>False) E:=by
 show wp (ac m λv=>match v with
  | .str t=>ak ((acc++t).length<=big) (ay r (acc++t))
  | _=>aq) s Q E=_
 rw [wp_bind]
 congr 1
 funext v s'
 cases v <;> first | rfl | skip
 dsimp only
 rw [Am]
 simp
theorem Rh {c:Nat}{b:Int}:wp (G7 (.str x) [.str [c],.int 0,.int b]) s Q E=(((0:Int)==0&&0<=b&&Ah b)=true/\Q (.int (posns c x (min b.toNat x.length)).length) s):=Am
theorem O3 {c:Nat}{b:Int}:wp (E0 (.str x) [.str [c],.int 0,.int b]) s Q E=(((0:Int)==0&&0<=b&&Ah b)=true/\match (posns c x (min b.toNat x.length)).getLast? with | some i=>Q (.int i) s | none=>False):=by
 show wp (ak _ _) s Q E=_
 rw [Am]
 congr 1
 cases (posns c x (min b.toNat x.length)).getLast? <;> rfl
theorem Ri {Q:Txt->PS->Prop}:wp (TU (.str x)) s Q E=Q x s:=rfl
end
def lineOf (x:Txt)(p:Nat):Nat:=1+(posns 10 x (min p x.length)).length
def CX (x:Txt)(p:Nat):Int:=match (posns 10 x (min p x.length)).getLast? with
 | none=>(p:Int)+1
 | some i=>(p:Int) - i
def Wf:Txt:=[101,110,100,32,111,102,32,100,111,99,117,109,101,110,116]
def Rj:Txt:=[108,105,110,101,32]
def Jq:Txt:=[44,32,99,111,108,117,109,110,32]
def Dv (x:Txt)(p:Nat):Txt:=if x.length<=p then Wf else Rj++BA (lineOf x p)++Jq++BA (CX x p)
def C4 (x:Txt)(p:Nat)(msg:Txt):Txt:=msg++[32,40,97,116,32]++Dv x p++[41]
theorem KP {c:Nat}{x:Txt}{hi i:Nat}(h:i∈posns c x hi):i<hi:=by
 unfold posns at h
 simp at h
 exact h.1
theorem FL {c:Nat}{x:Txt}{hi:Nat}:(posns c x hi).length<=hi:=by
 unfold posns
 refine aQ (length_filter_le _ _) ?_
 simp
set_option tactic.hygienic true in
theorem Iw {x:Txt}{p:Nat}:∃ n:Nat,CX x p=n/\n<=p+1:=by
 unfold CX
 split
 ·exact ⟨p+1,by exact rfl,aR _⟩
 ·rename_i i e
  have:=KP (List.mem_of_getLast? e)
  exact ⟨p - i,by lia,by exact la [_,_] [([2],[4])] ([2],[4,3,0]) rfl (Nat.sub_le _ _)⟩
theorem Ix {x:Txt}{p:Nat}(hp:p<1000000000):(Dv x p).length<=40:=by
 unfold Dv
 split
 ·decide
 ·obtain ⟨n,e,hn⟩:=Iw (x:=x) (p:=p)
  have h1:(BA (lineOf x p)).length<=10:=Dh (by
   have:=FL (c:=10) (x:=x) (hi:=min p x.length)
   unfold lineOf;lia)
  have h2:(BA (CX x p)).length<=10:=by rw [e];exact Dh (by lia)
  simp [Rj,Jq]
  exact la [_,_] [([2],[21]),([4],[21])] ([2,4,3,0,3,0,3,0,3,0,3,0,3,0,3,0,3,0,3,0,0],[71]) rfl h1 h2
theorem Tt {x:Txt}{c:Nat}{b:Int}{s:PS}{Q:PV->PS->Prop}{E:PX->PS->Prop}(k:((0:Int)==0&&0<=b&&Ah b)=true)(h:Q (.int (posns c x (min b.toNat x.length)).length) s):wp (G7 (.str x) [.str [c],.int 0,.int b]) s Q E:=by rw [Rh];exact ⟨k,h⟩
theorem U2 {x:Txt}{c i:Nat}{b:Int}{s:PS}{Q:PV->PS->Prop}{E:PX->PS->Prop}(k:((0:Int)==0&&0<=b&&Ah b)=true)(e:(posns c x (min b.toNat x.length)).getLast? = some i)(h:Q (.int i) s):wp (E0 (.str x) [.str [c],.int 0,.int b]) s Q E:=by rw [O3,e];exact ⟨k,h⟩
theorem Tu {acc:Txt}{s:PS}{Q:PV->PS->Prop}{E:PX->PS->Prop}(l:acc.length<=big)(h:Q (.str acc) s):wp (ay [] acc) s Q E:=by rw [KO];exact ⟨l,h⟩
theorem Gl {m:M PV}{r:List (M PV)}{acc t:Txt}{s:PS}{Q:PV->PS->Prop}{E:PX->PS->Prop}(e:wp m s (λv s'=>v = .str t/\s'=s) λU U=>False)(l:(acc++t).length<=big)(h:wp (ay r (acc++t)) s Q E):wp (ay (m::r) acc) s Q E:=by
 rw [Jp]
 refine wp_mono e (λv s' z=>?_) λU U z=>z.elim
 obtain ⟨rfl,rfl⟩:=z
 exact ⟨l,h⟩
theorem VB {i:Int}{s:PS}{Q:PV->PS->Prop}{E:PX->PS->Prop}(c:Ah i=true)(h:Q (.str (BA i)) s):wp (Ec (.int i)) s Q E:=by rw [Tq];exact ⟨c,h⟩
theorem VC {x:Txt}{s:PS}{Q:PV->PS->Prop}{E:PX->PS->Prop}(c:x.length<=big)(h:Q (.str x) s):wp (Ec (.str x)) s Q E:=by rw [Tp];exact ⟨c,h⟩
theorem MA {x:Txt}{p:Nat}{loc:Nat->Option PV}{st:List (List PV)}{Q:PV->PS->Prop}{E:PX->PS->Prop}(hx:x.length<=big)(hp:p<1000000000)(hQ:Q (.str (Dv x p)) ⟨loc,st⟩):wp (am BN [.str x,.int p]) ⟨loc,st⟩ Q E:=by
 have sp:Ah (p:Int)=true:=AC (aY hp (by decide))
 have cnt:((0:Int)==0&&decide (0<=(p:Int))&&Ah p)=true:=by rw [sp,decide_eq_true (Int.natCast_nonneg p)];rfl
 have hn:(posns 10 x (min p x.length)).length<=p:=aQ FL (Nat.min_le_left ..)
 have lo:lineOf x p<=1000000000:=by unfold lineOf;rw [Nat.add_comm];exact bx hn hp
 refine BR 2 λL B=>?_
 unfold BN
 unfold Dv at hQ
 refine Bl ?_
 refine AK (c:=decide (x.length<=p)) ?_ (λh=>?_) (λh=>?_)
 ·walk_at "wp"
  ·exact hx
  refine ⟨?_,rfl⟩
  exact decide_eq_decide.mpr Int.ofNat_le
 ·rw [if_pos (of_decide_eq_true h)] at hQ
  walk_at "wp"
  exact hQ
 rw [if_neg (of_decide_eq_false h)] at hQ
 refine wpR ?_
 refine wpA st [some (.str x),some (.int p),some (.int (lineOf x p:Nat)),none] ?_ λL B=>?_
 ·walk_at "wp"
  refine Tt cnt ?_
  walk_at "wp"
  rw [Int.toNat_natCast,show (((posns 10 x (min p x.length)).length:Nat):Int)+1=(lineOf x p:Nat) by unfold lineOf;rw [Int.natCast_add,Int.add_comm];rfl]
  exact ⟨rfl,(B.set 2 _ |> At.mk _ rfl)⟩
 refine wpA st [some (.str x),some (.int p),some (.int (lineOf x p:Nat)),some (.int (CX x p))] ?_ λL B=>?_
 ·refine AK (c:=decide (lineOf x p=1)) (by walk_at "wp";exact ⟨isZ (b:=1),rfl⟩) (λq=>?_) (λq=>?_)
  ·have q:=aX q
   have e:posns 10 x (min p x.length)=[]:=length_eq_zero_iff.mp (by unfold lineOf at q;exact Nat.add_left_cancel q)
   have ec:CX x p=(p:Int)+1:=by unfold CX;rw [e];rfl
   walk_at "wp"
   rw [ec]
   exact ⟨rfl,(B.set 3 _ |> At.mk _ rfl)⟩
  ·have q:=of_decide_eq_false q
   have e:(posns 10 x (min p x.length))≠[]:=λz=>q (by unfold lineOf;rw [z];rfl)
   have ec:CX x p=(p:Int) - ((posns 10 x (min p x.length)).getLast e:Nat):=by unfold CX;rw [List.getLast?_eq_some_getLast e]
   walk_at "wp"
   refine U2 cnt (by rw [Int.toNat_natCast];exact List.getLast?_eq_some_getLast e) ?_
   walk_at "wp"
   rw [ec]
   exact ⟨rfl,(B.set 3 _ |> At.mk _ rfl)⟩
 obtain ⟨n,ec,hc⟩:=Iw (x:=x) (p:=p)
 have nl:n<=1000000000:=aQ hc hp
 have l1:(BA (lineOf x p:Nat)).length<=10:=Dh (bx lo (by decide))
 have l2:(BA (CX x p)).length<=10:=by rw [ec];exact Dh (bx nl (by decide))
 refine wpB (Gl (wpR ⟨rfl,rfl⟩) (by decide) (Gl (t:=BA (lineOf x p:Nat)) (by walk_at "wp";exact VB (AC (bx lo (by decide))) ⟨rfl,rfl⟩) (Df (show _<=5 by decide) l1 (by decide)) (Gl (wpR ⟨rfl,rfl⟩) (Df (BD (show _<=5 by decide) l1) (show _<=9 by decide) (by decide))
  (Gl (t:=BA (CX x p)) (by walk_at "wp";exact VB (by rw [ec];exact AC (bx nl (by decide))) ⟨rfl,rfl⟩) (Df (BD (BD (show _<=5 by decide) l1) (show _<=9 by decide)) l2 (by decide)) (Tu (Df (BD (BD (show _<=5 by decide) l1) (show _<=9 by decide)) l2 (by decide)) ?_)))))
 walk_at "wp"
 exact hQ
theorem DR {x msg:Txt}{p:Nat}{loc:Nat->Option PV}{st:List (List PV)}{Q:Txt->PS->Prop}{E:PX->PS->Prop}(hx:x.length<=big)(hp:p<1000000000)(hm:msg.length<=1000)(hQ:Q (C4 x p msg) ⟨loc,st⟩):wp (aA (Ez BN) [.str x,.int p,.str msg]) ⟨loc,st⟩ Q E:=by
 have cl:=Ix (x:=x) hp
 rw [Q9]
 have B:=Loc.init [.str x,.int p,.str msg] 0
 generalize loc0 [PV.str x,.int p,.str msg]=L at B
 unfold Ez
 have e1:((" (at ":Str).cps.toList:Txt)=[32,40,97,116,32]:=by kernel_rfl
 have e2:((")":Str).cps.toList:Txt)=[41]:=by kernel_rfl
 rw [e1,e2]
 refine wpB (Gl (t:=msg) (by walk_at "wp";exact VC (A3 (aQ hm (by decide))) ⟨rfl,rfl⟩) (A3 (aQ hm (by decide))) (Gl (wpR ⟨rfl,rfl⟩) (Df (a:=1000) hm (show _<=5 by decide) (by decide)) (Gl (t:=Dv x p) ?_ (Df (BD (a:=1000) hm (show _<=5 by decide)) cl (by decide))
  (Gl (wpR ⟨rfl,rfl⟩) (Df (BD (BD (a:=1000) hm (show _<=5 by decide)) cl) (show _<=1 by decide) (by decide)) (Tu (Df (BD (BD (a:=1000) hm (show _<=5 by decide)) cl) (show _<=1 by decide) (by decide)) ?_)))))
 ·walk_at "wp"
  refine MA hx hp ?_
  exact VC (A3 (aQ cl (by decide))) ⟨rfl,rfl⟩
 ·refine KtI ?_
  rw [Ri]
  exact hQ
theorem Iy {t:M Bool}{b:M PFlow}{Q:PFlow->PS->Prop}{E:PX->PS->Prop}(I:Nat->PS->Prop)(n:Nat)
  (step:∀ k s,I k s->k<=n->wp t s (λc s'=>if c=true then wp b s' (λfl s''=>match fl with | .next=>k<n/\I (k+1) s'' | .cont=>k<n/\I (k+1) s'' | .brk=>Q .next s'' | .ret v=>Q (.ret v) s'') E else Q .next s') E) :
  ∀ (f k:Nat) (s:PS),I k s->k<=n->n - k<f->wp (az t b f) s Q E:=by
 intro f
 induction f with
 | zero=>exact λU U U U h=>absurd h (bw _)
 | succ f ih=>
  intro k s i hk h
  show wp (ac t λc=>if c then ac b λfl=>match fl with
    | .next=>az t b f
    | .cont=>az t b f
    | .brk=>ae .next
    | .ret v=>ae (.ret v)
   else ae .next) s Q E
  rw [wp_bind]
  refine wp_mono (step k s i hk) (λc s' z=>?_) λU U z=>z
  cases c with
  | false=>exact z
  | true=>
   rw [if_pos rfl] at z
   rw [if_pos rfl,wp_bind]
   refine wp_mono z (λfl s'' z=>?_) λU U z=>z
   cases fl with
   | next=>exact ih (k+1) s'' z.2 z.1 (fuel h z.1)
   | cont=>exact ih (k+1) s'' z.2 z.1 (fuel h z.1)
   | brk=>exact z
   | ret v=>exact z
section
variable {s:PS}{x y:Txt}{Q:PV->PS->Prop}{E:PX->PS->Prop}
theorem KQ {p:Int}:wp (Ex false (.str x) [.str y,.int p]) s Q E=((decide (0<=p)&&Ah p)=true/\match findFrom x y p.toNat with | some i=>Q (.int i) s | none=>E (.std "ValueError") s):=by
 show wp (ak _ _) s Q E=_
 rw [Am]
 congr 1
 cases findFrom x y p.toNat <;> rfl
end
theorem Jr {x:Txt}{c i:Nat}:AtT x [c] i↔x[i]? = some c:=by
 unfold AtT
 constructor
 ·rintro ⟨h1,h2⟩
  have:(x.drop i)[0]? = some c:=by
   cases q:x.drop i with
   | nil=>rw [q] at h2;cases h2
   | cons a r=>rw [q] at h2;simp at h2;rw [h2];rfl
  simpa using this
 ·intro h
  obtain ⟨lt,e⟩:=ba.mp h
  refine ⟨by simp;exact la [_,_] [([2,3,0],[4])] ([2,3,0],[4]) rfl lt,?_⟩
  rw [List.drop_eq_getElem_cons lt]
  simp [e]
theorem Nw {x:Txt}{c lo i:Nat}(h1:lo<=i)(h2:x[i]? = some c)(h3:∀ k,lo<=k->k<i->x[k]?≠some c):findFrom x [c] lo=some i:=by
 rcases Ik x [c] lo with ⟨e,n⟩ | ⟨j,e,q1,q2,q3⟩
 ·exact absurd (Jr.mpr h2) (n i h1)
 ·rw [e]
  congr 1
  rcases Nat.lt_trichotomy i j with q | q | q
  ·exact absurd (Jr.mpr h2) (q3 i h1 q)
  ·exact q.symm
  ·exact absurd (Jr.mp q2) (h3 j q1 q)
theorem Fc (x:Txt)(a b:Nat):slc x (some (a:Int)) (some (b:Int))=(x.take (min b x.length)).drop (min a x.length):=by
 unfold slc bnd
 simp only [Int.natCast_nonneg,if_true,Int.toNat_natCast]
def Js:Txt:=[70,111,117,110,100,32,105,110,118,97,108,105,100,32,99,104,97,114,97,99,116,101,114,32]
def legal (c:Nat):Bool:=!A1 0 c
theorem Nx {x:Txt}{p i:Nat}(f:Nat->Bool)(hi:i<=x.length):(slc x (some (p:Int)) (some (i:Int))).all f=true↔∀ k,p<=k->k<i->∀ c,x[k]? = some c->f c=true:=by
 rw [Fc,Nat.min_eq_left hi,all_eq_true]
 constructor
 ·intro h k h1 h2 c hc
  refine h c ?_
  rw [List.mem_iff_getElem?]
  refine ⟨k - min p x.length,?_⟩
  have lt:=(ba.mp hc).1
  rw [getElem?_drop,List.getElem?_take]
  rw [if_pos (by exact la [_,_,_,_] [([2,3,0],[4]),([6,8,0],[2])] ([8,6,0,3,0],[4]) rfl h2 (Mi.lcC (la [_,_,_] [([2],[4]),([6],[2])] ([6],[4]) rfl h1 (Nat.min_le_left _ _)))),show min p x.length+(k - min p x.length)=k by exact Nat.le_antisymm (la [_,_,_] [([2,4,0],[6])] ([4,2,0],[6]) rfl (Mi.lcC (la [_,_,_] [([2],[4]),([6],[2])] ([6],[4]) rfl h1 (Nat.min_le_left _ _)))) (la [_,_,_] [([2],[4,6,0])] ([2],[6,4,0]) rfl (Mi.lcS _ _))]
  exact hc
 ·intro h c hc
  obtain ⟨j,hj⟩:=List.mem_iff_getElem?.mp hc
  rw [getElem?_drop,List.getElem?_take] at hj
  split at hj
  ·have lt:=(ba.mp hj).1
   exact h (min p x.length+j) (by lia) (by lia) c hj
  ·cases hj
theorem GA {x:Txt}{a b:Option Int}:(slc x a b).length<=x.length:=by
 unfold slc
 exact aQ (by rw [length_drop];exact Nat.sub_le ..) (by rw [length_take];exact Nat.min_le_right ..)
theorem Iz {n:String}{h:M PFlow}:H1 n h (.std n)=some h:=by unfold H1;simp
section
variable {p:Nat}{x:Txt}{loc:Nat->Option PV}{st:List (List PV)}{Q:PV->PS->Prop}{E:PX->PS->Prop}
theorem Ny {y:Txt}{i:Nat}{p:Nat}{s:PS}(c:Ah (p:Int)=true)(e:findFrom x y p=some i)(h:Q (.int i) s):wp (Ex false (.str x) [.str y,.int p]) s Q E:=by
 rw [KQ,Int.toNat_natCast,e,c,decide_eq_true (Int.natCast_nonneg p)]
 exact ⟨rfl,h⟩
theorem VD {y:Txt}{p:Nat}{s:PS}(c:Ah (p:Int)=true)(e:findFrom x y p=none)(h:E (.std "ValueError") s):wp (Ex false (.str x) [.str y,.int p]) s Q E:=by
 rw [KQ,Int.toNat_natCast,e,c,decide_eq_true (Int.natCast_nonneg p)]
 exact ⟨rfl,h⟩
theorem T8 {k:Nat}{s:PS}(h:Q (.bool (x.all λc=>!A1 k c)) s):wp (Oz (.fset k) [.str x]) s Q E:=h
theorem T9 {s:PS}(l:(AY x).length<=big)(h:Q (.str (AY x)) s):wp (GI (.str x)) s Q E:=by rw [Ts];exact ⟨l,h⟩
theorem VE {k:Nat}{s:PS}(h:Q (.bool (!JU k x)) s):wp (Au .NotIn (.str x) (.fset k)) s Q E:=h
theorem Jt {c i:Nat}(h:x[i]? = some c):x.getD i 0=c:=by rw [getD_eq_getElem?_getD,h];rfl
abbrev tS (x:Txt)(p:Nat)(n:Option PV):Tb:=[some (.str x),some (.int p),some (.str [39]),some (.fset 0),some (.bool true),n]
theorem Fd {a b:Option Int}(hx:x.length<=12500000):(slc x a b).length<=big:=A3 (aQ GA hx)
theorem MB {i:Nat}(hx:x.length<=12500000)(h1:p<=i)(h2:x[i]? = some 39)(h3:∀ k,p<=k->k<i->x[k]?≠some 39)(hl:∀ k,p<=k->k<i->∀ c,x[k]? = some c->legal c=true)(hQ:Q (.int i) ⟨loc,st⟩) :
  wp (am (Bp Kx) [.str x,.int p,.str [39],.fset 0,.bool true]) ⟨loc,st⟩ Q E:=by
 have ltx:=(ba.mp h2).1
 have sp:Ah (p:Int)=true:=AC (by lia)
 have ha:=(Nx (λc=>!A1 0 c) (br ltx)).mpr hl
 refine BR 1 λL B=>?_
 unfold Bp
 refine wpA st (tS x p (some (.int i))) ?_ λL B=>?_
 ·rw [FK]
  walk_at "wp"
  refine Ny sp (Nw h1 h2 h3) ?_
  walk_at "wp"
  exact ⟨rfl,(B.set 5 _ |> At.mk _ rfl)⟩
 refine Bl ?_
 refine AK (c:=false) ?_ (λh=>(by cases h)) (λU=>?_)
 ·walk_at "wp"
  refine KM rfl (Fd hx) ?_
  walk_at "wp"
  refine T8 ?_
  rw [ha]
  walk_at "wp"
  exact ⟨rfl,rfl⟩
 ·refine wpR ?_
  walk_at "wp"
  exact hQ
inductive SkI (st:List (List PV))(x:Txt)(p i k:Nat)(s:PS):Prop
 | mk (a:At st (tS x (p+k) (some (.int i))) s):SkI st x p i k s
theorem Rk {i j b:Nat}(hx:x.length<=12500000)(hK:j+1<Kx+p)(h1:p<=i)(h2:x[i]? = some 39)(h3:∀ k,p<=k->k<i->x[k]?≠some 39)(j1:p<=j)(j2:j<i)(hj:x[j]? = some b)(hb:legal b=false)(hl:∀ k,p<=k->k<j->∀ c,x[k]? = some c->legal c=true)
  (hr:(AY [b]).length<=100) (hE:E (.toml (C4 x j (Js++AY [b]))) ⟨loc,st⟩) :
  wp (am (Bp Kx) [.str x,.int p,.str [39],.fset 0,.bool true]) ⟨loc,st⟩ Q E:=by
 have ltx:=(ba.mp h2).1
 have sp:Ah (p:Int)=true:=AC (by lia)
 have sm:∀ n,n<x.length->Ah (n:Int)=true:=λn h=>AC (bk h (aQ hx (by decide)))
 have ha:(slc x (some (p:Int)) (some (i:Int))).all (λc=>!A1 0 c)=false:=by
  cases q:(slc x (some (p:Int)) (some (i:Int))).all (λc=>!A1 0 c) with
  | false=>rfl
  | true=>
   have q:=(Nx (λc=>!A1 0 c) (br ltx)).mp q j j1 j2 b hj
   exact absurd ((show legal b=true from q).symm.trans hb) (by decide)
 refine BR 1 λL B=>?_
 unfold Bp CV
 refine wpA st (tS x p (some (.int i))) ?_ λL B=>?_
 ·rw [FK]
  walk_at "wp"
  refine Ny sp (Nw h1 h2 h3) ?_
  walk_at "wp"
  exact ⟨rfl,(B.set 5 _ |> At.mk _ rfl)⟩
 refine Bl ?_
 refine AK (c:=true) ?_ (λU=>?_) (λh=>(by cases h))
 ·walk_at "wp"
  refine KM rfl (Fd hx) ?_
  walk_at "wp"
  refine T8 ?_
  rw [ha]
  walk_at "wp"
  exact ⟨rfl,rfl⟩
 refine Bl ?_
 refine Iy (SkI st x p i) (j - p) (λk s z hk=>?_) Kx 0 _ (.mk (.mk L rfl B)) (aP _) (by lia)
 obtain ⟨L',rfl,B⟩:=z
 have lk:p+k<x.length:=by exact la [_,_,_,_,_,_] [([2,3,0],[4]),([4,3,0],[6]),([8],[10]),([10,12,0],[2])] ([12,8,0,3,0],[6]) rfl j2 ltx hk (Mi.lcC (la [_,_] [([2],[4])] ([2],[4]) rfl j1))
 have ek:x[p+k]? = some (x.getD (p+k) 0):=by rw [getD_eq_getElem?_getD,getElem?_eq_getElem lk];rfl
 walk_at "wp"
 refine Hk (sm _ lk) (E9 lk) ?_
 walk_at "wp"
 refine VE ?_
 walk_at "wp"
 by_cases q:k=j - p
 ·have e:p+k=j:=by rw [q];exact Nat.add_sub_of_le j1
  rw [e] at lk B ⊢
  rw [Jt hj,show JU 0 [b]=true from (by unfold legal at hb;simpa using hb:A1 0 b=true)]
  rw [Bool.not_true,if_neg (by decide)]
  walk_at "wp"
  refine Gl (wpR ⟨rfl,rfl⟩) (by decide) (Gl (t:=AY [b]) ?_ (Df (show _<=24 by decide) hr (by decide)) (Tu (Df (show _<=24 by decide) hr (by decide)) ?_))
  ·walk_at "wp"
   refine Hk (sm _ lk) (E9 lk) ?_
   rw [Jt hj]
   exact T9 (A3 (aQ hr (by decide))) ⟨rfl,rfl⟩
  walk_at "wp"
  exact DR (A3 hx) (bk lk (aQ hx (by decide))) (by rw [length_append];exact aQ (Nat.add_le_add (show _<=24 by decide) hr) (by decide)) hE
 ·have hk2:k<j - p:=Nat.lt_of_le_of_ne hk q
  have lg:=hl (p+k) (bz ..) (by exact la [_,_,_,_] [([2,3,0],[4]),([4,6,0],[8])] ([6,2,0,3,0],[8]) rfl hk2 (Mi.lcC (la [_,_] [([2],[4])] ([2],[4]) rfl j1))) _ ek
  rw [show JU 0 [x.getD (p+k) 0]=false from (by unfold legal at lg;simpa using lg:A1 0 _=false),Bool.not_false,if_pos rfl]
  walk_at "wp"
  exact ⟨hk2,.mk (B.set 1 _ |> At.mk _ rfl)⟩
theorem KR (hx:x.length<=12500000) (hs:∀ L,wp (am (Bp Kx) [.str x,.int ((p+1:Nat):Int),.str [39],.fset 0,.bool true]) ⟨L,st⟩
   (λv s'=>∃ i:Nat,v = .int i/\s'=⟨L,st⟩/\Q (.tup [.int ((i+1:Nat):Int),.str (slc x (some ((p+1:Nat):Int)) (some (i:Int)))]) ⟨loc,st⟩) λe s'=>E e ⟨loc,s'.st⟩) :
  wp (am (Ap Kx) [.str x,.int p]) ⟨loc,st⟩ Q E:=by
 refine BR 1 λL B=>?_
 unfold Ap
 refine wpA st [some (.str x),some (.int ((p+1:Nat):Int)),none] ?_ λL B=>?_
 ·walk_at "wp";exact ⟨rfl,(B.set 1 _ |> At.mk _ rfl)⟩
 refine wpA st [some (.str x),some (.int ((p+1:Nat):Int)),some (.int ((p+1:Nat):Int))] ?_ λL B=>?_
 ·walk_at "wp";exact ⟨rfl,(B.set 2 _ |> At.mk _ rfl)⟩
 refine Bl ?_
 walk_at "wp"
 refine wp_mono (hs L) (λv s' z=>?_) λU U z=>z
 obtain ⟨i,rfl,rfl,q⟩:=z
 have B:=B.set 1 (.int i)
 walk_at "wp"
 refine KM rfl (Fd hx) ?_
 walk_at "wp"
 ·exact (show 2<=big by decide)
 exact q
end
def VF:Txt:=[73,110,118,97,108,105,100,32,104,101,120,32,118,97,108,117,101]
def VG:Txt:=[85,110,101,115,99,97,112,101,100,32,39,92,39,32,105,110,32,97,32,115,116,114,105,110,103]
def Av (c:Nat):Prop:=c<=55295\/(57344<=c/\c<=1114111)
section
variable {p:Nat}{x:Txt}{loc:Nat->Option PV}{st:List (List PV)}{Q:PV->PS->Prop}{E:PX->PS->Prop}
theorem Tv {s:PS}(c:(!x.isEmpty&&x.all hexd&&decide (x.length<=640))=true)(h:Q (.int (hexval x)) s):wp (SO [.str x,.int 16]) s Q E:=by
 rw [show wp (SO [.str x,.int 16]) s Q E=(((16:Int)==16&&!x.isEmpty&&x.all hexd&&decide (x.length<=640))=true/\Q (.int (hexval x)) s) from Am]
 exact ⟨c,h⟩
theorem Nz {s:PS}{a b c:Int}(h:Q (.bool (decide (a<=b)&&decide (b<=c))) s):wp (FA .LtE .LtE (.int a) (.int b) (ae (.int c))) s Q E:=by
 unfold FA
 refine wpB (wpLeI (wpB (wpTb ?_)))
 cases q:decide (a<=b)
 ·rw [q] at h;exact h
 ·rw [q] at h;exact h
theorem VH {m m':M PV}{s:PS}(h:wp m s (λv s'=>∃ b,v = .bool b/\(if b=true then Q v s' else wp m' s' Q E)) E):wp (BS .Or [m,m']) s Q E:=by
 rw [Rd (by exact nofun)]
 refine wp_mono h (λv s' z=>?_) λU U z=>z
 obtain ⟨b,rfl,z⟩:=z
 cases b <;> exact z
theorem NA {m:M Bool}{r:List (M Bool)}{s:PS}{Q:Bool->PS->Prop}(h:wp m s (λb s'=>if b=true then Q true s' else wp (AG .Or r) s' Q E) E):wp (AG .Or (m::r)) s Q E:=My▸h
theorem VI {b:Bool}(h:(!b)=false):b=true:=by cases b <;> first | rfl | cases h
theorem VJ {k:Nat}{s:PS}(h:Q (.bool (x.all λc=>A1 k c)) s):wp (OA (.fset k) [.str x]) s Q E:=h
set_option tactic.hygienic true in
theorem KS {c:Nat}(h:Av c)(hQ:Q (.bool true) ⟨loc,st⟩):wp (am (AU Kx) [.int c]) ⟨loc,st⟩ Q E:=by
 refine BR 0 λL B=>?_
 unfold AU
 refine wpB (VH ?_)
 walk_at "wp"
 refine Nz ⟨_,rfl,?_⟩
 rw [decide_eq_true (Int.natCast_nonneg c),Bool.true_and]
 rcases h with h | h
 ·rw [decide_eq_true (show (c:Int)<=55295 from Int.ofNat_le.mpr h),if_pos rfl]
  exact hQ
 ·split
  ·rename_i z
   rw [z]
   exact hQ
  walk_at "wp"
  refine Nz ?_
  rw [decide_eq_true (show (57344:Int)<=c from Int.ofNat_le.mpr h.1),decide_eq_true (show (c:Int)<=1114111 from Int.ofNat_le.mpr h.2)]
  exact hQ
abbrev tH (x:Txt)(p n:Nat)(h v:Option PV):Tb:=[some (.str x),some (.int p),some (.int n),h,v]
theorem hex_go {n:Nat}{h:Txt}(hx:x.length<=12500000)(hp:p<=12500000)(hn:n=4\/n=8)(hs:slc x (some (p:Int)) (some ((p+n:Nat):Int))=h)(B:Bool)(hB:B=(!decide (h.length=n)||!h.all hexd))
  (k1:B=false->Av (hexval h)/\Q (.tup [.int ((p+n:Nat):Int),.str [hexval h]]) ⟨loc,st⟩) (k2:B=true->E (.toml (C4 x p VF)) ⟨loc,st⟩):wp (am (AH Kx) [.str x,.int p,.int n]) ⟨loc,st⟩ Q E:=by
 have hl:h.length<=12500000:=hs▸aQ GA hx
 refine BR 2 λL aO=>?_
 unfold AH
 refine wpA st (tH x p n (some (.str h)) none) ?_ λL aO=>?_
 ·walk_at "wp"
  refine KM hs (A3 hl) ?_
  walk_at "wp"
  exact ⟨rfl,(aO.set 3 _ |> At.mk _ rfl)⟩
 refine Bl ?_
 refine AK (c:=B) ?_ (λhb=>?_) (λhb=>?_)
 ·refine NA ?_
  walk_at "wp"
  ·exact A3 hl
  walk_at "wp"
  rw [isZ]
  cases q:decide (h.length=n)
  ·rw [q] at hB;exact ⟨hB.symm,rfl⟩
  ·rw [q] at hB
   rw [Bool.not_true,if_neg (by decide)]
   refine NA ?_
   walk_at "wp"
   refine VJ ?_
   walk_at "wp"
   rw [show (h.all λc=>A1 4 c)=h.all hexd from rfl]
   rw [Bool.not_true,Bool.false_or] at hB
   subst hB
   cases h.all hexd
   ·exact ⟨rfl,rfl⟩
   ·exact ⟨rfl,rfl⟩
 ·walk_at "wp"
  exact DR (A3 hx) (bx hp (by decide)) (by decide) (k2 hb)
 obtain ⟨s1,s2⟩:=k1 hb
 rw [hb] at hB
 have hB:=or_eq_false_iff.mp hB.symm
 have h1:h.length=n:=aX (VI hB.1)
 have h2:h.all hexd=true:=VI hB.2
 refine wpR ?_
 refine wpA st (tH x (p+n) n (some (.str h)) none) ?_ λL aO=>?_
 ·walk_at "wp"
  exact ⟨rfl,(aO.set 1 _ |> At.mk _ rfl)⟩
 refine wpA st (tH x (p+n) n (some (.str h)) (some (.int (hexval h)))) ?_ λL aO=>?_
 ·walk_at "wp"
  refine Tv ?_ ?_
  ·have ne:h.isEmpty=false:=by cases h with
    | nil=>rcases hn with rfl | rfl <;> cases h1
    | cons=>rfl
   rw [ne,h2,h1,decide_eq_true (show n<=640 by lia)];rfl
  walk_at "wp"
  exact ⟨rfl,(aO.set 4 _ |> At.mk _ rfl)⟩
 refine Bl ?_
 refine AK (c:=false) ?_ (λh=>(by cases h)) (λU=>?_)
 ·walk_at "wp"
  refine KS s1 ?_
  walk_at "wp"
  exact ⟨rfl,rfl⟩
 refine wpR ?_
 have sc:hexval h<=1114111:=s1.elim (λh=>aQ h (by decide)) λh=>h.2
 walk_at "wp"
 refine T5 (by rw [decide_eq_true (Int.natCast_nonneg _),decide_eq_true (show (hexval h:Int)<=1114111 from Int.ofNat_le.mpr sc)];rfl) ?_
 walk_at "wp"
 ·exact (show 2<=big by decide)
 exact s2
theorem KU {n:Nat}{h:Txt}(hx:x.length<=12500000)(hp:p<=12500000)(hn:n=4\/n=8)(hs:slc x (some (p:Int)) (some ((p+n:Nat):Int))=h) :
  ((h.length=n/\h.all hexd=true)->Av (hexval h)->Q (.tup [.int ((p+n:Nat):Int),.str [hexval h]]) ⟨loc,st⟩->wp (am (AH Kx) [.str x,.int p,.int n]) ⟨loc,st⟩ Q E) /\
  (¬ (h.length=n/\h.all hexd=true)->E (.toml (C4 x p VF)) ⟨loc,st⟩->wp (am (AH Kx) [.str x,.int p,.int n]) ⟨loc,st⟩ Q E):=by
 refine ⟨λq sc hQ=>hex_go hx hp hn hs false (by rw [q.2,decide_eq_true q.1];rfl) (λU=>⟨sc,hQ⟩) (λh=>(by cases h)),λq hE=>hex_go hx hp hn hs true ?_ (λh=>(by cases h)) λU=>hE⟩
 by_cases q1:h.length=n
 ·cases q2:h.all hexd with
  | true=>exact absurd ⟨q1,q2⟩ q
  | false=>rw [Bool.not_false,Bool.or_true]
 ·rw [decide_eq_false q1];rfl
theorem Rl {s:PS}:wp (As false .mp (.str x)) s Q E=match escT x with | some t=>Q (.str t) s | none=>E (.std "KeyError") s:=by
 show wp (match escT x with
  | some t=>ae (PV.str t)
  | none=>aJ false "KeyError") s Q E=_
 cases escT x <;> rfl
theorem CL {m:M Bool}{r:List (M Bool)}{s:PS}{Q:Bool->PS->Prop}(h:wp m s (λb s'=>if b=true then wp (AG .And r) s' Q E else Q false s') E):wp (AG .And (m::r)) s Q E:=F4▸h
abbrev tEs (x:Txt)(p:Nat)(e:Option PV):Tb:=[some (.str x),some (.int p),some (.bool false),e]
theorem Hp {e:Txt}(hx:x.length<=12500000)(hp:p<=12500000)(he:slc x (some (p:Int)) (some ((p+2:Nat):Int))=e)
  (h4:e=[92,117]->∀ L,wp (am (AH Kx) [.str x,.int ((p+2:Nat):Int),.int (4:Nat)]) ⟨L,st⟩ (λv s'=>Q v ⟨loc,s'.st⟩) (λe s'=>E e ⟨loc,s'.st⟩))
  (h8:e=[92,85]->∀ L,wp (am (AH Kx) [.str x,.int ((p+2:Nat):Int),.int (8:Nat)]) ⟨L,st⟩ (λv s'=>Q v ⟨loc,s'.st⟩) (λe s'=>E e ⟨loc,s'.st⟩))
  (hk:e≠[92,117]->e≠[92,85]->match escT e with | some t=>Q (.tup [.int ((p+2:Nat):Int),.str t]) ⟨loc,st⟩ | none=>E (.toml (C4 x (p+2) VG)) ⟨loc,st⟩) :
  wp (am (Aq Kx) [.str x,.int p,.bool false]) ⟨loc,st⟩ Q E:=by
 have hl:e.length<=12500000:=he▸aQ GA hx
 refine BR 1 λL B=>?_
 unfold Aq
 refine wpA st (tEs x p (some (.str e))) ?_ λL B=>?_
 ·walk_at "wp"
  refine KM he (A3 hl) ?_
  walk_at "wp"
  exact ⟨rfl,(B.set 3 _ |> At.mk _ rfl)⟩
 refine wpA st (tEs x (p+2) (some (.str e))) ?_ λL B=>?_
 ·walk_at "wp"
  exact ⟨rfl,(B.set 1 _ |> At.mk _ rfl)⟩
 refine Bl ?_
 refine AK (c:=false) (CL (by walk_at "wp";exact ⟨rfl,rfl⟩)) (λh=>(by cases h)) (λU=>wpR ?_)
 refine Bl ?_
 refine AK (c:=(e==[92,117])) (by walk_at "wp";exact ⟨rfl,rfl⟩) (λh=>?_) (λn4=>wpR ?_)
 ·walk_at "wp"
  exact h4 (eq_of_beq h) L
 refine Bl ?_
 refine AK (c:=(e==[92,85])) (by walk_at "wp";exact ⟨rfl,rfl⟩) (λh=>?_) (λn8=>wpR ?_)
 ·walk_at "wp"
  exact h8 (eq_of_beq h) L
 have hk:=hk (ne_of_beq_false n4) (ne_of_beq_false n8)
 refine KnI ?_
 rw [FK]
 walk_at "wp"
 rw [Rl]
 cases q:escT e with
 | some t=>
  rw [q] at hk
  dsimp only
  walk_at "wp"
  ·exact (show 2<=big by decide)
  exact hk
 | none=>
  rw [q] at hk
  dsimp only
  rw [Iz]
  dsimp only
  walk_at "wp"
  exact DR (A3 hx) (bx (Nat.add_le_add_right hp 2) (by decide)) (by decide) hk
end
def VK:Txt:=[85,110,116,101,114,109,105,110,97,116,101,100,32,115,116,114,105,110,103]
def HW:Txt:=[73,108,108,101,103,97,108,32,99,104,97,114,97,99,116,101,114,32]
def Ua (x:Txt)(p p':Nat)(t:Txt):Prop:=∀ (loc:Nat->Option PV) (st:List (List PV)) (Q:PV->PS->Prop) (E:PX->PS->Prop),Q (.tup [.int p',.str t]) ⟨loc,st⟩->wp (am (Aq Kx) [.str x,.int p,.bool false]) ⟨loc,st⟩ Q E
def U3 (x:Txt)(p:Nat)(t:Txt):Prop:=∀ (loc:Nat->Option PV) (st:List (List PV)) (Q:PV->PS->Prop) (E:PX->PS->Prop),E (.toml t) ⟨loc,st⟩->wp (am (Aq Kx) [.str x,.int p,.bool false]) ⟨loc,st⟩ Q E
inductive BOut where
 | ok (i:Nat) (D:Txt)
 | err (t:Txt)
inductive Bas (x:Txt):Nat->Txt->BOut->Prop
 | eof {D:Txt}:Bas x x.length D (.err (C4 x x.length VK))
 | quote {p:Nat} {D:Txt}:x[p]? = some 34->Bas x p D (.ok (p+1) D)
 | esc {p p':Nat} {D t:Txt} {o:BOut}:x[p]? = some 92->Ua x p p' t->t.length=1->p<p'->p'<=x.length->Bas x p' (D++t) o->Bas x p D o
 | escBad {p:Nat} {D t:Txt}:x[p]? = some 92->U3 x p t->Bas x p D (.err t)
 | bad {p c:Nat} {D:Txt}:x[p]? = some c->c≠34->c≠92->A1 0 c=true->(AY [c]).length<=100->Bas x p D (.err (C4 x p (HW++AY [c])))
 | raw {p c:Nat} {D:Txt} {o:BOut}:x[p]? = some c->c≠34->c≠92->A1 0 c=false->Bas x (p+1) (D++[c]) o->Bas x p D o
theorem U4 (Kx:Nat):Bv Kx=aj (ac ((ac (af 2) tst)) λc=>if c then (aj (ac (ae (.fset 1)) λa=>ac (ah 3 a) λU=>ae .next)
  (ac (ae (.fn 1)) λa=>ac (ah 4 a) λU=>ae .next)) else (aj (ac (ae (.fset 0)) λa=>ac (ah 3 a) λU=>ae .next)
  (ac (ae (.fn 0)) λa=>ac (ah 4 a) λU=>ae .next)))
  (aj (ac (ae (.str [])) λa=>ac (ah 5 a) λU=>ae .next)
  (aj (ac (af 1) λa=>ac (ah 6 a) λU=>ae .next)
  (az ((ac (ae (.bool true)) tst)) (Al Kx) Kx))):=rfl
theorem KV (x:Txt)(p:Nat):slc x (some (p:Int)) (some (p:Int))=[]:=by
 rw [Fc]
 apply eq_nil_of_length_eq_zero
 simp only [length_drop,length_take]
 lia
theorem Rm {x:Txt}{sp p c:Nat}(h:sp<=p)(hc:x[p]? = some c):slc x (some (sp:Int)) (some ((p+1:Nat):Int))=slc x (some (sp:Int)) (some (p:Int))++[c]:=by
 have lt:=(ba.mp hc).1
 rw [Fc,Fc,Nat.min_eq_left (by exact la [_,_] [([2,3,0],[4])] ([2,3,0],[4]) rfl lt:p+1<=x.length),Nat.min_eq_left (by exact la [_,_] [([2,3,0],[4])] ([2],[4]) rfl lt:p<=x.length),Nat.min_eq_left (by exact la [_,_,_] [([2],[4]),([4,3,0],[6])] ([2],[6]) rfl h lt:sp<=x.length),take_succ,hc]
 rw [List.drop_append_of_le_length (by simp;lia)]
 rfl
theorem D9 {b:M PFlow}{f:Nat}{s:PS}{Q:PFlow->PS->Prop}{E:PX->PS->Prop} (h:wp b s (λfl s'=>match fl with
  | .next=>wp (az ((ac (ae (.bool true)) tst)) b f) s' Q E
  | .cont=>wp (az ((ac (ae (.bool true)) tst)) b f) s' Q E
  | .brk=>Q .next s'
  | .ret v=>Q (.ret v) s') E):wp (az ((ac (ae (.bool true)) tst)) b (f+1)) s Q E:=by
 show wp (ac (ac (ae (.bool true)) tst) λc=>if c then ac b λfl=>match fl with
    | .next=>az ((ac (ae (.bool true)) tst)) b f
    | .cont=>az ((ac (ae (.bool true)) tst)) b f
    | .brk=>ae .next
    | .ret v=>ae (.ret v)
   else ae .next) s Q E
 rw [wp_bind,wp_bind,FI,KJ,if_pos rfl,wp_bind]
 refine wp_mono h (λfl s' z=>?_) λU U z=>z
 cases fl <;> exact z
theorem U5 {m1 m2:M PV}{s:PS}{Q:PV->PS->Prop}{E:PX->PS->Prop}:wp (aM (UG Kx) [m1,m2] (.fn 0)) s Q E=wp (ac (ag [m1,m2]) λl=>am (Aq Kx) (l++[.bool false])) s Q E:=rfl
theorem Hq {f g:PV->M Unit}{a b:PV}{s:PS}{Q:Unit->PS->Prop}{E:PX->PS->Prop}:wp (aC [f,g] (.tup [a,b])) s Q E=wp (f a) s (λU s'=>wp (g b) s' (λU s''=>Q () s'') E) E:=by
 show wp (ak true (ac (f a) λU=>ac (g b) λU=>ae ())) s Q E=_
 rw [Am,wp_bind]
 simp only [true_and,wp_bind,FI]
abbrev tBs (x:Txt)(p:Nat)(R:Txt)(sp:Nat)(c t:Option PV):Tb:=[some (.str x),some (.int p),some (.bool false),some (.fset 0),some (.fn 0),some (.str R),some (.int sp),c,t]
section
variable {p sp c:Nat}{x R D:Txt}{L:Nat->Option PV}{st:List (List PV)}{Q:PFlow->PS->Prop}{E:PX->PS->Prop}
theorem Rn (hx:x.length<=12500000)(hc:x[p]? = some c):p<1000000000:=bk (ba.mp hc).1 (aQ hx (by decide))
theorem FM {X:PX->Option (M PFlow)}{r:M PFlow}(hx:x.length<=12500000)(hc:x[p]? = some c)(B:Loc (tBs x p R sp none none) L)(h:∀ L,Loc (tBs x p R sp (some (.str [c])) none) L->wp r ⟨L,st⟩ Q E) :
  wp (aj (aE X ((ac ((ac (af 0) λa=>ac (af 1) λb=>As false a b)) λa=>ac (ah 7 a) λU=>ae .next))) r) ⟨L,st⟩ Q E:=by
 refine Bl ?_
 rw [FK]
 walk_at "wp"
 refine Hk (AC (aY (Rn hx hc) (by decide))) (E9 (ba.mp hc).1) ?_
 rw [Jt hc]
 walk_at "wp"
 exact h _ (B.set 7 _)
theorem Ro (hx:x.length<=12500000)(B:Loc (tBs x x.length R sp none none) L)(hE:E (.toml (C4 x x.length VK)) ⟨L,st⟩):wp (Al Kx) ⟨L,st⟩ Q E:=by
 unfold Al
 have lt:x.length<1000000000:=bx hx (by decide)
 have ix:idx (x.length:Int) x.length=none:=by unfold idx;rw [if_pos (Int.natCast_nonneg _),if_neg (by rw [Int.toNat_natCast];exact Nat.lt_irrefl _)]
 refine Bl ?_
 rw [FK]
 walk_at "wp"
 rw [KL,ix]
 refine ⟨AC (aY lt (by decide)),?_⟩
 dsimp only
 rw [Iz]
 dsimp only
 walk_at "wp"
 exact DR (A3 hx) lt (by decide) hE
theorem Rp (hx:x.length<=12500000)(hp:p<=x.length){l:Nat}(hl:l<=p):l<=big:=A3 (aQ hl (aQ hp hx))
theorem MC (hx:x.length<=12500000)(hp:p<=x.length)(hc:x[p]? = some 34)(B:Loc (tBs x p R sp none none) L)(hD:R++slc x (some (sp:Int)) (some (p:Int))=D)(hl:D.length<=p)(hQ:∀ L',Q (.ret (.tup [.int ((p+1:Nat):Int),.str D])) ⟨L',st⟩) :
  wp (Al Kx) ⟨L,st⟩ Q E:=by
 unfold Al
 refine FM hx hc B λL B=>?_
 refine Bl ?_
 refine AK (c:=true) (by walk_at "wp";exact ⟨rfl,rfl⟩) (λU=>?_) (λh=>(by cases h))
 refine Bl ?_
 refine AK (c:=true) (by walk_at "wp";exact ⟨rfl,rfl⟩) (λU=>?_) (λh=>(by cases h))
 walk_at "wp"
 refine KM rfl (Fd hx) ?_
 walk_at "wp"
 ·rw [hD];exact Rp hx hp hl
 ·exact (show 2<=big by decide)
 rw [hD]
 exact hQ _
theorem KW (hx:x.length<=12500000)(hc:x[p]? = some 92)(B:Loc (tBs x p R sp none none) L)(hD:R++slc x (some (sp:Int)) (some (p:Int))=D)(hl:D.length<=p)
  (h:∀ L,wp (am (Aq Kx) [.str x,.int p,.bool false]) ⟨L,st⟩ (λv s'=>∃ (p':Nat) (t:Txt),v = .tup [.int p',.str t]/\s'=⟨L,st⟩/\t.length=1/\∀ L',Loc (tBs x p' (D++t) p' none none) L'->Q .cont ⟨L',st⟩) E) :
  wp (Al Kx) ⟨L,st⟩ Q E:=by
 unfold Al
 have hp:=br (ba.mp hc).1
 refine FM hx hc B λL B=>?_
 refine Bl ?_
 refine AK (c:=false) (by walk_at "wp";exact ⟨rfl,rfl⟩) (λh=>(by cases h)) (λU=>wpR ?_)
 refine Bl ?_
 refine AK (c:=true) (by walk_at "wp";exact ⟨rfl,rfl⟩) (λU=>?_) (λh=>(by cases h))
 refine wpA st (tBs x p D sp none none) ?_ λL B=>?_
 ·walk_at "wp"
  refine KM rfl (Fd hx) ?_
  walk_at "wp"
  ·rw [hD];exact Rp hx hp hl
  rw [hD]
  exact ⟨rfl,((B.set 5 _).drop 7 |> At.mk _ rfl)⟩
 refine Bl ?_
 walk_at "wp"
 rw [U5]
 walk_at "wp"
 refine wp_mono (h L) (λv s' z=>?_) λU U z=>z
 obtain ⟨p',t,rfl,rfl,ht,k⟩:=z
 refine wpB ?_
 rw [Hq]
 have B:=((B.set 1 (.int p')).set 8 (.str t))
 walk_at "wp"
 refine Bl ?_
 walk_at "wp"
 ·rw [length_append,ht];exact A3 (bx hl (bk (ba.mp hc).1 hx))
 have B:=B.set 5 (.str (D++t))
 refine Bl ?_
 walk_at "wp"
 exact k _ ((B.set 6 _).drop 8)
theorem Hr (hx:x.length<=12500000)(hc:x[p]? = some c)(n1:c≠34)(n2:c≠92)(B:Loc (tBs x p R sp none none) L)(h1:A1 0 c=true->(AY [c]).length<=100/\∀ L',E (.toml (C4 x p (HW++AY [c]))) ⟨L',st⟩)
  (h2:A1 0 c=false->∀ L',Loc (tBs x (p+1) R sp none none) L'->Q .next ⟨L',st⟩):wp (Al Kx) ⟨L,st⟩ Q E:=by
 unfold Al
 refine FM hx hc B λL B=>?_
 have ne:∀ d,c≠d->([c]==[d])=false:=λd h=>bv.mpr λe=>h (List.cons.inj e).1
 refine Bl ?_
 refine AK (c:=false) (by walk_at "wp";exact ⟨ne 34 n1,rfl⟩) (λh=>(by cases h)) (λU=>wpR ?_)
 refine Bl ?_
 refine AK (c:=false) (by walk_at "wp";exact ⟨ne 92 n2,rfl⟩) (λh=>(by cases h)) (λU=>wpR ?_)
 refine Bl ?_
 refine AK (c:=A1 0 c) (by walk_at "wp";exact ⟨rfl,rfl⟩) (λe=>?_) (λe=>wpR ?_)
 ·obtain ⟨hr,hE⟩:=h1 e
  walk_at "wp"
  refine Gl (wpR ⟨rfl,rfl⟩) (by decide) (Gl (t:=AY [c]) ?_ (Df (show _<=18 by decide) hr (by decide)) (Tu (Df (show _<=18 by decide) hr (by decide)) ?_))
  ·walk_at "wp"
   exact T9 (A3 (aQ hr (by decide))) ⟨rfl,rfl⟩
  walk_at "wp"
  exact DR (A3 hx) (Rn hx hc) (by rw [length_append];exact aQ (Nat.add_le_add (show _<=18 by decide) hr) (by decide)) (hE _)
 ·walk_at "wp"
  exact h2 e _ ((B.set 1 _).drop 7)
end
theorem Rq {x:Txt}(hx:x.length<=12500000){st:List (List PV)}{Q:PFlow->PS->Prop}{E:PX->PS->Prop}:∀ {p:Nat} {D:Txt} {o:BOut},Bas x p D o->(match o with | .ok i D'=>∀ L',Q (.ret (.tup [.int i,.str D'])) ⟨L',st⟩ | .err t=>∀ L',E (.toml t) ⟨L',st⟩) ->
  ∀ {f:Nat} {L:Nat->Option PV} {R:Txt} {sp:Nat},p<=x.length->x.length+1<f+p->Loc (tBs x p R sp none none) L->sp<=p->R++slc x (some (sp:Int)) (some (p:Int))=D->D.length<=p ->
   wp (az ((ac (ae (.bool true)) tst)) (Al Kx) f) ⟨L,st⟩ Q E:=by
 have pos:∀ {f p:Nat},p<=x.length->x.length+1<f+p->∃ g,f=g+1:=λ{f p} h1 h2=>by
  cases f with
  | zero=>lia
  | succ g=>exact ⟨g,rfl⟩
 intro p D o b
 induction b with
 | @eof D=>
  intro hQ f L R sp hp hf B hsp hD hl
  obtain ⟨f,rfl⟩:=pos hp hf
  exact D9 (Ro hx B (hQ _))
 | @quote p D hc=>
  intro hQ f L R sp hp hf B hsp hD hl
  obtain ⟨f,rfl⟩:=pos hp hf
  exact D9 (MC hx hp hc B hD hl hQ)
 | @esc p p' D t o hc he ht lt' le' b ih=>
  intro hQ f L R sp hp hf B hsp hD hl
  obtain ⟨f,rfl⟩:=pos hp hf
  refine D9 (KW hx hc B hD hl λL=>he L st _ _ ⟨p',t,rfl,rfl,ht,λL' B=>?_⟩)
  exact ih hQ le' (T6 hf lt') B (aR _) (by rw [KV,append_nil]) (by rw [length_append,ht];exact bx hl lt')
 | @escBad p D t hc he=>
  intro hQ f L R sp hp hf B hsp hD hl
  obtain ⟨f,rfl⟩:=pos hp hf
  exact D9 (KW hx hc B hD hl λL=>he L st _ _ (hQ _))
 | @bad p c D hc n1 n2 hs hr=>
  intro hQ f L R sp hp hf B hsp hD hl
  obtain ⟨f,rfl⟩:=pos hp hf
  exact D9 (Hr hx hc n1 n2 B (λU=>⟨hr,hQ⟩) λe=>nomatch hs.symm.trans e)
 | @raw p c D o hc n1 n2 hs b ih=>
  intro hQ f L R sp hp hf B hsp hD hl
  obtain ⟨f,rfl⟩:=pos hp hf
  refine D9 (Hr hx hc n1 n2 B (λe=>nomatch hs.symm.trans e) λU L' B=>?_)
  refine ih hQ (ba.mp hc).1 (T6 hf (bp p)) B (Nat.le_succ_of_le hsp) ?_ (by rw [length_append];exact bA hl)
  rw [Rm hsp hc,<- append_assoc,hD]
section
variable {p:Nat}{x:Txt}{loc:Nat->Option PV}{st:List (List PV)}{Q:PV->PS->Prop}{E:PX->PS->Prop}
theorem Rs {o:BOut}(hx:x.length<=12500000)(hp:p<=x.length)(hK:x.length+1<Kx)(b:Bas x p [] o)(hQ:match o with | .ok i D=>Q (.tup [.int i,.str D]) ⟨loc,st⟩ | .err t=>E (.toml t) ⟨loc,st⟩) :
  wp (am (Bv Kx) [.str x,.int p,.bool false]) ⟨loc,st⟩ Q E:=by
 refine BR 6 λL B=>?_
 rw [U4]
 refine Bl ?_
 refine AK (c:=false) (by walk_at "wp";exact ⟨rfl,rfl⟩) (λh=>(by cases h)) (λU=>?_)
 refine Bl ?_
 walk_at "wp"
 have B:=(B.set 3 (.fset 0)).set 4 (.fn 0)
 refine wpA st [some (.str x),some (.int p),some (.bool false),some (.fset 0),some (.fn 0),some (.str []),none,none,none] (by walk_at "wp";exact ⟨rfl,(B.set 5 _ |> At.mk _ rfl)⟩) λL B=>?_
 refine wpA st (tBs x p [] p none none) (by walk_at "wp";exact ⟨rfl,(B.set 6 _ |> At.mk _ rfl)⟩) λL B=>?_
 refine Rq hx b ?_ (R:=[]) (sp:=p) hp (bk hK (bz ..)) B (aR _) (by rw [KV];rfl) (aP _)
 cases o with
 | ok i D=>exact λL'=>hQ
 | err t=>exact λL'=>hQ
theorem Ek {o:BOut}(hx:x.length<=12500000)(hp:p+1<=x.length)(hK:x.length+1<Kx)(b:Bas x (p+1) [] o)(hQ:match o with | .ok i D=>Q (.tup [.int i,.str D]) ⟨loc,st⟩ | .err t=>E (.toml t) ⟨loc,st⟩) :
  wp (am (Ag Kx) [.str x,.int p]) ⟨loc,st⟩ Q E:=by
 refine BR 0 λL B=>?_
 unfold Ag
 refine wpA st [some (.str x),some (.int ((p+1:Nat):Int))] (by walk_at "wp";exact ⟨rfl,(B.set 1 _ |> At.mk _ rfl)⟩) λL B=>?_
 walk_at "wp"
 refine Rs hx hp hK b ?_
 cases o with
 | ok i D=>exact hQ
 | err t=>exact hQ
end
theorem Di {x y z:Txt}{p n:Nat}(h:x.drop p=y++z)(hp:p<=x.length)(hn:y.length=n):slc x (some (p:Int)) (some ((p+n:Nat):Int))=y:=by
 have hl:(x.drop p).length=y.length+z.length:=by rw [h,length_append]
 rw [length_drop] at hl
 rw [Fc,Nat.min_eq_left (by exact la [_,_,_,_,_,_] [([2],[4]),([4,6,0],[8]),([8,10,0],[12])] ([10,2,0],[12]) rfl (Nat.le_of_eq hn.symm) (Nat.le_of_eq hl.symm) (Mi.lcC (la [_,_] [([2],[4])] ([2],[4]) rfl hp)):p+n<=x.length),Nat.min_eq_left hp,List.drop_take]
 rw [h,show p+n - p=n by exact Nat.le_antisymm (la [_,_,_] [([2,4,0],[4,6,0])] ([2],[6]) rfl (Mi.lcC (la [_,_] [] ([2],[2,4,0]) rfl))) (la [_,_,_] [([2,4,0],[6,2,0])] ([4],[6]) rfl (Mi.lcS _ _)),<- hn]
 simp
theorem Br {x z:Txt}{p c:Nat}(h:x.drop p=c::z):x[p]? = some c:=by
 have:(x.drop p)[0]? = some c:=by rw [h];rfl
 simpa using this
theorem AW {x y z:Txt}{p:Nat}(h:x.drop p=y++z):x.drop (p+y.length)=z:=by
 rw [<- List.drop_drop,h];simp
theorem BE {x z:Txt}{p c:Nat}(h:x.drop p=c::z):p<x.length:=(ba.mp (Br h)).1
section
variable {x:Txt}{p c:Nat}{t rest:Txt}
theorem Rt (hx:x.length<=12500000)(hc:Av c)(u:UnitOf c t)(h:x.drop p=t++rest)(h0:x[p]? = some 92)(n92:c=92->t≠[92]):Ua x p (p+t.length) [c]:=by
 have lt:=(ba.mp h0).1
 intro loc st Q E hQ
 cases u with
 | raw h1 h2 h3=>
  have:=Br (x:=x) (p:=p) (c:=c) (z:=rest) h
  rw [h0] at this
  cases this
  exact absurd rfl h3
 | @short d h1 h2 h3=>
  refine Hp hx (by exact la [_,_] [([2],[25000001]),([4,3,0],[2])] ([4],[25000001]) rfl hx lt) (Di (n:=2) h (by exact la [_,_] [([2,3,0],[4])] ([2],[4]) rfl lt) rfl) (λe=>?_) (λe=>?_) (λU U=>?_)
  ·simp at e;exact absurd e h2
  ·simp at e;exact absurd e h3
  ·rw [h1];exact hQ
 | @four hh h1 h2 h3=>
  have hd:x.drop p=[92,117]++(hh++rest):=h
  have hd2:x.drop (p+2)=hh++rest:=AW hd
  have hl:(x.drop p).length=2+(hh.length+rest.length):=by rw [hd];simp;exact bc (la [_,_] [] ([2,4,0,3,0,3,0],[5,2,4,0,0]) rfl) (la [_,_] [] ([5,2,4,0,0],[2,4,0,3,0,3,0]) rfl)
  rw [length_drop] at hl
  refine Hp hx (by exact la [_,_,_] [([2],[25000001]),([4,6,0],[2])] ([6],[25000001]) rfl hx (Mi.lcC (la [_,_] [([2,3,0],[4])] ([2],[4]) rfl lt))) (Di (n:=2) hd (by exact la [_,_,_] [([2,4,0],[6])] ([4],[6]) rfl (Mi.lcC (la [_,_] [([2,3,0],[4])] ([2],[4]) rfl lt))) rfl) (λe L=>?_) (λe=>?_) (λe=>absurd rfl e)
  ·refine (KU (h:=hh) (n:=4) hx (by exact la [_,_,_,_,_] [([2],[25000001]),([5,4,6,0,0],[8]),([8,10,0],[2])] ([10,5,0],[25000001]) rfl hx (aS hl.symm) (Mi.lcC (la [_,_] [([2,3,0],[4])] ([2],[4]) rfl lt))) (.inl rfl) (Di (n:=4) hd2 (by exact la [_,_,_,_,_] [([5,2,4,0,0],[6]),([6,8,0],[10])] ([8,5,0],[10]) rfl (aS hl.symm) (Mi.lcC (la [_,_] [([2,3,0],[4])] ([2],[4]) rfl lt))) h1)).1 ⟨h1,h2⟩ (h3▸hc) ?_
   rw [h3]
   have e:p+2+4=p+(92::117::hh).length:=by simp [h1]
   rw [e]
   exact hQ
  ·simp at e
 | @eight hh h1 h2 h3=>
  have hd:x.drop p=[92,85]++(hh++rest):=h
  have hd2:x.drop (p+2)=hh++rest:=AW hd
  have hl:(x.drop p).length=2+(hh.length+rest.length):=by rw [hd];simp;exact bc (la [_,_] [] ([2,4,0,3,0,3,0],[5,2,4,0,0]) rfl) (la [_,_] [] ([5,2,4,0,0],[2,4,0,3,0,3,0]) rfl)
  rw [length_drop] at hl
  refine Hp hx (by exact la [_,_,_] [([2],[25000001]),([4,6,0],[2])] ([6],[25000001]) rfl hx (Mi.lcC (la [_,_] [([2,3,0],[4])] ([2],[4]) rfl lt))) (Di (n:=2) hd (by exact la [_,_,_] [([2,4,0],[6])] ([4],[6]) rfl (Mi.lcC (la [_,_] [([2,3,0],[4])] ([2],[4]) rfl lt))) rfl) (λe=>?_) (λe L=>?_) (λU e=>absurd rfl e)
  ·simp at e
  ·refine (KU (h:=hh) (n:=8) hx (by exact la [_,_,_,_,_] [([2],[25000001]),([5,4,6,0,0],[8]),([8,10,0],[2])] ([10,5,0],[25000001]) rfl hx (aS hl.symm) (Mi.lcC (la [_,_] [([2,3,0],[4])] ([2],[4]) rfl lt))) (.inr rfl) (Di (n:=8) hd2 (by exact la [_,_,_,_,_] [([5,2,4,0,0],[6]),([6,8,0],[10])] ([8,5,0],[10]) rfl (aS hl.symm) (Mi.lcC (la [_,_] [([2,3,0],[4])] ([2],[4]) rfl lt))) h1)).1 ⟨h1,h2⟩ (h3▸hc) ?_
   rw [h3]
   have e:p+2+8=p+(92::85::hh).length:=by simp [h1]
   rw [e]
   exact hQ
end
inductive Units:Txt->List Txt->Prop
 | nil:Units [] []
 | cons {c:Nat} {t cs:Txt} {ts:List Txt} (hc:Av c) (u:UnitOf c t) (r:Units cs ts):Units (c::cs) (t::ts)
theorem F5 {c:Nat}(h:BJ c=true):A1 0 c=false:=by
 unfold BJ at h
 simp only [and_eq_true,bne_iff_ne,ne_eq,or_eq_true,beq_iff_eq,decide_eq_true_eq] at h
 show (ctl c&&c != 9)=false
 unfold ctl
 by_cases q:c=9
 ·subst q;rfl
 ·have h1:¬ c<32:=by lia
  simp [h1,h.1]
theorem O4 {c:Nat}{t:Txt}(u:UnitOf c t):(t=[c]/\BJ c=true/\c≠34/\c≠92)\/∃ r,t=92::r/\r≠[]:=by
 cases u with
 | raw h1 h2 h3=>exact .inl ⟨rfl,h1,h2,h3⟩
 | short h1 h2 h3=>exact .inr ⟨_,rfl,cons_ne_nil _ _⟩
 | four h1 h2 h3=>exact .inr ⟨_,rfl,cons_ne_nil _ _⟩
 | eight h1 h2 h3=>exact .inr ⟨_,rfl,cons_ne_nil _ _⟩
section
variable {x:Txt}
theorem O5 (hx:x.length<=12500000){o:BOut}{rest:Txt}:∀ {cs:Txt} {ts:List Txt},Units cs ts->∀ {p:Nat} {D:Txt},p<=x.length->x.drop p=ts.flatten++rest->Bas x (p+ts.flatten.length) (D++cs) o->Bas x p D o:=by
 intro cs ts u
 induction u with
 | nil=>intro p D _ _ b;simpa using b
 | @cons c t cs ts hc u r ih=>
  intro p D hp h b
  rw [flatten_cons,append_assoc] at h
  have hl:(x.drop p).length=t.length+(ts.flatten++rest).length:=by rw [h,length_append]
  rw [length_drop] at hl
  have hd:=AW h
  rcases O4 u with ⟨rfl,h1,h2,h3⟩ | ⟨r',rfl,hr'⟩
  ·refine .raw (Br h) h2 h3 (F5 h1) ?_
   refine ih (by simp at hl;exact la [_,_,_,_,_] [([3,2,4,0,0],[6]),([6,8,0],[10])] ([8,3,0],[10]) rfl (aS hl.symm) (Mi.lcC (la [_,_] [([2],[4])] ([2],[4]) rfl hp))) hd ?_
   rw [append_assoc]
   rw [flatten_cons,length_append,<- Nat.add_assoc] at b
   exact b
  ·have h0:=Br h
   refine .esc h0 (Rt hx hc u h h0 (λU e=>hr' (List.cons.inj e).2)) rfl (by simp) (by exact la [_,_,_,_,_] [([2,4,0],[6]),([6,8,0],[10])] ([8,2,0],[10]) rfl (aS hl.symm) (Mi.lcC (la [_,_] [([2],[4])] ([2],[4]) rfl hp))) ?_
   refine ih (by exact la [_,_,_,_,_] [([2,4,0],[6]),([6,8,0],[10])] ([8,2,0],[10]) rfl (aS hl.symm) (Mi.lcC (la [_,_] [([2],[4])] ([2],[4]) rfl hp))) hd ?_
   rw [append_assoc]
   rw [flatten_cons,length_append,<- Nat.add_assoc] at b
   exact b
end
def firstN:List Nat:=[34,92,39,9,10,13,8,12,127,0,31,32,47,48,117,85,98,110,65,102,128,55295,57344,65535,65536,1114111]
abbrev MD:List PV:=[.int 34,.int 92,.int 39,.int 9,.int 10,.int 13,.int 8,.int 12,.int 127,.int 0,.int 31,.int 32,.int 47,.int 48,.int 117,.int 85,.int 98,.int 110,.int 65,.int 102,.int 128,.int 55295,.int 57344,.int 65535,.int 65536,.int 1114111]
theorem Ru:MD=firstN.map λn=>PV.int (n:Nat):=rfl
theorem Rv:∀ k,k<26->(firstN.getD k 0<=55295\/(57344<=firstN.getD k 0/\firstN.getD k 0<=1114111)):=by decide
section
variable {loc:Nat->Option PV}{st:List (List PV)}{Q:PV->PS->Prop}{E:PX->PS->Prop}
theorem Rx {a:Nat}{i:Int}:wp (As false (.lst a) (.int i)) ⟨loc,st⟩ Q E=(Ah i=true/\match st[a]? with | some l=>(match (idx i l.length).bind (l[·]?) with | some v=>Q v ⟨loc,st⟩ | none=>False) | none=>False):=by
 show wp (ak (Ah i) (ac (ar a) λl=>aB ((idx i l.length).bind (l[·]?)))) _ Q E=_
 rw [Am,wp_bind,BI]
 congr 1
 cases st[a]? with
 | none=>rfl
 | some l=>
  dsimp only
  rw [Jk]
  cases (idx i l.length).bind (l[·]?) <;> rfl
theorem last_new {l:List PV}:(st++[l])[st.length]? = some l:=by simp
theorem Hs {loc:Nat->Option PV}{st:List (List PV)}{Q:PV->PS->Prop}{E:PX->PS->Prop}{a j:Nat}{i:Int}{l:List PV}{v:PV}(c:Ah i=true)(hl:st[a]? = some l)(hi:idx i l.length=some j)(hv:l[j]? = some v)(h:Q v ⟨loc,st⟩):wp (As false (.lst a) (.int i)) ⟨loc,st⟩ Q E:=by
 rw [Rx,hl]
 refine ⟨c,?_⟩
 dsimp only
 rw [hi,Option.bind_some,hv]
 exact h
theorem U6 {c:Nat}(h:Av c):(0<=(c:Int)&&(c:Int)<=1114111)=true:=by
 have:c<=1114111:=h.elim (λh=>aQ h (by decide)) λh=>h.2
 rw [decide_eq_true (Int.natCast_nonneg c),decide_eq_true (show (c:Int)<=1114111 from Int.ofNat_le.mpr this)];rfl
theorem Ju {c:Nat}{i:Int}{s:PS}(e:i=(c:Nat))(hc:Av c)(h:Q (.str [c]) s):wp (HG [.int i]) s Q E:=by subst e;exact T5 (U6 hc) h
theorem IA {k:Nat}(hk:k<1112090)(hQ:∀ c,Av c->Q (.str [c]) ⟨loc,st++[MD]⟩):wp (am (CG Kx) [.int k]) ⟨loc,st⟩ Q E:=by
 refine BR 1 λL B=>?_
 unfold CG
 refine wpA (st++[MD]) [some (.int k),some (.lst st.length)] ?_ λL B=>?_
 ·walk_at "wp"
  ·exact (show 26<=big by decide)
  exact ⟨rfl,(B.set 1 _ |> At.mk _ rfl)⟩
 have sk:Ah (k:Int)=true:=AC (show k<_ from aY hk (by decide))
 refine Bl ?_
 refine AK (c:=decide ((k:Int)<26)) (by walk_at "wp";exact ⟨rfl,rfl⟩) (λh=>?_) (λh=>wpR ?_)
 ·have h:k<26:=Int.ofNat_lt.mp (aX h)
  have sc:=Rv k h
  walk_at "wp"
  refine Hs (j:=k) (v:=.int (firstN.getD k 0:Nat)) sk last_new (E9 h) ?_ ?_
  ·rw [Ru,getElem?_map,getD_eq_getElem?_getD,getElem?_eq_getElem (show k<firstN.length from h)]
   rfl
  generalize firstN.getD k 0=c at sc
  walk_at "wp"
  refine Ju rfl sc ?_
  walk_at "wp"
  exact hQ _ sc
 have h:26<=k:=Int.ofNat_le.mp (Int.not_lt.mp (of_decide_eq_false h))
 refine wpB (AK (c:=decide ((k:Int) - 26<55296)) (by walk_at "wp";exact ⟨rfl,rfl⟩) (λh1=>?_) (λh1=>?_))
 ·have h1:=aX h1
  walk_at "wp"
  have sc:Av (k - 26):=.inl (by omega)
  refine Ju (c:=k - 26) (by omega) sc ?_
  walk_at "wp"
  exact hQ _ sc
 ·have h1:=of_decide_eq_false h1
  walk_at "wp"
  have sc:Av (k - 26+2048):=.inr (by omega)
  refine Ju (c:=k - 26+2048) (by omega) sc ?_
  walk_at "wp"
  exact hQ _ sc
end
def KX:Txt:=[48,49,50,51,52,53,54,55,56,57,97,98,99,100,101,102]
def ME (n:Nat):Txt:=if n=13 then [39,92,114,39] else [39,92,120]++[KX.getD (n / 16) 0]++[KX.getD (n % 16) 0]++[39]
theorem O6 (n:Nat):(ME n).length<=6:=by unfold ME;split <;> simp
def EK (m n:Nat):Txt:=(if m=39 then Js else HW)++AY [n]
section
variable {loc:Nat->Option PV}{st:List (List PV)}{Q:PV->PS->Prop}{E:PX->PS->Prop}
theorem U7 {i j:Nat}(h16:j<16)(e:i=j)(c:Nat){s:PS}(h:Q (.str [KX.getD j 0]) s):wp (As false (.str KX) (.int i)) s Q E:=by
 subst e
 exact Hk (AC (aY h16 (by decide))) (E9 h16) h
end
theorem Ht {get:Nat->M (Option PV)}{j:Nat}{mc:M Bool}{me:M PV}{Q:PV->PS->Prop}{E:PX->PS->Prop}(I:Nat->List PV->PS->Prop)(n:Nat)(p:Nat->PV)
  (hget:∀ k acc s,I k acc s->k<n->get k s = .ok (some (p k)) s) (hend:∀ acc s,I n acc s->get n s = .ok none s)
  (step:∀ k acc s,I k acc s->k<n->wp (ah j (p k)) s (λU s'=>wp mc s' (λc s''=>if c=true then wp me s'' (λv s3=>acc.length+1<=big/\I (k+1) (acc++[v]) s3) E else I (k+1) acc s'') E) E)
  (fin:∀ acc s,I n acc s->wp (ao acc) s Q E):∀ (f k:Nat) (acc:List PV) (s:PS),I k acc s->k<=n->n - k<f->wp (aw get (ah j) mc me f k acc) s Q E:=by
 intro f
 induction f with
 | zero=>exact λU U U U U h=>absurd h (bw _)
 | succ f ih=>
  intro k acc s i hk h
  show wp (ac (get k) λo=>match o with
   | none=>ao acc
   | some p=>ac (ah j p) λU=>ac mc λc=>if c then ac me λv=>ak (acc.length+1<=big) (aw get (ah j) mc me f (k+1) (acc++[v])) else aw get (ah j) mc me f (k+1) acc) s Q E
  rw [wp_bind]
  by_cases q:k=n
  ·subst q
   unfold wp
   rw [hend acc s i]
   exact fin acc s i
  ·have lt:k<n:=Nat.lt_of_le_of_ne hk q
   unfold wp
   rw [hget k acc s i lt]
   show wp _ s Q E
   dsimp only
   rw [wp_bind]
   refine wp_mono (step k acc s i lt) (λU s' z=>?_) λU U z=>z
   rw [wp_bind]
   refine wp_mono z (λc s'' z=>?_) λU U z=>z
   cases c with
   | false=>
    rw [if_neg (by simp)] at z ⊢
    exact ih (k+1) acc s'' z lt (fuel h lt)
   | true=>
    rw [if_pos rfl] at z ⊢
    rw [wp_bind]
    refine wp_mono z (λv s3 z=>?_) λU U z=>z
    rw [Am]
    exact ⟨decide_eq_true z.1,ih (k+1) (acc++[v]) s3 z.2 lt (fuel h lt)⟩
theorem Hu {js:List Nat}{m:M PV}{loc:Nat->Option PV}{st:List (List PV)}{Q:PV->PS->Prop}{E:PX->PS->Prop}(h:wp m ⟨λi=>if i∈js then none else loc i,st⟩ (λv s'=>Q v ⟨loc,s'.st⟩) λU U=>False):wp (aF js m) ⟨loc,st⟩ Q E:=by
 unfold wp aF
 dsimp only
 unfold wp at h
 revert h
 cases m ⟨λi=>if i∈js then none else loc i,st⟩ with
 | ok v s'=>exact id
 | ex e s'=>exact False.elim
 | stuck=>exact False.elim
inductive LineOf (text:Txt):List Txt->Prop
 | lit:(∀ c∈text,BJ c=true/\c≠39)->LineOf text ([39]::(text.map λc=>[c])++[[39]])
 | bas {ts:List Txt}:Units text ts->LineOf text ([34]::ts++[[34]])
section
variable {loc:Nat->Option PV}{st:List (List PV)}{Q:PV->PS->Prop}{E:PX->PS->Prop}
theorem NB {text:Txt}{k:Nat}{s:PS}(h:k<text.length):B7 (.str text) k s = .ok (some (.str [text.getD k 0])) s:=by
 show R.ok ((text[k]?).map λc=>PV.str [c]) s=_
 rw [getElem?_eq_getElem h,getD_eq_getElem?_getD,getElem?_eq_getElem h]
 rfl
theorem NC {text:Txt}{s:PS}:B7 (.str text) text.length s = .ok none s:=by
 show R.ok ((text[text.length]?).map λc=>PV.str [c]) s=_
 rw [getElem?_eq_none (Nat.le_refl _)]
 rfl
def KY (c:Nat):Bool:=c==39||!BJ c
theorem KZ {c:Nat}:KY c=false↔BJ c=true/\c≠39:=by
 unfold KY
 rw [or_eq_false_iff,beq_eq_false_iff_ne,Bool.not_eq_false',and_comm]
inductive OddI (st:List (List PV))(text:Txt)(k:Nat)(acc:List PV)(s:PS):Prop
 | mk (L:Nat->Option PV) (us:Txt) (e:s=⟨L,st⟩) (a:acc=us.map λc=>.str [c]) (u:us=(text.take k).filter KY):OddI st text k acc s
theorem Ry {c:Nat}{L:Nat->Option PV}{Q:Bool->PS->Prop}(g5:L 5=some (.str [c]))(hQ:Q (KY c) ⟨L,st⟩) :
  wp (AG .And [(AG .Or [(ac (af 5) λa=>ac (ae (.str [39])) λb=>ac (Au .Eq a b) tst),(ac ((ac ((ac (ag [af 5]) (am (Bn Kx)))) tst)) λc=>ae !c)])]) ⟨L,st⟩ Q E:=by
 have B:Loc [none,none,none,none,none,some (.str [c])] L:=λi v e=>by
  rcases i with _ | _ | _ | _ | _ | _ | i <;> cases e
  exact g5
 have h39:([c]==([39]:Txt))=(c==39):=by rw [List.cons_beq_cons,show (([]:Txt)==[])=true from rfl,Bool.and_true]
 unfold KY at hQ
 refine CL (NA ?_)
 walk_at "wp"
 rw [h39]
 cases q:c==39 with
 | true=>
  rw [q] at hQ
  rw [if_pos rfl,if_pos rfl]
  exact hQ
 | false=>
  rw [q] at hQ
  rw [if_neg (by decide)]
  refine NA ?_
  walk_at "wp"
  rw [Hl]
  walk_at "wp"
  cases z:BJ c with
  | true=>
   rw [z] at hQ
   rw [Bool.not_true,if_neg (by decide)]
   exact hQ
  | false=>
   rw [z] at hQ
   rw [Bool.not_false,if_pos rfl]
   exact hQ
theorem O7 {text:Txt}{L:Nat->Option PV}(hl:text.length<=12500000)(hK:text.length<Kx)(hQ:∀ us:Txt,((us=[]↔∀ c∈text,BJ c=true/\c≠39))->us.length<=text.length->(∀ c∈us,c∈text)->Q (.lst st.length) ⟨L,st++[us.map λc=>.str [c]]⟩)(g0:L 0=some (.str text)) :
  wp (ac (ac (af 0) FR) λa=>aF [5] (aw a (ah 5) (AG .And [(AG .Or [(ac (af 5) λb=>ac (ae (.str [39])) λd=>ac (Au .Eq b d) tst),(ac ((ac ((ac (ag [af 5]) (am (Bn Kx)))) tst)) λc=>ae !c)])]) (af 5) Kx 0 [])) ⟨L,st⟩ Q E:=by
 have go:wp (aF [5] (aw (B7 (.str text)) (ah 5) (AG .And [(AG .Or [(ac (af 5) λa=>ac (ae (.str [39])) λb=>ac (Au .Eq a b) tst),(ac ((ac ((ac (ag [af 5]) (am (Bn Kx)))) tst)) λc=>ae !c)])]) (af 5) Kx 0 [])) ⟨L,st⟩ Q E:=by
  refine Hu (Ht (OddI st text) text.length (λk=>.str [text.getD k 0]) (λk acc s U lt=>NB lt) (λacc s U=>NC) (λk acc s z lt=>?_) (λacc s z=>?_) Kx 0 [] _ ⟨_,[],rfl,rfl,rfl⟩ (aP _) (by lia))
  ·obtain ⟨L',us,rfl,rfl,hu⟩:=z
   have tk:text.take (k+1)=text.take k++[text.getD k 0]:=by
    rw [take_succ,getD_eq_getElem?_getD,getElem?_eq_getElem lt];rfl
   have fl:(text.take (k+1)).filter KY=us++if KY (text.getD k 0) then [text.getD k 0] else []:=by
    rw [tk,filter_append,<- hu,filter_cons,List.filter_nil]
   refine wpSet (Ry (c:=text.getD k 0) upd_eq ?_)
   cases q:KY (text.getD k 0) with
   | true=>
    rw [q] at fl
    rw [if_pos rfl]
    refine wpG upd_eq ⟨?_,_,us++[text.getD k 0],rfl,by rw [map_append];rfl,fl.symm⟩
    rw [length_map]
    have:us.length<=k:=by rw [hu];exact aQ (length_filter_le ..) (by rw [length_take];exact Nat.min_le_left ..)
    exact A3 (aQ (bA this) (aQ lt hl))
   | false=>
    rw [q] at fl
    rw [if_neg (by decide)]
    exact ⟨_,us,rfl,rfl,by rw [fl];exact (append_nil _).symm⟩
  ·obtain ⟨L',us,rfl,rfl,hu⟩:=z
   rw [take_length] at hu
   have ul:us.length<=text.length:=by rw [hu];exact length_filter_le ..
   refine wpNL (by rw [length_map];exact A3 (aQ ul hl)) (hQ us ?_ ul λc m=>?_)
   ·rw [hu,List.filter_eq_nil_iff]
    exact ⟨λh c m=>KZ.mp (Bool.not_eq_true _▸h c m),λh c m=>by rw [KZ.mpr (h c m)];decide⟩
   ·rw [hu] at m;exact (List.mem_filter.mp m).1
 refine wpB (wpB (wpG g0 ?_))
 exact go
end
def okT (t:Txt):Prop:=∀ c∈t,c<=1114111
theorem BV {st:List (List PV)}{n:Nat}{p:PV}{r:List PV}{d:PyData}{ds:List PyData}(h1:toD st n p=some d)(h2:DA st n r=some ds):DA st (n+1) (p::r)=some (d::ds):=by
 show (match toD st n p,DA st n r with
  | some d,some ds=>some (d::ds)
  | _,_=>none)=_
 rw [h1,h2]
theorem Dw {st:List (List PV)}{n i:Nat}{l:List PV}{ds:List PyData}(h1:st[i]? = some l)(h2:DA st n l=some ds):toD st (n+1) (.lst i)=some (.list ds):=by
 show (match st[i]? with
  | some l=>(DA st n l).map PyData.list
  | none=>none)=_
 rw [h1]
 show (DA st n l).map _=_
 rw [h2];rfl
theorem IC {st:List (List PV)}:∀ {ts:List Txt} {n:Nat},ts.length<n->DA st n (ts.map .str)=some (ts.map λt=>.str (txt t))
 | [],n+1,_=>rfl
 | t::ts,n+1,h=>by
  have h:ts.length<n:=Nat.lt_of_succ_lt_succ h
  have ih:=IC (st:=st) (n:=n) h
  obtain ⟨m,rfl⟩:∃ m,n=m+1:=⟨n - 1,by exact bc (la [_,_] [([2],[4,3,0])] ([2],[4,3,0]) rfl (Mi.lcS _ _)) (la [_,_] [([2,3,0],[4])] ([2,3,0],[4]) rfl (Mi.lcC (la [_,_] [([2,3,0],[4])] ([3],[4]) rfl h)))⟩
  exact BV rfl ih
theorem RA {t:Txt}(h:okT t):PyData.strOk (txt t)=true:=by
 unfold PyData.strOk
 simp [txt]
 exact λc m=>by have:=h c m;exact la [_] [([2],[2228223])] ([2,3,0],[2228225]) rfl this
theorem F6:∀ {ts:List Txt},(∀ t∈ts,okT t)->PyData.canLayAll0 (ts.map λt=>.str (txt t))=true
 | [],_=>rfl
 | t::ts,h=>by
  rw [map_cons,PyData.canLayAll0,PyData.canLay0,RA (h t (mem_cons_self ..)),F6 λu m=>h u (mem_cons_of_mem _ m)]
  rfl
theorem Hv:∀ (ts:List Txt),PyData.depthAll (ts.map λt=>.str (txt t))=0
 | []=>rfl
 | t::ts=>by rw [map_cons,PyData.depthAll,Hv ts];rfl
section
variable {loc:Nat->Option PV}{st:List (List PV)}{Q:PV->PS->Prop}{E:PX->PS->Prop}
theorem Cg {a b:Nat}{x y:List PV}(ha:st[a]? = some x)(hb:st[b]? = some y)(h:(x++y).length<=big)(hQ:Q (.lst st.length) ⟨loc,st++[x++y]⟩):wp (Aj .Add (.lst a) (.lst b)) ⟨loc,st⟩ Q E:=by
 show wp (ac (ar a) λx=>ac (ar b) λy=>ao (x++y)) _ Q E
 rw [wp_bind,BI,ha]
 dsimp only
 rw [wp_bind,BI,hb]
 dsimp only
 rw [D8]
 exact ⟨h,hQ⟩
theorem AX {i:Nat}{l x:List PV}(h:st[i]? = some x):(st++[l])[i]? = some x:=by
 rw [getElem?_append_left (List.getElem?_eq_some_iff.mp h).1];exact h
theorem Units.snoc {cs:Txt}{ts:List Txt}{c:Nat}{t:Txt}(h:Units cs ts)(hc:Av c)(u:UnitOf c t):Units (cs++[c]) (ts++[t]):=by
 induction h with
 | nil=>exact .cons hc u .nil
 | cons hc' u' r ih=>exact .cons hc' u' ih
theorem Units.len {cs:Txt}{ts:List Txt}(h:Units cs ts):ts.length=cs.length:=by
 induction h with
 | nil=>rfl
 | cons hc' u' r ih=>simp [ih]
theorem VL {a b:PV}{L:Nat->Option PV}(g0:L 0=some a)(g1:L 1=some b):Loc [some a,some b,none,none,none,none,none,none] L:=λi v e=>by
 rcases i with _ | _ | _ | _ | _ | _ | _ | _ | i <;> cases e
 ·exact g0
 ·exact g1
theorem VM {V:Type}{m:M V}{s s':PS}{a:V}{Q:V->PS->Prop}{E:PX->PS->Prop}(h:m s = .ok a s'):wp m s Q E=Q a s':=by unfold wp;rw [h]
theorem VN {V:Type}{m:M V}{s s':PS}{a:V}{Q:V->PS->Prop}{E:PX->PS->Prop}(h:m s = .ok a s')(k:Q a s'):wp m s Q E:=by rw [VM h];exact k
theorem Bx (l:List PV):st <+: st++[l]:=prefix_append _ _
end
theorem Jv {c:Nat}{x y:Txt}{hi:Nat}(h:hi<=x.length):posns c (x++y) hi=posns c x hi:=by
 unfold posns
 refine filter_congr λi hi'=>?_
 have:i<hi:=mem_range.mp hi'
 rw [getElem?_append_left (by exact la [_,_,_] [([2],[4]),([6,3,0],[2])] ([6,3,0],[4]) rfl h this)]
theorem K0 {x y z:Txt}{p i c:Nat}(h:x.drop p=y++z)(h1:p<=i)(h2:i<p+y.length)(hc:x[i]? = some c):c∈y:=by
 have e:(x.drop p)[i - p]? = some c:=by rw [getElem?_drop,show p+(i - p)=i by exact Nat.le_antisymm (la [_,_,_] [([2,4,0],[6])] ([4,2,0],[6]) rfl (Mi.lcC (la [_,_] [([2],[4])] ([2],[4]) rfl h1))) (la [_,_,_] [([2],[4,6,0])] ([2],[6,4,0]) rfl (Mi.lcS _ _))];exact hc
 rw [h,getElem?_append_left (by exact la [_,_,_,_] [([2,3,0],[4,6,0]),([8,4,0],[2])] ([8,3,0],[6]) rfl h2 (Mi.lcC (la [_,_] [([2],[4])] ([2],[4]) rfl h1)))] at e
 exact mem_of_getElem? e
theorem RB {c:Nat}{z:Txt}:c∈z->∃ z1 z2,z=z1++c::z2/\c∉z1:=by
 induction z with
 | nil=>exact λh=>(by cases h)
 | cons a z ih=>
  intro h
  by_cases q:a=c
  ·exact ⟨[],z,by rw [q];rfl,by simp⟩
  ·have:c∈z:=by
    rcases mem_cons.mp h with e | m
    ·exact absurd e.symm q
    ·exact m
   obtain ⟨z1,z2,e,n⟩:=ih this
   exact ⟨a::z1,z2,by rw [e];rfl,λm=>by
    rcases mem_cons.mp m with e | m
    ·exact q e.symm
    ·exact n m⟩
theorem Units.split {a:List Txt}:∀ {b:List Txt} {cs:Txt},Units cs (a++b)->∃ c1 c2,cs=c1++c2/\Units c1 a/\Units c2 b:=by
 induction a with
 | nil=>intro b cs h;exact ⟨[],cs,rfl,.nil,h⟩
 | cons t a ih=>
  intro b cs h
  cases h with
  | cons hc u r=>
   obtain ⟨c1,c2,e,u1,u2⟩:=ih r
   exact ⟨_::c1,c2,by rw [e];rfl,.cons hc u u1,u2⟩
def Tw (c:Nat):Prop:=BJ c=true/\c≠39
theorem Tw.legal {c:Nat}(h:Tw c):legal c=true:=by unfold Mi.legal;rw [F5 h.1];rfl
section
variable {p:Nat}{x:Txt}{loc:Nat->Option PV}{st:List (List PV)}{Q:PV->PS->Prop}{E:PX->PS->Prop}
theorem U8 {y z:Txt}{n:Nat}(h:x.drop p=y++z)(hp:p<=x.length)(hn:n=p+y.length):slc x (some (p:Int)) (some (n:Int))=y:=by
 subst hn;exact Di h hp rfl
theorem ID {ts:List Txt}{cs rest:Txt}{o:BOut}(hx:x.length<=12500000)(u:Units cs ts)(h:x.drop p=34::(ts.flatten++rest))(b:Bas x (p+1+ts.flatten.length) cs o):Bas x (p+1) [] o:=by
 have h1:x.drop (p+1)=ts.flatten++rest:=AW (y:=[34]) h
 have lt:=BE h
 exact O5 hx u (by exact la [_,_] [([2,3,0],[4])] ([2,3,0],[4]) rfl lt) h1 (by simpa using b)
end
theorem Fe (t:Txt):(t.map λc=>[c]).flatten=t:=by
 induction t with
 | nil=>rfl
 | cons c t ih=>rw [map_cons,flatten_cons,ih];rfl
theorem ends {a z:Txt}{m u1 u2:List Txt}(h:a::m++[z]=u1++u2)(n1:u1≠[])(n2:u2≠[]):∃ m1 m2,u1=a::m1/\u2=m2++[z]/\m=m1++m2:=by
 match u1,n1 with
 | b::m1,_=>
  rw [cons_append,cons_append] at h
  obtain ⟨q,g⟩:=List.cons.inj h
  subst q
  obtain ⟨m2,y,rfl⟩:∃ m2 y,u2=m2++[y]:=⟨u2.dropLast,u2.getLast n2,(List.dropLast_concat_getLast n2).symm⟩
  rw [<- append_assoc] at g
  obtain ⟨h1,h2⟩:=List.append_inj' g rfl
  obtain ⟨rfl,_⟩:=List.cons.inj h2
  exact ⟨m1,m2,rfl,rfl,h1⟩
theorem HX {text:Txt}{m1 m2:List Txt}(h:text.map (λc=>[c])=m1++m2):text=m1.flatten++m2.flatten:=by
 rw [<- flatten_append,<- h,Fe]
section
variable {k:Nat}{x:Txt}{r:Row}{loc:Nat->Option PV}{st:List (List PV)}{Q:PV->PS->Prop}{E:PX->PS->Prop}
end
section
variable {p:Nat}{x text:Txt}{us:List Txt}{loc:Nat->Option PV}{st:List (List PV)}{Q:PV->PS->Prop}{E:PX->PS->Prop}
theorem DS (text:Txt):([39]::(text.map λc=>[c])++[[39]]).flatten=39::(text++[39]):=by
 rw [flatten_append,flatten_cons,Fe];rfl
theorem DT (ts:List Txt):([34]::ts++[[34]]).flatten=34::(ts.flatten++[34]):=by
 rw [flatten_append,flatten_cons];rfl
end
section
variable {V:Type}{loc:Nat->Option PV}{st:List (List PV)}{E:PX->PS->Prop}
theorem MF {fs:List (PV->M Unit)}{i:Nat}{l:List PV}{Q:Unit->PS->Prop}(h:st[i]? = some l)(hl:l.length=fs.length):wp (aC fs (.lst i)) ⟨loc,st⟩ Q E=wp (aD fs l) ⟨loc,st⟩ Q E:=by
 show wp (ac (ar i) λl=>ak (l.length==fs.length) (aD fs l)) _ Q E=_
 rw [wp_bind,BI,h]
 dsimp only
 rw [Am]
 simp [hl]
theorem Jw {f:PV->M Unit}{fs:List (PV->M Unit)}{v:PV}{vs:List PV}{s:PS}{Q:Unit->PS->Prop}:wp (aD (f::fs) (v::vs)) s Q E=wp (f v) s (λU s'=>wp (aD fs vs) s' Q E) E:=by
 show wp (ac (f v) λU=>aD fs vs) s Q E=_
 rw [wp_bind]
end
nonrec theorem wpU {fs:List (PV->M Unit)}{loc:Nat->Option PV}{st:List (List PV)}{i:Nat}{l:List PV}{Q:Unit->PS->Prop}{E:PX->PS->Prop}(h:st[i]? = some l)(hl:l.length=fs.length)(k:wp (aD fs l) ⟨loc,st⟩ Q E):wp (aC fs (.lst i)) ⟨loc,st⟩ Q E:=by rw [MF h hl];exact k
theorem RC {f:PV->M Unit}{fs:List (PV->M Unit)}{v:PV}{vs:List PV}{s:PS}{Q:Unit->PS->Prop}{E:PX->PS->Prop}(k:wp (f v) s (λU s'=>wp (aD fs vs) s' Q E) E):wp (aD (f::fs) (v::vs)) s Q E:=by rw [Jw];exact k
theorem VO {s:PS}{Q:Unit->PS->Prop}{E:PX->PS->Prop}(k:Q () s):wp (aD [] []) s Q E:=k
theorem K4 {c:Nat}{t:Txt}(u:UnitOf c t):t.length<=10:=by
 cases u with
 | raw=>simp
 | short=>simp
 | four h=>simp [h]
 | eight h=>simp [h]
theorem IE {cs:Txt}{ts:List Txt}(u:Units cs ts):∀ t∈ts,t.length<=10:=by
 induction u with
 | nil=>simp
 | cons hc u r ih=>
  intro t m
  rcases mem_cons.mp m with rfl | m
  ·exact K4 u
  ·exact ih t m
theorem MG {text:Txt}{us:List Txt}(h:LineOf text us):us.length=text.length+2/\(∀ u∈us,u.length<=10)/\∃ m ur,us=[m]::ur:=by
 cases h with
 | lit h=>
  refine ⟨by simp,λu m=>?_,_,_,rfl⟩
  rcases mem_append.mp m with m | m
  ·rcases mem_cons.mp m with rfl | m
   ·simp
   ·obtain ⟨c,_,rfl⟩:=mem_map.mp m
    simp
  ·rw [mem_singleton.mp m];simp
 | bas u=>
  refine ⟨by simp [u.len],λv m=>?_,_,_,rfl⟩
  rcases mem_append.mp m with m | m
  ·rcases mem_cons.mp m with rfl | m
   ·simp
   ·exact IE u v m
  ·rw [mem_singleton.mp m];simp
theorem RD {us:List Txt}(h:∀ u∈us,u.length<=10):us.flatten.length<=10*us.length:=by
 induction us with
 | nil=>simp
 | cons u us ih=>
  have h1:=h u mem_cons_self
  have h2:=ih λv m=>h v (mem_cons_of_mem _ m)
  rw [flatten_cons,length_append,length_cons]
  lia
theorem Bs {st st':List (List PV)}{i:Nat}{l:List PV}(p:st <+: st')(h:st[i]? = some l):st'[i]? = some l:=by
 obtain ⟨t,rfl⟩:=p
 rw [getElem?_append_left (List.getElem?_eq_some_iff.mp h).1];exact h
section
variable {loc:Nat->Option PV}{st:List (List PV)}{Q:PV->PS->Prop}{E:PX->PS->Prop}
theorem Hw:∀ ts:List Txt,Ds (ts.map .str)=some ts
 | []=>rfl
 | t::ts=>congrArg (Option.map (t::·)) (Hw ts)
theorem O8 (ts:List Txt):G3 [] ts=ts.flatten:=by
 cases ts with
 | nil=>rfl
 | cons t ts=>
  have go:∀ (r:List Txt) (acc:Txt),r.foldl (λacc p=>acc++[]++p) acc=acc++r.flatten:=by
   intro r
   induction r with
   | nil=>intro acc;simp
   | cons u r ih=>intro acc;rw [foldl_cons,ih];simp
  exact go ts t
theorem O9 (ts:List Txt):DK ts=ts.flatten.length:=by
 unfold DK;rw [List.length_flatten]
theorem GB {i:Nat}{ts:List Txt}(h:st[i]? = some (ts.map .str)):wp (EZ (.str []) [.lst i]) ⟨loc,st⟩ Q E=(ts.flatten.length<=big/\Q (.str ts.flatten) ⟨loc,st⟩):=by
 show wp (ac (ar i) λl=>ac (aB (Ds l)) λts=>ak (DK ts+ts.length*0<=big) (ae (.str (G3 [] ts)))) _ Q E=_
 rw [wp_bind,BI,h]
 dsimp only
 rw [wp_bind,Jk,Hw]
 dsimp only
 rw [Am,FI,O8,O9]
 simp
theorem Pa {i:Nat}{a b:Option Int}{l:List PV}(h:st[i]? = some l):wp (AT a b (.lst i)) ⟨loc,st⟩ Q E=(l.length<=big/\(slc l a b).length<=big/\Q (.lst st.length) ⟨loc,st++[slc l a b]⟩):=by
 show wp (ac (ar i) λl=>ak (l.length<=big) (ao (slc l a b))) _ Q E=_
 rw [wp_bind,BI,h]
 dsimp only
 rw [Am,D8]
 simp
theorem Dj {i:Nat}{v:PV}{l:List PV}(h:st[i]? = some l):wp (Ce (.lst i) [v]) ⟨loc,st⟩ Q E=(l.length+1<=big/\Q .none ⟨loc,st.set i (l++[v])⟩):=by
 show wp (ac (ar i) λl=>ak (l.length+1<=big) (ac (aI i (l++[v])) λU=>ae .none)) _ Q E=_
 rw [wp_bind,BI,h]
 dsimp only
 rw [Am,wp_bind]
 unfold wp aI
 by_cases q:l.length+1<=big
 ·rw [if_pos (by simpa using q)]
  simp [q,ae]
 ·simp [q]
theorem Ea {i:Nat}{l:List PV}(h:st[i]? = some l):wp (Cp [.lst i]) ⟨loc,st⟩ Q E=(l.length<=big/\Q (.int l.length) ⟨loc,st⟩):=by
 show wp (ac (ar i) λl=>ak (l.length<=big) (ae (.int l.length))) _ Q E=_
 rw [wp_bind,BI,h]
 dsimp only
 rw [Am,FI]
 simp
end
theorem ND {V:Type}{x:List V}{n:Nat}(h:n<=x.length):slc x none (some (n:Int))=x.take n:=by
 unfold slc bnd
 simp only [Int.natCast_nonneg,if_true,Int.toNat_natCast,Nat.min_eq_left h,drop_zero]
theorem Jx (i:Int){b:Nat}(h:0<b):∃ n:Nat,i.fmod (b:Int)=n/\n<b:=by
 have h1:0<=i.fmod b:=Int.fmod_nonneg_of_pos i (by omega)
 have h2:i.fmod b<b:=Int.fmod_lt_of_pos i (by omega)
 exact ⟨(i.fmod b).toNat,by omega,by omega⟩

section
variable {s:PS}{loc:Nat->Option PV}{st:List (List PV)}{Q:PV->PS->Prop}{E:PX->PS->Prop}
theorem RE {l:List Int}:wp (M0 [.ints l]) ⟨loc,st⟩ Q E=(l.length<=big/\Q (.lst st.length) ⟨loc,st++[l.map .int]⟩):=by
 show wp (ao (l.map .int)) _ Q E=_
 rw [D8,length_map]
theorem Tx {l:List Int}:wp (Cp [.ints l]) s Q E=(decide (l.length<=big)=true/\Q (.int l.length) s):=Am
end
theorem FN {i k:Nat}{l:List Int}{L:Nat->Option PV}{st:List (List PV)}(h:st[i]? = some (l.map .int))(hk:k<l.length):B7 (.lst i) k ⟨L,st⟩ = .ok (some (.int (l.getD k 0))) ⟨L,st⟩:=by
 show ac (ar i) (λl=>ae l[k]?) ⟨L,st⟩=_
 unfold ac ar
 rw [h]
 show R.ok ((l.map PV.int)[k]?) _=_
 rw [getElem?_map,getElem?_eq_getElem hk,getD_eq_getElem?_getD,getElem?_eq_getElem hk]
 rfl
theorem Hx {i:Nat}{l:List Int}{L:Nat->Option PV}{st:List (List PV)}(h:st[i]? = some (l.map .int)):B7 (.lst i) l.length ⟨L,st⟩ = .ok none ⟨L,st⟩:=by
 show ac (ar i) (λl'=>ae l'[l.length]?) ⟨L,st⟩=_
 unfold ac ar
 rw [h]
 show R.ok ((l.map PV.int)[l.length]?) _=_
 rw [getElem?_eq_none (by simp)]
theorem NE {get:Nat->M (Option PV)}{i:Nat}{b:M PFlow}{P:Nat->PS->Prop}{R:PS->Prop}{E:PX->PS->Prop}{f n:Nat}{s:PS}(p:Nat->PV)(h0:P 0 s)(hf:n<f)(hget:∀ k s,P k s->k<n->get k s = .ok (some (p k)) s)(hend:∀ s,P n s->get n s = .ok none s)
  (step:∀ k L st,P k ⟨L,st⟩->k<n->wp b ⟨upd L i (p k),st⟩ (λfl s'=>(fl = .next\/fl = .cont)/\P (k+1) s') λU U=>False) (fin:∀ s,P n s->R s):wp (aG get (ah i) b f 0) s (λf s'=>f = .next/\R s') E:=
 Nv (E:=E) P n p hget hend (λk s z lt=>by
  obtain ⟨L,st⟩:=s
  refine wpSet (wp_mono (step k L st z lt) (λfl s' y=>?_) λU U y=>y.elim)
  obtain ⟨rfl | rfl,y⟩:=y
  ·exact y
  ·exact y) (λs z=>⟨rfl,fin s z⟩) f 0 s h0 (aP _) (by rw [Nat.sub_zero];exact hf)
theorem NF {st st':List (List PV)}{i:Nat}{l:List PV}(h:st <+: st')(hi:st.length<=i):st <+: st'.set i l:=by
 obtain ⟨r,rfl⟩:=h
 rw [List.set_append_right i l hi]
 exact prefix_append _ _
abbrev sgn (t:Txt):List Txt:=t.map λc=>[c]
inductive TxI (st:List (List PV))(k:Nat)(s:PS):Prop
 | mk (L:Nat->Option PV) (st':List (List PV)) (y:Int) (i:Nat) (t:Txt) (e:s=⟨L,st'⟩) (p:st <+: st') (hi:st.length<=i) (B:Loc [some (.int y),some (.lst i)] L) (g:st'[i]? = some ((sgn t).map .str)) (l:t.length=k+1) (sc:∀ c∈t,Av c):TxI st k s
section
variable {loc:Nat->Option PV}{st:List (List PV)}{Q:PV->PS->Prop}{E:PX->PS->Prop}
theorem Pb {y:Int}(hQ:∀ st' t,st <+: st'->t.length<=6->(∀ c∈t,Av c)->Q (.str t) ⟨loc,st'⟩):wp (am (Du Kx) [.int y]) ⟨loc,st⟩ Q E:=by
 refine BR 1 λL B=>?_
 unfold Du
 refine wpN (TxI st 0) ?_ ?_
 ·obtain ⟨k,ek,hk⟩:=Jx y (b:=1112090) (by decide)
  walk_at "wp"
  rw [show y.fmod 1112090=(k:Int) from ek]
  refine IA hk λc hc=>?_
  walk_at "wp"
  ·exact (by decide:1<=big)
  refine ⟨rfl,⟨_,_,y,_,[c],rfl,(Bx _).trans (Bx _),aQ (Nat.le_succ _) (by rw [length_append];exact aR _),B.set 1 _,last_new,rfl,λd m=>by rw [mem_singleton.mp m];exact hc⟩⟩
 clear B L
 intro s z
 refine wpN (λs=>∃ k,k<=5/\TxI st k s) ?_ ?_
 ·refine Iy (TxI st) 5 (λk s z hk=>?_) Kx 0 s z (aP _) (aY (by decide) Cs)
  obtain ⟨L,st',y,i,t,rfl,p,hi,B,g,l,sc⟩:=z
  have l6:((sgn t).map PV.str).length=k+1:=by rw [length_map,length_map,l]
  have kb:k+1<=6:=bA hk
  refine wp_mono (Q:=λc s'=>s'=⟨L,st'⟩/\(c=true->k<5)) (E:=λU U=>False) ?_ (λc s' z=>?_) λU U z=>z.elim
  ·refine CL ?_
   walk_at "wp"
   cases q:decide (y≥1112090) with
   | false=>exact ⟨rfl,λh=>by cases h⟩
   | true=>
    rw [if_pos rfl]
    refine CL ?_
    walk_at "wp"
    rw [Ea g,l6]
    refine ⟨aQ kb (by decide),?_⟩
    walk_at "wp"
    cases q2:decide (((k+1:Nat):Int)<6) with
    | false=>exact ⟨rfl,λh=>by cases h⟩
    | true=>exact ⟨rfl,λU=>Nat.lt_of_succ_lt_succ (Int.ofNat_lt.mp (aX q2))⟩
  ·obtain ⟨rfl,hc⟩:=z
   cases c with
   | false=>exact ⟨rfl,k,hk,L,st',y,i,t,rfl,p,hi,B,g,l,sc⟩
   | true=>
    rw [if_pos rfl]
    have lt:=hc rfl
    obtain ⟨j,ej,hj⟩:=Jx (y.fdiv 1112090) (b:=1112090) (by decide)
    unfold Dy
    refine wpN (At st' [some (.int (y.fdiv 1112090)),some (.lst i)]) (by
     refine wpB (wpL B rfl (wpB (wpR (wpB (T7 rfl ?_)))))
     walk_at "wp"
     exact ⟨rfl,(B.set 0 _ |> At.mk _ rfl)⟩) ?_
    clear B
    rintro _ ⟨L,rfl,B⟩
    walk_at "wp"
    refine wpO rfl ?_
    walk_at "wp"
    rw [show (y.fdiv 1112090).fmod 1112090=(j:Int) from ej]
    refine IA hj λc hc=>?_
    walk_at "wp"
    rw [Dj (AX g)]
    refine ⟨by rw [l6];exact aQ (bA kb) (by decide),?_⟩
    refine wpR ⟨lt,L,_,_,i,t++[c],rfl,NF (p.trans (Bx _)) hi,hi,B,?_,by rw [length_append,l];rfl,λd m=>?_⟩
    ·rw [List.getElem?_set_self (List.getElem?_eq_some_iff.mp (AX g)).1]
     simp [sgn]
    ·rcases mem_append.mp m with m | m
     ·exact sc d m
     ·rw [mem_singleton.mp m];exact hc
 ·rintro _ ⟨k,hk,L,st',y,i,t,rfl,p,hi,B,g,l,sc⟩
  have lt:t.length<=6:=by rw [l];exact bA hk
  walk_at "wp"
  rw [GB g,Fe]
  exact ⟨A3 (aQ lt (by decide)),hQ _ _ p lt sc⟩
theorem MH {a b:PV}{x y:PyData}{s:PS}{r:Bool}(d1:toD s.st 20000000 a=some x)(d2:toD s.st 20000000 b=some y)(s1:SeqAt.shaped x=true)(s2:SeqAt.shaped y=true)(e:PyData.eqv x y=r):eqB a b s = .ok r s:=by
 unfold eqB
 rw [d1,d2]
 show (if (SeqAt.shaped x&&SeqAt.shaped y)=true then R.ok (PyData.eqv x y) s else .stuck)=_
 rw [s1,s2,e];rfl
theorem VP {a b:PV}{r:Bool}{s:PS}(h:eqB a b s = .ok r s)(k:Q (.bool r) s):wp (eqL a b) s Q E:=wpB (f:=λr=>ae (PV.bool r)) (VN h k)
theorem Pc {i j:Nat}{ts:List Txt}(hi:st[i]? = some (ts.map .str))(hj:st[j]? = some [])(hl:ts.length<=12500000)(ho:∀ t∈ts,okT t):eqB (.lst i) (.lst j) ⟨loc,st⟩ = .ok (decide (ts=[])) ⟨loc,st⟩:=by
 have s1:SeqAt.shaped (.list (ts.map λt=>.str (txt t)))=true:=by
  unfold SeqAt.shaped
  rw [PyData.canLay0,F6 ho,PyData.depth,Hv]
  decide
 refine MH (Dw hi (IC (bx hl (by decide)))) (Dw hj rfl) s1 (by decide) ?_
 cases ts with
 | nil=>simp [PyData.eqv,PyData.eqvAll]
 | cons t ts=>simp [PyData.eqv,PyData.eqvAll]
def RG (way:Int):Nat:=if way=0 then 6 else 10
inductive BasI (st:List (List PV))(text:Txt)(way:Int)(k:Nat)(acc:List PV)(s:PS):Prop
 | mk (L:Nat->Option PV) (ts:List Txt) (e:s=⟨L,st⟩) (g0:L 0=some (.str text)) (g1:L 1=some (.int way)) (a:acc=ts.map .str) (u:Units (text.take k) ts) (l:ts.flatten.length<=RG way*k):BasI st text way k acc s
set_option tactic.hygienic true in
theorem Pd {text:Txt}{way:Int}{L:Nat->Option PV}(hl:text.length<=12500000)(hs:∀ c∈text,Av c)(g0:L 0=some (.str text))(g1:L 1=some (.int way))(hQ:∀ ts,Units text ts->ts.flatten.length<=RG way*text.length->Q (.lst st.length) ⟨L,st++[ts.map .str]⟩) :
  wp (ac (ac (ag [(ac (ag [af 0]) Cp)]) CD) λa=>aF [7] (aw a (ah 7) (AG .And []) ((ac (ag [(ac (af 0) λb=>ac (af 7) λc=>As false b c),(ac (af 1) λb=>ac ((ac (af 7) λc=>ac (ae (.int 1)) λd=>Aj .Add c d)) λc=>Aj .Mult b c)]) (am (CB Kx)))) Kx 0 [])) ⟨L,st⟩ Q E:=by
 have hK:text.length<Kx:=bx hl (aY (by decide) Cs)
 have hK9:9<=Kx:=br (aY (by decide) Cs)
 have go:wp (aF [7] (aw (BP 0 text.length) (ah 7) (AG .And []) ((ac (ag [(ac (af 0) λa=>ac (af 7) λb=>As false a b),(ac (af 1) λa=>ac ((ac (af 7) λb=>ac (ae (.int 1)) λc=>Aj .Add b c)) λb=>Aj .Mult a b)]) (am (CB Kx)))) Kx 0 [])) ⟨L,st⟩ Q E:=by
  refine Hu (Ht (BasI st text way) text.length (λk=>.int k) (λk acc s U lt=>Jm lt) (λacc s U=>Jn) (λk acc s z lt=>?_) (λacc s z=>?_) Kx 0 [] _ ⟨_,[],rfl,by rw [if_neg (by decide)];exact g0,by rw [if_neg (by decide)];exact g1,rfl,.nil,aP _⟩ (aP _) hK)
  ·obtain ⟨L',ts,rfl,q0,q1,rfl,u,ll⟩:=z
   have ul:=u.len
   rw [length_take,Nat.min_eq_left (Nat.le_of_lt lt)] at ul
   refine wpSet ?_
   have B:=(VL q0 q1).set 7 (.int k)
   have sk:Ah (k:Int)=true:=AC (bk lt (aQ hl (by decide)))
   have sk1:Ah ((k:Int)+1)=true:=AC (i:=((k+1:Nat):Int)) (bx lt (bx hl (by decide)))
   rw [F3,if_pos (by rfl)]
   walk_at "wp"
   refine Hk sk (E9 lt) ?_
   walk_at "wp"
   refine Jl (by rw [sk1,Bool.or_true]) ?_
   walk_at "wp"
   have cm:text.getD k 0∈text:=by
    rw [getD_eq_getElem?_getD,getElem?_eq_getElem lt];exact List.getElem_mem lt
   have tk:text.take (k+1)=text.take k++[text.getD k 0]:=by
    rw [take_succ,getElem?_eq_getElem lt,getD_eq_getElem?_getD,getElem?_eq_getElem lt];rfl
   have sc:=hs _ cm
   refine Rg hK9 (by unfold Av at sc;lia) λt ut w0=>⟨?_,_,ts++[t],rfl,B 0 _ rfl,B 1 _ rfl,by rw [map_append];rfl,?_,?_⟩
   ·rw [length_map,ul];exact A3 (aQ lt hl)
   ·rw [tk]
    exact u.snoc sc ut
   ·rw [flatten_append,length_append,List.flatten_singleton,Nat.mul_succ]
    refine Nat.add_le_add ll ?_
    unfold RG
    split
    ·rename_i w
     exact w0 (by rw [w,Int.zero_mul])
    ·exact K4 ut
  ·obtain ⟨L',ts,rfl,q0,q1,rfl,u,ll⟩:=z
   have ul:=u.len
   rw [take_length] at u ul
   exact wpNL (by rw [length_map,ul];exact A3 hl) (hQ ts u ll)
 have B:=VL g0 g1
 refine wpB ?_
 walk_at "wp"
 ·exact A3 hl
 rw [Hm (Nat.lt_of_le_of_lt hl (by decide))]
 exact go
inductive UnQ (st:List (List PV))(L:Nat->Option PV)(text:Txt)(b:Bool)(s':PS):Prop
 | mk (st':List (List PV)) (e:s'=⟨L,st'⟩) (p:st <+: st') (h:b=true->∀ c∈text,BJ c=true/\c≠39):UnQ st L text b s'
set_option tactic.hygienic true in
theorem Hy {text:Txt}{way:Int}(hl:text.length<=12500000)(hs:∀ c∈text,Av c)
  (hQ:∀ st' i us,st <+: st'->st'[i]? = some (us.map .str)->LineOf text us->us.flatten.length<=6*text.length+322->Q (.lst i) ⟨loc,st'⟩):wp (am (CU Kx) [.str text,.int way]) ⟨loc,st⟩ Q E:=by
 have hKt:text.length<Kx:=bx hl (aY (by decide) Cs)
 have lb:=A3 hl
 have ok:∀ c∈text,c<=1114111:=λc m=>(hs c m).elim (λh=>aQ h (by decide)) λh=>h.2
 refine BR 6 λL B=>?_
 unfold CU
 refine wpN (λs=>∃ way':Int,(80<text.length->way'=0)/\At st [some (.str text),some (.int way'),none,none,none,none,none,none] s) ?_ ?_
 ·refine AK (c:=decide ((text.length:Int)>80)) (by walk_at "wp";exact lb;exact ⟨rfl,rfl⟩) (λh=>?_) λh=>?_
  ·walk_at "wp"
   exact ⟨rfl,0,λU=>rfl,(B.set 1 _ |> At.mk _ rfl)⟩
  ·exact ⟨rfl,way,λz=>absurd (Int.ofNat_lt.mpr z) (of_decide_eq_false h),.mk _ rfl B⟩
 clear B
 rintro _ ⟨way,hw,L,rfl,B⟩
 have g0:=B 0 _ rfl
 have g1:=B 1 _ rfl
 have lw:∀ n,n<=RG way*text.length->n+2<=6*text.length+322:=λn h=>by
  unfold RG at h
  split at h
  ·lia
  ·rename_i w
   have:¬ 80<text.length:=λz=>w (hw z)
   lia
 have l2:∀ us:List Txt,us.length<=text.length->us.length+2<=big:=λus h=>aQ (Nat.add_le_add_right (aQ h hl) 2) (by decide)
 refine Bl ?_
 refine wpB (wp_mono (Q:=UnQ st L text) (E:=λU U=>False) ?_ (λb s' z=>?_) λU U z=>z.elim)
 ·refine CL ?_
  walk_at "wp"
  cases q:way.fmod 5==0 with
  | true=>
   rw [if_pos rfl]
   refine CL (wpB (O7 hl hKt (λus h1 h2 h3=>?_) g0))
   refine wpB (wpB (wpSN (wpNL (by decide) (wpB (VP (Pc (ts:=us.map λc=>[c]) (AX (by rw [List.map_map];exact last_new)) last_new (by rw [length_map];exact aQ h2 hl) λt m c mc=>?_) (wpTb ?_))))))
   ·obtain ⟨d,md,rfl⟩:=mem_map.mp m
    rw [mem_singleton.mp mc];exact ok d (h3 d md)
   ·have p2:st <+: st++[us.map λc=>PV.str [c]]++[[]]:=(Bx _).trans (Bx _)
    cases us with
    | nil=>exact ⟨_,rfl,p2,λU=>h1.mp rfl⟩
    | cons u us=>exact ⟨_,rfl,p2,λh=>by cases h⟩
  | false=>exact ⟨st,rfl,prefix_refl _,λh=>by cases h⟩
 ·obtain ⟨st',rfl,hp,hb⟩:=z
  have p5:∀ a b c d e:List PV,st <+: st'++[a]++[b]++[c]++[d]++[e]:=λa b c d e=>hp.trans ((Bx _).trans ((Bx _).trans ((Bx _).trans ((Bx _).trans (Bx _)))))
  cases b with
  | true=>
   refine wpB (wpB (wpB (wpNL (by decide) (wpB (wpB (wpSC (wpG g0 (wpSN ?_))))))))
   show wp (ao _) _ _ _
   have ml:=l2 (text.map λc=>[c]) (by rw [length_map];exact aR _)
   refine wpNL (by rw [length_map];exact lb) (Cg (AX last_new) last_new ?_ (wpB (wpNL (by decide) (Cg (AX last_new) last_new ?_ (wpR ?_)))))
   ·simp at ml ⊢;lia
   ·simp at ml ⊢;lia
   refine hQ _ _ ([39]::(text.map λc=>[c])++[[39]]) (p5 _ _ _ _ _) ?_ (.lit (hb rfl)) ?_
   ·rw [last_new];simp [Function.comp_def]
   ·rw [DS,length_cons,length_append]
    show text.length+1+1<=_
    lia
  | false=>
   refine wpB (wpB (wpB (wpNL (by decide) (wpB (Pd hl hs g0 g1 λts u ul=>?_)))))
   have tl:=l2 ts (aS u.len)
   refine Cg (AX last_new) last_new ?_ (wpB (wpNL (by decide) (Cg (AX last_new) last_new ?_ (wpR ?_))))
   ·simp at tl ⊢;lia
   ·simp at tl ⊢;lia
   refine hQ _ _ ([34]::ts++[[34]]) (p5 _ _ _ _ _) ?_ (.bas u) ?_
   ·rw [last_new];simp
   ·rw [DT,length_cons,length_append]
    exact lw _ ul
end
inductive Rw where
 | last (g:Txt)
 | txt (g t:Txt) (r:Rw)
 | row (g:Txt) (s r:Rw)
def Rw.lg (r:Rw):Txt:=Rw.rec (motive:=λU=>Txt) (λg=>g) (λU U U a=>a) (λU U U U a=>a) r
def Rw.texts (r:Rw):Nat:=Rw.rec (motive:=λU=>Nat) (λU=>0) (λU U U a=>a+1) (λU U U b a=>b+a) r
def Rw.nodes (r:Rw):Nat:=Rw.rec (motive:=λU=>Nat) (λU=>0) (λU U U a=>a+1) (λU U U b a=>b+a+1) r
def Rw.dep (r:Rw):Nat:=Rw.rec (motive:=λU=>Nat) (λU=>0) (λU U U a=>a) (λU U U b a=>max (b+1) a) r
def Rw.num (r:Rw):Nat:=Rw.rec (motive:=λU=>Nat) (λU=>0) (λU U U a=>a+1) (λU U U U a=>a+1) r
def Rw.app (r q:Rw):Rw:=Rw.rec (motive:=λU=>Rw) (λU=>q) (λg t U a=>.txt g t a) (λg s U U a=>.row g s a) r
def F7 (g:Txt):Prop:=(∀ c∈g,Av c/\c≠39/\c≠34)/\g.length<=7
def Rw.Ok (r:Rw):Prop:=Rw.rec (motive:=λU=>Prop) F7 (λg t U a=>F7 g/\g.getLast?≠some 58/\((∀ c∈t,Av c)/\t.length<=6)/\a) (λg U U b a=>F7 g/\b/\a) r
def clB (g:Txt):List PV:=[.str g]
def opB (_:Txt):List PV:=[]
def Bm (st:List (List PV))(r:Rw):(Txt->List PV)->List PV->Prop:=Rw.rec (motive:=λU=>(Txt->List PV)->List PV->Prop) (λg b l=>l=b g)
 (λg t U a b l=>∃ j l',l = .lst j::l'/\st[j]? = some [.str g,.str t]/\a b l')
 (λg U U s a b l=>∃ j k ls l',l = .lst j::l'/\st[j]? = some [.str (g++[58]),.lst k]/\st[k]? = some ls/\s clB ls/\a b l') r
def Ext (st st':List (List PV)):Prop:=∀ (i:Nat) (l:List PV) (t:Txt),st[i]? = some l->.str t∈l->st'[i]? = some l
theorem Ext.of {st st':List (List PV)}(h:st <+: st'):Ext st st':=λU U U e U=>Bs h e
theorem Ext.trans {a b c:List (List PV)}(h:Ext a b)(k:Ext b c):Ext a c:=λi l t e m=>k i l t (h i l t e m) m
theorem Ext.set {st:List (List PV)}{i:Nat}{l l':List PV}(h:st[i]? = some l)(n:∀ t,PV.str t∉l):Ext st (st.set i l'):=λj x t e m=>by
 rw [getElem?_set_ne λz=>?_];exact e
 subst z
 rw [h] at e
 exact n t (aT e▸m)
theorem Bm.str {st:List (List PV)}{r:Rw}:∀ {l:List PV},Bm st r clB l->.str r.lg∈l:=by
 induction r with
 | last g=>rintro _ rfl;exact mem_singleton_self _
 | txt g t r ih=>rintro _ ⟨j,l',rfl,_,h⟩;exact mem_cons_of_mem _ (ih h)
 | row g s r _ ih=>rintro _ ⟨j,k,ls,l',rfl,_,_,_,h⟩;exact mem_cons_of_mem _ (ih h)
theorem Bm.ext {st st':List (List PV)}{r:Rw}(h:Ext st st'):∀ {b:Txt->List PV} {l:List PV},Bm st r b l->Bm st' r b l:=by
 induction r with
 | last g=>exact id
 | txt g t r ih=>rintro b _ ⟨j,l',rfl,e,k⟩;exact ⟨j,l',rfl,h _ _ g e mem_cons_self,ih k⟩
 | row g s r ihs ih=>rintro b _ ⟨j,i,ls,l',rfl,e,e2,k2,k⟩;exact ⟨j,i,ls,l',rfl,h _ _ _ e mem_cons_self,h _ _ _ e2 (Bm.str k2),ihs k2,ih k⟩
theorem Bm.len {st:List (List PV)}{r:Rw}:∀ {l:List PV},Bm st r clB l->l.length=r.num+1:=by
 induction r with
 | last g=>rintro _ rfl;rfl
 | txt g t r ih=>rintro _ ⟨j,l',rfl,_,h⟩;exact congrArg (·+1) (ih h)
 | row g s r _ ih=>rintro _ ⟨j,k,ls,l',rfl,_,_,_,h⟩;exact congrArg (·+1) (ih h)
theorem Bm.app {st:List (List PV)}{r q:Rw}{b:Txt->List PV}{m:List PV}(k:Bm st q b m):∀ {l:List PV},Bm st r opB l->Bm st (r.app q) b (l++m):=by
 induction r with
 | last g=>rintro _ rfl;exact k
 | txt g t r ih=>rintro _ ⟨j,l',rfl,e,h⟩;exact ⟨j,_,rfl,e,ih h⟩
 | row g s r _ ih=>rintro _ ⟨j,i,ls,l',rfl,e,e2,k2,h⟩;exact ⟨j,i,ls,_,rfl,e,e2,k2,ih h⟩
def Gm (X:Txt)(us:List Txt)(bad:Nat):Txt:=C4 (X++[bad]) X.length (EK ((us.getD 0 []).getD 0 0) bad)
def Fo (bad:Nat)(r:Rw):Txt->Txt->Txt->Prop:=Rw.rec (motive:=λU=>Txt->Txt->Txt->Prop) (λU U w d=>w=[]/\d=[])
 (λg t U a pre w d=>(∃ us w',LineOf t us/\a (pre++(g++us.flatten)) w' d/\w=g++us.flatten++w') \/
  ∃ u1 u2 w',LineOf t (u1++u2)/\u1≠[]/\u2≠[]/\a (pre++(g++(u1.flatten++bad::u2.flatten))) w' []/\w=g++(u1.flatten++bad::u2.flatten)++w'/\d=Gm (pre++(g++u1.flatten)) (u1++u2) bad)
 (λg s U b a pre w d=>∃ ws us w' d1 d2,b [] ws d1/\LineOf (ws++s.lg) us/\us.flatten.length<=6*(ws++s.lg).length+322/\a (pre++(g++[58]++us.flatten)) w' d2/\w=g++[58]++us.flatten++w'/\d=d1++d2/\(d1=[]\/d2=[])) r
theorem DU {t:Txt}{us:List Txt}(h:LineOf t us):us.flatten.length<=10*t.length+2:=by
 cases h with
 | lit _=>rw [DS,length_cons,length_append];show t.length+1+1<=_;lia
 | bas u=>
  have:=RD (IE u)
  rw [u.len] at this
  rw [DT,length_cons,length_append]
  show _+1+1<=_
  lia
def cst (d:Nat):Nat:=Nat.rec 71 (λU a=>6*a+330) d
theorem Jy (d:Nat):71<=cst d:=by
 induction d with
 | zero=>exact aR _
 | succ d ih=>show 71<=6*cst d+330;lia
theorem VQ {g x w:Txt}{n:Nat}{l:Txt}(h:g.length+x.length<=n):(g++x++w++l).length<=n+(w++l).length:=by
 simp only [length_append];exact la [_,_,_,_,_] [([2,4,0],[6])] ([2,4,0,8,0,10,0],[6,8,10,0,0]) rfl h
theorem NG {e n a b:Nat}(h:a<=cst e*(n+1))(hb:b<=6*a+322):8+b<=cst (e+1)*(n+1):=by
 show _<=(6*cst e+330)*(n+1)
 rw [Nat.add_mul,Nat.mul_assoc]
 generalize cst e*(n+1)=x at h
 lia
theorem Fo.len {bad:Nat}{r:Rw}:∀ {pre w d:Txt} {dd:Nat},Fo bad r pre w d->r.Ok->r.dep<=dd->(w++r.lg).length<=cst dd*(r.nodes+1):=by
 induction r with
 | last g=>
  rintro pre w d dd ⟨rfl,_⟩ ok _
  have h1:g.length<=7:=ok.2
  show g.length<=cst dd*1
  have:=Jy dd
  lia
 | txt g t r ih=>
  intro pre w d dd h ok hd
  obtain ⟨⟨_,g7⟩,_,⟨_,t6⟩,ok'⟩:=ok
  have c71:=Jy dd
  have key:∀ {x w':Txt},x.length<=63->(w'++r.lg).length<=cst dd*(r.nodes+1)->(g++x++w'++r.lg).length<=cst dd*(r.nodes+1+1):=λ{x w'} hx hw=>by
   refine aQ (VQ (n:=71) (by exact la [_,_] [([2],[15]),([4],[127])] ([2,4,0],[143]) rfl g7 hx)) ?_
   rw [Nat.mul_succ (cst dd) (r.nodes+1)]
   exact la [_,_,_] [([143],[2]),([4],[6])] ([143,4,0],[6,2,0]) rfl c71 hw
  rcases h with ⟨us,w',lo,h',rfl⟩ | ⟨u1,u2,w',lo,_,_,h',rfl,_⟩
  ·exact key (aQ (DU lo) (by lia)) (ih h' ok' hd)
  ·have:=DU lo
   rw [flatten_append,length_append] at this
   exact key (by rw [length_append,length_cons];lia) (ih h' ok' hd)
 | row g s r ihs ih=>
  rintro pre w d dd ⟨ws,us,w',d1,d2,hs,_,hl,h',rfl,_⟩ ok hd
  obtain ⟨⟨_,g7⟩,oks,ok'⟩:=ok
  have hd:max (s.dep+1) r.dep<=dd:=hd
  have hd1:=aQ (Nat.le_max_left ..) hd
  obtain ⟨e,rfl⟩:∃ e,dd=e+1:=⟨dd - 1,by exact bc (la [_,_] [([2],[4,3,0])] ([2],[4,3,0]) rfl (Mi.lcS _ _)) (la [_,_] [([2,3,0],[4])] ([2,3,0],[4]) rfl (Mi.lcC (la [_,_] [([2,3,0],[4])] ([3],[4]) rfl hd1)))⟩
  have h1:=NG (ihs hs oks (Nat.le_of_succ_le_succ hd1)) hl
  have h2:=ih h' ok' (aQ (Nat.le_max_right ..) hd)
  refine aQ (VQ (n:=cst (e+1)*(s.nodes+1)) (by rw [length_append];show g.length+1+_<=_;exact la [_,_,_] [([2],[15]),([17,4,0],[6])] ([2,3,0,4,0],[6]) rfl g7 h1)) ?_
  refine aQ (Nat.add_le_add_left h2 _) ?_
  rw [<- Nat.mul_add]
  exact aS (congrArg _ (show s.nodes+1+(r.nodes+1)=s.nodes+r.nodes+1+1 by exact bc (la [_,_] [] ([2,3,0,4,3,0,0],[2,4,0,3,0,3,0]) rfl) (la [_,_] [] ([2,4,0,3,0,3,0],[2,3,0,4,3,0,0]) rfl)))
theorem Ty {c:Nat}{t:Txt}(hc:Av c)(u:UnitOf c t):∀ d∈t,Av d:=by
 have hx:∀ {h:Txt} {d e:Nat},d<=127->h.all hexd=true->e∈92::d::h->Av e:=λ{h d e} hd ha m=>by
  rcases mem_cons.mp m with rfl | m
  ·exact .inl (by decide)
  ·rcases mem_cons.mp m with rfl | m
   ·exact .inl (aQ hd (by decide))
   ·exact .inl (br (bk (Nc (all_eq_true.mp ha _ m)) (by decide)))
 cases u with
 | raw _ _ _=>exact λd m=>mem_singleton.mp m▸hc
 | @short d h _ _=>
  refine λe m=>hx (h:=[]) ?_ rfl m
  unfold escT DZ at h
  simp only [lookup_cons] at h
  by_cases q:d<=127
  ·exact q
  ·exfalso
   have ne:∀ k,k<=127->(([92,d]:Txt)==[92,k])=false:=λk hk=>bv.mpr λz=>by injection z with _ z;injection z with z;exact (Nat.not_succ_le_zero _ (la [_,_] [([255,3,0],[2]),([4],[255]),([2],[4])] ([3],[1]) rfl (Nat.not_le.mp q) hk (aS z)))
   rw [ne 98 (by decide),ne 116 (by decide),ne 110 (by decide),ne 102 (by decide),ne 114 (by decide),ne 34 (by decide),ne 92 (by decide)] at h
   cases h
 | four _ h _=>exact λe m=>hx (by decide) h m
 | eight _ h _=>exact λe m=>hx (by decide) h m
theorem RH {cs:Txt}{ts:List Txt}(u:Units cs ts):∀ c∈ts.flatten,Av c:=by
 induction u with
 | nil=>exact λU m=>(by cases m)
 | cons hc u _ ih=>
  intro c m
  rw [flatten_cons] at m
  exact (mem_append.mp m).elim (Ty hc u c) (ih c)
theorem Jz {t:Txt}{us:List Txt}(ht:∀ c∈t,Av c)(h:LineOf t us):∀ c∈us.flatten,Av c:=by
 have wrap:∀ {m:Nat} {x:Txt},m<=127->(∀ c∈x,Av c)->∀ c∈m::(x++[m]),Av c:=λ{m x} hm hx c mm=>by
  have hs:Av m:=.inl (aQ hm (by decide))
  rcases mem_cons.mp mm with rfl | mm
  ·exact hs
  ·exact (mem_append.mp mm).elim (hx c) λz=>mem_singleton.mp z▸hs
 cases h with
 | lit _=>rw [DS];exact wrap (by decide) ht
 | bas u=>rw [DT];exact wrap (by decide) (RH u)
theorem Fo.sc {bad:Nat}{r:Rw}(hb:Av bad):∀ {pre w d:Txt},Fo bad r pre w d->r.Ok->∀ c∈w++r.lg,Av c:=by
 have app:∀ {a b:Txt},(∀ c∈a,Av c)->(∀ c∈b,Av c)->∀ c∈a++b,Av c:=λha hb c m=>(mem_append.mp m).elim (ha c) (hb c)
 induction r with
 | last g=>
  rintro pre w d ⟨rfl,_⟩ ok
  exact λc m=>(ok.1 c m).1
 | txt g t r ih=>
  intro pre w d h ok
  obtain ⟨⟨g1,_⟩,_,⟨t1,_⟩,ok'⟩:=ok
  have g1:∀ c∈g,Av c:=λc m=>(g1 c m).1
  rcases h with ⟨us,w',lo,h',rfl⟩ | ⟨u1,u2,w',lo,_,_,h',rfl,_⟩
  ·rw [append_assoc]
   exact app (app g1 (Jz t1 lo)) (ih h' ok')
  ·have:=Jz t1 lo
   rw [flatten_append] at this
   rw [append_assoc]
   refine app (app g1 (app (λc m=>this c (mem_append_left _ m)) λc m=>?_)) (ih h' ok')
   rcases mem_cons.mp m with rfl | m
   ·exact hb
   ·exact this c (mem_append_right _ m)
 | row g s r ihs ih=>
  rintro pre w d ⟨ws,us,w',d1,d2,hs,lo,_,h',rfl,_⟩ ok
  obtain ⟨⟨g1,_⟩,oks,ok'⟩:=ok
  have g1:∀ c∈g,Av c:=λc m=>(g1 c m).1
  rw [append_assoc]
  exact app (app (app g1 λc m=>mem_singleton.mp m▸.inl (by decide)) (Jz (ihs hs oks) lo)) (ih h' ok')
theorem Hz {c p:Nat}{x:Txt}:posns c (x.take p) p=posns c x p:=by
 unfold posns
 refine filter_congr λi hi=>?_
 rw [List.getElem?_take_of_lt (mem_range.mp hi)]
def RI (k:Nat):Option Nat->Nat
 | none=>k
 | some i=>i+1
theorem MI (x:Txt)(l:List Nat):∀ (k:Nat),(BY x k l)[l.length]? = some (x.drop (RI k l.getLast?)):=by
 induction l with
 | nil=>exact λU=>rfl
 | cons i l ih=>
  intro k
  rw [BY,length_cons,List.getElem?_cons_succ,ih (i+1)]
  cases l with
  | nil=>rfl
  | cons a r=>rw [List.getLast?_cons_cons,List.getLast?_eq_some_getLast (cons_ne_nil a r)];rfl
abbrev HA (x:Txt)(p:Nat):List Txt:=splitT 10 (x.take (min p x.length))
theorem Pe (x:Txt)(p:Nat):(HA x p).length=lineOf x p:=by
 have l:(x.take (min p x.length)).length=min p x.length:=by rw [length_take];exact bj (Nat.min_le_right ..)
 unfold HA lineOf
 rw [EC,ON,l,Hz,Nat.add_comm]
def DV (x:Txt)(p:Nat):Txt:=(x.take (min p x.length)).drop (RI 0 (posns 10 x (min p x.length)).getLast?)
theorem MJ (x:Txt)(p:Nat):∃ m,lineOf x p=m+1/\(HA x p)[m]? = some (DV x p):=by
 have l:(x.take (min p x.length)).length=min p x.length:=by rw [length_take];exact bj (Nat.min_le_right ..)
 refine ⟨_,Nat.add_comm ..,?_⟩
 have:=MI (x.take (min p x.length)) (posns 10 x (min p x.length)) 0
 unfold HA DV
 rw [EC,l,Hz]
 exact this
theorem RJ (x:Txt)(p:Nat):(DV x p).length<=x.length:=by
 unfold DV
 rw [length_drop]
 exact aQ (Nat.sub_le ..) (by rw [length_take];exact Nat.min_le_right ..)
theorem RK {x:Txt}{p:Nat}(h:p<x.length):(((DV x p).length:Nat):Int)+1=CX x p:=by
 have e:min p x.length=p:=bj (br h)
 unfold DV CX
 rw [e,length_drop,length_take,e]
 cases q:(posns 10 x p).getLast? with
 | none=>rfl
 | some i=>
  have:i<p:=KP (List.mem_of_getLast? q)
  show ((p - (i+1):Nat):Int)+1=(p:Int) - i
  lia
theorem HB (m:Nat):idx (-1) (m+1)=some m:=by
 unfold idx
 rw [if_neg (by decide),if_pos (by lia)]
 exact congrArg some (by lia)
section
variable {loc:Nat->Option PV}{st:List (List PV)}{Q:PV->PS->Prop}{E:PX->PS->Prop}
theorem VR {x:Txt}{c:Nat}(hc:c<256)(hx:x.length<=big)(hs:(splitT c x).length<=big)(h:Q (.lst st.length) ⟨loc,st++[(splitT c x).map .str]⟩):wp (He (.str x) [.str [c]]) ⟨loc,st⟩ Q E:=by
 refine wpO (by rw [decide_eq_true hc,decide_eq_true hx];rfl) ?_
 exact wpNL (by rw [length_map];exact hs) h
theorem Tz (c:Nat)(d:Txt)(s:PS):QH (.dct [.int 10,.int 13] [.str [39,92,110,39],.str [39,92,114,39]]) [.int c,.str d] s = .ok (.str (if c=10 then [39,92,110,39] else if c=13 then [39,92,114,39] else d)) s:=by
 by_cases h1:c=10
 ·subst h1;rfl
 by_cases h2:c=13
 ·subst h2;rfl
 have go:∀ (k:Nat) ks v vs,c≠k->CO (.int k::ks) (v::vs) (.int c)=CO ks vs (.int c):=λk ks v vs h=>by
  show (match some ((k:Int)==(c:Int)) with
   | some true=>some (some v)
   | some false=>CO ks vs (.int c)
   | none=>none)=_
  rw [show ((k:Int)==(c:Int))=false from beq_eq_false_iff_ne.mpr λz=>h (Int.ofNat.inj z).symm]
 have e:C9 [.int 10,.int 13] [.str [39,92,110,39],.str [39,92,114,39]] (.int c)=some none:=(go 10 _ _ _ h1).trans (go 13 _ _ _ h2)
 show aB ((C9 [.int 10,.int 13] [.str [39,92,110,39],.str [39,92,114,39]] (.int c)).map λr=>r.getD (.str d)) s=_
 rw [e,if_neg h1,if_neg h2]
 rfl
end
def RL (c:Nat):Txt:=if c=10 then [39,92,110,39] else ME c
theorem NH:∀ c≤127,A1 0 c=true->AY [c]=RL c:=by decide +kernel
structure BadOk (c:Nat):Prop where
 le:c<=127
 ctl:A1 0 c=true
theorem BadOk.shown {c:Nat}(h:BadOk c):AY [c]=(if c=10 then [39,92,110,39] else if c=13 then [39,92,114,39] else [39,92,120]++[KX.getD (c / 16) 0]++[KX.getD (c % 16) 0]++[39]):=NH c h.le h.ctl
theorem BadOk.len {c:Nat}(h:BadOk c):(AY [c]).length<=6:=by
 rw [NH c h.le h.ctl]
 unfold RL
 split
 ·decide
 ·exact O6 c
theorem BadOk.sc {c:Nat}(h:BadOk c):Av c:=.inl (aQ h.le (by decide))
theorem Pf {V:Type}{x:List V}{n:Nat}:slc x (some (n:Int)) none=x.drop n:=by
 unfold slc bnd
 simp only [Int.natCast_nonneg,if_true,Int.toNat_natCast,take_length]
 by_cases h:n<=x.length
 ·rw [Nat.min_eq_left h]
 ·rw [Nat.min_eq_right (by exact la [_,_] [([2,3,0],[4])] ([2],[4]) rfl (Nat.not_le.mp h)),List.drop_length,List.drop_eq_nil_of_le (by exact la [_,_] [([2,3,0],[4])] ([2],[4]) rfl (Nat.not_le.mp h))]
theorem K5 (g:Txt):slc g (some (-1)) none=g.drop (g.length - 1):=by
 show (g.take g.length).drop (bnd (-1) g.length)=_
 rw [take_length,show bnd (-1) g.length=g.length - 1 from (if_neg (by decide)).trans (show (-1+(g.length:Int)).toNat=_ from Int.add_comm _ _▸Int.toNat_sub g.length 1)]
theorem JA (g:Txt):slc (g++[58]) (some (-1)) none=[58]:=by
 rw [K5,length_append]
 exact drop_left
theorem JB {g:Txt}(h:g.getLast?≠some 58):(slc g (some (-1)) none==([58]:Txt))=false:=by
 rw [K5]
 refine bv.mpr λe=>h ?_
 rw [<- take_append_drop (g.length - 1) g,e,List.getLast?_append]
 rfl
abbrev tFd (i:Nat)(way n:Int)(bad:Nat)(W D:Txt)(k g p u:Option PV):Tb:=[some (.lst i),some (.int way),some (.int n),some (.int bad),some (.str W),some (.str D),k,g,p,none,u,none,none,none]
section
variable {rec:M PFlow}{i j k bad:Nat}{way n:Int}{W D g t:Txt}{l:List PV}{L:Nat->Option PV}{st:List (List PV)}{Q:PFlow->PS->Prop}{E:PX->PS->Prop}
theorem Wh {a b:Nat}{v w:PV}{Q:Unit->PS->Prop}(h:st[j]? = some [v,w])(k:Q () ⟨upd (upd L a v) b w,st⟩):wp (aC [ah a,ah b] (.lst j)) ⟨L,st⟩ Q E:=wpU h rfl (RC (wpSet (RC (wpSet (VO k)))))
theorem RM {i:Nat}{a b:Option Int}{l t:List PV}{Q:PV->PS->Prop}(h:st[i]? = some l)(hl:l.length<=big)(e:slc l a b=t)(ht:t.length<=big)(k:Q (.lst st.length) ⟨L,st++[t]⟩):wp (AT a b (.lst i)) ⟨L,st⟩ Q E:=by
 rw [Pa h,e];exact ⟨hl,ht,k⟩
theorem NI {v:PV}{r:M PFlow}(hi:st[i]? = some l)(hk:l[k]? = some (.lst j))(k6:k<=12500000)(hj:st[j]? = some [.str g,v])(hW:(W++g).length<=big)(B:Loc (tFd i way n bad W D (some (.int k)) none none none) L)
  (h:∀ L,Loc (tFd i way n bad (W++g) D (some (.int k)) (some (.str g)) (some v) none) L->wp r ⟨L,st⟩ Q E) :
  wp (aj (ac ((ac (af 0) λa=>ac (af 6) λb=>As false a b)) λa=>ac (aC [ah 7,ah 8] a) λU=>ae .next)
  (aj (ac (af 4) λa=>ac (af 7) λb=>ac (BG .Add a b) λc=>ac (ah 4 c) λU=>ae .next) r)) ⟨L,st⟩ Q E:=by
 refine wpA st (tFd i way n bad W D (some (.int k)) (some (.str g)) (some v) none) ?_ λL B=>?_
 ·walk_at "wp"
  refine Hs (j:=k) (AC (bx k6 (by decide))) hi (E9 (ba.mp hk).1) hk ?_
  refine KtI (wpB (Wh hj ?_))
  exact ⟨rfl,((B.set 7 _).set 8 _ |> At.mk _ rfl)⟩
 refine Bl ?_
 walk_at "wp"
 ·exact hW
 exact h _ (B.set 4 _)
inductive TxtR (st:List (List PV))(i:Nat)(way n:Int)(bad:Nat)(W D g t:Txt)(s:PS):Prop
 | ok (st':List (List PV)) (us:List Txt) (p:st <+: st') (lo:LineOf t us) (hn:n≠0) (a:At st' (tFd i way (n - 1) bad (W++(g++us.flatten)) D none none none none) s)
 | bad (st':List (List PV)) (u1 u2:List Txt) (p:st <+: st') (lo:LineOf t (u1++u2)) (n1:u1≠[]) (n2:u2≠[]) (hn:n=0) (a:At st' (tFd i way (n - 1) bad (W++(g++(u1.flatten++bad::u2.flatten))) (Gm (W++(g++u1.flatten)) (u1++u2) bad) none none none none) s)
inductive AtU (st:List (List PV))(i:Nat)(way n:Int)(bad:Nat)(W:Txt)(us:List Txt)(k g p:Option PV)(s:PS):Prop
 | mk (st':List (List PV)) (u:Nat) (u1 u2:List Txt) (e:us=u1++u2) (n1:u1≠[]) (n2:u2≠[]) (q:st <+: st') (hu:st'[u]? = some ((u1++[bad]::u2).map .str)) (a:At st' (tFd i way n bad W (Gm (W++u1.flatten) us bad) k g p (some (.lst u))) s):AtU st i way n bad W us k g p s
theorem MK {u m:Nat}{us ur:List Txt}{k g p:Option PV}(hb:BadOk bad)(hus:us=[m]::ur)(hur:ur≠[])(ul:us.length<=100)(uf:us.flatten.length<=100)(hW:W.length<=12500000)(hu:st[u]? = some (us.map .str))(B:Loc (tFd i way n bad W D k g p (some (.lst u))) L) :
  wp (aj (ac ((ac (ae (.int 1)) λa=>ac ((ac ((ac (af 1) λb=>ac (af 3) λc=>Aj .Add b c)) λb=>ac ((ac ((ac (ag [af 10]) Cp)) λc=>ac (ae (.int 1)) λd=>Aj .Sub c d)) λc=>Aj .Mod b c)) λb=>Aj .Add a b)) λa=>ac (ah 11 a) λU=>ae .next)
  (aj (ac ((ac ((ac (af 4) λa=>ac ((ac (ae (.str [])) λb=>ak (Bo b) (ac (ag [(ac (af 10) λc=>ac (AM none) λd=>ac (AM (some (af 11))) λe=>AT d e c)]) (EZ b)))) λb=>Aj .Add a b)) λa=>ak (Bo a) (ac (ag [ae (.str [10])]) (He a)))) λa=>ac (ah 12 a) λU=>ae .next)
  (aj (ac ((ac ((Ov .int [10,13] [.str [39,92,110,39],.str [39,92,114,39]])) λa=>ak (Je a) (ac (ag [af 3,(ac ((ac ((ac (ae (.str [39,92,120])) λb=>ac ((ac (ae (.str [48,49,50,51,52,53,54,55])) λc=>ac ((ac (af 3) λd=>ac (ae (.int 16)) λe=>Aj .FloorDiv d e)) λd=>As false c d)) λc=>Aj .Add b c)) λb=>ac ((ac (ae (.str [48,49,50,51,52,53,54,55,56,57,97,98,99,100,101,102])) λc=>ac ((ac (af 3) λd=>ac (ae (.int 16)) λe=>Aj .Mod d e)) λd=>As false c d)) λc=>Aj .Add b c)) λb=>ac (ae (.str [39])) λc=>Aj .Add b c)]) (QH a)))) λa=>ac (ah 13 a) λU=>ae .next)
  (aj (ac ((ac ((ac ((ac ((ac (af 10) λa=>ac (ae (.int 0)) λb=>As false a b)) λa=>ac (ae (.str [39])) λb=>ac (Au .Eq a b) tst)) λc=>if c then ae (.str [70,111,117,110,100,32,105,110,118,97,108,105,100,32,99,104,97,114,97,99,116,101,114,32]) else ae (.str [73,108,108,101,103,97,108,32,99,104,97,114,97,99,116,101,114,32]))) λa=>ac (af 13) λb=>Aj .Add a b)) λa=>ac (ah 5 a) λU=>ae .next)
  (aj (ac (af 5) λa=>ac ((ac ((ac ((ac ((ac (ae (.str [32,40,97,116,32,108,105,110,101,32])) λb=>ac ((ac (ag [(ac (ag [af 12]) Cp)]) Lu)) λc=>Aj .Add b c)) λb=>ac (ae (.str [44,32,99,111,108,117,109,110,32])) λc=>Aj .Add b c)) λb=>ac ((ac (ag [(ac ((ac (ag [(ac (af 12) λc=>ac ((ac (ae (.int 1)) EY)) λd=>As false c d)]) Cp)) λc=>ac (ae (.int 1)) λd=>Aj .Add c d)]) Lu)) λc=>Aj .Add b c)) λb=>ac (ae (.str [41])) λc=>Aj .Add b c)) λb=>ac (BG .Add a b) λc=>ac (ah 5 c) λU=>ae .next)
  (ac ((ac ((ac ((ac (af 10) λa=>ac (AM none) λb=>ac (AM (some (af 11))) λc=>AT b c a)) λa=>ac ((ac (ag [(ac (ag [af 3]) HG)]) ao)) λb=>Aj .Add a b)) λa=>ac ((ac (af 10) λb=>ac (AM (some (af 11))) λc=>ac (AM none) λd=>AT c d b)) λb=>Aj .Add a b)) λa=>ac (ah 10 a) λU=>ae .next)))))) ⟨L,st⟩ (λf s'=>f = .next/\AtU st i way n bad W us k g p s') λU U=>False:=by
 have lm:(us.map PV.str).length=us.length:=length_map ..
 have u1:0<us.length - 1:=by
  rw [hus,length_cons,Nat.add_sub_cancel]
  exact List.length_pos_iff.mpr hur
 obtain ⟨q,eq,hq⟩:=Jx (way+(bad:Int)) u1
 rw [show ((us.length - 1:Nat):Int)=(us.length:Int) - 1 by lia] at eq
 have ub:∀ n,n<=100->n<=big:=λn h=>aQ h (by decide)
 have lW:=hW
 have t1:(us.take (q+1)).flatten.length<=100:=by
  have e:=congrArg (λl:List Txt=>l.flatten.length) (take_append_drop (q+1) us)
  rw [flatten_append,length_append] at e
  exact la [_,_,_] [([2],[201]),([4,6,0],[2])] ([4],[201]) rfl uf (aS e)
 generalize hX:W++(us.take (q+1)).flatten=X
 have lX:X.length<=12500100:=by rw [<- hX,length_append];exact Nat.add_le_add hW t1
 have pX:X.length<(X++[bad]).length:=by rw [length_append];exact bp _
 have eX:(X++[bad]).take (min X.length (X++[bad]).length)=X:=by rw [Nat.min_eq_left (Nat.le_of_lt pX),List.take_left]
 have ln:=Pe (X++[bad]) X.length
 obtain ⟨mm,em,hl⟩:=MJ (X++[bad]) X.length
 have lo:lineOf (X++[bad]) X.length<=12500102:=by
  unfold lineOf
  have:=FL (c:=10) (x:=X++[bad]) (hi:=min X.length (X++[bad]).length)
  have:=Nat.min_le_left X.length (X++[bad]).length
  lia
 have ll:(DV (X++[bad]) X.length).length<=12500102:=aQ (RJ ..) (by rw [length_append];exact bA (aQ lX (by decide)))
 have lc:=RK pX
 unfold HA at ln hl
 rw [eX] at ln hl
 refine wpA st [some (.lst i),some (.int way),some (.int n),some (.int bad),some (.str W),some (.str D),k,g,p,none,some (.lst u),some (.int ((q+1:Nat):Int)),none,none] ?_ λL B=>?_
 ·walk_at "wp"
  rw [Ea hu,lm]
  refine ⟨ub _ ul,?_⟩
  walk_at "wp"
  ·have h1:((us.length:Int) - 1 != 0)=true:=by rw [bne_iff_ne];lia
   have h2:Ah ((us.length:Int) - 1)=true:=AC (by lia)
   rw [h1,h2];rfl
  rw [eq]
  walk_at "wp"
  rw [show (1:Int)+(q:Int)=((q+1:Nat):Int) by lia]
  exact ⟨rfl,(B.set 11 _ |> At.mk _ rfl)⟩
 have q1:q+1<=us.length:=by exact la [_,_,_] [([2,3,0],[4]),([4,3,0],[6])] ([2,3,0],[6]) rfl hq (Mi.lcC (la [_,_,_] [([2,3,0],[4]),([4],[6])] ([3],[6]) rfl hq (Nat.sub_le _ _)))
 refine wpA (st++[(us.take (q+1)).map .str]++[(splitT 10 X).map .str]) [some (.lst i),some (.int way),some (.int n),some (.int bad),some (.str W),some (.str D),k,g,p,none,some (.lst u),some (.int ((q+1:Nat):Int)),some (.lst (st++[(us.take (q+1)).map PV.str]).length),none] ?_ λL B=>?_
 ·walk_at "wp"
  refine KtI ?_
  refine wpO rfl ?_
  walk_at "wp"
  refine RM (t:=(us.take (q+1)).map .str) hu (by rw [lm];exact ub _ ul) ((ND (by rw [lm];exact q1)).trans List.map_take.symm) (by rw [length_map,length_take];exact ub _ (aQ (Nat.min_le_right ..) ul)) ?_
  walk_at "wp"
  rw [GB last_new]
  refine ⟨ub _ t1,?_⟩
  walk_at "wp"
  ·rw [hX];exact aQ lX (by decide)
  rw [hX]
  refine VR (by decide) (aQ lX (by decide)) (by rw [ln];exact aQ lo (by decide)) ?_
  walk_at "wp"
  exact ⟨rfl,(B.set 12 _ |> At.mk _ rfl)⟩
 have hu2:=AX (l:=(splitT 10 X).map .str) (AX (l:=(us.take (q+1)).map .str) hu)
 have g12:(st++[(us.take (q+1)).map .str]++[(splitT 10 X).map .str])[(st++[(us.take (q+1)).map PV.str]).length]? = some ((splitT 10 X).map .str):=last_new
 have p2:st <+: st++[(us.take (q+1)).map .str]++[(splitT 10 X).map .str]:=(Bx _).trans (Bx _)
 generalize st++[(us.take (q+1)).map .str]++[(splitT 10 X).map .str]=st2 at hu2 g12 p2 B ⊢
 generalize (st++[(us.take (q+1)).map PV.str]).length=li at g12 B ⊢
 have hs:=hb.shown
 have rl:=hb.len
 refine wpA st2 [some (.lst i),some (.int way),some (.int n),some (.int bad),some (.str W),some (.str D),k,g,p,none,some (.lst u),some (.int ((q+1:Nat):Int)),some (.lst li),some (.str (AY [bad]))] ?_ λL B=>?_
 ·refine wpB (wpB ?_)
  show wp (ae (PV.dct [.int 10,.int 13] [.str [39,92,110,39],.str [39,92,114,39]])) _ _ _
  refine wpR (KtI (wpO rfl (wpB ?_)))
  walk_at "wp"
  rw [show (bad:Int).fdiv 16=((bad / 16:Nat):Int) from Fb bad 16]
  have b8:bad / 16<8:=Nat.div_lt_of_lt_mul (bx hb.le (by decide))
  refine Hk (AC (aY b8 (by decide))) (E9 b8) ?_
  walk_at "wp"
  ·exact (by decide:4<=big)
  rw [show (bad:Int).fmod 16=((bad % 16:Nat):Int) from Dg bad 16]
  refine U7 (Nat.mod_lt _ (by decide)) rfl bad ?_
  walk_at "wp"
  ·exact (by decide:5<=big)
  ·exact (by decide:6<=big)
  unfold wp
  rw [Tz]
  rw [show ([48,49,50,51,52,53,54,55]:Txt).getD (bad / 16) 0=KX.getD (bad / 16) 0 from (by decide:∀ j<8,([48,49,50,51,52,53,54,55]:Txt).getD j 0=KX.getD j 0) _ b8,<- hs]
  exact KtI (wpB (wpSet (wpR ⟨rfl,(B.set 13 _ |> At.mk _ rfl)⟩)))
 have hh:us[0]? = some [m]:=by rw [hus];rfl
 have hm:EK ((us.getD 0 []).getD 0 0) bad=(if m=39 then Js else HW)++AY [bad]:=by rw [hus];rfl
 have wl:((if m=39 then Js else HW)++AY [bad]).length<=30:=by
  rw [length_append]
  refine aQ (Nat.add_le_add (b:=24) ?_ rl) (by decide)
  split <;> decide
 refine wpA st2 [some (.lst i),some (.int way),some (.int n),some (.int bad),some (.str W),some (.str ((if m=39 then Js else HW)++AY [bad])),k,g,p,none,some (.lst u),some (.int ((q+1:Nat):Int)),some (.lst li),some (.str (AY [bad]))] ?_ λL B=>?_
 ·refine wpB (wpB (wpB ?_))
  walk_at "wp"
  refine Hs (j:=0) rfl hu2 (E9 (by rw [lm];exact la [_,_] [([2,3,0],[4])] ([1,3,0],[4]) rfl (Mi.lcC (la [_,_] [([2,3,0],[4])] ([3],[4]) rfl q1)))) (by rw [getElem?_map,hh];rfl) ?_
  walk_at "wp"
  have fin:∀ x:Txt,x=(if m=39 then Js else HW)->wp (ae (PV.str x)) ⟨L,st2⟩ (Kt (λa=>ac (af 13) λb=>Aj .Add a b) (Kt (λa=>ac (ah 5 a) λU=>ae PFlow.next) (λf s'=>f=PFlow.next/\At st2 [some (.lst i),some (.int way),some (.int n),some (.int bad),some (.str W),some (.str ((if m=39 then Js else HW)++AY [bad])),k,g,p,none,some (.lst u),some (.int ((q+1:Nat):Int)),some (.lst li),some (.str (AY [bad]))] s') λU U=>False) λU U=>False) λU U=>False:=λx hx=>by
   subst hx
   walk_at "wp"
   ·exact aQ wl (by decide)
   exact ⟨rfl,(B.set 5 _ |> At.mk _ rfl)⟩
  by_cases h39:m=39
  ·subst h39
   exact fin _ rfl
  ·rw [if_neg λz=>h39 (List.cons.inj (eq_of_beq z)).1]
   exact fin _ (by rw [if_neg h39];rfl)
 have lX1:lineOf (X++[bad]) X.length<10 ^ 10:=bx lo (by decide)
 have d1:(BA (lineOf (X++[bad]) X.length:Nat)).length<=10:=Dh lX1
 have d2:(BA (((DV (X++[bad]) X.length).length:Nat)+1:Int)).length<=10:=Dh (n:=(DV (X++[bad]) X.length).length+1) (bx (bA ll) (by decide))
 have sm:((splitT 10 X).map PV.str).length=lineOf (X++[bad]) X.length:=by rw [length_map,ln]
 refine wpA st2 [some (.lst i),some (.int way),some (.int n),some (.int bad),some (.str W),some (.str (Gm X us bad)),k,g,p,none,some (.lst u),some (.int ((q+1:Nat):Int)),none,none] ?_ λL B=>?_
 ·walk_at "wp"
  rw [Ea g12,sm]
  refine ⟨aQ lo (by decide),?_⟩
  walk_at "wp"
  ·exact AC (bx lo (by decide))
  ·exact Df (show _<=10 by decide) d1 (by decide)
  ·exact Df (BD (show _<=10 by decide) d1) (show _<=9 by decide) (by decide)
  refine Hs rfl g12 (by rw [sm,em];exact HB mm) (by rw [getElem?_map,hl];rfl) ?_
  walk_at "wp"
  ·exact aQ ll (by decide)
  ·exact AC (i:=((DV (X++[bad]) X.length).length+1:Nat)) (bx (bA ll) (by decide))
  ·exact Df (BD (BD (show _<=10 by decide) d1) (show _<=9 by decide)) d2 (by decide)
  ·exact Df (BD (BD (BD (show _<=10 by decide) d1) (show _<=9 by decide)) d2) (show _<=1 by decide) (by decide)
  ·exact Df wl (BD (BD (BD (BD (show _<=10 by decide) d1) (show _<=9 by decide)) d2) (show _<=1 by decide)) (by decide)
  have e:(if m=39 then Js else HW)++AY [bad]++([32,40,97,116,32,108,105,110,101,32]++BA (lineOf (X++[bad]) X.length:Nat)++[44,32,99,111,108,117,109,110,32]++BA (((DV (X++[bad]) X.length).length:Nat)+1:Int)++[41])=Gm X us bad:=by
   unfold Gm C4 Dv
   rw [hm,if_neg (Nat.not_le.mpr pX),<- lc]
   unfold Rj Jq
   simp only [append_assoc,cons_append,nil_append]
  rw [e]
  exact ⟨rfl,((B.set 5 _).drop 12).drop 13 |> At.mk _ rfl⟩
 walk_at "wp"
 have tl:(us.take (q+1)).length<=100:=by rw [length_take];exact aQ (Nat.min_le_right ..) ul
 have dl:(us.drop (q+1)).length<=100:=by rw [length_drop];exact aQ (Nat.sub_le ..) ul
 refine RM (t:=(us.take (q+1)).map .str) hu2 (by rw [lm];exact ub _ ul) ((ND (by rw [lm];exact q1)).trans List.map_take.symm) (by rw [length_map];exact ub _ tl) ?_
 walk_at "wp"
 refine Ju (c:=bad) rfl hb.sc ?_
 walk_at "wp"
 ·exact (by decide:1<=big)
 refine Cg (AX last_new) last_new (by rw [length_append,length_map];exact aQ (bA tl) (by decide)) ?_
 walk_at "wp"
 refine RM (t:=(us.drop (q+1)).map .str) (AX (AX (AX hu2))) (by rw [lm];exact ub _ ul) (Pf.trans List.map_drop.symm) (by rw [length_map];exact ub _ dl) ?_
 walk_at "wp"
 refine Cg (AX last_new) last_new (by rw [length_append,length_append,length_map,length_map];exact aQ (Nat.add_le_add (bA tl) dl) (by decide)) ?_
 walk_at "wp"
 have e:(us.take (q+1)).map PV.str++[.str [bad]]++(us.drop (q+1)).map .str=(us.take (q+1)++[bad]::us.drop (q+1)).map .str:=by simp
 refine ⟨rfl,.mk _ _ (us.take (q+1)) (us.drop (q+1)) (take_append_drop ..).symm (λz=>?_) (λz=>?_) (p2.trans ((((((Bx _).trans (Bx _)).trans (Bx _)).trans (Bx _)).trans (Bx _)))) (last_new.trans (congrArg some e)) (by rw [hX];exact (B.set 10 _).drop 11 |> At.mk _ rfl)⟩
 ·rw [hus] at z;cases z
 ·have:=congrArg length z
  rw [length_drop] at this
  exact absurd this (by show ¬ _=0;exact Nat.ne_of_gt (la [_,_,_,_] [([2,3,0],[4]),([6],[8,2,3,0,0]),([4,3,0],[6])] ([3],[8]) rfl hq (Mi.lcS _ _) (Mi.lcC (la [_,_,_] [([2,4,3,0,0],[6])] ([3],[6]) rfl (Mi.lcC (la [_,_] [([2,3,0],[4])] ([2,3,0],[4]) rfl q1))))))
theorem HC {x t:Txt}{s:PS}{Q:PV->PS->Prop}(e:slc x (some (-1)) none=t)(l:x.length<=big)(h:Q (.str t) s):wp (AT (some (-1)) none (.str x)) s Q E:=KM e (e▸aQ GA l) h
theorem JC {v:Nat}{vs:List Txt}{kk gg pp:Option PV}{P:PS->Prop}(hl:st[v]? = some (vs.map .str))(hv:vs.flatten.length<=12500000)(hw:(W++vs.flatten).length<=12500000)(B:Loc (tFd i way n bad W D kk gg pp (some (.lst v))) L)(h:∀ s,At st (tFd i way n bad (W++vs.flatten) D none none none none) s->P s) :
  wp (ac (af 4) λa=>ac ((ac (ae (.str [])) λb=>ak (Bo b) (ac (ag [af 10]) (EZ b)))) λb=>ac (BG .Add a b) λc=>ac (ah 4 c) λU=>ae PFlow.next) ⟨L,st⟩ (λfl s'=>(fl=PFlow.next\/fl=PFlow.cont)/\P s') E:=by
 walk_at "wp"
 rw [GB hl]
 refine ⟨A3 hv,?_⟩
 walk_at "wp"
 ·exact A3 hw
 exact ⟨.inl rfl,h _ (((((B.set 4 _).drop 6).drop 7).drop 8).drop 10 |> At.mk _ rfl)⟩
theorem Pg {x y:Txt}{s:PS}{Q:PV->PS->Prop}(h:Q (.bool (!(x==y))) s):wp (Au .NotEq (.str x) (.str y)) s Q E:=h
theorem Wi {a b:Int}:(a==b)=decide (a=b):=by
 by_cases q:a=b
 ·rw [q,decide_eq_true rfl,beq_self_eq_true]
 ·rw [decide_eq_false q];exact bv.mpr q
theorem RN (hb:BadOk bad)(hi:st[i]? = some l)(hk:l[k]? = some (.lst j))(k6:k<=12500000)(hj:st[j]? = some [.str g,.str t])(g7:g.length<=7)(ge:g.getLast?≠some 58)(tsc:∀ c∈t,Av c)(t6:t.length<=6)(hW:W.length+71<=12500000)(B:Loc (tFd i way n bad W D (some (.int k)) none none none) L) :
  wp (AR Kx rec) ⟨L,st⟩ (λfl s'=>(fl = .next\/fl = .cont)/\TxtR st i way n bad W D g t s') λU U=>False:=by
 have Wg:(W++g).length<=12500000:=by rw [length_append];exact la [_,_] [([2],[15]),([4,143,0],[25000001])] ([4,2,0],[25000001]) rfl g7 hW
 have g7b:g.length<=big:=aQ g7 (by decide)
 have eg:=JB ge
 unfold AR
 refine NI hi hk k6 hj (A3 Wg) B λL B=>?_
 refine Bl (AK (c:=false) ?_ (λh=>(by cases h)) λU=>wpR (KnI ?_))
 ·walk_at "wp"
  refine HC rfl g7b ?_
  walk_at "wp"
  exact ⟨eg,rfl⟩
 refine wpN (λs=>∃ st' u us,st <+: st'/\st'[u]? = some (us.map .str)/\LineOf t us/\At st' (tFd i way n bad (W++g) D (some (.int k)) (some (.str g)) (some (.str t)) (some (.lst u))) s) ?_ ?_
 ·walk_at "wp"
  refine Jl (by rw [AC (i:=((k:Int)+1)) (by lia),Bool.or_true]) ?_
  walk_at "wp"
  refine Hy (aQ t6 (by decide)) tsc λst' u us p hu lo U=>?_
  walk_at "wp"
  exact ⟨rfl,st',u,us,p,hu,lo,(B.set 10 _ |> At.mk _ rfl)⟩
 clear B
 rintro _ ⟨st',u,us,p,hu,lo,L,rfl,B⟩
 obtain ⟨ul,_,m,ur,hus⟩:=MG lo
 have uf:=DU lo
 refine Bl (AK (c:=true) ?_ (λU=>?_) (λh=>(by cases h)))
 ·walk_at "wp"
  refine HC rfl g7b ?_
  refine KtI (wpB (wpR (KtI (wpB (Pg (wpTb ?_))))))
  exact ⟨by rw [eg];rfl,rfl⟩
 refine Bl (AK (c:=decide (n=0)) (by walk_at "wp";exact ⟨Wi,rfl⟩) (λh0=>?_) λh0=>?_)
 ·have h0:=aX h0
  have u1:ur≠[]:=by
   intro z
   rw [hus,z] at ul
   have:1=t.length+2:=ul
   exact (Nat.not_succ_le_zero _ (la [_] [([2,5,0],[3])] ([3],[1]) rfl (aS this.symm)))
  refine wp_mono (MK hb hus u1 (by rw [ul];exact la [_] [([2],[13])] ([2,5,0],[201]) rfl t6) (by lia) Wg hu B) (λf s' z=>?_) λU U z=>z.elim
  obtain ⟨rfl,st2,v,u1,u2,e,n1,n2,p2,hv,L,rfl,B⟩:=z
  refine KnI ?_
  have vf:(u1++[bad]::u2).flatten=u1.flatten++bad::u2.flatten:=by rw [flatten_append,flatten_cons];rfl
  have fl:(u1++[bad]::u2).flatten.length<=63:=by
   rw [vf,length_append,length_cons]
   rw [e,flatten_append,length_append] at uf
   lia
  refine wpB (wpL B rfl (KtI (wpB (wpR (KtI (wpB (wpgSI (KtI (wpB (wpSet (wpR (KnI (JC (P:=TxtR st i way n bad W D g t) hv (aQ fl (by decide)) (by rw [length_append,length_append];exact la [_,_,_] [([2],[15]),([4,143,0],[25000001]),([6],[127])] ([4,2,0,6,0],[25000001]) rfl g7 hW fl) (B.set 2 _) λs a=>?_)))))))))))))
  rw [vf,e] at a
  refine .bad st2 u1 u2 (p.trans p2) (e▸lo) n1 n2 h0 ?_
  rw [append_assoc,append_assoc] at a
  exact a
 ·have h0:=of_decide_eq_false h0
  refine wpR (KnI ?_)
  refine wpB (wpL B rfl (KtI (wpB (wpR (KtI (wpB (wpgSI (KtI (wpB (wpSet (wpR (KnI (JC (P:=TxtR st i way n bad W D g t) hu (by lia) (by rw [length_append,length_append];lia) (B.set 2 _) λs a=>.ok st' us p lo h0 ?_)))))))))))))
  rw [<- append_assoc]
  exact a
end
def JD (bad:Nat)(rec:M PFlow)(s:Rw):Prop:=∀ (loc:Nat->Option PV) (st:List (List PV)) (c:Nat) (ls:List PV) (way n:Int) (Q:PV->PS->Prop) (E:PX->PS->Prop),st[c]? = some ls->Bm st s clB ls ->
 (∀ st' j w d,st <+: st'->st'[j]? = some [.str (w++s.lg),.int (n - s.texts),.str d]->Fo bad s [] w d->(d=[]↔¬ (0<=n/\n<s.texts))->d.length<=100->Q (.lst j) ⟨loc,st'⟩)->wp (am rec [.lst c,.int way,.int n,.int bad]) ⟨loc,st⟩ Q E
section
variable {rec:M PFlow}{i j k c bad X:Nat}{way n:Int}{W D g t:Txt}{s:Rw}{l ls:List PV}{L:Nat->Option PV}{st:List (List PV)}{Q:PFlow->PS->Prop}{E:PX->PS->Prop}
inductive RowR (st:List (List PV))(i:Nat)(way n:Int)(bad:Nat)(W D g:Txt)(s:Rw)(x:PS):Prop
 | mk (st':List (List PV)) (us:List Txt) (ws d:Txt) (p:st <+: st') (fo:Fo bad s [] ws d) (hd:d=[]↔¬ (0<=n/\n<s.texts)) (dl:d.length<=100) (lo:LineOf (ws++s.lg) us) (ul:us.flatten.length<=6*(ws++s.lg).length+322) (a:At st' (tFd i way (n - s.texts) bad (W++(g++[58]++us.flatten)) (D++d) none none none none) x):RowR st i way n bad W D g s x
theorem VS {a b e:Nat}{u v w:PV}{Q:Unit->PS->Prop}(h:st[j]? = some [u,v,w])(k:Q () ⟨upd (upd (upd L a u) b v) e w,st⟩):wp (aC [ah a,ah b,ah e] (.lst j)) ⟨L,st⟩ Q E:=wpU h rfl (RC (wpSet (RC (wpSet (RC (wpSet (VO k)))))))
theorem RO (hb:BadOk bad)(ih:JD bad rec s)(hi:st[i]? = some l)(hk:l[k]? = some (.lst j))(k6:k<=12500000)(hj:st[j]? = some [.str (g++[58]),.lst c])(hc:st[c]? = some ls)(hs:Bm st s clB ls)(ok:s.Ok)(g7:g.length<=7)(dl:D.length<=100)(hX:∀ ws d,Fo bad s [] ws d->(ws++s.lg).length<=X)(hW:W.length+(8+(6*X+322))<=12500000)(B:Loc (tFd i way n bad W D (some (.int k)) none none none) L) :
  wp (AR Kx rec) ⟨L,st⟩ (λfl s'=>(fl = .next\/fl = .cont)/\RowR st i way n bad W D g s s') λU U=>False:=by
 have gl:(g++[58]).length<=8:=by rw [length_append];exact bA g7
 have Wg:(W++(g++[58])).length<=12500000:=by rw [length_append];lia
 have g8b:(g++[58]).length<=big:=aQ gl (by decide)
 have eg:=JA g
 unfold AR
 refine NI hi hk k6 hj (A3 Wg) B λL B=>?_
 refine wpN (λx=>∃ st' ws d L2,st <+: st'/\Fo bad s [] ws d/\(d=[]↔¬ (0<=n/\n<s.texts))/\d.length<=100/\x=⟨L2,st'⟩/\Loc (tFd i way (n - s.texts) bad (W++(g++[58])) (D++d) (some (.int k)) (some (.str (g++[58]))) (some (.str (ws++s.lg))) none) L2) ?_ ?_
 ·refine AK (c:=true) ?_ (λU=>?_) (λh=>(by cases h))
  ·walk_at "wp"
   refine HC eg g8b ?_
   walk_at "wp"
   exact ⟨rfl,rfl⟩
  ·refine Bl (wpB (wpB (wpSC (wpL B rfl (wpSC (wpB (wpL B rfl (KtI (wpB (wpR (KtI (Jl (by rw [show Ah 3=true from rfl,Bool.or_true]) (wpSC (wpL B rfl (wpSC (wpL B rfl (wpSN (KtI ?_))))))))))))))))))
   refine ih L st c ls (way*3) n _ _ hc hs λst' j' ws d p hj' fo hd d1=>?_
   refine KtI (wpB (VS hj' (wpR (KnI ?_))))
   have B:=(((B.set 8 (.str (ws++s.lg))).set 2 (.int (n - s.texts))).set 9 (.str d))
   walk_at "wp"
   ·exact Df dl d1 (by decide)
   exact ⟨rfl,st',ws,d,_,p,fo,hd,d1,rfl,(B.set 5 _).drop 9⟩
 clear B
 rintro _ ⟨st',ws,d,L,p,fo,hd,d1,rfl,B⟩
 have wl:=hX ws d fo
 refine wpN (λx=>∃ st2 u us,st <+: st2/\st2[u]? = some (us.map .str)/\LineOf (ws++s.lg) us/\us.flatten.length<=6*(ws++s.lg).length+322/\At st2 (tFd i way (n - s.texts) bad (W++(g++[58])) (D++d) (some (.int k)) (some (.str (g++[58]))) (some (.str (ws++s.lg))) (some (.lst u))) x) ?_ ?_
 ·walk_at "wp"
  refine Jl (by rw [AC (i:=((k:Int)+1)) (by lia),Bool.or_true]) ?_
  walk_at "wp"
  refine Hy (by lia) (Fo.sc hb.sc fo ok) λst2 u us p2 hu lo ul=>?_
  walk_at "wp"
  exact ⟨rfl,st2,u,us,p.trans p2,hu,lo,ul,(B.set 10 _ |> At.mk _ rfl)⟩
 clear B
 rintro _ ⟨st2,u,us,p2,hu,lo,ul,L,rfl,B⟩
 refine Bl (AK (c:=false) ?_ (λh=>(by cases h)) λU=>wpR (KnI ?_))
 ·walk_at "wp"
  refine HC eg g8b ?_
  refine KtI (wpB (wpR (KtI (wpB (Pg (wpTb ?_))))))
  exact ⟨rfl,rfl⟩
 have uX:us.flatten.length<=6*X+322:=aQ ul (by lia)
 refine JC (P:=RowR st i way n bad W D g s) hu (by lia) (by rw [length_append,length_append];lia) B λx a=>.mk st2 us ws d p2 fo hd d1 lo ul ?_
 rw [<- append_assoc]
 exact a
end
section
variable {loc:Nat->Option PV}{st:List (List PV)}{bad:Nat}
theorem K7 {X t:Txt}{us:List Txt}(hb:BadOk bad)(lo:LineOf t us)(hX:X.length<=12500000):(Gm X us bad).length<=100/\Gm X us bad≠[]:=by
 have rl:=hb.len
 have wl:(EK ((us.getD 0 []).getD 0 0) bad).length<=30:=by
  unfold EK
  rw [length_append]
  refine aQ (Nat.add_le_add (b:=24) ?_ rl) (by decide)
  split <;> decide
 have cl:=Ix (x:=X++[bad]) (p:=X.length) (bx hX (by decide))
 unfold Gm C4
 refine ⟨aQ (BD (BD (BD wl (show _<=5 by decide)) cl) (show _<=1 by decide)) (by decide),λe=>?_⟩
 have:=congrArg length e
 rw [length_append] at this
 exact absurd this (Nat.succ_ne_zero _)
theorem Rw.num_nodes (r:Rw):r.num<=r.nodes:=by
 induction r with
 | last g=>exact aR _
 | txt g t r ih=>exact bA ih
 | row g s r _ ih=>exact bA (aQ ih (Nat.le_add_left ..))
inductive FdI (bad dd i:Nat)(way n0:Int)(r:Rw)(l:List PV)(st:List (List PV))(k:Nat)(s:PS):Prop
 | mk (st':List (List PV)) (W D:Txt) (n:Int) (q:Rw) (p:st <+: st') (at_:Bm st' q clB (l.drop k)) (ok:q.Ok) (dp:q.dep<=dd) (lg:q.lg=r.lg) (sz:W.length+cst dd*(q.nodes+1)<=12500000) (dl:D.length<=100) (lf:n+r.texts=n0+q.texts) (tx:q.texts<=r.texts) (hs:D=[]↔¬ (0<=n0/\n<0))
  (cont:∀ w d,Fo bad q W w d->(D=[]\/d=[])->Fo bad r [] (W++w) (D++d)) (a:At st' (tFd i way n bad W D none none none none) s):FdI bad dd i way n0 r l st k s
theorem Ph {dd i k:Nat}{way n0:Int}{r:Rw}{l:List PV}{rec:M PFlow}{L:Nat->Option PV}(hb:BadOk bad)(IH:∀ s:Rw,s.dep<dd->s.Ok->cst (dd - 1)*(s.nodes+1)<=12500000->JD bad rec s)(hi:∀ st',st <+: st'->st'[i]? = some l)(ll:l.length<=12500000)(hk:k+1<l.length){st0:List (List PV)}(z:FdI bad dd i way n0 r l st k ⟨L,st0⟩) :
  wp (AR Kx rec) ⟨upd L 6 (.int k),st0⟩ (λfl s'=>(fl = .next\/fl = .cont)/\FdI bad dd i way n0 r l st (k+1) s') λU U=>False:=by
 obtain ⟨_,W,D,n,q,p,at_,ok,dp,lg,sz,dl,lf,tx,hs,cont,⟨_,e0,B⟩⟩:=z
 cases e0
 have B:=B.set 6 (.int k)
 have c71:=Jy dd
 have k6:k<=12500000:=aQ (br (Nat.lt_of_succ_lt hk)) ll
 have dk:∀ {v:PV} {l':List PV},l.drop k=v::l'->l[k]? = some v/\l.drop (k+1)=l':=λ{v l'} e=>⟨by
  have:(l.drop k)[0]? = some v:=by rw [e];rfl
  rwa [getElem?_drop,Nat.add_zero] at this,by rw [<- List.drop_drop,e];rfl⟩
 cases q with
 | last g=>
  have e:=congrArg length (show l.drop k=[.str g] from at_)
  rw [length_drop] at e
  have:l.length - k=1:=e
  lia
 | txt g t q=>
  obtain ⟨j,l',e,hj,at2⟩:=at_
  obtain ⟨hk1,hk2⟩:=dk e
  obtain ⟨⟨g1,g7⟩,ge,⟨tsc,t6⟩,ok2⟩:=ok
  have sz:W.length+cst dd*(q.nodes+1+1)<=12500000:=sz
  rw [Nat.mul_succ] at sz
  have lf:n+r.texts=n0+(q.texts+1:Nat):=lf
  have tx:q.texts+1<=r.texts:=tx
  have sz':∀ x:Txt,x.length<=63->(W++(g++x)).length+cst dd*(q.nodes+1)<=12500000:=λx hx=>by
   rw [length_append,length_append];exact la [_,_,_,_,_] [([143],[2]),([4],[15]),([6,8,2,0,0],[25000001]),([10],[127])] ([6,4,10,0,0,8,0],[25000001]) rfl c71 g7 sz hx
  refine wp_mono (RN hb (hi _ p) hk1 k6 hj g7 ge tsc t6 (by exact la [_,_,_] [([143],[2]),([4,6,2,0,0],[25000001])] ([4,143,0],[25000001]) rfl c71 sz) B) (λf x z=>⟨z.1,?_⟩) λU U z=>z
  rcases z.2 with ⟨st',us,p2,lo,hn,a⟩ | ⟨st',u1,u2,p2,lo,n1,n2,hn,a⟩
  ·refine .mk st' _ D (n - 1) q (p.trans p2) (hk2▸Bm.ext (.of p2) at2) ok2 dp lg (sz' _ (aQ (DU lo) (by lia))) dl (by lia) (by exact la [_,_] [([2,3,0],[4])] ([2],[4]) rfl tx) ?_ (λw d f h=>?_) a
   ·rw [hs];constructor <;> intro h1 h2 <;> exact h1 (by lia)
   ·have:=cont (g++us.flatten++w) d (.inl ⟨us,w,lo,f,rfl⟩) h
    rwa [<- append_assoc] at this
  ·have uf:=DU lo
   rw [flatten_append,length_append] at uf
   have D0:D=[]:=hs.mpr (by lia)
   obtain ⟨bl,bn⟩:=K7 hb (X:=W++(g++u1.flatten)) lo (by rw [length_append,length_append];lia)
   refine .mk st' _ _ (n - 1) q (p.trans p2) (hk2▸Bm.ext (.of p2) at2) ok2 dp lg (sz' _ (by rw [length_append,length_cons];lia)) bl (by lia) (by exact la [_,_] [([2,3,0],[4])] ([2],[4]) rfl tx) ?_ (λw d f h=>?_) a
   ·exact ⟨λz=>absurd z bn,λz=>absurd (by lia) z⟩
   ·obtain rfl:=h.resolve_left bn
    have:=cont (g++(u1.flatten++bad::u2.flatten)++w) _ (.inr ⟨u1,u2,w,lo,n1,n2,f,rfl,rfl⟩) (.inl D0)
    rw [D0] at this
    rw [append_nil]
    rwa [<- append_assoc] at this
 | row g s q=>
  obtain ⟨j,c,ls,l',e,hj,hc,hls,at2⟩:=at_
  obtain ⟨hk1,hk2⟩:=dk e
  obtain ⟨⟨g1,g7⟩,oks,ok2⟩:=ok
  have dp:max (s.dep+1) q.dep<=dd:=dp
  have dp1:=aQ (Nat.le_max_left ..) dp
  have dp2:=aQ (Nat.le_max_right ..) dp
  obtain ⟨e,rfl⟩:∃ e,dd=e+1:=⟨dd - 1,by exact bc (la [_,_] [([2],[4,3,0])] ([2],[4,3,0]) rfl (Mi.lcS _ _)) (la [_,_] [([2,3,0],[4])] ([2,3,0],[4]) rfl (Mi.lcC (la [_,_] [([2,3,0],[4])] ([3],[4]) rfl dp1)))⟩
  have sz:W.length+cst (e+1)*(s.nodes+q.nodes+1+1)<=12500000:=sz
  rw [show s.nodes+q.nodes+1+1=(s.nodes+1)+(q.nodes+1) by exact Nat.le_antisymm (la [_,_] [] ([2,4,0,3,0,3,0],[2,3,0,4,3,0,0]) rfl) (la [_,_] [] ([2,3,0,4,3,0,0],[2,4,0,3,0,3,0]) rfl),Nat.mul_add] at sz
  have lf:n+r.texts=n0+(s.texts+q.texts:Nat):=lf
  have tx:s.texts+q.texts<=r.texts:=tx
  have cr:=NG (n:=s.nodes) (e:=e) (aR _) (aR _)
  have hX:∀ ws d,Fo bad s [] ws d->(ws++s.lg).length<=cst e*(s.nodes+1):=λws d f=>f.len oks (Nat.le_of_succ_le_succ dp1)
  refine wp_mono (RO hb (IH s dp1 oks (by show cst e*_<=_;lia)) (hi _ p) hk1 k6 hj hc hls oks g7 dl hX (by lia) B) (λf x z=>⟨z.1,?_⟩) λU U z=>z
  obtain ⟨st',us,ws,d,p2,fo,hd,d1,lo,ul,a⟩:=z.2
  have wl:=hX ws d fo
  have dD:D=[]\/d=[]:=by
   by_cases q:D=[]
   ·exact .inl q
   ·refine .inr (hd.mpr λh=>q (hs.mpr λh2=>?_))
    lia
  refine .mk st' _ _ (n - s.texts) q (p.trans p2) (hk2▸Bm.ext (.of p2) at2) ok2 dp2 lg ?_ ?_ (by lia) (by exact la [_,_,_] [([2,4,0],[6])] ([4],[6]) rfl tx) ?_ (λw d2 f h=>?_) a
  ·rw [length_append,length_append,length_append]
   show W.length+(g.length+1+us.flatten.length)+_<=_
   lia
  ·rcases dD with h | h
   ·rw [h];exact d1
   ·rw [h,append_nil];exact dl
  ·rw [List.append_eq_nil_iff,hs,hd]
   constructor
   ·rintro ⟨h1,h2⟩ h3
    exact h1 ⟨h3.1,by lia⟩
   ·intro h
    exact ⟨λh1=>h ⟨h1.1,by lia⟩,λh1=>h ⟨by lia,by lia⟩⟩
  ·have:=cont (g++[58]++us.flatten++w) (d++d2) ⟨ws,us,w,d,d2,fo,lo,ul,f,rfl,rfl,?_⟩ ?_
   ·rwa [<- append_assoc W,<- append_assoc D] at this
   ·exact h.imp_left λh=>(List.append_eq_nil_iff.mp h).2
   ·rcases h with h | h
    ·exact .inl (List.append_eq_nil_iff.mp h).1
    ·rw [h,append_nil];exact dD
end
section
variable {bad:Nat}
theorem VT (hb:BadOk bad):∀ (d:Nat) (r:Rw),r.dep<d->r.Ok->cst (d - 1)*(r.nodes+1)<=12500000->JD bad (BC Kx d) r:=by
 intro d
 induction d with
 | zero=>exact λr h=>absurd h (bw _)
 | succ d ih=>
  intro r hd ok sz loc st c ls way n Q E hc hls hQ
  have sz:cst d*(r.nodes+1)<=12500000:=sz
  have c71:=Jy d
  have ll:=hls.len
  have nn:=r.num_nodes
  have l6:ls.length<=12500000:=by
   have:=Nat.mul_le_mul_right (r.nodes+1) c71
   lia
  have hi:∀ st',st <+: st'->st'[c]? = some ls:=λst' p=>Bs p hc
  refine BR 10 λL B=>?_
  show wp (B4 Kx (BC Kx d)) _ _ _
  unfold B4
  refine wpA st [some (.lst c),some (.int way),some (.int n),some (.int bad),some (.str []),none,none,none,none,none,none,none,none,none] (by walk_at "wp";exact ⟨rfl,(B.set 4 _ |> At.mk _ rfl)⟩) λL B=>?_
  refine wpA st (tFd c way n bad [] [] none none none none) (by walk_at "wp";exact ⟨rfl,(B.set 5 _ |> At.mk _ rfl)⟩) λL B=>?_
  refine wpN (FdI bad d c way n r ls st r.num) ?_ ?_
  ·walk_at "wp"
   rw [Ea hc,ll]
   refine ⟨aQ (aS ll.symm) (A3 l6),?_⟩
   walk_at "wp"
   rw [show ((r.num+1:Nat):Int) - 1=(r.num:Nat) by lia,Hm (by lia)]
   refine KtI (NE (P:=FdI bad d c way n r ls st) (n:=r.num) (λk=>.int k) (.mk st [] [] n r (prefix_refl _) hls ok (Nat.le_of_lt_succ hd) rfl (by show 0+_<=_;exact la [_] [([2],[25000001])] ([1,2,0],[25000001]) rfl sz) (aP _) rfl (aR _) ⟨λU h=>by lia,λU=>rfl⟩ (λw d f U=>f) (.mk _ rfl B)) (by have:=Cs;lia) (λk s U lt=>Jm lt) (λs U=>Jn) (λk L st2 z lt=>Ph hb ih hi l6 (by exact la [_,_,_] [([2,3,0],[4]),([6,3,0],[2])] ([6,3,0,3,0],[4]) rfl (aS ll.symm) lt) z) λU z=>z)
  clear B
  rintro _ ⟨st',W,D,n',q,p,at_,ok',dp,lg,sz',dl,lf,tx,hs,cont,⟨L,rfl,B⟩⟩
  have e1:q.num+1=1:=by
   have:=Bm.len at_
   rw [length_drop,ll] at this
   exact bc (la [_,_,_] [([2,3,0],[4]),([4,6,0],[6,3,0])] ([2,3,0],[3]) rfl (aS this.symm) (Mi.lcC (la [_] [] ([2],[2,3,0]) rfl))) (la [_] [] ([3],[2,3,0]) rfl)
  cases q with
  | txt=>cases e1
  | row=>cases e1
  | last g=>
   have lf:n'+r.texts=n+(0:Nat):=lf
   have gl:g=r.lg:=lg
   have g7:g.length<=7:=ok'.2
   have F:=cont [] [] ⟨rfl,rfl⟩ (.inr rfl)
   rw [append_nil,append_nil] at F
   have hg:ls[r.num]? = some (.str g):=by
    have:(ls.drop r.num)[0]? = some (.str g):=by rw [show ls.drop r.num=[.str g] from at_];rfl
    rwa [getElem?_drop,Nat.add_zero] at this
   have sz'':W.length+cst d*1<=12500000:=sz'
   walk_at "wp"
   refine Hs (j:=r.num) rfl (hi _ p) (by rw [ll];exact HB _) hg ?_
   walk_at "wp"
   ·exact Df (show W.length<=12500000 by lia) g7 (by decide)
   ·exact (by decide:3<=big)
   refine hQ _ _ W D (p.trans (Bx _)) ?_ F ?_ dl
   ·rw [last_new,gl,show n - r.texts=n' by lia]
   ·rw [hs]
    constructor <;> rintro h1 ⟨h2,h3⟩ <;> exact h1 ⟨h2,by lia⟩
end
section
variable {p:Nat}{x:Txt}{loc:Nat->Option PV}{st:List (List PV)}{Q:PV->PS->Prop}{E:PX->PS->Prop}
theorem ML {ts:List Txt}{cs rest:Txt}(hx:x.length<=12500000)(hK:x.length+1<Kx)(u:Units cs ts)(h:x.drop p=34::(ts.flatten++34::rest))(hQ:Q (.tup [.int ((p+(ts.flatten.length+2):Nat):Int),.str cs]) ⟨loc,st⟩):wp (am (Ag Kx) [.str x,.int p]) ⟨loc,st⟩ Q E:=by
 have h1:x.drop (p+1)=ts.flatten++34::rest:=AW (y:=[34]) h
 refine Ek hx (BE h) hK (ID hx u h (.quote (Br (AW h1)))) ?_
 dsimp only
 rw [show p+1+ts.flatten.length+1=p+(ts.flatten.length+2) by exact Nat.le_antisymm (la [_,_] [] ([2,3,0,4,0,3,0],[2,4,5,0,0]) rfl) (la [_,_] [] ([2,4,5,0,0],[2,3,0,4,0,3,0]) rfl)]
 exact hQ
theorem RP {ts:List Txt}{cs rest:Txt}{c:Nat}(hx:x.length<=12500000)(hK:x.length+1<Kx)(u:Units cs ts)(h:x.drop p=34::(ts.flatten++c::rest))(h1:A1 0 c=true)(h2:c≠34)(h3:c≠92)(h5:(AY [c]).length<=100)
  (hE:E (.toml (C4 x (p+1+ts.flatten.length) (HW++AY [c]))) ⟨loc,st⟩):wp (am (Ag Kx) [.str x,.int p]) ⟨loc,st⟩ Q E:=by
 have q1:x.drop (p+1)=ts.flatten++c::rest:=AW (y:=[34]) h
 exact Ek hx (BE h) hK (ID hx u h (.bad (Br (AW q1)) h2 h3 h1 h5)) hE
theorem MM {y rest:Txt}(hx:x.length<=12500000)(h:x.drop p=39::(y++39::rest))(hy:∀ c∈y,Tw c)(hQ:Q (.tup [.int ((p+(y.length+2):Nat):Int),.str y]) ⟨loc,st⟩):wp (am (Ap Kx) [.str x,.int p]) ⟨loc,st⟩ Q E:=by
 have h1:x.drop (p+1)=y++39::rest:=AW (y:=[39]) h
 have lt:=BE h
 have at39:x[p+1+y.length]? = some 39:=Br (AW h1)
 refine KR hx λL=>MB hx (i:=p+1+y.length) (by exact la [_,_] [] ([2,3,0],[2,3,0,4,0]) rfl) at39 (λk k1 k2 e=>(hy 39 (K0 h1 k1 k2 e)).2 rfl) (λk k1 k2 c e=>(hy c (K0 h1 k1 k2 e)).legal) ⟨_,rfl,rfl,?_⟩
 rw [U8 h1 (by exact la [_,_] [([2,3,0],[4])] ([2,3,0],[4]) rfl lt) rfl]
 rw [show p+1+y.length+1=p+(y.length+2) by exact Nat.le_antisymm (la [_,_] [] ([2,3,0,4,0,3,0],[2,4,5,0,0]) rfl) (la [_,_] [] ([2,4,5,0,0],[2,3,0,4,0,3,0]) rfl)]
 exact hQ
theorem RQ {b:Nat}{y z:Txt}(hx:x.length<=12500000)(hK:x.length<Kx)(h:x.drop p=39::(y++b::z))(hy:∀ c∈y,Tw c)(hb:legal b=false)(hb9:b≠39)(hr:(AY [b]).length<=100)(hz:39∈z)
  (hE:E (.toml (C4 x (p+1+y.length) (Js++AY [b]))) ⟨loc,st⟩):wp (am (Ap Kx) [.str x,.int p]) ⟨loc,st⟩ Q E:=by
 obtain ⟨z1,z2,rfl,n1⟩:=RB hz
 have lt:=BE h
 have h1:x.drop (p+1)=y++b::(z1++39::z2):=AW (y:=[39]) h
 have h2:x.drop (p+1+y.length)=b::(z1++39::z2):=AW h1
 have h3:x.drop (p+1+y.length+1)=z1++39::z2:=AW (y:=[b]) h2
 have h4:x.drop (p+1+y.length+1+z1.length)=39::z2:=AW h3
 have l2:=BE h2
 have l4:=BE h4
 refine KR hx λL=>Rk hx (i:=p+1+y.length+1+z1.length) (j:=p+1+y.length) (b:=b) (by lia) (by exact la [_,_,_] [] ([2,3,0],[2,3,0,4,0,3,0,6,0]) rfl) (Br h4) (λi i1 i2 e=>?_) (by exact la [_,_] [] ([2,3,0],[2,3,0,4,0]) rfl) (by exact la [_,_,_] [] ([2,3,0,4,0,3,0],[2,3,0,4,0,3,0,6,0]) rfl) (Br h2) hb (λi i1 i2 c e=>(hy c (K0 h1 i1 i2 e)).legal) hr hE
 by_cases q:i<p+1+y.length
 ·exact (hy 39 (K0 h1 i1 q e)).2 rfl
 ·by_cases q2:i=p+1+y.length
  ·subst q2;rw [Br h2] at e;exact hb9 (aT e)
  ·exact n1 (K0 h3 (by lia) i2 e)
end
section
variable {pos:Nat}{src rest y:Txt}{ts:List Txt}{st:List (List PV)}
abbrev DW (K q:Nat):M PFlow:=if q=39 then Ap K else Ag K
theorem NJ (hs:src.length<=12500000)(lu:LineOf y ts)(h:src.drop pos=ts.flatten++rest) :
  ∃ q,(q=39\/q=34)/\src[pos]? = some q/\∀ (L:Nat->Option PV) (Q':PV->PS->Prop) (E':PX->PS->Prop),Q' (.tup [.int ((pos+ts.flatten.length:Nat):Int),.str y]) ⟨L,st⟩->wp (am (DW Kx q) [.str src,.int pos]) ⟨L,st⟩ Q' E':=by
 have hK:src.length+1<Kx:=bx (bA hs) (aY (by decide) Cs)
 cases lu with
 | lit hl=>
  rw [DS] at h ⊢
  have h':src.drop pos=39::(y++39::rest):=by rw [h];simp
  refine ⟨39,.inl rfl,Br h',λL Q' E' hQ=>?_⟩
  rw [show DW Kx 39=Ap Kx from if_pos rfl]
  refine MM hs h' hl ?_
  rw [show y.length+2=(39::(y++[39])).length by simp]
  exact hQ
 | @bas tt u=>
  rw [DT] at h ⊢
  have h':src.drop pos=34::(tt.flatten++34::rest):=by rw [h];simp
  refine ⟨34,.inr rfl,Br h',λL Q' E' hQ=>?_⟩
  rw [show DW Kx 34=Ag Kx from if_neg (by decide)]
  refine ML hs hK u h' ?_
  rw [show tt.flatten.length+2=(34::(tt.flatten++[34])).length by simp]
  exact hQ
theorem TA {X r m:Txt}{c:Nat}:C4 (X++c::r) X.length m=C4 (X++[c]) X.length m:=by
 have e:∀ r:Txt,posns 10 (X++c::r) (min X.length (X++c::r).length)=posns 10 X X.length:=λr=>by
  rw [Nat.min_eq_left (by rw [length_append];exact Nat.le_add_right ..),Jv (Nat.le_refl _)]
 have l:∀ r:Txt,¬ (X++c::r).length<=X.length:=λr=>by rw [length_append,length_cons];exact Nat.not_le.mpr (la [_,_] [] ([2,3,0],[2,4,3,0,0]) rfl)
 unfold C4 Dv lineOf CX
 rw [if_neg (l r),if_neg (l []),e r,e []]
theorem RS {bad:Nat}{u1 u2:List Txt}{X:Txt}(hs:src.length<=12500000)(hb:BadOk bad)(lu:LineOf y (u1++u2))(n1:u1≠[])(n2:u2≠[])(h:src=X++(u1.flatten++bad::(u2.flatten++rest))) :
  ∃ q,(q=39\/q=34)/\src[X.length]? = some q/\∀ (L:Nat->Option PV) (Q':PV->PS->Prop) (E':PX->PS->Prop),E' (.toml (Gm (X++u1.flatten) (u1++u2) bad)) ⟨L,st⟩->wp (am (DW Kx q) [.str src,.int X.length]) ⟨L,st⟩ Q' E':=by
 have hK:src.length+1<Kx:=bx (bA hs) (aY (by decide) Cs)
 have hd:src.drop X.length=u1.flatten++bad::(u2.flatten++rest):=by rw [h,drop_left]
 have hr:=aQ hb.len (by decide:6<=100)
 have nb:bad≠39/\bad≠34/\bad≠92:=by
  have:=hb.ctl
  refine ⟨λz=>?_,λz=>?_,λz=>?_⟩ <;> (rw [z] at this;exact absurd this (by decide))
 have ee:∀ m:Nat,C4 src (X++u1.flatten).length (EK m bad)=C4 (X++u1.flatten++[bad]) (X++u1.flatten).length (EK m bad):=λm=>by
  rw [h,<- append_assoc,TA]
 generalize hu:u1++u2=us at lu ⊢
 unfold Gm
 cases lu with
 | lit hl=>
  obtain ⟨m1,m2,rfl,rfl,em⟩:=ends hu.symm n1 n2
  have ey:=HX em
  have f1:([39]::m1:List Txt).flatten=39::m1.flatten:=rfl
  have h':src.drop X.length=39::(m1.flatten++bad::(m2.flatten++39::rest)):=by rw [hd];simp
  refine ⟨39,.inl rfl,Br h',λL Q' E' hE=>?_⟩
  rw [show DW Kx 39=Ap Kx from if_pos rfl]
  refine RQ hs (by lia) h' (λc m=>hl c (by rw [ey];exact mem_append_left _ m)) (by unfold legal;rw [hb.ctl];rfl) nb.1 hr (by simp) ?_
  have e:=ee 39
  rw [f1,length_append,length_cons] at e
  rw [show X.length+1+m1.flatten.length=X.length+(m1.flatten.length+1) by exact Nat.le_antisymm (la [_,_] [] ([2,3,0,4,0],[2,4,3,0,0]) rfl) (la [_,_] [] ([2,4,3,0,0],[2,3,0,4,0]) rfl)]
  rw [f1,length_append,length_cons] at hE
  exact e▸hE
 | @bas tt u=>
  obtain ⟨m1,m2,rfl,rfl,em⟩:=ends hu.symm n1 n2
  subst em
  obtain ⟨c1,c2,_,uu,_⟩:=u.split
  have f1:([34]::m1:List Txt).flatten=34::m1.flatten:=rfl
  have h':src.drop X.length=34::(m1.flatten++bad::(m2.flatten++34::rest)):=by rw [hd];simp
  refine ⟨34,.inr rfl,Br h',λL Q' E' hE=>?_⟩
  rw [show DW Kx 34=Ag Kx from if_neg (by decide)]
  refine RP hs hK uu h' hb.ctl nb.2.1 nb.2.2 hr ?_
  have e:=ee 34
  rw [f1,length_append,length_cons] at e
  rw [show X.length+1+m1.flatten.length=X.length+(m1.flatten.length+1) by exact Nat.le_antisymm (la [_,_] [] ([2,3,0,4,0],[2,4,3,0,0]) rfl) (la [_,_] [] ([2,4,3,0,0],[2,3,0,4,0]) rfl)]
  rw [f1,length_append,length_cons] at hE
  exact e▸hE
end
abbrev tUn (x:Txt)(a:Nat)(gap:Txt)(pos:Nat)(v:Option PV):Tb:=[some (.str x),some (.lst a),some (.str gap),some (.int pos),v]
section
variable {rec:M PFlow}{a pos f q:Nat}{x gap:Txt}{v:Option PV}{L:Nat->Option PV}{st:List (List PV)}{Q:PFlow->PS->Prop}{E:PX->PS->Prop}
theorem GC {c:Nat}(h:x[pos]? = some c):x.getD pos 0=c:=by rw [getD_eq_getElem?_getD,h];rfl
theorem JE {c d:Nat}:(!(([c]:Txt)==[d])) = !decide (c=d):=by
 by_cases h:c=d
 ·rw [h,decide_eq_true rfl,beq_self_eq_true]
 ·rw [decide_eq_false h,beq_eq_false_iff_ne.mpr λz=>h (List.cons.inj z).1]
theorem K8 {c:Nat}(hx:x.length<=12500000)(hc:x[pos]? = some c)(B:Loc (tUn x a gap pos v) L):wp (AG .And [(ac ((ac (af 0) λd=>ac (af 3) λe=>As false d e)) λd=>ac (ae (.str [39])) λe=>ac (Au .NotEq d e) tst),(ac ((ac (af 0) λd=>ac (af 3) λe=>As false d e)) λd=>ac (ae (.str [34])) λe=>ac (Au .NotEq d e) tst)]) ⟨L,st⟩ (λb s'=>b=decide (c≠39/\c≠34)/\s'=⟨L,st⟩) λU U=>False:=by
 have lt:pos<x.length:=(ba.mp hc).1
 have sp:Ah (pos:Int)=true:=AC (bk lt (aQ hx (by decide)))
 refine CL ?_
 walk_at "wp"
 refine Hk sp (E9 lt) ?_
 walk_at "wp"
 rw [GC hc]
 refine Pg (wpTb ?_)
 rw [JE]
 by_cases h:c=39
 ·rw [decide_eq_true h,decide_eq_false λz=>z.1 h]
  exact ⟨rfl,rfl⟩
 ·rw [decide_eq_false h,if_pos (by rfl)]
  refine CL ?_
  walk_at "wp"
  refine Hk sp (E9 lt) ?_
  walk_at "wp"
  rw [GC hc]
  refine Pg (wpTb ?_)
  rw [JE]
  by_cases h':c=34
  ·rw [decide_eq_true h',decide_eq_false λz=>z.2 h']
   exact ⟨rfl,rfl⟩
  ·rw [decide_eq_false h',decide_eq_true (show c≠39/\c≠34 from ⟨h,h'⟩)]
   exact ⟨rfl,rfl⟩
theorem TB {c:Nat}(hx:x.length<=12500000)(hg:gap.length<=12500000)(B:Loc (tUn x a gap pos v) L)(hc:x[pos]? = some c)(h39:c≠39)(h34:c≠34)(hQ:∀ L',Loc (tUn x a (gap++[c]) (pos+1) v) L'->Q .cont ⟨L',st⟩):wp (Ao Kx rec) ⟨L,st⟩ Q E:=by
 have lt:pos<x.length:=(ba.mp hc).1
 have sp:Ah (pos:Int)=true:=AC (bk lt (aQ hx (by decide)))
 unfold Ao
 refine Bl ?_
 refine AK (K8 hx hc B) (λU=>?_) (λh=>absurd ⟨h39,h34⟩ (of_decide_eq_false h))
 refine wpA st (tUn x a (gap++[c]) pos v) ?_ λL B=>?_
 ·walk_at "wp"
  refine Hk sp (E9 lt) ?_
  walk_at "wp"
  ·exact Df hg (show _<=1 from aR 1) (by decide)
  rw [GC hc]
  exact ⟨rfl,B.set 2 _ |> At.mk _ rfl⟩
 refine wpA st (tUn x a (gap++[c]) (pos+1) v) ?_ λL B=>?_
 ·walk_at "wp"
  exact ⟨rfl,B.set 3 _ |> At.mk _ rfl⟩
 exact hQ L B
theorem K9 {m r:M PFlow}(hx:x.length<=12500000)(B:Loc (tUn x a gap pos v) L)(hc:x[pos]? = some q)(hq:q=39\/q=34)
  (h:wp (am (DW Kx q) [.str x,.int pos]) ⟨L,st⟩ (Kt (λy=>ac (aC [ah 3,ah 4] y) λU=>ae .next) (Kn r Q E) E) E) :
  wp (aj (ac (AG .And [(ac ((ac (af 0) λa=>ac (af 3) λb=>As false a b)) λa=>ac (ae (.str [39])) λb=>ac (Au .NotEq a b) tst),(ac ((ac (af 0) λa=>ac (af 3) λb=>As false a b)) λa=>ac (ae (.str [34])) λb=>ac (Au .NotEq a b) tst)]) λc=>if c then m else (ae .next))
  (aj (ac ((ac ((ac (af 0) λa=>ac (af 3) λb=>As false a b)) λa=>ac (ae (.str [39])) λb=>ac (Au .Eq a b) tst)) λc=>if c then (ac ((ac (ag [af 0,af 3]) (am (Ap Kx)))) λa=>ac (aC [ah 3,ah 4] a) λU=>ae .next) else (ac ((ac (ag [af 0,af 3]) (am (Ag Kx)))) λa=>ac (aC [ah 3,ah 4] a) λU=>ae .next)) r)) ⟨L,st⟩ Q E:=by
 have lt:pos<x.length:=(ba.mp hc).1
 have sp:Ah (pos:Int)=true:=AC (bk lt (aQ hx (by decide)))
 refine Bl (AK (K8 hx hc B) (λh=>?_) λU=>wpR (KnI ?_))
 ·have h:=aX h
  exact (hq.elim h.1 h.2).elim
 refine Bl (AK (c:=decide (q=39)) ?_ (λh9=>?_) λh9=>?_)
 ·walk_at "wp"
  refine Hk sp (E9 lt) ?_
  walk_at "wp"
  rw [GC hc]
  exact ⟨by rcases hq with rfl | rfl <;> rfl,rfl⟩
 ·rw [show DW Kx q=Ap Kx from if_pos (of_decide_eq_true h9)] at h
  exact wpB (wpB (wpSC (wpL B rfl (wpSC (wpL B rfl (wpSN (KtI h)))))))
 ·rw [show DW Kx q=Ag Kx from if_neg (of_decide_eq_false h9)] at h
  exact wpB (wpB (wpSC (wpL B rfl (wpSC (wpL B rfl (wpSN (KtI h)))))))
theorem TC {t:Txt}(hx:x.length<=12500000)(B:Loc (tUn x a gap pos v) L)(hc:x[pos]? = some q)(hq:q=39\/q=34)
  (rd:∀ (Q':PV->PS->Prop) (E':PX->PS->Prop),E' (.toml t) ⟨L,st⟩->wp (am (DW Kx q) [.str x,.int pos]) ⟨L,st⟩ Q' E') (hE:E (.toml t) ⟨L,st⟩):wp (Ao Kx rec) ⟨L,st⟩ Q E:=by
 unfold Ao
 exact K9 hx B hc hq (rd _ _ hE)
theorem NK {pos':Nat}{y:Txt}{acc:List PV}(hx:x.length<=12500000)(hg:gap.length<=12500000)(B:Loc (tUn x a gap pos v) L)(hc:x[pos]? = some q)(hq:q=39\/q=34)(ha:st[a]? = some acc)(al:acc.length+1<=big)
  (rd:∀ (Q':PV->PS->Prop) (E':PX->PS->Prop),Q' (.tup [.int pos',.str y]) ⟨L,st⟩->wp (am (DW Kx q) [.str x,.int pos]) ⟨L,st⟩ Q' E')
  (hv:∀ (L:Nat->Option PV) (R:PV->PS->Prop),Loc (tUn x a gap pos' (some (.str y))) L->(∀ w st2,st <+: st2->(∀ L',Loc (tUn x a [] pos' none) L'->Q .next ⟨L',(st2++[[.str gap,w]]).set a (acc++[.lst st2.length])⟩)->R w ⟨L,st2⟩) ->
   wp (ac ((ac ((ac (af 2) λa=>ac (AM (some ((ac (ae (.int 1)) EY)))) λb=>ac (AM none) λd=>AT b d a)) λa=>ac (ae (.str [58])) λb=>ac (Au .Eq a b) tst)) λc=>if c then (ac (ag [af 4]) (am rec)) else af 4) ⟨L,st⟩ R E):wp (Ao Kx rec) ⟨L,st⟩ Q E:=by
 unfold Ao
 refine K9 hx B hc hq (rd _ _ ?_)
 refine KtI (wpB ?_)
 rw [Hq]
 have B:=(B.set 3 (.int pos')).set 4 (.str y)
 refine wpSet (wpSet (wpR (KnI (Bl (wpB (wpB (wpL B rfl (KtI (wpO rfl (wpB (wpSC (wpB (wpSC (wpL B rfl (wpSC ?_)))))))))))))))
 refine hv _ _ B λw st2 p hQ=>?_
 refine wpSN (KtI (wpNL (by decide:2<=big) (wpSN (KtI ?_))))
 have ha2:(st2++[[.str gap,w]])[a]? = some acc:=AX (Bs p ha)
 rw [Dj ha2]
 refine ⟨al,wpR (KnI (wpB (wpR (KtI (wpB (wpSet (wpR (hQ _ ?_))))))))⟩
 exact (B.set 2 (.str [])).drop 4
end
section
variable {rec:M PFlow}{a pos f:Nat}{x gap:Txt}{v:Option PV}{L:Nat->Option PV}{st:List (List PV)}{Q:PFlow->PS->Prop}{E:PX->PS->Prop}
abbrev HD (rec:M PFlow)(f:Nat):M PFlow:=az ((ac (af 3) λa=>ac ((ac (ag [af 0]) Cp)) λb=>ac (Au .Lt a b) tst)) (Ao Kx rec) f
theorem La (hx:x.length<=12500000)(B:Loc (tUn x a gap pos v) L):wp (ac (af 3) λc=>ac ((ac (ag [af 0]) Cp)) λd=>ac (Au .Lt c d) tst) ⟨L,st⟩ (λb s'=>b=decide (pos<x.length)/\s'=⟨L,st⟩) λU U=>False:=by
 walk_at "wp"
 ·exact A3 hx
 exact ⟨decide_eq_decide.mpr Int.ofNat_lt,rfl⟩
theorem TD (hx:x.length<=12500000)(B:Loc (tUn x a gap pos v) L)(h:x.length<=pos)(hQ:Q .next ⟨L,st⟩):wp (HD rec (f+1)) ⟨L,st⟩ Q E:=by
 show wp (ac _ λc:Bool=>if c then _ else ae .next) _ Q E
 refine AK (La hx B) (λz=>absurd (aX z) (Nat.not_lt.mpr h)) λU=>hQ
theorem Ff (hx:x.length<=12500000)(B:Loc (tUn x a gap pos v) L)(h:pos<x.length)
  (hb:wp (Ao Kx rec) ⟨L,st⟩ (λfl s'=>match fl with | .next=>wp (HD rec f) s' Q E | .cont=>wp (HD rec f) s' Q E | .brk=>Q .next s' | .ret v=>Q (.ret v) s') E):wp (HD rec (f+1)) ⟨L,st⟩ Q E:=by
 show wp (ac _ λc:Bool=>if c then ac (Ao Kx rec) (λfl=>match fl with
    | .next=>HD rec f
    | .cont=>HD rec f
    | .brk=>ae .next
    | .ret v=>ae (.ret v)) else ae .next) _ Q E
 refine AK (La hx B) (λU=>?_) λz=>absurd h (of_decide_eq_false z)
 rw [wp_bind]
 refine wp_mono hb (λfl s' z=>?_) λU U z=>z
 cases fl <;> exact z
theorem HE (hx:x.length<=12500000){g rest:Txt}{f:Nat}:∀ {pos:Nat} {gap:Txt} {L:Nat->Option PV},Loc (tUn x a gap pos v) L->x.drop pos=g++rest->(∀ c∈g,c≠39/\c≠34)->gap.length+g.length<=12500000 ->
  (∀ L',Loc (tUn x a (gap++g) (pos+g.length) v) L'->wp (HD rec f) ⟨L',st⟩ Q E)->wp (HD rec (f+g.length)) ⟨L,st⟩ Q E:=by
 induction g with
 | nil=>exact λB U U U k=>k _ (by rw [append_nil];exact B)
 | cons c g ih=>
  intro pos gap L B h hg ho k
  have hc:=hg c (mem_cons_self ..)
  rw [length_cons] at ho
  refine Ff (f:=f+g.length) hx B (BE h) (TB hx (aQ (bz ..) ho) B (Br h) hc.1 hc.2 λL' B'=>?_)
  refine ih B' (AW (y:=[c]) h) (λd m=>hg d (mem_cons_of_mem _ m)) (by rw [length_append,List.length_singleton];exact la [_,_] [([2,4,3,0,0],[25000001])] ([2,3,0,4,0],[25000001]) rfl ho) λL2 B2=>k L2 ?_
  rw [append_assoc,Nat.add_assoc,Nat.add_comm 1] at B2
  exact B2
end
def NM (bad:Nat)(rec:M PFlow)(s:Rw):Prop:=∀ (loc:Nat->Option PV) (st:List (List PV)) (w d:Txt) (Q:PV->PS->Prop) (E:PX->PS->Prop),Fo bad s [] w d->(w++s.lg).length<=12500000 ->
 (d=[]->∀ st' j l,st <+: st'->st'[j]? = some l->Bm st' s clB l->Q (.lst j) ⟨loc,st'⟩)->(d≠[]->∀ st',st <+: st'->E (.toml d) ⟨loc,st'⟩)->wp (am rec [.str (w++s.lg)]) ⟨loc,st⟩ Q E
theorem TE {c:Nat}{t:Txt}(u:UnitOf c t):1<=t.length:=by cases u <;> exact bA (aP _)
theorem GD {t:Txt}{us:List Txt}(h:LineOf t us):t.length+2<=us.flatten.length:=by
 cases h with
 | lit _=>rw [DS,length_cons,length_append];exact aR _
 | @bas ts u=>
  have:t.length<=ts.flatten.length:=by
   induction u with
   | nil=>exact aR _
   | cons hc u _ ih=>rw [flatten_cons,length_append,length_cons];have:=TE u;exact la [_,_,_] [([2],[4]),([3],[6])] ([2,3,0],[6,4,0]) rfl ih this
  rw [DT,length_cons,length_append]
  exact bA (bA this)
theorem Bm.close {st:List (List PV)}{r:Rw}:∀ {l:List PV},Bm st r opB l->Bm st r clB (l++[.str r.lg]):=by
 induction r with
 | last g=>rintro _ rfl;exact rfl
 | txt g t r ih=>rintro _ ⟨j,l',rfl,e,h⟩;exact ⟨j,_,rfl,e,ih h⟩
 | row g s r _ ih=>rintro _ ⟨j,i,ls,l',rfl,e,e2,k2,h⟩;exact ⟨j,i,ls,_,rfl,e,e2,k2,ih h⟩
theorem noS {acc:List PV}{j:Nat}(h:∀ t,PV.str t∉acc):∀ t,PV.str t∉acc++[.lst j]:=λt m=>(mem_append.mp m).elim (h t) λm=>by cases mem_singleton.mp m
theorem Lb {st0 st st2:List (List PV)}{a:Nat}{acc l:List PV}(p0:st0 <+: st)(h0:st0.length<=a)(ha:st[a]? = some acc)(hn:∀ t,PV.str t∉acc)(p:st <+: st2) :
  st0 <+: (st2++[l]).set a (acc++[.lst st2.length])/\Ext st ((st2++[l]).set a (acc++[.lst st2.length]))/\Ext st2 ((st2++[l]).set a (acc++[.lst st2.length]))/\((st2++[l]).set a (acc++[.lst st2.length]))[a]? = some (acc++[.lst st2.length])/\((st2++[l]).set a (acc++[.lst st2.length]))[st2.length]? = some l:=by
 have ha2:(st2++[l])[a]? = some acc:=AX (Bs p ha)
 have lt:=(ba.mp (Bs p ha)).1
 have e2:Ext st2 ((st2++[l]).set a (acc++[.lst st2.length])):=(Ext.of (Bx l)).trans (.set ha2 hn)
 refine ⟨NF (p0.trans (p.trans (Bx _))) h0,(Ext.of p).trans e2,e2,List.getElem?_set_self (ba.mp ha2).1,?_⟩
 rw [getElem?_set_ne (by lia)]
 exact last_new
theorem MN {f g:Nat}(h:g+1<=f):f=(f - g - 1+1)+g:=by
 rw [Nat.sub_add_cancel (Nat.le_sub_of_add_le (by rw [Nat.add_comm];exact h)),Nat.sub_add_cancel (Nat.le_of_succ_le h)]
theorem TF {bad dd a:Nat}{rec:M PFlow}{x:Txt}{st0:List (List PV)}{Q:PFlow->PS->Prop}{E:PX->PS->Prop}(hb:BadOk bad)(IH:∀ s:Rw,s.dep<dd->s.Ok->NM bad rec s)(hx:x.length<=12500000)(h0:st0.length<=a)(q:Rw) :
  ∀ (pre w d:Txt),Fo bad q pre w d->q.Ok->q.dep<=dd->x=pre++(w++q.lg)->∀ (f:Nat) (L:Nat->Option PV) (st:List (List PV)) (acc:List PV),(w++q.lg).length<f->st0 <+: st->st[a]? = some acc->(∀ t,PV.str t∉acc)->acc.length<=pre.length->Loc (tUn x a [] pre.length none) L ->
   (d=[]->∀ L' st2 items,st0 <+: st2->Ext st st2->st2[a]? = some (acc++items)->Bm st2 q opB items->Loc (tUn x a q.lg x.length none) L'->Q .next ⟨L',st2⟩)->(d≠[]->∀ L' st2,st0 <+: st2->E (.toml d) ⟨L',st2⟩)->wp (HD rec f) ⟨L,st⟩ Q E:=by
 induction q with
 | last g=>
  rintro pre w d ⟨rfl,rfl⟩ ok _ ex f L st acc hf p ha hn hl B hQ _
  have ex:x=pre++g:=ex
  have xl:=congrArg length ex
  rw [length_append] at xl
  have hf:g.length<f:=hf
  obtain ⟨f,rfl⟩:∃ f',f=(f'+1)+g.length:=⟨f - g.length - 1,MN (by lia)⟩
  refine HE hx B (rest:=[]) (by rw [ex,drop_left,append_nil]) (λc m=>(ok.1 c m).2) (by show 0+_<=_;exact la [_,_,_] [([2],[25000001]),([4,6,0],[2])] ([1,6,0],[25000001]) rfl hx (aS xl.symm)) λL' B'=>?_
  refine TD hx B' (by exact la [_,_,_] [([2],[4,6,0])] ([2],[4,6,0]) rfl (aS xl)) (hQ rfl L' st [] p (.of (prefix_refl _)) (by rw [append_nil];exact ha) rfl ?_)
  rw [<- xl] at B'
  exact B'
 | txt g t q ih=>
  intro pre w d h ok hd ex f L st acc hf p ha hn hl B hQ hE
  obtain ⟨⟨g1,g7⟩,ge,⟨tsc,t6⟩,ok2⟩:=ok
  have gm:∀ c∈g,c≠39/\c≠34:=λc m=>(g1 c m).2
  have eg:=JB ge
  have start:∀ (y z:Txt),0<y.length->w=g++y++z->(∀ f L',(y++(z++q.lg)).length<=f+1->(pre++g).length<x.length->x=pre++g++(y++(z++q.lg))->Loc (tUn x a g (pre++g).length none) L'->wp (HD rec (f+1)) ⟨L',st⟩ Q E)->wp (HD rec f) ⟨L,st⟩ Q E:=λy z hy ew k=>by
   have ex:x=pre++(g++(y++(z++q.lg))):=by rw [ex,ew];show pre++(_++q.lg)=_;simp only [append_assoc]
   have xl:=congrArg length ex
   have hf:(g++y++z++q.lg).length<f:=ew▸hf
   simp only [length_append] at hf xl
   obtain ⟨f,rfl⟩:∃ f',f=(f'+1)+g.length:=⟨f - g.length - 1,MN (by lia)⟩
   refine HE hx B (rest:=y++(z++q.lg)) (by rw [ex,drop_left]) gm (by show 0+_<=_;exact la [_] [([2],[15])] ([1,2,0],[25000001]) rfl g7) λL' B'=>?_
   rw [<- length_append] at B'
   exact k f L' (by simp only [length_append];exact la [_,_,_,_,_] [([2,4,0,6,0,8,0,3,0],[10,3,0,2,0])] ([4,6,8,0,0],[10,3,0]) rfl hf) (by rw [length_append];exact la [_,_,_,_,_,_] [([1,3,0],[2]),([4,6,2,8,10,0,0,0,0],[12])] ([4,6,0,3,0],[12]) rfl hy (aS xl.symm)) (by rw [append_assoc];exact ex) B'
  rcases h with ⟨us,w',lo,h',ew⟩ | ⟨u1,u2,w',lo,n1,n2,h',ew,rfl⟩
  ·have uge:=GD lo
   refine start us.flatten w' (by exact la [_,_] [([2,5,0],[4])] ([1,3,0],[4]) rfl uge) ew λf L' hf lt ex B=>?_
   obtain ⟨m,hq,hc,rd⟩:=NJ (st:=st) hx lo (show x.drop (pre++g).length=us.flatten++(w'++q.lg) by rw [ex,drop_left])
   have e3:pre++(g++us.flatten)=pre++g++us.flatten:=(append_assoc ..).symm
   refine Ff hx B lt (NK (pos':=(pre++g).length+us.flatten.length) (y:=t) (acc:=acc) hx (aQ g7 (by decide)) B hc hq ha ?_ (λQ' E' k=>rd L' Q' E' k) λL2 R B2 k=>?_)
   ·rw [length_append] at lt;exact aQ (show acc.length+1<=12500000 by exact la [_,_,_,_] [([2],[25000001]),([4],[6]),([6,8,0,3,0],[2])] ([4,3,0],[25000001]) rfl hx hl lt) (by decide)
   refine AK (c:=false) ?_ (λz=>(by cases z)) λU=>wpL B2 rfl (k _ st (prefix_refl _) λL3 B3=>?_)
   ·walk_at "wp"
    refine HC rfl (aQ g7 (by decide)) ?_
    walk_at "wp"
    exact ⟨eg,rfl⟩
   obtain ⟨r1,r2,r3,r4,r5⟩:=Lb (l:=[.str g,.str t]) p h0 ha hn (prefix_refl _)
   rw [<- length_append,<- e3] at B3
   rw [length_append] at hf
   refine ih (pre++(g++us.flatten)) w' d h' ok2 hd (by rw [ex,e3];simp only [append_assoc]) f L3 _ _ (by exact la [_,_,_,_] [([2,5,0],[4]),([4,6,0],[8,3,0])] ([6,3,0],[8]) rfl uge hf) r1 r4 (noS hn) ?_ B3 (λd0 L4 st4 items q1 q2 q3 q4 q5=>?_) hE
   ·rw [length_append,length_append,length_append,List.length_singleton];exact la [_,_,_,_,_] [([2],[4]),([6,5,0],[8])] ([2,3,0],[4,10,8,0,0]) rfl hl uge
   ·refine hQ d0 L4 st4 (.lst st.length::items) q1 (r2.trans q2) (by rw [q3,append_assoc];rfl) ⟨_,_,rfl,?_,q4⟩ q5
    exact q2 _ _ g r5 mem_cons_self
  ·obtain ⟨bl,bn⟩:=K7 (X:=pre++(g++u1.flatten)) hb lo (by
    have:=congrArg length ex
    rw [ew] at this
    simp only [length_append,length_cons] at this ⊢
    exact la [_,_,_,_,_,_,_] [([2],[25000001]),([4,6,8,10,3,0,0,0,12,0,14,0,0],[2])] ([4,6,8,0,0],[25000001]) rfl hx (aS this.symm))
   refine start (u1.flatten++bad::u2.flatten) w' (by rw [length_append];exact bB (bk (Nat.succ_pos _) (Nat.le_add_left ..))) ew λf L' hf lt ex B=>?_
   obtain ⟨m,hq,hc,rd⟩:=RS (st:=st) (rest:=w'++q.lg) (X:=pre++g) hx hb lo n1 n2 (by rw [ex];simp)
   rw [append_assoc] at rd
   exact Ff hx B lt (TC hx B hc hq (λQ' E' k=>rd L' Q' E' k) (hE bn _ _ p))
 | row g s q _ ih=>
  rintro pre w d ⟨ws,us,w',d1,d2,hs,lo,ul,fo,rfl,rfl,h12⟩ ok hd ex f L st acc hf p ha hn hl B hQ hE
  obtain ⟨⟨g1,g7⟩,oks,ok2⟩:=ok
  have hd:max (s.dep+1) q.dep<=dd:=hd
  have hds:s.dep<dd:=aQ (Nat.le_max_left ..) hd
  have hdq:=aQ (Nat.le_max_right ..) hd
  have gm:∀ c∈g++[58],c≠39/\c≠34:=λc m=>(mem_append.mp m).elim (λm=>(g1 c m).2) λm=>mem_singleton.mp m▸by decide
  have uge:=GD lo
  have gl:(g++[58]).length<=8:=by rw [length_append];exact bA g7
  have ex:x=pre++((g++[58])++(us.flatten++(w'++q.lg))):=by rw [ex];show pre++(_++q.lg)=_;simp only [append_assoc]
  have xl:=congrArg length ex
  have hf:((g++[58])++us.flatten++w'++q.lg).length<f:=hf
  rw [append_assoc ((g++[58])++us.flatten),append_assoc,length_append,length_append (as:=us.flatten)] at hf
  rw [length_append,length_append (as:=g++[58]),length_append (as:=us.flatten)] at xl
  obtain ⟨f,rfl⟩:∃ f',f=(f'+1)+(g++[58]).length:=⟨f - (g++[58]).length - 1,MN (by lia)⟩
  refine HE hx B (rest:=us.flatten++(w'++q.lg)) (by rw [ex,drop_left]) gm (by show 0+_<=_;exact la [_] [([2],[17])] ([1,2,0],[25000001]) rfl gl) λL' B'=>?_
  rw [<- length_append] at B'
  have e0:x=pre++(g++[58])++(us.flatten++(w'++q.lg)):=by rw [append_assoc];exact ex
  have lt:(pre++(g++[58])).length<x.length:=by rw [length_append];exact la [_,_,_,_,_,_] [([2,5,0],[4]),([6,8,4,10,0,0,0],[12])] ([6,8,0,3,0],[12]) rfl uge (aS xl.symm)
  obtain ⟨m,hq,hc,rd⟩:=NJ (st:=st) hx lo (show x.drop (pre++(g++[58])).length=us.flatten++(w'++q.lg) by rw [e0,drop_left])
  have e3:pre++(g++[58]++us.flatten)=pre++(g++[58])++us.flatten:=(append_assoc ..).symm
  refine Ff hx B' lt (NK (pos':=(pre++(g++[58])).length+us.flatten.length) (y:=ws++s.lg) (acc:=acc) hx (aQ gl (by decide)) B' hc hq ha ?_ (λQ' E' k=>rd L' Q' E' k) λL2 R B2 k=>?_)
  ·rw [length_append] at lt;exact aQ (show acc.length+1<=12500000 by exact la [_,_,_,_] [([2],[25000001]),([4],[6]),([6,8,0,3,0],[2])] ([4,3,0],[25000001]) rfl hx hl lt) (by decide)
  refine AK (c:=true) ?_ (λU=>?_) λz=>(by cases z)
  ·walk_at "wp"
   refine HC (JA g) (aQ gl (by decide)) ?_
   walk_at "wp"
   exact ⟨rfl,rfl⟩
  refine wpB (wpSC (wpL B2 rfl (wpSN (KtI ?_))))
  refine IH s hds oks L2 st ws d1 _ _ hs (by exact la [_,_,_,_,_,_] [([2],[25000001]),([4,5,0],[6]),([8,10,6,12,0,0,0],[2])] ([4],[25000001]) rfl hx uge (aS xl.symm)) (λd10 st2 j ls p2 hj hls=>k _ st2 p2 λL3 B3=>?_) λd1n st2 p2=>?_
  ·subst d10
   obtain ⟨r1,r2,r3,r4,r5⟩:=Lb (l:=[.str (g++[58]),.lst j]) p h0 ha hn p2
   rw [<- length_append,<- e3] at B3
   refine ih (pre++(g++[58]++us.flatten)) w' d2 fo ok2 hdq (by rw [ex,e3];simp only [append_assoc]) f L3 _ _ (by exact la [_,_,_,_,_] [([2,5,0],[4]),([6,4,8,0,0,3,0],[10,3,0,6,0])] ([8,3,0],[10]) rfl uge hf) r1 r4 (noS hn) ?_ B3 (λd0 L4 st4 items q1 q2 q3 q4 q5=>?_) hE
   ·rw [length_append,length_append,length_append (bs:=us.flatten),List.length_singleton];exact la [_,_,_,_,_] [([2],[4]),([6,5,0],[8])] ([2,3,0],[4,10,8,0,0]) rfl hl uge
   ·refine hQ d0 L4 st4 (.lst st2.length::items) q1 (r2.trans q2) (by rw [q3,append_assoc];rfl) ⟨st2.length,j,ls,items,rfl,?_,?_,Bm.ext (r3.trans q2) hls,q4⟩ q5
    ·exact q2 _ _ _ r5 mem_cons_self
    ·exact (r3.trans q2) _ _ _ hj (Bm.str hls)
  ·obtain rfl:=h12.resolve_left d1n
   rw [append_nil] at hE
   exact hE d1n _ _ (p.trans p2)
theorem Fo.num {bad:Nat}{r:Rw}:∀ {pre w d:Txt},Fo bad r pre w d->r.num<=w.length:=by
 have key:∀ {g x w:Txt} {n:Nat},1<=x.length->n<=w.length->n+1<=(g++x++w).length:=λ{g x w n} h1 h2=>by
  rw [length_append,length_append];exact la [_,_,_,_] [([3],[2]),([4],[6])] ([4,3,0],[8,2,0,6,0]) rfl h1 h2
 induction r with
 | last g=>exact λU=>aP _
 | txt g t r ih=>
  intro pre w d h
  rcases h with ⟨us,w',lo,h',rfl⟩ | ⟨u1,u2,w',lo,_,_,h',rfl,_⟩
  ·exact key (aQ (Nat.le_add_left ..) (GD lo)) (ih h')
  ·exact key (by rw [length_append];exact aQ (bA (aP _)) (Nat.le_add_left ..)) (ih h')
 | row g s r _ ih=>
  rintro pre w d ⟨ws,us,w',d1,d2,hs,lo,_,h',rfl,_⟩
  exact key (aQ (Nat.le_add_left ..) (GD lo)) (ih h')
theorem VU {bad:Nat}(hb:BadOk bad):∀ (d:Nat) (r:Rw),r.dep<d->r.Ok->NM bad (Bk Kx d) r:=by
 intro d
 induction d with
 | zero=>exact λr h=>absurd h (bw _)
 | succ d ih=>
  intro r hd ok loc st w e Q E fo hl hQ hE
  refine BR 4 λL B=>?_
  show wp (BH Kx (Bk Kx d)) _ _ _
  unfold BH
  refine wpA (st++[[]]) [some (.str (w++r.lg)),some (.lst st.length),none,none,none] (by walk_at "wp";exact (by decide:0<=big);exact ⟨rfl,(B.set 1 _ |> At.mk _ rfl)⟩) λL B=>?_
  refine wpA (st++[[]]) [some (.str (w++r.lg)),some (.lst st.length),some (.str []),none,none] (by walk_at "wp";exact ⟨rfl,(B.set 2 _ |> At.mk _ rfl)⟩) λL B=>?_
  refine wpA (st++[[]]) (tUn (w++r.lg) st.length [] (0:Nat) none) (by walk_at "wp";exact ⟨rfl,(B.set 3 _ |> At.mk _ rfl)⟩) λL B=>?_
  refine Bl (TF (st0:=st) hb ih hl (aR _) r [] w e fo ok (Nat.le_of_lt_succ hd) rfl Kx L (st++[[]]) [] (bx hl (aY (by decide) Cs)) (Bx _) last_new (λU m=>(by cases m)) (aR _) B (λe0 L2 st2 items p U h2 h3 B2=>?_) λen L2 st2 p=>hE en _ p)
  rw [nil_append] at h2
  have il:=h3.close.len
  have nl:r.num<=12500000:=aQ (Fo.num fo) (aQ (by rw [length_append];exact bz ..) hl)
  refine KnI (wpB (wpB (wpL B2 rfl (wpB (wpB (wpSC (wpL B2 rfl (wpSN (wpNL (by decide:1<=big) (Cg (AX h2) last_new (by rw [il];exact aQ (bA nl) (by decide)) (wpR ?_)))))))))))
  refine hQ e0 _ _ _ (p.trans ((Bx _).trans (Bx _))) last_new ?_
  exact Bm.ext (.of ((Bx _).trans (Bx _))) h3.close
def dRw (r:Rw):List PyData:=Rw.rec (motive:=λU=>List PyData) (λg=>[.str (txt g)]) (λg t U a=>.list [.str (txt g),.str (txt t)]::a) (λg U U b a=>.list [.str (txt (g++[58])),.list b]::a) r
def fz (r:Rw):Nat:=Rw.rec (motive:=λU=>Nat) (λU=>2) (λU U U a=>a+4) (λU U U b a=>a+b+5) r
theorem VV (r:Rw):2<=fz r:=by
 induction r with
 | last g=>exact aR _
 | txt g t r ih=>exact aQ ih (bz ..)
 | row g s r ihs ih=>exact aQ ih (aQ (bz ..) (bz ..))
theorem VW (r:Rw):fz r<=7*r.nodes+2:=by
 induction r with
 | last g=>exact aR _
 | txt g t r ih=>show fz r+4<=7*(r.nodes+1)+2;lia
 | row g s r ihs ih=>show fz r+fz s+5<=7*(s.nodes+r.nodes+1)+2;lia
theorem Lc {st:List (List PV)}{r:Rw}:∀ {l:List PV} {n:Nat},Bm st r clB l->fz r<=n->DA st n l=some (dRw r):=by
 induction r with
 | last g=>
  rintro _ n rfl h
  obtain ⟨m,rfl⟩:∃ m,n=m+2:=⟨n - 2,(Nat.sub_add_cancel h).symm⟩
  exact BV rfl rfl
 | txt g t r ih=>
  rintro _ n ⟨j,l',rfl,hj,h'⟩ h
  have h:fz r+4<=n:=h
  obtain ⟨m,rfl⟩:∃ m,n=m+5:=⟨n - 5,by have:=VV r;exact bc (la [_,_] [([2],[4,11,0])] ([2],[4,11,0]) rfl (Mi.lcS _ _)) (la [_,_] [([2,11,0],[4])] ([2,11,0],[4]) rfl (Mi.lcC (la [_,_] [([2,9,0],[4]),([5],[2])] ([11],[4]) rfl h this)))⟩
  exact BV (Dw hj (BV rfl (BV rfl rfl))) (ih h' (by exact la [_,_] [([2,9,0],[4,11,0])] ([2],[4,9,0]) rfl h))
 | row g s r ihs ih=>
  rintro _ n ⟨j,i,ls,l',rfl,hj,hi,hs,h'⟩ h
  have h:fz r+fz s+5<=n:=h
  obtain ⟨m,rfl⟩:∃ m,n=m+5:=⟨n - 5,by exact bc (la [_,_] [([2],[4,11,0])] ([2],[4,11,0]) rfl (Mi.lcS _ _)) (la [_,_] [([2,11,0],[4])] ([2,11,0],[4]) rfl (Mi.lcC (la [_,_,_] [([2,4,0,11,0],[6])] ([11],[6]) rfl h)))⟩
  exact BV (Dw hj (BV rfl (BV (Dw hi (ihs hs (by exact la [_,_,_] [([2,4,0,11,0],[6,11,0])] ([4],[6]) rfl h))) rfl))) (ih h' (by exact la [_,_,_] [([2,4,0,11,0],[6,11,0])] ([2],[6,9,0]) rfl h))
theorem Pi {r:Rw}(ok:r.Ok):PyData.canLayAll0 (dRw r)=true/\PyData.depthAll (dRw r)<=2*r.dep+1:=by
 have st:∀ {x:Txt},(∀ c∈x,Av c)->PyData.strOk (txt x)=true:=λh=>RA λc m=>(h c m).elim (λh=>aQ h (by decide)) λh=>h.2
 have sg:∀ {g:Txt},F7 g->∀ c∈g,Av c:=λh c m=>(h.1 c m).1
 induction r with
 | last g=>
  refine ⟨?_,aP _⟩
  show (PyData.strOk (txt g)&&true)=true
  rw [st (sg ok)];rfl
 | txt g t r ih=>
  obtain ⟨og,_,⟨ot,_⟩,ok'⟩:=ok
  obtain ⟨h1,h2⟩:=ih ok'
  refine ⟨?_,?_⟩
  ·show ((PyData.strOk (txt g)&&(PyData.strOk (txt t)&&true))&&PyData.canLayAll0 (dRw r))=true
   rw [st (sg og),st ot,h1];rfl
  ·exact Nat.max_le.mpr ⟨bA (aP _),h2⟩
 | row g s r ihs ih=>
  obtain ⟨og,os,ok'⟩:=ok
  obtain ⟨h1,h2⟩:=ih ok'
  obtain ⟨h3,h4⟩:=ihs os
  refine ⟨?_,?_⟩
  ·show ((PyData.strOk (txt (g++[58]))&&(PyData.canLayAll0 (dRw s)&&true))&&PyData.canLayAll0 (dRw r))=true
   rw [st λc m=>(mem_append.mp m).elim (sg og c) λm=>mem_singleton.mp m▸.inl (by decide),h3,h1];rfl
  ·exact Nat.max_le.mpr ⟨bA (Nat.max_le.mpr ⟨aP _,Nat.max_le.mpr ⟨aQ (bA h4) (Nat.mul_le_mul_left 2 (Nat.le_max_left (s.dep+1) r.dep)),aP _⟩⟩),
    aQ h2 (bA (Nat.mul_le_mul_left 2 (Nat.le_max_right _ _)))⟩
theorem TG {st:List (List PV)}{loc:Nat->Option PV}{r:Rw}{i j:Nat}{l m:List PV}(ok:r.Ok)(hd:r.dep<=4)(hn:r.nodes<=100)(hi:st[i]? = some l)(hj:st[j]? = some m)(hl:Bm st r clB l)(hm:Bm st r clB m):eqB (.lst i) (.lst j) ⟨loc,st⟩ = .ok true ⟨loc,st⟩:=by
 obtain ⟨h1,h2⟩:=Pi ok
 have s1:SeqAt.shaped (.list (dRw r))=true:=by
  unfold SeqAt.shaped
  rw [PyData.canLay0,h1,PyData.depth,decide_eq_true (show PyData.depthAll (dRw r)+1<=64 by lia)];rfl
 have hz:fz r<=19999999:=aQ (VW r) (by lia)
 exact MH (Dw hi (Lc hl hz)) (Dw hj (Lc hm hz)) s1 s1 (SeqAt.eqv_refl _ (SeqAt.canLay_of_shaped s1))
theorem TH {s:PS}{t:Txt}(h:okT t):eqB (.str t) (.str t) s = .ok true s:=by
 have s1:SeqAt.shaped (.str (txt t))=true:=by
  unfold SeqAt.shaped
  rw [PyData.canLay0,RA h];rfl
 exact MH rfl rfl s1 s1 (SeqAt.eqv_refl _ (SeqAt.canLay_of_shaped s1))
theorem Bm.noS {st:List (List PV)}{r:Rw}:∀ {l:List PV},Bm st r opB l->∀ t,PV.str t∉l:=by
 induction r with
 | last g=>rintro _ rfl t m;cases m
 | txt g t r ih=>
  rintro _ ⟨j,l',rfl,_,h⟩ u m
  rcases mem_cons.mp m with m | m
  ·cases m
  ·exact ih h u m
 | row g s r _ ih=>
  rintro _ ⟨j,k,ls,l',rfl,_,_,_,h⟩ u m
  rcases mem_cons.mp m with m | m
  ·cases m
  ·exact ih h u m
theorem Bm.num {st:List (List PV)}{r:Rw}:∀ {l:List PV},Bm st r opB l->l.length=r.num:=by
 induction r with
 | last g=>rintro _ rfl;rfl
 | txt g t r ih=>rintro _ ⟨j,l',rfl,_,h⟩;exact congrArg (·+1) (ih h)
 | row g s r _ ih=>rintro _ ⟨j,k,ls,l',rfl,_,_,_,h⟩;exact congrArg (·+1) (ih h)
theorem Rw.app_nodes (r q:Rw):(r.app q).nodes=r.nodes+q.nodes:=by
 induction r with
 | last g=>exact (Nat.zero_add _).symm
 | txt g t r ih=>show (r.app q).nodes+1=r.nodes+1+q.nodes;exact bc (la [_,_,_] [([2],[4,6,0])] ([2,3,0],[4,3,0,6,0]) rfl (aS ih)) (la [_,_,_] [([2,4,0],[6])] ([2,3,0,4,0],[6,3,0]) rfl (aS ih.symm))
 | row g s r _ ih=>show s.nodes+(r.app q).nodes+1=s.nodes+r.nodes+1+q.nodes;exact bc (la [_,_,_,_] [([2],[4,6,0])] ([8,2,0,3,0],[8,4,0,3,0,6,0]) rfl (aS ih)) (la [_,_,_,_] [([2,4,0],[6])] ([8,2,0,3,0,4,0],[8,6,0,3,0]) rfl (aS ih.symm))
theorem Rw.app_texts (r q:Rw):(r.app q).texts=r.texts+q.texts:=by
 induction r with
 | last g=>exact (Nat.zero_add _).symm
 | txt g t r ih=>show (r.app q).texts+1=r.texts+1+q.texts;exact bc (la [_,_,_] [([2],[4,6,0])] ([2,3,0],[4,3,0,6,0]) rfl (aS ih)) (la [_,_,_] [([2,4,0],[6])] ([2,3,0,4,0],[6,3,0]) rfl (aS ih.symm))
 | row g s r _ ih=>show s.texts+(r.app q).texts=s.texts+r.texts+q.texts;exact bc (la [_,_,_,_] [([2],[4,6,0])] ([8,2,0],[8,4,0,6,0]) rfl (aS ih)) (la [_,_,_,_] [([2,4,0],[6])] ([8,2,0,4,0],[8,6,0]) rfl (aS ih.symm))
theorem Rw.app_dep (r q:Rw):(r.app q).dep=max r.dep q.dep:=by
 induction r with
 | last g=>exact (Nat.zero_max _).symm
 | txt g t r ih=>exact ih
 | row g s r _ ih=>show max (s.dep+1) (r.app q).dep=max (max (s.dep+1) r.dep) q.dep;rw [ih,Nat.max_assoc]
theorem Rw.app_ok {r q:Rw}(h:r.Ok)(k:q.Ok):(r.app q).Ok:=by
 induction r with
 | last g=>exact k
 | txt g t r ih=>exact ⟨h.1,h.2.1,h.2.2.1,ih h.2.2.2⟩
 | row g s r _ ih=>exact ⟨h.1,h.2.1,ih h.2.2⟩
theorem GE:F7 []:=⟨λU m=>(by cases m),aP _⟩
abbrev Stk:=List (Nat × Rw)
structure Bst (I:List PV)(st:List (List PV))(hs:Stk):Prop where
 rows:st[1]? = some (hs.map λh=>.lst h.1)
 row:∀ h∈hs,∃ lo,st[h.1]? = some lo/\Bm st h.2 opB lo
 nd:(hs.map (·.1)).Nodup
 n1:∀ h∈hs,h.1≠1
 n4:∀ h∈hs,h.1≠4
 it:st[4]? = some I
structure Bok (hs:Stk)(k texts:Nat):Prop where
 ok:∀ h∈hs,h.2.Ok
 dep:∀ i h,hs[i]? = some h->h.2.dep+i<=4
 nodes:(hs.map (·.2.nodes)).sum<=k
 texts:(hs.map (·.2.texts)).sum=texts
theorem Bst.grow {I:List PV}{st st':List (List PV)}{hs:Stk}(p:st <+: st')(h:Bst I st hs):Bst I st' hs:=⟨Bs p h.rows,λx m=>by
 obtain ⟨lo,e,r⟩:=h.row x m
 exact ⟨lo,Bs p e,r.ext (.of p)⟩,h.nd,h.n1,h.n4,Bs p h.it⟩
theorem Bst.rowsN {hs:Stk}:∀ t,PV.str t∉hs.map λh=>PV.lst h.1:=λt m=>by
 obtain ⟨h,_,e⟩:=mem_map.mp m
 cases e
theorem Ld {up:Stk}{o:Nat}{r:Rw}(h:((up++[(o,r)]).map (·.1)).Nodup):(up.map (·.1)).Nodup/\∀ x∈up,x.1≠o:=by
 rw [map_append] at h
 obtain ⟨h1,_,h2⟩:=nodup_append.mp h
 exact ⟨h1,λx m e=>h2 x.1 (List.mem_map_of_mem m) o (mem_singleton_self _) e⟩
theorem Bst.part {I:List PV}{st st2:List (List PV)}{up:Stk}{o:Nat}{r q:Rw}{lo l1:List PV}(B:Bst I st (up++[(o,r)]))(p:st <+: st2)(ho:st[o]? = some lo)(hq:∀ st',Ext st2 st'->Bm st' q opB l1):Bst I (st2.set o (lo++l1)) (up++[(o,r.app q)]):=by
 have B2:=B.grow p
 obtain ⟨nd,ne⟩:=Ld B.nd
 have mo:(o,r)∈up++[(o,r)]:=mem_append_right _ (mem_singleton_self _)
 obtain ⟨lo',e1,hr⟩:=B2.row _ mo
 have ho2:=Bs p ho
 have e2:st2[o]? = some lo':=e1
 rw [ho2] at e2
 obtain rfl:=aT e2
 have E:Ext st2 (st2.set o (lo++l1)):=.set ho2 hr.noS
 have n1:(o:Nat)≠1:=B.n1 _ mo
 have n4:(o:Nat)≠4:=B.n4 _ mo
 refine ⟨?_,λh m=>?_,?_,λh m=>?_,λh m=>?_,by rw [getElem?_set_ne n4];exact B2.it⟩
 ·rw [getElem?_set_ne n1,B2.rows]
  simp
 ·rcases mem_append.mp m with m | m
  ·obtain ⟨l',e,k⟩:=B2.row h (mem_append_left _ m)
   exact ⟨l',by rw [getElem?_set_ne (Ne.symm (ne h m))];exact e,k.ext E⟩
  ·rw [mem_singleton.mp m]
   exact ⟨_,List.getElem?_set_self (ba.mp ho2).1,(hq _ E).app (hr.ext E)⟩
 ·have:=B.nd
  rw [map_append] at this ⊢
  exact this
 ·rcases mem_append.mp m with m | m
  ·exact B.n1 h (mem_append_left _ m)
  ·rw [mem_singleton.mp m];exact n1
 ·rcases mem_append.mp m with m | m
  ·exact B.n4 h (mem_append_left _ m)
  ·rw [mem_singleton.mp m];exact n4
theorem Bst.more {I:List PV}{st:List (List PV)}{hs:Stk}(B:Bst I st hs):Bst I ((st++[[]]).set 1 (hs.map (λh:Nat × Rw=>PV.lst h.1)++[PV.lst st.length])) (hs++[(st.length,.last [])]):=by
 have B2:=B.grow (Bx [])
 have l1:=(ba.mp B.rows).1
 have E:Ext (st++[[]]) ((st++[[]]).set 1 (hs.map (λh:Nat × Rw=>PV.lst h.1)++[PV.lst st.length])):=.set B2.rows Bst.rowsN
 have l4:=(ba.mp B.it).1
 refine ⟨?_,λh m=>?_,?_,λh m=>?_,λh m=>?_,by rw [getElem?_set_ne (by decide)];exact B2.it⟩
 ·rw [List.getElem?_set_self (List.getElem?_eq_some_iff.mp B2.rows).1,map_append];rfl
 ·rcases mem_append.mp m with m | m
  ·obtain ⟨l',e,k⟩:=B2.row h m
   exact ⟨l',by rw [getElem?_set_ne (Ne.symm (B.n1 h m))];exact e,k.ext E⟩
  ·rw [mem_singleton.mp m]
   exact ⟨[],by rw [getElem?_set_ne (Nat.ne_of_lt l1)];exact last_new,rfl⟩
 ·rw [map_append,nodup_append]
  refine ⟨B.nd,by simp,λa ma b mb=>?_⟩
  rw [mem_singleton.mp mb]
  obtain ⟨h,mh,rfl⟩:=mem_map.mp ma
  obtain ⟨l',e,_⟩:=B.row h mh
  exact Nat.ne_of_lt (ba.mp e).1
 ·rcases mem_append.mp m with m | m
  ·exact B.n1 h m
  ·rw [mem_singleton.mp m];exact Nat.ne_of_gt l1
 ·rcases mem_append.mp m with m | m
  ·exact B.n4 h m
  ·rw [mem_singleton.mp m];exact Nat.ne_of_gt l4
theorem Bst.less {I:List PV}{st:List (List PV)}{up:Stk}{o:Nat}{r:Rw}(B:Bst I st (up++[(o,r)])):Bst I (st.set 1 (up.map λh=>.lst h.1)) up:=by
 have l1:=(ba.mp B.rows).1
 refine ⟨List.getElem?_set_self l1,λh m=>?_,(Ld B.nd).1,λh m=>B.n1 h (mem_append_left _ m),λh m=>B.n4 h (mem_append_left _ m),by rw [getElem?_set_ne (by decide)];exact B.it⟩
 obtain ⟨l',e,k⟩:=B.row h (mem_append_left _ m)
 exact ⟨l',by rw [getElem?_set_ne (Ne.symm (B.n1 h (mem_append_left _ m)))];exact e,k.ext (.set B.rows Bst.rowsN)⟩
theorem B5 {f:Nat × Rw->Nat}{up:Stk}{x:Nat × Rw}:((up++[x]).map f).sum=(up.map f).sum+f x:=by
 rw [map_append,List.sum_append];rfl
theorem NN {up:Stk}{x h:Nat × Rw}{i:Nat}(e:(up++[x])[i]? = some h):(i<up.length/\up[i]? = some h)\/(i=up.length/\h=x):=by
 by_cases q:i<up.length
 ·rw [getElem?_append_left q] at e
  exact .inl ⟨q,e⟩
 ·rw [getElem?_append_right (Nat.le_of_not_lt q)] at e
  have:=(ba.mp e).1
  have e2:i - up.length=0:=by simp at this;exact bc (la [_] [([2],[1])] ([2],[1]) rfl (aS this)) (la [_] [] ([1],[2]) rfl)
  rw [e2] at e
  exact .inr ⟨by exact bc (la [_,_,_] [([2],[1]),([4],[2,6,0])] ([4],[6]) rfl (aS e2) (Mi.lcS _ _)) (la [_,_,_] [([2,4,0],[6])] ([4],[6]) rfl (Mi.lcC (la [_,_] [([2],[4])] ([2],[4]) rfl (Nat.not_lt.mp q)))),(aT e).symm⟩
theorem Bok.change {up:Stk}{x y:Nat × Rw}{k k' t t':Nat}(B:Bok (up++[x]) k t)(ok:y.2.Ok)(dp:y.2.dep+up.length<=4)(hk:y.2.nodes+k<=x.2.nodes+k')(ht:y.2.texts+t=x.2.texts+t'):Bok (up++[y]) k' t':=by
 have h1:=B.nodes
 have h2:=B.texts
 rw [B5] at h1 h2
 refine ⟨λh m=>?_,λi h e=>?_,by rw [B5];exact la [_,_,_,_,_] [([2,4,0],[6,8,0]),([10,6,0],[4])] ([10,2,0],[8]) rfl hk h1,by rw [B5];exact bc (la [_,_,_,_,_] [([2,4,0],[6,8,0]),([10,6,0],[4])] ([10,2,0],[8]) rfl (aS ht) (aS h2)) (la [_,_,_,_,_] [([2,4,0],[6,8,0]),([8],[10,2,0])] ([4],[10,6,0]) rfl (aS ht.symm) (aS h2.symm))⟩
 ·rcases mem_append.mp m with m | m
  ·exact B.ok h (mem_append_left _ m)
  ·rw [mem_singleton.mp m];exact ok
 ·rcases NN e with ⟨q,e⟩ | ⟨rfl,rfl⟩
  ·exact B.dep i h (by rw [getElem?_append_left q];exact e)
  ·exact dp
theorem Bok.top {up:Stk}{x:Nat × Rw}{k t:Nat}(B:Bok (up++[x]) k t):x.2.Ok/\x.2.dep+up.length<=4:=⟨B.ok x (mem_append_right _ (mem_singleton_self _)),B.dep up.length x (by simp)⟩
theorem Bok.less {up:Stk}{x:Nat × Rw}{k t:Nat}(B:Bok (up++[x]) k t):∃ k' t',Bok up k' t'/\k'+x.2.nodes=k/\t'+x.2.texts=t:=by
 have h1:=B.nodes
 have h2:=B.texts
 rw [B5] at h1 h2
 refine ⟨k - x.2.nodes,t - x.2.texts,⟨λh m=>B.ok h (mem_append_left _ m),λi h e=>B.dep i h (by rw [getElem?_append_left (List.getElem?_eq_some_iff.mp e).1];exact e),by exact la [_,_,_,_] [([2,4,0],[6]),([6],[8,4,0])] ([2],[8]) rfl h1 (Mi.lcS _ _),by exact bc (la [_,_,_,_] [([2,4,0],[6]),([6],[8,4,0])] ([2],[8]) rfl (aS h2) (Mi.lcS _ _)) (la [_,_,_,_] [([2],[4,6,0]),([8,6,0],[2])] ([8],[4]) rfl (aS h2.symm) (Mi.lcC (la [_,_,_] [([2,4,0],[6])] ([4],[6]) rfl (aS h2))))⟩,by exact bc (la [_,_,_] [([2,4,0],[6])] ([2,4,0],[6]) rfl (Mi.lcC (la [_,_,_] [([2,4,0],[6])] ([4],[6]) rfl h1))) (la [_,_,_] [([2],[4,6,0])] ([2],[4,6,0]) rfl (Mi.lcS _ _)),by exact bc (la [_,_,_] [([2,4,0],[6])] ([2,4,0],[6]) rfl (Mi.lcC (la [_,_,_] [([2,4,0],[6])] ([4],[6]) rfl (aS h2)))) (la [_,_,_] [([2],[4,6,0])] ([2],[4,6,0]) rfl (Mi.lcS _ _))⟩
theorem Bok.more {hs:Stk}{o k t:Nat}(B:Bok hs k t)(h:hs.length<5):Bok (hs++[(o,.last [])]) (k+1) t:=by
 refine ⟨λh m=>?_,λi h e=>?_,by rw [B5];exact Nat.le_succ_of_le B.nodes,by rw [B5];exact B.texts⟩
 ·rcases mem_append.mp m with m | m
  ·exact B.ok h m
  ·rw [mem_singleton.mp m];exact GE
 ·rcases NN e with ⟨q,e⟩ | ⟨rfl,rfl⟩
  ·exact B.dep i h e
  ·show 0+_<=4;exact la [_] [([2,3,0],[11])] ([1,2,0],[9]) rfl h
abbrev tLw (l:List Int)(total texts:Int)(x y text gap part:Option PV):Tb:=[some (.ints l),some (.lst 1),some (.int total),some (.int texts),x,y,text,gap,part,none,none,none,none,none,none,none,none]
section
variable {l:List Int}{total texts:Int}{L:Nat->Option PV}{st:List (List PV)}{Q:PV->PS->Prop}{E:PX->PS->Prop}
def Gn (c:Nat):Bool:=!decide (c=39)&&!decide (c=34)
inductive GapI (st:List (List PV))(text:Txt)(k:Nat)(acc:List PV)(s:PS):Prop
 | mk (L:Nat->Option PV) (us:Txt) (e:s=⟨L,st⟩) (a:acc=us.map λc=>.str [c]) (u:us=(text.take k).filter Gn):GapI st text k acc s
theorem RT {text:Txt}(hl:text.length<=6)(g:L 6=some (.str text))(hQ:Q (.lst st.length) ⟨L,st++[(text.filter Gn).map λc=>.str [c]]⟩) :
  wp (ac (ac (af 6) FR) λa=>aF [25] (aw a (ah 25) (AG .And [(AG .And [(ac (af 25) λb=>ac (ae (.str [39])) λc=>ac (Au .NotEq b c) tst),(ac (af 25) λb=>ac (ae (.str [34])) λc=>ac (Au .NotEq b c) tst)])]) (af 25) Kx 0 [])) ⟨L,st⟩ Q E:=by
 have K6:6<Kx:=aY (by decide) Cs
 have go:wp (aF [25] (aw (B7 (.str text)) (ah 25) (AG .And [(AG .And [(ac (af 25) λa=>ac (ae (.str [39])) λb=>ac (Au .NotEq a b) tst),(ac (af 25) λa=>ac (ae (.str [34])) λb=>ac (Au .NotEq a b) tst)])]) (af 25) Kx 0 [])) ⟨L,st⟩ Q E:=by
  refine Hu (Ht (GapI st text) text.length (λk=>.str [text.getD k 0]) (λk acc s U lt=>NB lt) (λacc s U=>NC) (λk acc s z lt=>?_) (λacc s z=>?_) Kx 0 [] _ ⟨_,[],rfl,rfl,rfl⟩ (aP _) (by lia))
  ·obtain ⟨L',us,rfl,rfl,hu⟩:=z
   have tk:text.take (k+1)=text.take k++[text.getD k 0]:=by
    rw [take_succ,getD_eq_getElem?_getD,getElem?_eq_getElem lt];rfl
   have fl:(text.take (k+1)).filter Gn=us++if Gn (text.getD k 0) then [text.getD k 0] else []:=by
    rw [tk,filter_append,<- hu,filter_cons,List.filter_nil]
   generalize text.getD k 0=c at fl
   refine wpSet (CL (wp_mono (Q:=λb s'=>b=Gn c/\s'=⟨upd L' 25 (.str [c]),st⟩) (E:=λU U=>False) ?_ (λb s' z=>?_) λU U z=>z.elim))
   ·refine CL (wpB (wpG upd_eq (KtI (wpB (wpR (KtI (wpB (Pg (wpTb ?_)))))))))
    rw [JE]
    unfold Gn
    cases decide (c=39)
    ·rw [Bool.not_false,if_pos rfl]
     refine CL (wpB (wpG upd_eq (KtI (wpB (wpR (KtI (wpB (Pg (wpTb ?_)))))))))
     rw [JE]
     cases decide (c=34)
     ·exact ⟨rfl,rfl⟩
     ·exact ⟨rfl,rfl⟩
    ·exact ⟨rfl,rfl⟩
   ·obtain ⟨rfl,rfl⟩:=z
    cases q:Gn c with
    | true=>
     rw [q] at fl
     rw [if_pos rfl,F3,if_pos (by rfl)]
     refine wpG upd_eq ⟨?_,_,us++[c],rfl,by rw [map_append];rfl,fl.symm⟩
     rw [length_map]
     have:us.length<=k:=by rw [hu];exact aQ (length_filter_le ..) (by rw [length_take];exact Nat.min_le_left ..)
     exact aQ (show us.length+1<=7 by exact la [_,_,_] [([2],[13]),([4,3,0],[2]),([6],[4])] ([6,3,0],[15]) rfl hl lt this) (by decide)
    | false=>
     rw [q] at fl
     rw [if_neg (by decide),if_neg (by decide)]
     exact ⟨_,us,rfl,rfl,by rw [fl];exact (append_nil _).symm⟩
  ·obtain ⟨L',us,rfl,rfl,hu⟩:=z
   rw [take_length] at hu
   subst hu
   refine wpNL ?_ hQ
   rw [length_map]
   exact aQ (aQ (length_filter_le ..) hl) (by decide)
 refine wpB (wpB (wpG g ?_))
 exact go
end
inductive B1 (I:List PV)(l:List Int)(k:Nat)(s:PS):Prop
 | mk (st:List (List PV)) (hs:Stk) (total texts:Nat) (a:At st (tLw l total texts none none none none none) s) (B:Bst I st hs) (ok:Bok hs k texts) (ne:hs≠[]) (hl:hs.length+(k - (l.length+1))<=5) (ht:total<1024):B1 I l k s
theorem MO {t:Txt}(h:∀ c∈t,Av c)(l:t.length<=6):(∀ c∈t.filter Gn,Av c/\c≠39/\c≠34)/\(t.filter Gn).length<=6:=by
 refine ⟨λc m=>?_,aQ (length_filter_le ..) l⟩
 obtain ⟨m1,m2⟩:=List.mem_filter.mp m
 unfold Gn at m2
 rw [and_eq_true,not_eq_true',not_eq_true'] at m2
 exact ⟨h c m1,of_decide_eq_false m2.1,of_decide_eq_false m2.2⟩
section
variable {l:List Int}{L:Nat->Option PV}{st:List (List PV)}{Q:PV->PS->Prop}{E:PX->PS->Prop}
theorem Le {up:Stk}{x:Nat × Rw}(R:st[1]? = some ((up++[x]).map λh=>.lst h.1))(k:Q (.lst x.1) ⟨L,st⟩):wp (As false (.lst 1) (.int (-1))) ⟨L,st⟩ Q E:=
 Hs (j:=up.length) rfl R (by rw [length_map,length_append];exact HB up.length) (by rw [getElem?_map,show (up++[x])[up.length]? = some x by simp];rfl) k
theorem U9 {i:Nat}{w:List PV}{x:PV}(h:st[i]? = some (w++[x]))(hl:(w++[x]).length<=big)(hQ:Q x ⟨L,st.set i w⟩):wp (SS (.lst i) []) ⟨L,st⟩ Q E:=by
 show wp (ac (ar i) (Kz i)) _ Q E
 rw [wp_bind,BI,h]
 show wp (Kz i (w++[x])) _ Q E
 unfold Kz
 rw [List.getLast?_concat]
 show wp (ak _ _) _ Q E
 rw [Am,wp_bind,List.dropLast_concat]
 refine ⟨decide_eq_true hl,?_⟩
 rw [length_append] at hl
 unfold wp aI
 rw [if_pos (Nat.le_trans (Nat.le_add_right ..) hl)]
 exact hQ
theorem RU {I:List PV}{k:Nat}{x:Int}(hk:k<l.length+5)(hN:l.length<=63)(hx:l.length+1<=k->x=2)(z:B1 I l k ⟨L,st⟩):wp (EG Kx) ⟨upd L 4 (.int x),st⟩ (λf s'=>(f = .next\/f = .cont)/\B1 I l (k+1) s') λU U=>False:=by
 obtain ⟨_,hs,total,texts,⟨_,e0,B⟩,S,ok,ne,hl,ht⟩:=z
 cases e0
 have B:=B.set 4 (.int x)
 have h5:hs.length<=5:=aQ (bz ..) hl
 have k68:k<=68:=br (bk hk (Nat.add_le_add_right hN 5))
 unfold EG
 refine wpN (λs=>∃ m:Nat,(x=2->m=4)/\At st (tLw l total texts (some (.int x)) (some (.int m)) none none none) s) ?_ ?_
 ·refine wpB (AK (c:=decide (x≥0)) (by walk_at "wp";exact ⟨rfl,rfl⟩) (λh=>?_) λh=>?_)
  ·have h:=aX h
   walk_at "wp"
   refine Jl rfl ?_
   walk_at "wp"
   exact ⟨rfl,(2*x).toNat,λe=>by rw [e];rfl,by rw [Int.toNat_of_nonneg (by lia)];exact (B.set 5 _ |> At.mk _ rfl)⟩
  ·have h:=of_decide_eq_false h
   walk_at "wp"
   refine Jl rfl ?_
   walk_at "wp"
   exact ⟨rfl,(-2*x - 1).toNat,λe=>by lia,by rw [Int.toNat_of_nonneg (by lia)];exact (B.set 5 _ |> At.mk _ rfl)⟩
 clear B
 rintro _ ⟨m,hm,L,rfl,B⟩
 refine wpA st (tLw l ((3*total+m) % 1024:Nat) texts none (some (.int m)) none none none) ?_ λL B=>?_
 ·walk_at "wp"
  refine Jl rfl ?_
  walk_at "wp"
  rw [show (3*(total:Int)+(m:Int))=((3*total+m:Nat):Int) by lia,show ((3*total+m:Nat):Int).fmod 1024=((3*total+m) % 1024:Nat) from Dg _ 1024]
  exact ⟨rfl,(B.set 2 _).drop 4 |> At.mk _ rfl⟩
 have ht:(3*total+m) % 1024<1024:=Nat.mod_lt _ (by decide)
 generalize (3*total+m) % 1024=total at ht B ⊢
 refine wpN (λs=>∃ st' t,st <+: st'/\t.length<=6/\(∀ c∈t,Av c)/\At st' (tLw l total texts none (some (.int m)) (some (.str t)) none none) s) ?_ ?_
 ·walk_at "wp"
  refine Pb λst' t p t6 tsc=>?_
  walk_at "wp"
  exact ⟨rfl,st',t,p,t6,tsc,(B.set 6 _ |> At.mk _ rfl)⟩
 clear B
 rintro _ ⟨st1,t,p,t6,tsc,L,rfl,B⟩
 have S:=S.grow p
 clear p
 refine wpN (λs=>∃ st' g,st1 <+: st'/\(∀ c∈g,Av c/\c≠39/\c≠34)/\g.length<=6/\At st' (tLw l total texts none (some (.int m)) (some (.str t)) (some (.str g)) none) s) ?_ ?_
 ·refine wpB (AK (c:=((total:Int).fmod 3==0)) (by walk_at "wp";exact ⟨rfl,rfl⟩) (λh=>?_) λh=>?_)
  ·walk_at "wp"
   exact ⟨rfl,st1,[],prefix_refl _,λU m=>(by cases m),aP _,(B.set 7 _ |> At.mk _ rfl)⟩
  ·obtain ⟨f1,f2⟩:=MO tsc t6
   refine wpB (wpR (KtI (wpO rfl (wpB (wpSC (RT t6 (B 6 _ rfl) (wpSN (KtI ?_))))))))
   have:(st1++[(t.filter Gn).map λc=>PV.str [c]])[st1.length]? = some (((t.filter Gn).map λc=>[c]).map .str):=by rw [List.map_map];exact last_new
   rw [GB this,Fe]
   refine ⟨aQ f2 (by decide),?_⟩
   walk_at "wp"
   exact ⟨rfl,_,_,Bx _,f1,f2,(B.set 7 _ |> At.mk _ rfl)⟩
 clear B
 rintro _ ⟨st2,g,p,g1,g6,L,rfl,B⟩
 have S:=S.grow p
 clear p
 have gok:F7 g:=⟨g1,Nat.le_succ_of_le g6⟩
 have hlm:∀ {hs:Stk},(hs.map λh:Nat × Rw=>PV.lst h.1).length=hs.length:=length_map ..
 have lb:hs.length<=big:=aQ h5 (by decide)
 have m5:(m:Int).fmod 5=((m % 5:Nat):Int):=Dg m 5
 have nx:k+1 - (l.length+1)<=4:=by lia
 refine AK (c:=((((m % 5:Nat):Int)==3)&&(decide ((hs.length:Int)<5)&&true))) (Bu (by walk_at "wp";rw [m5];exact ⟨rfl,rfl⟩) λU=>Bu (by walk_at "wp";rw [Ea S.rows,hlm];refine ⟨lb,?_⟩;walk_at "wp";exact ⟨rfl,rfl⟩) λU=>E8) (λh=>?_) λh=>?_
 ·simp only [and_eq_true,Bool.and_true,beq_iff_eq,decide_eq_true_eq] at h
  have l5:hs.length<5:=Int.ofNat_lt.mp h.2
  have k0:¬ l.length+1<=k:=λz=>by
   have:=hm (hx z)
   rw [this] at h
   exact absurd h.1 (by decide)
  walk_at "wp"
  ·exact (by decide:0<=big)
  rw [Dj (S.grow (Bx _)).rows,hlm]
  refine ⟨aQ (bA h5) (by decide),?_⟩
  walk_at "wp"
  exact ⟨.inl rfl,.mk _ _ total texts (((B.drop 5).drop 6).drop 7 |> At.mk _ rfl) S.more (ok.more l5) (by simp) (by rw [length_append];show hs.length+1+_<=5;lia) ht⟩
 refine AK (c:=((((m % 5:Nat):Int)==4)&&(decide ((hs.length:Int)>1)&&true))) (Bu (by walk_at "wp";rw [m5];exact ⟨rfl,rfl⟩) λU=>Bu (by walk_at "wp";rw [Ea S.rows,hlm];refine ⟨lb,?_⟩;walk_at "wp";exact ⟨rfl,rfl⟩) λU=>E8) (λh=>?_) λh=>?_
 ·simp only [and_eq_true,Bool.and_true,beq_iff_eq,decide_eq_true_eq] at h
  have l1:1<hs.length:=Int.ofNat_lt.mp h.2
  obtain ⟨up,x2,y,rfl⟩:∃ up x2 y,hs=up++[x2]++[y]:=by
   have n2:hs.dropLast≠[]:=λz=>by have:=congrArg length z;rw [List.length_dropLast] at this;exact absurd this (by show ¬ _=0;lia)
   exact ⟨hs.dropLast.dropLast,hs.dropLast.getLast n2,hs.getLast ne,by rw [List.dropLast_concat_getLast,List.dropLast_concat_getLast]⟩
  obtain ⟨o2,r2⟩:=x2
  obtain ⟨o,r⟩:=y
  rw [length_append] at h5
  have h5:(up++[(o2,r2)]).length+1<=5:=h5
  obtain ⟨lo,e,hr⟩:=S.row (o,r) (mem_append_right _ (mem_singleton_self _))
  have no1:o≠1:=S.n1 (o,r) (mem_append_right _ (mem_singleton_self _))
  obtain ⟨k',t',ok1,ek,et⟩:=ok.less
  obtain ⟨okt,dpt⟩:=ok.top
  obtain ⟨ok2,dp2⟩:=ok1.top
  have S1:=S.less
  have E1:Ext st2 (st2.set 1 ((up++[(o2,r2)]).map λh=>.lst h.1)):=.set S.rows Bst.rowsN
  have e1:(st2.set 1 ((up++[(o2,r2)]).map λh=>PV.lst h.1))[o]? = some lo:=by rw [getElem?_set_ne (Ne.symm no1)];exact e
  have hr1:=hr.ext E1
  have R:=S.rows
  rw [map_append (l₁:=up++[(o2,r2)])] at R
  obtain ⟨lo2,e2,hr2⟩:=S1.row (o2,r2) (mem_append_right _ (mem_singleton_self _))
  refine Bl (wpB (wpB (wpB (wpL B rfl (KtI (wpO rfl (wpB (wpSN (U9 R (by rw [length_append,hlm];exact aQ h5 (by decide)) ?_)))))))))
  generalize st2.set 1 ((up++[(o2,r2)]).map λh=>PV.lst h.1)=s1 at S1 e1 hr1 e2 hr2 ⊢
  have rn:lo.length<=68:=by
   rw [hr.num]
   have:=r.num_nodes
   have h1:=ok.nodes
   rw [B5] at h1
   exact aQ (aQ this (aQ (Nat.le_add_left ..) h1)) k68
  have rn2:lo2.length<=68:=by
   rw [hr2.num]
   have:=r2.num_nodes
   have h1:=ok1.nodes
   rw [B5] at h1
   exact aQ (aQ this (aQ (Nat.le_add_left ..) h1)) (aQ (ek▸bz k' r.nodes) k68)
  refine KtI (wpB (wpB (wpSC (wpL B rfl (wpSN (wpNL (by decide:1<=big) (Cg (AX e1) last_new (by rw [length_append];exact aQ (bA rn) (by decide)) (KtI (wpB (wpSet (wpR (KnI ?_))))))))))))
  have B:=B.set 8 (.lst (s1++[[PV.str g]]).length)
  have p3:s1 <+: s1++[[PV.str g]]++[lo++[PV.str g]]:=(Bx _).trans (Bx _)
  have c3:(s1++[[PV.str g]]++[lo++[PV.str g]])[(s1++[[PV.str g]]).length]? = some (lo++[PV.str g]):=last_new
  generalize hs3:s1++[[PV.str g]]++[lo++[PV.str g]]=s3 at p3 c3 ⊢
  generalize (s1++[[PV.str g]]).length=c at B c3 ⊢
  walk_at "wp"
  refine Le (S1.grow p3).rows ?_
  walk_at "wp"
  ·rw [length_append];exact aQ (bA g6) (by decide)
  ·exact (by decide:2<=big)
  have p4:s1 <+: s3++[[PV.str (g++[58]),PV.lst c]]:=p3.trans (Bx _)
  rw [Dj (Bs p4 e2)]
  refine ⟨aQ (bA rn2) (by decide),?_⟩
  walk_at "wp"
  have P:=S1.part (q:=.row g (r.app (.last g)) (.last [])) (l1:=[.lst s3.length]) p4 e2 λst' X=>⟨s3.length,c,_,[],rfl,X _ _ (g++[58]) last_new mem_cons_self,X _ _ g (AX c3) (mem_append_right _ (mem_singleton_self _)),Bm.app (b:=clB) (q:=.last g) rfl (hr1.ext ((Ext.of p4).trans X)),rfl⟩
  refine ⟨.inl rfl,.mk _ _ total texts ((((B.drop 5).drop 6).drop 7).drop 8 |> At.mk _ rfl) P (Bok.change (x:=(o2,r2)) ok1 (r2.app_ok ok2 ⟨gok,r.app_ok okt gok,GE⟩) ?_ ?_ ?_) (by simp) ?_ ht⟩
  ·show (r2.app _).dep+up.length<=4
   rw [r2.app_dep]
   show max r2.dep (max ((r.app (.last g)).dep+1) 0)+up.length<=4
   rw [r.app_dep]
   show max r2.dep (max (max r.dep 0+1) 0)+up.length<=4
   have:r.dep+(up++[(o2,r2)]).length<=4:=dpt
   rw [length_append] at this
   have:r.dep+(up.length+1)<=4:=this
   rw [Nat.max_zero,Nat.max_zero,<- Nat.add_max_add_right]
   exact Nat.max_le.mpr ⟨dp2,by rw [Nat.add_right_comm];exact this⟩
  ·show (r2.app _).nodes+k'<=r2.nodes+(k+1)
   rw [r2.app_nodes]
   show r2.nodes+((r.app (.last g)).nodes+0+1)+k'<=_
   rw [r.app_nodes]
   show r2.nodes+(r.nodes+0+0+1)+k'<=_
   have:k'+r.nodes=k:=ek
   lia
  ·show (r2.app _).texts+t'=r2.texts+texts
   rw [r2.app_texts]
   show r2.texts+((r.app (.last g)).texts+0)+t'=_
   rw [r.app_texts]
   show r2.texts+(r.texts+0+0)+t'=_
   have:t'+r.texts=texts:=et
   lia
  ·rw [length_append,length_append] at hl
   rw [length_append]
   have hl:up.length+1+1+_<=5:=hl
   show up.length+1+_<=5
   lia
 ·obtain ⟨up,y,rfl⟩:∃ up y,hs=up++[y]:=⟨hs.dropLast,hs.getLast ne,(List.dropLast_concat_getLast ne).symm⟩
  obtain ⟨o,r⟩:=y
  obtain ⟨lo,e,hr⟩:=S.row (o,r) (mem_append_right _ (mem_singleton_self _))
  obtain ⟨okt,dpt⟩:=ok.top
  have rn:lo.length<=68:=by
   rw [hr.num]
   have:=r.num_nodes
   have h1:=ok.nodes
   rw [B5] at h1
   exact aQ (aQ this (aQ (Nat.le_add_left ..) h1)) k68
  have put:∀ (g' t':Txt) (L':Nat->Option PV),L'=L->F7 g'->g'.getLast?≠some 58->(∀ c∈t',Av c)->t'.length<=6->wp (ao [.str g',.str t']) ⟨L',st2⟩ (Ks [] (Kt (Ce (.lst o)) (Kt (λU=>ae PFlow.next) (Kn (ac (af 3) λa=>ac (ae (.int 1)) λb=>ac (BG .Add a b) λd=>ac (ah 3 d) λU=>ae .next) (λf s'=>(f = .next\/f = .cont)/\B1 I l (k+1) s') λU U=>False) λU U=>False) λU U=>False) λU U=>False) λU U=>False:=λg' t' L' hL h1 h2 h3 h4=>by
   subst hL
   refine wpNL (by decide:2<=big) (wpSN (KtI ?_))
   rw [Dj (AX e)]
   refine ⟨aQ (bA rn) (by decide),wpR (KnI ?_)⟩
   have P:=S.part (q:=.txt g' t' (.last [])) (l1:=[.lst st2.length]) (Bx [.str g',.str t']) e λst' X=>⟨st2.length,[],rfl,X _ _ g' last_new mem_cons_self,rfl⟩
   walk_at "wp"
   refine ⟨.inl rfl,.mk _ _ total (texts+1) (((((B.set 3 (.int ((texts+1:Nat):Int))).drop 5).drop 6).drop 7) |> At.mk _ rfl) P (Bok.change ok (r.app_ok okt ⟨h1,h2,⟨h3,h4⟩,GE⟩) ?_ ?_ ?_) (by simp) ?_ ht⟩
   ·show (r.app _).dep+up.length<=4
    rw [r.app_dep]
    show max r.dep 0+up.length<=4
    rw [Nat.max_zero]
    exact dpt
   ·show (r.app _).nodes+k<=r.nodes+(k+1)
    rw [r.app_nodes]
    show r.nodes+(0+1)+k<=_
    lia
   ·show (r.app _).texts+texts=r.texts+(texts+1)
    rw [r.app_texts]
    show r.texts+(0+1)+texts=_
    lia
   ·have z:l.length+1<=k->(up++[(o,r)]).length<=1:=λz=>by
     have m4:=hm (hx z)
     rw [m4] at h
     by_cases q:(up++[(o,r)]).length<=1
     ·exact q
     ·rw [decide_eq_true (show (((up++[(o,r)]).length:Nat):Int)>1 from Int.ofNat_lt.mpr (Nat.not_le.mp q))] at h
      exact absurd h (by decide)
    rw [length_append] at z hl ⊢
    have z:l.length+1<=k->up.length+1<=1:=z
    have hl:up.length+1+(k - (l.length+1))<=5:=hl
    show up.length+1+_<=5
    by_cases q:l.length+1<=k
    ·have:=z q;lia
    ·lia
  have eg:(slc g (some (-1)) none==([58]:Txt))=decide (g.getLast? = some 58):=by
   by_cases q:g.getLast? = some 58
   ·obtain ⟨ys,rfl⟩:=List.getLast?_eq_some_iff.mp q
    rw [JA,decide_eq_true q];rfl
   ·rw [JB q,decide_eq_false q]
  have last:∀ g',F7 g'->g'.getLast?≠some 58->wp (ac ((ac ((ac (af 2) λa=>ac (ae (.int 7)) λb=>Aj .Mod a b)) λa=>ac (ae (.int 6)) λb=>ac (Au .Eq a b) tst)) λc=>if c then ae (.str []) else af 6) ⟨L,st2⟩ (Ks [] (Kc (Kt ao (Ks [] (Kt (Ce (.lst o)) (Kt (λU=>ae PFlow.next) (Kn (ac (af 3) λa=>ac (ae (.int 1)) λb=>ac (BG .Add a b) λd=>ac (ah 3 d) λU=>ae .next) (λf s'=>(f = .next\/f = .cont)/\B1 I l (k+1) s') λU U=>False) λU U=>False) λU U=>False) λU U=>False) λU U=>False) (.str g')) λU U=>False) λU U=>False:=λg' h1 h2=>by
   refine AK (c:=((total:Int).fmod 7==6)) (by walk_at "wp";exact ⟨rfl,rfl⟩) (λU=>?_) λU=>?_
   ·exact wpR (wpSN (put g' [] L rfl h1 h2 (λU m=>(by cases m)) (aP _)))
   ·exact wpL B rfl (wpSN (put g' t L rfl h1 h2 tsc t6))
  refine Bl (wpB (wpB (wpB (wpL B rfl (KtI (wpB (wpB (wpR (KtI (wpNeg (KtI (Le S.rows ?_))))))))))))
  refine KtI (wpO rfl (wpB (wpSC (wpB (wpSC (AK (c:=decide (g.getLast? = some 58)) ?_ (λq=>?_) λq=>?_))))))
  ·walk_at "wp"
   refine HC rfl (aQ g6 (by decide)) ?_
   walk_at "wp"
   exact ⟨eg,rfl⟩
  ·have q:=aX q
   refine wpB (wpL B rfl (KtI (wpB (wpR (KtI (wpAS ?_ ?_))))))
   ·rw [length_append];exact aQ (bA g6) (by decide)
   refine wpSC (last (g++[61]) ⟨λc m=>(mem_append.mp m).elim (g1 c) λm=>mem_singleton.mp m▸⟨.inl (by decide),by decide,by decide⟩,by rw [length_append];exact bA g6⟩ ?_)
   rw [List.getLast?_concat];decide
  ·exact wpL B rfl (wpSC (last g gok (of_decide_eq_false q)))
end
theorem CY {a b:Txt}(h:okT a)(k:okT b):okT (a++b):=λc m=>(mem_append.mp m).elim (h c) (k c)
theorem DX {a:Txt}(h:a.all (λc=>decide (c<=1114111))=true):okT a:=λc m=>aX (all_eq_true.mp h c m)
theorem NO (i:Int):okT (BA i):=by
 unfold BA
 rw [Str.ofString_eq_toList]
 intro c m
 obtain ⟨d,_,rfl⟩:=mem_map.mp (show c∈(toString i).toList.map Char.toNat from m)
 have:=d.valid
 unfold UInt32.isValidChar Nat.isValidChar at this
 show d.val.toNat<=_
 lia
theorem TI {x w:Txt}{p:Nat}(h:okT w):okT (C4 x p w):=by
 unfold C4
 refine CY (CY (CY h (DX (by decide))) ?_) (DX (by decide))
 unfold Dv
 split
 ·exact DX (by decide)
 ·exact CY (CY (CY (DX (by decide)) (NO _)) (DX (by decide))) (NO _)
theorem Pj:∀ c≤127,(AY [c]).all (λc=>decide (c<=1114111))=true:=by decide +kernel
theorem Fo.okd {bad:Nat}(hb:BadOk bad){r:Rw}:∀ {pre w d:Txt},Fo bad r pre w d->okT d:=by
 induction r with
 | last g=>rintro pre w d ⟨_,rfl⟩;exact λU m=>(by cases m)
 | txt g t r ih=>
  intro pre w d h
  rcases h with ⟨us,w',_,h',_⟩ | ⟨u1,u2,w',_,_,_,_,_,rfl⟩
  ·exact ih h'
  ·unfold Gm EK
   refine TI (CY ?_ (DX (Pj bad hb.le)))
   split
   ·exact DX (by decide)
   ·exact DX (by decide)
 | row g s r ihs ih=>
  rintro pre w d ⟨ws,us,w',d1,d2,hs,_,_,h',_,rfl,_⟩
  exact CY (ihs hs) (ih h')
abbrev tV (T total texts bad:Nat)(way left whole rest due told:Option PV):Tb:=[none,none,some (.int total),some (.int texts),none,none,none,none,none,some (.lst T),some (.int bad),way,left,whole,rest,due,told]
section
variable {T total texts bad:Nat}{tree:Rw}{lt:List PV}{L:Nat->Option PV}{st0 st:List (List PV)}
structure Tree (st:List (List PV))(T:Nat)(tree:Rw):Prop where
 ok:tree.Ok
 dp:tree.dep<=4
 nodes:tree.nodes<=68
 at_:∃ lt,st[T]? = some lt/\Bm st tree clB lt
theorem Tree.grow (p:st0 <+: st)(h:Tree st0 T tree):Tree st T tree:=⟨h.ok,h.dp,h.nodes,by
 obtain ⟨lt,e,r⟩:=h.at_
 exact ⟨lt,Bs p e,r.ext (.of p)⟩⟩
inductive AtY (st0:List (List PV))(t:Tb)(s:PS):Prop
 | mk (st:List (List PV)) (p:st0 <+: st) (a:At st t s):AtY st0 t s
theorem Ub {a b:PV}{r:Bool}{s:PS}{Q:PV->PS->Prop}{E:PX->PS->Prop}(h:eqB a b s = .ok r s)(k:Q (.bool !r) s):wp (neB a b) s Q E:=wpB (f:=λr=>ae (PV.bool !r)) (VN h k)
theorem VX {way:Int}{left:Int}(hb:BadOk bad)(Tr:Tree st T tree)(B:Loc (tV T total texts bad (some (.int way)) (some (.int left)) none none none none) L) :
  wp (EH Kx) ⟨L,st⟩ (λf s'=>(f = .next\/f = .cont)/\AtY st (tV T total texts bad (some (.int way)) none none none none none) s') λU U=>False:=by
 obtain ⟨lt,hT,hr⟩:=Tr.at_
 have c4:cst 4=177486:=rfl
 have sz:cst (5 - 1)*(tree.nodes+1)<=12500000:=by
  rw [show (5 - 1:Nat)=4 from rfl,c4]
  have:=Tr.nodes
  lia
 have dp:tree.dep<5:=Nat.lt_succ_of_le Tr.dp
 unfold EH
 refine wpN (λs=>∃ st' w d,st <+: st'/\Fo bad tree [] w d/\At st' (tV T total texts bad (some (.int way)) none (some (.str (w++tree.lg))) none (some (.str d)) none) s) ?_ ?_
 ·refine wpB (wpB (wpSC (wpL B rfl (wpSC (wpL B rfl (wpSC (wpL B rfl (wpSC (wpL B rfl (wpSN (KtI ?_)))))))))))
  refine VT hb 5 tree dp Tr.ok sz L st T lt way left _ _ hT hr λst' j w d p hj fo U U=>?_
  exact KtI (wpB (VS hj (wpR ⟨rfl,st',w,d,p,fo,((((B.set 13 _).set 14 _).set 15 _).drop 12).drop 14 |> At.mk _ rfl⟩)))
 clear B
 rintro _ ⟨st1,w,d,p1,fo,L,rfl,B⟩
 have wl:(w++tree.lg).length<=12500000:=aQ (fo.len Tr.ok Tr.dp) sz
 have Tr1:=Tr.grow p1
 refine wpN (λs=>∃ st' v,st1 <+: st'/\((d=[]/\∃ j l,v = .lst j/\st'[j]? = some l/\Bm st' tree clB l)\/(d≠[]/\v = .str d))/\At st' (tV T total texts bad (some (.int way)) none none none (some (.str d)) (some v)) s) ?_ ?_
 ·rw [FK]
  refine wpB (wpB (wpSC (wpL B rfl (wpSN (KtI ?_)))))
  refine VU hb 5 tree dp Tr.ok L st1 w d _ _ fo wl (λd0 st' j l p hj hl=>?_) λdn st' p=>?_
  ·exact KtI (wpB (wpSet (wpR ⟨rfl,st',.lst j,p,.inl ⟨d0,j,l,rfl,hj,hl⟩,((B.set 16 _).drop 13 |> At.mk _ rfl)⟩)))
  ·show wp (aK _) _ _ _
   rw [Tc]
   exact wpB (wpR (KtI (wpB (wpSet (wpR ⟨rfl,st',.str d,p,.inr ⟨dn,rfl⟩,((B.set 16 _).drop 13 |> At.mk _ rfl)⟩)))))
 clear B
 rintro _ ⟨st2,v,p2,hv,L,rfl,B⟩
 have Tr2:=Tr1.grow p2
 obtain ⟨lt2,hT2,hr2⟩:=Tr2.at_
 refine AK (c:=false) ?_ (λh=>(by cases h)) λU=>wpR ⟨.inl rfl,.mk st2 (p1.trans p2) (((B.drop 15).drop 16) |> At.mk _ rfl)⟩
 refine wpB (wpL B rfl (KtI (wpB ?_)))
 have e15:decide (d=[])=(d==([]:Txt)):=by cases d <;> rfl
 refine AK (c:=decide (d=[])) (by walk_at "wp";exact ⟨e15.symm,rfl⟩) (λh=>?_) λh=>?_
 ·have h:=aX h
  rcases hv with ⟨_,j,l,rfl,hj,hl⟩ | ⟨n,_⟩
  ·exact wpL B rfl (KtI (wpB (Ub (TG Tr.ok Tr.dp (aQ Tr.nodes (by decide)) hj hT2 hl hr2) (KtI (wpTb ⟨rfl,rfl⟩)))))
  ·exact absurd h n
 ·have h:=of_decide_eq_false h
  rcases hv with ⟨n,_⟩ | ⟨_,rfl⟩
  ·exact absurd n h
  ·exact wpL B rfl (KtI (wpB (Ub (TH (fo.okd hb)) (KtI (wpTb ⟨rfl,rfl⟩)))))
end
section
variable {T total texts bad:Nat}{tree:Rw}{L:Nat->Option PV}{st0 st:List (List PV)}
theorem VY {a b:Int}{s:PS}{Q:PV->PS->Prop}{E:PX->PS->Prop}(h:Q (.int (if b>a then b else a)) s):wp (Uz [.int a,.int b]) s Q E:=h
theorem VZ {way:Int}(hb:BadOk bad)(Tr:Tree st T tree)(ht:total<1024)(hx:texts<=68)(B:Loc (tV T total texts bad (some (.int way)) none none none none none) L) :
  wp (EI Kx) ⟨L,st⟩ (λf s'=>(f = .next\/f = .cont)/\AtY st (tV T total texts bad none none none none none none) s') λU U=>False:=by
 unfold EI
 obtain ⟨m,em,m0,ms⟩:∃ m:Nat,(if (1:Int)>(texts:Int) then (1:Int) else (texts:Int))=m/\0<m/\m<=68:=by
  by_cases q:(1:Int)>(texts:Int)
  ·exact ⟨1,if_pos q,by decide,by decide⟩
  ·exact ⟨texts,if_neg q,by lia,hx⟩
 refine wpB (wpB (wpB (wpSC (wpB (wpR (wpNeg (wpSC (wpB (wpL B rfl (KtI (wpB (wpB (wpSC (wpL B rfl (wpSC (wpR (wpSN (KtI (VY ?_)))))))))))))))))))
 rw [em]
 refine KtI (wpModI (by rw [bne_iff_ne.mpr (show (m:Int)≠0 by lia),AC (i:=(m:Int)) (by lia)];rfl) (wpSN (KtI (wpNL (by decide:2<=big) (KtI (wpR (KtI ?_)))))))
 generalize ((total:Int).fmod m)=lf
 have hl:(st++[[PV.int (-1),PV.int lf]])[st.length]? = some (([-1,lf]:List Int).map .int):=last_new
 have p1:st <+: st++[[PV.int (-1),PV.int lf]]:=Bx _
 generalize st++[[PV.int (-1),PV.int lf]]=st1 at hl p1 ⊢
 generalize st.length=a at hl ⊢
 refine wp_mono (NE (P:=λU s=>AtY st1 (tV T total texts bad (some (.int way)) none none none none none) s) (R:=λs=>AtY st1 (tV T total texts bad (some (.int way)) none none none none none) s) (n:=2) (λk=>.int (([-1,lf]:List Int).getD k 0)) (.mk st1 (prefix_refl _) (.mk _ rfl B)) (aY (by decide) Cs) (λk s z lt=>?_) (λs z=>?_) (λk L2 st2 z lt=>?_) (λU z=>z) (E:=λU U=>False)) (λf s z=>?_) λU U z=>z
 ·obtain ⟨st2,p,_,rfl,_⟩:=z
  exact FN (Bs p hl) lt
 ·obtain ⟨st2,p,_,rfl,_⟩:=z
  exact Hx (Bs p hl)
 ·obtain ⟨_,p,_,e0,B⟩:=z
  cases e0
  refine wp_mono (VX (left:=([-1,lf]:List Int).getD k 0) hb (Tr.grow (p1.trans p)) (B.set 12 _)) (λf s z=>⟨z.1,?_⟩) λU U z=>z
  obtain ⟨st3,p3,a3⟩:=z.2
  exact .mk st3 (p.trans p3) a3
 ·obtain ⟨rfl,st2,p,⟨L,rfl,B⟩⟩:=z
  exact ⟨.inl rfl,.mk st2 (p1.trans p) (B.drop 11 |> At.mk _ rfl)⟩
end
theorem Pl {l:List Int}{k:Nat}(hk:k<l.length+5):∃ x,(l++[(l.length:Int),2,2,2,2]).getD k 0=x/\(l.length+1<=k->x=2):=⟨_,rfl,λh=>by
 rw [getD_eq_getElem?_getD,getElem?_append_right (by exact la [_,_] [([2,3,0],[4])] ([2],[4]) rfl h)]
 rcases (by lia:k - l.length=1\/k - l.length=2\/k - l.length=3\/k - l.length=4) with e | e | e | e <;> rw [e] <;> rfl⟩
theorem Rw.texts_le (r:Rw):r.texts<=r.nodes:=by
 induction r with
 | last g=>exact aR _
 | txt g t r ih=>exact bA ih
 | row g s r ihs ih=>exact Nat.le_succ_of_le (Nat.add_le_add ihs ih)
theorem MP {l:List Int}(hl:l.length<=63):wp (Iu Kx) ⟨loc0 [.ints l],[]⟩ (λf U=>f = .ret (.bool true)) λU U=>False:=by
 unfold Iu
 have B:=Loc.init [.ints l] 16
 generalize loc0 [PV.ints l]=L at B
 have lb:l.length<=big:=aQ hl (by decide)
 refine wpA [[],[.lst 0]] [some (.ints l),some (.lst 1),none,none,none,none,none,none,none,none,none,none,none,none,none,none,none] (by walk_at "wp";exact (by decide:0<=big);exact (by decide:1<=big);exact ⟨rfl,(B.set 1 _ |> At.mk _ rfl)⟩) λL B=>?_
 refine wpA [[],[.lst 0]] [some (.ints l),some (.lst 1),some (.int 0),none,none,none,none,none,none,none,none,none,none,none,none,none,none] (by walk_at "wp";exact ⟨rfl,(B.set 2 _ |> At.mk _ rfl)⟩) λL B=>?_
 refine wpA [[],[.lst 0]] (tLw l (0:Nat) (0:Nat) none none none none none) (by walk_at "wp";exact ⟨rfl,(B.set 3 _ |> At.mk _ rfl)⟩) λL B=>?_
 have sn:(l++[(l.length:Int),2,2,2,2]).length=l.length+5:=by rw [length_append];rfl
 refine wpN (B1 ((l++[(l.length:Int),2,2,2,2]).map .int) l (l.length+5)) ?_ ?_
 ·walk_at "wp"
  rw [RE]
  refine ⟨lb,?_⟩
  walk_at "wp"
  rw [Tx]
  refine ⟨decide_eq_true lb,?_⟩
  walk_at "wp"
  ·exact (by decide:5<=big)
  refine Cg (st:=[[],[.lst 0]]++[l.map .int]++[[.int l.length,.int 2,.int 2,.int 2,.int 2]]) (x:=l.map .int) (y:=[.int l.length,.int 2,.int 2,.int 2,.int 2]) ?_ ?_ ?_ ?_
  ·rfl
  ·rfl
  ·rw [length_append,length_map];exact aQ (Nat.add_le_add_right hl 5) (by decide)
  refine KtI (wpR (KtI (NE (P:=B1 ((l++[(l.length:Int),2,2,2,2]).map .int) l) (n:=l.length+5) (λk=>.int ((l++[(l.length:Int),2,2,2,2]).getD k 0)) ?_ (by have:=Cs;lia) (λk s z lt=>?_) (λs z=>?_) (λk L st z lt=>?_) λU z=>z)))
  ·refine .mk _ [(0,.last [])] 0 0 (.mk _ rfl B) ⟨rfl,λh m=>?_,by simp,λh m=>?_,λh m=>?_,by rw [map_append];rfl⟩ ⟨λh m=>?_,λi h e=>?_,aR _,rfl⟩ (by simp) (by show 1+_<=5;lia) (by decide)
   ·rw [mem_singleton.mp m];exact ⟨[],rfl,rfl⟩
   ·rw [mem_singleton.mp m];exact (by decide:(0:Nat)≠1)
   ·rw [mem_singleton.mp m];exact (by decide:(0:Nat)≠4)
   ·rw [mem_singleton.mp m];exact GE
   ·cases i with
    | zero=>rw [<- Option.some.inj e];exact aP 4
    | succ i=>cases e
  ·obtain ⟨st,hs,tt,tx,⟨L,rfl,_⟩,S,_⟩:=z
   exact FN S.it (by rw [sn];exact lt)
  ·obtain ⟨st,hs,tt,tx,⟨L,rfl,_⟩,S,_⟩:=z
   rw [<- sn]
   exact Hx S.it
  ·obtain ⟨x,ex,h2⟩:=Pl lt
   rw [ex]
   exact RU lt hl h2 z
 clear B
 rintro _ ⟨st,hs,total,texts,⟨L,rfl,B⟩,S,ok,ne,h5,ht⟩
 obtain ⟨⟨o,r⟩,rfl⟩:∃ x,hs=[x]:=by
  cases hs with
  | nil=>exact absurd rfl ne
  | cons x q=>
   cases q with
   | nil=>exact ⟨x,rfl⟩
   | cons y q=>
    rw [length_cons,length_cons] at h5
    lia
 obtain ⟨lo,e,hr⟩:=S.row (o,r) (mem_singleton_self _)
 have okr:=ok.ok (o,r) (mem_singleton_self _)
 have dpr:r.dep<=4:=ok.dep 0 (o,r) rfl
 have nod:r.nodes<=68:=by
  have:r.nodes+0<=l.length+5:=ok.nodes
  lia
 have tex:texts<=68:=by
  have h1:r.texts+0=texts:=ok.texts
  have h2:=r.texts_le
  lia
 refine wpN (λs=>∃ st' T,Tree st' T (r.app (.last [92]))/\At st' [none,none,some (.int total),some (.int texts),none,none,none,none,none,some (.lst T),none,none,none,none,none,none,none] s) ?_ ?_
 ·refine wpB (wpB (wpB (wpL B rfl (KtI (wpB (wpR (KtI (Hs (j:=0) rfl S.rows (by rfl) rfl ?_))))))))
  refine KtI (wpB (wpNL (by decide:1<=big) (Cg (AX e) last_new ?_ (KtI (wpB (wpSet (wpR ⟨rfl,_,_,⟨r.app_ok okr ⟨λc m=>?_,by decide⟩,?_,?_,_,last_new,Bm.app (b:=clB) (q:=.last [92]) rfl (hr.ext (.of ((Bx _).trans (Bx _))))⟩,((B.set 9 _).drop 0).drop 1 |> At.mk _ rfl⟩)))))))
  ·rw [length_append,hr.num]
   have:=r.num_nodes
   exact aQ (show r.num+1<=69 by lia) (by decide)
  ·rw [mem_singleton.mp m];exact ⟨.inl (by decide),by decide,by decide⟩
  ·rw [r.app_dep];exact Nat.max_le.mpr ⟨dpr,aP _⟩
  ·rw [r.app_nodes];exact nod
 clear B
 rintro _ ⟨st1,T,Tr,L,rfl,B⟩
 obtain ⟨bad,hbad⟩:∃ bad:Nat,bad=(if total / 8 % 32=9 then 127 else total / 8 % 32):=⟨_,rfl⟩
 have hb:BadOk bad:=by
  have lt:total / 8 % 32<32:=Nat.mod_lt _ (by decide)
  have:=(by decide:∀ j<32,(if j=9 then 127 else j)<=127/\A1 0 (if j=9 then 127 else j)=true) _ lt
  rw [hbad]
  exact ⟨this.1,this.2⟩
 refine wpA st1 (tV T total texts bad none none none none none none) ?_ λL B=>?_
 ·refine wpB (AK (c:=decide (total / 8 % 32=9)) ?_ (λh=>?_) λh=>?_)
  ·walk_at "wp"
   rw [show (total:Int).fdiv 8=((total / 8:Nat):Int) from Fb total 8,show ((total / 8:Nat):Int).fmod 32=((total / 8 % 32:Nat):Int) from Dg _ 32]
   exact ⟨isZ (b:=9),rfl⟩
  ·rw [if_pos (of_decide_eq_true h)] at hbad
   subst hbad
   walk_at "wp"
   exact ⟨rfl,(B.set 10 _ |> At.mk _ rfl)⟩
  ·rw [if_neg (of_decide_eq_false h)] at hbad
   subst hbad
   walk_at "wp"
   rw [show (total:Int).fdiv 8=((total / 8:Nat):Int) from Fb total 8,show ((total / 8:Nat):Int).fmod 32=((total / 8 % 32:Nat):Int) from Dg _ 32]
   exact ⟨rfl,(B.set 10 _ |> At.mk _ rfl)⟩
 refine wpN (λU=>True) ?_ λU U=>wpB (wpR (KtI (wpR rfl)))
 refine wpB (wpB (wpB (wpSC (wpR (wpSC (wpL B rfl (wpSC (wpB (wpB (wpR (KtI (wpB (wpL B rfl (KtI (Jl rfl (KtI (wpB (wpR (KtI (wpAI (wpSN (KtI (wpNL (by decide:3<=big) (KtI (wpR (KtI ?_))))))))))))))))))))))))))
 generalize ((3:Int)*total+1)=w2
 have hw:(st1++[[PV.int 0,PV.int total,PV.int w2]])[st1.length]? = some (([0,(total:Int),w2]:List Int).map .int):=last_new
 have Tr1:=Tr.grow (Bx [PV.int 0,PV.int total,PV.int w2])
 generalize st1++[[PV.int 0,PV.int total,PV.int w2]]=st2 at hw Tr1 ⊢
 generalize st1.length=a at hw ⊢
 refine NE (P:=λU s=>AtY st2 (tV T total texts bad none none none none none none) s) (n:=3) (λk=>.int (([0,(total:Int),w2]:List Int).getD k 0)) (.mk st2 (prefix_refl _) (.mk _ rfl B)) (aY (by decide) Cs) (λk s z lt=>?_) (λs z=>?_) (λk L3 st3 z lt=>?_) λU U=>trivial
 ·obtain ⟨st3,p,_,rfl,_⟩:=z
  exact FN (Bs p hw) lt
 ·obtain ⟨st3,p,_,rfl,_⟩:=z
  exact Hx (Bs p hw)
 ·obtain ⟨_,p,_,e0,B⟩:=z
  cases e0
  refine wp_mono (VZ (way:=([0,(total:Int),w2]:List Int).getD k 0) hb (Tr1.grow p) ht tex (B.set 11 _)) (λf s z=>⟨z.1,?_⟩) λU U z=>z
  obtain ⟨st4,p4,a4⟩:=z.2
  exact .mk st4 (p.trans p4) a4
theorem plain_law04 (l:List Int)(hl:l.length<=63):∃ K ps',Iu K ⟨λi=>([PV.ints l])[i]?,[]⟩ = .ok (.ret (.bool true)) ps':=by
 have h:=MP hl
 unfold wp loc0 at h
 refine ⟨Kx,?_⟩
 cases q:Iu Kx ⟨λi=>([PV.ints l])[i]?,[]⟩ with
 | ok f s=>rw [q] at h;exact ⟨s,by rw [show f = .ret (.bool true) from h]⟩
 | ex e s=>rw [q] at h;exact h.elim
 | stuck=>rw [q] at h;exact h.elim
end Mi
end
end
theorem PySem.Challenge.cw_kp0046_04_holds : PySem.Challenge.rw_kp0046_04.Holds := by
  exact Mi.holds04 Mi.plain_law04
