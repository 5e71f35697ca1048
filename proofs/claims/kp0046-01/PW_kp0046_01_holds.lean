import PyProof.Rows.All
import Wide.All
import OpenK.AllK
import Wide.FinOn
import PyProof.InstEq
import PyProof.NsDelKeeps
import PyProof.ExcStrAll.ValueError
import PyProof.ExcBaseAll.ValueError
import PyProof.ExcStrCall
import PyProof.FString4
import KE.KIntText
import PyProof.ListStr
import PyProof.ListCopy
import PyProof.ListRange
import KE.KNest
import PyProof.WalkInts
import PyProof.StrCalls
import PyProof.SeqI3
import PySem.Challenge.RW_kp0046_01
set_option Elab.async false
set_option linter.all false
set_option tactic.hygienic false
set_option bootstrap.genMatcherCode false
set_option compiler.extract_closed false
set_option genSizeOf false
set_option genInjectivity false
set_option genCtorIdx false
set_option backward.linearNoConfusionType false
namespace Mi
noncomputable def lnO {α:Type}(f:α->α->α):List α->List α
  | y::x::t=>f x y::t
  | s=>s
noncomputable def lnF {α:Type}(f:α->α->α)(v:Nat->α)(s:List α)(l:List Nat):List α:=l.foldl (fun s k=>cond (Nat.beq k 0) (lnO f s) (v k::s)) s
noncomputable def lnV (c:List Nat)(k:Nat):Nat:=cond (Nat.beq (k % 2) 0) (c.getD (k / 2 - 1) 0) (k / 2)
noncomputable def lnX (c:List Nat)(l:List Nat):Nat:=(lnF (fun x y=>x+y) (lnV c) [] l).headD 0
noncomputable def lnE:List Nat->List Nat->Nat
  | a::x,b::c=>a*b+lnE x c
  | _,_=>0
noncomputable def lnP:List Nat->List Nat->List Nat
  | a::x,b::y=>(a+b)::lnP x y
  | [],y=>y
  | x,[]=>x
noncomputable def lnQ (k:Nat):List Nat:=cond (Nat.beq (k % 2) 0) (List.replicate (k / 2 - 1+1) 0++[1]) [k / 2]
noncomputable def lnY (l:List Nat):List Nat:=(lnF lnP lnQ [] l).headD []
noncomputable def lnG:List Nat->List Nat->Bool
  | _,[]=>true
  | [],b::y=>Nat.beq b 0&&lnG [] y
  | a::x,b::y=>Nat.ble b a&&lnG x y
noncomputable def lnS (f:List Nat × List Nat->List Nat)(g:List Nat)(l:List (List Nat × List Nat)):List Nat:=l.foldr (fun p s=>lnP (lnY (f p)) s) (lnY g)
noncomputable def lnH (c:List Nat)(g:List Nat × List Nat)(l:List (List Nat × List Nat)):Prop:=l.foldr (fun p P=>lnX c p.1<=lnX c p.2->P) (lnX c g.1<=lnX c g.2)
private theorem lnN (x:List Nat):lnE x []=0:=by cases x <;> rfl
private theorem KO:∀ x y c,lnE (lnP x y) c=lnE x c+lnE y c
  | x,y,[]=>by rw [lnN,lnN,lnN]
  | a::x,b::y,d::c=>by
    show (a+b)*d+lnE (lnP x y) c=a*d+lnE x c+(b*d+lnE y c)
    rw [KO,Nat.add_mul,Nat.add_assoc,Nat.add_assoc,Nat.add_left_comm (b*d)]
  | [],[],_::_=>rfl
  | [],_::_,_::_=>(Nat.zero_add _).symm
  | _::_,[],_::_=>rfl
private theorem QK:∀ i c,lnE (List.replicate i 0++[1]) c=c.getD i 0
  | i,[]=>lnN _
  | 0,x::c=>(congr (congrArg _ (Nat.one_mul x)) rfl).trans (Nat.add_zero x)
  | i+1,x::c=>by
    show 0*x+lnE (List.replicate i 0++[1]) c=c.getD i 0
    rw [QK,Nat.zero_mul,Nat.zero_add]
private theorem QM {α β:Type}{f:α->α->α}{v:Nat->α}{f':β->β->β}{v':Nat->β}(h:α->β)(hf:∀ a b,h (f a b)=f' (h a) (h b))(hv:∀ k,h (v k)=v' k):∀ (l:List Nat) (s:List α),(lnF f v s l).map h=lnF f' v' (s.map h) l
  | [],s=>rfl
  | k::l,s=>by
    refine (QM h hf hv l _).trans (congrArg (lnF f' v' · l) ?_)
    show (cond (Nat.beq k 0) (lnO f s) (v k::s)).map h=cond (Nat.beq k 0) (lnO f' (s.map h)) (v' k::s.map h)
    cases Nat.beq k 0 with
    | true=>
      match s with
      | y::x::t=>exact congrArg (·::t.map h) (hf x y)
      | [y]=>rfl
      | []=>rfl
    | false=>exact congrArg (·::s.map h) (hv k)
private theorem lnZ {l:List (List Nat)}{m c:List Nat}(h:l.map (lnE · c)=m):lnE (l.headD []) c=m.headD 0:=by
  subst h
  cases l <;> rfl
private theorem KP (c l:List Nat):lnE (lnY l) (1::c)=lnX c l:=
  lnZ (QM (s:=[]) (lnE · (1::c)) (fun a b=>KO a b _) (fun k=>by
    unfold lnQ lnV
    cases Nat.beq (k % 2) 0 with
    | true=>exact (Nat.zero_add _).trans (QK _ _)
    | false=>exact Nat.mul_one _) l)
private theorem MX:∀ x y c,lnG x y=true->lnE y c<=lnE x c
  | _,y,[],_=>by rw [lnN];exact Nat.zero_le _
  | _,[],_::_,_=>Nat.zero_le _
  | [],b::y,d::c,h=>by
    have h:=Bool.and_eq_true_iff.mp h
    show b*d+lnE y c<=0
    rw [Nat.eq_of_beq_eq_true h.1,Nat.zero_mul,Nat.zero_add]
    exact Nat.le_trans (MX [] y c h.2) (Nat.le_refl 0)
  | a::x,b::y,d::c,h=>by
    have h:=Bool.and_eq_true_iff.mp h
    exact Nat.add_le_add (Nat.mul_le_mul_right d (Nat.le_of_ble_eq_true h.1)) (MX x y c h.2)
private theorem QN (c:List Nat)(g:List Nat × List Nat):∀ (l:List (List Nat × List Nat)) (A B:Nat),A<=B->B+lnE (lnS Prod.snd g.1 l) (1::c)<=A+lnE (lnS Prod.fst g.2 l) (1::c)->lnH c g l
  | [],A,B,h,k=>by
    have k:B+lnE (lnY g.1) (1::c)<=A+lnE (lnY g.2) (1::c):=k
    rw [KP,KP] at k
    exact Nat.le_of_add_le_add_left (Nat.le_trans k (Nat.add_le_add_right h _))
  | p::r,A,B,h,k=>fun q=>by
    have k:B+lnE (lnP (lnY p.2) (lnS Prod.snd g.1 r)) (1::c)<=A+lnE (lnP (lnY p.1) (lnS Prod.fst g.2 r)) (1::c):=k
    rw [KO,KO,KP,KP,<- Nat.add_assoc,<- Nat.add_assoc] at k
    exact QN c g r _ _ (Nat.add_le_add h q) k
private theorem la (c:List Nat)(l:List (List Nat × List Nat))(g:List Nat × List Nat)(h:true=lnG (lnS Prod.fst g.2 l) (lnS Prod.snd g.1 l)):lnH c g l:=
  QN c g l 0 0 (Nat.le_refl _) (Nat.add_le_add_left (MX _ _ (1::c) h.symm) 0)
private theorem lcS (a b:Nat):a<=a - b+b:=Nat.sub_le_iff_le_add.mp (Nat.le_refl _)
private theorem lcC {a b:Nat}(h:b<=a):a - b+b<=a:=Nat.le_of_eq (Nat.sub_add_cancel h)
end Mi
theorem Mi.hideG {G:Prop}(h:∀ P:Prop,(G->P)->P):G:=h G fun x=>x
local macro_rules | `(tactic| obtain $p:rcasesPatMed := $e) => do
  if p.raw[0][0][1].getNumArgs<7 then Lean.Macro.throwUnsupported
  `(tactic| (refine Mi.hideG fun P k=>?_;rcases $e:term with $p <;> (refine k ?_;clear k P)))
local macro_rules | `(tactic| cases $e:ident) => do
  let r:=Lean.mkIdent `rfl
  `(tactic| first | (exfalso;injection $e:ident;done) | obtain $r:ident:=$e:ident | (injection $e:ident with a b;cases a <;> cases b) | (injection $e:ident with a;cases a) | cases ($e))
section
open PySem PySem.W PySem.Calls PyProof.Rows
open PySem.Sem (wp)
set_option maxRecDepth 10000
namespace Mh
noncomputable abbrev Kb {α β:Type}(M:Model)(A:Around)(f:α->Sem β)(Q:β->Shared->Prop)(E:Value->Shared->Prop)(a:α)(s:Shared):Prop:=wpAny M A (f a) Q E s
private theorem KbI {α β:Type}{M:Model}{A:Around}{f:α->Sem β}{Q:β->Shared->Prop}{E:Value->Shared->Prop}{a:α}{s:Shared}(h:wpAny M A (f a) Q E s):Kb M A f Q E a s:=h
private theorem wbK {α β:Type}{M:Model}{A:Around}{m:Sem α}{f:α->Sem β}{Q:β->Shared->Prop}{E:Value->Shared->Prop}{s:Shared}(h:wpAny M A m (Kb M A f Q E) E s):wpAny M A (m >>= f) Q E s:=wpAny_bind h
structure SX where
 sh:SharedT
 gh:List (Addr × List Str)
inductive Lf where
 | fin (f:PySem.Fin)
 | exc (x:Value)
 | susp (v:Value) (g:Bool) (l:List Value) (k:Resume->Sem PySem.Fin)
noncomputable def Au (M:Model)(Γ:Ctx)(p:Pos)(t:Sem PySem.Fin)(s:Shared):Lf->Pos->Shared->Prop
 | .fin f,p',s'=>∀ Q E,Q f p' s'->wp M Γ t Q E p s
 | .exc x,p',s'=>∀ Q E,E x p' s'->wp M Γ t Q E p s
 | .susp v g l k,p',s'=>Runs M Γ p t [] s (.susp v g l k Γ.code p' []) s'
inductive Sp where
 | no
 | loop (a:Addr) (it:Value)
 | or (a b:Addr)
 | sub (a b:Addr)
noncomputable def Hb:Value->Option Addr
 | .ref a=>some a
 | _=>none
noncomputable def spB (n:Nat):List Value->Sp
 | [x,it]=>match Hb x with
  | some a=>match Nat.beq n 589010082235415537506245985091020404 with
   | true=>.loop a it
   | false=>match Hb it with
    | some b=>match Nat.beq n 128106689474256730729217500516147295079 with
     | true=>.or a b
     | false=>match Nat.beq n 32795229551939066288708134027670812914535 with
      | true=>.sub a b
      | false=>.no
    | none=>.no
  | none=>.no
 | _=>.no
noncomputable def spOf (c:Code):Sp:=match c with
 | .builtin id args=>match args with
  | ⟨pos,kw⟩=>match kw with
   | []=>spB (code id) pos
   | _=>.no
 | _=>.no
structure Orc where
 add:Ctx->Pos->Addr->Str->Tok->SX->Option (Pos × SX)
 or:Ctx->Pos->Addr->Addr->SX->Option (Value × SX)
 sub:Ctx->Pos->Addr->Addr->SX->Option (Value × SX)
 inv:SX->Prop
noncomputable def MY (a:Addr):List (Addr × List Str)->Bool
 | []=>false
 | x::r=>match Nat.beq x.1 a with
  | true=>true
  | false=>MY a r
noncomputable def QP:End->Option Result
 | .ret r=>some r
 | _=>none
noncomputable def R8:Lf->Option Code
 | .fin (.again c)=>some c
 | _=>none
noncomputable def bare:Resume->Bool
 | .send .none=>true
 | _=>false
noncomputable def aft (ev:GenResult->SX->Option (Lf × Pos × SX))(g:Nat):End × SX->Option (Lf × Pos × SX)
 | (e,⟨⟨T,N,life,gens,drawn,toks,os⟩,gh⟩)=>cond e.quiet (ev e.result ⟨⟨T,N,life,gens.setIfInBounds g e.genState,drawn,toks,os⟩,gh⟩) none
noncomputable def R9 (M:Model)(rec:Ctx->Pos->SX->Option (End × SX))(ev:Ctx->Pos->Sem PySem.Fin->SX->Option (Lf × Pos × SX))(Γ:Ctx)(p:Pos)(t:Sem PySem.Fin):SX->Option (Lf × Pos × SX)
 | ⟨⟨T,N,life,gens,drawn,toks,os⟩,gh⟩=>match t with
  | .pure f=>some (.fin f,p,⟨⟨T,N,life,gens,drawn,toks,os⟩,gh⟩)
  | .raise x=>some (.exc x,p,⟨⟨T,N,life,gens,drawn,toks,os⟩,gh⟩)
  | .yield v g l k=>some (.susp v g l k,p,⟨⟨T,N,life,gens,drawn,toks,os⟩,gh⟩)
  | .rule _ k=>ev Γ p (k ()) ⟨⟨T,N,life,gens,drawn,toks,os⟩,gh⟩
  | .at p' k=>ev Γ p' (k ()) ⟨⟨T,N,life,gens,drawn,toks,os⟩,gh⟩
  | .load a _ k=>cond (Nat.blt a N) ((T.get a).bind fun o=>(alive o).bind fun o'=>ev Γ p (k o') ⟨⟨T,N,life,gens,drawn,toks,os⟩,gh⟩) none
  | .update a _ f k=>cond (MY a gh) none (cond (Nat.blt a N) ((T.get a).bind fun o=>(alive o).bind fun U=>ev Γ p (k ()) ⟨⟨T.set a f,N,life,gens,drawn,toks,os⟩,gh⟩) none)
  | .alloc o k=>match N with
   | 0=>none
   | j+1=>cond ((T.ins (j+1) o).get (j+1)).isSome (ev Γ p (k (j+1)) ⟨⟨T.ins (j+1) o,j+1+1,life,gens,drawn,toks,os⟩,gh⟩) none
  | .loadIfAlive a k=>cond (Nat.blt a N) ((T.get a).bind fun o=>ev Γ p (k (alive o)) ⟨⟨T,N,life,gens,drawn,toks,os⟩,gh⟩) (ev Γ p (k none) ⟨⟨T,N,life,gens,drawn,toks,os⟩,gh⟩)
  | .point _ k=>ev Γ p (k ()) ⟨⟨T,N,life,gens,drawn,toks,os⟩,gh⟩
  | .fresh k=>ev Γ p (k toks) ⟨⟨T,N,life,gens,drawn,toks+1,os⟩,gh⟩
  | .ask k=>ev Γ p (k ⟨M.prog,M.w.params⟩) ⟨⟨T,N,life,gens,drawn,toks,os⟩,gh⟩
  | .handled own k=>ev Γ p (k (if own then Γ.own else Γ.handled)) ⟨⟨T,N,life,gens,drawn,toks,os⟩,gh⟩
  | .stack k=>ev Γ p (k ((Γ.code,p)::Γ.below)) ⟨⟨T,N,life,gens,drawn,toks,os⟩,gh⟩
  | .thread k=>ev Γ p (k 0) ⟨⟨T,N,life,gens,drawn,toks,os⟩,gh⟩
  | .genState g k=>gens[g]?.bind fun st=>ev Γ p (k st.seen) ⟨⟨T,N,life,gens,drawn,toks,os⟩,gh⟩
  | .newGen c k=>ev Γ p (k gens.size) ⟨⟨T,N,life,gens.push (.fresh c),drawn,toks,os⟩,gh⟩
  | .call c h _ _ k=>(rec (Γ.enter c h p) p ⟨⟨T,N,life,gens,drawn,toks,os⟩,gh⟩).bind fun r=>(QP r.1).bind fun v=>ev Γ p (k v) r.2
  | .resume g r _ k=>gens[g]?.bind fun st=>match st with
   | .fresh c=>cond (bare r) ((rec (Γ.wake c p) p ⟨⟨T,N,life,gens.setIfInBounds g .running,drawn,toks,os⟩,gh⟩).bind (aft (fun v=>ev Γ p (k v)) g)) none
   | .suspended i5 _ Z4 j5 fs _=>cond fs.isEmpty ((ev (Γ.wake Z4 p) j5 (i5 r) ⟨⟨T,N,life,gens.setIfInBounds g .running,drawn,toks,os⟩,gh⟩).bind fun x=>(R8 x.1).bind fun c=>
     cond c.quiet ((rec ((Γ.wake Z4 p).goto c) x.2.1 x.2.2).bind (aft (fun v=>ev Γ p (k v)) g)) none) none
   | _=>none
  | _=>none
noncomputable def evW (M:Model)(rec:Ctx->Pos->SX->Option (End × SX)):Nat->Ctx->Pos->Sem PySem.Fin->SX->Option (Lf × Pos × SX)
 | 0=>fun U U U U=>none
 | n+1=>R9 M rec (evW M rec n)
noncomputable def Hc:Option Value->Sem PySem.Fin
 | none=>.pure (.done .next)
 | some v=>.pure (.done (.ret v))
noncomputable def strOf:Value->Option (Str × Tok)
 | .str x u=>some (x,u)
 | _=>none
noncomputable def Sa (M:Model)(O:Orc)(rec:Ctx->Pos->SX->Option (End × SX))(ev:Ctx->Pos->Sem PySem.Fin->SX->Option (Lf × Pos × SX))(Γ:Ctx)(p:Pos)(S:SX):Sp->Option (End × SX)
 | .no=>(ev Γ p (M.den Γ.code) S).bind fun r=>match r.1 with
  | .fin f=>match f with
   | .done f=>some (.ret (.ok f),r.2.2)
   | .again c=>cond c.quiet (rec (Γ.goto c) r.2.1 r.2.2) none
  | .exc x=>some (.ret (.error x),r.2.2)
  | .susp v g l k=>some (.susp v g l k Γ.code r.2.1 [],r.2.2)
 | .loop a it=>(ev Γ p ((pyNext it).bind Hc) S).bind fun r=>match r.1 with
  | .fin f=>match f with
   | .done f=>match f with
    | .next=>some (.ret (.ok (.ret .none)),r.2.2)
    | .ret v=>(strOf v).bind fun x=>(O.add Γ r.2.1 a x.1 x.2 r.2.2).bind fun q=>cond Γ.code.quiet (rec (Γ.goto Γ.code) q.1 q.2) none
    | _=>none
   | _=>none
  | _=>none
 | .or a b=>(O.or Γ p a b S).bind fun r=>some (.ret (.ok (.ret r.1)),r.2)
 | .sub a b=>(O.sub Γ p a b S).bind fun r=>some (.ret (.ok (.ret r.1)),r.2)
noncomputable def evC (M:Model)(O:Orc)(m:Nat):Nat->Ctx->Pos->SX->Option (End × SX)
 | 0=>fun U U U=>none
 | d+1=>fun Γ p S=>Sa M O (evC M O m d) (evW M (evC M O m d) m) Γ p S (spOf Γ.code)
structure Orc.Ok (O:Orc)(M:Model):Prop where
 up:∀ {T N life gens drawn toks os gh a f},O.inv ⟨⟨T,N,life,gens,drawn,toks,os⟩,gh⟩->MY a gh=false->O.inv ⟨⟨T.set a f,N,life,gens,drawn,toks,os⟩,gh⟩
 new:∀ {T N life gens drawn toks os gh o},O.inv ⟨⟨T,N,life,gens,drawn,toks,os⟩,gh⟩->((T.ins N o).get N).isSome=true->O.inv ⟨⟨T.ins N o,N+1,life,gens,drawn,toks,os⟩,gh⟩
 rest:∀ {T N life gens drawn toks os gh gens' toks'},O.inv ⟨⟨T,N,life,gens,drawn,toks,os⟩,gh⟩->O.inv ⟨⟨T,N,life,gens',drawn,toks',os⟩,gh⟩
 add:∀ {a x u S q S'} (Γ:Ctx) (p:Pos),O.inv S->O.add Γ p a x u S=some (q,S')->(∀ (Q:Bool->Pos->Shared->Prop) E,(∀ b,Q b q S'.sh.abs)->wp M Γ (setAdd a (.str x u)) Q E p S.sh.abs)/\O.inv S'
 or:∀ {a b S v S'} (Γ:Ctx) (p:Pos),O.inv S->Γ.code = .builtin "frozenset.__or__" ⟨[.ref a,.ref b],[]⟩->O.or Γ p a b S=some (v,S')->Runs M Γ p (M.den Γ.code) [] S.sh.abs (.ret (.ok (.ret v))) S'.sh.abs/\O.inv S'
 sub:∀ {a b S v S'} (Γ:Ctx) (p:Pos),O.inv S->Γ.code = .builtin "frozenset.__sub__" ⟨[.ref a,.ref b],[]⟩->O.sub Γ p a b S=some (v,S')->Runs M Γ p (M.den Γ.code) [] S.sh.abs (.ret (.ok (.ret v))) S'.sh.abs/\O.inv S'
 loop:∀ a it,M.den (.builtin "set.update.loop" ⟨[.ref a,it],[]⟩)=Builtin.«set.update.loop» ⟨[.ref a,it],[]⟩
private theorem E7 {id:String}{n:Nat}(s:String)(hs:code s=n)(h:Nat.beq (code id) n=true):id=s:=
 code_inj _ _ ((Nat.eq_of_beq_eq_true h).trans hs.symm)
inductive SpIs (c:Code):Sp->Prop
 | no:SpIs c .no
 | loop {a it} (h:c = .builtin "set.update.loop" ⟨[.ref a,it],[]⟩):SpIs c (.loop a it)
 | or {a b} (h:c = .builtin "frozenset.__or__" ⟨[.ref a,.ref b],[]⟩):SpIs c (.or a b)
 | sub {a b} (h:c = .builtin "frozenset.__sub__" ⟨[.ref a,.ref b],[]⟩):SpIs c (.sub a b)
private theorem B2 {x:Value}{a:Addr}(h:Hb x=some a):x = .ref a:=by
 cases x with
 | ref b=>cases h;rfl
 | _=>exact (by cases h)
private theorem Q9 (id:String)(x it:Value):SpIs (.builtin id ⟨[x,it],[]⟩) (spB (code id) [x,it]):=by
 unfold spB
 dsimp only
 cases hx:Hb x with
 | none=>exact .no
 | some a=>
  rw [B2 hx]
  dsimp only
  cases h1:Nat.beq (code id) 589010082235415537506245985091020404 with
  | true=>exact .loop (by rw [E7 "set.update.loop" (by decide +kernel) h1])
  | false=>
   cases hi:Hb it with
   | none=>exact .no
   | some b=>
    rw [B2 hi]
    dsimp only
    cases h2:Nat.beq (code id) 128106689474256730729217500516147295079 with
    | true=>exact .or (by rw [E7 "frozenset.__or__" (by decide +kernel) h2])
    | false=>
     cases h3:Nat.beq (code id) 32795229551939066288708134027670812914535 with
     | true=>exact .sub (by rw [E7 "frozenset.__sub__" (by decide +kernel) h3])
     | false=>exact .no
private theorem Pl (c:Code):SpIs c (spOf c):=by
 cases c with
 | builtin id args=>
  obtain ⟨pos,kw⟩:=args
  cases kw with
  | cons=>exact .no
  | nil=>
   cases pos with
   | nil=>exact .no
   | cons x r=>
    cases r with
    | nil=>exact .no
    | cons y r=>
     cases r with
     | nil=>exact Q9 id x y
     | cons=>exact .no
 | _=>exact .no
private theorem CK {M:Model}{Γ:Ctx}{p:Pos}{t:Sem PySem.Fin}{s:Shared}{r:Result}{s':Shared}
  (h:wp M Γ t (Sem.finPost M Γ (fun r' s''=>r'=r/\s''=s')) (fun e U s''=>(Except.error e:Result)=r/\s''=s') p s):Runs M Γ p t [] s (.ret r) s':=by
 obtain ⟨r',s'',a,rfl,rfl⟩:=(Sem.wp_iff_runs M Γ t _ p s).mp h
 exact a
variable {M:Model}{Γ:Ctx}{p p':Pos}{s s':Shared}{lf:Lf}
private theorem Au.rule {k}{tag}(h:Au M Γ p (k ()) s lf p' s'):Au M Γ p (.rule tag k) s lf p' s':=by
 cases lf with
 | fin f=>exact fun Q E q=>h Q E q
 | exc x=>exact fun Q E q=>h Q E q
 | susp=>exact Runs.rule h
private theorem Au.at {q}{k}(h:Au M Γ q (k ()) s lf p' s'):Au M Γ p (.at q k) s lf p' s':=by
 cases lf with
 | fin f=>exact fun Q E q=>h Q E q
 | exc x=>exact fun Q E q=>h Q E q
 | susp=>exact Runs.at h
private theorem Au.point {l}{k}(h:Au M Γ p (k ()) s lf p' s'):Au M Γ p (.point l k) s lf p' s':=by
 cases lf with
 | fin f=>exact fun Q E q=>h Q E q
 | exc x=>exact fun Q E q=>h Q E q
 | susp=>exact Runs.point h
private theorem Au.load {a part o}{k}(e:s.heap.get? a=some o)(h:Au M Γ p (k o) s lf p' s'):Au M Γ p (.load a part k) s lf p' s':=by
 cases lf with
 | fin f=>exact fun Q E q=>⟨o,e,h Q E q⟩
 | exc x=>exact fun Q E q=>⟨o,e,h Q E q⟩
 | susp=>exact Runs.load e h
private theorem Au.update {a part f}{k}(e:(s.heap.get? a).isSome)(h:Au M Γ p (k ()) { s with heap:=s.heap.update a f } lf p' s'):Au M Γ p (.update a part f k) s lf p' s':=by
 cases lf with
 | fin f=>exact fun Q E q=>⟨e,h Q E q⟩
 | exc x=>exact fun Q E q=>⟨e,h Q E q⟩
 | susp=>exact Runs.update e h
private theorem Au.alloc {o}{k}(h:Au M Γ p (k s.heap.objs.size) { s with heap:=s.heap.push o } lf p' s'):Au M Γ p (.alloc o k) s lf p' s':=by
 cases lf with
 | fin f=>exact fun Q E q=>h Q E q
 | exc x=>exact fun Q E q=>h Q E q
 | susp=>exact Runs.alloc h
private theorem Au.loadIfAlive {a}{k}(h:Au M Γ p (k (s.heap.get? a)) s lf p' s'):Au M Γ p (.loadIfAlive a k) s lf p' s':=by
 cases lf with
 | fin f=>exact fun Q E q=>h Q E q
 | exc x=>exact fun Q E q=>h Q E q
 | susp=>exact Runs.loadIfAlive h
private theorem Au.fresh {k}(h:Au M Γ p (k s.toks) { s with toks:=s.toks+1 } lf p' s'):Au M Γ p (.fresh k) s lf p' s':=by
 cases lf with
 | fin f=>exact fun Q E q=>h Q E q
 | exc x=>exact fun Q E q=>h Q E q
 | susp=>exact Runs.fresh h
private theorem Au.ask {k}(h:Au M Γ p (k ⟨M.prog,M.w.params⟩) s lf p' s'):Au M Γ p (.ask k) s lf p' s':=by
 cases lf with
 | fin f=>exact fun Q E q=>h Q E q
 | exc x=>exact fun Q E q=>h Q E q
 | susp=>exact Runs.ask h
private theorem Au.handled {own}{k}(h:Au M Γ p (k (if own then Γ.own else Γ.handled)) s lf p' s'):Au M Γ p (.handled own k) s lf p' s':=by
 cases lf with
 | fin f=>exact fun Q E q=>h Q E q
 | exc x=>exact fun Q E q=>h Q E q
 | susp=>exact Runs.handled h
private theorem Au.stack {k}(h:Au M Γ p (k ((Γ.code,p)::Γ.below)) s lf p' s'):Au M Γ p (.stack k) s lf p' s':=by
 cases lf with
 | fin f=>exact fun Q E q=>h Q E q
 | exc x=>exact fun Q E q=>h Q E q
 | susp=>exact Runs.stack h
private theorem Au.thread {k}(h:Au M Γ p (k 0) s lf p' s'):Au M Γ p (.thread k) s lf p' s':=by
 cases lf with
 | fin f=>exact fun Q E q=>h Q E q
 | exc x=>exact fun Q E q=>h Q E q
 | susp=>exact Runs.thread h
private theorem Au.genState {g st}{k}(e:s.gens[g]? = some st)(h:Au M Γ p (k st.seen) s lf p' s'):Au M Γ p (.genState g k) s lf p' s':=by
 cases lf with
 | fin f=>exact fun Q E q=>⟨st,e,h Q E q⟩
 | exc x=>exact fun Q E q=>⟨st,e,h Q E q⟩
 | susp=>exact Runs.genState e h
private theorem Au.newGen {c}{k}(h:Au M Γ p (k s.gens.size) { s with gens:=s.gens.push (.fresh c) } lf p' s'):Au M Γ p (.newGen c k) s lf p' s':=by
 cases lf with
 | fin f=>exact fun Q E q=>h Q E q
 | exc x=>exact fun Q E q=>h Q E q
 | susp=>exact Runs.newGen h
private theorem Au.call {c h g l r c0}{k}(x:Runs M (Γ.enter c h p) p (M.den c) [] s (.ret r) c0)(y:Au M Γ p (k r) c0 lf p' s'):Au M Γ p (.call c h g l k) s lf p' s':=by
 cases lf with
 | fin f=>exact fun Q E q=>⟨r,c0,x,y Q E q⟩
 | exc e=>exact fun Q E q=>⟨r,c0,x,y Q E q⟩
 | susp=>exact Runs.call x y
private theorem Au.resumeF {g l c u0 c0}{k}(e:s.gens[g]? = some (.fresh c))(x:Runs M (Γ.wake c p) p (M.den c) [] (s.setGen g .running) u0 c0)(q:End.quiet u0=true)
  (y:Au M Γ p (k u0.result) (c0.setGen g u0.genState) lf p' s'):Au M Γ p (.resume g (.send .none) l k) s lf p' s':=by
 have W:Wakes M Γ p g (.send .none) s u0.result (c0.setGen g u0.genState):=by
  unfold Wakes;rw [e];exact ⟨u0,c0,x,q,rfl,rfl⟩
 cases lf with
 | fin f=>exact fun Q E q=>⟨_,_,W,y Q E q⟩
 | exc e=>exact fun Q E q=>⟨_,_,W,y Q E q⟩
 | susp=>exact Runs.resumeFresh e x q y
private theorem Au.resumeS {g r l i5 w6 Z4 j5 cl u0 c0}{k}(e:s.gens[g]? = some (.suspended i5 w6 Z4 j5 [] cl))(x:Runs M (Γ.wake Z4 p) j5 (i5 r) [] (s.setGen g .running) u0 c0)(q:End.quiet u0=true)
  (y:Au M Γ p (k u0.result) (c0.setGen g u0.genState) lf p' s'):Au M Γ p (.resume g r l k) s lf p' s':=by
 have W:Wakes M Γ p g r s u0.result (c0.setGen g u0.genState):=by
  unfold Wakes;rw [e];exact ⟨u0,c0,x,q,rfl,rfl⟩
 cases lf with
 | fin f=>exact fun Q E q=>⟨_,_,W,y Q E q⟩
 | exc e=>exact fun Q E q=>⟨_,_,W,y Q E q⟩
 | susp=>exact Runs.resumeSuspended e x q y
private theorem Dy {t:Sem PySem.Fin}{c:Code}{p' s' e s''}(h:Au M Γ p t s (.fin (.again c)) p' s')(hq:c.quiet=true)
  (y:Runs M (Γ.goto c) p' (M.den c) [] s' e s''):Runs M Γ p t [] s e s'':=by
 have w:wp M (Γ.over []) t (fun a q z=>a = .again c/\q=p'/\z=s') (fun U U U=>False) p s:=h _ _ ⟨rfl,rfl,rfl⟩
 obtain ⟨u0,z,a,b⟩:=runs_wrap_of_wp (Γ:=Γ) (fs:=[]) (Φ:=fun x z=>x=e/\z=s'') (fun a=>.pure a) .raise id id t w
  (fun a q z ⟨e1,e2,e3⟩=>by subst e1 e2 e3;exact ⟨e,s'',.again hq y,rfl,rfl⟩) (fun U U U h=>h.elim)
 obtain ⟨rfl,rfl⟩:=b
 have:t.wrap (fun a=>(.pure a:Sem PySem.Fin)) .raise id id=t:=by
  rw [<- Sem.bind_eq_wrap]
  have:=bind_pure (m:=Sem) t
  exact this
 rwa [this] at a
private theorem DM {α β:Type}{a a':α}{b b':β}{C:Prop}(h:some (a,b)=some (a',b'))(k:a'=a->b'=b->C):C:=k (congrArg Prod.fst (Option.some.inj h)).symm (congrArg Prod.snd (Option.some.inj h)).symm
private theorem MZ {α β γ:Type}{a a':α}{b b':β}{c c':γ}{C:Prop}(h:some (a,b,c)=some (a',b',c'))(k:a'=a->b'=b->c'=c->C):C:=
 k (congrArg Prod.fst (Option.some.inj h)).symm (congrArg (fun x=>x.2.1) (Option.some.inj h)).symm (congrArg (fun x=>x.2.2) (Option.some.inj h)).symm
private theorem AX {α β:Type}{o:Option α}{f:α->Option β}{b:β}{C:Prop}(h:o.bind f=some b)(k:∀ a,o=some a->f a=some b->C):C:=by
 cases o with
 | none=>cases h
 | some a=>exact k a rfl h
private theorem BG {β:Type}{c:Bool}{x:Option β}{b:β}{C:Prop}(h:cond c x none=some b)(k:c=true->x=some b->C):C:=by
 cases c with
 | false=>cases h
 | true=>exact k rfl h
private theorem M0 {β:Type}{c:Bool}{x:Option β}{b:β}{C:Prop}(h:cond c none x=some b)(k:c=false->x=some b->C):C:=by
 cases c with
 | false=>exact k rfl h
 | true=>cases h
private theorem retOf_some {e:End}{r:Result}(h:QP e=some r):e = .ret r:=by
 cases e with
 | ret=>cases h;rfl
 | _=>cases h
private theorem agOf_some {l:Lf}{c:Code}(h:R8 l=some c):l = .fin (.again c):=by
 cases l with
 | fin f=>cases f with
  | again=>cases h;rfl
  | done=>cases h
 | _=>cases h
private theorem bare_is {r:Resume}(h:bare r=true):r = .send .none:=by
 cases r with
 | throw=>cases h
 | send v=>cases v with
  | none=>rfl
  | _=>cases h
noncomputable def Pm (M:Model)(O:Orc)(ev:Ctx->Pos->Sem PySem.Fin->SX->Option (Lf × Pos × SX)):Prop:=∀ (Γ:Ctx) (p:Pos) (t:Sem PySem.Fin) (S:SX) (lf:Lf) (p':Pos) (S':SX),O.inv S->ev Γ p t S=some (lf,p',S') ->
   Au M Γ p t S.sh.abs lf p' S'.sh.abs/\O.inv S'
noncomputable def M1 (M:Model)(O:Orc)(rec:Ctx->Pos->SX->Option (End × SX)):Prop:=∀ (Γ:Ctx) (p:Pos) (S:SX) (e:End) (S':SX),O.inv S->rec Γ p S=some (e,S')->Runs M Γ p (M.den Γ.code) [] S.sh.abs e S'.sh.abs/\O.inv S'
section
variable {O:Orc}{rec:Ctx->Pos->SX->Option (End × SX)}{ev:Ctx->Pos->Sem PySem.Fin->SX->Option (Lf × Pos × SX)}
private theorem M2 (hO:O.Ok M)(ih:Pm M O ev){k:GenResult->Sem PySem.Fin}{g:Nat}{e:End}{i4:SX}{lf:Lf}{S':SX}(hi:O.inv i4)(h:aft (fun v=>ev Γ p (k v)) g (e,i4)=some (lf,p',S')) :
  e.quiet=true/\Au M Γ p (k e.result) (i4.sh.abs.setGen g e.genState) lf p' S'.sh.abs/\O.inv S':=by
 obtain ⟨⟨T,N,life,gens,drawn,toks,os⟩,gh⟩:=i4
 exact BG h fun q h=>⟨q,ih _ _ _ _ _ _ _ (hO.rest hi) h⟩
private theorem Pn (hO:O.Ok M)(hrec:M1 M O rec)(ih:Pm M O ev):Pm M O (R9 M rec ev):=by
 intro Γ p t S lf p' S' hi h
 obtain ⟨⟨T,N,life,gens,drawn,toks,os⟩,gh⟩:=S
 have nx:∀ {q r x S l},O.inv S->ev q r x S=some (l,p',S')->Au M q r x S.sh.abs l p' S'.sh.abs/\O.inv S':=fun i h=>ih _ _ _ _ _ _ _ i h
 cases t with
 | pure f=>exact MZ h fun e1 e2 e3=>by subst e1 e2 e3;exact ⟨fun Q E q=>q,hi⟩
 | raise x=>exact MZ h fun e1 e2 e3=>by subst e1 e2 e3;exact ⟨fun Q E q=>q,hi⟩
 | «yield» v g l k=>exact MZ h fun e1 e2 e3=>by subst e1 e2 e3;exact ⟨Runs.yield,hi⟩
 | unsupported | finish | register | fork | await | choose | os=>cases h
 | rule tag k=>exact (nx hi h).imp Au.rule id
 | «at» q k=>exact (nx hi h).imp Au.at id
 | point l k=>exact (nx hi h).imp Au.point id
 | ask k=>exact (nx hi h).imp Au.ask id
 | handled own k=>exact (nx hi h).imp Au.handled id
 | stack k=>exact (nx hi h).imp Au.stack id
 | thread k=>exact (nx hi h).imp Au.thread id
 | fresh k=>exact (nx (hO.rest hi) h).imp Au.fresh id
 | newGen c k=>exact (nx (hO.rest hi) h).imp Au.newGen id
 | genState g k=>exact AX h fun st e h=>(nx hi h).imp (Au.genState e) id
 | load a q k=>exact BG h fun e h=>AX h fun o g h=>AX h fun o' al h=>(nx hi h).imp (Au.load ((abs_get (Nat.le_of_ble_eq_true e) g).trans al)) id
 | update a q f k=>
  refine M0 h fun z h=>BG h fun e h=>AX h fun o g h=>AX h fun o' al h=>?_
  have y:=nx (hO.up hi z) h
  refine y.imp (fun y=>Au.update (by show ((absHeap T N life).get? _).isSome;rw [abs_get (Nat.le_of_ble_eq_true e) g,al];rfl) ?_) id
  show Au M Γ p (k ()) ⟨(absHeap T N life).update _ f,gens,drawn,toks,os⟩ _ _ _
  rw [<- absHeap_set g];exact y
 | alloc o k=>
  cases N with
  | zero=>cases h
  | succ N=>
   refine BG h fun e h=>?_
   refine (nx (hO.new hi e) h).imp (fun y=>Au.alloc ?_) id
   show Au M Γ p (k (absHeap T (N+1) life).objs.size) ⟨(absHeap T (N+1) life).push o,gens,drawn,toks,os⟩ _ _ _
   rw [<- absHeap_ins e,absHeap_size];exact y
 | loadIfAlive a k=>
  have go:∀ x,(absHeap T N life).get? a=x->ev Γ p (k x) ⟨⟨T,N,life,gens,drawn,toks,os⟩,gh⟩=some (lf,p',S')->Au M Γ p (.loadIfAlive a k) (absHeap T N life |> fun hp=>⟨hp,gens,drawn,toks,os⟩) lf p' S'.sh.abs/\O.inv S':=fun x e h=>by
   subst e
   exact (nx hi h).imp Au.loadIfAlive id
  cases e:Nat.blt a N with
  | false=>
   have h:cond (Nat.blt a N) _ _=_:=h
   rw [e] at h
   exact go _ (abs_get_none fun q=>by rw [show Nat.blt a N=true from Nat.ble_eq_true_of_le q] at e;cases e) h
  | true=>
   have h:cond (Nat.blt a N) _ _=_:=h
   rw [e] at h
   exact AX h fun o g h=>go _ (abs_get (Nat.le_of_ble_eq_true e) g) h
 | call c hd g l k=>
  refine AX h fun r e h=>AX h fun v ev h=>?_
  obtain ⟨en,S⟩:=r
  cases retOf_some ev
  obtain ⟨x,hi'⟩:=hrec _ _ _ _ _ hi e
  exact (nx hi' h).imp (Au.call x) id
 | resume g r l k=>
  refine AX h fun st e h=>?_
  cases st with
  | running=>cases h
  | finished=>cases h
  | fresh c=>
   refine BG h fun eb h1=>AX h1 fun en e1 h2=>?_
   cases bare_is eb
   obtain ⟨x,hi'⟩:=hrec _ _ _ _ _ (hO.rest hi) e1
   obtain ⟨eq,a,b⟩:=M2 hO ih hi' h2
   exact ⟨Au.resumeF e x eq a,b⟩
  | suspended i5 w6 Z4 j5 fs cl=>
   refine BG h fun eb h1=>AX h1 fun y e1 h2=>AX h2 fun c ec h3=>BG h3 fun hq h4=>AX h4 fun en e2 h5=>?_
   cases fs with
   | cons=>cases eb
   | nil=>
    obtain ⟨lf',q',S''⟩:=y
    cases agOf_some ec
    obtain ⟨x1,i1⟩:=ih _ _ _ _ _ _ _ (hO.rest hi) e1
    obtain ⟨x2,i2⟩:=hrec _ _ _ _ _ i1 e2
    obtain ⟨eq,a,b⟩:=M2 hO ih i2 h5
    exact ⟨Au.resumeS e (Dy x1 hq x2) eq a,b⟩
private theorem M3 (hO:O.Ok M)(hrec:M1 M O rec)(n:Nat):Pm M O (evW M rec n):=by
 induction n with
 | zero=>intro _ _ _ _ _ _ _ _ h;cases h
 | succ n ih=>exact Pn hO hrec ih
end
private theorem M4 {t:Sem PySem.Fin}{f:Flow}(h:Au M Γ p t s (.fin (.done f)) p' s'):Runs M Γ p t [] s (.ret (.ok f)) s':=
 CK (h _ _ ⟨rfl,rfl⟩)
private theorem M5 {t:Sem PySem.Fin}{x:Value}(h:Au M Γ p t s (.exc x) p' s'):Runs M Γ p t [] s (.ret (.error x)) s':=
 CK (h _ _ ⟨rfl,rfl⟩)
theorem wp_enc {m:Sem (Option Value)}{f:Flow}(h:Au M Γ p (m.bind Hc) s (.fin (.done f)) p' s')(Q:Option Value->Pos->Shared->Prop)(E)
  (hQ:∀ o,Hc o = .pure (.done f)->Q o p' s'):wp M Γ m Q E p s:=by
 have w:=h (fun a q z=>a = .done f/\q=p'/\z=s') (fun U U U=>False) ⟨rfl,rfl,rfl⟩
 rw [Sem.wp_bind] at w
 refine Sem.wp_mono _ _ _ (fun o q z hz=>?_) (fun U U U h=>h.elim) _ _ w
 cases o with
 | none=>obtain ⟨e1,rfl,rfl⟩:=(show PySem.Fin.done .next = .done f/\q=p'/\z=s' from hz);exact hQ _ (by rw [<- e1];rfl)
 | some v=>obtain ⟨e1,rfl,rfl⟩:=(show PySem.Fin.done (.ret v) = .done f/\q=p'/\z=s' from hz);exact hQ _ (by rw [<- e1];rfl)
private theorem strOf_some {v:Value}{x:Str × Tok}(h:strOf v=some x):v = .str x.1 x.2:=by
 cases v with
 | str=>cases h;rfl
 | _=>cases h
private theorem Ra {O:Orc}(hO:O.Ok M)(m:Nat)(d:Nat):M1 M O (evC M O m d):=by
 induction d with
 | zero=>intro _ _ _ _ _ _ h;cases h
 | succ d ih=>
  intro Γ p S e S' hi h
  have w:=M3 hO ih m
  have h:Sa M O (evC M O m d) (evW M (evC M O m d) m) Γ p S (spOf Γ.code)=some (e,S'):=h
  have is:=Pl Γ.code
  generalize evW M (evC M O m d) m=ev at h w
  generalize evC M O m d=rec at h ih
  generalize spOf Γ.code=sp at h is
  cases is with
  | no=>
   refine AX h fun r e1 h=>?_
   obtain ⟨lf,p',i4⟩:=r
   obtain ⟨x,i1⟩:=w _ _ _ _ _ _ _ hi e1
   cases lf with
   | exc x'=>exact DM h fun a1 a2=>by subst a1 a2;exact ⟨M5 x,i1⟩
   | susp v g l k=>exact DM h fun a1 a2=>by subst a1 a2;exact ⟨x,i1⟩
   | fin f=>
    cases f with
    | done f=>exact DM h fun a1 a2=>by subst a1 a2;exact ⟨M4 x,i1⟩
    | again c=>exact BG h fun hq h=>(ih _ _ _ _ _ i1 h).imp (Dy x hq) id
  | or hc=>
   refine AX h fun r e1 h=>DM h fun a1 a2=>?_
   subst a1 a2
   exact hO.or Γ p hi hc e1
  | sub hc=>
   refine AX h fun r e1 h=>DM h fun a1 a2=>?_
   subst a1 a2
   exact hO.sub Γ p hi hc e1
  | @loop a it hc=>
   have hden:M.den Γ.code=Builtin.«set.update.loop» ⟨[.ref a,it],[]⟩:=by rw [hc];exact hO.loop a it
   refine AX h fun r e1 h=>?_
   obtain ⟨lf,p',i4⟩:=r
   obtain ⟨x,i1⟩:=w _ _ _ _ _ _ _ hi e1
   rw [hden]
   cases lf with
   | exc x'=>cases h
   | susp v g l k=>cases h
   | fin f=>
    cases f with
    | again c=>cases h
    | done f=>
     cases f with
     | brk=>cases h
     | cont=>cases h
     | next=>
      refine DM h fun a1 a2=>?_
      subst a1 a2
      refine ⟨CK ?_,i1⟩
      show wp M Γ ((pyNext it).bind _) _ _ p _
      rw [Sem.wp_bind]
      refine wp_enc x _ _ fun o ho=>?_
      cases o with
      | none=>exact ⟨rfl,rfl⟩
      | some v=>cases ho
     | ret v=>
      refine AX h fun y ey h1=>AX h1 fun q2 e2 h2=>BG h2 fun hq h3=>?_
      obtain ⟨y,u⟩:=y
      cases strOf_some ey
      obtain ⟨ha,i2⟩:=hO.add Γ p' i1 e2
      refine (ih _ _ _ _ _ i2 h3).imp (fun y'=>Dy (c:=Γ.code) (p':=q2.1) (s':=q2.2.sh.abs) ?_ hq y') id
      intro Q E hQ
      show wp M Γ ((pyNext it).bind _) _ _ p _
      rw [Sem.wp_bind]
      refine wp_enc x _ _ fun o ho=>?_
      cases o with
      | none=>cases ho
      | some v=>
       cases ho
       show wp M Γ ((holding [.str y u] (setAdd a (.str y u))).bind _) _ _ p' _
       rw [Sem.wp_bind,Sem.wp_holding]
       refine ha _ _ fun b=>?_
       rw [hc] at hQ
       exact hQ
noncomputable def nx (m i:Nat):Nat:=(i*5+1) % m
noncomputable def orb (m:Nat):Nat->Nat->Nat
 | 0,i=>i
 | n+1,i=>orb m n (nx m i)
private theorem E8 (m:Nat):∀ (a b i:Nat),orb m (a+b) i=orb m b (orb m a i)
 | 0,b,i=>by rw [Nat.zero_add];rfl
 | a+1,b,i=>by rw [show a+1+b=(a+b)+1 by exact Nat.le_antisymm (Mi.la [_,_] [] ([2,3,0,4,0],[2,4,0,3,0]) rfl) (Mi.la [_,_] [] ([2,4,0,3,0],[2,3,0,4,0]) rfl)];show orb m (a+b) (nx m i)=_;rw [E8 m a b];rfl
noncomputable def CL (m:Nat):Bool:=Nat.beq (orb m m 0) 0&&(List.range m).all fun j=>(List.range m).any fun n=>Nat.beq (orb m n 0) j
private theorem Po {m:Nat}(h:CL m=true)(i j:Nat)(hi:i<m)(hj:j<m):∃ n,n<m/\orb m n i=j:=by
 simp only [CL,Bool.and_eq_true,Nat.beq_eq,List.all_eq_true,List.any_eq_true,List.mem_range] at h
 obtain ⟨h0,h⟩:=h
 obtain ⟨a,ha,ea⟩:=h i hi
 obtain ⟨b,hb,eb⟩:=h j hj
 rcases Nat.lt_or_ge b a with q | q
 ·refine ⟨m - a+b,by exact Mi.la [_,_,_,_] [([2,3,0],[4]),([6,4,0],[8])] ([6,2,0,3,0],[8]) rfl q (Mi.lcC (Mi.la [_,_] [([2,3,0],[4])] ([2],[4]) rfl ha)),?_⟩
  rw [<- ea,<- E8,show a+(m - a+b)=m+b by exact Nat.le_antisymm (Mi.la [_,_,_,_] [([2,4,0],[6])] ([4,2,8,0,0],[6,8,0]) rfl (Mi.lcC (Mi.la [_,_] [([2,3,0],[4])] ([2],[4]) rfl ha))) (Mi.la [_,_,_,_] [([2],[4,6,0])] ([2,8,0],[6,4,8,0,0]) rfl (Mi.lcS _ _)),E8,h0,eb]
 ·refine ⟨b - a,by exact Mi.la [_,_,_,_] [([2,3,0],[4]),([6,8,0],[2])] ([6,3,0],[4]) rfl hb (Mi.lcC (Mi.la [_,_] [([2],[4])] ([2],[4]) rfl q)),?_⟩
  rw [<- ea,<- E8,show a+(b - a)=b by exact Nat.le_antisymm (Mi.la [_,_,_] [([2,4,0],[6])] ([4,2,0],[6]) rfl (Mi.lcC (Mi.la [_,_] [([2],[4])] ([2],[4]) rfl q))) (Mi.la [_,_,_] [([2],[4,6,0])] ([2],[6,4,0]) rfl (Mi.lcS _ _)),eb]
private theorem Pp:CL 8=true:=by decide +kernel
private theorem LA:CL 128=true:=by decide +kernel
private theorem Gz (mask i:Nat):i<=SetTable.runEnd mask i:=by unfold SetTable.runEnd;split <;> lia
private theorem LB {mask i:Nat}(h:i<=mask):SetTable.runEnd mask i<=mask:=by unfold SetTable.runEnd;split <;> lia
set_option tactic.hygienic true in
private theorem GA {mask:Nat}{owner:Array (Option Nat)}:∀ {fuel i p j:Nat},i<=mask->SetTable.layClean.free mask owner fuel i p=some j->j<=mask/\(owner.getD j (some 0))=none
 | 0,_,_,_,_,h=>by injection h
 | fuel+1,i,p,j,hi,h=>by
  unfold SetTable.layClean.free at h
  split at h
  ·rename_i k hk
   cases h
   have h1:=List.find?_some hk
   have h2:=List.mem_of_find?_eq_some hk
   rw [List.mem_range] at h2
   have:=LB hi
   have:=Gz mask i
   exact ⟨by lia,by simpa using h1⟩
  ·exact GA (by show (i*5+1+p / 32) % (mask+1)<=mask;have:=Nat.mod_lt (i*5+1+p / 32) (show 0<mask+1 by exact Mi.la [_] [] ([1,3,0],[2,3,0]) rfl);exact Mi.la [_,_] [([2,3,0],[4,3,0])] ([2],[4]) rfl this) h
set_option tactic.hygienic true in
private theorem GB {mask:Nat}{owner:Array (Option Nat)}:∀ {fuel i:Nat} (n:Nat),n<fuel->(owner.getD (orb (mask+1) n i) (some 0))=none->(SetTable.layClean.free mask owner fuel i 0).isSome=true
 | 0,_,_,h,_=>by lia
 | fuel+1,i,n,h,e=>by
  unfold SetTable.layClean.free
  split
  ·rfl
  ·rename_i hk
   cases n with
   | zero=>
    exfalso
    have:=List.find?_eq_none.mp hk 0 (by rw [List.mem_range];have:=Gz mask i;exact Mi.la [_,_,_] [([2],[4]),([4,3,0],[6,2,0])] ([1,3,0],[6]) rfl this (Mi.lcS _ _))
    apply this
    show (owner.getD (i+0) (some 0)).isNone=true
    rw [Nat.add_zero,show owner.getD i (some 0)=none from e];rfl
   | succ n=>
    show (SetTable.layClean.free mask owner fuel ((i*5+1+0 / 32) % (mask+1)) (0 / 32)).isSome=true
    have z:(0:Nat) / 32=0:=by decide
    rw [z,Nat.add_zero]
    exact GB n (by exact Mi.la [_,_] [([2,3,0,3,0],[4,3,0])] ([2,3,0],[4]) rfl h) e
private theorem H1 {mask:Nat}{owner:Array (Option Nat)}{fuel:Nat}(h:∀ i,i<=mask->(SetTable.layClean.free mask owner fuel i 0).isSome=true) :
  ∀ (c i p:Nat),i<=mask->p<32 ^ c->(SetTable.layClean.free mask owner (c+fuel) i p).isSome=true
 | 0,i,p,hi,hp=>by
  obtain rfl:p=0:=by simpa using hp
  rw [Nat.zero_add];exact h i hi
 | c+1,i,p,hi,hp=>by
  rw [show c+1+fuel=(c+fuel)+1 by exact Nat.le_antisymm (Mi.la [_,_] [] ([2,3,0,4,0],[2,4,0,3,0]) rfl) (Mi.la [_,_] [] ([2,4,0,3,0],[2,3,0,4,0]) rfl)]
  unfold SetTable.layClean.free
  split
  ·rfl
  ·exact H1 h c _ _ (by have:=Nat.mod_lt (i*5+1+p / 32) (show 0<mask+1 by exact Mi.la [_] [] ([1,3,0],[2,3,0]) rfl);exact Mi.la [_,_] [([2,3,0],[4,3,0])] ([2],[4]) rfl this) (by rw [Nat.div_lt_iff_lt_mul (by exact Mi.la [] [] ([1,3,0],[65]) rfl)];rw [Nat.pow_succ] at hp;exact hp)
private theorem Pq (h:Int):SetTable.bits h<32 ^ 13:=by
 unfold SetTable.bits
 have h1:=Int.emod_nonneg h (show (2 ^ 64:Int)≠0 by decide)
 have h2:=Int.emod_lt_of_pos h (show (0:Int)<2 ^ 64 by decide)
 have:((2:Int) ^ 64)=18446744073709551616:=by decide
 have:(32:Nat) ^ 13=36893488147419103232:=by decide
 lia
private theorem H3 {mask:Nat}(ho:CL (mask+1)=true){owner:Array (Option Nat)}(j:Nat)(hj:j<=mask)(e:owner.getD j (some 0)=none)(h:Int) :
  (SetTable.layClean.free mask owner (SetTable.turns mask) (SetTable.bits h % (mask+1)) (SetTable.bits h)).isSome=true:=by
 have q:SetTable.turns mask=13+(mask+2):=by unfold SetTable.turns;exact Nat.le_antisymm (Mi.la [_] [] ([2,31,0],[27,2,5,0,0]) rfl) (Mi.la [_] [] ([27,2,5,0,0],[2,31,0]) rfl)
 rw [q]
 refine H1 (fun i hi=>?_) 13 _ _ (by have:=Nat.mod_lt (SetTable.bits h) (show 0<mask+1 by exact Mi.la [_] [] ([1,3,0],[2,3,0]) rfl);exact Mi.la [_,_] [([2,3,0],[4,3,0])] ([2],[4]) rfl this) (Pq h)
 obtain ⟨n,hn,en⟩:=Po ho i j (by exact Mi.la [_,_] [([2],[4])] ([2,3,0],[4,3,0]) rfl hi) (by exact Mi.la [_,_] [([2],[4])] ([2,3,0],[4,3,0]) rfl hj)
 exact GB n (by exact Mi.la [_,_] [([2,3,0],[4,3,0])] ([2,3,0],[4,5,0]) rfl hn) (by rw [en];exact e)
noncomputable def H4 (mask:Nat)(owner:Array (Option Nat))(n:Nat):Prop:=owner.size=mask+1/\(owner.toList.filterMap id).Perm (List.range n)
private theorem Cu:∀ (l:List (Option Nat)) (j k:Nat),l[j]? = some none->((l.set j (some k)).filterMap id).Perm (k::l.filterMap id)
 | [],j,k,h=>by simp at h
 | x::l,0,k,h=>by
  obtain rfl:x=none:=by simpa using h
  simp
 | x::l,j+1,k,h=>by
  have ih:=Cu l j k (by simpa using h)
  rw [List.set_cons_succ]
  cases x with
  | none=>simpa using ih
  | some y=>
   rw [List.filterMap_cons_some (by rfl),List.filterMap_cons_some (by rfl)]
   exact (ih.cons y).trans (List.Perm.swap ..)
private theorem EH:∀ (l:List (Option Nat)),(l.filterMap id).length<l.length->∃ j:Nat,l[j]? = some none
 | [],h=>by simp at h
 | none::l,_=>⟨0,rfl⟩
 | some y::l,h=>by
  obtain ⟨j,hj⟩:=EH l (by simpa using h)
  exact ⟨j+1,by simpa using hj⟩
private theorem EI {mask:Nat}(ho:CL (mask+1)=true):∀ (l:List Int) (owner:Array (Option Nat)) (k:Nat),H4 mask owner k->k+l.length<=mask ->
  ∃ owner',(l.foldl (init:=some (owner,k)) fun acc h=>do
   let (owner,k) <- acc
   let j <- SetTable.layClean.free mask owner (SetTable.turns mask) (SetTable.bits h % (mask+1)) (SetTable.bits h)
   pure (owner.setIfInBounds j (some k),k+1))=some (owner',k+l.length)/\H4 mask owner' (k+l.length)
 | [],owner,k,t,_=>⟨owner,rfl,t⟩
 | h::l,owner,k,t,hk=>by
  obtain ⟨t1,t2⟩:=t
  have hlen:(owner.toList.filterMap id).length=k:=by rw [t2.length_eq,List.length_range]
  obtain ⟨j0,hj0⟩:=EH owner.toList (by rw [hlen,Array.length_toList,t1];simp only [List.length_cons] at hk;exact Mi.la [_,_,_] [([2,4,3,0,0],[6])] ([2,3,0],[6,3,0]) rfl hk)
  have hj0':j0<=mask:=by
   have:j0<owner.toList.length:=by
    rcases Nat.lt_or_ge j0 owner.toList.length with q | q
    ·exact q
    ·rw [List.getElem?_eq_none q] at hj0;cases hj0
   rw [Array.length_toList,t1] at this;exact Mi.la [_,_] [([2,3,0],[4,3,0])] ([2],[4]) rfl this
  have gd:∀ j,j<=mask->owner.getD j (some 0)=(owner.toList[j]?).getD (some 0):=fun j hj=>by
   rw [Array.getElem?_toList]
   have:j<owner.size:=by exact Mi.la [_,_,_] [([2,3,0],[4]),([6],[2])] ([6,3,0],[4]) rfl (Nat.le_of_eq t1.symm) hj
   simp [Array.getD,this]
  have s:=H3 ho j0 hj0' (by rw [gd j0 hj0',hj0];rfl) h
  obtain ⟨j,hj⟩:=Option.isSome_iff_exists.mp s
  obtain ⟨j1,j2⟩:=GA (by have:=Nat.mod_lt (SetTable.bits h) (show 0<mask+1 by exact Mi.la [_] [] ([1,3,0],[2,3,0]) rfl);exact Mi.la [_,_] [([2,3,0],[4,3,0])] ([2],[4]) rfl this) hj
  have j3:owner.toList[j]? = some none:=by
   have lt:j<owner.toList.length:=by rw [Array.length_toList,t1];exact Mi.la [_,_] [([2],[4])] ([2,3,0],[4,3,0]) rfl j1
   have:=gd j j1
   rw [j2,List.getElem?_eq_getElem lt] at this
   rw [List.getElem?_eq_getElem lt]
   exact congrArg some this.symm
  have T':H4 mask (owner.setIfInBounds j (some k)) (k+1):=by
   refine ⟨by rw [Array.size_setIfInBounds,t1],?_⟩
   rw [Array.toList_setIfInBounds]
   refine (Cu _ _ _ j3).trans ?_
   rw [List.range_succ]
   exact (t2.cons k).trans (List.perm_append_comm (l₁:=[k]))
  obtain ⟨o',e,T⟩:=EI ho l _ (k+1) T' (by simp only [List.length_cons] at hk;exact Mi.la [_,_,_] [([2,4,3,0,0],[6])] ([2,3,0,4,0],[6]) rfl hk)
  refine ⟨o',?_,?_⟩
  ·rw [List.foldl_cons]
   show (l.foldl (init:=((SetTable.layClean.free mask owner (SetTable.turns mask) (SetTable.bits h % (mask+1)) (SetTable.bits h)).bind fun j=>some (owner.setIfInBounds j (some k),k+1))) _)=_
   rw [hj]
   show (l.foldl (init:=some (owner.setIfInBounds j (some k),k+1)) _)=_
   rw [e]
   simp only [List.length_cons]
   rw [show k+1+l.length=k+(l.length+1) by exact Nat.le_antisymm (Mi.la [_,_] [] ([2,3,0,4,0],[2,4,3,0,0]) rfl) (Mi.la [_,_] [] ([2,4,3,0,0],[2,3,0,4,0]) rfl)]
  ·simp only [List.length_cons]
   rw [show k+(l.length+1)=k+1+l.length by exact Nat.le_antisymm (Mi.la [_,_] [] ([2,4,3,0,0],[2,3,0,4,0]) rfl) (Mi.la [_,_] [] ([2,3,0,4,0],[2,4,3,0,0]) rfl)]
   exact T
private theorem H5 {mask:Nat}(ho:CL (mask+1)=true)(hs:Array Int)(h:hs.size<=mask):∃ owner,SetTable.layClean mask hs=some owner/\H4 mask owner hs.size:=by
 have T0:H4 mask (Array.replicate (mask+1) none) 0:=by
  refine ⟨by simp,?_⟩
  rw [Array.toList_replicate]
  have:(List.replicate (mask+1) (none:Option Nat)).filterMap id=[]:=by
   rw [List.filterMap_eq_nil_iff]
   intro a ha
   obtain ⟨_,rfl⟩:=List.mem_replicate.mp ha
   rfl
  rw [this];exact List.Perm.refl _
 obtain ⟨o,e,T⟩:=EI ho hs.toList _ 0 T0 (by rw [Array.length_toList];exact Mi.la [_,_] [([2],[4])] ([1,2,0],[4]) rfl h)
 rw [Nat.zero_add,Array.length_toList] at T
 refine ⟨o,?_,T⟩
 unfold SetTable.layClean
 rw [<- Array.foldl_toList]
 have e':=congrArg (Option.map (·.1)) e
 exact e'
private theorem GC (l:List (Option Nat)):∀ (n:Nat),n<=l.length->((List.range n).filterMap fun j=>((l[j]?).getD none).map fun y=>(j,y)).map (·.2)=(l.take n).filterMap id
 | 0,_=>by simp
 | n+1,h=>by
  have ih:=GC l n (by exact Mi.la [_,_] [([2,3,0],[4])] ([2],[4]) rfl h)
  have lt:n<l.length:=by exact Mi.la [_,_] [([2,3,0],[4])] ([2,3,0],[4]) rfl h
  rw [List.range_succ,List.filterMap_append,List.map_append,ih,List.take_add_one,List.filterMap_append]
  congr 1
  have e0:l[n]? = some l[n]:=List.getElem?_eq_getElem lt
  rw [e0]
  rw [List.filterMap_cons,e0]
  cases hx:l[n] <;> simp
private theorem DN {α β:Type}{f g:α->Option β}:∀ {l:List α},(∀ a∈l,f a=g a)->l.filterMap f=l.filterMap g
 | [],_=>rfl
 | a::l,h=>by
  rw [List.filterMap_cons,List.filterMap_cons,h a List.mem_cons_self,DN fun x hx=>h x (List.mem_cons_of_mem _ hx)]
private theorem LC (l:List (Option Nat))(n:Nat)(h:l.length=n):((List.range n).filterMap fun j=>((l[j]?).getD none).map fun y=>(j,y)).map (·.2)=l.filterMap id:=by
 subst h
 rw [GC l _ (Nat.le_refl _),List.take_length]
private theorem Pr {mask:Nat}(ho:CL (mask+1)=true)(hs:Array Int)(h:hs.size<=mask)(finger moves:Nat)(led plain:Bool) :
  ∃ t order,SetTable.laid mask finger moves led plain hs=some (t,order)/\order.toList.Perm (List.range hs.size)/\t.place.size=hs.size/\t.dummies = #[]/\t.mask=mask:=by
 obtain ⟨o,e,t1,t2⟩:=H5 ho hs h
 refine ⟨_,_,by unfold SetTable.laid;rw [e];rfl,?_⟩
 have lp:=LC o.toList (mask+1) (by rw [Array.length_toList,t1])
 have gd:((List.range (mask+1)).filterMap fun j=>(o.getD j none).map fun y=>(j,y))=(List.range (mask+1)).filterMap fun j=>((o.toList[j]?).getD none).map fun y=>(j,y):=by
  refine DN fun j hj=>?_
  rw [List.mem_range] at hj
  have:j<o.size:=by exact Mi.la [_,_,_] [([2,3,0],[4]),([6,3,0],[2,3,0])] ([6,3,0],[4]) rfl (Nat.le_of_eq t1.symm) hj
  rw [Array.getElem?_toList]
  simp [Array.getD,this]
 refine ⟨?_,?_,rfl,rfl⟩
 ·rw [List.toList_toArray,gd,lp];exact t2
 ·rw [List.size_toArray,List.length_map,gd,<- List.length_map (f:=fun x:Nat × Nat=>x.2),lp,t2.length_eq,List.length_range]
noncomputable def Al (es:Array (Int × Value))(ep:Nat)(t:SetTable):Obj:={ cls:=.type "frozenset",data:=.set es ep t }
noncomputable def hset (h:Heap)(a:Addr)(o:Obj):Heap:=h.update a (fun U=>o)
private theorem EJ {h:Heap}{a:Addr}{o:Obj}(e:h.get? a=some o):h.objs[a]? = some o:=(Heap.get?_some_iff.mp e).1
private theorem He {α:Type}{xs:Array α}{i:Nat}{f g:α->α}{x:α}(e:xs[i]? = some x)(h:f x=g x):xs.modify i f=xs.modify i g:=by
 apply Array.ext_getElem?
 intro j
 rw [Array.getElem?_modify,Array.getElem?_modify]
 by_cases q:i=j
 ·subst q;simp [e,h]
 ·simp [q]
private theorem Dj {h:Heap}{a:Addr}{o:Obj}{f g:Obj->Obj}(e:h.get? a=some o)(q:f o=g o):h.update a f=h.update a g:=by
 obtain ⟨objs,l⟩:=h
 show Heap.mk _ _=Heap.mk _ _
 rw [He (EJ e) q]
private theorem H6 {h:Heap}{a:Addr}{o:Obj}{es ep t}(e:h.get? a=some o):(hset h a (Al es ep t)).get? a=some (Al es ep t):=by
 refine Heap.get?_some_iff.mpr ⟨?_,rfl⟩
 show (h.objs.modify a fun U=>Al es ep t)[a]? = _
 rw [Array.getElem?_modify,if_pos rfl,EJ e];rfl
private theorem Ps {h:Heap}{a b:Addr}{o:Obj}(q:b≠a):(hset h a o).get? b=h.get? b:=Heap.get?_update_ne h b a _ q
private theorem Eh {h:Heap}{a:Addr}{o o':Obj}:hset (hset h a o) a o'=hset h a o':=by
 obtain ⟨objs,l⟩:=h
 show Heap.mk _ _=Heap.mk _ _
 congr 1
 apply Array.ext_getElem?
 intro j
 rw [Array.getElem?_modify,Array.getElem?_modify,Array.getElem?_modify]
 by_cases q:a=j
 ·simp only [q,if_true,Option.map_map];cases objs[j]? <;> rfl
 ·simp [q]
private theorem BH {h:Heap}{a:Addr}{es ep t es' t'}(e:h.get? a=some (Al es ep t)):h.update a (Obj.putSet es' t')=hset h a (Al es' (ep+1) t'):=
 Dj e (putSet_of es' t' rfl)
noncomputable def keyS (e:Int × Value):Str:=match e.2 with
 | .str x _=>x
 | _=>default
structure SetIs (w:World)(l:List Str)(es:Array (Int × Value))(t:SetTable):Prop where
 el:∀ e∈es.toList,∃ x u,e=(hashStr w x,.str x u)
 perm:(es.toList.map keyS).Perm l
 nd:l.Nodup
 fit:t.fits es.size=true
 lt:l.length<1000
section
variable {prog:Program}{w:World}{A:Around}{E:Value->Shared->Prop}{s:Shared}{l l':List Str}{es es':Array (Int × Value)}{t t':SetTable}{ep ep':Nat}{a b:Addr}{x:Str}{u:Tok}
private theorem SetIs.elems (S:SetIs w l es t):ElemsOf (strKind prog w) es.toList:=fun e he=>by
 obtain ⟨x,u,rfl⟩:=S.el e he
 exact ⟨⟨x,strKind_is prog w x u,rfl⟩,rfl⟩
private theorem SetIs.size (S:SetIs w l es t):es.size=l.length:=by
 have:=S.perm.length_eq
 rwa [List.length_map,Array.length_toList] at this
private theorem Jl {e:Int × Value}(h:∃ x u,e=(hashStr w x,Value.str x u))(k:Str):(strKind prog w).is k e.2=true↔k=keyS e:=by
 obtain ⟨x,u,rfl⟩:=h
 show (strKind prog w).is k (.str x u)=true↔k=x
 exact ⟨fun q=>(strKind prog w).inj _ _ _ q (strKind_is prog w x u),fun q=>by subst q;exact strKind_is prog w _ u⟩
private theorem SetIs.mem (S:SetIs w l es t)(k:Str):k∈l↔∃ e∈es.toList,(strKind prog w).is k e.2=true:=by
 rw [<- S.perm.mem_iff,List.mem_map]
 exact ⟨fun ⟨e,he,q⟩=>⟨e,he,(Jl (S.el e he) k).mpr q.symm⟩,fun ⟨e,he,q⟩=>⟨e,he,((Jl (S.el e he) k).mp q).symm⟩⟩
private theorem SetIs.bound (S:SetIs w l es t):es.size<scanBound:=by
 have h1:scanBound=4096:=rfl
 have:=S.lt
 rw [S.size];lia
private theorem SetIs.reperm (S:SetIs w l es t)(p:es'.toList.Perm es.toList)(f:t'.fits es'.size=true):SetIs w l es' t':=
 ⟨fun e he=>S.el e (p.mem_iff.mp he),(p.map keyS).trans S.perm,S.nd,f,S.lt⟩
private theorem SetIs.froz (S:SetIs w l es t){h:Heap}(e:h.get? a=some (Al es ep t)):FrozAt (strKind prog w) h a (fun k=>decide (k∈l)) l.length:=
 ⟨es,ep,t,e,S.elems,fun k=>by rw [decide_eq_true_eq];exact S.mem k,S.size,S.fit⟩
private theorem LD (S:SetIs w l es t)(hx:x∉l):es.toList.findIdx? (fun e=>(strKind prog w).is x e.2)=none:=by
 rw [List.findIdx?_eq_none_iff]
 intro e he
 cases q:(strKind prog w).is x e.2 with
 | false=>rfl
 | true=>exact absurd ((S.mem (prog:=prog) x).mpr ⟨e,he,q⟩) hx
private theorem Sb (S:SetIs w l es t)(hx:x∉l)(hl:l.length+1<1000)(e:s.heap.get? a=some (Al es ep t)){Q:Bool->Shared->Prop}
  (h:∀ es' ep' t',SetIs w (x::l) es' t'->Q true { s with heap:=hset s.heap a (Al es' ep' t') }):wpAny (model prog w) A (setAddHashed a (.str x u) (hashStr w x)) Q E s:=by
 unfold setAddHashed setAddHashedIn
 refine wpAny_holding (wbK (wpAny_setState_of e rfl S.fit ?_))
 dsimp only
 refine KbI ?_
 rw [byScan_of rfl S.bound (S.elems (prog:=prog))]
 first | rw [if_pos rfl] | simp only [↓reduceIte]
 unfold setAddByScan
 refine wbK (wbK (wpAny_rule ?_))
 refine wbK (wpAny_setScan_of (knd:=strKind prog w) (k:=x) (strKind_is prog w x u) e rfl S.fit S.elems ?_)
 rw [LD S hx]
 dsimp only
 have hgw:∀ (b:Bool) {c0:Shared} {Q':Unit->Shared->Prop},Q' () c0->wpAny (model prog w) A (match b with | true=>rule "set.scan.the-table-gave-way" | false=>pure ()) Q' E c0:=
  fun b c0 Q' hq=>by cases b <;> first | exact wpAny_pure hq | exact wpAny_rule hq
 have hperm:=layNew_perm t es (hashStr w x) (.str x u)
 have hfits:=layNew_fits t es (hashStr w x) (.str x u)
 have key:∀ es1 t1,List.Perm es1.toList (es.push (hashStr w x,.str x u)).toList->t1.fits es1.size=true->SetIs w (x::l) es1 t1:=by
  intro es1 t1 p f
  rw [Array.toList_push] at p
  refine ⟨fun e he=>?_,?_,List.nodup_cons.mpr ⟨hx,S.nd⟩,f,by simpa using hl⟩
  ·rcases List.mem_append.mp (p.mem_iff.mp he) with q | q
   ·exact S.el e q
   ·rw [List.mem_singleton] at q;exact ⟨x,u,q⟩
  ·refine (p.map keyS).trans ?_
   rw [List.map_append]
   exact List.perm_append_comm.trans (S.perm.cons x)
 show wpAny (model prog w) A (match layNew t es (hashStr w x) (.str x u) with | (es,t,wasDummy,gave)=>_) _ _ _
 generalize layNew t es (hashStr w x) (.str x u)=L at hperm hfits ⊢
 obtain ⟨es1,t1,wasDummy,gave⟩:=L
 dsimp only at hperm hfits ⊢
 refine wbK (hgw _ ?_)
 have tail:∀ t2:SetTable,t2.fits es1.size=true->wpAny (model prog w) A (do
    storeSet a es1 t2
    if (!wasDummy&&t2.tooFull)=true then do
      (match (relayAll t2 es1 (SetTable.grown es1.size)).2.2 with | true=>rule "set.scan.the-table-gave-way" | false=>pure ())
      storeSet a (relayAll t2 es1 (SetTable.grown es1.size)).1 (relayAll t2 es1 (SetTable.grown es1.size)).2.1
      pure (some true)
     else pure (some true)) (fun r s'=>wpAny (model prog w) A (match r with | some added=>pure added | none=>setAddHashedIn a (.str x u) (hashStr w x) 99999) Q E s') E s:=by
  intro t2 f2
  have S1:=key es1 t2 hperm f2
  refine wbK (wpAny_storeSet_of e rfl ?_ (fits_of_scanBound S1.bound))
  rw [BH e]
  have e1:(hset s.heap a (Al es1 (ep+1) t2)).get? a=some (Al es1 (ep+1) t2):=H6 e
  split
  ·have hp:=relayAll_perm t2 es1 (SetTable.grown es1.size)
   have hf:=relayAll_fits t2 es1 (SetTable.grown es1.size)
   refine wbK (hgw _ ?_)
   have S2:=S1.reperm hp hf
   refine wbK (wpAny_storeSet_of (s:={ s with heap:=hset s.heap a (Al es1 (ep+1) t2) }) e1 rfl ?_ (fits_of_scanBound S2.bound))
   rw [BH (h:=hset s.heap a (Al es1 (ep+1) t2)) e1]
   refine wpAny_pure (wpAny_pure ?_)
   show Q true { s with heap:=hset (hset s.heap a _) a _ }
   rw [Eh]
   exact h _ _ _ S2
  ·exact wpAny_pure (wpAny_pure (h _ _ _ S1))
 split
 ·refine wbK ?_
  rw [hashByValue_scannable 8 (x:=.str x u) rfl]
  refine wpAny_pure ?_
  refine tail _ ?_
  split
  ·exact hfits
  ·exact SetTable.fits_plain_off hfits
 ·refine wbK (wpAny_pure ?_)
  refine KbI ?_
  first | rw [if_pos rfl] | simp only [↓reduceIte]
  exact tail _ hfits
end
section
variable {prog:Program}{w:World}{A:Around}{E:Value->Shared->Prop}{s:Shared}{l l':List Str}{es es':Array (Int × Value)}{t t':SetTable}{ep ep':Nat}{a b r o:Addr}{x:Str}{u:Tok}{led:Bool}
private theorem M6 (S:SetIs w l es t)(hx:x∉l)(hl:l.length+1<1000)(e:s.heap.get? a=some (Al es ep t)){Q:Bool->Shared->Prop}
  (h:∀ es' ep' t',SetIs w (x::l) es' t'->Q true { s with heap:=hset s.heap a (Al es' ep' t'),toks:=s.toks+1 }):wpAny (model prog w) A (setAdd a (.str x u)) Q E s:=by
 unfold setAdd
 refine wpAny_holding (wbK (wpAny_pyHash_str ?_))
 exact Sb (s:={ s with toks:=s.toks+1 }) S hx hl e h
noncomputable def BA (n:Nat):Nat:=if n*5≥21 then 127 else 7
noncomputable def okN (n:Nat):Bool:=decide (n≠0)&&decide (n<=BA n)&&(decide (n*5<21)||decide (SetTable.sizeAbove (n*2)=128))
private theorem Jm (n:Nat):CL (BA n+1)=true:=by
 unfold BA
 split
 ·exact LA
 ·exact Pp
private theorem Fj:(SetTable.fresh 0 0 led).fits 0=true:=by cases led <;> decide
private theorem Hf {es:Array (Int × Value)}{order:Array Nat}(p:order.toList.Perm (List.range es.size)):(order.filterMap (es[·]?)).toList.Perm es.toList:=by
 rw [Array.toList_filterMap]
 refine (p.filterMap _).trans ?_
 rw [filterMap_getElem?_range]
private theorem KQ {t:SetTable}{n:Nat}(h1:t.place.size=n)(h2:t.dummies = #[])(h3:n<=t.mask):t.fits n=true:=by
 unfold SetTable.fits SetTable.fill
 rw [h1,h2]
 simp
 exact h3
private theorem DO {es:Array (Int × Value)}{t':SetTable}{order:Array Nat}{lo:Option (SetTable × Array Nat)}(e:lo=some (t',order))(p:order.toList.Perm (List.range es.size)){Q:Array (Int × Value) × SetTable->Shared->Prop}
  (h:∀ es',es'.toList.Perm es.toList->Q (es',t') s):wpAny (model prog w) A (do
   let some (t,order):=lo | unsupported "internal:set-table-without-room"
   let es':=order.filterMap (es[·]?)
   if es'.size != es.size then unsupported "internal:set-table-lost-an-element"
   pure (es',t)) Q E s:=by
 subst e
 have rp:=Hf p
 have sz:(order.filterMap (es[·]?)).size=es.size:=by rw [<- Array.length_toList,rp.length_eq,Array.length_toList]
 dsimp only
 rw [sz]
 first | rw [if_neg (by rw [bne_self_eq_false];decide)] | simp only [bne_self_eq_false,Bool.false_eq_true,↓reduceIte]
 exact wpAny_pure (h _ rp)
private theorem Hg {led:Bool}{wanted:Nat}:∃ order,(SetTable.fresh 0 0 led).relaid ((#[]:Array (Int × Value)).map (·.1)) wanted=some ({ mask:=SetTable.sizeAbove wanted - 1,place:=#[],dummies:=#[],finger:=0,led:=led,moves:=(SetTable.fresh 0 0 led).movedTo (SetTable.sizeAbove wanted - 1),plain:=true },order)/\order = #[]:=by
 unfold SetTable.relaid SetTable.laid
 have e:SetTable.layClean (SetTable.sizeAbove wanted - 1) ((#[]:Array (Int × Value)).map (·.1))=some (Array.replicate (SetTable.sizeAbove wanted - 1+1) none):=by simp [SetTable.layClean]
 rw [e]
 have z:((List.range (SetTable.sizeAbove wanted - 1+1)).filterMap fun j=>((Array.replicate (SetTable.sizeAbove wanted - 1+1) (none:Option Nat)).getD j none).map fun y=>(j,y))=[]:=by
  rw [List.filterMap_eq_nil_iff]
  intro j hj
  rw [List.mem_range] at hj
  simp [Array.getD,hj]
 refine ⟨#[],?_,rfl⟩
 show some (({ mask:=_,place:=(List.map _ _).toArray,dummies:=#[],finger:=_,led:=_,moves:=_,plain:=_ }:SetTable),(List.map _ _).toArray)=_
 rw [z]
 rfl
set_option tactic.hygienic true in
private theorem Jn (S:SetIs w l es t)(hr:s.heap.get? r=some (Al #[] 0 (.fresh 0 0 led)))(ho:s.heap.get? o=some (Al es ep t))(ne:r≠o)(hc:okN l.length=true){Q:Unit->Shared->Prop}
  (h:∀ es' ep' t',SetIs w l es' t'->t'.dummies = #[]->t'.mask=BA l.length->Q () { s with heap:=hset s.heap r (Al es' ep' t') }):wpAny (model prog w) A (setMerge r o) Q E s:=by
 simp only [okN,Bool.and_eq_true,Bool.or_eq_true,decide_eq_true_eq] at hc
 obtain ⟨⟨c1,c2⟩,c3⟩:=hc
 have hs:=S.size
 unfold setMerge
 have hb:(r==o)=false:=beq_eq_false_iff_ne.mpr ne
 rw [hb]
 first | rw [if_neg (by decide)] | simp only [Bool.not_true,Bool.false_eq_true,↓reduceIte]
 refine wbK (wpAny_setState_of ho rfl S.fit ?_)
 dsimp only
 have he:es.isEmpty=false:=by rw [Array.isEmpty_eq_false_iff];intro q;subst q;simp at hs;exact (Nat.not_succ_le_zero _ (Mi.la [_] [([3],[2]),([2],[1])] ([3],[1]) rfl (Nat.pos_of_ne_zero c1) (Nat.le_of_eq hs.symm)))
 refine KbI ?_
 rw [he]
 first | rw [if_neg (by decide)] | simp only [Bool.not_true,Bool.false_eq_true,↓reduceIte]
 -- room
 have room:∀ {Q':Unit->Shared->Prop},(∀ ep' t1,t1.dummies = #[]->t1.place = #[]->t1.mask=BA l.length->Q' () { s with heap:=hset s.heap r (Al #[] ep' t1) })->wpAny (model prog w) A (setRoomFor r es.size) Q' E s:=by
  intro Q' hQ
  unfold setRoomFor
  refine wbK (wpAny_setState_of hr rfl Fj ?_)
  refine KbI ?_
  dsimp only
  have rf:(SetTable.fresh 0 0 led).roomFor es.size=if (0+es.size)*5≥7*3 then some ((0+es.size)*2) else none:=rfl
  rw [rf,Nat.zero_add,hs]
  by_cases q:l.length*5≥7*3
  ·rw [if_pos q]
   dsimp only
   have c3':SetTable.sizeAbove (l.length*2)=128:=by rcases c3 with z | z;lia;exact z
   unfold setRelay
   refine wbK (wpAny_setState_of hr rfl Fj ?_)
   dsimp only
   refine KbI ?_
   rw [c3',if_neg (by rw [sizeLine_eq];lia)]
   obtain ⟨order,e1,e2⟩:=Hg (led:=led) (wanted:=l.length*2)
   rw [c3'] at e1
   refine wbK (DO e1 (by subst e2;exact List.Perm.refl _) fun es' p=>?_)
   obtain rfl:es' = #[]:=by
    have:es'.toList=[]:=List.Perm.eq_nil p
    exact Array.toList_eq_nil_iff.mp this
   refine wpAny_storeSet_of hr rfl ?_ (by simp)
   rw [BH hr]
   refine hQ _ _ rfl rfl ?_
   show 128 - 1=BA l.length
   unfold BA;rw [if_pos (by lia)]
  ·rw [if_neg q]
   dsimp only
   refine wpAny_pure ?_
   have e0:s.heap=hset s.heap r (Al #[] 0 (.fresh 0 0 led)):=by
    have:=Dj hr (f:=id) (g:=fun U=>Al #[] 0 (.fresh 0 0 led)) rfl
    show s.heap=s.heap.update r _
    rw [<- this]
    obtain ⟨⟨objs,lf⟩,g,d,tk,os⟩:=s
    show Heap.mk _ _=Heap.mk _ _
    congr 1
    apply Array.ext_getElem?
    intro j
    rw [Array.getElem?_modify]
    by_cases z:r=j
    ·simp [z]
    ·simp [z]
   have:=hQ 0 (.fresh 0 0 led) rfl rfl (by unfold BA;rw [if_neg (by lia)];rfl)
   rw [<- e0] at this
   exact this
 refine wbK (room fun ep1 t1 d1 p1 m1=>?_)
 have hr1:(hset s.heap r (Al #[] ep1 t1)).get? r=some (Al #[] ep1 t1):=H6 hr
 refine wbK (wpAny_setState_of (s:={ s with heap:=hset s.heap r (Al #[] ep1 t1) }) hr1 rfl (KQ (by rw [p1];rfl) d1 (Nat.zero_le _)) ?_)
 dsimp only
 have f0:t1.fill=0:=by unfold SetTable.fill;rw [p1,d1];rfl
 refine KbI ?_
 dsimp only
 cases hroad:t1.road t with
 | oneByOne=>
  exfalso
  unfold SetTable.road at hroad
  rw [f0] at hroad
  simp only [bne_self_eq_false,Bool.false_eq_true,↓reduceIte] at hroad
  split at hroad <;> cases hroad
 | slotForSlot=>
  dsimp only
  have q:t1.mask=t.mask/\t.dummies = #[]:=by
   unfold SetTable.road at hroad
   rw [f0] at hroad
   simp only [bne_self_eq_false,Bool.false_eq_true,↓reduceIte] at hroad
   split at hroad
   ·rename_i z
    simp only [Bool.and_eq_true,beq_iff_eq,Array.isEmpty_iff] at z
    exact z
   ·cases hroad
  refine wpAny_storeSet_of (s:={ s with heap:=hset s.heap r (Al #[] ep1 t1) }) hr1 rfl ?_ (fits_of_scanBound S.bound)
  rw [BH (h:=hset s.heap r (Al #[] ep1 t1)) hr1]
  show Q () { s with heap:=hset (hset s.heap r _) r _ }
  rw [Eh]
  refine h _ _ _ (S.reperm (List.Perm.refl _) ?_) q.2 (by rw [<- q.1] at *;exact q.1▸m1)
  exact S.fit
 | clean=>
  dsimp only
  have hsz:(es.map (·.1)).size<=t1.mask:=by rw [Array.size_map,hs,m1];exact c2
  obtain ⟨t2,order,e1,e2,e3,e4,e5⟩:=Pr (mask:=t1.mask) (by rw [m1];exact Jm _) (es.map (·.1)) hsz t1.finger t1.moves (t1.led&&t.led) (t1.plain&&t.plain)
  rw [Array.size_map] at e2 e3
  refine wbK (DO e1 e2 fun es' p=>?_)
  have sz:es'.size=es.size:=by rw [<- Array.length_toList,p.length_eq,Array.length_toList]
  have S2:SetIs w l es' t2:=S.reperm p (KQ (by rw [e3,sz]) e4 (by rw [sz,hs,e5,m1];exact c2))
  refine KbI ?_
  dsimp only
  refine wpAny_storeSet_of (s:={ s with heap:=hset s.heap r (Al #[] ep1 t1) }) hr1 rfl ?_ (fits_of_scanBound S2.bound)
  rw [BH (h:=hset s.heap r (Al #[] ep1 t1)) hr1]
  show Q () { s with heap:=hset (hset s.heap r _) r _ }
  rw [Eh]
  exact h _ _ _ S2 e4 (e5.trans m1)
end
end Mh
end
section
open PySem PySem.W PySem.Calls PyProof.Rows
open PySem.Sem (wp)
open PySem.Builtin.Frozenset
set_option maxRecDepth 10000
namespace Mh
private theorem Sc (a b:Addr):Builtin.«frozenset.__or__» ⟨[.ref a,.ref b],[]⟩=(do
  if !(<- (isAnySet (.ref a) <&&> isAnySet (.ref b))) then do rule s!"frozenset.{"__or__"}.declined";return <- ret .notImplemented
  ret (<- (do
   let result <- copyOf (<- addrOf (.ref a))
   if (Value.ref b) != .ref (<- addrOf (.ref a)) then holding [result] (updateFrom s!"frozenset.{"__or__"}" (<- addrOf result) (.ref b))
   return result))):=rfl
private theorem Rb (a b:Addr):Builtin.«frozenset.__sub__» ⟨[.ref a,.ref b],[]⟩=(do
  if !(<- (isAnySet (.ref a) <&&> isAnySet (.ref b))) then do rule s!"frozenset.{"__sub__"}.declined";return <- ret .notImplemented
  ret (<- difference s!"frozenset.{"__sub__"}" (<- addrOf (.ref a)) (.ref b))):=rfl
private theorem Jo (a:Addr):setWalk a=(do
 let (es,epoch,t) <- setState a
 if <- setsByText then return pickOrder ((<- ask).params.setOrder a epoch) es
 if (!t.plain&&decide (es.size>1))=true then return (<- drawOrder es.size es.toList).toArray
 (if (!t.led&&decide (es.size>1))=true then unsupported "set:maker-not-led" else pure ())
 return es):=rfl
private theorem Fk:isSubtype (.type "frozenset") (.type "set")=pure false:=by rw [isSubtype_type];kernel_rfl
private theorem LE:isSubtype (.type "frozenset") (.type "frozenset")=pure true:=by rw [isSubtype_type];kernel_rfl
private theorem KR {α:Type}(next:Nat->Nat):∀ (fuel k:Nat) (left:List α) (out:Array α),left.length<=fuel->(pickOrder.go next fuel k left out).toList.Perm (out.toList++left)
 | 0,k,left,out,h=>by
  obtain rfl:left=[]:=List.length_eq_zero_iff.mp (by exact Nat.le_antisymm (Mi.la [_] [([2],[1])] ([2],[1]) rfl h) (Mi.la [_] [] ([1],[2]) rfl))
  rw [List.append_nil];unfold pickOrder.go;exact List.Perm.refl _
 | fuel+1,k,left,out,h=>by
  unfold pickOrder.go
  cases e:left[next k % left.length]? with
  | none=>
   have:left=[]:=by
    cases left with
    | nil=>rfl
    | cons y ys=>
     have lt:=Nat.mod_lt (next k) (show 0<(y::ys).length by simp)
     rw [List.getElem?_eq_getElem lt] at e;cases e
   subst this
   rw [List.append_nil]
  | some x=>
   have lt:next k % left.length<left.length:=by
    rcases Nat.lt_or_ge (next k % left.length) left.length with q | q
    ·exact q
    ·rw [List.getElem?_eq_none q] at e;cases e
   have ex:left[next k % left.length]=x:=by rw [List.getElem?_eq_getElem lt] at e;exact Option.some.inj e
   have ih:=KR next fuel (k+1) (left.eraseIdx (next k % left.length)) (out.push x) (by rw [List.length_eraseIdx_of_lt lt];exact Mi.la [_,_,_] [([2],[4,3,0]),([6,3,0],[2])] ([6],[4]) rfl h (Mi.lcC (Mi.la [_,_] [([2,3,0],[4])] ([3],[4]) rfl lt)))
   refine ih.trans ?_
   rw [Array.toList_push,List.append_assoc]
   refine List.Perm.append_left _ ?_
   have q:∀ (l:List α) (i:Nat) (hi:i<l.length),(l[i]::l.eraseIdx i).Perm l:=by
    intro l
    induction l with
    | nil=>intro i hi;simp at hi
    | cons y ys ih=>
     intro i hi
     cases i with
     | zero=>exact List.Perm.refl _
     | succ i=>exact (List.Perm.swap ..).trans ((ih i (by simpa using hi)).cons y)
   have:=q left _ lt
   rw [ex] at this
   exact this
private theorem LF {α:Type}(next:Nat->Nat)(xs:Array α):(pickOrder next xs).toList.Perm xs.toList:=by
 have:=KR next xs.size 0 xs.toList #[] (by rw [Array.length_toList];exact Nat.le_refl _)
 rw [List.nil_append] at this
 exact this
section
variable {prog:Program}{w:World}{A:Around}{E:Value->Shared->Prop}{s:Shared}{l l':List Str}{es es':Array (Int × Value)}{t t':SetTable}{ep ep':Nat}{a b r o:Addr}{x:Str}{u:Tok}{led:Bool}
private theorem typ (e:s.heap.get? a=some (Al es ep t)):s.TypeIs (.ref a) "frozenset":=⟨_,e,rfl⟩
private theorem H7 (e:s.heap.get? a=some (Al es ep t)){Q:Bool->Shared->Prop}(h:Q true s):wpAny (model prog w) A (isAnySet (.ref a)) Q E s:=by
 unfold isAnySet
 refine wbK (wpAny_isInstance (typ e) Fk ?_)
 exact wpAny_isInstance (typ e) LE h
private theorem M7 (ea:s.heap.get? a=some (Al es ep t))(eb:s.heap.get? b=some (Al es' ep' t')){Q:Bool->Shared->Prop}(h:Q true s):wpAny (model prog w) A (isAnySet (.ref a) <&&> isAnySet (.ref b)) Q E s:=by
 refine wbK (H7 ea ?_)
 exact H7 eb h
private theorem Rc {Q:Bool->Shared->Prop}(h:∀ c,Q c s):wpAny (model prog w) A setsByText Q E s:=by
 unfold setsByText
 exact wbK (wpAny_askSetting (wpAny_pure (h _)))
private theorem M8 (S:SetIs w l es t)(e:s.heap.get? a=some (Al es ep t))(c:Bool)(hc:(c||(t.led&&t.plain)||decide (es.size<=1))=true){Q:Array (Int × Value)->Shared->Prop}(h:∀ es',es'.toList.Perm es.toList->Q es' s)(hb:c=w.params.followText "set-order") :
  wpAny (model prog w) A (setWalk a) Q E s:=by
 rw [Jo]
 refine wbK (wpAny_setState_of e rfl S.fit ?_)
 dsimp only
 refine wbK ?_
 unfold setsByText
 refine wbK (wpAny_askSetting (wpAny_pure ?_))
 show wpAny (model prog w) A (if (w.params.followText "set-order")=true then _ else _) _ _ _
 rw [<- hb]
 cases c with
 | true=>exact wbK (wpAny_askSetting (wpAny_pure (h _ (LF _ _))))
 | false=>
  first | rw [if_neg (by decide)] | simp only [Bool.not_true,Bool.false_eq_true,↓reduceIte]
  have h1:(!t.plain&&decide (es.size>1))=false:=by
   revert hc
   cases t.plain <;> simp
   try (intro q _;lia)
  have h2:(!t.led&&decide (es.size>1))=false:=by
   revert hc
   cases t.led <;> simp
   try (intro q;lia)
  rw [h1,h2]
  first | rw [if_neg (by decide)] | simp only [Bool.not_true,Bool.false_eq_true,↓reduceIte]
  exact wbK (wpAny_pure (wpAny_pure (h _ (List.Perm.refl _))))
private theorem H8 (S:SetIs w l es t)(e:s.heap.get? a=some (Al es ep t))(h1:es.size<=1){others:List Addr}{f:Option Addr}{Q:Array (Int × Value)->Shared->Prop}(h:∀ es',es'.toList.Perm es.toList->Q es' s) :
  wpAny (model prog w) A (setWalkUnseen a others f) Q E s:=by
 unfold setWalkUnseen
 refine wbK (wpAny_setState_of e rfl S.fit ?_)
 dsimp only
 unfold setsByText
 refine wbK (wbK (wpAny_askSetting (wpAny_pure ?_)))
 show wpAny (model prog w) A (if (w.params.followText "set-order"||_||_)=true then _ else _) _ _ _
 rw [if_pos (by simp [h1])]
 exact M8 S e _ (by simp [h1]) h rfl
end
section
variable {prog:Program}{w:World}{A:Around}{E:Value->Shared->Prop}{s:Shared}{l l':List Str}{es es':Array (Int × Value)}{t t':SetTable}{ep ep':Nat}{a b r o:Addr}{x:Str}{u:Tok}{led:Bool}{n:Nat}
private theorem Ei {h:Heap}{o o':Obj}:hset (h.push o) h.objs.size o'=h.push o':=by
 obtain ⟨objs,lf⟩:=h
 show Heap.mk _ _=Heap.mk _ _
 congr 1
 apply Array.ext_getElem?
 intro j
 rw [Array.getElem?_modify,Array.getElem?_push,Array.getElem?_push]
 by_cases q:objs.size=j
 ·subst q;simp
 ·have:j≠objs.size:=fun e=>q e.symm
  simp [q,this]
private theorem SG {Q:Value->Shared->Prop}(h:∀ led,Q (.ref s.heap.objs.size) { s with heap:=s.heap.push (Al #[] 0 (.fresh 0 0 led)) }):wpAny (model prog w) A (newSet (.type "frozenset")) Q E s:=by
 unfold newSet
 refine wbK (Rc fun c=>?_)
 dsimp only
 unfold newObj
 refine wbK ?_
 exact wpAny_alloc (wpAny_pure (h _))
private theorem QQ (S:SetIs w l es t)(e:s.heap.get? a=some (Al es ep t))(hc:okN l.length=true){Q:Value->Shared->Prop}
  (h:∀ es' ep' t',SetIs w l es' t'->t'.dummies = #[]->t'.mask=BA l.length->Q (.ref s.heap.objs.size) { s with heap:=s.heap.push (Al es' ep' t') }):wpAny (model prog w) A (copyOf a) Q E s:=by
 unfold copyOf
 refine wbK ?_
 unfold baseOf
 refine wbK (wpAny_isInstance (typ e) Fk (wpAny_pure ?_))
 first | rw [if_neg (by decide)] | simp only [Bool.not_true,Bool.false_eq_true,↓reduceIte]
 refine wbK (SG fun led=>?_)
 refine wbK (wpAny_pure ?_)
 have lt:=Heap.lt_size e
 refine wbK (Jn (s:={ s with heap:=s.heap.push (Al #[] 0 (.fresh 0 0 led)) }) S (r:=s.heap.objs.size) (led:=led) (Heap.get?_push_size _ rfl) (Heap.get?_push_of_some _ e) (Nat.ne_of_gt lt) hc fun es' ep' t' S' d m=>wpAny_pure ?_)
 show Q _ { s with heap:=hset (s.heap.push _) s.heap.objs.size _ }
 rw [Ei]
 exact h _ _ _ S' d m
private theorem M9 (S:SetIs w l es t)(S':SetIs w [x] es' t')(er:s.heap.get? r=some (Al es ep t))(eo:s.heap.get? o=some (Al es' ep' t'))(ne:r≠o)(hx:x∉l)(hl:l.length+1<1000)(h0:l≠[])
  (hd:t.dummies = #[]) (hm:(l.length+1)*5<t.mask*3) {each:Sem Unit} (he:∀ (s':Shared) (Q:Unit->Shared->Prop),s'.heap.get? o=some (Al es' ep' t')->Q () s'->wpAny (model prog w) A each Q E s') {Q:Unit->Shared->Prop}
  (h:∀ es' ep' t',SetIs w (x::l) es' t'->Q () { s with heap:=hset s.heap r (Al es' ep' t') }):wpAny (model prog w) A (setMerge r o each) Q E s:=by
 have z':es'.size=1:=S'.size
 unfold setMerge
 rw [beq_eq_false_iff_ne.mpr ne]
 first | rw [if_neg (by decide)] | simp only [Bool.not_true,Bool.false_eq_true,↓reduceIte]
 refine wbK (wpAny_setState_of eo rfl S'.fit ?_)
 dsimp only
 have:es'.isEmpty=false:=by rw [Array.isEmpty_eq_false_iff];intro q;subst q;simp at z'
 refine KbI ?_
 rw [this]
 first | rw [if_neg (by decide)] | simp only [Bool.not_true,Bool.false_eq_true,↓reduceIte]
 have pl:t.place.size=l.length:=by
  have f:=S.fit
  simp only [SetTable.fits,Bool.and_eq_true,beq_iff_eq] at f
  rw [f.1,S.size]
 have fl:t.fill=l.length:=by unfold SetTable.fill;rw [hd,pl];rfl
 refine wbK ?_
 unfold setRoomFor
 refine wbK (wpAny_setState_of er rfl S.fit ?_)
 dsimp only
 have rf:t.roomFor es'.size=none:=by unfold SetTable.roomFor;rw [fl,z',if_neg (by lia)]
 refine KbI ?_
 rw [rf]
 refine wpAny_pure ?_
 refine wbK (wpAny_setState_of er rfl S.fit ?_)
 refine KbI ?_
 dsimp only
 have rd:t.road t' = .oneByOne:=by
  unfold SetTable.road
  rw [fl,if_pos]
  simp only [bne_iff_ne,ne_eq]
  intro q;exact h0 (List.length_eq_zero_iff.mp q)
 rw [rd]
 dsimp only
 refine wbK (H8 S' eo (by exact Mi.la [_] [([2],[3])] ([2],[3]) rfl (Nat.le_of_eq z')) fun es2 p=>?_)
 obtain ⟨e1,he1⟩:∃ e1,es'.toList=[e1]:=List.length_eq_one_iff.mp (by rw [Array.length_toList];exact z')
 have he2:es2.toList=[e1]:=by rw [he1] at p;exact List.Perm.eq_singleton p
 obtain ⟨y,u,rfl⟩:=S'.el e1 (by rw [he1];exact List.mem_singleton_self _)
 have:y=x:=by
  have:=S'.perm
  rw [he1] at this
  exact List.singleton_inj.mp (List.Perm.eq_singleton this)
 subst this
 refine wbK (wpAny_forIn_array' _ (fun rest U s'=>(rest=[(hashStr w y,.str y u)]/\s'=s)\/(rest=[]/\∃ es' ep' t',SetIs w (y::l) es' t'/\s' = { s with heap:=hset s.heap r (Al es' ep' t') })) _ ?_ ?_ es2 _ (.inl ⟨he2,rfl⟩))
 ·rintro ⟨hh,v⟩ rest _ s' (⟨q,rfl⟩ | ⟨q,_⟩)
  ·cases q
   refine wbK (wpAny_holding (Sb S hx hl er fun es3 ep3 t3 S3=>?_))
   have eo':(hset s'.heap r (Al es3 ep3 t3)).get? o=some (Al es' ep' t'):=by rw [Ps (Ne.symm ne)];exact eo
   refine wbK (he _ _ eo' ?_)
   refine wbK (wpAny_setState_of (s:={ s' with heap:=hset s'.heap r (Al es3 ep3 t3) }) eo' rfl S'.fit ?_)
   refine KbI ?_
   first | rw [if_neg (by rw [bne_self_eq_false];decide)] | simp only [bne_self_eq_false,Bool.false_eq_true,↓reduceIte]
   exact wpAny_pure (.inr ⟨by trivial,_,_,_,S3,rfl⟩)
  ·cases q
 ·rintro _ s' (⟨q,_⟩ | ⟨_,es3,ep3,t3,S3,rfl⟩)
  ·cases q
  ·exact wpAny_pure (h _ _ _ S3)
private theorem EK (a:Addr){Q:Addr->Shared->Prop}(h:Q a s):wpAny (model prog w) A (addrOf (.ref a)) Q E s:=wpAny_pure h
private theorem Rd (S:SetIs w l es t)(S':SetIs w [x] es' t')(ea:s.heap.get? a=some (Al es ep t))(eb:s.heap.get? b=some (Al es' ep' t'))(ne:a≠b)(hx:x∉l)(hl:l.length+1<1000)(hc:okN l.length=true)
  (hm:(l.length+1)*5<BA l.length*3) {Q:PySem.Fin->Shared->Prop} (h:∀ es' ep' t',SetIs w (x::l) es' t'->Q (.done (.ret (.ref s.heap.objs.size))) { s with heap:=s.heap.push (Al es' ep' t') }) :
  wpAny (model prog w) A (Builtin.«frozenset.__or__» ⟨[.ref a,.ref b],[]⟩) Q E s:=by
 rw [Sc]
 have h0:l≠[]:=by rintro rfl;simp [okN] at hc
 refine wbK (M7 ea eb ?_)
 first | rw [if_neg (by decide)] | simp only [Bool.not_true,Bool.false_eq_true,↓reduceIte]
 refine wbK ?_
 refine wbK (EK a ?_)
 refine wbK (QQ S ea hc fun es1 ep1 t1 S1 d1 m1=>?_)
 refine wbK (EK a ?_)
 have nb:((Value.ref b) != .ref a)=true:=by
  rw [bne_iff_ne];intro q;cases q;exact ne rfl
 refine KbI ?_
 rw [nb]
 first | rw [if_pos rfl] | simp only [↓reduceIte]
 have lb:=Heap.lt_size eb
 have er:(s.heap.push (Al es1 ep1 t1)).get? s.heap.objs.size=some (Al es1 ep1 t1):=Heap.get?_push_size _ rfl
 have eb':(s.heap.push (Al es1 ep1 t1)).get? b=some (Al es' ep' t'):=Heap.get?_push_of_some _ eb
 refine wbK (EK _ ?_)
 refine wbK (wpAny_holding ?_)
 unfold updateFrom
 refine wbK (H7 (s:={ s with heap:=s.heap.push (Al es1 ep1 t1) }) eb' ?_)
 first | rw [if_pos rfl] | simp only [↓reduceIte]
 refine wbK (EK b ?_)
 unfold merge
 refine wbK (wpAny_setEpoch_of (s:={ s with heap:=s.heap.push (Al es1 ep1 t1) }) eb' rfl S'.fit ?_)
 refine M9 (s:={ s with heap:=s.heap.push (Al es1 ep1 t1) }) S1 S' er eb' (Nat.ne_of_gt lb) hx hl h0 d1 (by rw [m1];exact hm) (fun s' Q' e' q=>?_) fun es2 ep2 t2 S2=>?_
 ·unfold unchanged
  refine wbK (wpAny_setEpoch_of e' rfl S'.fit ?_)
  refine KbI ?_
  first | rw [if_neg (by rw [bne_self_eq_false];decide)] | simp only [bne_self_eq_false,Bool.false_eq_true,↓reduceIte]
  exact wpAny_pure q
 ·show wpAny _ _ _ _ _ { s with heap:=hset (s.heap.push _) s.heap.objs.size _ }
  rw [Ei]
  exact wpAny_pure (wpAny_pure (h _ _ _ S2))
private theorem LG (S:SetIs w l es t)(e:s.heap.get? a=some (Al es ep t)){Q:Option Nat->Shared->Prop}(h:∀ r,es.toList.findIdx? (fun e=>(strKind prog w).is x e.2)=r->Q r s) :
  wpAny (model prog w) A (setFind a (.str x u) (hashStr w x)) Q E s:=by
 unfold setFind setFindIn
 refine wbK (wpAny_setState_of e rfl S.fit ?_)
 dsimp only
 refine KbI ?_
 rw [byScan_of rfl S.bound (S.elems (prog:=prog))]
 first | rw [if_pos rfl] | simp only [↓reduceIte]
 refine wbK (wpAny_rule ?_)
 refine wbK (wpAny_setScan_of (knd:=strKind prog w) (k:=x) (strKind_is prog w x u) e rfl S.fit S.elems ?_)
 cases hr:es.toList.findIdx? (fun e=>(strKind prog w).is x e.2) with
 | none=>exact wpAny_pure (h _ hr)
 | some j=>exact wpAny_pure (by rw [Nat.zero_add];exact h _ hr)
private theorem DP {α:Type}(xs:Array α)(p:Nat)(hp:p<xs.size):(SetTable.eraseAt xs p).toList=xs.toList.eraseIdx p:=by
 unfold SetTable.eraseAt
 rw [Array.toList_append,Array.toList_extract,Array.toList_extract,List.eraseIdx_eq_take_drop_succ]
 simp only [List.extract_eq_take_drop,List.drop_zero,Nat.sub_zero]
 congr 1
 rw [List.take_of_length_le]
 simp
private theorem Pt {t:SetTable}{n:Nat}(h1:t.place.size=n)(h2:t.place.size+t.dummies.size<=t.mask):t.fits n=true:=by
 unfold SetTable.fits SetTable.fill
 simp [h1]
 rw [<- h1];exact h2
private theorem Pu (S:SetIs w l es t)(hd:t.dummies.size<=n)(e:s.heap.get? a=some (Al es ep t)){Q:Bool->Shared->Prop}
  (h:∀ c es' ep' t',SetIs w (l.filter (fun y=>decide (y≠x))) es' t'->t'.dummies.size<=n+1->t'.mask=t.mask->Q c { s with heap:=hset s.heap a (Al es' ep' t') }):wpAny (model prog w) A (setDiscardHashed a (.str x u) (hashStr w x)) Q E s:=by
 unfold setDiscardHashed
 refine wbK (LG S e fun r hr=>?_)
 cases r with
 | none=>
  have hx:x∉l:=by
   rw [S.mem (prog:=prog)]
   rintro ⟨y,hy,q⟩
   have:=List.findIdx?_eq_none_iff.mp hr y hy
   rw [q] at this;cases this
  have fl:l.filter (fun y=>decide (y≠x))=l:=List.filter_eq_self.mpr fun y hy=>by rw [decide_eq_true_eq];rintro rfl;exact hx hy
  have e0:s.heap=hset s.heap a (Al es ep t):=by
   show s.heap=s.heap.update a _
   rw [<- Dj e (f:=id) (g:=fun U=>Al es ep t) rfl]
   obtain ⟨⟨objs,lf⟩,g,d,tk,os⟩:=s
   show Heap.mk _ _=Heap.mk _ _
   congr 1
   apply Array.ext_getElem?
   intro j
   rw [Array.getElem?_modify]
   by_cases z:a=j
   ·simp [z]
   ·simp [z]
  have:=h false es ep t (by rw [fl];exact S) (by exact Mi.la [_,_] [([2],[4])] ([2],[4,3,0]) rfl hd) rfl
  rw [<- e0] at this
  exact wpAny_pure this
 | some i=>
  dsimp only
  obtain ⟨hi,hp,_⟩:=List.findIdx?_eq_some_iff_getElem.mp hr
  have hi':i<es.size:=by rwa [Array.length_toList] at hi
  refine wbK (wpAny_setState_of e rfl S.fit ?_)
  refine KbI ?_
  dsimp only
  have el:=DP es i hi'
  have hk:keyS es.toList[i]=x:=((Jl (S.el _ (List.getElem_mem hi)) x).mp hp).symm
  have pe:((es.toList.eraseIdx i).map keyS).Perm (l.filter (fun y=>decide (y≠x))):=by
   have p1:(x::(es.toList.eraseIdx i).map keyS).Perm l:=by
    have q:∀ (l:List (Int × Value)) (i:Nat) (hi:i<l.length),(l[i]::l.eraseIdx i).Perm l:=by
     intro l
     induction l with
     | nil=>intro i hi;simp at hi
     | cons y ys ih=>
      intro i hi
      cases i with
      | zero=>exact List.Perm.refl _
      | succ i=>exact (List.Perm.swap ..).trans ((ih i (by simpa using hi)).cons y)
    have:=(q es.toList i hi).map keyS
    rw [List.map_cons,hk] at this
    exact this.trans S.perm
   have p2:=p1.filter (fun y=>decide (y≠x))
   have nd:(x::(es.toList.eraseIdx i).map keyS).Nodup:=p1.symm.nodup S.nd
   rw [List.nodup_cons] at nd
   rw [List.filter_cons_of_neg (by simp)] at p2
   rwa [List.filter_eq_self.mpr fun y hy=>by rw [decide_eq_true_eq];rintro rfl;exact nd.1 hy] at p2
  have f:=S.fit
  simp only [SetTable.fits,Bool.and_eq_true,beq_iff_eq,decide_eq_true_eq] at f
  have ip:i<t.place.size:=by rw [f.1];exact hi'
  have dr:t.drop i = { t with place:=SetTable.eraseAt t.place i,dummies:=SetTable.insertAt t.dummies (SetTable.below t.dummies t.place[i]) t.place[i] }:=by
   unfold SetTable.drop
   rw [Array.getElem?_eq_getElem ip]
  have szp:(SetTable.eraseAt t.place i).size=t.place.size - 1:=by
   rw [<- Array.length_toList,DP _ _ ip,List.length_eraseIdx_of_lt (by rw [Array.length_toList];exact ip),Array.length_toList]
  have szd:(SetTable.insertAt t.dummies (SetTable.below t.dummies t.place[i]) t.place[i]).size=t.dummies.size+1:=by
   rw [<- Array.length_toList,(SetTable.insertAt_perm ..).length_eq,Array.toList_push,List.length_append,Array.length_toList];rfl
  have sze:(SetTable.eraseAt es i).size=es.size - 1:=by
   rw [<- Array.length_toList,el,List.length_eraseIdx_of_lt hi,Array.length_toList]
  have S2:SetIs w (l.filter (fun y=>decide (y≠x))) (SetTable.eraseAt es i) (t.drop i):=by
   refine ⟨fun y hy=>?_,by rw [el];exact pe,S.nd.filter _,?_,Nat.lt_of_le_of_lt (List.length_filter_le ..) S.lt⟩
   ·rw [el] at hy
    exact S.el y (List.mem_of_mem_eraseIdx hy)
   ·rw [dr]
    have:=f.2
    unfold SetTable.fill at this
    refine Pt (by show (SetTable.eraseAt t.place i).size=_;rw [szp,sze];exact Nat.le_antisymm (Mi.la [_,_,_,_] [([2],[4]),([6,3,0],[2]),([4],[8,3,0])] ([6],[8]) rfl (Nat.le_of_eq f.1) (Mi.lcC (Mi.la [_,_] [([2,3,0],[4])] ([3],[4]) rfl ip)) (Mi.lcS _ _)) (Mi.la [_,_,_,_] [([2],[4]),([6,3,0],[2]),([4],[8,3,0])] ([6],[8]) rfl (Nat.le_of_eq f.1.symm) (Mi.lcC (Mi.la [_,_] [([2,3,0],[4])] ([3],[4]) rfl hi')) (Mi.lcS _ _))) ?_
    show (SetTable.eraseAt t.place i).size+(SetTable.insertAt ..).size<=t.mask
    rw [szp,szd]
    exact Mi.la [_,_,_,_] [([2,4,0],[6]),([8,3,0],[2])] ([8,4,3,0,0],[6]) rfl this (Mi.lcC (Mi.la [_,_] [([2,3,0],[4])] ([3],[4]) rfl ip))
  refine wbK (wpAny_storeSet_of e rfl ?_ (fits_of_scanBound S2.bound))
  rw [BH e]
  refine wbK (wpAny_point ?_)
  exact wpAny_pure (h true _ _ _ S2 (by rw [dr];show (SetTable.insertAt ..).size<=_;rw [szd];exact Mi.la [_,_] [([2],[4])] ([2,3,0],[4,3,0]) rfl hd) (by rw [dr]))
end
noncomputable def eqL:List Nat->List Nat->Bool
 | [],m=>m.isEmpty
 | a::l,m=>match m with
  | []=>false
  | b::m=>match Nat.beq a b with
   | true=>eqL l m
   | false=>false
private theorem eqL_iff:∀ (a b:List Nat),eqL a b=true↔a=b:=by
 intro a
 induction a with
 | nil=>exact fun b=>List.isEmpty_iff.trans eq_comm
 | cons a l ih=>
  intro b
  cases b with
  | nil=>exact ⟨fun h=>by injection h,fun h=>by injection h⟩
  | cons b m=>
   show (match Nat.beq a b with
    | true=>eqL l m
    | false=>false)=true↔_
   cases q:Nat.beq a b with
   | true=>
    obtain rfl:=Nat.eq_of_beq_eq_true q
    exact (ih m).trans ⟨fun h=>by rw [h],fun h=>(List.cons.inj h).2⟩
   | false=>exact ⟨fun h=>by injection h,fun h=>by rw [(List.cons.inj h).1,Nat.beq_refl] at q;injection q⟩
noncomputable def Gi (x:Str):List Str->Bool
 | []=>false
 | y::l=>match eqL x.cps.toList y.cps.toList with
  | true=>true
  | false=>Gi x l
private theorem Fl (x:Str):∀ l,Gi x l=true↔x∈l
 | []=>by simp [Gi]
 | y::l=>by
  unfold Gi
  cases q:eqL x.cps.toList y.cps.toList with
  | true=>
   have:x=y:=by
    have:=(eqL_iff _ _).mp q
    obtain ⟨⟨a⟩⟩:=x;obtain ⟨⟨b⟩⟩:=y
    simp only at this;subst this;rfl
   simp [this]
  | false=>
   have:x≠y:=by rintro rfl;rw [(eqL_iff _ _).mpr rfl] at q;cases q
   rw [List.mem_cons,Fl x l];simp [this]
private theorem Dz {x:Str}{l}(h:Gi x l=false):x∉l:=fun q=>by rw [(Fl x l).mpr q] at h;cases h
noncomputable def Fn (l l':List Str):List Str:=match l with
 | []=>[]
 | y::r=>match Gi y l' with
  | true=>Fn r l'
  | false=>y::Fn r l'
private theorem Hh:∀ (l l':List Str),Fn l l'=l.filter fun y=>decide (y∉l')
 | [],_=>rfl
 | y::r,l'=>by
  unfold Fn
  cases q:Gi y l' with
  | true=>rw [List.filter_cons_of_neg (by simpa using (Fl y l').mp q)];exact Hh r l'
  | false=>rw [List.filter_cons_of_pos (by simpa using Dz q)];dsimp only;rw [Hh r l']
section
variable {prog:Program}{w:World}{A:Around}{E:Value->Shared->Prop}{s:Shared}{l l':List Str}{es es':Array (Int × Value)}{t t':SetTable}{ep ep':Nat}{a b r o:Addr}{x:Str}{u:Tok}{led:Bool}{n:Nat}
private theorem Re (S:SetIs w l es t)(S':SetIs w l' es' t')(ea:s.heap.get? a=some (Al es ep t))(eb:s.heap.get? b=some (Al es' ep' t')){Q:Bool->Shared->Prop}(h:Q true s):wpAny (model prog w) A (setsQuiet [a,b]) Q E s:=by
 unfold setsQuiet
 refine wbK (wpAny_forIn_list _ (fun rest r s'=>r.1=none/\s'=s/\∀ c∈rest,c=a\/c=b) _ ?_ ?_ _ _ ⟨rfl,rfl,fun c hc=>by simpa using hc⟩)
 ·rintro c rest r s' ⟨hr,rfl,hc⟩
  have hs:∃ l₁ T5 y6 W5,SetIs w l₁ T5 W5/\s'.heap.get? c=some (Al T5 y6 W5):=by
   rcases hc c List.mem_cons_self with rfl | rfl
   ·exact ⟨_,_,_,_,S,ea⟩
   ·exact ⟨_,_,_,_,S',eb⟩
  obtain ⟨l₁,T5,y6,W5,i4,u0⟩:=hs
  unfold setEntries
  refine wbK (wbK (wpAny_setState_of u0 rfl i4.fit (wpAny_pure ?_)))
  refine wbK (wpAny_forIn_array' _ (fun rest r s''=>r.1=none/\s''=s'/\∀ e∈rest,e∈T5.toList) _ ?_ ?_ _ _ ⟨rfl,rfl,fun e he=>he⟩)
  ·rintro ⟨hh,v⟩ rest' r' s'' ⟨hr',rfl,he⟩
   obtain ⟨y,u,q⟩:=i4.el _ (he _ List.mem_cons_self)
   cases q
   exact wpAny_pure ⟨rfl,rfl,fun e q=>he e (List.mem_cons_of_mem _ q)⟩
  ·rintro ⟨r1,r2⟩ s'' ⟨hr',rfl,_⟩
   simp only at hr'
   subst hr'
   exact wpAny_pure ⟨rfl,rfl,fun c q=>hc c (List.mem_cons_of_mem _ q)⟩
 ·rintro ⟨r1,r2⟩ s' ⟨hr,rfl,_⟩
  simp only at hr
  subst hr
  exact wpAny_pure h
private theorem H9 (S:SetIs w l es t)(S':SetIs w l' es' t')(ea:s.heap.get? a=some (Al es ep t))(eb:s.heap.get? b=some (Al es' ep' t')){Q:Array (Int × Value)->Shared->Prop}(h:∀ es2,es2.toList.Perm es.toList->Q es2 s) :
  wpAny (model prog w) A (setWalkUnseen a [b] none) Q E s:=by
 unfold setWalkUnseen
 refine wbK (wpAny_setState_of ea rfl S.fit ?_)
 dsimp only
 unfold setsByText
 refine wbK (wbK (wpAny_askSetting (wpAny_pure ?_)))
 show wpAny (model prog w) A (if (w.params.followText "set-order"||_||_)=true then _ else _) _ _ _
 by_cases q:(w.params.followText "set-order"||t.led&&t.plain||decide (es.size<=1))=true
 ·rw [if_pos q]
  exact M8 S ea _ q h rfl
 ·rw [if_neg q]
  refine wbK (Re S S' ea eb ?_)
  first | rw [if_neg (by decide)] | simp only [Bool.not_true,Bool.false_eq_true,↓reduceIte]
  refine wbK (wpAny_rule ?_)
  exact wpAny_pure (h _ (List.Perm.refl _))
private theorem KS (S:SetIs w l es t)(ea:s.heap.get? a=some (Al es ep t)){Q:Nat->Shared->Prop}(h:Q l.length s):wpAny (model prog w) A (Builtin.Frozenset.sizeOf a) Q E s:=by
 unfold Builtin.Frozenset.sizeOf setEntries
 exact wbK (wbK (wpAny_setState_of ea rfl S.fit (wpAny_pure (wpAny_pure (by rw [S.size];exact h)))))
private theorem Pv (S:SetIs w l es t)(S':SetIs w l' es' t')(ea:s.heap.get? a=some (Al es ep t))(eb:s.heap.get? b=some (Al es' ep' t'))(hc:okN l.length=true)(hq:l.length / 4>l'.length)
  (h8:¬ l'.length / 8>l.length) (hm:l'.length<=BA l.length / 4) {Q:PySem.Fin->Shared->Prop} (h:∀ es' ep' t',SetIs w (Fn l l') es' t'->Q (.done (.ret (.ref s.heap.objs.size))) { s with heap:=s.heap.push (Al es' ep' t') }) :
  wpAny (model prog w) A (Builtin.«frozenset.__sub__» ⟨[.ref a,.ref b],[]⟩) Q E s:=by
 rw [Rb]
 refine wbK (M7 ea eb ?_)
 refine KbI ?_
 rw [if_neg (by decide)]
 refine wbK (EK a ?_)
 refine wbK ?_
 unfold difference
 refine wbK (H7 eb ?_)
 refine KbI ?_
 rw [if_neg (by decide)]
 refine wbK (EK b ?_)
 refine wbK (KS S' eb ?_)
 refine wbK (KS S ea ?_)
 refine KbI ?_
 rw [if_pos hq]
 refine wbK (wpAny_rule ?_)
 refine wbK (QQ S ea hc fun es1 ep1 t1 S1 d1 m1=>?_)
 have lb:=Heap.lt_size eb
 have er:(s.heap.push (Al es1 ep1 t1)).get? s.heap.objs.size=some (Al es1 ep1 t1):=Heap.get?_push_size _ rfl
 have eb':(s.heap.push (Al es1 ep1 t1)).get? b=some (Al es' ep' t'):=Heap.get?_push_of_some _ eb
 refine wbK (EK _ ?_)
 refine wbK (wpAny_holding ?_)
 unfold differenceUpdate
 have nb:((Value.ref b)==.ref s.heap.objs.size)=false:=by
  rw [beq_eq_false_iff_ne];intro q;cases q;exact Nat.lt_irrefl _ lb
 rw [nb]
 rw [if_neg (by decide)]
 refine wbK (H7 (s:={ s with heap:=s.heap.push (Al es1 ep1 t1) }) eb' ?_)
 refine KbI ?_
 rw [if_pos rfl]
 refine wbK (EK b ?_)
 refine wbK (KS (s:={ s with heap:=s.heap.push (Al es1 ep1 t1) }) S' eb' ?_)
 refine wbK (KS (s:={ s with heap:=s.heap.push (Al es1 ep1 t1) }) S1 er ?_)
 refine KbI ?_
 rw [if_neg h8]
 refine wbK (wpAny_setEpoch_of (s:={ s with heap:=s.heap.push (Al es1 ep1 t1) }) eb' rfl S'.fit ?_)
 refine wbK (wpAny_holding ?_)
 refine wbK (H9 (s:={ s with heap:=s.heap.push (Al es1 ep1 t1) }) S' S1 eb' er fun es2 p2=>?_)
 refine wbK (wpAny_forIn_array' _ (fun rest U s'=>∃ done es3 ep3 t3,done++rest.map keyS=es2.toList.map keyS/\(∀ e∈rest,e∈es2.toList)/\SetIs w (l.filter fun y=>decide (y∉done)) es3 t3/\t3.dummies.size<=done.length/\t3.mask=BA l.length /\
  s' = { s with heap:=s.heap.push (Al es3 ep3 t3) }) _ ?_ ?_ es2 _ ⟨[],es1,ep1,t1,rfl,fun e he=>he,?_,by rw [d1];exact Nat.zero_le _,m1,rfl⟩)
 ·rintro ⟨hh,v⟩ rest _ s' ⟨done,es3,ep3,t3,hd,hin,S3,d3,m3,rfl⟩
  obtain ⟨y,u,q⟩:=S'.el _ (p2.mem_iff.mp (hin _ List.mem_cons_self))
  cases q
  have er3:(s.heap.push (Al es3 ep3 t3)).get? s.heap.objs.size=some (Al es3 ep3 t3):=Heap.get?_push_size _ rfl
  refine wbK (wpAny_holding (Pu (s:={ s with heap:=s.heap.push (Al es3 ep3 t3) }) (n:=done.length) S3 d3 er3 fun c es4 ep4 t4 S4 d4 m4=>?_))
  have eb4:(s.heap.push (Al es4 ep4 t4)).get? b=some (Al es' ep' t'):=Heap.get?_push_of_some _ eb
  show wpAny (model prog w) A _ _ _ { s with heap:=hset (s.heap.push _) s.heap.objs.size _ }
  rw [Ei]
  unfold unchanged
  refine wbK (wbK (wpAny_setEpoch_of (s:={ s with heap:=s.heap.push (Al es4 ep4 t4) }) eb4 rfl S'.fit ?_))
  refine KbI ?_
  rw [if_neg (by rw [bne_self_eq_false];decide)]
  refine wpAny_pure (wpAny_pure ⟨done++[y],es4,ep4,t4,?_,fun e q=>hin e (List.mem_cons_of_mem _ q),?_,by simpa using d4,m4.trans m3,rfl⟩)
  ·rw [<- hd];simp [keyS]
  ·have:(l.filter fun z=>decide (z∉done++[y]))=(l.filter fun z=>decide (z∉done)).filter fun z=>decide (z≠y):=by
    rw [List.filter_filter]
    congr 1
    funext z
    by_cases q1:z∈done <;> by_cases q2:z=y <;> simp [q1,q2]
   rw [this];exact S4
 ·rintro _ s' ⟨done,es3,ep3,t3,hd,_,S3,d3,m3,rfl⟩
  have er3:(s.heap.push (Al es3 ep3 t3)).get? s.heap.objs.size=some (Al es3 ep3 t3):=Heap.get?_push_size _ rfl
  have hp:done.Perm l':=by
   rw [List.map_nil,List.append_nil] at hd
   rw [hd]
   exact (p2.map keyS).trans S'.perm
  have e3:(l.filter fun z=>decide (z∉done))=Fn l l':=by
   rw [Hh]
   congr 1
   funext z
   simp only [hp.mem_iff]
  rw [e3] at S3
  have hl:=hp.length_eq
  refine wpAny_pure ?_
  unfold setTidy
  refine wbK (wpAny_setState_of (s:={ s with heap:=s.heap.push (Al es3 ep3 t3) }) er3 rfl S3.fit ?_)
  dsimp only
  have nt:t3.tooManyDummies=false:=by
   unfold SetTable.tooManyDummies
   rw [m3,decide_eq_false_iff_not]
   exact Nat.not_lt.mpr (Mi.la [_,_,_,_] [([2],[4]),([6],[8]),([8],[2])] ([6],[4]) rfl hm d3 (Nat.le_of_eq hl))
  refine KbI ?_
  rw [nt]
  rw [if_neg (by decide)]
  refine wpAny_pure (wpAny_pure (wpAny_pure (h _ _ _ S3)))
 ·have:(l.filter fun y=>decide (y∉([]:List Str)))=l:=List.filter_eq_self.mpr fun y U=>by simp
  rw [this];exact S1
end
theorem wp_pick {α:Type}{M:Model}{Γ:Ctx}(m:Sem α):∀ {Q:α->Pos->Shared->Prop} {p:Pos} {s:Shared},wp M Γ m Q (fun U U U=>False) p s ->
  ∃ a p' s',Q a p' s'/\∀ (Q':α->Pos->Shared->Prop) E',Q' a p' s'->wp M Γ m Q' E' p s:=by
 induction m with
 | pure a=>intro Q p s h;exact ⟨a,p,s,h,fun Q' E' q=>q⟩
 | raise e=>intro Q p s h;exact h.elim
 | unsupported | finish | register | «yield» | fork | await=>intro Q p s h;exact h.elim
 | rule tag k ih=>intro Q p s h;exact ih () h
 | «at» q k ih=>intro Q p s h;exact ih () h
 | load a part k ih=>
  intro Q p s h
  obtain ⟨o,ho,h⟩:=h
  obtain ⟨a,p',s',h1,h2⟩:=ih o h
  exact ⟨a,p',s',h1,fun Q' E' q=>⟨o,ho,h2 Q' E' q⟩⟩
 | update a part f k ih=>
  intro Q p s h
  obtain ⟨ho,h⟩:=h
  obtain ⟨a,p',s',h1,h2⟩:=ih () h
  exact ⟨a,p',s',h1,fun Q' E' q=>⟨ho,h2 Q' E' q⟩⟩
 | alloc o k ih=>intro Q p s h;exact ih _ h
 | loadIfAlive a k ih=>intro Q p s h;exact ih _ h
 | point l k ih=>intro Q p s h;exact ih () h
 | fresh k ih=>intro Q p s h;exact ih _ h
 | ask k ih=>intro Q p s h;exact ih _ h
 | choose src n k ih=>
  intro Q p s h
  obtain ⟨ho,h⟩:=h
  obtain ⟨a,p',s',h1,h2⟩:=ih _ h
  exact ⟨a,p',s',h1,fun Q' E' q=>⟨ho,h2 Q' E' q⟩⟩
 | os q l k ih=>intro Q p s h;exact ih _ h
 | call c hd g l k ih=>
  intro Q p s h
  obtain ⟨r,c0,hr,h⟩:=h
  obtain ⟨a,p',s',h1,h2⟩:=ih r h
  exact ⟨a,p',s',h1,fun Q' E' q=>⟨r,c0,hr,h2 Q' E' q⟩⟩
 | handled own k ih=>intro Q p s h;exact ih _ h
 | genState g k ih=>
  intro Q p s h
  obtain ⟨st,ho,h⟩:=h
  obtain ⟨a,p',s',h1,h2⟩:=ih _ h
  exact ⟨a,p',s',h1,fun Q' E' q=>⟨st,ho,h2 Q' E' q⟩⟩
 | newGen c k ih=>intro Q p s h;exact ih _ h
 | resume g r l k ih=>
  intro Q p s h
  obtain ⟨res,c0,hr,h⟩:=h
  obtain ⟨a,p',s',h1,h2⟩:=ih res h
  exact ⟨a,p',s',h1,fun Q' E' q=>⟨res,c0,hr,h2 Q' E' q⟩⟩
 | stack k ih=>intro Q p s h;exact ih _ h
 | thread k ih=>intro Q p s h;exact ih _ h
noncomputable def Γin (Γ:Ctx):Around:=⟨Γ.handled,frameCount Γ.below+Γ.code.weight,none,none,Γ.units⟩
private theorem Rf (Γ:Ctx):Γ.In (Γin Γ):=⟨rfl,Nat.le_refl _,fun U h=>by (cases h),fun U h=>by (cases h),Nat.le_refl _⟩
theorem wp_of_any {α:Type}{M:Model}{Γ:Ctx}{m:Sem α}{Q:α->Shared->Prop}{p:Pos}{s:Shared}(h:∀ A,wpAny M A m Q (fun U U=>False) s):wp M Γ m (fun a U s'=>Q a s') (fun U U U=>False) p s:=
 h (Γin Γ) Γ p (Rf Γ)
noncomputable def setData (es:Array (Int × Value))(ep:Nat)(t:SetTable)(o:Obj):Obj:={ o with data:=.set es ep t }
noncomputable def Ds (a:Addr):List (Addr × List Str)->Option (List Str)
 | []=>none
 | x::r=>match Nat.beq x.1 a with
  | true=>some x.2
  | false=>Ds a r
noncomputable def Ia (a:Addr)(l:List Str):List (Addr × List Str)->List (Addr × List Str)
 | []=>[(a,l)]
 | x::r=>match Nat.beq x.1 a with
  | true=>(a,l)::r
  | false=>x::Ia a l r
private theorem B3 (b:Addr)(x:Addr × List Str)(r):Ds b (x::r)=match Nat.beq x.1 b with
  | true=>some x.2
  | false=>Ds b r:=rfl
private theorem Cv {a b:Nat}(h:Nat.beq a b=false):a≠b:=by rintro rfl;rw [Nat.beq_refl] at h;cases h
private theorem Ib (a:Addr)(l:List Str)(b:Addr):∀ gh,Ds b (Ia a l gh)=if b=a then some l else Ds b gh
 | []=>by
  show Ds b [(a,l)]=_
  rw [B3]
  dsimp only
  cases q:Nat.beq a b with
  | true=>have:=Nat.eq_of_beq_eq_true q;subst this;simp
  | false=>have:=Cv q;simp [Ne.symm this,Ds]
 | x::r=>by
  unfold Ia
  cases q:Nat.beq x.1 a with
  | true=>
   have e:=Nat.eq_of_beq_eq_true q
   rw [B3,B3,e]
   dsimp only
   cases q2:Nat.beq a b with
   | true=>have:=Nat.eq_of_beq_eq_true q2;subst this;simp
   | false=>have:=Cv q2;simp [Ne.symm this]
  | false=>
   dsimp only
   rw [B3,B3,Ib a l b r]
   cases q2:Nat.beq x.1 b with
   | true=>
    have e2:=Nat.eq_of_beq_eq_true q2
    have:b≠a:=by rw [<- e2];exact Cv q
    simp [this]
   | false=>rfl
private theorem GD {a:Addr}:∀ {gh},MY a gh=false->Ds a gh=none
 | [],_=>rfl
 | x::r,h=>by
  unfold MY at h
  unfold Ds
  cases q:Nat.beq x.1 a with
  | true=>rw [q] at h;cases h
  | false=>rw [q] at h;exact GD h
noncomputable def Rg:Value->Option String
 | .type c=>some c
 | _=>none
private theorem LH {v:Value}{c:String}(h:Rg v=some c):v = .type c:=by cases v <;> first | (injection h;done) | (injection h with h;rw [h])
noncomputable def Na:Data->Option (Array (Int × Value) × Nat × SetTable)
 | .set es ep t=>some (es,ep,t)
 | _=>none
private theorem Jp {d:Data}{x:Array (Int × Value) × Nat × SetTable}(h:Na d=some x):d = .set x.1 x.2.1 x.2.2:=by cases d <;> first | (injection h;done) | (injection h with h;rw [<- h])
noncomputable def QR (o:Obj):Bool:=cond o.dict.isNone (cond o.slots.toList.isEmpty (match Rg o.cls with
 | some c=>match Na o.data with
  | some x=>cond x.1.toList.isEmpty (Nat.beq (code c) 2165651704799132939111&&x.2.2.fits 0) false
  | none=>false
 | none=>false) false) false
noncomputable def EL (a:Addr)(T:BT)(gh:List (Addr × List Str)):Option (List Str):=match Ds a gh with
 | some l=>some l
 | none=>match T.get a with
  | some o=>match QR o with
   | true=>some []
   | false=>none
  | none=>none
noncomputable def Inv (w:World)(S:SX):Prop:=∀ a l,Ds a S.gh=some l->a<S.sh.n/\∃ es ep t,S.sh.tree.get a=some (Al es ep t)/\SetIs w l es t
private theorem Hi {a b:Bool}(h:cond a b false=true):a=true/\b=true:=by
 cases a with
 | true=>exact ⟨rfl,h⟩
 | false=>injection h
private theorem Nb {o:Obj}(h:QR o=true):∃ ep t,o=Al #[] ep t/\t.fits 0=true:=by
 obtain ⟨cls,dict,data,slots⟩:=o
 obtain ⟨h1,h⟩:=Hi h
 obtain ⟨h2,h⟩:=Hi h
 obtain rfl:=Option.isNone_iff_eq_none.mp h1
 obtain rfl:slots = #[]:=Array.toList_eq_nil_iff.mp (List.isEmpty_iff.mp h2)
 dsimp only at h
 cases h3:Rg cls with
 | none=>rw [h3] at h;injection h
 | some c=>
  cases h4:Na data with
  | none=>rw [h3,h4] at h;injection h
  | some x=>
   rw [h3,h4] at h
   obtain ⟨h5,h⟩:=Hi h
   have h:=(Bool.and_eq_true _ _).mp h
   have h6:x.1 = #[]:=Array.toList_eq_nil_iff.mp (List.isEmpty_iff.mp h5)
   rw [LH h3,Jp h4,h6,E7 "frozenset" (by decide +kernel) h.1]
   exact ⟨_,_,rfl,h.2⟩
set_option tactic.hygienic true in
private theorem Cw {w:World}{a:Addr}{S:SX}(hi:Inv w S)(hn:a<S.sh.n){l:List Str}(h:EL a S.sh.tree S.gh=some l):∃ es ep t,S.sh.tree.get a=some (Al es ep t)/\SetIs w l es t:=by
 unfold EL at h
 split at h
 ·rename_i l' e
  cases h
  exact (hi a _ e).2
 ·split at h
  ·rename_i o e
   split at h
   ·rename_i q
    cases h
    obtain ⟨ep,t,rfl,f⟩:=Nb q
    exact ⟨_,_,_,e,⟨fun e he=>by simp at he,List.Perm.refl _,List.nodup_nil,f,by decide⟩⟩
   ·cases h
  ·cases h
private theorem Cy {S:SX}{a:Addr}{es ep t}(hn:a<S.sh.n)(e:S.sh.tree.get a=some (Al es ep t)):S.sh.abs.heap.get? a=some (Al es ep t):=by
 show (absHeap S.sh.tree S.sh.n S.sh.life).get? a=_
 rw [abs_get hn e];rfl
set_option tactic.hygienic true in
private theorem DQ {o o':Obj}:∀ {T:BT} {n:Nat},((T.ins n o).get n).isSome=true->((T.ins n o').get n).isSome=true
 | .nil,n,h=>by
  have e:∀ o,BT.nil.ins n o=BT.node o .nil .nil:=fun U=>rfl
  rw [e,BT.get_node] at h ⊢
  split at h <;> rename_i q
  ·rw [if_pos q];rfl
  ·split at h <;> cases h
 | .node v l r,n,h=>by
  rw [BT.ins_node] at h ⊢
  by_cases q:n=0
  ·rw [if_pos q] at h ⊢;rw [BT.get_node,if_pos q];rfl
  ·rw [if_neg q] at h ⊢
   by_cases q2:n % 2=1
   ·rw [if_pos q2] at h ⊢;rw [BT.get_node,if_neg q,if_pos q2] at h ⊢;exact DQ h
   ·rw [if_neg q2] at h ⊢;rw [BT.get_node,if_neg q,if_neg q2] at h ⊢;exact DQ h
noncomputable def QS (S:SX)(a:Addr)(l:List Str)(es:Array (Int × Value))(ep:Nat)(t:SetTable):SX:=match S with
 | ⟨⟨T,N,life,gens,drawn,toks,os⟩,gh⟩=>⟨⟨T.set a (setData es ep t),N,life,gens,drawn,toks+1,os⟩,Ia a l gh⟩
structure Pk where
 es:Array (Int × Value)
 ep:Nat
 t:SetTable
 p:Pos
noncomputable instance:Nonempty Pk:=⟨⟨#[],0,default,default⟩⟩
noncomputable def Nc (prog:Program)(w:World)(Γ:Ctx)(p:Pos)(a:Addr)(x:Str)(u:Tok)(l:List Str)(S:SX)(k:Pk):Prop:=
 (∀ (Q:Bool->Pos->Shared->Prop) E,(∀ b,Q b k.p (QS S a (x::l) k.es k.ep k.t).sh.abs)->wp (model prog w) Γ (setAdd a (.str x u)) Q E p S.sh.abs)/\SetIs w (x::l) k.es k.t
noncomputable def pkA (prog:Program)(w:World)(Γ:Ctx)(p:Pos)(a:Addr)(x:Str)(u:Tok)(l:List Str)(S:SX):Pk:=Classical.epsilon (Nc prog w Γ p a x u l S)
private theorem Sd {prog:Program}{w:World}{Γ:Ctx}{p:Pos}{a:Addr}{x:Str}{u:Tok}{l:List Str}{S:SX}(hi:Inv w S)(hn:a<S.sh.n)(hl:EL a S.sh.tree S.gh=some l)(hx:Gi x l=false)(hb:l.length+1<1000) :
  Nc prog w Γ p a x u l S (pkA prog w Γ p a x u l S):=by
 refine Classical.epsilon_spec (p:=Nc prog w Γ p a x u l S) ?_
 obtain ⟨es,ep,t,e,Z⟩:=Cw hi hn hl
 have e':=Cy hn e
 have W:=wp_of_any (M:=model prog w) (Γ:=Γ) (p:=p) (m:=setAdd a (.str x u)) (s:=S.sh.abs)
  (Q:=fun b s'=>∃ es' ep' t',SetIs w (x::l) es' t'/\s' = { S.sh.abs with heap:=hset S.sh.abs.heap a (Al es' ep' t'),toks:=S.sh.abs.toks+1 })
  (fun A=>M6 Z (Dz hx) hb e' fun es' ep' t' Z'=>⟨_,_,_,Z',rfl⟩)
 obtain ⟨b,p',s',⟨es',ep',t',Z',rfl⟩,h2⟩:=wp_pick _ W
 refine ⟨⟨es',ep',t',p'⟩,fun Q E hQ=>h2 Q E ?_,Z'⟩
 have:=hQ b
 obtain ⟨⟨T,N,life,gens,drawn,toks,os⟩,gh⟩:=S
 have hh:(absHeap (T.set a (setData es' ep' t')) N life)=hset (absHeap T N life) a (Al es' ep' t'):=by
  rw [absHeap_set e]
  exact Dj (f:=setData es' ep' t') (g:=fun U=>Al es' ep' t') e' rfl
 show Q b p' ⟨hset (absHeap T N life) a (Al es' ep' t'),gens,drawn,toks+1,os⟩
 rw [<- hh]
 exact this
noncomputable def Hj (S:SX)(l:List Str)(es:Array (Int × Value))(ep:Nat)(t:SetTable):SX:=match S with
 | ⟨⟨T,N,life,gens,drawn,toks,os⟩,gh⟩=>⟨⟨T.ins N (Al es ep t),N+1,life,gens,drawn,toks,os⟩,(N,l)::gh⟩
noncomputable def Nd (prog:Program)(w:World)(Γ:Ctx)(p:Pos)(l:List Str)(S:SX)(k:Pk):Prop:=
 Runs (model prog w) Γ p ((model prog w).den Γ.code) [] S.sh.abs (.ret (.ok (.ret (.ref S.sh.n)))) (Hj S l k.es k.ep k.t).sh.abs/\SetIs w l k.es k.t
noncomputable def pkN (prog:Program)(w:World)(Γ:Ctx)(p:Pos)(l:List Str)(S:SX):Pk:=Classical.epsilon (Nd prog w Γ p l S)
private theorem QT {prog:Program}{w:World}{Γ:Ctx}{p:Pos}{l:List Str}{S:SX}{id:String}{args:Args}{b:Builtin}(hc:Γ.code = .builtin id args)(hb:entryFor table id=some b)(hins:((S.sh.tree.ins S.sh.n default).get S.sh.n).isSome=true)
  (h:∀ A:Around,wpAny (model prog w) A (b args) (fun f s'=>∃ es ep t,SetIs w l es t/\f = .done (.ret (.ref S.sh.n))/\s' = { S.sh.abs with heap:=S.sh.abs.heap.push (Al es ep t) }) (fun U U=>False) S.sh.abs) :
  Nd prog w Γ p l S (pkN prog w Γ p l S):=by
 refine Classical.epsilon_spec (p:=Nd prog w Γ p l S) ?_
 have hd:(model prog w).den Γ.code=b args:=by
  rw [hc]
  show (match entryFor table id with | some b=>b args | none=>unsupported ((withoutEnding? id "#data").getD id))=_
  rw [hb]
 obtain ⟨f,p',s',⟨es,ep,t,Z,rfl,rfl⟩,h2⟩:=wp_pick _ (wp_of_any (M:=model prog w) (Γ:=Γ) (p:=p) h)
 refine ⟨⟨es,ep,t,default⟩,?_,Z⟩
 rw [hd]
 refine CK (h2 _ _ ?_)
 obtain ⟨⟨T,N,life,gens,drawn,toks,os⟩,gh⟩:=S
 refine ⟨rfl,?_⟩
 have hh:absHeap (T.ins N (Al es ep t)) (N+1) life=(absHeap T N life).push (Al es ep t):=absHeap_ins (DQ (o:=default) hins)
 show (⟨(absHeap T N life).push (Al es ep t),gens,drawn,toks,os⟩:Shared)=⟨absHeap (T.ins N (Al es ep t)) (N+1) life,gens,drawn,toks,os⟩
 rw [hh]
noncomputable def Rh (a b:Addr)(x:Str)(l:List Str)(S:SX):Bool:=
 Nat.blt a S.sh.n&&Nat.blt b S.sh.n&&!Nat.beq a b&&!Gi x l&&Nat.blt (l.length+1) 1000&&okN l.length&&Nat.blt ((l.length+1)*5) (BA l.length*3)&&((S.sh.tree.ins S.sh.n default).get S.sh.n).isSome
noncomputable def Pw (a b:Addr)(l l':List Str)(S:SX):Bool:=
 Nat.blt a S.sh.n&&Nat.blt b S.sh.n&&okN l.length&&Nat.blt l'.length (l.length / 4)&&!Nat.blt l.length (l'.length / 8)&&Nat.ble l'.length (BA l.length / 4)&&((S.sh.tree.ins S.sh.n default).get S.sh.n).isSome
noncomputable def Se:List Str->Option Str
 | [x]=>some x
 | _=>none
private theorem Px {l:List Str}{x:Str}(h:Se l=some x):l=[x]:=by
 cases l with
 | nil=>cases h
 | cons y r=>
  cases r with
  | nil=>cases h;rfl
  | cons=>cases h
private theorem Ej {a b:Bool}{C:Prop}(h:(a&&b)=true)(k:a=true->b=true->C):C:=k (Bool.and_eq_true_iff.mp h).1 (Bool.and_eq_true_iff.mp h).2
private theorem notT {b:Bool}(h:(!b)=true):b=false:=by
 cases b with
 | false=>rfl
 | true=>cases h
noncomputable def QU (prog:Program)(w:World):Orc where
 add Γ p a x u S:=cond (Nat.blt a S.sh.n) ((EL a S.sh.tree S.gh).bind fun l=>cond (Gi x l) none (cond (Nat.blt (l.length+1) 1000)
  (some ((pkA prog w Γ p a x u l S).p,QS S a (x::l) (pkA prog w Γ p a x u l S).es (pkA prog w Γ p a x u l S).ep (pkA prog w Γ p a x u l S).t)) none)) none
 or Γ p a b S:=(EL a S.sh.tree S.gh).bind fun l=>(EL b S.sh.tree S.gh).bind fun m=>(Se m).bind fun x=>cond (Rh a b x l S)
  (some (.ref S.sh.n,Hj S (x::l) (pkN prog w Γ p (x::l) S).es (pkN prog w Γ p (x::l) S).ep (pkN prog w Γ p (x::l) S).t)) none
 sub Γ p a b S:=(EL a S.sh.tree S.gh).bind fun l=>(EL b S.sh.tree S.gh).bind fun l'=>cond (Pw a b l l' S)
  (some (.ref S.sh.n,Hj S (Fn l l') (pkN prog w Γ p (Fn l l') S).es (pkN prog w Γ p (Fn l l') S).ep (pkN prog w Γ p (Fn l l') S).t)) none
 inv:=Inv w
private theorem By {a b:Nat}(h:Nat.blt a b=true):a<b:=Nat.le_of_ble_eq_true h
private theorem Nf:entryFor table "frozenset.__or__" = some Builtin.«frozenset.__or__»:=entryFor_of_tree (by kernel_rfl)
private theorem LI:entryFor table "frozenset.__sub__" = some Builtin.«frozenset.__sub__»:=entryFor_of_tree (by kernel_rfl)
private theorem Jq:entryFor table "set.update.loop" = some Builtin.«set.update.loop»:=entryFor_of_tree (by kernel_rfl)
private theorem Ic {prog:Program}{w:World}{id:String}{b:Builtin}(hb:entryFor table id=some b)(args:Args):(model prog w).den (.builtin id args)=b args:=by
 have key:∀ (o:Option Builtin) (t:Sem PySem.Fin),o=some b->(match o with | some b=>b args | none=>t)=b args:=by
  intro o t h;subst h;rfl
 exact key (entryFor table id) _ hb
private theorem Ng (prog:Program)(w:World)(args:Args):(model prog w).den (.builtin "set.update.loop" args)=Builtin.«set.update.loop» args:=Ic Jq args
private theorem Id {w:World}{S:SX}(hi:Inv w S){l es ep t}(Z:SetIs w l es t)(hins:((S.sh.tree.ins S.sh.n default).get S.sh.n).isSome=true):Inv w (Hj S l es ep t):=by
 obtain ⟨⟨T,N,life,gens,drawn,toks,os⟩,gh⟩:=S
 intro b l' h
 have hg:=BT.get_ins (Al es ep t) T N (DQ hins)
 have h':Ds b ((N,l)::gh)=some l':=h
 rw [B3] at h'
 show b<N+1/\∃ es' ep' t',(T.ins N (Al es ep t)).get b=some (Al es' ep' t')/\SetIs w l' es' t'
 rw [hg b]
 dsimp only at h'
 cases q:Nat.beq N b with
 | true=>
  have e:=Nat.eq_of_beq_eq_true q
  subst e
  rw [q] at h'
  cases h'
  exact ⟨Nat.lt_succ_self _,_,_,_,if_pos rfl,Z⟩
 | false=>
  rw [q] at h'
  obtain ⟨h1,h2⟩:=hi b l' h'
  rw [if_neg (Ne.symm (Cv q))]
  exact ⟨Nat.lt_succ_of_lt h1,h2⟩
private theorem Nh (prog:Program)(w:World):(QU prog w).Ok (model prog w) where
 up:=by
  intro T N life gens drawn toks os gh a f hi hg b l h
  obtain ⟨h1,es,ep,t,e,Z⟩:=hi b l h
  have ne:b≠a:=by
   rintro rfl
   have:=GD hg
   have h':Ds b gh=some l:=h
   rw [this] at h';cases h'
  refine ⟨h1,es,ep,t,?_,Z⟩
  show (T.set a f).get b=_
  rw [BT.get_set,if_neg ne]
  exact e
 new:=by
  intro T N life gens drawn toks os gh o hi hs b l h
  obtain ⟨h1,es,ep,t,e,Z⟩:=hi b l h
  refine ⟨Nat.lt_succ_of_lt h1,es,ep,t,?_,Z⟩
  show (T.ins N o).get b=_
  rw [BT.get_ins o T N hs b,if_neg (Nat.ne_of_lt h1)]
  exact e
 rest:=fun hi=>hi
 add:=by
  intro a x u S q S' Γ p hi h
  refine BG h fun q1 h1=>AX h1 fun l q2 h2=>M0 h2 fun q3 h3=>BG h3 fun q4 h4=>DM h4 fun a1 a2=>?_
  subst a1 a2
  obtain ⟨k1,k2⟩:=Sd (prog:=prog) (u:=u) (Γ:=Γ) (p:=p) hi (By q1) q2 q3 (By q4)
  refine ⟨k1,?_⟩
  obtain ⟨⟨T,N,life,gens,drawn,toks,os⟩,gh⟩:=S
  intro b l' hb
  obtain ⟨es,ep,t,e,_⟩:=Cw hi (By q1) q2
  have hb':Ds b (Ia a (x::l) gh)=some l':=hb
  rw [Ib] at hb'
  by_cases z:b=a
  ·subst z
   rw [if_pos rfl] at hb'
   cases hb'
   refine ⟨By q1,_,(pkA prog w Γ p b x u l ⟨⟨T,N,life,gens,drawn,toks,os⟩,gh⟩).ep,_,?_,k2⟩
   show (T.set b _).get b=_
   rw [BT.get_set,if_pos rfl,show T.get b=_ from e]
   rfl
  ·rw [if_neg z] at hb'
   obtain ⟨h1,es',ep',t',e',Z⟩:=hi b l' hb'
   refine ⟨h1,es',ep',t',?_,Z⟩
   show (T.set a _).get b=_
   rw [BT.get_set,if_neg z]
   exact e'
 or:=by
  intro a b S v S' Γ p hi hc h
  refine AX h fun l q1 h1=>AX h1 fun m q2 h2=>AX h2 fun x qx h3=>BG h3 fun q3 h4=>DM h4 fun a1 a2=>?_
  subst a1 a2
  rw [Px qx] at q2
  refine Ej q3 fun q c8=>Ej q fun q c7=>Ej q fun q c6=>Ej q fun q c5=>Ej q fun q c4=>Ej q fun q c3=>Ej q fun c1 c2=>?_
  obtain ⟨es,ep,t,e,Z⟩:=Cw hi (By c1) q1
  obtain ⟨es',ep',t',e',Z'⟩:=Cw hi (By c2) q2
  have sz:S.sh.abs.heap.objs.size=S.sh.n:=absHeap_size ..
  have K:=QT (prog:=prog) (w:=w) (l:=x::l) (S:=S) (p:=p) hc Nf c8 fun A=>Rd Z Z' (Cy (By c1) e) (Cy (By c2) e') (Cv (notT c3)) (Dz (notT c4)) (By c5) c6 (By c7)
   fun es2 ep2 t2 Z2=>⟨es2,ep2,t2,Z2,by rw [sz],rfl⟩
  exact ⟨K.1,Id hi K.2 c8⟩
 sub:=by
  intro a b S v S' Γ p hi hc h
  refine AX h fun l q1 h1=>AX h1 fun l' q2 h2=>BG h2 fun q3 h3=>DM h3 fun a1 a2=>?_
  subst a1 a2
  refine Ej q3 fun q c8=>Ej q fun q c6=>Ej q fun q c5=>Ej q fun q c4=>Ej q fun q c3=>Ej q fun c1 c2=>?_
  obtain ⟨es,ep,t,e,Z⟩:=Cw hi (By c1) q1
  obtain ⟨es',ep',t',e',Z'⟩:=Cw hi (By c2) q2
  have sz:S.sh.abs.heap.objs.size=S.sh.n:=absHeap_size ..
  have K:=QT (prog:=prog) (w:=w) (l:=Fn l l') (S:=S) (p:=p) hc LI c8 fun A=>Pv Z Z' (Cy (By c1) e) (Cy (By c2) e') c3 (By c4)
   (fun z=>by rw [show Nat.blt l.length (l'.length / 8)=true from Nat.ble_eq_true_of_le z] at c5;cases c5) (Nat.le_of_ble_eq_true c6)
   fun es2 ep2 t2 Z2=>⟨es2,ep2,t2,Z2,by rw [sz],rfl⟩
  exact ⟨K.1,Id hi K.2 c8⟩
 loop:=fun a it=>Ng prog w _
end Mh
end
section
open PySem PySem.W PySem.Calls PyProof.Rows
open PySem.Sem (wp)
set_option maxRecDepth 10000
namespace Mh
noncomputable def mo (p:Program)(w:World):Model:=⟨denote treeTable,p,w⟩
private theorem Ni (p:Program)(w:World):mo p w=model p w:=by unfold mo;rw [<- table_eq_tree];rfl
noncomputable def X5:Ctx:=⟨.builtin "claim.caller" {},none,none,[],none⟩
noncomputable def bt (l:List Obj):BT:=(l.foldl (fun (x:BT × Nat) o=>(x.1.ins x.2 o,x.2+1)) (BT.nil,0)).1
noncomputable def y4 (w:World)(os:OsState):SX:=⟨⟨bt (boot_heap w.params).objs.toList,11,(boot_heap w.params).life,#[],boot_drawn,boot_toks,os⟩,[]⟩
noncomputable def DA (p:Program)(w:World)(os:OsState):Option (Lf × Pos × SX):=
 evW (mo p w) (evC (mo p w) (QU p w) 100000 1000) 100000 X5 default (topStub p).cur (y4 w os)
private theorem Jr (w:World)(os:OsState):(y4 w os).sh.abs=⟨boot_heap w.params,#[],boot_drawn,boot_toks,os⟩:=by kernel_rfl
noncomputable def Py {α:Type}(T:BT):Nat->List Obj->(List Obj->α)->Option α
 | 0,acc,k=>some (k acc)
 | n+1,acc,k=>match T.get n with
  | some ⟨c,d,dt,sl⟩=>Py T n (⟨c,d,dt,sl⟩::acc) k
  | none=>none
set_option tactic.hygienic true in
private theorem KU {α:Type}(T:BT)(k:List Obj->α):∀ (n:Nat) (acc:List Obj) (a:α),Py T n acc k=some a->a=k ((List.range n).map (fun i=>(T.get i).getD default)++acc)
 | 0,acc,a,h=>by cases h;rfl
 | n+1,acc,a,h=>by
  unfold Py at h
  split at h
  ·rename_i c d dt sl e
   have:=KU T k n _ _ h
   rw [this,List.range_succ,List.map_append,List.append_assoc]
   simp [e]
  ·cases h
noncomputable def KV:Lf->Bool
 | .fin (.done (.ret .none))=>true
 | _=>false
private theorem Js {l:Lf}(h:KV l=true):l = .fin (.done (.ret .none)):=by
 cases l with
 | fin f=>
  cases f with
  | again=>cases h
  | done f=>
   cases f with
   | ret v=>
    cases v with
    | none=>rfl
    | _=>cases h
   | _=>cases h
 | _=>cases h
noncomputable def SH {α:Type}(k:Shared->α)(g:List (Addr × List Str)->Bool):SX->Option α
 | ⟨⟨T,N,life,gens,drawn,toks,os⟩,gh⟩=>cond (g gh) (Py T N [] fun l=>k ⟨⟨⟨l⟩,life⟩,gens,drawn,toks,os⟩) none
noncomputable def CM {α:Type}(r:Option (Lf × Pos × SX))(k:Shared->α)(g:List (Addr × List Str)->Bool):Option α:=r.bind fun x=>cond (KV x.1) (SH k g x.2.2) none
private theorem Jt {α:Type}{r:Option (Lf × Pos × SX)}{k:Shared->α}{g:List (Addr × List Str)->Bool}{a:α}(h:CM r k g=some a) :
  ∃ q S,r=some (.fin (.done (.ret .none)),q,S)/\a=k S.sh.abs/\g S.gh=true:=by
 refine AX h fun x e h=>BG h fun e1 h=>?_
 obtain ⟨l,q,S⟩:=x
 obtain ⟨⟨T,N,life,gens,drawn,toks,os⟩,gh⟩:=S
 rw [show l=_ from Js e1] at e
 refine BG h fun e2 h=>⟨q,_,e,?_,e2⟩
 have:=KU T _ N [] a h
 rw [List.append_nil] at this
 exact this
noncomputable def R7 (g:GenState):Bool:=match g with
 | .finished=>true
 | _=>false
private theorem DB {g:GenState}(h:g.forget = .finished):g = .finished:=by cases g <;> first | rfl | cases h
private theorem Ie {σ s:Shared}(h:σ.forget=s.forget)(hg:∀ g∈s.gens,match g with | .finished=>True | _=>False):σ=s:=by
 obtain ⟨h1,g1,d1,t1,o1⟩:=σ
 obtain ⟨h2,g2,d2,t2,o2⟩:=s
 simp only [Shared.forget,Shared.mk.injEq] at h
 obtain ⟨rfl,hm,rfl,rfl,rfl⟩:=h
 have:g1=g2:=by
  have sz:g1.size=g2.size:=by have:=congrArg Array.size hm;simpa using this
  apply Array.ext sz
  intro i hi1 hi2
  have e:(g1.map GenState.forget)[i]'(by simpa using hi1)=(g2.map GenState.forget)[i]'(by simpa using hi2):=by simp only [hm]
  rw [Array.getElem_map,Array.getElem_map] at e
  have hf:=hg g2[i] (Array.getElem_mem hi2)
  have e2:g2[i] = .finished:=by revert hf;cases g2[i] <;> simp
  rw [e2] at e ⊢
  exact DB e
 rw [this]
private theorem Nj {p:Program}{w:World}{os:OsState}{q:Pos}{S:SX}(h:DA p w os=some (.fin (.done (.ret .none)),q,S))(hz:(y4 w os).sh.abs.asleep)
  (hg:∀ g∈S.sh.gens,match g with | .finished=>True | _=>False) :
  (∃ n t,schedN (denote table) p w n (.single (y4 w os).sh.abs (topStub p)) = .running (.single S.sh.abs t)/\through t=true)/\Inv w S:=by
 have hi:Inv w (y4 w os):=fun a l e=>by cases e
 obtain ⟨L,hI⟩:=M3 (M:=mo p w) (by rw [Ni];exact Nh p w) (fun Γ p' S e S' hi h=>Ra (by rw [Ni];exact Nh p w) _ _ _ _ _ _ _ hi h) _ _ _ _ _ _ _ _ hi h
 refine ⟨?_,hI⟩
 rw [Ni] at L
 have L':∀ (R:Result->Shared->Prop),R (.ok (.ret .none)) S.sh.abs->wp (model p w) X5 (topStub p).cur (Sem.finPost (model p w) X5 R) (fun e U s'=>R (.error e) s') default (y4 w os).sh.abs:=
  fun R hR=>L _ _ hR
 obtain ⟨n,r,s',c',p',hn,rfl,rfl⟩:=wp_runN (M:=model p w) (base:=[]) (c:=.builtin "claim.caller" {}) (L' (fun r s'=>r = .ok (.ret .none)/\s'=S.sh.abs) ⟨rfl,rfl⟩)
 have hlc:leftWithCleanup S.sh.abs.gens=false:=leftWithCleanup_false_of_bare fun x hx=>by
  have:=hg x hx
  revert this
  cases x <;> simp [GenState.bare]
 obtain ⟨N,r2,s2,hN,_⟩:=(wp_iff_halts (M:=model p w) (c:=.builtin "claim.caller" {}) (topStub p).cur (fun r s'=>r = .ok (.ret .none)/\s'=S.sh.abs) default (y4 w os).sh.abs).mp
  (L' (fun r s'=>(r = .ok (.ret .none)/\s'=S.sh.abs)/\leftWithCleanup s'.gens=false) ⟨⟨rfl,rfl⟩,hlc⟩)
 have hend:(outcomeOf r2).ends=true:=outcomeOf_ends r2
 obtain ⟨s3,hr3,_,hcalm⟩:=runNI_real _ _ _ hN hend
 have hne:∀ k y0,runN (model p w).den (model p w).prog (model p w).w k (y4 w os).sh.abs ⟨(topStub p).cur,.builtin "claim.caller" {},default,[]⟩≠.halted (.unsupported "lifetime:generator-with-cleanup-left-suspended") y0:=by
  intro k y0 hk
  have a:=runN_mono _ _ _ _ k _ _ _ _ hr3
  have b:=runN_mono _ _ _ k N _ _ _ _ hk
  rw [Nat.add_comm,b] at a
  injection a with a1 _
  rw [<- a1] at hend;exact absurd hend (by simp [Outcome.ends])
 obtain ⟨σ,tau,hr,hσ,htau⟩:=runNI_running_real hn
 have hsch:=(schedN_eq_runN _ _ _ _ _ hz ⟨hcalm,hne⟩ n).trans (congrArg Run.lift hr)
 obtain rfl:σ=S.sh.abs:=Ie hσ hg
 obtain ⟨cur,code,pos,stack⟩:=tau
 simp only [Thread.forget,Thread.mk.injEq,forgetAll] at htau
 obtain ⟨rfl,rfl,rfl,e5⟩:=htau
 have hst:stack=[]:=by cases stack with | nil=>rfl | cons x xs=>simp at e5
 subst hst
 exact ⟨n,_,hsch,rfl⟩
noncomputable def QV (h:Heap):List (Option Obj):=(List.range 11).map fun b=>match Nat.beq b 3||Nat.beq b 2 with
 | true=>none
 | false=>h.objs[b]?
noncomputable abbrev look {α:Type}(p q:Program)(loose:List Str)(w:World)(Yf:Shared->α)(s:Shared):=
 ((staticsOk (importedModules p.main.body) (boot_heap w.params) s.heap&&namesBound p s.heap&&gensDone s&&laidKept (boot_heap w.params) s.heap),
  openSeen q loose (importedModules p.main.body) (fun U=>true) false s,QV s.heap,s.heap.life,s.os,Yf s)
noncomputable abbrev Ju {α:Type}(q:Program)(loose:List Str)(w:World)(os:OsState)(Ya:α):=(true,openGood q loose,QV (boot_heap w.params),(boot_heap w.params).life,os,Ya)
private theorem Jv {P:World->Prop}(r1 r2:String)(h:∀ (b1 b2:Bool) (w:World),P ((w.withFollow r1 b1).withFollow r2 b2)):∀ w,P w:=fun w=>by
 have:=h (w.params.followText r1) (w.params.followText r2) w
 rw [World.withFollow_self,World.withFollow_self] at this
 exact this
private theorem LJ (P:Params):(boot_heap P).objs.size=11:=by kernel_rfl
noncomputable def KW {α:Type}(p q:Program)(loose:List Str)(Yf:Shared->α)(Ya:World->α)(g:List (Addr × List Str)->Bool)(w:World):Prop:=
 (∃ s,AfterRun (opening p) w s)/\∀ s,AfterRun (opening p) w s->∃ W1,fenceModules? p s=some W1/\W1.gens = #[]/\∃ S:SX,Inv w S/\g S.gh=true/\Yf S.sh.abs=Ya w/\TopRan p w W1 S.sh.abs/\S.sh.abs.asleep/\leftWithCleanup S.sh.abs.gens=false /\
  S.sh.abs.heap.isNs mainGlobals=true/\Ground q loose [] (fun U U=>True) w S.sh.abs (S.sh.abs.heap.nsMap mainGlobals) (S.sh.abs.heap.nsMap builtinsNs) S.sh.abs.heap
private theorem Ri {α:Type}{p q:Program}{loose:List Str}{Yf:Shared->α}{Ya:World->α}{g:List (Addr × List Str)->Bool}{w:World}(hopen:opening p=plainProg p.main.scope.names)(hf:∀ s,fenceModules? p s=some s)(hch:chainsOk q=true)
  (run:∀ os:OsState,CM (DA p w os) (look p q loose w Yf) g=some (Ju q loose w os (Ya w))):KW p q loose Yf Ya g w:=by
 have hb:=boot_open hopen (N:=600) (by decide) hf w
 rw [<- table_eq_tree] at hb
 obtain ⟨W1,h2,hv⟩:=Option.map_eq_some_iff.mp hb
 obtain ⟨s,h4,h5⟩:=Option.bind_eq_some_iff.mp h2
 have A:=AfterImport.of_importEnds h4
 refine ⟨⟨s,A⟩,fun s' hs'=>?_⟩
 obtain rfl:s'=s:=AfterImport.unique hs' A
 have z:W1.asleep:=Shared.asleep_of_life (fence_lifeW h5) A.life
 obtain ⟨h,gs,d,k,os⟩:=W1
 obtain ⟨rfl,rfl,rfl,rfl⟩:h=boot_heap w.params/\gs = #[]/\d=boot_drawn/\k=boot_toks:=by simpa using hv
 rw [<- Jr] at z
 obtain ⟨qp,S,hr,hk,hg⟩:=Jt (run os)
 simp only [look,Ju,Prod.mk.injEq] at hk
 obtain ⟨k1,k2,k3,k4,k5,k6⟩:=hk
 simp only [eq_comm (a:=true),Bool.and_eq_true] at k1
 obtain ⟨⟨⟨a1,a2⟩,a3⟩,a4⟩:=k1
 have hfin:=gens_of_done a3
 obtain ⟨⟨n,t,hs,ht⟩,hI⟩:=Nj hr z hfin
 rw [Jr] at hs
 have hlc:leftWithCleanup S.sh.abs.gens=false:=leftWithCleanup_false_of_bare fun x hx=>by
  have:=hfin x hx
  revert this
  cases x <;> simp [GenState.bare]
 obtain ⟨G,_,g1,g2,g3,g4,g5⟩:=ground_of_open (w:=w) (s:=S.sh.abs) (XP:=fun U U=>True) (fun U U=>trivial) hch k2.symm
 rw [Jr] at z
 refine ⟨⟨boot_heap w.params,#[],boot_drawn,boot_toks,os⟩,h5,rfl,S,hI,hg,k6.symm,⟨⟨n,t,hs,ht⟩,k4.symm,Shared.rest_eq k5.symm,fun b o hb hn=>?_,g2,statics_of_ok a1,g3,g4,g5,hfin,names_of_bound a2,laid_of_kept a4⟩,Shared.asleep_of_life k4.symm z,hlc,g1,G⟩
 have lt:b<11:=by have:=Heap.lt_size hb;rw [LJ] at this;exact this
 have e:=List.map_inj_left.mp k3 b (List.mem_range.mpr lt)
 have n3:b≠3:=fun q=>hn (.inl q)
 have n2:b≠2:=fun q=>hn (.inr (.inl q))
 have bb:(Nat.beq b 3||Nat.beq b 2)=false:=by
  rw [BT.beq_eq,BT.beq_eq];simp [n3,n2]
 simp only [bb] at e
 unfold Heap.get? at hb ⊢
 rw [<- e]
 exact hb
end Mh
end
section
open PySem PySem.W PyProof.Rows
set_option maxRecDepth 10000
namespace Mi
noncomputable abbrev Txt:=List Nat
set_option genCtorIdx true in
inductive PV where
 | none
 | bool (b:Bool)
 | int (i:Int)
 | str (s:Txt)
 | tup (l:List PV)
 | lst (i:Nat)
 | ints (l:List Int)
 | rng (a b c:Int)
 | dct (ks vs:List PV)
 | fn (k:Nat)
 | fset (k:Nat)
 | mp
 deriving Inhabited
set_option genCtorIdx true in
inductive PX where
 | std (n:String)
 | toml (m:Txt)
 deriving Inhabited,DecidableEq
structure PS where
 loc:Nat->Option PV
 st:List (List PV)
set_option genCtorIdx true in
inductive R (α:Type) where
 | ok (a:α) (s:PS)
 | ex (e:PX) (s:PS)
 | stuck
noncomputable abbrev M (α:Type):=PS->R α
namespace M
noncomputable def ret {α:Type}(a:α):M α:=fun s=>.ok a s
noncomputable def bind {α β:Type}(m:M α)(f:α->M β):M β:=fun s=>match m s with
 | .ok a s'=>f a s'
 | .ex e s'=>.ex e s'
 | .stuck=>.stuck
noncomputable def stuck {α:Type}:M α:=fun U=>.stuck
noncomputable def raise {α:Type}(e:PX):M α:=fun s=>.ex e s
noncomputable def raiseB {α:Type}(hd:Bool)(n:String):M α:=fun s=>if hd then .stuck else .ex (.std n) s
noncomputable def getL (i:Nat):M PV:=fun s=>match s.loc i with
 | some v=>.ok v s
 | none=>.stuck
noncomputable def setL (i:Nat)(v:PV):M Unit:=fun s=>.ok () { s with loc:=fun j=>if j=i then some v else s.loc j }
noncomputable def ofO {α:Type}(o:Option α):M α:=fun s=>match o with
 | some a=>.ok a s
 | none=>.stuck
noncomputable def orStuck {α:Type}(c:Bool)(m:M α):M α:=fun s=>if c then m s else .stuck
end M
noncomputable def txt (s:Txt):Str:=⟨s.toArray⟩
noncomputable def ctl (c:Nat):Bool:=(c<32||c==127)
noncomputable def hexd (c:Nat):Bool:=(48<=c&&c<=57)||(97<=c&&c<=102)||(65<=c&&c<=70)
noncomputable def AM:Nat->Nat->Bool
 | 0,c=>ctl c&&c != 9
 | 1,c=>ctl c&&c != 9&&c != 10
 | 2,c=>c==32||c==9
 | 3,c=>c==32||c==9||c==10
 | 4,c=>hexd c
 | _,c=>(48<=c&&c<=57)||(97<=c&&c<=122)||(65<=c&&c<=90)||c==45||c==95
noncomputable def Nk (k:Nat):Txt->Bool
 | [c]=>AM k c
 | _=>false
noncomputable def Ek (k:Nat)(x:Str):Bool:=Nk k x.cps.toList
noncomputable def Dk:List (Txt × Txt):=[([92,98],[8]),([92,116],[9]),([92,110],[10]),([92,102],[12]),([92,114],[13]),([92,34],[34]),([92,92],[92])]
noncomputable def escT (x:Txt):Option Txt:=Dk.lookup x
structure Hd where
 prog:Program
 w:World
 mg:Str->Option Value
 mb:Str->Option Value
 fnv:Nat->Addr
 setv:Nat->Option Addr
 mpv:Addr
 toml:Addr
 tabPos:Pos
 tabQ:Str
 tabP:Addr
noncomputable def Bo:List Str:=["len", "chr", "ord", "abs", "str", "int", "list", "range", "sum", "min", "max", "IndexError", "ValueError", "KeyError"]
noncomputable def LK:List Value:=[.type "ValueError",.type "Exception",.type "BaseException",.type "object"]
structure ClsAt (C:Addr)(h:Heap):Prop where
 at_:∃ nm q N bs hdct sn sub ab col dd k0 k1 k2 k3 k5 mN,h.get? C=some (excClassObj nm q C N bs LK hdct sn sub ab col dd k0 k1 k2 k3 k5 "ValueError.__new__")/\h.Ns N mN /\
  ∀ x∈(["__init__", "__getattribute__", "__getattr__", "args", "__str__", "__repr__", "__new__"]:List Str),mN x=none
private theorem ClsAt.keeps {C:Addr}{h h':Heap}(x:ClsAt C h)(k:∀ b o,h.get? b=some o->h'.get? b=some o):ClsAt C h':=by
 obtain ⟨nm,q,N,bs,hdct,sn,sub,ab,col,dd,k0,k1,k2,k3,k5,mN,h1,h2,h3⟩:=x.at_
 exact ⟨nm,q,N,bs,hdct,sn,sub,ab,col,dd,k0,k1,k2,k3,k5,mN,k _ _ h1,h2.keeps k,h3⟩
structure Hd.At (H:Hd)(h:Heap):Prop where
 g:h.Ns mainGlobals H.mg
 b:h.Ns builtinsNs H.mb
 lim:h.NoLimit
 sysm:(h.get? sysModules).isSome=true
 bu:∀ x:Str,x≠"__name__"->H.mb x=bootBuiltins x
 free:∀ x∈Bo,H.mg x=none
 toml:H.mg "TOMLDecodeError" = some (.ref H.toml)
 tomlC:ClsAt H.toml h
 bmain:∃ bm ob,H.mg "__builtins__" = some (.ref bm)/\bm≠builtinsNs/\h.get? bm=some ob/\ob.cls = .type "module"/\ob.dict=some builtinsNs/\ob.data = .plain
 sets:∀ k a,H.setv k=some a->∃ n,FrozAt (strKind H.prog H.w) h a (Ek k) n/\n<4096
 mp:∃ o d f,h.get? H.mpv=some o/\o.cls = .type "mappingproxy"/\o.data = .fields #[.ref d]/\(d==sysModules)=false/\h.MapOf (strKind H.prog H.w) d f /\
  ∀ x:Txt,(escT x=none->f (txt x)=none)/\∀ t,escT x=some t->∃ tk,f (txt x)=some (.str (txt t) tk)
mutual
inductive RepV (H:Hd)(h₀:Heap)(av α:List Addr)(h:Heap):PV->Value->Prop
 | none:RepV H h₀ av α h .none .none
 | bool (b:Bool):RepV H h₀ av α h (.bool b) (.bool b)
 | int (i:Int) (t:Tok):RepV H h₀ av α h (.int i) (.int i t)
 | str (s:Txt) (t:Tok):RepV H h₀ av α h (.str s) (.str (txt s) t)
 | tup {l:List PV} {a:Addr} {vs:List Value} (ha:a∉av) (hi:IsTup h a vs.toArray) (r:RepL H h₀ av α h l vs):RepV H h₀ av α h (.tup l) (.ref a)
 | lst {i:Nat} {a:Addr} (hi:α[i]? = some a):RepV H h₀ av α h (.lst i) (.ref a)
 | ints {l:List Int} {a:Addr} {vs:Array Value} (hi:h₀.IsList a vs) (hv:IntsAre vs.toList l):RepV H h₀ av α h (.ints l) (.ref a)
 | fn (k:Nat):RepV H h₀ av α h (.fn k) (.ref (H.fnv k))
 | fset (k:Nat) {a:Addr} (e:H.setv k=some a):RepV H h₀ av α h (.fset k) (.ref a)
 | mp:RepV H h₀ av α h .mp (.ref H.mpv)
 | dct {ks vs:List PV} {a:Addr} {o:Obj} {es:Array DictEntry} {ep:Nat} (ha:a∉av/\(a==sysModules)=false) (ho:h.get? a=some o) (hx:o.ExactDict) (hd:o.data = .dict es ep) (hk:KeysOf (strKind H.prog H.w) es\/KeysOf (intKind H.prog H.w) es)
   (rk:RepL H h₀ av α h ks (es.toList.map (·.key))) (rv:RepL H h₀ av α h vs (es.toList.map (·.val))):RepV H h₀ av α h (.dct ks vs) (.ref a)
inductive RepL (H:Hd)(h₀:Heap)(av α:List Addr)(h:Heap):List PV->List Value->Prop
 | nil:RepL H h₀ av α h [] []
 | cons {p:PV} {v:Value} {l:List PV} {vs:List Value} (r:RepV H h₀ av α h p v) (rs:RepL H h₀ av α h l vs):RepL H h₀ av α h (p::l) (v::vs)
end
section
variable {H:Hd}{h₀:Heap}{av α:List Addr}{h:Heap}
private theorem RepL.ind {P:List PV->List Value->Prop}(h0:P [] [])(h1:∀ p v l vs,RepV H h₀ av α h p v->RepL H h₀ av α h l vs->P l vs->P (p::l) (v::vs)){l:List PV}{vs:List Value}(r:RepL H h₀ av α h l vs):P l vs:=
 RepL.rec (motive_1:=fun U U U=>True) (motive_2:=fun l vs U=>P l vs) trivial (fun U=>trivial) (fun U U=>trivial) (fun U U=>trivial) (fun U U U U=>trivial) (fun U=>trivial) (fun U U=>trivial) (fun U=>trivial) (fun U U U=>trivial) trivial
  (fun U U U U U U U U U=>trivial) h0 (fun r rs U ih=>h1 _ _ _ _ r rs ih) r
private theorem RepL.length {l:List PV}{vs:List Value}(r:RepL H h₀ av α h l vs):l.length=vs.length:=
 r.ind (P:=fun l vs=>l.length=vs.length) rfl fun U U U U U U ih=>congrArg (·+1) ih
private theorem RepL.get {l:List PV}{vs:List Value}(r:RepL H h₀ av α h l vs):∀ (i:Nat) p,l[i]? = some p->∃ v,vs[i]? = some v/\RepV H h₀ av α h p v:=
 r.ind (P:=fun l vs=>∀ (i:Nat) p,l[i]? = some p->∃ v,vs[i]? = some v/\RepV H h₀ av α h p v) (fun i p e=>nomatch (show none=some p from e)) fun q w U U r' U ih i=>Nat.casesOn (motive:=fun i=>∀ p,(q::_)[i]? = some p->∃ v,(w::_)[i]? = some v/\RepV H h₀ av α h p v) i (fun p e=>⟨w,rfl,Option.some.inj e▸r'⟩) fun j p e=>ih j p e
private theorem RepL.append {l:List PV}{vs:List Value}{l':List PV}{vs':List Value}(r:RepL H h₀ av α h l vs)(r':RepL H h₀ av α h l' vs'):RepL H h₀ av α h (l++l') (vs++vs'):=
 r.ind (P:=fun l vs=>RepL H h₀ av α h (l++l') (vs++vs')) r' fun U U U U q U ih=>.cons q ih
noncomputable def Rj (H:Hd)(h₀:Heap)(av α:List Addr)(h:Heap):PV->Value->Prop
 | .none,v=>v = .none
 | .bool b,v=>v = .bool b
 | .int i,v=>∃ t,v = .int i t
 | .str s,v=>∃ t,v = .str (txt s) t
 | .tup l,v=>∃ a vs,v = .ref a/\a∉av/\IsTup h a vs.toArray/\RepL H h₀ av α h l vs
 | .lst i,v=>∃ a,v = .ref a/\α[i]? = some a
 | .ints l,v=>∃ a vs,v = .ref a/\h₀.IsList a vs/\IntsAre vs.toList l
 | .fn k,v=>v = .ref (H.fnv k)
 | .fset k,v=>∃ a,v = .ref a/\H.setv k=some a
 | .mp,v=>v = .ref H.mpv
 | .dct ks vs,v=>∃ a o es ep,v = .ref a/\(a∉av/\(a==sysModules)=false)/\h.get? a=some o/\o.ExactDict/\o.data = .dict es ep/\(KeysOf (strKind H.prog H.w) es\/KeysOf (intKind H.prog H.w) es)/\RepL H h₀ av α h ks (es.toList.map (·.key))/\RepL H h₀ av α h vs (es.toList.map (·.val))
 | .rng _ _ _,_=>False
private theorem RepV.inv {p:PV}{v:Value}(r:RepV H h₀ av α h p v):Rj H h₀ av α h p v:=by
 cases r
 ·exact rfl
 ·exact rfl
 ·exact ⟨_,rfl⟩
 ·exact ⟨_,rfl⟩
 ·exact ⟨_,_,rfl,‹_›,‹_›,‹_›⟩
 ·exact ⟨_,rfl,‹_›⟩
 ·exact ⟨_,_,rfl,‹_›,‹_›⟩
 ·exact rfl
 ·exact ⟨_,rfl,‹_›⟩
 ·exact rfl
 ·exact ⟨_,_,_,_,rfl,‹_›,‹_›,‹_›,‹_›,‹_›,‹_›,‹_›⟩
noncomputable def KX (H:Hd)(h₀:Heap)(av α:List Addr)(h:Heap):List PV->List Value->Prop
 | [],vs=>vs=[]
 | p::l,vs=>∃ v ws,vs=v::ws/\RepV H h₀ av α h p v/\RepL H h₀ av α h l ws
private theorem RepL.inv {l:List PV}{vs:List Value}(r:RepL H h₀ av α h l vs):KX H h₀ av α h l vs:=
 r.ind (P:=KX H h₀ av α h) rfl fun U U U U q qs U=>⟨_,_,rfl,q,qs⟩
private theorem CN {av' α':List Addr}{h':Heap}(ft:∀ a vs,a∉av->IsTup h a vs->a∉av'/\IsTup h' a vs)(fl:∀ (i:Nat) a,α[i]? = some a->α'[i]? = some a)(fd:∀ a o es ep,a∉av->h.get? a=some o->o.ExactDict->o.data = .dict es ep->a∉av'/\h'.get? a=some o) :
  (∀ {p:PV} {v:Value},RepV H h₀ av α h p v->RepV H h₀ av' α' h' p v)/\∀ {l:List PV} {vs:List Value},RepL H h₀ av α h l vs->RepL H h₀ av' α' h' l vs:=by
 have m1:∀ (l:List PV) (a:Addr) (vs:List Value),a∉av->IsTup h a vs.toArray->RepL H h₀ av' α' h' l vs->RepV H h₀ av' α' h' (.tup l) (.ref a):=fun l a vs ha hi r=>.tup (ft a _ ha hi).1 (ft a _ ha hi).2 r
 have m2:∀ (ks vs:List PV) (a:Addr) (o:Obj) (es:Array DictEntry) (ep:Nat),(a∉av/\(a==sysModules)=false)->h.get? a=some o->o.ExactDict->o.data = .dict es ep->(KeysOf (strKind H.prog H.w) es\/KeysOf (intKind H.prog H.w) es)->RepL H h₀ av' α' h' ks (es.toList.map (·.key))->RepL H h₀ av' α' h' vs (es.toList.map (·.val))->RepV H h₀ av' α' h' (.dct ks vs) (.ref a):=
  fun ks vs a o es ep ha ho hx hd hk rk rv=>.dct ⟨(fd a o es ep ha.1 ho hx hd).1,ha.2⟩ (fd a o es ep ha.1 ho hx hd).2 hx hd hk rk rv
 exact ⟨fun r=>RepV.rec (motive_1:=fun p v U=>RepV H h₀ av' α' h' p v) (motive_2:=fun l vs U=>RepL H h₀ av' α' h' l vs) .none .bool .int .str (fun ha hi U ih=>m1 _ _ _ ha hi ih) (fun hi=>.lst (fl _ _ hi)) (fun hi hv=>.ints hi hv) .fn (fun k U e=>.fset k e) .mp (fun ha ho hx hd hk U U rk rv=>m2 _ _ _ _ _ _ ha ho hx hd hk rk rv) .nil (fun U U a b=>.cons a b) r,
  fun r=>RepL.rec (motive_1:=fun p v U=>RepV H h₀ av' α' h' p v) (motive_2:=fun l vs U=>RepL H h₀ av' α' h' l vs) .none .bool .int .str (fun ha hi U ih=>m1 _ _ _ ha hi ih) (fun hi=>.lst (fl _ _ hi)) (fun hi hv=>.ints hi hv) .fn (fun k U e=>.fset k e) .mp (fun ha ho hx hd hk U U rk rv=>m2 _ _ _ _ _ _ ha ho hx hd hk rk rv) .nil (fun U U a b=>.cons a b) r⟩
end
structure Fm where
 env:Env
 stk:List Env
 av:List Addr
 own0:List Addr
 tab:List Addr
 sc:List (Str × NameKind × Nat)
 hdl:Option Value
noncomputable def Fm.own (fm:Fm):List Addr:=fm.tab++fm.own0
noncomputable def BR (H:Hd)(h:Heap)(P:Addr):Prop:=
 ∃ ps,h.get? P=some { cls:=.none,data:=.fields ps }/\(ps = #[]\/∃ c oc vs t,ps = #[rawInt H.tabPos.line,rawInt H.tabPos.col,.ref c]/\h.get? c=some oc/\oc.cls = .type "code"/\oc.data = .fields vs/\vs[1]? = some (.str H.tabQ t))
private theorem BR.keeps {H:Hd}{h h':Heap}{P:Addr}(x:BR H h P)(k:∀ b o,h.get? b=some o->h'.get? b=some o):BR H h' P:=by
 obtain ⟨ps,e,q⟩:=x
 refine ⟨ps,k _ _ e,?_⟩
 rcases q with q | ⟨c,oc,vs,t,q1,q2,q3⟩
 ·exact .inl q
 ·exact .inr ⟨c,oc,vs,t,q1,k _ _ q2,q3⟩
private theorem BR.same {H:Hd}{h h':Heap}{P a:Addr}(x:BR H h P)(S:Heap.SameBut a h h')(n:∀ o vs,h.get? a=some o->o.data≠.fields vs):BR H h' P:=by
 obtain ⟨ps,e,q⟩:=x
 refine ⟨ps,(S.2 P fun z=>n _ ps (z▸e) rfl).trans e,?_⟩
 rcases q with q | ⟨c,oc,vs,t,q1,q2,q3,q4,q5⟩
 ·exact .inl q
 ·exact .inr ⟨c,oc,vs,t,q1,(S.2 c fun z=>n oc vs (z▸q2) q4).trans q2,q3,q4,q5⟩
noncomputable def frs (stk:List Env):List Addr:=stk.filterMap (·.frame)
structure Rel (stk:List Env)(own α:List Addr)(h h':Heap):Prop where
 keep:∀ b o,h.get? b=some o->b∉frs stk->b∉own->b∉α->h'.get? b=some o
 slot:∀ b o,h.get? b=some o->b∈frs stk->b∉own->b∉α->∃ sl,h'.get? b=some { o with slots:=sl }
 live:∀ b,h'.get? b=none->h.get? b=none
private theorem Rel.refl (stk:List Env)(own α:List Addr)(h:Heap):Rel stk own α h h:=⟨fun U U e U U U=>e,fun U o e U U U=>⟨o.slots,e⟩,fun U e=>e⟩
private theorem Rel.of_keeps {stk:List Env}{own α:List Addr}{h h':Heap}(k:∀ b o,h.get? b=some o->h'.get? b=some o):Rel stk own α h h':=
 ⟨fun b o e U U U=>k b o e,fun b o e U U U=>⟨o.slots,k b o e⟩,fun b e=>by
  cases q:h.get? b with
  | none=>rfl
  | some o=>rw [k b o q] at e;cases e⟩
private theorem Rel.mono {stk:List Env}{own own' α:List Addr}{h h':Heap}(x:Rel stk own α h h')(k:∀ b∈own,b∈own'):Rel stk own' α h h':=
 ⟨fun b o e h1 h2 h3=>x.keep b o e h1 (fun q=>h2 (k b q)) h3,fun b o e h1 h2 h3=>x.slot b o e h1 (fun q=>h2 (k b q)) h3,x.live⟩
private theorem Rel.trans {stk:List Env}{own α α':List Addr}{h₁ w1 Y1:Heap}(x:Rel stk own α h₁ w1)(y:Rel stk own α' w1 Y1)(n:∀ a∈α',a∉α->h₁.get? a=none):Rel stk own α h₁ Y1:=by
 have q:∀ b o,h₁.get? b=some o->b∉α->b∉α':=fun b o e h1 h2=>by rw [n b h2 h1] at e;cases e
 refine ⟨fun b o e h1 h2 h3=>y.keep b o (x.keep b o e h1 h2 h3) h1 h2 (q b o e h3),fun b o e h1 h2 h3=>?_,fun b e=>x.live b (y.live b e)⟩
 obtain ⟨sl,Y0⟩:=x.slot b o e h1 h2 h3
 obtain ⟨sl',W2⟩:=y.slot b _ Y0 h1 h2 (q b o e h3)
 exact ⟨sl',W2⟩
structure Grow (α α':List Addr)(h:Heap):Prop where
 pre:α <+: α'
 new:∀ a∈α',a∉α->h.get? a=none
private theorem Grow.refl (α:List Addr)(h:Heap):Grow α α h:=⟨List.prefix_refl _,fun a h1 h2=>absurd h1 h2⟩
private theorem Grow.trans {α α' α'':List Addr}{h h':Heap}{stk:List Env}{own:List Addr}(x:Grow α α' h)(y:Grow α' α'' h')(r:Rel stk own α h h'):Grow α α'' h:=
 ⟨x.pre.trans y.pre,fun a h1 h2=>by
  by_cases q:a∈α'
  ·exact x.new a q h2
  ·exact r.live a (y.new a h1 q)⟩
inductive OptRep (H:Hd)(h₀:Heap)(av α:List Addr)(h:Heap):Option PV->Option Value->Prop
 | none:OptRep H h₀ av α h none none
 | some {p:PV} {v:Value} (r:RepV H h₀ av α h p v):OptRep H h₀ av α h (some p) (some v)
structure ListsAt (H:Hd)(h₀:Heap)(av α:List Addr)(st:List (List PV))(h:Heap):Prop where
 len:α.length=st.length
 at_:∀ (i:Nat) (l:List PV),st[i]? = some l->∃ a vs,α[i]? = some a/\h.PlainList a vs.toArray/\RepL H h₀ av α h l vs
 nodup:α.Nodup
 fresh:∀ a∈α,h₀.get? a=none
 apart:∀ a∈α,a∉av
structure Inv (H:Hd)(h₀:Heap)(fm:Fm)(α:List Addr)(ps:PS)(h:Heap):Prop where
 base:∀ b o,h₀.get? b=some o->h.get? b=some o
 loc:∃ m,h.Ns fm.env.locals m/\∀ x i,(x,NameKind.local,i)∈fm.sc->OptRep H h₀ fm.av α h (ps.loc i) (m x)
 cel:∀ x k i,(x,k,i)∈fm.sc->(k = .cell\/k = .free)->∃ c v,fm.env.cells.lookup x=some c/\c∈fm.av/\c≠fm.env.locals/\h.IsCell c v/\OptRep H h₀ fm.av α h (ps.loc i) v
 lists:ListsAt H h₀ fm.av α ps.st h
 live:∀ a∈fm.av,(h.get? a).isSome=true
 frames:h.FunFrames ⟨#[],{}⟩ fm.stk
 tabs:∀ P∈fm.tab,BR H h P
structure FmOk (h₀:Heap)(fm:Fm):Prop where
 kind:fm.env.scope.kind = .function
 glob:fm.env.globals=mainGlobals
 bi:fm.env.builtins=builtinsNs
 locAv:fm.env.locals∈fm.av
 locOwn:fm.env.locals∈fm.own
 ownAv:∀ a∈fm.own,a∈fm.av
 frsAv:∀ a∈frs fm.stk,a∈fm.av
 fresh:∀ a∈fm.av,h₀.get? a=none
 kinds:∀ x k i,(x,k,i)∈fm.sc->fm.env.kindOf x=some k\/(k = .free/\fm.env.kindOf x=some .cell)
 once:∀ x k i y k' j,(x,k,i)∈fm.sc->(y,k',j)∈fm.sc->(i=j↔x=y)
 cellOwn:∀ x i c,(x,NameKind.cell,i)∈fm.sc->fm.env.cells.lookup x=some c->c∈fm.own
 cellApart:∀ x k i y k' j c,(x,k,i)∈fm.sc->(y,k',j)∈fm.sc->fm.env.cells.lookup x=some c->fm.env.cells.lookup y=some c->x=y
 frame:∃ e r,fm.stk=e::r/\e.frame=fm.env.frame/\fm.env.frame.isSome=true
private theorem FmOk.tabAv {h₀:Heap}{fm:Fm}(F:FmOk h₀ fm):∀ b∈fm.tab,b∈fm.av:=fun b m=>F.ownAv b (List.mem_append_left _ m)
private theorem FmOk.kindX {h₀:Heap}{fm:Fm}(F:FmOk h₀ fm){x:Str}{k:NameKind}{i:Nat}(h:(x,k,i)∈fm.sc)(n:k≠.free):fm.env.kindOf x=some k:=by
 rcases F.kinds x k i h with q | q
 ·exact q
 ·exact absurd q.1 n
private theorem Cz {h:Heap}{a:Addr}{vs ws:Array Value}(x:IsTup h a vs)(y:h.IsList a ws):False:=by
 obtain ⟨o,h1,h2,_⟩:=x
 obtain ⟨o',h1',h2',_⟩:=y
 rw [h1] at h1';cases h1'
 rw [h2] at h2';exact absurd h2' (by decide)
section
variable {H:Hd}{h₀ h h':Heap}{fm:Fm}{α α':List Addr}{own:List Addr}
private theorem ListsAt.isList {av:List Addr}{st:List (List PV)}(x:ListsAt H h₀ av α st h){a:Addr}(m:a∈α):∃ vs,h.IsList a vs:=by
 obtain ⟨i,hi,e⟩:=List.getElem_of_mem m
 obtain ⟨a',vs,h1,h2,_⟩:=x.at_ i _ (List.getElem?_eq_getElem (x.len▸hi))
 rw [List.getElem?_eq_getElem hi,e] at h1
 cases h1
 exact ⟨_,h2.isList⟩
private theorem GE {av:List Addr}{st:List (List PV)}{stk:List Env}(L:ListsAt H h₀ av α st h)(r:Rel stk own α h h')(g:α <+: α')(hf:∀ b∈frs stk,b∈av)(ho':∀ b∈own,b∈av) :
  (∀ {p:PV} {v:Value},RepV H h₀ av α h p v->RepV H h₀ av α' h' p v)/\∀ {l:List PV} {vs:List Value},RepL H h₀ av α h l vs->RepL H h₀ av α' h' l vs:=by
 refine CN (fun a vs ha hi=>⟨ha,?_⟩) (fun i a hi=>?_) fun a o es ep ha ho hx hd=>⟨ha,r.keep _ _ ho (fun q=>ha (hf _ q)) (fun q=>ha (ho' _ q)) fun q=>?_⟩
 ·obtain ⟨o,e1,e2,e3⟩:=hi
  refine ⟨o,r.keep _ _ e1 (fun q=>ha (hf _ q)) (fun q=>ha (ho' _ q)) (fun q=>?_),e2,e3⟩
  obtain ⟨ws,hl⟩:=L.isList q
  exact Cz ⟨o,e1,e2,e3⟩ hl
 ·obtain ⟨t,rfl⟩:=g
  rw [List.getElem?_append_left (List.getElem?_eq_some_iff.mp hi).1];exact hi
 ·obtain ⟨ws,o',e1,e2,_⟩:=L.isList q
  rw [ho] at e1;cases e1
  rw [hx.1] at e2;exact absurd e2 (by decide)
private theorem RepV.stays {av:List Addr}{st:List (List PV)}{stk:List Env}(L:ListsAt H h₀ av α st h)(r:Rel stk own α h h')(g:α <+: α')(hf:∀ b∈frs stk,b∈av)(ho':∀ b∈own,b∈av){p:PV}{v:Value}(x:RepV H h₀ av α h p v):RepV H h₀ av α' h' p v:=(GE L r g hf ho').1 x
private theorem RepL.stays {av:List Addr}{st:List (List PV)}{stk:List Env}(L:ListsAt H h₀ av α st h)(r:Rel stk own α h h')(g:α <+: α')(hf:∀ b∈frs stk,b∈av)(ho':∀ b∈own,b∈av){l:List PV}{vs:List Value}(x:RepL H h₀ av α h l vs):RepL H h₀ av α' h' l vs:=(GE L r g hf ho').2 x
private theorem OptRep.map {av av' α α':List Addr}{h h':Heap}(f:∀ {p v},RepV H h₀ av α h p v->RepV H h₀ av' α' h' p v){p:Option PV}{v:Option Value}(r:OptRep H h₀ av α h p v):OptRep H h₀ av' α' h' p v:=by
 cases r with
 | none=>exact .none
 | some q=>exact .some (f q)
private theorem OptRep.stays {av:List Addr}{st:List (List PV)}{stk:List Env}(L:ListsAt H h₀ av α st h)(r:Rel stk own α h h')(g:α <+: α')(hf:∀ b∈frs stk,b∈av)(ho:∀ b∈own,b∈av)
  {p:Option PV} {v:Option Value} (x:OptRep H h₀ av α h p v):OptRep H h₀ av α' h' p v:=x.map fun q=>q.stays L r g hf ho
end
end Mi
end
section
open PySem PySem.W PyProof.Rows
namespace Mi
set_option genCtorIdx true in
inductive PFlow where
 | next | brk | cont
 | ret (v:PV)
 deriving Inhabited
noncomputable def big:Nat:=16777216
namespace M
noncomputable def newLst (l:List PV):M PV:=fun s=>if l.length<=big then .ok (.lst s.st.length) { s with st:=s.st++[l] } else .stuck
noncomputable def getLst (i:Nat):M (List PV):=fun s=>match s.st[i]? with
 | some l=>.ok l s
 | none=>.stuck
noncomputable def setLst (i:Nat)(l:List PV):M Unit:=fun s=>if l.length<=big then .ok () { s with st:=s.st.set i l } else .stuck
noncomputable def str (t:Txt):M PV:=fun s=>if t.length<=big then .ok (.str t) s else .stuck
noncomputable def seq:List (M PV)->M (List PV)
 | []=>ret []
 | m::r=>bind m fun v=>bind (seq r) fun vs=>ret (v::vs)
end M
noncomputable def idx (i:Int)(n:Nat):Option Nat:=
 if 0<=i then (if i.toNat<n then some i.toNat else none) else if 0<=i+n then some (i+n).toNat else none
noncomputable def bnd (i:Int)(n:Nat):Nat:=if 0<=i then min i.toNat n else (i+n).toNat
noncomputable def slc {α:Type}(l:List α)(a b:Option Int):List α:=
 let lo:=match a with | some i=>bnd i l.length | none=>0
 let hi:=match b with | some i=>bnd i l.length | none=>l.length
 (l.take hi).drop lo
noncomputable def Ai (i:Int):Bool:=i.natAbs<1073741824
noncomputable def asI:PV->Option Int
 | .int i=>some i
 | _=>none
noncomputable def asS:PV->Option Txt
 | .str s=>some s
 | _=>none
noncomputable def asL:PV->Option Nat
 | .lst i=>some i
 | _=>none
private theorem AE {p:PV}{i:Int}(h:asI p=some i):p = .int i:=by cases p <;> first | (injection h;done) | (injection h with h;rw [h])
private theorem AN {p:PV}{i:Txt}(h:asS p=some i):p = .str i:=by cases p <;> first | (injection h;done) | (injection h with h;rw [h])
private theorem Fo {p:PV}{i:Nat}(h:asL p=some i):p = .lst i:=by cases p <;> first | (injection h;done) | (injection h with h;rw [h])
noncomputable def M.get {α β:Type}:Option α->(α->M β)->M β
 | some a,f=>f a
 | none,_=>M.stuck
private theorem AF {α β:Type}{o:Option α}{f:α->M β}{ps:PS}(ns:M.get o f ps≠.stuck):∃ a,o=some a:=by
 cases o with
 | none=>exact absurd rfl ns
 | some a=>exact ⟨a,rfl⟩
private theorem Nl {α β:Type}{o:Option α}{f:α->M β}{ps ps':PS}{r:β}(e:M.get o f ps = .ok r ps'):∃ a,o=some a:=AF fun q=>by rw [q] at e;injection e
noncomputable def un {β:Type}:List PV->(PV->List PV->Option β)->Option β
 | [],_=>none
 | p::r,f=>f p r
private theorem DR {β:Type}{l:List PV}{f:PV->List PV->Option β}{b:β}(h:un l f=some b):∃ p r,l=p::r/\f p r=some b:=by
 cases l with
 | nil=>injection h
 | cons p r=>exact ⟨p,r,rfl,h⟩
noncomputable def M.arg1 {β:Type}(l:List PV)(f:PV->M β):M β:=match l with
 | []=>M.stuck
 | p::r=>match r with
  | []=>f p
  | _::_=>M.stuck
private theorem DS {β:Type}{l:List PV}{f:PV->M β}{ps:PS}(ns:M.arg1 l f ps≠.stuck):∃ p,l=[p]:=by
 cases l with
 | nil=>exact absurd rfl ns
 | cons p r=>
  cases r with
  | nil=>exact ⟨p,rfl⟩
  | cons=>exact absurd rfl ns
noncomputable def one:Txt->Option Nat
 | []=>none
 | c::r=>cond r.isEmpty (some c) none
private theorem El {β γ:Type}{r:List β}{x y:γ}(h:cond r.isEmpty (some x) none=some y):r=[]/\x=y:=by
 cases r with
 | nil=>exact ⟨rfl,Option.some.inj h⟩
 | cons=>injection h
private theorem DT {x:Txt}{c:Nat}(h:one x=some c):x=[c]:=by
 cases x with
 | nil=>injection h
 | cons d r=>obtain ⟨e1,e2⟩:=El h;rw [e1,e2]
noncomputable def Br (f:Int->Int->M PV)(a b:PV):M PV:=M.get (asI a) fun i=>M.get (asI b) (f i)
private theorem KY {α β γ:Type}{o:Option α}{q:Option β}{f:α->β->M γ}{ps:PS}(ns:M.get o (fun i=>M.get q (f i)) ps≠.stuck):∃ i j,o=some i/\q=some j:=by
 obtain ⟨i,e⟩:=AF ns
 rw [e] at ns
 obtain ⟨j,e'⟩:=AF (o:=q) (f:=f i) ns
 exact ⟨i,j,e,e'⟩
private theorem Bs {f:Int->Int->M PV}{a b:PV}{ps:PS}(ns:Br f a b ps≠.stuck):∃ i j,a = .int i/\b = .int j:=by
 obtain ⟨i,j,e,e'⟩:=KY ns
 exact ⟨i,j,AE e,AE e'⟩
noncomputable def M.els {α β:Type}(o:Option α)(f:α->M β)(g:M β):M β:=match o with
 | some a=>f a
 | none=>g
noncomputable def Pz (a b:PV):M PV:=M.els (asI a) (fun i=>M.get (asI b) fun j=>M.ret (.int (i+j))) <| M.els (asS a) (fun s=>M.get (asS b) fun t=>M.str (s++t)) <| M.get (asL a) fun i=>M.get (asL b) fun j=>M.bind (M.getLst i) fun x=>M.bind (M.getLst j) fun y=>M.newLst (x++y)
private theorem Hk {α β γ δ α' β' γ':Type}{o:Option α}{q:Option β}{r:Option γ}{o':Option α'}{q':Option β'}{r':Option γ'}{f:α->α'->M δ}{g:β->β'->M δ}{k:γ->γ'->M δ}{ps:PS}
  (ns:M.els o (fun i=>M.get o' (f i)) (M.els q (fun i=>M.get q' (g i)) (M.get r fun i=>M.get r' (k i))) ps≠.stuck):(∃ i j,o=some i/\o'=some j)\/(∃ i j,q=some i/\q'=some j)\/∃ i j,r=some i/\r'=some j:=by
 cases o with
 | some i=>obtain ⟨j,e⟩:=AF (f:=f i) ns;exact .inl ⟨i,j,rfl,e⟩
 | none=>
  cases q with
  | some i=>obtain ⟨j,e⟩:=AF (f:=g i) ns;exact .inr (.inl ⟨i,j,rfl,e⟩)
  | none=>exact .inr (.inr (KY ns))
private theorem PA {a b:PV}{ps:PS}(ns:Pz a b ps≠.stuck):(∃ i j,a = .int i/\b = .int j)\/(∃ i j,a = .str i/\b = .str j)\/∃ i j,a = .lst i/\b = .lst j:=by
 rcases Hk ns with ⟨i,j,e,e'⟩ | ⟨i,j,e,e'⟩ | ⟨i,j,e,e'⟩
 ·exact .inl ⟨i,j,AE e,AE e'⟩
 ·exact .inr (.inl ⟨i,j,AN e,AN e'⟩)
 ·exact .inr (.inr ⟨i,j,Fo e,Fo e'⟩)
noncomputable def SJ:PV->PV->M PV:=Br fun a b=>M.ret (.int (a - b))
noncomputable def PB (a b:PV):M PV:=M.els (asI a) (fun a=>M.get (asI b) fun b=>M.orStuck (Ai a||Ai b) (M.ret (.int (a*b)))) <| M.els (asS a) (fun a=>M.get (asI b) fun k=>M.orStuck (Ai k) (M.str (List.replicate k.toNat a).flatten)) <| M.get (asL a) fun a=>M.get (asI b) fun k=>M.bind (M.getLst a) fun x=>M.orStuck (Ai k) (M.newLst (List.replicate k.toNat x).flatten)
private theorem PC {a b:PV}{ps:PS}(ns:PB a b ps≠.stuck):(∃ i j,a = .int i/\b = .int j)\/(∃ i j,a = .str i/\b = .int j)\/∃ i j,a = .lst i/\b = .int j:=by
 rcases Hk ns with ⟨i,j,e,e'⟩ | ⟨i,j,e,e'⟩ | ⟨i,j,e,e'⟩
 ·exact .inl ⟨i,j,AE e,AE e'⟩
 ·exact .inr (.inl ⟨i,j,AN e,AE e'⟩)
 ·exact .inr (.inr ⟨i,j,Fo e,AE e'⟩)
noncomputable def SK:PV->PV->M PV:=Br fun a b=>M.orStuck (b != 0&&Ai b) (M.ret (.int (a.fdiv b)))
noncomputable def SL:PV->PV->M PV:=Br fun a b=>M.orStuck (b != 0&&Ai b) (M.ret (.int (a.fmod b)))
noncomputable def SM:PV->PV->M PV:=Br fun a b=>M.orStuck (2<=a&&a<=16&&0<=b&&b<=16) (M.ret (.int (a ^ b.toNat)))
noncomputable def Ap:Operator->PV->PV->M PV
 | .Add=>Pz
 | .Sub=>SJ
 | .Mult=>PB
 | .FloorDiv=>SK
 | .Mod=>SL
 | .Pow=>SM
 | _=>fun U U=>M.stuck
noncomputable def truP:PV->Option Bool
 | .bool b=>some b
 | _=>none
mutual
noncomputable def toD (st:List (List PV)):Nat->PV->Option PyData
 | 0,_=>none
 | _+1,.none=>some .none
 | _+1,.bool b=>some (.bool b)
 | _+1,.int i=>some (.int i)
 | _+1,.str s=>some (.str (txt s))
 | n+1,.tup l=>(Em st n l).map .tuple
 | n+1,.lst i=>match st[i]? with
  | some l=>(Em st n l).map .list
  | none=>none
 | _+1,_=>none
noncomputable def Em (st:List (List PV)):Nat->List PV->Option (List PyData)
 | 0,_=>none
 | _+1,[]=>some []
 | n+1,p::r=>match toD st n p,Em st n r with
  | some d,some ds=>some (d::ds)
  | _,_=>none
end
noncomputable def Hl (a b:Txt):Bool:=(List.range (b.length+1)).any fun i=>(b.drop i).take a.length==a
noncomputable def opE {α β:Type}(o:Option α)(f:α->β)(g:β):β:=match o with
 | some a=>f a
 | none=>g
noncomputable def eqT (a b:PV):Option Bool:=opE (asS a) (fun s=>opE (asS b) (fun t=>some (s==t)) ((asI b).map fun U=>false)) <| (asI a).bind fun i=>opE (asI b) (fun j=>some (i==j)) ((asS b).map fun U=>false)
private theorem Nm {a b:PV}{r:Bool}(h:eqT a b=some r):(∃ s t,a = .str s/\b = .str t/\(s==t)=r)\/(∃ i j,a = .int i/\b = .int j/\(i==j)=r)\/(∃ i t,a = .int i/\b = .str t/\false=r)\/∃ s j,a = .str s/\b = .int j/\false=r:=by
 have h:opE (asS a) (fun s=>opE (asS b) (fun t=>some (s==t)) ((asI b).map fun U=>false)) ((asI a).bind fun i=>opE (asI b) (fun j=>some (i==j)) ((asS b).map fun U=>false))=some r:=h
 cases ea:asS a with
 | some s=>
  rw [ea] at h
  cases eb:asS b with
  | some t=>rw [eb] at h;exact .inl ⟨s,t,AN ea,AN eb,Option.some.inj h⟩
  | none=>
   rw [eb] at h
   obtain ⟨j,e,q⟩:=Option.map_eq_some_iff.mp h
   exact .inr (.inr (.inr ⟨s,j,AN ea,AE e,q⟩))
 | none=>
  rw [ea] at h
  obtain ⟨i,e,h⟩:=Option.bind_eq_some_iff.mp h
  cases eb:asI b with
  | some j=>rw [eb] at h;exact .inr (.inl ⟨i,j,AE e,AE eb,Option.some.inj h⟩)
  | none=>
   rw [eb] at h
   obtain ⟨t,e',q⟩:=Option.map_eq_some_iff.mp h
   exact .inr (.inr (.inl ⟨i,t,AE e,AN e',q⟩))
noncomputable def eqP (a b:PV):M Bool:=fun s=>match eqT a b with
 | some r=>.ok r s
 | none=>match toD s.st 64 a,toD s.st 64 b with
  | some x,some y=>if SeqAt.shaped x&&SeqAt.shaped y then .ok (PyData.eqv x y) s else .stuck
  | _,_=>.stuck
noncomputable def eqI (a b:PV):Option Bool:=opE (asS a) (fun s=>(asS b).map (s==·)) <| (asI a).bind fun i=>(asI b).map (i==·)
private theorem Nn {a b:PV}{r:Bool}(h:eqI a b=some r):(∃ s t,a = .str s/\b = .str t/\(s==t)=r)\/∃ i j,a = .int i/\b = .int j/\(i==j)=r:=by
 have h:opE (asS a) (fun s=>(asS b).map (s==·)) ((asI a).bind fun i=>(asI b).map (i==·))=some r:=h
 cases ea:asS a with
 | some s=>
  rw [ea] at h
  obtain ⟨t,e,q⟩:=Option.map_eq_some_iff.mp h
  exact .inl ⟨s,t,AN ea,AN e,q⟩
 | none=>
  rw [ea] at h
  obtain ⟨i,e,h⟩:=Option.bind_eq_some_iff.mp h
  obtain ⟨j,e',q⟩:=Option.map_eq_some_iff.mp h
  exact .inr ⟨i,j,AE e,AE e',q⟩
noncomputable def inL (x:PV):List PV->Option Bool
 | []=>some false
 | y::r=>match eqI y x,inL x r with
  | some a,some b=>some (a||b)
  | _,_=>none
noncomputable def Cg (ks vs:List PV)(x:PV):Option (Option PV):=match ks,vs with
 | [],_=>some none
 | k::ks,v::vs=>match eqI k x with
  | some true=>some (some v)
  | some false=>Cg ks vs x
  | none=>none
 | _,_=>none
noncomputable def CA (ks vs:List PV)(x:PV):Option (Option PV):=if ks.isEmpty then none else Cg ks vs x
noncomputable def inP (x y:PV):M Bool:=match y with
 | .str b=>M.get (asS x) fun a=>M.ret (Hl a b)
 | .fset k=>M.get (asS x) fun a=>M.ret (Nk k a)
 | .lst i=>M.bind (M.getLst i) fun l=>M.ofO (inL x l)
 | .tup l=>M.ofO (inL x l)
 | .dct ks vs=>M.ofO ((CA ks vs x).map (·.isSome))
 | _=>M.stuck
noncomputable def Hm:PV->Bool
 | .none=>true
 | _=>false
noncomputable def isP (g:PV->Bool):PV->PV->M PV
 | a,.none=>M.ret (.bool (g a))
 | _,_=>M.stuck
noncomputable def AA:CmpOp->PV->PV->M PV
 | .Eq=>fun a b=>M.bind (eqP a b) fun r=>M.ret (.bool r)
 | .NotEq=>fun a b=>M.bind (eqP a b) fun r=>M.ret (.bool !r)
 | .Lt=>Br fun a b=>M.ret (.bool (decide (a<b)))
 | .LtE=>Br fun a b=>M.ret (.bool (decide (a<=b)))
 | .Gt=>Br fun a b=>M.ret (.bool (decide (a>b)))
 | .GtE=>Br fun a b=>M.ret (.bool (decide (a≥b)))
 | .In=>fun a b=>M.bind (inP a b) fun r=>M.ret (.bool r)
 | .NotIn=>fun a b=>M.bind (inP a b) fun r=>M.ret (.bool !r)
 | .Is=>isP Hm
 | .IsNot=>isP fun a=>!Hm a
noncomputable def Ax (hd:Bool)(a b:PV):M PV:=match a with
 | .str s=>M.get (asI b) fun i=>M.orStuck (Ai i) (match idx i s.length with
  | some j=>M.ret (.str [s.getD j 0])
  | none=>M.raiseB hd "IndexError")
 | .lst a=>M.get (asI b) fun i=>M.orStuck (Ai i) (M.bind (M.getLst a) fun l=>M.ofO ((idx i l.length).bind (l[·]?)))
 | .tup l=>M.get (asI b) fun i=>M.orStuck (Ai i) (M.ofO ((idx i l.length).bind (l[·]?)))
 | .dct ks vs=>M.ofO ((CA ks vs b).bind id)
 | .mp=>M.get (asS b) fun s=>match escT s with
  | some t=>M.ret (.str t)
  | none=>M.raiseB hd "KeyError"
 | _=>M.stuck
noncomputable def A6 (a b:Option Int):PV->M PV
 | .str s=>M.str (slc s a b)
 | .lst i=>M.bind (M.getLst i) fun l=>M.orStuck (l.length<=big) (M.newLst (slc l a b))
 | _=>M.stuck
noncomputable def PD (a b:PV):M PV:=M.els (asI a) (fun i=>M.get (asI b) fun j=>M.ret (.int (i+j))) <| M.get (asS a) fun s=>M.get (asS b) fun t=>M.str (s++t)
private theorem PE {a b:PV}{ps:PS}(ns:PD a b ps≠.stuck):(∃ i j,a = .int i/\b = .int j)\/∃ i j,a = .str i/\b = .str j:=by
 rcases Hk (o:=none (α:=Int)) (o':=none (α:=Int)) (f:=fun U U=>M.stuck) ns with ⟨_,_,e,_⟩ | ⟨i,j,e,e'⟩ | ⟨i,j,e,e'⟩
 ·injection e
 ·exact .inl ⟨i,j,AE e,AE e'⟩
 ·exact .inr ⟨i,j,AN e,AN e'⟩
noncomputable def CO:Operator->PV->PV->M PV
 | .Add=>PD
 | .Sub=>Br fun a b=>M.ret (.int (a - b))
 | .FloorDiv=>Br fun a b=>M.orStuck (b != 0&&Ai b) (M.ret (.int (a.fdiv b)))
 | _=>fun U U=>M.stuck
namespace M
noncomputable def thenS (m:M PFlow)(r:M PFlow):M PFlow:=bind m fun f=>match f with
 | .next=>r
 | f=>ret f
noncomputable def Sf:List (M PFlow)->M PFlow
 | []=>ret .next
 | [m]=>m
 | m::r=>thenS m (Sf r)
noncomputable def whileN (t:M Bool)(b:M PFlow):Nat->M PFlow
 | 0=>stuck
 | k+1=>bind t fun c=>if c then bind b fun f=>match f with
   | .next=>whileN t b k
   | .cont=>whileN t b k
   | .brk=>ret .next
   | .ret v=>ret (.ret v)
  else ret .next
end M
noncomputable def BB:PV->Nat->M (Option PV)
 | .lst i,k=>M.bind (M.getLst i) fun l=>M.ret l[k]?
 | .str s,k=>M.ret ((s[k]?).map fun c=>.str [c])
 | .ints l,k=>M.ret ((l[k]?).map .int)
 | _,_=>M.stuck
noncomputable def No:PV->M (Nat->M (Option PV))
 | .lst i=>M.ret (BB (.lst i))
 | .str s=>M.ret (BB (.str s))
 | .ints l=>M.ret (BB (.ints l))
 | _=>M.stuck
noncomputable def BI (a b:Int)(k:Nat):M (Option PV):=M.ret (if (k:Int)<b - a then some (.int (a+k)) else none)
noncomputable def Sg (l:List PV):Option (Option Int × Int):=un l fun p r=>(asI p).bind fun i=>match r with
 | []=>some (none,i)
 | q::r=>(asI q).bind fun j=>cond r.isEmpty (some (some i,j)) none
private theorem PF {l:List PV}{x:Option Int × Int}(h:Sg l=some x):(l=[.int x.2]/\x.1=none)\/∃ a,l=[.int a,.int x.2]/\x.1=some a:=by
 obtain ⟨p,r,rfl,h⟩:=DR h
 obtain ⟨i,e,h⟩:=Option.bind_eq_some_iff.mp h
 rw [AE e]
 cases r with
 | nil=>obtain rfl:=Option.some.inj h;exact .inl ⟨rfl,rfl⟩
 | cons q r=>
  obtain ⟨j,e',h⟩:=Option.bind_eq_some_iff.mp h
  obtain ⟨e1,rfl⟩:=El h
  rw [AE e',e1]
  exact .inr ⟨i,rfl,rfl⟩
noncomputable def BX (l:List PV):M (Nat->M (Option PV)):=M.get (Sg l) fun x=>match x.1 with
 | none=>M.orStuck (Ai x.2) (M.ret (BI 0 x.2))
 | some a=>M.orStuck (Ai a&&Ai x.2) (M.ret (BI a x.2))
namespace M
noncomputable def each:List (PV->M Unit)->List PV->M Unit
 | [],[]=>ret ()
 | f::fs,v::vs=>bind (f v) fun U=>each fs vs
 | _,_=>stuck
noncomputable def unpack (fs:List (PV->M Unit)):PV->M Unit
 | .tup l=>orStuck (l.length==fs.length) (each fs l)
 | .lst i=>bind (getLst i) fun l=>orStuck (l.length==fs.length) (each fs l)
 | _=>stuck
noncomputable def forT (get:Nat->M (Option PV))(t:PV->M Unit)(b:M PFlow):Nat->Nat->M PFlow
 | 0,_=>stuck
 | f+1,k=>bind (get k) fun o=>match o with
  | none=>ret .next
  | some p=>bind (t p) fun U=>bind b fun fl=>match fl with
   | .next=>forT get t b f (k+1)
   | .cont=>forT get t b f (k+1)
   | .brk=>ret .next
   | .ret v=>ret (.ret v)
end M
noncomputable def EU (l:List PV):M PV:=M.orStuck (l.length<=big) (M.ret (.tup l))
noncomputable def Bq (i:Int):Txt:=(Str.ofString (toString i)).cps.toList
noncomputable def SO:PV->M PV
 | .str s=>M.orStuck (s.length<=big) (M.ret (.int s.length))
 | .lst i=>M.bind (M.getLst i) fun l=>M.orStuck (l.length<=big) (M.ret (.int l.length))
 | .ints l=>M.orStuck (l.length<=big) (M.ret (.int l.length))
 | _=>M.stuck
noncomputable def BC (l:List PV):M PV:=M.arg1 l SO
noncomputable def DU (l:List PV):M PV:=M.arg1 l fun p=>M.get (asI p) fun i=>M.orStuck (0<=i&&i<=1114111) (M.ret (.str [i.toNat]))
noncomputable def Rk (l:List PV):M PV:=M.arg1 l fun p=>M.get (asS p) fun s=>M.get (one s) fun c=>M.ret (.int c)
noncomputable def Rl (l:List PV):M PV:=M.arg1 l fun p=>M.get (asI p) fun i=>M.ret (.int (if i<0 then -i else i))
noncomputable def Np (l:List PV):M PV:=M.arg1 l fun p=>M.get (asI p) fun i=>M.orStuck (Ai i) (M.ret (.str (Bq i)))
noncomputable def AP:Option (M PV)->M (Option Int)
 | none=>M.ret none
 | some m=>M.bind m fun v=>match v with
  | .int i=>M.ret (some i)
  | _=>M.stuck
noncomputable def Nq:PFlow->PV
 | .ret v=>v
 | _=>.none
noncomputable def M.call (m:M PFlow)(l:List PV):M PV:=fun s=>match m ⟨fun i=>l[i]?,s.st⟩ with
 | .ok f s'=>.ok (Nq f) ⟨s.loc,s'.st⟩
 | .ex e s'=>.ex e ⟨s.loc,s'.st⟩
 | .stuck=>.stuck
noncomputable def M.tryN (X:PX->Option (M PFlow))(m:M PFlow):M PFlow:=fun s=>match m s with
 | .ok f s'=>.ok f s'
 | .ex e s'=>match X e with
  | some h=>h s'
  | none=>.stuck
 | .stuck=>.stuck
noncomputable def Ig (n:String)(h:M PFlow):PX->Option (M PFlow)
 | .std m=>if m=n then some h else none
 | _=>none
noncomputable def Nr (h:Txt->M PFlow):PX->Option (M PFlow)
 | .toml t=>some (h t)
 | _=>none
noncomputable def M.calm (m:M PFlow):M PFlow:=fun s=>match m s with
 | .ok f s'=>.ok f s'
 | _=>.stuck
noncomputable def Dt:PV->M PV
 | .str s=>M.str s
 | .int i=>M.orStuck (Ai i) (M.ret (.str (Bq i)))
 | _=>M.stuck
noncomputable def A3 (s:Txt):Txt:=(reprText (txt s)).cps.toList
noncomputable def Ih:PV->M PV
 | .str s=>M.str (A3 s)
 | _=>M.stuck
noncomputable def M.joinF:List (M PV)->Txt->M PV
 | [],acc=>M.str acc
 | m::r,acc=>M.bind m fun v=>match v with
  | .str t=>M.orStuck ((acc++t).length<=big) (M.joinF r (acc++t))
  | _=>M.stuck
end Mi
end
section
open PySem PySem.W PyProof.Rows
set_option maxRecDepth 10000
namespace Mi
structure Wd where
 H:Hd
 h₀:Heap
 gens:Array GenState
 os:OsState
noncomputable def Wd.cls (W:Wd):PX->Value
 | .std n=>.type n
 | .toml _=>.ref W.H.toml
noncomputable abbrev Wd.rep (W:Wd)(fm:Fm)(α:List Addr)(h:Heap)(p:PV)(v:Value):Prop:=RepV W.H W.h₀ fm.av α h p v
structure InvS (W:Wd)(fm:Fm)(α:List Addr)(ps:PS)(s:Shared):Prop where
 inv:Inv W.H W.h₀ fm α ps s.heap
 gens:s.gens=W.gens
 os:s.os=W.os
noncomputable def DV (start h:Heap)(e:PX)(v:Option Value):Prop:=match e with
 | .std n=>n≠"code"
 | .toml m=>∃ t tk,v=some (.ref t)/\start.get? t=none/\IsTup h t #[.str (txt m) tk]
noncomputable def Cl (o:Obj):Prop:=o.cls≠.none/\o.cls≠.type "code"
inductive HasTb (start h:Heap)(a:Addr)(v:Option Value):Prop
 | mk (T:Addr) (oT:Obj) (ts:Array Value) (k1:v=some (.ref T)) (k2:T≠a) (k3:h.get? T=some oT) (k4:oT.data = .fields ts) (k5:3<ts.size) (k6:start.get? T=none) (k7:Cl oT):HasTb start h a v
noncomputable def PG (start h:Heap)(a:Addr)(v:Option Value):Prop:=v=some .none\/HasTb start h a v
noncomputable def QW (e:PX)(v:Option Value):Prop:=match e with
 | .std _=>v=some .none
 | .toml _=>True
inductive Raised (W:Wd)(start h:Heap)(e:PX)(x:Value):Prop
 | mk (a:Addr) (oe:Obj) (vs:Array Value) (k1:x = .ref a) (k2:h.get? a=some oe) (k3:oe.cls=W.cls e) (k4:oe.data = .fields vs) (k5:5<vs.size) (k6:start.get? a=none) (k7:DV start h e vs[0]?) (k8:PG start h a vs[1]?) (k9:QW e vs[2]?):Raised W start h e x
inductive RaisedN (W:Wd)(start h:Heap)(e:PX)(x:Value):Prop
 | mk (a:Addr) (oe:Obj) (vs:Array Value) (k1:x = .ref a) (k2:h.get? a=some oe) (k3:oe.cls=W.cls e) (k4:oe.data = .fields vs) (k5:5<vs.size) (k6:start.get? a=none) (k7:DV start h e vs[0]?) (k8:HasTb start h a vs[1]?) (k9:QW e vs[2]?):RaisedN W start h e x
private theorem RaisedN.raised {W:Wd}{start h:Heap}{e:PX}{x:Value}(r:RaisedN W start h e x):Raised W start h e x:=by
 obtain ⟨a,oe,vs,h1,h2,h3,h4,h5,h6,h7,h8,h9⟩:=r
 exact ⟨a,oe,vs,h1,h2,h3,h4,h5,h6,h7,.inr h8,h9⟩
inductive OkE (W:Wd)(fm:Fm)(α:List Addr)(h:Heap)(r:R PV)(v:Value)(s':Shared):Prop
 | mk (p:PV) (ps':PS) (α':List Addr) (k1:r = .ok p ps') (k2:InvS W fm α' ps' s') (k3:Grow α α' h) (k4:Rel fm.stk fm.tab α h s'.heap) (k5:W.rep fm α' s'.heap p v):OkE W fm α h r v s'
inductive ExE (W:Wd)(fm:Fm)(α:List Addr)(h:Heap){β:Type}(r:R β)(x:Value)(s':Shared):Prop
 | mk (e:PX) (ps':PS) (α':List Addr) (k1:r = .ex e ps') (k2:InvS W fm α' ps' s') (k3:Grow α α' h) (k4:Rel fm.stk fm.tab α h s'.heap) (k5:Raised W h s'.heap e x):ExE W fm α h r x s'
inductive FlowRep (W:Wd)(fm:Fm)(α:List Addr)(h:Heap):PFlow->Flow->Prop
 | next:FlowRep W fm α h .next .next
 | brk:FlowRep W fm α h .brk .brk
 | cont:FlowRep W fm α h .cont .cont
 | ret {p:PV} {v:Value} (r:W.rep fm α h p v):FlowRep W fm α h (.ret p) (.ret v)
inductive OkS (W:Wd)(fm:Fm)(α:List Addr)(h:Heap)(r:R PFlow)(f:Flow)(s':Shared):Prop
 | mk (p:PFlow) (ps':PS) (α':List Addr) (k1:r = .ok p ps') (k2:InvS W fm α' ps' s') (k3:Grow α α' h) (k4:Rel fm.stk fm.own α h s'.heap) (k5:FlowRep W fm α' s'.heap p f):OkS W fm α h r f s'
inductive ExS (W:Wd)(fm:Fm)(α:List Addr)(h:Heap){β:Type}(r:R β)(x:Value)(s':Shared):Prop
 | mk (e:PX) (ps':PS) (α':List Addr) (k1:r = .ex e ps') (k2:InvS W fm α' ps' s') (k3:Grow α α' h) (k4:Rel fm.stk fm.own α h s'.heap) (k5:Raised W h s'.heap e x):ExS W fm α h r x s'
structure Ctx (W:Wd)(fm:Fm)(n:Nat)(A:Around):Prop where
 frames:A.frames=some fm.stk
 depth:A.depth+n<990
 units:A.units+20*n+1000<cLine
 hdl:A.handled=fm.hdl
 tab:fm.tab=[W.H.tabP]
 fm:FmOk W.h₀ fm
 hd:W.H.At W.h₀
noncomputable abbrev Wd.m (W:Wd):Model:=model W.H.prog W.H.w
noncomputable def Aj (W:Wd)(fm:Fm)(A:Around)(α:List Addr)(ps:PS)(s:Shared)(t:Sem Value)(m:M PV):Prop:=
 wpAny W.m A t (OkE W fm α s.heap (m ps)) (ExE W fm α s.heap (m ps)) s
noncomputable abbrev SimE.T (W:Wd)(n:Nat)(fm:Fm)(e:Expr)(m:M PV):Prop:=∀ A α ps s,Ctx W fm n A->InvS W fm α ps s->m ps≠.stuck->Aj W fm A α ps s (eval e fm.env) m
structure SimE (W:Wd)(n:Nat)(fm:Fm)(e:Expr)(m:M PV):Prop where
 go:SimE.T W n fm e m
noncomputable instance {W:Wd} {n:Nat} {fm:Fm} {e:Expr} {m:M PV}:CoeFun (SimE W n fm e m) (fun U=>SimE.T W n fm e m):=⟨SimE.go⟩
noncomputable abbrev SimS.T (W:Wd)(n:Nat)(fm:Fm)(b:List Stmt)(m:M PFlow):Prop:=∀ A α ps s,Ctx W fm n A->InvS W fm α ps s->m ps≠.stuck->wpAny W.m A (execs b fm.env) (OkS W fm α s.heap (m ps)) (ExS W fm α s.heap (m ps)) s
structure SimS (W:Wd)(n:Nat)(fm:Fm)(b:List Stmt)(m:M PFlow):Prop where
 go:SimS.T W n fm b m
noncomputable instance {W:Wd} {n:Nat} {fm:Fm} {b:List Stmt} {m:M PFlow}:CoeFun (SimS W n fm b m) (fun U=>SimS.T W n fm b m):=⟨SimS.go⟩
noncomputable abbrev SimT.T (W:Wd)(n:Nat)(fm:Fm)(st:Stmt)(m:M PFlow):Prop:=∀ A α ps s,Ctx W fm n A->InvS W fm α ps s->m ps≠.stuck->wpAny W.m A (exec st fm.env) (OkS W fm α s.heap (m ps)) (ExS W fm α s.heap (m ps)) s
structure SimT (W:Wd)(n:Nat)(fm:Fm)(st:Stmt)(m:M PFlow):Prop where
 go:SimT.T W n fm st m
noncomputable instance {W:Wd} {n:Nat} {fm:Fm} {st:Stmt} {m:M PFlow}:CoeFun (SimT W n fm st m) (fun U=>SimT.T W n fm st m):=⟨SimT.go⟩
section
variable {W:Wd}{fm:Fm}{α α' α₁:List Addr}{h h₁:Heap}{n:Nat}{A:Around}{ps ps':PS}{s s':Shared}
private theorem DV.start {e:PX}{v:Option Value}(x:DV h₁ h e v)(l:∀ b,h₁.get? b=none->h'.get? b=none):DV h' h e v:=by
 cases e with
 | std n=>exact x
 | toml m=>obtain ⟨t,tk,h1,h2,h3⟩:=x;exact ⟨t,tk,h1,l t h2,h3⟩
private theorem Raised.start {e:PX}{x:Value}(r:Raised W h₁ h e x)(l:∀ b,h₁.get? b=none->h'.get? b=none):Raised W h' h e x:=by
 obtain ⟨a,oe,vs,h1,h2,h3,h4,h5,h6,h7,h8,h9⟩:=r
 refine ⟨a,oe,vs,h1,h2,h3,h4,h5,l a h6,h7.start l,?_,h9⟩
 rcases h8 with q | ⟨T,oT,ts,q1,q2,q3,q4,q5,q6,q7⟩
 ·exact .inl q
 ·exact .inr ⟨T,oT,ts,q1,q2,q3,q4,q5,l T q6,q7⟩
private theorem OkE.after {r:R PV}{v:Value}(q:OkE W fm α₁ h₁ r v s')(g:Grow α α₁ h)(x:Rel fm.stk fm.tab α h h₁):OkE W fm α h r v s':=by
 obtain ⟨p,ps',α',e,I,g',x',rv⟩:=q
 exact ⟨p,ps',α',e,I,g.trans g' x,x.trans x' g.new,rv⟩
private theorem ExE.after {β:Type}{r:R β}{v:Value}(q:ExE W fm α₁ h₁ r v s')(g:Grow α α₁ h)(x:Rel fm.stk fm.tab α h h₁):ExE W fm α h r v s':=by
 obtain ⟨p,ps',α',e,I,g',x',rv⟩:=q
 exact ⟨p,ps',α',e,I,g.trans g' x,x.trans x' g.new,rv.start x.live⟩
private theorem OkS.after {r:R PFlow}{v:Flow}(q:OkS W fm α₁ h₁ r v s')(g:Grow α α₁ h)(x:Rel fm.stk fm.own α h h₁):OkS W fm α h r v s':=by
 obtain ⟨p,ps',α',e,I,g',x',rv⟩:=q
 exact ⟨p,ps',α',e,I,g.trans g' x,x.trans x' g.new,rv⟩
private theorem ExS.after {β:Type}{r:R β}{v:Value}(q:ExS W fm α₁ h₁ r v s')(g:Grow α α₁ h)(x:Rel fm.stk fm.own α h h₁):ExS W fm α h r v s':=by
 obtain ⟨p,ps',α',e,I,g',x',rv⟩:=q
 exact ⟨p,ps',α',e,I,g.trans g' x,x.trans x' g.new,rv.start x.live⟩
private theorem ExE.toS {β:Type}{r:R β}{v:Value}(q:ExE W fm α h r v s'):ExS W fm α h r v s':=by
 obtain ⟨p,ps',α',e,I,g',x',rv⟩:=q
 exact ⟨p,ps',α',e,I,g',x'.mono (fun U h=>List.mem_append_left _ h),rv⟩
private theorem InvS.tok (I:InvS W fm α ps s)(t:Nat):InvS W fm α ps { s with toks:=t }:=⟨I.inv,I.gens,I.os⟩
private theorem OkE.same {p:PV}{v:Value}{t:Nat}(I:InvS W fm α ps s)(r:W.rep fm α s.heap p v):OkE W fm α s.heap (.ok p ps) v { s with toks:=t }:=
 ⟨p,ps,α,rfl,I.tok t,.refl ..,.refl ..,r⟩
private theorem OkE.same' {p:PV}{v:Value}(I:InvS W fm α ps s)(r:W.rep fm α s.heap p v):OkE W fm α s.heap (.ok p ps) v s:=
 ⟨p,ps,α,rfl,I,.refl ..,.refl ..,r⟩
private theorem Ab {β γ:Type}{m:M β}{f:β->M γ}(h:M.bind m f ps≠.stuck):m ps≠.stuck:=by
 intro e;unfold M.bind at h;rw [e] at h;exact h rfl
private theorem Aa {β γ:Type}{m:M β}{f:β->M γ}{a:β}(e:m ps = .ok a ps'):M.bind m f ps=f a ps':=by
 unfold M.bind;rw [e]
private theorem Dl {β γ:Type}{m:M β}{f:β->M γ}{a:PX}(e:m ps = .ex a ps'):M.bind m f ps = .ex a ps':=by
 unfold M.bind;rw [e]
private theorem ExE.bind {β γ:Type}{m:M β}{f:β->M γ}{x:Value}(q:ExE W fm α h (m ps) x s'):ExE W fm α h (M.bind m f ps) x s':=by
 obtain ⟨p,o0,α₁,e,I,g,x,r⟩:=q
 exact ⟨p,o0,α₁,Dl e,I,g,x,r⟩
private theorem ExS.bind {β γ:Type}{m:M β}{f:β->M γ}{x:Value}(q:ExS W fm α h (m ps) x s'):ExS W fm α h (M.bind m f ps) x s':=by
 obtain ⟨p,o0,α₁,e,I,g,x,r⟩:=q
 exact ⟨p,o0,α₁,Dl e,I,g,x,r⟩
private theorem Aj.seq {t:Sem Value}{m:M PV}{T:Value->Shared->Prop}{E:Value->Shared->Prop}(c:Aj W fm A α ps s t m)
  (hk:∀ p v α₁ o0 c0,InvS W fm α₁ o0 c0->Grow α α₁ s.heap->Rel fm.stk fm.tab α s.heap c0.heap->W.rep fm α₁ c0.heap p v->m ps = .ok p o0->T v c0)
  (hx:∀ x c0,ExE W fm α s.heap (m ps) x c0->E x c0):wpAny W.m A t T E s:=
 wpAny_mono c (fun v c0 ⟨p,o0,α₁,e,I,g,x,r⟩=>hk p v α₁ o0 c0 I g x r e) hx
private theorem InvS.stays (C:Ctx W fm n A)(I:InvS W fm α ps s)(x:Rel fm.stk fm.tab α s.heap h₁)(g:Grow α α₁ s.heap){p:PV}{v:Value}(r:W.rep fm α s.heap p v):W.rep fm α₁ h₁ p v:=
 r.stays I.inv.lists x g.pre C.fm.frsAv C.fm.tabAv
private theorem Ad {i:Int}{k:Nat}{pos:Pos}:SimE W n fm (.Constant (.int i) k pos) (M.ret (.int i)):=.mk fun A α ps s C I ns=>
 wpAny_Constant_int (OkE.same I (.int i _))
end
section
variable {W:Wd}{fm:Fm}{α α' α₁:List Addr}{h h₁:Heap}{n:Nat}{A:Around}{ps ps':PS}{s s':Shared}{hd:Bool}
private theorem A4:big=sizeLine:=by decide
private theorem Ao (x:Txt):(txt x).length=x.length:=by simp [txt,Str.length]
private theorem Dm (x y:Txt):txt x++txt y=txt (x++y):=by
 apply Str.ext'
 simp [txt,Str.cps_append]
private theorem Bc (x:Str):txt x.cps.toList=x:=by
 apply Str.ext';simp [txt]
private theorem Hn {x y:Txt}(e:txt x=txt y):x=y:=by
 have:=congrArg (fun z=>z.cps.toList) e
 simpa [txt] using this
private theorem KZ (x y:Txt):(txt x==txt y)=(x==y):=by
 by_cases e:x=y
 ·subst e
  have:(txt x==txt x)=true:=beq_iff_eq.mpr rfl
  rw [this];simp
 ·have h1:(txt x==txt y)=false:=beq_eq_false_iff_ne.mpr fun q=>e (Hn q)
  rw [h1];simp [e]
private theorem Aj.same {t:Sem Value}{p:PV}(I:InvS W fm α ps s)(h:∀ Q:Value->Shared->Prop,∀ E,(∀ v tk,W.rep fm α s.heap p v->Q v { s with toks:=tk })->wpAny W.m A t Q E s):Aj W fm A α ps s t (M.ret p):=
 h _ _ fun v tk r=>OkE.same I r
noncomputable abbrev OpOk.T (W:Wd)(n:Nat)(fm:Fm)(t:Value->Value->Sem Value)(f:PV->PV->M PV):Prop:=∀ A α ps s a b va vb,Ctx W fm n A->InvS W fm α ps s->W.rep fm α s.heap a va->W.rep fm α s.heap b vb->f a b ps≠.stuck->Aj W fm A α ps s (t va vb) (f a b)
structure OpOk (W:Wd)(n:Nat)(fm:Fm)(t:Value->Value->Sem Value)(f:PV->PV->M PV):Prop where
 go:OpOk.T W n fm t f
noncomputable instance {W:Wd} {n:Nat} {fm:Fm} {t:Value->Value->Sem Value} {f:PV->PV->M PV}:CoeFun (OpOk W n fm t f) (fun U=>OpOk.T W n fm t f):=⟨OpOk.go⟩
private theorem Aj.orStuck {t:Sem Value}{c:Bool}{m:M PV}(ns:M.orStuck c m ps≠.stuck)(h:c=true->m ps≠.stuck->Aj W fm A α ps s t m):Aj W fm A α ps s t (M.orStuck c m):=by
 unfold M.orStuck at ns ⊢
 cases c with
 | false=>exact absurd rfl ns
 | true=>exact h rfl ns
private theorem DW {a b:Int}(h:Ai b=true):Builtin.divisionGoesByPylong a b=false:=PyProof.noPylong_small (of_decide_eq_true h)
private theorem DC {x:Int}(h:Ai x=true):Builtin.Int.intBits x<=64:=
 intBits_le (Nat.lt_trans (of_decide_eq_true h) (by decide))
private theorem LL {a b:Int}(h:(Ai a||Ai b)=true):IntMulOk a b:=by
 rcases Bool.or_eq_true_iff.mp h with q | q
 ·exact .of_left (DC q)
 ·exact .of_right (DC q)
private theorem Jw {a b:Int}{t u:Tok}(I:InvS W fm α ps s):Aj W fm A α ps s (binaryOp .Add (.int a t) (.int b u)) (M.ret (.int (a+b))):=
 .same I fun Q E h=>PySem.P.add_int (h _ _ (.int _ _))
private theorem Jx {a b:Int}{t u:Tok}(I:InvS W fm α ps s):Aj W fm A α ps s (binaryOp .Sub (.int a t) (.int b u)) (M.ret (.int (a - b))):=
 .same I fun Q E h=>PySem.P.sub_int (h _ _ (.int _ _))
private theorem Jy {a b:Int}{t u:Tok}(I:InvS W fm α ps s)(hm:(Ai a||Ai b)=true):Aj W fm A α ps s (binaryOp .Mult (.int a t) (.int b u)) (M.ret (.int (a*b))):=
 .same I fun Q E h=>PySem.P.mul_int (h _ _ (.int _ _)) (LL hm)
private theorem Jz {a b:Int}{t u:Tok}(I:InvS W fm α ps s)(hb:(b != 0&&Ai b)=true):Aj W fm A α ps s (binaryOp .FloorDiv (.int a t) (.int b u)) (M.ret (.int (a.fdiv b))):=
 have hb:=Bool.and_eq_true_iff.mp hb
 .same I fun Q E h=>floordiv_int (by simpa using hb.1) (h _ _ (.int _ _)) (.inl (DW hb.2))
private theorem JA {a b:Int}{t u:Tok}(I:InvS W fm α ps s)(hb:(b != 0&&Ai b)=true):Aj W fm A α ps s (binaryOp .Mod (.int a t) (.int b u)) (M.ret (.int (a.fmod b))):=
 have hb:=Bool.and_eq_true_iff.mp hb
 .same I fun Q E h=>mod_int' (by simpa using hb.1) (h _ _ (.int _ _))
private theorem Aj.str {t:Sem Value}{x:Txt}(I:InvS W fm α ps s)(ns:M.str x ps≠.stuck)
  (h:x.length<=sizeLine->∀ Q:Value->Shared->Prop,∀ E,(∀ tk u,Q (.str (txt x) u) { s with toks:=tk })->wpAny W.m A t Q E s):Aj W fm A α ps s t (M.str x):=by
 unfold M.str at ns
 by_cases q:x.length<=big
 ·have:M.str x ps=M.ret (.str x) ps:=by unfold M.str;rw [if_pos q];rfl
  unfold Aj
  rw [this]
  exact h (A4▸q) _ _ fun tk u=>OkE.same I (.str _ _)
 ·rw [if_neg q] at ns;exact absurd rfl ns
private theorem JB {a b:Txt}{t u:Tok}(I:InvS W fm α ps s)(ns:M.str (a++b) ps≠.stuck):Aj W fm A α ps s (binaryOp .Add (.str (txt a) t) (.str (txt b) u)) (M.str (a++b)):=
 .str I ns fun hl Q E h=>PyProof.Rows.add_str (fun t' tk=>Dm a b▸h tk t') (by rw [Ao,Ao,<- List.length_append];exact hl)
end
section
variable {W:Wd}{fm:Fm}{α α' α₁:List Addr}{h h' h₁:Heap}{n:Nat}{A:Around}{ps ps':PS}{s s':Shared}{hd:Bool}{H:Hd}{h₀:Heap}
private theorem GF {av:List Addr}(k:∀ b o,h.get? b=some o->h'.get? b=some o)(g:α <+: α') :
  (∀ {p:PV} {v:Value},RepV H h₀ av α h p v->RepV H h₀ av α' h' p v)/\∀ {l:List PV} {vs:List Value},RepL H h₀ av α h l vs->RepL H h₀ av α' h' l vs:=by
 refine CN (fun a vs ha hi=>⟨ha,?_⟩) (fun i a hi=>?_) fun a o es ep ha ho hx hd=>⟨ha,k _ _ ho⟩
 ·obtain ⟨o,e1,e2,e3⟩:=hi;exact ⟨o,k _ _ e1,e2,e3⟩
 ·obtain ⟨t,rfl⟩:=g
  rw [List.getElem?_append_left (List.getElem?_eq_some_iff.mp hi).1];exact hi
private theorem RepV.keeps {av:List Addr}(k:∀ b o,h.get? b=some o->h'.get? b=some o)(g:α <+: α'){p:PV}{v:Value}(x:RepV H h₀ av α h p v):RepV H h₀ av α' h' p v:=(GF k g).1 x
private theorem RepL.keeps {av:List Addr}(k:∀ b o,h.get? b=some o->h'.get? b=some o)(g:α <+: α'){l:List PV}{vs:List Value}(x:RepL H h₀ av α h l vs):RepL H h₀ av α' h' l vs:=(GF k g).2 x
private theorem OptRep.keeps {av:List Addr}(k:∀ b o,h.get? b=Option.some o->h'.get? b=Option.some o)(g:α <+: α'){p:Option PV}{v:Option Value}(x:OptRep H h₀ av α h p v):OptRep H h₀ av α' h' p v:=x.map fun r=>r.keeps k g
private theorem Ho {a:Addr}{vs:Array Value}(k:∀ b o,h.get? b=some o->h'.get? b=some o)(x:h.IsList a vs):h'.IsList a vs:=by
 obtain ⟨o,e1,e2,e3⟩:=x;exact ⟨o,k _ _ e1,e2,e3⟩
private theorem Inv.keeps (I:Inv H h₀ fm α ps h)(k:∀ b o,h.get? b=some o->h'.get? b=some o):Inv H h₀ fm α ps h':=by
 obtain ⟨b,⟨m,n1,n2⟩,c,⟨l1,l2,l3,l4,l5⟩,lv,fr,tb⟩:=I
 refine ⟨fun x o e=>k x o (b x o e),⟨m,n1.keeps k,fun x i hx=>(n2 x i hx).keeps k (List.prefix_refl _)⟩,fun x kk i hx hk=>?_,⟨l1,fun i l e=>?_,l3,l4,l5⟩,fun a ha=>?_,fr.of_keeps fun x o e U=>⟨o,k x o e,rfl⟩,fun P hP=>(tb P hP).keeps k⟩
 ·obtain ⟨cc,v,q1,q2,q3,q4,q5⟩:=c x kk i hx hk
  exact ⟨cc,v,q1,q2,q3,q4.keeps k,q5.keeps k (List.prefix_refl _)⟩
 ·obtain ⟨a,vs,q1,q2,q3⟩:=l2 i l e
  exact ⟨a,vs,q1,q2.at (k _),q3.keeps k (List.prefix_refl _)⟩
 ·obtain ⟨o,e⟩:=Option.isSome_iff_exists.mp (lv a ha)
  rw [k a o e];rfl
private theorem Inv.newLst (C:FmOk h₀ fm)(I:Inv H h₀ fm α ps h){l:List PV}{vs:List Value}{a:Addr}(rl:RepL H h₀ fm.av α h l vs)(k:∀ b o,h.get? b=some o->h'.get? b=some o)(ha:h.get? a=none)(hl:h'.PlainList a vs.toArray) :
  Inv H h₀ fm (α++[a]) { ps with st:=ps.st++[l] } h':=by
 obtain ⟨b,⟨m,n1,n2⟩,c,⟨l1,l2,l3,l4,l5⟩,lv,fr,tb⟩:=I.keeps k
 have pre:α <+: α++[a]:=List.prefix_append _ _
 have na:a∉α:=fun q=>by
  obtain ⟨ws,o,e,_⟩:=I.lists.isList q
  rw [ha] at e;cases e
 have kk:∀ b o,h'.get? b=some o->h'.get? b=some o:=fun U U e=>e
 refine ⟨b,⟨m,n1,fun x i hx=>(n2 x i hx).keeps kk pre⟩,fun x kd i hx hk=>?_,⟨by simp [l1],fun i l' e=>?_,?_,fun x hx=>?_,fun x hx q=>?_⟩,lv,fr,tb⟩
 ·obtain ⟨cc,v,q1,q2,q3,q4,q5⟩:=c x kd i hx hk
  exact ⟨cc,v,q1,q2,q3,q4,q5.keeps kk pre⟩
 ·by_cases hi:i<ps.st.length
  ·rw [List.getElem?_append_left hi] at e
   obtain ⟨a',ws,q1,q2,q3⟩:=l2 i l' e
   exact ⟨a',ws,by rw [List.getElem?_append_left (by rw [l1];exact hi)];exact q1,q2,q3.keeps kk pre⟩
  ·have:i=ps.st.length:=by
    have:=(List.getElem?_eq_some_iff.mp e).1
    simp at this;exact Nat.le_antisymm (Mi.la [_,_] [([2,3,0],[4,3,0])] ([2],[4]) rfl this) (Mi.la [_,_] [([2],[4])] ([2],[4]) rfl (Nat.not_lt.mp hi))
   subst this
   rw [List.getElem?_append_right (Nat.le_refl _)] at e
   simp at e
   subst e
   exact ⟨a,vs,by rw [<- l1,List.getElem?_append_right (Nat.le_refl _)];simp,hl,(rl.keeps k (List.prefix_refl _)).keeps kk pre⟩
 ·rw [List.nodup_append]
  exact ⟨l3,by simp,fun x hx y hy=>by simp at hy;subst hy;exact fun e=>na (e▸hx)⟩
 ·rcases List.mem_append.mp hx with q | q
  ·exact l4 x q
  ·simp at q;subst q
   cases e:h₀.get? x with
   | none=>rfl
   | some o=>have:=I.base x o e;rw [ha] at this;cases this
 ·rcases List.mem_append.mp hx with p | p
  ·exact l5 x p q
  ·simp at p;subst p
   have:=I.live x q
   rw [ha] at this;cases this
private theorem OkE.newLst (C:Ctx W fm n A)(I:InvS W fm α ps s){l:List PV}{vs:List Value}{a:Addr}{tk:Nat}(hb:l.length<=big)(rl:RepL W.H W.h₀ fm.av α s.heap l vs)(k:∀ b o,s.heap.get? b=some o->h'.get? b=some o)(ha:s.heap.get? a=none)(hl:h'.PlainList a vs.toArray) :
  OkE W fm α s.heap (M.newLst l ps) (.ref a) { s with heap:=h',toks:=tk }:=by
 refine ⟨.lst ps.st.length,{ ps with st:=ps.st++[l] },α++[a],by unfold M.newLst;rw [if_pos hb],⟨I.inv.newLst C.fm rl k ha hl,I.gens,I.os⟩,⟨List.prefix_append _ _,fun x hx nx=>?_⟩,.of_keeps k,.lst ?_⟩
 ·rcases List.mem_append.mp hx with q | q
  ·exact absurd q nx
  ·simp at q;subst q;exact ha
 ·rw [<- I.inv.lists.len,List.getElem?_append_right (Nat.le_refl _)];simp
private theorem CB {l:List PV}(ns:M.newLst l ps≠.stuck):l.length<=big:=by
 unfold M.newLst at ns
 by_cases q:l.length<=big
 ·exact q
 ·rw [if_neg q] at ns;exact absurd rfl ns
private theorem AQ {i:Nat}(ns:M.getLst i ps≠.stuck):∃ l,ps.st[i]? = some l/\M.getLst i ps = .ok l ps:=by
 unfold M.getLst at ns ⊢
 cases e:ps.st[i]? with
 | none=>rw [e] at ns;exact absurd rfl ns
 | some l=>exact ⟨l,rfl,rfl⟩
private theorem Aj.newLst {t:Sem Value}{l:List PV}{vs:List Value}(C:Ctx W fm n A)(I:InvS W fm α ps s)(rl:RepL W.H W.h₀ fm.av α s.heap l vs)(ns:M.newLst l ps≠.stuck)
  (h:vs.length<=sizeLine->∀ Q:Value->Shared->Prop,∀ E,Q (.ref s.heap.objs.size) { s with heap:=s.heap.push { cls:=.type "list",data:=.seq vs.toArray } }->wpAny W.m A t Q E s) :
  Aj W fm A α ps s t (M.newLst l):=by
 have hb:=CB ns
 refine h (by rw [<- rl.length];exact A4▸hb) _ _ ?_
 exact OkE.newLst (tk:=s.toks) C I hb rl (fun b o e=>Heap.get?_push_of_some _ e) (Heap.get?_none_of_le (Nat.le_refl _)) ⟨_,Heap.get?_push_size _ rfl⟩
private theorem JC {x y:List PV}{vs ws:List Value}{a b:Addr}(C:Ctx W fm n A)(I:InvS W fm α ps s)(ha:s.heap.IsList a vs.toArray)(hb:s.heap.IsList b ws.toArray)
  (rx:RepL W.H W.h₀ fm.av α s.heap x vs) (ry:RepL W.H W.h₀ fm.av α s.heap y ws) (ns:M.newLst (x++y) ps≠.stuck) :
  Aj W fm A α ps s (binaryOp .Add (.ref a) (.ref b)) (M.newLst (x++y)):=by
 refine .newLst C I (rx.append ry) ns fun hl Q E hq=>?_
 obtain ⟨⟨cls,dd,data,sl⟩,ho,hc,k,hd⟩:=id ha
 obtain ⟨⟨cls2,dd2,data2,sl2⟩,ho2,hc2,k2,hd2⟩:=id hb
 simp only at hc hd hc2 hd2
 subst hc hd hc2 hd2
 have e:vs.toArray++ws.toArray=(vs++ws).toArray:=by simp
 refine concat_meets ⟨_,ho,rfl⟩ ⟨_,ho2,rfl⟩ noFill_list_add seq_list_add PySem.F.slot_list_add PySem.F.entry_list_add (PySem.F.args_list_add_2 _ _) (list_addW a b vs.toArray ws.toArray k k2 dd dd2 sl sl2 (by simpa using hl)) ⟨ho,ho2,?_⟩
 rw [e]
 exact hq
private theorem Cm (I:InvS W fm α ps s){i:Nat}{v:Value}{l:List PV}(r:W.rep fm α s.heap (.lst i) v)(e:ps.st[i]? = some l):∃ a vs,v = .ref a/\s.heap.IsList a vs.toArray/\RepL W.H W.h₀ fm.av α s.heap l vs:=by
 obtain ⟨a,vs,h1,h2,h3⟩:=I.inv.lists.at_ i l e
 obtain ⟨b,rfl,hi⟩:=r.inv
 obtain rfl:=Option.some.inj (h1.symm.trans hi)
 exact ⟨_,_,rfl,h2.isList,h3⟩
private theorem K0 (I:InvS W fm α ps s){i:Nat}{v:Value}{l:List PV}(r:W.rep fm α s.heap (.lst i) v)(e:ps.st[i]? = some l):∃ a vs,v = .ref a/\α[i]? = some a/\s.heap.PlainList a vs.toArray/\RepL W.H W.h₀ fm.av α s.heap l vs:=by
 obtain ⟨a,vs,h1,h2,h3⟩:=I.inv.lists.at_ i l e
 obtain ⟨b,rfl,hi⟩:=r.inv
 obtain rfl:=Option.some.inj (h1.symm.trans hi)
 exact ⟨_,_,rfl,h1,h2,h3⟩
private theorem Ch {i:Nat}{l:List PV}{β:Type}{f:List PV->M β}(e:ps.st[i]? = some l):M.bind (M.getLst i) f ps=f l ps:=by
 unfold M.bind M.getLst;rw [e]
private theorem Aj.congr {t:Sem Value}{m m':M PV}(e:m ps=m' ps)(c:Aj W fm A α ps s t m'):Aj W fm A α ps s t m:=by
 unfold Aj at c ⊢;rw [e];exact c
private theorem JD {a:Txt}{k:Int}{t u:Tok}(I:InvS W fm α ps s)(hk:Ai k=true)(ns:M.str (List.replicate k.toNat a).flatten ps≠.stuck) :
  Aj W fm A α ps s (binaryOp .Mult (.str (txt a) t) (.int k u)) (M.str (List.replicate k.toNat a).flatten):=by
 refine .str I ns fun hl Q E h=>?_
 have hk:k.natAbs<1073741824:=of_decide_eq_true hk
 have hlen:(List.replicate k.toNat a).flatten.length=k.toNat*a.length:=by simp
 have key:∀ x:Str,x=txt (List.replicate k.toNat a).flatten->∀ tk v,Q (.str x v) { s with toks:=tk }:=fun x e tk v=>e▸h tk v
 refine PySem.P.mul_str ?_ (fun h1 h2=>?_) (fun h1 h2=>?_) ?_
 ·have h1:¬ k < -(2 ^ 63):=by lia
  have h2:¬ k≥2 ^ 63:=by lia
  rw [decide_eq_false h1,decide_eq_false h2];rfl
 ·have hp:0<k:=by lia
  have h3:a.length<=sizeLine:=by
   rw [hlen] at hl
   have:a.length<=k.toNat*a.length:=Nat.le_mul_of_pos_left _ (by lia)
   lia
  rw [Ao]
  have h4:(16777216:Int)<=(2 ^ 63 - 1) / k:=by
   rw [Int.le_ediv_iff_mul_le hp];lia
  have h5:sizeLine=16777216:=by decide
  lia
 ·unfold Builtin.Str.tooLong
  rw [Ao,Nat.mul_comm,<- hlen]
  exact decide_eq_false (by lia)
 ·by_cases h1:k<1
  ·rw [if_pos h1]
   have:k.toNat=0:=by lia
   exact ⟨by decide,key _ (by rw [this];rfl) _ _⟩
  ·rw [if_neg h1]
   by_cases h2:(k==1||(txt a).length==0)=true
   ·rw [if_pos h2]
    refine key _ ?_ s.toks _
    rcases Bool.or_eq_true_iff.mp h2 with q | q
    ·have:k=1:=by simpa using q
     subst this
     simp
    ·rw [Ao] at q
     have:a=[]:=List.eq_nil_of_length_eq_zero (by simpa using q)
     subst this
     congr 1
     simp
   ·rw [if_neg h2]
    have e:(⟨(List.replicate k.toNat (txt a).cps).foldl (·++·) #[]⟩:Str)=txt (List.replicate k.toNat a).flatten:=by
     apply Str.ext'
     have:∀ (n:Nat) (acc:Array Nat),((List.replicate n (txt a).cps).foldl (·++·) acc)=acc++(List.replicate n a).flatten.toArray:=by
      intro n
      induction n with
      | zero=>intro acc;simp
      | succ n ih=>intro acc;rw [List.replicate_succ,List.foldl_cons,ih];simp [txt,List.replicate_succ]
     rw [this];simp [txt]
    refine ⟨?_,key _ e _ _⟩
    rw [e,Ao];exact hl
private theorem JE {a b:Int}{t u:Tok}(I:InvS W fm α ps s)(hb:(2<=a&&a<=16&&0<=b&&b<=16)=true):Aj W fm A α ps s (binaryOp .Pow (.int a t) (.int b u)) (M.ret (.int (a ^ b.toNat))):=by
 simp only [Bool.and_eq_true,decide_eq_true_eq] at hb
 obtain ⟨⟨⟨h1,h2⟩,h3⟩,h4⟩:=hb
 refine .same I fun Q E h=>?_
 by_cases h0:b=0
 ·subst h0
  have e:a ^ Int.toNat 0=1:=by simp
  rw [e] at h
  exact AutoIntOps.pow_0 (by lia) (by decide) (h _ _ (.int _ _))
 ·refine AutoIntOps.pow_4 h3 (by simpa using h0) ?_ ?_ ?_ (h _ _ (.int _ _))
  ·simp;lia
  ·simp;lia
  ·have hs:Builtin.Int.intBits a<=64:=DC (by unfold Ai;exact decide_eq_true (by lia))
   have:((Builtin.Int.intBits a:Nat):Int)*b<=64*16:=Int.mul_le_mul (by lia) h4 h3 (by decide)
   unfold Builtin.Int.intTooBig
   simp only [decide_eq_true_eq]
   have:(1024:Int)<((bitsLine:Nat):Int):=by decide
   lia
private theorem JF {i:Nat}{x:List PV}{k:Int}{v:Value}{u:Tok}(C:Ctx W fm n A)(I:InvS W fm α ps s)(ra:W.rep fm α s.heap (.lst i) v)(ex:ps.st[i]? = some x)(hk:Ai k=true)(ns:M.newLst (List.replicate k.toNat x).flatten ps≠.stuck) :
  Aj W fm A α ps s (binaryOp .Mult v (.int k u)) (M.newLst (List.replicate k.toNat x).flatten):=by
 obtain ⟨a,vs,rfl,_,hl,rl⟩:=K0 I ra ex
 have hk:k.natAbs<1073741824:=of_decide_eq_true hk
 have rr:RepL W.H W.h₀ fm.av α s.heap (List.replicate k.toNat x).flatten (List.replicate k.toNat vs).flatten:=by
  induction k.toNat with
  | zero=>exact .nil
  | succ m ih=>rw [List.replicate_succ,List.replicate_succ,List.flatten_cons,List.flatten_cons];exact rl.append ih
 refine .newLst C I rr ns fun hl' Q E hq=>?_
 obtain ⟨kk,ho⟩:=hl
 have hz:∀ m:Nat,List.foldl (fun x1 x2:Array Value=>x1++x2) #[] (List.replicate m vs.toArray)=(List.replicate m vs).flatten.toArray:=fun m=>by
  have go:∀ (m:Nat) (acc:Array Value),List.foldl (fun x1 x2:Array Value=>x1++x2) acc (List.replicate m vs.toArray)=acc++(List.replicate m vs).flatten.toArray:=by
   intro m
   induction m with
   | zero=>intro acc;simp
   | succ m ih=>intro acc;rw [List.replicate_succ,List.foldl_cons,ih,List.replicate_succ,List.flatten_cons];simp
  rw [go];simp
 have hsz:vs.toArray.size*k.toNat<=2 ^ 24:=by
  have:(List.replicate k.toNat vs).flatten.length=k.toNat*vs.length:=by simp
  rw [this] at hl'
  rw [List.size_toArray,Nat.mul_comm]
  exact hl'
 have he:(if vs.toArray.isEmpty=true then 0 else k.toNat)=k.toNat\/vs=[]:=by
  cases vs with
  | nil=>exact .inr rfl
  | cons a r=>exact .inl rfl
 refine wpAny_binaryOp_repeat_ref (T:="list") (U:="int") (by decide) ⟨_,ho,rfl⟩ (fun s'=>typeIs_int s' k u) noFill_list_mul F.fills_int_mul F.slot_int_rmul repeat_list F.slot_int_index.lookup
  (call_meets F.slot_int_rmul (typeIs_int s k u) F.entry_int_rmul (F.args_int_rmul_2 _ _) (int___rmul___int_list k u a vs.toArray kk)
   ⟨ho,rfl,⟨_,ho,rfl⟩,call_meets F.slot_list_mul ⟨_,ho,rfl⟩ F.entry_list_mul (F.args_list_mul_2 _ _)
    (AutoListH.list___mul___list_int_3 a vs.toArray kk k u (by simp [Builtin.List.listFitsIndex];lia) (by lia) (by simp [Builtin.List.listTooLong,sizeLine] at hsz ⊢;lia))
    ⟨ho,?_⟩⟩)
 rcases he with he | rfl
 ·rw [he,hz];exact hq
 ·have e0:(List.replicate k.toNat ([]:List Value)).flatten=[]:=by simp
  rw [e0] at hq
  exact hq
private theorem Rm (op:Operator):OpOk W n fm (binaryOp op) (Ap op):=by
 refine .mk ?_
 intro A α ps s a b va vb C I ra rb ns
 cases op
 case Add=>
  have ns':Pz a b ps≠.stuck:=ns
  show Aj W fm A α ps s _ (Pz a b)
  rcases PA ns' with ⟨i,j,rfl,rfl⟩ | ⟨i,j,rfl,rfl⟩ | ⟨i,j,rfl,rfl⟩
  ·obtain ⟨_,rfl⟩:=ra.inv;obtain ⟨_,rfl⟩:=rb.inv;exact Jw I
  ·obtain ⟨_,rfl⟩:=ra.inv;obtain ⟨_,rfl⟩:=rb.inv;exact JB I ns'
  ·have ns':M.bind (M.getLst i) (fun x=>M.bind (M.getLst j) fun y=>M.newLst (x++y)) ps≠.stuck:=ns'
   obtain ⟨x,ex,e1⟩:=AQ (Ab ns')
   have e2:=Ch (f:=fun x=>M.bind (M.getLst j) fun y=>M.newLst (x++y)) ex
   rw [e2] at ns'
   obtain ⟨y,ey,e3⟩:=AQ (Ab ns')
   rw [Ch ey] at ns'
   obtain ⟨aa,vs,rfl,l1,r1⟩:=Cm I ra ex
   obtain ⟨bb,ws,rfl,l2,r2⟩:=Cm I rb ey
   exact .congr (e2.trans (Ch ey)) (JC C I l1 l2 r1 r2 ns')
 case Sub=>
  obtain ⟨i,j,rfl,rfl⟩:=Bs (show Br _ a b ps≠.stuck from ns)
  obtain ⟨_,rfl⟩:=ra.inv;obtain ⟨_,rfl⟩:=rb.inv;exact Jx I
 case Mult=>
  have ns':PB a b ps≠.stuck:=ns
  show Aj W fm A α ps s _ (PB a b)
  rcases PC ns' with ⟨i,j,rfl,rfl⟩ | ⟨i,j,rfl,rfl⟩ | ⟨i,j,rfl,rfl⟩
  ·obtain ⟨_,rfl⟩:=ra.inv;obtain ⟨_,rfl⟩:=rb.inv;exact .orStuck ns' fun hc U=>Jy I hc
  ·obtain ⟨_,rfl⟩:=ra.inv;obtain ⟨_,rfl⟩:=rb.inv;exact .orStuck ns' fun hc ns=>JD I hc ns
  ·obtain ⟨_,rfl⟩:=rb.inv
   have ns':M.bind (M.getLst i) (fun x=>M.orStuck (Ai j) (M.newLst (List.replicate j.toNat x).flatten)) ps≠.stuck:=ns'
   obtain ⟨x,ex,e1⟩:=AQ (Ab ns')
   rw [Ch ex] at ns'
   exact .congr (Ch ex) (.orStuck ns' fun hc ns=>JF C I ra ex hc ns)
 case FloorDiv=>
  obtain ⟨i,j,rfl,rfl⟩:=Bs (show Br _ a b ps≠.stuck from ns)
  obtain ⟨_,rfl⟩:=ra.inv;obtain ⟨_,rfl⟩:=rb.inv;exact .orStuck ns fun hc U=>Jz I hc
 case Mod=>
  obtain ⟨i,j,rfl,rfl⟩:=Bs (show Br _ a b ps≠.stuck from ns)
  obtain ⟨_,rfl⟩:=ra.inv;obtain ⟨_,rfl⟩:=rb.inv;exact .orStuck ns fun hc U=>JA I hc
 case Pow=>
  obtain ⟨i,j,rfl,rfl⟩:=Bs (show Br _ a b ps≠.stuck from ns)
  obtain ⟨_,rfl⟩:=ra.inv;obtain ⟨_,rfl⟩:=rb.inv;exact .orStuck ns fun hc U=>JE I hc
 all_goals exact absurd rfl ns
private theorem JG {st:List (List PV)}{av:List Addr}(L:ListsAt H h₀ av α st h)(k:Nat):(∀ (p:PV) (v:Value) (d:PyData),toD st k p=some d->RepV H h₀ av α h p v->∃ as,Reads h v d as) /\
  ∀ (l:List PV) (vs:List Value) (ds:List PyData),Em st k l=some ds->RepL H h₀ av α h l vs->∃ as,ReadsAll h vs ds as:=by
 induction k with
 | zero=>exact ⟨fun U U U e=>(by cases e),fun U U U e=>(by cases e)⟩
 | succ k ih=>
  refine ⟨fun p v d e r=>?_,fun l vs ds e r=>?_⟩
  ·cases p with
   | none=>cases (show _=_ from r.inv);cases e;exact ⟨_,.none⟩
   | bool b=>cases (show _=_ from r.inv);cases e;exact ⟨_,.bool b⟩
   | int i=>obtain ⟨_,rfl⟩:=r.inv;cases e;exact ⟨_,.int i _⟩
   | str x=>obtain ⟨_,rfl⟩:=r.inv;cases e;exact ⟨_,.str _ _⟩
   | tup l=>
    obtain ⟨_,_,rfl,ha,hi,rs⟩:=r.inv
    obtain ⟨ds,e1,rfl⟩:=Option.map_eq_some_iff.mp (show (Em st k l).map _=some _ from e)
    obtain ⟨as,q⟩:=ih.2 l _ ds e1 rs
    obtain ⟨o,o1,o2,m,o3⟩:=hi
    exact ⟨as,.tuple o1 o2 o3 (by simpa using q)⟩
   | lst i=>
    obtain ⟨_,rfl,hi⟩:=r.inv
    obtain ⟨l,q,e⟩:∃ l,st[i]? = some l/\(Em st k l).map PyData.list=some _:=by
     have e:(match st[i]? with | some l=>(Em st k l).map PyData.list | none=>none)=some _:=e
     cases q:st[i]? with
     | none=>rw [q] at e;cases e
     | some l=>rw [q] at e;exact ⟨l,rfl,e⟩
    obtain ⟨ds,e1,rfl⟩:=Option.map_eq_some_iff.mp (show (Em st k l).map _=some _ from e)
    obtain ⟨a',vs,h1,h2,h3⟩:=L.at_ i l q
    rw [hi] at h1;cases h1
    obtain ⟨as,q⟩:=ih.2 l _ ds e1 h3
    obtain ⟨o,o1,o2,m,o3⟩:=h2.isList
    exact ⟨_,.list o1 o2 o3 (by simpa using q)⟩
   | _=>cases e
  ·cases r with
   | nil=>obtain rfl:=Option.some.inj (show some []=some _ from e);exact ⟨_,.nil⟩
   | @cons p v l vs r rs=>
    have e:(match toD st k p,Em st k l with
     | some d,some ds=>some (d::ds)
     | _,_=>none)=some _:=e
    cases q:toD st k p with
    | none=>rw [q] at e;cases e
    | some d=>
     cases q':Em st k l with
     | none=>rw [q,q'] at e;cases e
     | some ds'=>
      rw [q,q'] at e;cases e
      obtain ⟨as,x⟩:=ih.1 p _ d q r
      obtain ⟨bs,y⟩:=ih.2 l _ ds' q' rs
      exact ⟨_,.cons x y⟩
private theorem DX {st:List (List PV)}{av:List Addr}(L:ListsAt H h₀ av α st h)(k:Nat)(p:PV)(v:Value)(d:PyData)(e:toD st k p=some d)(r:RepV H h₀ av α h p v):∃ as,Reads h v d as:=(JG L k).1 p v d e r
private theorem DY (x y:Txt):((txt x).cps.toList==(txt y).cps.toList)=(x==y):=by simp [txt]
private theorem Ctx.u64 (C:Ctx W fm n A):A.units+64<cLine:=by have:=C.units;lia
private theorem Nt {a b:PV}(ns:eqP a b ps≠.stuck):∃ r,eqP a b ps = .ok r ps/\(eqT a b=some r\/(eqT a b=none/\∃ x y,toD ps.st 64 a=some x/\toD ps.st 64 b=some y/\SeqAt.shaped x=true/\SeqAt.shaped y=true/\r=PyData.eqv x y)):=by
 unfold eqP at ns ⊢
 cases e:eqT a b with
 | some r=>exact ⟨r,rfl,.inl rfl⟩
 | none=>
  rw [e] at ns
  cases ex:toD ps.st 64 a with
  | none=>rw [ex] at ns;exact absurd rfl ns
  | some x=>
   cases ey:toD ps.st 64 b with
   | none=>rw [ex,ey] at ns;exact absurd rfl ns
   | some y=>
    rw [ex,ey] at ns
    by_cases q:(SeqAt.shaped x&&SeqAt.shaped y)=true
    ·have q':=Bool.and_eq_true_iff.mp q
     refine ⟨PyData.eqv x y,by simp only [q,if_true],.inr ⟨rfl,x,y,rfl,rfl,q'.1,q'.2,rfl⟩⟩
    ·simp only [q,if_false] at ns;exact absurd rfl ns
private theorem Rn {a b:PV}{va vb:Value}(C:Ctx W fm n A)(I:InvS W fm α ps s)(ra:W.rep fm α s.heap a va)(rb:W.rep fm α s.heap b vb)(ns:eqP a b ps≠.stuck)
  {Q:Value->Shared->Prop} {E:Value->Shared->Prop} (h:∀ r,eqP a b ps = .ok r ps->Q (.bool r) s):wpAny W.m A (compareOp .Eq va vb) Q E s:=by
 obtain ⟨r,e,q⟩:=Nt ns
 rcases q with q | ⟨_,x,y,ex,ey,sx,sy,rfl⟩
 ·have h:=h r e
  clear e ns
  rcases Nm q with ⟨_,_,rfl,rfl,rfl⟩ | ⟨_,_,rfl,rfl,rfl⟩ | ⟨_,_,rfl,rfl,rfl⟩ | ⟨_,_,rfl,rfl,rfl⟩
  ·obtain ⟨_,rfl⟩:=ra.inv;obtain ⟨_,rfl⟩:=rb.inv;exact PySem.P.eq_str (by rw [DY];exact h)
  ·obtain ⟨_,rfl⟩:=ra.inv;obtain ⟨_,rfl⟩:=rb.inv;exact PySem.P.eq_int h
  ·obtain ⟨_,rfl⟩:=ra.inv;obtain ⟨_,rfl⟩:=rb.inv;exact EqMixed.eq_int_str h
  ·obtain ⟨_,rfl⟩:=ra.inv;obtain ⟨_,rfl⟩:=rb.inv;exact EqMixed.eq_str_int h
 ·obtain ⟨as,x1⟩:=DX I.inv.lists _ _ _ _ ex ra
  obtain ⟨bs,x2⟩:=DX I.inv.lists _ _ _ _ ey rb
  exact SeqAt.compareEq_shaped x1 x2 sx sy C.u64 (h _ e)
private theorem Ro {a b:PV}{va vb:Value}(C:Ctx W fm n A)(I:InvS W fm α ps s)(ra:W.rep fm α s.heap a va)(rb:W.rep fm α s.heap b vb)(ns:eqP a b ps≠.stuck)
  {Q:Value->Shared->Prop} {E:Value->Shared->Prop} (h:∀ r,eqP a b ps = .ok r ps->Q (.bool (!r)) s):wpAny W.m A (compareOp .NotEq va vb) Q E s:=by
 obtain ⟨r,e,q⟩:=Nt ns
 rcases q with q | ⟨_,x,y,ex,ey,sx,sy,rfl⟩
 ·have h:=h r e
  clear e ns
  rcases Nm q with ⟨_,_,rfl,rfl,rfl⟩ | ⟨_,_,rfl,rfl,rfl⟩ | ⟨_,_,rfl,rfl,rfl⟩ | ⟨_,_,rfl,rfl,rfl⟩
  ·obtain ⟨_,rfl⟩:=ra.inv;obtain ⟨_,rfl⟩:=rb.inv;exact PySem.P.ne_str (by rw [bne,DY];exact h)
  ·obtain ⟨_,rfl⟩:=ra.inv;obtain ⟨_,rfl⟩:=rb.inv;exact PySem.P.ne_int (by rw [bne];exact h)
  ·obtain ⟨_,rfl⟩:=ra.inv;obtain ⟨_,rfl⟩:=rb.inv;exact EqMixed.ne_int_str h
  ·obtain ⟨_,rfl⟩:=ra.inv;obtain ⟨_,rfl⟩:=rb.inv;exact EqMixed.ne_str_int h
 ·obtain ⟨as,x1⟩:=DX I.inv.lists _ _ _ _ ex ra
  obtain ⟨bs,x2⟩:=DX I.inv.lists _ _ _ _ ey rb
  exact SeqAt.compareNe_shaped x1 x2 sx sy C.u64 (h _ e)
private theorem PH {a b:PV}{va vb:Value}{r:Bool}(e:eqI a b=some r)(ra:W.rep fm α s.heap a va)(rb:W.rep fm α s.heap b vb):SeqAt.EqAt A s va vb r:=by
 rcases Nn e with ⟨_,_,rfl,rfl,rfl⟩ | ⟨_,_,rfl,rfl,rfl⟩
 ·obtain ⟨_,rfl⟩:=ra.inv;obtain ⟨_,rfl⟩:=rb.inv;rw [<- KZ];exact (eqGives_str _ _ _ _).at A s
 ·obtain ⟨_,rfl⟩:=ra.inv;obtain ⟨_,rfl⟩:=rb.inv;exact (MeetsSeq.EqGives.int _ _ _ _).at A s
noncomputable def Ii:Value->Value->Bool
 | .str y _,.str x _=>y==x
 | .int y _,.int x _=>y==x
 | _,_=>false
private theorem Nu {a b:PV}{va vb:Value}{r:Bool}(e:eqI a b=some r)(ra:W.rep fm α s.heap a va)(rb:W.rep fm α s.heap b vb):Ii va vb=r:=by
 rcases Nn e with ⟨_,_,rfl,rfl,rfl⟩ | ⟨_,_,rfl,rfl,rfl⟩
 ·obtain ⟨_,rfl⟩:=ra.inv;obtain ⟨_,rfl⟩:=rb.inv;exact KZ _ _
 ·obtain ⟨_,rfl⟩:=ra.inv;obtain ⟨_,rfl⟩:=rb.inv;rfl
private theorem K5 {x:PV}{vx:Value}{l:List PV}{vs:List Value}{r:Bool}(e:inL x l=some r)(rx:W.rep fm α s.heap x vx)(rl:RepL W.H W.h₀ fm.av α s.heap l vs):(∀ y∈vs,∀ A,SeqAt.EqAt A s y vx (Ii y vx))/\vs.any (Ii · vx)=r:=by
 revert r
 refine rl.ind (P:=fun l vs=>∀ {r:Bool},inL x l=some r->(∀ y∈vs,∀ A,SeqAt.EqAt A s y vx (Ii y vx))/\vs.any (Ii · vx)=r) (fun e=>?_) fun y v l vs q qs ih r e=>?_
 ·obtain rfl:=Option.some.inj e
  exact ⟨fun U h=>(by cases h),rfl⟩
 ·have e:(match eqI y x,inL x l with
   | some a,some b=>some (a||b)
   | _,_=>none)=some r:=e
  cases e1:eqI y x with
  | none=>rw [e1] at e;cases e
  | some a=>
   cases e2:inL x l with
   | none=>rw [e1,e2] at e;cases e
   | some b=>
    rw [e1,e2] at e
    obtain rfl:=Option.some.inj e
    obtain ⟨h1,h2⟩:=ih e2
    have h3:=Nu e1 q rx
    refine ⟨fun z hz A=>?_,by rw [List.any_cons,h2,h3]⟩
    rcases List.mem_cons.mp hz with rfl | hz
    ·rw [h3];exact PH e1 q rx
    ·exact h1 z hz A
private theorem K6 (x y:Txt):(!(Builtin.Str.occurrences (txt x) (txt y) 0 (txt x).length 1).isEmpty)=Hl y x:=by
 rw [Bool.eq_iff_iff]
 rw [StrLaws.found_iff]
 unfold Hl
 simp only [List.any_eq_true,List.mem_range,Ao]
 constructor
 ·rintro ⟨i,h1,h2⟩
  refine ⟨i,by exact Mi.la [_,_,_] [([2,4,0],[6])] ([2,3,0],[6,3,0]) rfl h1,?_⟩
  rw [StrLaws.subAt_eq] at h2
  simpa [txt,Str.length] using h2
 ·rintro ⟨i,h1,h2⟩
  have h3:(x.drop i).take y.length=y:=by simpa using h2
  have h4:((x.drop i).take y.length).length=y.length:=by rw [h3]
  rw [List.length_take,List.length_drop] at h4
  refine ⟨i,by exact Mi.la [_,_,_,_,_] [([2],[4]),([4],[6]),([6,8,0],[10])] ([8,2,0],[10]) rfl (Nat.le_of_eq h4.symm) (Nat.min_le_right _ _) (Mi.lcC (Mi.la [_,_] [([2,3,0],[4,3,0])] ([2],[4]) rfl h1)),?_⟩
  rw [StrLaws.subAt_eq]
  simpa [txt,Str.length] using h2
private theorem Cn {β:Type}{o:Option β}(ns:M.ofO o ps≠.stuck):∃ a,o=some a/\M.ofO o ps = .ok a ps:=by
 unfold M.ofO at ns ⊢
 cases o with
 | none=>exact absurd rfl ns
 | some a=>exact ⟨a,rfl,rfl⟩
private theorem Ij {p:PV}{v:Value}(r:W.rep fm α h p v):plainIs v .none=true/\(v==.none)=Hm p:=by
 cases r <;> exact ⟨rfl,rfl⟩
private theorem DZ (k:Nat)(x:Txt):Ek k (txt x)=Nk k x:=by simp [Ek,txt]
private theorem Hd.At.set {H:Hd}(X:H.At h₀)(b:∀ b o,h₀.get? b=some o->h.get? b=some o)(k:Nat){a:Addr}(e:H.setv k=some a):∃ n,FrozAt (strKind H.prog H.w) h a (Ek k) n/\n<4096:=by
 obtain ⟨n,⟨es,ep,t,h1,r⟩,h2⟩:=X.sets k a e
 exact ⟨n,⟨es,ep,t,b _ _ h1,r⟩,h2⟩
private theorem Hp {prog:Program}{w:World}{a:Addr}{S:Str->Bool}{m:Nat}{x:Str}{t:Tok}{Q:Bool->Shared->Prop}{E:Value->Shared->Prop}(hS:FrozAt (strKind prog w) s.heap a S m)(hm:m<4096)
  (h:Q (S x) { s with toks:=s.toks+1 }):wpAny (model prog w) A (setContains a (.str x t)) Q E s:=by
 obtain ⟨es,ep,tt,ho,hel,hmem,hn,hf⟩:=hS
 have hkey:(strKind prog w).is x (.str x t)=true:=strKind_is prog w x t
 unfold setContains
 refine wpAny_holding ?_
 refine wpAny_bind ((strKind prog w).pyHash hkey ?_)
 refine wpAny_bind (setFind_any (s:={ s with toks:=s.toks+1 }) hkey rfl ho rfl hel hmem (by rw [hn];exact hm) hf fun r hr=>?_)
 refine wpAny_pure ?_
 rw [hr];exact h
private theorem Nv {prog:Program}{w:World}{a:Addr}{S:Str->Bool}{m:Nat}{x:Str}{t:Tok}{Q:Bool->Shared->Prop}{E:Value->Shared->Prop}(hS:FrozAt (strKind prog w) s.heap a S m)(hm:m<4096)
  (h:Q (S x) { s with toks:=s.toks+1 }):wpAny (model prog w) A (contains (.ref a) (.str x t)) Q E s:=by
 have hT:s.TypeIs (.ref a) "frozenset":=by obtain ⟨es,ep,tt,ho,_⟩:=hS;exact ⟨_,ho,rfl⟩
 unfold contains
 try with_reducible refine wpAny_holding ?_
 refine wpAny_bind (wpAny_specialOf hT FB.slot_frozenset_contains.lookup ?_)
 show wpAny _ _ (if (some (Value.builtin "frozenset.__contains__")==some Value.none)=true then _ else _) _ E s
 rw [if_neg (by rw [beq_builtin_none];exact Bool.false_ne_true)]
 refine wpAny_bind (wpAny_callSpecialUnlessNone?_slot (name:=Str.ofString "__contains__") hT FB.slot_frozenset_contains
  (wpAny_call_entry FB.slot_frozenset_contains hT FB.entry_frozenset_contains ?_ (FB.args_frozenset_contains_2 _ _)))
 unfold Builtin.«frozenset.__contains__» Builtin.Frozenset.oneOther
 simp only [List.isEmpty_nil,bind_assoc]
 unfold Builtin.Frozenset.addrOf Builtin.Frozenset.withSetAsKey
 refine wpAny_bind (wpAny_pure ?_)
 try dsimp only
 refine wpAny_bind (wpAny_pure ?_)
 try dsimp only
 refine wpAny_bind (wpAny_tryCatch ?_)
 refine Hp hS hm ?_
 show wpAny _ _ (ret (Value.bool (S x))) _ _ _
 exact wpAny_pure ⟨_,rfl,wpAny_truthy_bool h⟩
private theorem RepL.inv' {H:Hd}{h₀:Heap}{av α:List Addr}{h:Heap}{l:List PV}{v:Value}{vs:List Value}(r:RepL H h₀ av α h l (v::vs)):∃ p l',l=p::l'/\RepV H h₀ av α h p v/\RepL H h₀ av α h l' vs:=by
 cases r with
 | cons r rs=>exact ⟨_,_,rfl,r,rs⟩
private theorem RepL.nil' {H:Hd}{h₀:Heap}{av α:List Addr}{h:Heap}{l:List PV}(r:RepL H h₀ av α h l []):l=[]:=by
 cases r
 rfl
private theorem Fp {K:Type}[DecidableEq K]{prog:Program}{w:World}{knd:KeyKind prog w K}(enc:K->PV)(he:∀ a b,eqI (enc a) (enc b)=some (decide (a=b)))(hw:∀ {k:K} {v:Value},W.rep fm α h (enc k) v->knd.is k v=true)
  (hi:∀ {p:PV} {v:Value} {k:K},W.rep fm α h p v->knd.is k v=true->p=enc k) :
  ∀ {es:List DictEntry} {ks vs:List PV} {x:K} {r:Option PV},RepL W.H W.h₀ fm.av α h ks (es.map (·.key))->RepL W.H W.h₀ fm.av α h vs (es.map (·.val))->(∀ e∈es,∃ k,knd.is k e.key=true)->Cg ks vs (enc x)=some r ->
   match r with
   | none=>es.find? (fun e=>knd.is x e.key)=none
   | some p=>∃ e,es.find? (fun e=>knd.is x e.key)=some e/\W.rep fm α h p e.val:=by
 intro es
 induction es with
 | nil=>
  intro ks vs x r r1 _ _ e
  obtain rfl:=r1.nil'
  obtain rfl:=Option.some.inj e
  rfl
 | cons d es ih=>
  intro ks vs x r r1 r2 hk e
  obtain ⟨p,ks,rfl,r1,rs1⟩:=RepL.inv' (v:=d.key) (vs:=es.map (·.key)) r1
  obtain ⟨u,vs,rfl,r2,rs2⟩:=RepL.inv' (v:=d.val) (vs:=es.map (·.val)) r2
  obtain ⟨k,hk0⟩:=hk d List.mem_cons_self
  obtain rfl:p=enc k:=hi r1 hk0
  have e:(match eqI (enc k) (enc x) with
   | some true=>some (some u)
   | some false=>Cg ks vs (enc x)
   | none=>none)=some r:=e
  rw [he] at e
  by_cases q:k=x
  ·subst q
   rw [decide_eq_true rfl] at e
   obtain rfl:=Option.some.inj e
   exact ⟨d,by rw [List.find?_cons,hk0],r2⟩
  ·rw [decide_eq_false q] at e
   have:knd.is x d.key=false:=by
    cases z:knd.is x d.key with
    | false=>rfl
    | true=>exact absurd (knd.inj _ _ _ hk0 z) q
   have ih:=ih rs1 rs2 (fun e he=>hk e (List.mem_cons_of_mem _ he)) e
   rw [List.find?_cons,this]
   exact ih
private theorem RepV.atom {p:PV}{v:Value}(r:W.rep fm α h p v):(∃ a,v = .ref a)\/(∃ i t,p = .int i/\v = .int i t)\/(∃ s t,p = .str s/\v = .str (txt s) t)\/v = .none\/∃ b,v = .bool b:=by
 cases r
 ·exact .inr (.inr (.inr (.inl rfl)))
 ·exact .inr (.inr (.inr (.inr ⟨_,rfl⟩)))
 ·exact .inr (.inl ⟨_,_,rfl,rfl⟩)
 ·exact .inr (.inr (.inl ⟨_,_,rfl,rfl⟩))
 all_goals exact .inl ⟨_,rfl⟩
private theorem Fq {k:Str}{p:PV}{v:Value}(r:W.rep fm α h p v)(hk:Value.isStrOf k v=true):p = .str k.cps.toList:=by
 obtain ⟨t,e⟩:=Value.isStrOf_shape hk
 rcases RepV.atom r with ⟨_,z⟩ | ⟨_,_,_,z⟩ | ⟨s,_,rfl,z⟩ | z | ⟨_,z⟩ <;> rw [z] at e <;> injection e
 subst k
 rfl
private theorem Fr {k:Int}{p:PV}{v:Value}(r:W.rep fm α h p v)(hk:Value.isInt k v=true):p = .int k:=by
 obtain ⟨t,e⟩:=Value.isInt_shape hk
 rcases RepV.atom r with ⟨_,z⟩ | ⟨i,_,rfl,z⟩ | ⟨_,_,_,z⟩ | z | ⟨_,z⟩ <;> rw [z] at e <;> injection e
 subst k
 rfl
private theorem Fs {a:Addr}{vs:Array Value}(x:IsTup h a vs):h.IsTuple a vs:=x
private theorem K7 {K:Type}[DecidableEq K]{prog:Program}{w:World}{knd:KeyKind prog w K}{a:Addr}{o:Obj}{es:Array DictEntry}{ep:Nat}{k:K}{key:Value}{Q:Value->Shared->Prop}{E:Value->Shared->Prop}{op:CmpOp}(hop:op = .In\/op = .NotIn){r:Bool}
  (hs:(a==sysModules)=false) (ho:s.heap.get? a=some o) (hx:o.ExactDict) (hd:o.data = .dict es ep) (hk:KeysOf knd es) (hkey:knd.is k key=true) (hr:(es.toList.find? (fun e=>knd.is k e.key)).isSome=r)
  (h:Q (.bool (if op = .In then r else !r)) { s with toks:=s.toks+1 }):wpAny (model prog w) A (compareOp op key (.ref a)) Q E s:=by
 have hm:s.heap.MapOf knd a (fun k=>findBy knd.is es k):=⟨o,es,ep,ho,hx,hd,hk,fun U=>rfl⟩
 have e:(findBy knd.is es k).isSome=r:=by
  rw [<- hr];unfold findBy;rw [Option.isSome_map]
  obtain ⟨l⟩:=es
  simp
 rcases hop with rfl | rfl
 ·exact wpAny_in_of hkey hs hm (by rw [e];exact h)
 ·exact wpAny_notIn_of hkey hs hm (by rw [e];exact h)
private theorem GG {K:Type}[DecidableEq K]{prog:Program}{w:World}{knd:KeyKind prog w K}{es:Array DictEntry}(hk:KeysOf knd es):∀ e∈es.toList,∃ k,knd.is k e.key=true:=
 fun e he=>let ⟨k,h1,_⟩:=hk e (Array.mem_toList_iff.mp he);⟨k,h1⟩
private theorem Ft {ks vs:List PV}{es:Array DictEntry}{x:Txt}{r:Option PV}(hk:KeysOf (strKind W.H.prog W.H.w) es)
   (rk:RepL W.H W.h₀ fm.av α h ks (es.toList.map (·.key))) (rv:RepL W.H W.h₀ fm.av α h vs (es.toList.map (·.val))) (e:Cg ks vs (.str x)=some r) :
   match (generalizing:=false) r with
   | none=>es.toList.find? (fun e=>(strKind W.H.prog W.H.w).is (txt x) e.key)=none
   | some p=>∃ e,es.toList.find? (fun e=>(strKind W.H.prog W.H.w).is (txt x) e.key)=some e/\W.rep fm α h p e.val:=by
 refine Fp (W:=W) (fm:=fm) (α:=α) (h:=h) (knd:=strKind W.H.prog W.H.w) (fun k=>.str k.cps.toList) (fun a b=>?_) (fun {k v} r=>?_) (fun r q=>Fq r q) rk rv (GG hk) (x:=txt x) (by simpa [txt] using e)
 ·show some (a.cps.toList==b.cps.toList)=_
  rw [SeqAt.str_beq]
  by_cases q:a=b
  ·subst q;simp [beq_iff_eq.mpr rfl]
  ·rw [beq_eq_false_iff_ne.mpr q];simp [q]
 ·obtain ⟨t,e⟩:=r.inv
  rw [e,Bc]
  exact strKind_is _ _ _ _
private theorem Fu {ks vs:List PV}{es:Array DictEntry}{x:Int}{r:Option PV}(hk:KeysOf (intKind W.H.prog W.H.w) es)
   (rk:RepL W.H W.h₀ fm.av α h ks (es.toList.map (·.key))) (rv:RepL W.H W.h₀ fm.av α h vs (es.toList.map (·.val))) (e:Cg ks vs (.int x)=some r) :
   match (generalizing:=false) r with
   | none=>es.toList.find? (fun e=>(intKind W.H.prog W.H.w).is x e.key)=none
   | some p=>∃ e,es.toList.find? (fun e=>(intKind W.H.prog W.H.w).is x e.key)=some e/\W.rep fm α h p e.val:=by
 refine Fp (W:=W) (fm:=fm) (α:=α) (h:=h) (knd:=intKind W.H.prog W.H.w) (fun k=>.int k) (fun a b=>?_) (fun {k v} r=>?_) (fun r q=>Fr r q) rk rv (GG hk) e
 ·show some (a==b)=_
  congr 1
 ·obtain ⟨_,rfl⟩:=r.inv
  exact intKind_is _ _ _ _
private theorem EM {K:Type}[DecidableEq K]{knd:KeyKind W.H.prog W.H.w K}(enc:K->PV)(hs:∀ {q:PV} {v:Value} {k:K},W.rep fm α h q v->knd.is k v=true->q=enc k){ks vs:List PV}{es:Array DictEntry}{p:PV}{r:Option PV}(hk:KeysOf knd es)(rk:RepL W.H W.h₀ fm.av α h ks (es.toList.map (·.key)))(e:CA ks vs p=some r) :
  ∃ k r,eqI (enc k) p=some r:=by
 cases ks with
 | nil=>injection e
 | cons k ks=>
  cases hl:es.toList with
  | nil=>rw [hl] at rk;cases rk
  | cons d l=>
   rw [hl] at rk
   obtain ⟨_,_,ez,q,qs⟩:=rk.inv
   obtain ⟨kk,h1,_⟩:=hk d (Array.mem_toList_iff.mp (by rw [hl];exact List.mem_cons_self))
   rw [<- (List.cons.inj ez).1] at q
   obtain rfl:=hs q h1
   refine ⟨kk,?_⟩
   cases z:eqI (enc kk) p with
   | some r=>exact ⟨r,rfl⟩
   | none=>
    cases vs with
    | nil=>injection e
    | cons w vs=>
     have e:(match eqI (enc kk) p with
      | some true=>some (some w)
      | some false=>Cg ks vs p
      | none=>none)=some r:=e
     rw [z] at e;injection e
private theorem DD {ks vs:List PV}{es:Array DictEntry}{p:PV}{v:Value}{r:Option PV}(hk:KeysOf (strKind W.H.prog W.H.w) es)(rk:RepL W.H W.h₀ fm.av α h ks (es.toList.map (·.key)))(rp:W.rep fm α h p v)(e:CA ks vs p=some r) :
  ∃ x,p = .str x:=by
 obtain ⟨k,_,e⟩:=EM (fun k:Str=>.str k.cps.toList) (fun q e=>Fq q e) hk rk e
 obtain ⟨t,e,_⟩:=Option.map_eq_some_iff.mp (show (asS p).map _=_ from e)
 exact ⟨t,AN e⟩
private theorem C5 {ks vs:List PV}{es:Array DictEntry}{p:PV}{v:Value}{r:Option PV}(hk:KeysOf (intKind W.H.prog W.H.w) es)(rk:RepL W.H W.h₀ fm.av α h ks (es.toList.map (·.key)))(rp:W.rep fm α h p v)(e:CA ks vs p=some r) :
  ∃ x,p = .int x:=by
 obtain ⟨k,_,e⟩:=EM (fun k:Int=>.int k) (fun q e=>Fr q e) hk rk e
 obtain ⟨t,e,_⟩:=Option.map_eq_some_iff.mp (show (asI p).map _=_ from e)
 exact ⟨t,AE e⟩
private theorem Ik {x:PV}{y:PV}(ns:inP x y ps≠.stuck):∃ r,inP x y ps = .ok r ps:=by
 cases y with
 | str b=>obtain ⟨a,e⟩:=AF ns;rw [AN e];exact ⟨_,rfl⟩
 | fset k=>obtain ⟨a,e⟩:=AF ns;rw [AN e];exact ⟨_,rfl⟩
 | lst i=>
  obtain ⟨l,e,e'⟩:=AQ (Ab ns)
  have ns:M.bind (M.getLst i) (fun l=>M.ofO (inL x l)) ps≠.stuck:=ns
  rw [Ch e] at ns
  obtain ⟨a,_,q⟩:=Cn ns
  exact ⟨a,(Ch e).trans q⟩
 | tup l=>obtain ⟨a,_,q⟩:=Cn ns;exact ⟨a,q⟩
 | dct ks vs=>obtain ⟨a,_,q⟩:=Cn ns;exact ⟨a,q⟩
 | _=>exact absurd rfl ns
private theorem BJ {ks vs:List PV}{p:PV}{r:Option PV}(e:CA ks vs p=some r):Cg ks vs p=some r:=by
 unfold CA at e
 split at e
 ·cases e
 ·exact e
noncomputable def inR (op:CmpOp)(r:Bool):Bool:=if op = .In then r else !r
private theorem Nw {op:CmpOp}(hop:op = .In\/op = .NotIn){a b:PV}{va vb:Value}(C:Ctx W fm n A)(I:InvS W fm α ps s)(ra:W.rep fm α s.heap a va)(rb:W.rep fm α s.heap b vb){r:Bool}(e:inP a b ps = .ok r ps)
  {Q:Value->Shared->Prop} {E:Value->Shared->Prop} (h:∀ tk,Q (.bool (inR op r)) { s with toks:=tk }):wpAny W.m A (compareOp op va vb) Q E s:=by
 have h0:Q (.bool (inR op r)) s:=h s.toks
 cases b with
 | str b=>
  obtain ⟨x,ea⟩:=Nl e
  obtain rfl:=AN ea
  cases e;obtain ⟨_,rfl⟩:=ra.inv;obtain ⟨_,rfl⟩:=rb.inv
  rcases hop with rfl | rfl
  ·exact PySem.P.in_str (by rw [K6];exact h0)
  ·exact PySem.P.notIn_str (by rw [K6];exact h0)
 | fset k=>
  obtain ⟨x,ea⟩:=Nl e
  obtain rfl:=AN ea
  cases e;obtain ⟨tk,rfl⟩:=ra.inv;obtain ⟨a,rfl,hka⟩:=rb.inv
  obtain ⟨m,hS,hm⟩:=C.hd.set I.inv.base k hka
  rcases hop with rfl | rfl
  ·show wpAny _ _ (do return Value.bool (<- contains (.ref a) (.str (txt x) tk))) _ _ s
   exact wpAny_bind (Nv hS hm (wpAny_pure (by rw [DZ];exact h _)))
  ·show wpAny _ _ (do return Value.bool (!(<- contains (.ref a) (.str (txt x) tk)))) _ _ s
   exact wpAny_bind (Nv hS hm (wpAny_pure (by rw [DZ];exact h _)))
 | lst i=>
  have e:M.bind (M.getLst i) (fun l=>M.ofO (inL a l)) ps = .ok r ps:=e
  have ns:M.getLst i ps≠.stuck:=by
   intro q;unfold M.bind at e;rw [q] at e;cases e
  obtain ⟨l,el,_⟩:=AQ ns
  rw [Ch el] at e
  obtain ⟨aa,vs,rfl,hl,rl⟩:=Cm I rb el
  have:inL a l=some r:=by
   have e:M.ofO (inL a l) ps = .ok r ps:=e
   unfold M.ofO at e
   cases q:inL a l with
   | none=>rw [q] at e;cases e
   | some z=>rw [q] at e;cases e;rfl
  obtain ⟨k1,k2⟩:=K5 this ra rl
  rcases hop with rfl | rfl
  ·exact SeqAt.in_listAt _ hl (fun y hy=>k1 y (by simpa using hy) _) (by simpa [k2,inR] using h0)
  ·exact SeqAt.notIn_listAt _ hl (fun y hy=>k1 y (by simpa using hy) _) (by simpa [k2,inR] using h0)
 | tup l=>
  obtain ⟨_,_,rfl,hna,hi,rl⟩:=rb.inv
  have:inL a l=some r:=by
   have e:M.ofO (inL a l) ps = .ok r ps:=e
   unfold M.ofO at e
   cases q:inL a l with
   | none=>rw [q] at e;cases e
   | some z=>rw [q] at e;cases e;rfl
  obtain ⟨k1,k2⟩:=K5 this ra rl
  rcases hop with rfl | rfl
  ·exact SeqAt.in_tupleAt _ (Fs hi) (fun y hy=>k1 y (by simpa using hy) _) (by simpa [k2,inR] using h0)
  ·exact SeqAt.notIn_tupleAt _ (Fs hi) (fun y hy=>k1 y (by simpa using hy) _) (by simpa [k2,inR] using h0)
 | dct ks vs=>
  have:∃ z,CA ks vs a=some z/\z.isSome=r:=by
   have e:M.ofO ((CA ks vs a).map (·.isSome)) ps = .ok r ps:=e
   unfold M.ofO at e
   cases q:CA ks vs a with
   | none=>rw [q] at e;cases e
   | some z=>rw [q] at e;cases e;exact ⟨z,rfl,rfl⟩
  obtain ⟨z,ez,rfl⟩:=this
  obtain ⟨_,o,es,ep,rfl,hna,ho,hx,hd,hk,rk,rv⟩:=rb.inv
  rcases hk with hk | hk
  ·obtain ⟨x,rfl⟩:=DD hk rk ra ez
   ·obtain ⟨_,rfl⟩:=ra.inv
    refine K7 hop hna.2 ho hx hd hk (strKind_is _ _ _ _) ?_ (h _)
    have:=Ft hk rk rv (BJ ez)
    cases z with
    | none=>simp only at this;rw [this];rfl
    | some p=>obtain ⟨e,e1,_⟩:=this;rw [e1];rfl
  ·obtain ⟨x,rfl⟩:=C5 hk rk ra ez
   ·obtain ⟨_,rfl⟩:=ra.inv
    refine K7 hop hna.2 ho hx hd hk (intKind_is _ _ _ _) ?_ (h _)
    have:=Fu hk rk rv (BJ ez)
    cases z with
    | none=>simp only at this;rw [this];rfl
    | some p=>obtain ⟨e,e1,_⟩:=this;rw [e1];rfl
 | _=>injection e
private theorem En (op:CmpOp):OpOk W n fm (compareOp op) (AA op):=by
 refine .mk ?_
 intro A α ps s a b va vb C I ra rb ns
 have key:∀ {m:M Bool} {f:Bool->M PV} {r:Bool},m ps = .ok r ps->(∀ r,f r=M.ret (PV.bool (inR op r)))->∀ tk,OkE W fm α s.heap (M.bind m f ps) (.bool (inR op r)) { s with toks:=tk }:=fun e hf tk=>by
  rw [Aa e,hf];exact .same I (.bool _)
 cases op with
 | Eq=>
  have ns':M.bind (eqP a b) (fun r=>M.ret (PV.bool r)) ps≠.stuck:=ns
  exact Rn C I ra rb (Ab ns') fun r e=>by
   show OkE W fm α s.heap (M.bind (eqP a b) (fun r=>M.ret (PV.bool r)) ps) _ _
   rw [Aa e];exact .same' I (.bool _)
 | NotEq=>
  have ns':M.bind (eqP a b) (fun r=>M.ret (PV.bool !r)) ps≠.stuck:=ns
  exact Ro C I ra rb (Ab ns') fun r e=>by
   show OkE W fm α s.heap (M.bind (eqP a b) (fun r=>M.ret (PV.bool !r)) ps) _ _
   rw [Aa e];exact .same' I (.bool _)
 | In=>
  have ns':M.bind (inP a b) (fun r=>M.ret (PV.bool r)) ps≠.stuck:=ns
  obtain ⟨r,e⟩:=Ik (Ab ns')
  exact Nw (.inl rfl) C I ra rb e fun tk=>key e (fun U=>rfl) tk
 | NotIn=>
  have ns':M.bind (inP a b) (fun r=>M.ret (PV.bool !r)) ps≠.stuck:=ns
  obtain ⟨r,e⟩:=Ik (Ab ns')
  exact Nw (.inr rfl) C I ra rb e fun tk=>key e (fun U=>rfl) tk
 | Lt=>
  obtain ⟨i,j,rfl,rfl⟩:=Bs (show Br _ a b ps≠.stuck from ns)
  obtain ⟨_,rfl⟩:=ra.inv;obtain ⟨_,rfl⟩:=rb.inv
  exact PySem.P.lt_int (.same' I (.bool _))
 | LtE=>
  obtain ⟨i,j,rfl,rfl⟩:=Bs (show Br _ a b ps≠.stuck from ns)
  obtain ⟨_,rfl⟩:=ra.inv;obtain ⟨_,rfl⟩:=rb.inv
  exact PySem.P.le_int (.same' I (.bool _))
 | Gt=>
  obtain ⟨i,j,rfl,rfl⟩:=Bs (show Br _ a b ps≠.stuck from ns)
  obtain ⟨_,rfl⟩:=ra.inv;obtain ⟨_,rfl⟩:=rb.inv
  exact PySem.P.gt_int (.same' I (.bool _))
 | GtE=>
  obtain ⟨i,j,rfl,rfl⟩:=Bs (show Br _ a b ps≠.stuck from ns)
  obtain ⟨_,rfl⟩:=ra.inv;obtain ⟨_,rfl⟩:=rb.inv
  exact PySem.P.ge_int (.same' I (.bool _))
 | Is=>
  cases b <;> (try exact absurd rfl ns)
  obtain ⟨h1,h2⟩:=Ij ra
  cases (show _=_ from rb.inv)
  exact wpAny_is_plain h1 (by rw [h2];exact .same' I (.bool _))
 | IsNot=>
  cases b <;> (try exact absurd rfl ns)
  obtain ⟨h1,h2⟩:=Ij ra
  cases (show _=_ from rb.inv)
  refine wpAny_isNot_plain h1 ?_
  rw [h2]
  exact .same' I (.bool _)
private theorem E9 {x:Str}{k:Nat}{pos:Pos}:SimE W n fm (.Constant (.str x) k pos) (M.ret (.str x.cps.toList)):=.mk fun A α ps s C I ns=>
 show wpAny _ _ (mkText x) _ _ _ from wpAny_mkText (OkE.same I (by
  have:=RepV.str (H:=W.H) (h₀:=W.h₀) (av:=fm.av) (α:=α) (h:=s.heap) x.cps.toList s.toks
  rwa [Bc] at this))
private theorem C6 {b:Bool}{k:Nat}{pos:Pos}:SimE W n fm (.Constant (.bool b) k pos) (M.ret (.bool b)):=.mk fun A α ps s C I ns=>
 show wpAny _ _ (pure (Value.bool b)) _ _ _ from wpAny_pure (.same' I (.bool b))
private theorem Hq {i:Nat}(ns:M.getL i ps≠.stuck):∃ v,ps.loc i=some v/\M.getL i ps = .ok v ps:=by
 unfold M.getL at ns ⊢
 cases e:ps.loc i with
 | none=>rw [e] at ns;exact absurd rfl ns
 | some v=>exact ⟨v,rfl,rfl⟩
private theorem Fv {x:Str}{k:NameKind}{i:Nat}(C:Ctx W fm n A)(I:InvS W fm α ps s)(hm:(x,k,i)∈fm.sc)(hk:k = .local\/k = .cell\/k = .free)(hc:(x==("__classdict__":Str))=false){p:PV}(e:ps.loc i=some p)
  {Q:Value->Shared->Prop} {E:Value->Shared->Prop} (h:∀ v,W.rep fm α s.heap p v->Q v s):wpAny W.m A (loadName fm.env x) Q E s:=by
 have kd:=C.fm.kinds x k i hm
 rcases hk with rfl | hk
 ·have kd:=C.fm.kindX hm (by decide)
  obtain ⟨m,n1,n2⟩:=I.inv.loc
  have q:=n2 x i hm
  rw [e] at q
  cases hv:m x with
  | none=>rw [hv] at q;cases q
  | some v=>
   rw [hv] at q
   cases q with
   | some r=>exact wpAny_loadName_local C.fm.kind kd n1 hv (h v r)
 ·obtain ⟨c,v,h1,h2,h3,h4,h5⟩:=I.inv.cel x k i hm hk
  rw [e] at h5
  cases h5 with
  | some r=>
   rcases hk with rfl | rfl
   ·exact wpAny_loadName_cell C.fm.kind (C.fm.kindX hm (by decide)) h1 h4 (h _ r)
   ·rcases kd with kd | ⟨_,kd⟩
    ·exact wpAny_loadName_free C.fm.kind kd h1 h4 (h _ r) hc
    ·exact wpAny_loadName_cell C.fm.kind kd h1 h4 (h _ r)
private theorem Fb {x:Str}{k:NameKind}{i:Nat}{pos:Pos}(hm:(x,k,i)∈fm.sc)(hk:k = .local\/k = .cell\/k = .free)(hc:(x==("__classdict__":Str))=false)(hd:(x==("__debug__":Str))=false) :
  SimE W n fm (.Name x pos) (M.getL i):=.mk fun A α ps s C I ns=>by
 obtain ⟨p,e,e'⟩:=Hq ns
 unfold Aj
 rw [e']
 exact wpAny_Name (Fv C I hm hk hc e fun v r=>.same' I r) hd
private theorem Fw {x:Str}{i:Nat}{pos:Pos}{p:PV}{v:Value}(hm:(x,NameKind.globalImplicit,i)∈fm.sc)(hv:W.H.mg x=some v)(hr:∀ α h,W.rep fm α h p v)(hd:(x==("__debug__":Str))=false) :
  SimE W n fm (.Name x pos) (M.ret p):=.mk fun A α ps s C I ns=>
 Calls.Name_function_global C.fm.kind (C.fm.kindX hm (by decide)) (Calls.loadGlobal_global (env:=fm.env) (by rw [C.fm.glob];exact C.hd.g.keeps I.inv.base) hv (.same' I (hr _ _))) hd
private theorem Ag {l r:Expr}{op:Operator}{pos:Pos}{ml mr:M PV}(hl:SimE W n fm l ml)(hr:SimE W n fm r mr) :
  SimE W n fm (.BinOp l op r pos) (M.bind ml fun a=>M.bind mr fun b=>Ap op a b):=.mk fun A α ps s C I ns=>by
 refine wpAny_BinOp (Aj.seq (hl A α ps s C I (Ab ns)) (fun a va α₁ o0 c0 s0 d0 l0 ra u0=>?_) fun x c0 q=>q.bind)
 rw [Aa u0] at ns ⊢
 refine Aj.seq (hr A α₁ o0 c0 C s0 (Ab ns)) (fun b vb z0 X0 y0 Z0 U0 V0 rb Y0=>?_) fun x c0 q=>q.bind.after d0 l0
 rw [Aa Y0] at ns ⊢
 exact wpAny_mono (Rm op A z0 X0 y0 a b va vb C Z0 (s0.stays C V0 U0 ra) rb ns) (fun U U q=>(q.after U0 V0).after d0 l0) (fun U U q=>(q.after U0 V0).after d0 l0)
private theorem PJ {l r:Expr}{op:CmpOp}{pos:Pos}{ml mr:M PV}(hl:SimE W n fm l ml)(hr:SimE W n fm r mr)(hm:behindInMarks op r=false) :
  SimE W n fm (.Compare l [op] [r] pos) (M.bind ml fun a=>M.bind mr fun b=>AA op a b):=.mk fun A α ps s C I ns=>by
 refine wpAny_Compare1 (Aj.seq (hl A α ps s C I (Ab ns)) (fun a va α₁ o0 c0 s0 d0 l0 ra u0=>?_) fun x c0 q=>q.bind) hm
 rw [Aa u0] at ns ⊢
 refine Aj.seq (hr A α₁ o0 c0 C s0 (Ab ns)) (fun b vb z0 X0 y0 Z0 U0 V0 rb Y0=>?_) fun x c0 q=>q.bind.after d0 l0
 rw [Aa Y0] at ns ⊢
 exact wpAny_mono (En op A z0 X0 y0 a b va vb C Z0 (s0.stays C V0 U0 ra) rb ns) (fun U U q=>(q.after U0 V0).after d0 l0) (fun U U q=>(q.after U0 V0).after d0 l0)
end
inductive All2 {α β:Type}(P:α->β->Prop):List α->List β->Prop
 | nil:All2 P [] []
 | cons {a:α} {b:β} {l:List α} {l':List β} (h:P a b) (t:All2 P l l'):All2 P (a::l) (b::l')
section
variable {W:Wd}{fm:Fm}{α α' α₁:List Addr}{h h' h₁:Heap}{n:Nat}{A:Around}{ps ps':PS}{s s':Shared}{hd:Bool}{H:Hd}{h₀:Heap}
inductive OkB (W:Wd)(fm:Fm)(α:List Addr)(h:Heap)(r:R Bool)(v:Bool)(s':Shared):Prop
 | mk (ps':PS) (α':List Addr) (k1:r = .ok v ps') (k2:InvS W fm α' ps' s') (k3:Grow α α' h) (k4:Rel fm.stk fm.tab α h s'.heap):OkB W fm α h r v s'
noncomputable abbrev SimB.T (W:Wd)(n:Nat)(fm:Fm)(e:Expr)(m:M Bool):Prop:=∀ A α ps s,Ctx W fm n A->InvS W fm α ps s->m ps≠.stuck->wpAny W.m A (isTrue e fm.env (eval e fm.env)) (OkB W fm α s.heap (m ps)) (ExE W fm α s.heap (m ps)) s
structure SimB (W:Wd)(n:Nat)(fm:Fm)(e:Expr)(m:M Bool):Prop where
 go:SimB.T W n fm e m
noncomputable instance {W:Wd} {n:Nat} {fm:Fm} {e:Expr} {m:M Bool}:CoeFun (SimB W n fm e m) (fun U=>SimB.T W n fm e m):=⟨SimB.go⟩
private theorem OkB.after {r:R Bool}{v:Bool}(q:OkB W fm α₁ h₁ r v s')(g:Grow α α₁ h)(x:Rel fm.stk fm.tab α h h₁):OkB W fm α h r v s':=by
 obtain ⟨ps',α',e,I,g',x'⟩:=q
 exact ⟨ps',α',e,I,g.trans g' x,x.trans x' g.new⟩
private theorem OkB.same (I:InvS W fm α ps s){b:Bool}:OkB W fm α s.heap (.ok b ps) b s:=⟨ps,α,rfl,I,.refl ..,.refl ..⟩
noncomputable def tst (v:PV):M Bool:=M.ofO (truP v)
private theorem CP {p:PV}{v:Value}{b:Bool}(r:W.rep fm α h p v)(e:truP p=some b):v = .bool b:=by
 cases p <;> cases e
 exact r.inv
private theorem Hr {p:PV}(ns:tst p ps≠.stuck):∃ b,truP p=some b/\tst p ps = .ok b ps:=Cn ns
private theorem Eo {p:PV}{v:Value}(I:InvS W fm α ps s)(r:W.rep fm α s.heap p v)(ns:tst p ps≠.stuck){E:Value->Shared->Prop}:wpAny W.m A (truthy v) (OkB W fm α s.heap (tst p ps)) E s:=by
 obtain ⟨b,e,e'⟩:=Hr ns
 rw [e',CP r e]
 exact wpAny_truthy_bool (.same I)
private theorem Nx {l r:Expr}{op:CmpOp}{pos:Pos}{ml mr:M PV}(hl:SimE W n fm l ml)(hr:SimE W n fm r mr)(hm:behindInMarks op r=false) :
  SimB W n fm (.Compare l [op] [r] pos) (M.bind ml fun a=>M.bind mr fun b=>M.bind (AA op a b) tst):=.mk fun A α ps s C I ns=>by
 refine wpAny_isTrue_Compare1 (Aj.seq (hl A α ps s C I (Ab ns)) (fun a va α₁ o0 c0 s0 d0 l0 ra u0=>?_) fun x c0 q=>q.bind) hm
 rw [Aa u0] at ns ⊢
 refine Aj.seq (hr A α₁ o0 c0 C s0 (Ab ns)) (fun b vb z0 X0 y0 Z0 U0 V0 rb Y0=>?_) fun x c0 q=>q.bind.after d0 l0
 rw [Aa Y0] at ns ⊢
 refine Aj.seq (En op A z0 X0 y0 a b va vb C Z0 (s0.stays C V0 U0 ra) rb (Ab ns)) (fun c vc V3 u3 V1 U1 Z1 w2 rc W2=>?_) fun x c0 q=>(q.bind.after U0 V0).after d0 l0
 rw [Aa W2] at ns ⊢
 exact wpAny_mono (Eo U1 rc ns) (fun U U q=>((q.after Z1 w2).after U0 V0).after d0 l0) (fun U U q=>q)
private theorem B5 {e:Expr}{m:M PV}(he:SimE W n fm e m)(hv:∀ env whole,isTrue e env whole=(do let v <- whole;standAt e.pos;holding [v] (truthy v))):SimB W n fm e (M.bind m tst):=.mk fun A α ps s C I ns=>by
 rw [hv]
 refine wpAny_bind (Aj.seq (he A α ps s C I (Ab ns)) (fun a va α₁ o0 c0 s0 d0 l0 ra u0=>?_) fun x c0 q=>q.bind)
 rw [Aa u0] at ns ⊢
 exact wpAny_bind (wpAny_standAt (wpAny_holding (wpAny_mono (Eo s0 ra ns) (fun U U q=>q.after d0 l0) (fun U U q=>q))))
private theorem Fx {e:Expr}{pos:Pos}{m:M Bool}(he:SimB W n fm e m):SimB W n fm (.UnaryOp .Not e pos) (M.bind m fun b=>M.ret !b):=.mk fun A α ps s C I ns=>by
 rw [arm_isTrue_UnaryOp]
 refine wpAny_bind (wpAny_mono (he A α ps s C I (Ab ns)) (fun b c0 q=>?_) (fun U U q=>q.bind))
 obtain ⟨o0,α₁,u0,s0,d0,l0⟩:=q
 rw [Aa u0]
 exact wpAny_pure ⟨o0,α₁,rfl,s0,d0,l0⟩
noncomputable def Fy:BoolOp->Bool->Bool
 | .And,b=>!b
 | .Or,b=>b
noncomputable def AB (op:BoolOp):List (M Bool)->M Bool
 | []=>M.ret (op==.And)
 | m::r=>M.bind m fun b=>if Fy op b then M.ret b else AB op r
private theorem Hs {op:BoolOp}{e:Expr}{es:List Expr}{env:Env}:allTrue op (e::es) env=(do match op,<- isTrue e env (eval e env) with | .And,false=>pure false | .Or,true=>pure true | _,_=>allTrue op es env):=rfl
private theorem Ny {op:BoolOp}:∀ {es:List Expr} {ms:List (M Bool)},All2 (SimB W n fm) es ms->∀ A α ps s,Ctx W fm n A->InvS W fm α ps s->AB op ms ps≠.stuck->wpAny W.m A (allTrue op es fm.env) (OkB W fm α s.heap (AB op ms ps)) (ExE W fm α s.heap (AB op ms ps)) s:=by
 intro _ _ hS
 induction hS with
 | nil=>
  intro A α ps s C I ns
  exact wpAny_pure (.same I)
 | @cons e m es ms q qs ih=>
  intro A α ps s C I ns
  rw [Hs]
  unfold AB at ns ⊢
  refine wpAny_bind (wpAny_mono (q A α ps s C I (Ab ns)) (fun b c0 z=>?_) (fun U U z=>z.bind))
  obtain ⟨o0,α₁,u0,s0,d0,l0⟩:=z
  rw [Aa u0] at ns ⊢
  have rest:AB op ms o0≠.stuck->wpAny W.m A (allTrue op es fm.env) (OkB W fm α s.heap (AB op ms o0)) (ExE W fm α s.heap (AB op ms o0)) c0:=fun z=>
   wpAny_mono (ih A α₁ o0 c0 C s0 z) (fun U U q=>q.after d0 l0) (fun U U q=>q.after d0 l0)
  cases op <;> cases b
  ·exact wpAny_pure ⟨o0,α₁,rfl,s0,d0,l0⟩
  ·exact rest ns
  ·exact rest ns
  ·exact wpAny_pure ⟨o0,α₁,rfl,s0,d0,l0⟩
private theorem Bp {op:BoolOp}{es:List Expr}{pos:Pos}{ms:List (M Bool)}(hs:All2 (SimB W n fm) es ms):SimB W n fm (.BoolOp op es pos) (AB op ms):=.mk fun A α ps s C I ns=>by
 rw [arm_isTrue_BoolOp];exact Ny hs A α ps s C I ns
private theorem CQ {t b o:Expr}{pos:Pos}{mt:M Bool}{mb mo:M PV}(ht:SimB W n fm t mt)(hb:SimE W n fm b mb)(ho:SimE W n fm o mo):SimE W n fm (.IfExp t b o pos) (M.bind mt fun c=>if c then mb else mo):=.mk fun A α ps s C I ns=>by
 show wpAny _ _ (do if <- isTrue t fm.env (eval t fm.env) then eval b fm.env else eval o fm.env) _ _ _
 refine wpAny_bind (wpAny_mono (ht A α ps s C I (Ab ns)) (fun c c0 z=>?_) (fun U U z=>z.bind))
 obtain ⟨o0,α₁,u0,s0,d0,l0⟩:=z
 rw [Aa u0] at ns ⊢
 cases c
 ·exact wpAny_mono (ho A α₁ o0 c0 C s0 ns) (fun U U q=>q.after d0 l0) (fun U U q=>q.after d0 l0)
 ·exact wpAny_mono (hb A α₁ o0 c0 C s0 ns) (fun U U q=>q.after d0 l0) (fun U U q=>q.after d0 l0)
noncomputable def BS (op:BoolOp):List (M PV)->M PV
 | []=>M.stuck
 | [m]=>m
 | m::r=>M.bind m fun v=>M.bind (tst v) fun b=>if Fy op b then M.ret v else BS op r
private theorem Il {pos:Pos}{op:BoolOp}{x y:Sem Value}{r:List (Sem Value)}:boolOp pos op (x::y::r)=(do
  let v <- x
  standAt pos
  let t <- holding [v] (truthy v)
  match op,t with
  | .And,false | .Or,true=>pure v
  | _,_=>boolOp pos op (y::r)):=rfl
private theorem JH {op:BoolOp}{m m':M PV}{r:List (M PV)}:BS op (m::m'::r)=M.bind m fun v=>M.bind (tst v) fun b=>if Fy op b then M.ret v else BS op (m'::r):=rfl
private theorem Gj {e:Expr}{es:List Expr}{env:Env}:evalEach (e::es) env=eval e env::evalEach es env:=rfl
private theorem Gk {op:BoolOp}{pos:Pos}{es:List Expr}{ms:List (M PV)}(qs:All2 (SimE W n fm) es ms):∀ {e:Expr} {m:M PV},SimE W n fm e m->∀ A α ps s,Ctx W fm n A->InvS W fm α ps s->BS op (m::ms) ps≠.stuck->Aj W fm A α ps s (boolOp pos op (eval e fm.env::evalEach es fm.env)) (BS op (m::ms)):=by
 induction qs with
 | nil=>intro e m q A α ps s C I ns;exact q A α ps s C I ns
 | @cons e' m' es ms q' qs ih=>
  intro e m q A α ps s C I ns
  unfold Aj
  rw [JH] at ns ⊢
  rw [Gj,Il]
  refine wpAny_bind (Aj.seq (q A α ps s C I (Ab ns)) (fun v va α₁ o0 c0 s0 d0 l0 ra u0=>?_) fun x c0 q=>q.bind)
  rw [Aa u0] at ns ⊢
  refine wpAny_bind (wpAny_standAt (wpAny_bind (wpAny_holding ?_)))
  obtain ⟨b,tb,eb⟩:=Hr (Ab ns)
  rw [Aa eb] at ns ⊢
  have hv:=CP ra tb
  subst hv
  refine wpAny_truthy_bool ?_
  have rest:BS op (m'::ms) o0≠.stuck->wpAny W.m A (boolOp pos op (eval e' fm.env::evalEach es fm.env)) (OkE W fm α s.heap (BS op (m'::ms) o0)) (ExE W fm α s.heap (BS op (m'::ms) o0)) c0:=fun z=>
   wpAny_mono (ih q' A α₁ o0 c0 C s0 z) (fun U U q=>q.after d0 l0) (fun U U q=>q.after d0 l0)
  have done:OkE W fm α s.heap (M.ret v o0) (.bool b) c0:=⟨v,o0,α₁,rfl,s0,d0,l0,ra⟩
  cases op <;> cases b
  ·exact wpAny_pure done
  ·exact rest ns
  ·exact rest ns
  ·exact wpAny_pure done
private theorem LM {op:BoolOp}{es:List Expr}{pos:Pos}{ms:List (M PV)}(hs:All2 (SimE W n fm) es ms):SimE W n fm (.BoolOp op es pos) (BS op ms):=.mk fun A α ps s C I ns=>
 by cases hs with
 | nil=>exact absurd rfl ns
 | cons q qs=>exact Gk qs q A α ps s C I ns
end
section
variable {W:Wd}{fm:Fm}{α α' α₁:List Addr}{h h' h₁:Heap}{n:Nat}{A:Around}{ps ps':PS}{s s':Shared}{H:Hd}{h₀:Heap}
private theorem Av (h:Heap):h.get? h.objs.size=none:=by
 cases q:h.get? h.objs.size with
 | none=>rfl
 | some o=>exact absurd (Heap.lt_size q) (Nat.lt_irrefl _)
private theorem Ep {e:Addr}{cls:String}{tk:Nat}(I:InvS W fm α ps s)(x:Heap.NewExc s.heap h' e cls){β:Type}(hc:cls≠"code":=by decide):ExE W fm α s.heap (.ex (.std cls) ps:R β) (.ref e) { s with heap:=h',toks:=tk }:=by
 obtain ⟨ob,t,h1,h2,h3⟩:=x.there
 refine ⟨.std cls,ps,α,rfl,⟨I.inv.keeps x.keeps,I.gens,I.os⟩,.refl ..,.of_keeps x.keeps,e,ob,_,rfl,h1,h2,h3,by simp,x.new,hc,.inl rfl,rfl⟩
private theorem Er {β:Type}{hd:Bool}{nm:String}(ns:(M.raiseB hd nm:M β) ps≠.stuck):hd=false/\(M.raiseB hd nm:M β) ps = .ex (.std nm) ps:=by
 unfold M.raiseB at ns ⊢
 cases hd
 ·exact ⟨rfl,rfl⟩
 ·exact absurd rfl ns
private theorem Af {β:Type}{c:Bool}{m:M β}(ns:M.orStuck c m ps≠.stuck):c=true/\M.orStuck c m ps=m ps:=by
 unfold M.orStuck at ns ⊢
 cases c
 ·exact absurd rfl ns
 ·exact ⟨rfl,rfl⟩
private theorem Ht (i:Int)(n:Nat):seqIndex? i n=idx i n:=by
 unfold seqIndex? idx
 by_cases h0:0<=i
 ·have:¬ i<0:=by lia
  simp only [this,if_false,h0,if_true,decide_true,Bool.true_and]
  by_cases h1:i.toNat<n
  ·have:i<n:=by lia
   simp [h1,this]
  ·have:¬ i<n:=by lia
   simp [h1,this]
 ·have:i<0:=by lia
  simp only [this,if_true,h0,if_false]
  by_cases h1:0<=i+n
  ·have:i+n<n:=by lia
   simp [h1,this]
  ·simp [h1]
private theorem Rp {i:Int}{n j:Nat}(h:idx i n=some j):j<n:=by
 unfold idx at h
 split at h <;> split at h <;> cases h <;> lia
private theorem Fz {i:Int}(h:Ai i=true):-(2 ^ 63:Int)<=i/\i<2 ^ 63:=by
 unfold Ai at h
 rw [decide_eq_true_eq] at h
 have:((2:Int) ^ 63)=9223372036854775808:=by decide
 omega
private theorem GH {i:Int}(h:Ai i=true):(decide (i < -(2 ^ 63:Int))||decide (i≥2 ^ 63))=false:=by
 have:=Fz h
 simp only [Bool.or_eq_false_iff,decide_eq_false_iff_not]
 lia
private theorem D0 {value slice:Expr}{o i:Value}{T id:String}{m:M PV}(hT:s.TypeIs o T)(hl:typeLookup (.type T) "__getitem__" = pure (some (.builtin id)))(hs:∀ o i,∃ ops,subscripted slice false o i=operate ops (getItem o i))
  (g:Aj W fm A α ps s (getItem o i) m):Aj W fm A α ps s (subscriptTail value slice o i) m:=by
 obtain ⟨ops,e⟩:=hs o i
 exact tail_any hT hl g e
private theorem Hu:Slot "mappingproxy" "__getitem__" "mappingproxy.__getitem__":=
 .of (owner:="mappingproxy") (n:="__getitem__") (by rw [typeLookup_type,builtinLookup_eq_fast];kernel_rfl) (by decide +kernel) (by decide +kernel) (by decide +kernel)
  (by first | exact .inl (by decide +kernel) | exact .inr (by decide +kernel)) (by rw [isSubtype_type];kernel_rfl)
private theorem Nz:entryFor table "mappingproxy.__getitem__" = some Builtin.«mappingproxy.__getitem__»:=entryFor_of_tree (by kernel_rfl)
private theorem LN (hd:Bool)(x:Txt)(i:Int):Ax hd (.str x) (.int i)=M.orStuck (Ai i) (match idx i x.length with
  | some j=>M.ret (.str [x.getD j 0])
  | none=>M.raiseB hd "IndexError"):=rfl
private theorem GI (hd:Bool)(k:Nat)(i:Int):Ax hd (.lst k) (.int i)=M.orStuck (Ai i) (M.bind (M.getLst k) fun l=>M.ofO ((idx i l.length).bind (l[·]?))):=rfl
private theorem LO (hd:Bool)(l:List PV)(i:Int):Ax hd (.tup l) (.int i)=M.orStuck (Ai i) (M.ofO ((idx i l.length).bind (l[·]?))):=rfl
private theorem LP (hd:Bool)(ks vs:List PV)(x:PV):Ax hd (.dct ks vs) x=M.ofO ((CA ks vs x).bind id):=rfl
private theorem NA (hd:Bool)(x:Txt):Ax hd .mp (.str x)=match escT x with
  | some t=>M.ret (.str t)
  | none=>M.raiseB hd "KeyError":=rfl
private theorem NB {x:Txt}{i:Int}{t u:Tok}(hA:A.handled=fm.hdl)(I:InvS W fm α ps s)(ns:Ax fm.hdl.isSome (.str x) (.int i) ps≠.stuck) :
  Aj W fm A α ps s (getItem (.str (txt x) t) (.int i u)) (Ax fm.hdl.isSome (.str x) (.int i)):=by
 rw [LN] at ns ⊢
 obtain ⟨hs,e⟩:=Af ns
 rw [e] at ns
 refine Aj.congr e ?_
 cases q:idx i x.length with
 | some j=>
  have lt:=Rp q
  refine PySem.P.getItem_str (c:=x.getD j 0) (GH hs) ?_ ?_
  ·rw [Ht,Ao,q]
   show (txt x).cps[j]? = _
   simp [txt,lt]
  ·exact OkE.same I (.str [x.getD j 0] _)
 | none=>
  simp only [q] at ns
  obtain ⟨h1,h2⟩:=Er ns
  have hh:A.handled=none:=by rw [hA];exact Option.isNone_iff_eq_none.mp (by cases hq:fm.hdl <;> simp_all)
  refine Aj.congr (m':=fun ps=>.ex (.std "IndexError") ps) h2 ?_
  exact getItem_meets (typeIs_str s (txt x) t) (by decide) F.slot_str_getitem F.entry_str_getitem (F.args_str_getitem_2 _ (.int i u))
   (raises_str_getitem (txt x) i t u (GH hs) (by rw [Ht,Ao,q];rfl)) ⟨hh,fun h' tk e x=>Ep I x⟩
set_option tactic.hygienic true in
private theorem NC {v:Value}{k:Nat}{i:Int}{u:Tok}(I:InvS W fm α ps s)(r:W.rep fm α s.heap (.lst k) v)(ns:Ax fm.hdl.isSome (.lst k) (.int i) ps≠.stuck) :
  Aj W fm A α ps s (getItem v (.int i u)) (Ax fm.hdl.isSome (.lst k) (.int i)):=by
 rw [GI] at ns ⊢
 obtain ⟨hs,e⟩:=Af ns
 rw [e] at ns
 refine Aj.congr e ?_
 obtain ⟨l,e1,e2⟩:=AQ (Ab ns)
 rw [Aa e2] at ns
 refine Aj.congr (Aa e2) ?_
 obtain ⟨p,e3,e4⟩:=Cn ns
 obtain ⟨a,vs,rfl,hl,rl⟩:=Cm I r e1
 refine Aj.congr (m':=M.ret p) e4 ?_
 cases q:idx i l.length with
 | none=>rw [q] at e3;cases e3
 | some j=>
  rw [q] at e3
  obtain ⟨v,hv,rv⟩:=rl.get j p e3
  have len:=rl.length
  have b:=Fz hs
  unfold idx at q
  by_cases h0:0<=i
  ·rw [if_pos h0] at q
   split at q <;> cases q
   exact wpAny_getItem_list hl h0 b.2 (by simpa using hv) (OkE.same' I rv)
  ·rw [if_neg h0] at q
   split at q <;> cases q
   rename_i h1
   refine wpAny_getItem_list_neg hl (by lia) (by rw [List.size_toArray,<- len];lia) b.1 ?_ (OkE.same' I rv)
   rw [List.size_toArray,<- len]
   simpa using hv
private theorem ND {v:Value}{l:List PV}{i:Int}{u:Tok}(I:InvS W fm α ps s)(r:W.rep fm α s.heap (.tup l) v)(ns:Ax fm.hdl.isSome (.tup l) (.int i) ps≠.stuck) :
  Aj W fm A α ps s (getItem v (.int i u)) (Ax fm.hdl.isSome (.tup l) (.int i)):=by
 rw [LO] at ns ⊢
 obtain ⟨hs,e⟩:=Af ns
 rw [e] at ns
 refine Aj.congr e ?_
 obtain ⟨p,e3,e4⟩:=Cn ns
 refine Aj.congr (m':=M.ret p) e4 ?_
 obtain ⟨a,vs,rfl,ha,hi,rl⟩:=r.inv
 ·cases q:idx i l.length with
  | none=>rw [q] at e3;cases e3
  | some j=>
   rw [q] at e3
   obtain ⟨v,hv,rv⟩:=rl.get j p e3
   have b:=Fz hs
   exact getItem_tuple (j:=j) hi b.1 b.2 (by rw [List.size_toArray,<- rl.length,Ht];exact q) (by simpa using hv) (OkE.same' I rv)
private theorem NE {v vx:Value}{ks vs:List PV}{x:PV}(I:InvS W fm α ps s)(r:W.rep fm α s.heap (.dct ks vs) v)(rx:W.rep fm α s.heap x vx)(ns:Ax fm.hdl.isSome (.dct ks vs) x ps≠.stuck) :
  Aj W fm A α ps s (getItem v vx) (Ax fm.hdl.isSome (.dct ks vs) x):=by
 rw [LP] at ns ⊢
 obtain ⟨p,e3,e4⟩:=Cn ns
 refine Aj.congr (m':=M.ret p) e4 ?_
 have e6:CA ks vs x=some (some p):=by
  cases q:CA ks vs x with
  | none=>rw [q] at e3;cases e3
  | some r=>rw [q] at e3;exact congrArg some e3
 obtain ⟨a,o,es,ep,rfl,ha,ho,hx,hd,hk,rk,rv⟩:=r.inv
 rcases hk with hk | hk
 ·obtain ⟨y,rfl⟩:=DD hk rk rx e6
  obtain ⟨_,rfl⟩:=rx.inv
  obtain ⟨d,f1,f2⟩:=Ft hk rk rv (BJ e6)
  have hm:s.heap.MapOf (strKind W.H.prog W.H.w) _ (fun k=>findBy (strKind W.H.prog W.H.w).is _ k):=⟨_,_,_,ho,hx,hd,hk,fun U=>rfl⟩
  refine wpAny_getItem_of (strKind_is _ _ _ _) hm (v:=d.val) ?_ (OkE.same I f2)
  unfold findBy
  obtain ⟨l⟩:=es
  simp only at f1
  simp [f1]
 ·obtain ⟨y,rfl⟩:=C5 hk rk rx e6
  obtain ⟨_,rfl⟩:=rx.inv
  obtain ⟨d,f1,f2⟩:=Fu hk rk rv (BJ e6)
  have hm:s.heap.MapOf (intKind W.H.prog W.H.w) _ (fun k=>findBy (intKind W.H.prog W.H.w).is _ k):=⟨_,_,_,ho,hx,hd,hk,fun U=>rfl⟩
  refine wpAny_getItem_of (intKind_is _ _ _ _) hm (v:=d.val) ?_ (OkE.same I f2)
  unfold findBy
  obtain ⟨l⟩:=es
  simp only at f1
  simp [f1]
private theorem PK {v:Value}{x:Txt}{u:Tok}(C:Ctx W fm n A)(I:InvS W fm α ps s)(r:W.rep fm α s.heap .mp v)(ns:Ax fm.hdl.isSome .mp (.str x) ps≠.stuck) :
  Aj W fm A α ps s (getItem v (.str (txt x) u)) (Ax fm.hdl.isSome .mp (.str x)):=by
 rw [NA] at ns ⊢
 obtain rfl:_=_:=r.inv
 obtain ⟨o,d,f,ho,hc,hd,hlo,hm,hf⟩:=C.hd.mp
 have ho:=I.inv.base _ _ ho
 have hm:s.heap.MapOf (strKind W.H.prog W.H.w) d f:=by
  obtain ⟨o',es,ep,q1,q2⟩:=hm
  exact ⟨o',es,ep,I.inv.base _ _ q1,q2⟩
 have hT:s.TypeIs (.ref W.H.mpv) "mappingproxy":=⟨o,ho,hc⟩
 have go:∀ {Q:Value->Shared->Prop} {E:Value->Shared->Prop},wpAny W.m A.in1 (getItem (.ref d) (.str (txt x) u)) Q E s->wpAny W.m A (getItem (.ref W.H.mpv) (.str (txt x) u)) Q E s:=fun {Q E} h=>
  wpAny_getItem_slot hT (by decide) Hu (wpAny_call_entry Hu hT Nz (by
   show wpAny _ _ (do let m <- field (.ref W.H.mpv) 0;let v <- getItem m (.str (txt x) u);ret v) _ _ _
   exact wpAny_bind (wpAny_field ho hd rfl (wpAny_bind (wpAny_mono h (fun v s' q=>wpAny_pure ⟨v,rfl,q⟩) fun U U q=>q)))) (by unfold argsOk;kernel_rfl))
 cases q:escT x with
 | some t=>
  obtain ⟨tk,e⟩:=(hf x).2 t q
  exact go (wpAny_getItem_of (strKind_is _ _ _ _) hm e (OkE.same I (.str t tk)))
 | none=>
  simp only [q] at ns
  obtain ⟨h1,h2⟩:=Er ns
  have hh:A.in1.handled=none:=by
   show A.handled=none
   rw [C.hdl];exact Option.isNone_iff_eq_none.mp (by cases hq:fm.hdl <;> simp_all)
  refine Aj.congr (m':=fun ps=>.ex (.std "KeyError") ps) h2 ?_
  exact go (wpAny_getItem_missing_of (strKind_is _ _ _ _) hlo hh hm ((hf x).1 q) fun h' e x=>Ep I x)
private theorem PL {a b:PV}{va vb:Value}{value slice:Expr}(C:Ctx W fm n A)(I:InvS W fm α ps s)(ra:W.rep fm α s.heap a va)(rb:W.rep fm α s.heap b vb)(hs:∀ o i,∃ ops,subscripted slice false o i=operate ops (getItem o i))
  (ns:Ax fm.hdl.isSome a b ps≠.stuck):Aj W fm A α ps s (subscriptTail value slice va vb) (Ax fm.hdl.isSome a b):=by
 cases a with
 | str x=>
  obtain ⟨i,eb⟩:=AF ns
  obtain rfl:=AE eb
  obtain ⟨_,rfl⟩:=ra.inv;obtain ⟨_,rfl⟩:=rb.inv
  exact D0 (T:="str") rfl F.slot_str_getitem.lookup hs (NB C.hdl I ns)
 | lst k=>
  obtain ⟨i,eb⟩:=AF ns
  obtain rfl:=AE eb
  obtain ⟨_,rfl⟩:=rb.inv
  have ns':=ns
  rw [GI] at ns'
  obtain ⟨hq,e⟩:=Af ns'
  rw [e] at ns'
  obtain ⟨l,e1,e2⟩:=AQ (Ab ns')
  obtain ⟨a,vs,rfl,hl,rl⟩:=Cm I ra e1
  exact D0 hl.typeIs slot_list_getitem.lookup hs (NC I ra ns)
 | tup l=>
  obtain ⟨i,eb⟩:=AF ns
  obtain rfl:=AE eb
  obtain ⟨_,rfl⟩:=rb.inv
  have g:=fun (u:Tok)=>ND (A:=A) (u:=u) I ra ns
  obtain ⟨_,_,rfl,ha,hi,rl⟩:=ra.inv
  exact D0 hi.typeIs slot_tuple_getitem.lookup hs (g _)
 | dct ks vs=>
  have g:=NE (A:=A) I ra rb ns
  obtain ⟨_,o,es,ep,rfl,hna,ho,hx,_⟩:=ra.inv
  exact D0 ⟨_,ho,hx.1⟩ slot_dict_getitem.lookup hs g
 | mp=>
  obtain ⟨x,eb⟩:=AF ns
  obtain rfl:=AN eb
  obtain ⟨_,rfl⟩:=rb.inv
  have g:=fun (u:Tok)=>PK (u:=u) C I ra ns
  obtain rfl:_=_:=ra.inv
  obtain ⟨o,d,f,ho,hc,_⟩:=C.hd.mp
  exact D0 ⟨o,I.inv.base _ _ ho,hc⟩ Hu.lookup hs (g _)
 | _=>exact absurd rfl ns
private theorem NF {e i:Expr}{pos:Pos}{me mi:M PV}{hd:Bool}(hh:fm.hdl.isSome=hd)(he:SimE W n fm e me)(hi:SimE W n fm i mi)(hs:∀ o v,∃ ops,subscripted i false o v=operate ops (getItem o v)) :
  SimE W n fm (.Subscript e i pos) (M.bind me fun a=>M.bind mi fun b=>Ax hd a b):=.mk fun A α ps s C I ns=>by
 subst hh
 refine Subscript_ (Aj.seq (he A α ps s C I (Ab ns)) (fun a va α₁ o0 c0 s0 d0 l0 ra u0=>?_) fun x c0 q=>q.bind)
 rw [Aa u0] at ns ⊢
 refine Aj.seq (hi A α₁ o0 c0 C s0 (Ab ns)) (fun b vb z0 X0 y0 Z0 U0 V0 rb Y0=>?_) fun x c0 q=>q.bind.after d0 l0
 rw [Aa Y0] at ns ⊢
 exact wpAny_mono (PL C Z0 (s0.stays C V0 U0 ra) rb hs ns) (fun U U q=>(q.after U0 V0).after d0 l0) (fun U U q=>(q.after U0 V0).after d0 l0)
private theorem FA {β:Type}(l:List β)(lo hi:Nat)(hh:hi<=l.length):((List.range (hi - lo)).map (fun k=>lo+k)).filterMap (l[·]?)=(l.take hi).drop lo:=by
 rw [List.filterMap_map]
 apply List.ext_getElem?
 intro i
 have e:(List.range (hi - lo)).filterMap ((fun x=>l[x]?)∘fun k=>lo+k)=(l.take hi).drop lo:=by
  generalize hd:hi - lo=d
  induction d generalizing hi with
  | zero=>
   rw [List.drop_of_length_le (by rw [List.length_take];exact Mi.la [_,_,_,_] [([2],[1]),([4],[6]),([6],[2,8,0])] ([4],[8]) rfl (Nat.le_of_eq hd) (Nat.min_le_left _ _) (Mi.lcS _ _))];rfl
  | succ d ih=>
   obtain ⟨k,rfl⟩:∃ k,hi=k+1:=⟨hi - 1,by omega⟩
   have e1:=ih k (by exact Mi.la [_,_] [([2,3,0],[4])] ([2],[4]) rfl hh) (by omega)
   have lt:k<l.length:=by exact Mi.la [_,_] [([2,3,0],[4])] ([2,3,0],[4]) rfl hh
   have e2:l.take (k+1)=l.take k++[l[k]]:=by
    rw [List.take_add_one,List.getElem?_eq_getElem lt];rfl
   rw [List.range_succ,List.filterMap_append,e1,e2,List.drop_append_of_le_length (by rw [List.length_take];omega)]
   congr 1
   have:lo+d=k:=by omega
   simp [this,List.getElem?_eq_getElem lt]
 rw [e]
private theorem Im (i:Int)(n:Nat):max 0 (min (if i<0 then i+n else i) n)=(bnd i n:Int):=by
 have max0:∀ m:Nat,max 0 (min (m:Int) n)=((min m n:Nat):Int):=fun m=>by lia
 unfold bnd
 by_cases h:0<=i
 ·rw [if_neg (Int.not_lt.mpr h),if_pos h]
  obtain ⟨m,rfl⟩:=Int.eq_ofNat_of_zero_le h
  exact max0 m
 ·have lt:=Int.not_le.mp h
  rw [if_pos lt,if_neg h]
  by_cases g:0<=i+n
  ·obtain ⟨m,e⟩:=Int.eq_ofNat_of_zero_le g
   have le:m<=n:=by lia
   rw [e]
   exact (max0 m).trans (congrArg Nat.cast (Nat.min_eq_left le))
  ·have g:=Int.le_of_lt (Int.not_le.mp g)
   rw [Int.toNat_of_nonpos g]
   exact Int.max_eq_left (Int.le_trans (Int.min_le_left ..) g)
private theorem bnd_le (i:Int)(n:Nat):bnd i n<=n:=by
 unfold bnd;split <;> lia
private theorem EN (lo hi:Nat):sliceRange (lo:Int) (hi:Int) 1=(List.range (hi - lo)).map (fun k=>lo+k):=by
 unfold sliceRange
 simp only [show (1:Int)>0 by decide,if_true]
 by_cases q:lo<hi
 ·rw [if_pos (by lia)]
  have:(((hi:Int) - lo+1 - 1) / 1).toNat=hi - lo:=by rw [Int.ediv_one];lia
  rw [this]
  refine List.map_congr_left fun k U=>?_
  lia
 ·rw [if_neg (by lia),show hi - lo=0 by lia];rfl
noncomputable def loB (a:Option Int)(n:Nat):Nat:=match a with | some i=>bnd i n | none=>0
noncomputable def hiB (b:Option Int)(n:Nat):Nat:=match b with | some i=>bnd i n | none=>n
private theorem JI (b:Option Int)(n:Nat):hiB b n<=n:=by cases b <;> simp [hiB,bnd_le]
private theorem FD {β:Type}(l:List β)(a b:Option Int):slc l a b=(l.take (hiB b l.length)).drop (loB a l.length):=rfl
private theorem NG (a b:Option Int)(n:Nat):Builtin.Str.strSliceIndices a b 1 n=(List.range (hiB b n - loB a n)).map (fun k=>loB a n+k):=by
 rw [<- EN]
 unfold Builtin.Str.strSliceIndices
 cases a <;> cases b <;> simp only [show (1:Int)>0 by decide,if_true,loB,hiB,Im] <;> rfl
private theorem Rq (a b:Option Int)(n:Nat):sliceRange (sliceBounds a b none n).1 (sliceBounds a b none n).2.1 (sliceBounds a b none n).2.2=(List.range (hiB b n - loB a n)).map (fun k=>loB a n+k):=by
 rw [<- EN]
 unfold sliceBounds
 cases a <;> cases b <;> simp only [Option.getD_none,show (1:Int)>0 by decide,if_true,loB,hiB,Im] <;> rfl
set_option tactic.hygienic true in
private theorem LQ (x:Txt)(a b:Option Int):(if ((1:Int)==1&&(Builtin.Str.strSliceIndices a b 1 (txt x).length).length==(txt x).length)=true then txt x else ⟨((Builtin.Str.strSliceIndices a b 1 (txt x).length).filterMap ((txt x).cps[·]?)).toArray⟩)=txt (slc x a b):=by
 have e:((Builtin.Str.strSliceIndices a b 1 (txt x).length).filterMap ((txt x).cps[·]?))=slc x a b:=by
  rw [NG,FD,Ao]
  have:=FA x (loB a x.length) (hiB b x.length) (JI _ _)
  rw [<- this]
  refine congrFun (congrArg _ (funext fun k=>?_)) _
  simp [txt]
 split
 ·rename_i q
  simp only [Bool.and_eq_true,beq_iff_eq] at q
  obtain ⟨_,q⟩:=q
  rw [NG,List.length_map,List.length_range,Ao] at q
  have h1:=JI b x.length
  have:slc x a b=x:=by
   rw [FD]
   have e1:hiB b x.length=x.length:=by exact Nat.le_antisymm (Mi.la [_,_] [([2],[4])] ([2],[4]) rfl h1) (Mi.la [_,_,_] [([2],[4]),([4],[6])] ([2],[6]) rfl (Nat.le_of_eq q.symm) (Nat.sub_le _ _))
   have e2:loB a x.length=0\/x.length=0:=by lia
   rw [e1,List.take_length]
   rcases e2 with e2 | e2
   ·rw [e2];rfl
   ·rw [List.length_eq_zero_iff.mp e2];simp
  rw [this]
 ·rw [e];rfl
private theorem NH (vs:List Value)(a b:Option Int):(slicePick vs.toArray a b none).toList=slc vs a b:=by
 unfold slicePick
 rw [List.toList_toArray,Rq,List.size_toArray,FD]
 have:=FA vs (loB a vs.length) (hiB b vs.length) (JI _ _)
 rw [<- this]
 refine congrFun (congrArg _ (funext fun k=>?_)) _
 simp
private theorem RepL.take {av:List Addr}{l:List PV}{vs:List Value}(k:Nat)(r:RepL H h₀ av α h l vs):RepL H h₀ av α h (l.take k) (vs.take k):=by
 revert k
 refine r.ind (P:=fun l vs=>∀ k,RepL H h₀ av α h (l.take k) (vs.take k)) (fun k=>by rw [List.take_nil,List.take_nil];exact .nil) fun p v l vs q U ih k=>?_
 cases k with
 | zero=>exact .nil
 | succ k=>exact .cons q (ih k)
private theorem RepL.drop {av:List Addr}{l:List PV}{vs:List Value}(k:Nat)(r:RepL H h₀ av α h l vs):RepL H h₀ av α h (l.drop k) (vs.drop k):=by
 revert k
 refine r.ind (P:=fun l vs=>∀ k,RepL H h₀ av α h (l.drop k) (vs.drop k)) (fun k=>by rw [List.drop_nil,List.drop_nil];exact .nil) fun p v l vs q qs ih k=>?_
 cases k with
 | zero=>exact .cons q qs
 | succ k=>exact ih k
private theorem RepL.slc {av:List Addr}{l:List PV}{vs:List Value}(a b:Option Int)(r:RepL H h₀ av α h l vs):RepL H h₀ av α h (slc l a b) (slc vs a b):=by
 rw [FD,FD,<- r.length];exact (r.take _).drop _
inductive SimO (W:Wd)(n:Nat)(fm:Fm):Option Expr->Option (M PV)->Prop
 | none:SimO W n fm none none
 | some {e:Expr} {m:M PV} (x:SimE W n fm e m):SimO W n fm (some e) (some m)
noncomputable def OkP (W:Wd)(fm:Fm)(α:List Addr)(h:Heap)(r:R (Option Int))(v:Value)(s':Shared):Prop:=
 ∃ a ps' α',r = .ok a ps'/\InvS W fm α' ps' s'/\Grow α α' h/\Rel fm.stk fm.tab α h s'.heap/\∃ p:Option (Int × Tok),v=partValue p/\p.map (·.1)=a
set_option tactic.hygienic true in
private theorem K8 {oe:Option Expr}{om:Option (M PV)}(q:SimO W n fm oe om)(C:Ctx W fm n A)(I:InvS W fm α ps s)(ns:AP om ps≠.stuck) :
  wpAny W.m A (evalPart oe fm.env) (OkP W fm α s.heap (AP om ps)) (ExE W fm α s.heap (AP om ps)) s:=by
 cases q with
 | none=>exact wpAny_pure ⟨none,ps,α,rfl,I,.refl ..,.refl ..,none,rfl,rfl⟩
 | @some e m x=>
  rw [evalPart_some]
  have ns':M.bind m (fun v=>match v with
   | .int i=>M.ret (some i)
   | _=>M.stuck) ps≠.stuck:=ns
  refine Aj.seq (x A α ps s C I (Ab ns')) (fun p v α₁ o0 c0 s0 d0 l0 S0 u0=>?_) fun x c0 q=>?_
  ·rw [Aa u0] at ns'
   cases p <;> (try exact absurd rfl ns')
   rename_i i
   obtain ⟨t,rfl⟩:=S0.inv
   exact ⟨some i,o0,α₁,(Aa u0).trans rfl,s0,d0,l0,some (i,t),rfl,rfl⟩
  ·exact q.bind
private theorem K9 (a:Option (Int × Tok)):IsPart (partValue a) (a.map (·.1)):=by
 cases a with
 | none=>exact .none
 | some x=>exact .int x.1 x.2
private theorem NI {p:PV}{v:Value}{a b:Option (Int × Tok)}{value slice:Expr}(C:Ctx W fm n A)(I:InvS W fm α ps s)(r:W.rep fm α s.heap p v)(hs:∀ o i,∃ ops,subscripted slice false o i=operate ops (getItem o i))
  (ns:A6 (a.map (·.1)) (b.map (·.1)) p ps≠.stuck):wpAny W.m A (subscriptTail value slice v (.ref s.heap.objs.size)) (OkE W fm α s.heap (A6 (a.map (·.1)) (b.map (·.1)) p ps)) (ExE W fm α s.heap (A6 (a.map (·.1)) (b.map (·.1)) p ps))
   { s with heap:=s.heap.push { cls:=.type "slice",data:=.fields #[partValue a,partValue b,.none] } }:=by
 have k:∀ c o,s.heap.get? c=some o->(s.heap.push { cls:=.type "slice",data:=.fields #[partValue a,partValue b,.none] }).get? c=some o:=fun c o e=>Heap.get?_push_of_some _ e
 have I':InvS W fm α ps { s with heap:=s.heap.push { cls:=.type "slice",data:=.fields #[partValue a,partValue b,.none] } }:=⟨I.inv.keeps k,I.gens,I.os⟩
 obtain ⟨ops,e⟩:=hs v (.ref s.heap.objs.size)
 cases p with
 | str x=>
  have ns':M.str (slc x (a.map (·.1)) (b.map (·.1))) ps≠.stuck:=ns
  have hb:(slc x (a.map (·.1)) (b.map (·.1))).length<=big:=by
   unfold M.str at ns'
   split at ns'
   ·assumption
   ·exact absurd rfl ns'
  have e1:A6 (a.map (·.1)) (b.map (·.1)) (.str x) ps = .ok (.str (slc x (a.map (·.1)) (b.map (·.1)))) ps:=by
   show M.str _ ps=_
   unfold M.str;rw [if_pos hb]
  rw [e1]
  obtain ⟨t,rfl⟩:=r.inv
  refine tail_any (T:="str") (typeIs_str _ _ _) F.slot_str_getitem.lookup (wpAny_getItem_str_slice (l:=a) (u:=b) (st:=none) ⟨_,Heap.get?_push_size _ rfl,rfl,rfl⟩ rfl ?_) e
  refine post_val_or_str ?_
  have st:=LQ x (a.map (·.1)) (b.map (·.1))
  refine ⟨?_,fun t' tk=>?_⟩
  ·show (if ((1:Int)==1&&(Builtin.Str.strSliceIndices (a.map (·.1)) (b.map (·.1)) 1 (txt x).length).length==(txt x).length)=true then txt x else ⟨((Builtin.Str.strSliceIndices (a.map (·.1)) (b.map (·.1)) 1 (txt x).length).filterMap ((txt x).cps[·]?)).toArray⟩).length<=sizeLine
   rw [st,Ao,<- A4];exact hb
  ·show OkE W fm α s.heap (.ok _ ps) (.str (if ((1:Int)==1&&(Builtin.Str.strSliceIndices (a.map (·.1)) (b.map (·.1)) 1 (txt x).length).length==(txt x).length)=true then txt x else ⟨((Builtin.Str.strSliceIndices (a.map (·.1)) (b.map (·.1)) 1 (txt x).length).filterMap ((txt x).cps[·]?)).toArray⟩) t') _
   rw [st]
   exact ⟨_,ps,α,rfl,I'.tok tk,.refl ..,.of_keeps k,.str _ _⟩
 | lst i=>
  have ns':M.bind (M.getLst i) (fun l=>M.orStuck (l.length<=big) (M.newLst (slc l (a.map (·.1)) (b.map (·.1))))) ps≠.stuck:=ns
  obtain ⟨l,e1,e2⟩:=AQ (Ab ns')
  rw [Aa e2] at ns'
  obtain ⟨c,e3⟩:=Af ns'
  rw [e3] at ns'
  have e4:A6 (a.map (·.1)) (b.map (·.1)) (.lst i) ps=M.newLst (slc l (a.map (·.1)) (b.map (·.1))) ps:=(Aa e2).trans e3
  rw [e4]
  obtain ⟨ad,vs,rfl,hl,rl⟩:=Cm I r e1
  have hl':=Ho k hl
  have rl':=RepL.keeps k (List.prefix_refl _) rl
  rw [decide_eq_true_eq] at c
  refine tail_any hl'.typeIs slot_list_getitem.lookup (wpAny_getItem_list_slice hl' ⟨_,Heap.get?_push_size _ rfl,rfl,rfl⟩ (K9 a) (K9 b) .none (by simp) ?_ (by rw [List.size_toArray,<- rl.length,<- A4];exact c)) e
  have hlb:(slc l (a.map (·.1)) (b.map (·.1))).length<=big:=CB ns'
  have k2:∀ c o,s.heap.get? c=some o->((s.heap.push { cls:=.type "slice",data:=.fields #[partValue a,partValue b,.none] }).push { cls:=.type "list",data:=.seq (slicePick vs.toArray (a.map (·.1)) (b.map (·.1)) none) }).get? c=some o:=
   fun c o e=>Heap.get?_push_of_some _ (k c o e)
  refine OkE.newLst (a:=(s.heap.push { cls:=.type "slice",data:=.fields #[partValue a,partValue b,.none] }).objs.size) C I hlb (RepL.slc (a.map (·.1)) (b.map (·.1)) rl) k2 ?_ ⟨0,?_⟩
  ·cases q:s.heap.get? (s.heap.push { cls:=.type "slice",data:=.fields #[partValue a,partValue b,.none] }).objs.size with
   | none=>rfl
   | some o=>have:=Heap.lt_size q;rw [Heap.size_push] at this;exact absurd this (Nat.not_lt_of_le (Nat.le_succ _))
  ·have:=NH vs (a.map (·.1)) (b.map (·.1))
   rw [<- this]
   exact Heap.get?_push_size _ rfl
 | _=>exact absurd rfl ns
private theorem A8 {e:Expr}{l u:Option Expr}{p pos:Pos}{me:M PV}{ml mu:Option (M PV)}(he:SimE W n fm e me)(hl:SimO W n fm l ml)(hu:SimO W n fm u mu) :
  SimE W n fm (.Subscript e (.Slice l u none p) pos) (M.bind me fun v=>M.bind (AP ml) fun a=>M.bind (AP mu) fun b=>A6 a b v):=.mk fun A α ps s C I ns=>by
 refine Subscript_ (Aj.seq (he A α ps s C I (Ab ns)) (fun v va α₁ o0 c0 s0 d0 l0 ra u0=>?_) fun x c0 q=>q.bind)
 rw [Aa u0] at ns ⊢
 refine wpAny_Slice (wpAny_mono (K8 hl C s0 (Ab ns)) (fun vl y0 q=>?_) fun x y0 q=>q.bind.after d0 l0)
 obtain ⟨a,X0,z0,Y0,Z0,U0,V0,pa,rfl,rfl⟩:=q
 rw [Aa Y0] at ns ⊢
 refine wpAny_mono (K8 hu C Z0 (Ab ns)) (fun vu V1 q=>?_) fun x V1 q=>(q.bind.after U0 V0).after d0 l0
 obtain ⟨b,u3,V3,W2,U1,Z1,w2,pb,rfl,rfl⟩:=q
 rw [Aa W2] at ns ⊢
 refine wpAny_pure ?_
 exact wpAny_mono (NI C U1 (Z0.stays C w2 Z1 (s0.stays C V0 U0 ra)) (fun o i=>⟨_,rfl⟩) ns) (fun U U q=>((q.after Z1 w2).after U0 V0).after d0 l0) (fun U U q=>((q.after Z1 w2).after U0 V0).after d0 l0)
end
inductive SimL (W:Wd)(n:Nat)(fm:Fm):List Expr->List (M PV)->Prop
 | nil:SimL W n fm [] []
 | cons {e:Expr} {m:M PV} {es:List Expr} {ms:List (M PV)} (x:SimE W n fm e m) (hs:∀ rest env,starEach (e::rest) env=(false,eval e env)::starEach rest env) (t:SimL W n fm es ms):SimL W n fm (e::es) (m::ms)
section
variable {W:Wd}{fm:Fm}{α α' α₁:List Addr}{h h' h₁:Heap}{n:Nat}{A:Around}{ps ps':PS}{s s':Shared}{H:Hd}{h₀:Heap}
inductive OkL (W:Wd)(fm:Fm)(α:List Addr)(h:Heap)(r:R (List PV))(vs:List Value)(s':Shared):Prop
 | mk (l:List PV) (ps':PS) (α':List Addr) (k1:r = .ok l ps') (k2:InvS W fm α' ps' s') (k3:Grow α α' h) (k4:Rel fm.stk fm.tab α h s'.heap) (k5:RepL W.H W.h₀ fm.av α' s'.heap l vs):OkL W fm α h r vs s'
private theorem InvS.staysL (C:Ctx W fm n A)(I:InvS W fm α ps s)(x:Rel fm.stk fm.tab α s.heap h₁)(g:Grow α α₁ s.heap){p:List PV}{v:List Value}(r:RepL W.H W.h₀ fm.av α s.heap p v):RepL W.H W.h₀ fm.av α₁ h₁ p v:=
 RepL.stays I.inv.lists x g.pre C.fm.frsAv C.fm.tabAv r
private theorem Co {pos:Pos}:∀ {es:List Expr} {ms:List (M PV)},SimL W n fm es ms->∀ A α ps s,Ctx W fm n A->InvS W fm α ps s->M.seq ms ps≠.stuck ->
  wpAny W.m A (spliced (backTo pos (starEach es fm.env))) (OkL W fm α s.heap (M.seq ms ps)) (ExE W fm α s.heap (M.seq ms ps)) s:=by
 intro _ _ hS
 induction hS with
 | nil=>
  intro A α ps s C I ns
  exact Calls.spliced_nil ⟨[],ps,α,rfl,I,.refl ..,.refl ..,.nil⟩
 | @cons e m es ms q hs qs ih=>
  intro A α ps s C I ns
  rw [hs]
  have ns':M.bind m (fun v=>M.bind (M.seq ms) fun vs=>M.ret (v::vs)) ps≠.stuck:=ns
  show wpAny W.m A (spliced ((false,eval e fm.env)::backTo pos (starEach es fm.env))) (OkL W fm α s.heap (M.bind m (fun v=>M.bind (M.seq ms) fun vs=>M.ret (v::vs)) ps)) (ExE W fm α s.heap (M.bind m (fun v=>M.bind (M.seq ms) fun vs=>M.ret (v::vs)) ps)) s
  refine Calls.spliced_cons (Aj.seq (q A α ps s C I (Ab ns')) (fun p v α₁ o0 c0 s0 d0 l0 S0 u0=>?_) fun x c0 q=>q.bind)
  rw [Aa u0] at ns' ⊢
  refine wpAny_mono (ih A α₁ o0 c0 C s0 (Ab ns')) (fun vs y0 q=>?_) fun x y0 q=>q.bind.after d0 l0
  obtain ⟨l,X0,z0,Y0,Z0,U0,V0,V2⟩:=q
  rw [Aa Y0]
  exact ⟨p::l,X0,z0,rfl,Z0,d0.trans U0 l0,l0.trans V0 d0.new,.cons (s0.stays C V0 U0 S0) V2⟩
private theorem SimL.plain {pos:Pos}:∀ {es:List Expr} {ms:List (M PV)},SimL W n fm es ms->∀ env,(backTo pos (starEach es env)).any (·.1)=false:=by
 intro _ _ hS
 induction hS with
 | nil=>
  intro _
  exact rfl
 | @cons e m es ms q hs qs ih=>
  intro env
  rw [hs];exact ih env
private theorem CD {es:List Expr}{ms:List (M PV)}{pos:Pos}(q:SimL W n fm es ms):SimE W n fm (.List es pos) (M.bind (M.seq ms) M.newLst):=.mk fun A α ps s C I ns=>by
 refine wpAny_List_spliced (wpAny_mono (Co q A α ps s C I (Ab ns)) (fun vs c0 z=>?_) fun x c0 z=>z.bind)
 obtain ⟨l,o0,α₁,u0,s0,d0,l0,S0⟩:=z
 rw [Aa u0] at ns ⊢
 have hb:=CB ns
 refine ⟨by rw [<- A4,<- S0.length];exact hb,?_⟩
 exact (OkE.newLst C s0 hb S0 (fun U U e=>Heap.get?_push_of_some _ e) (Av _) ⟨0,Heap.get?_push_size _ rfl⟩).after d0 l0
private theorem AR (I:InvS W fm α ps s){a:Addr}(e:s.heap.get? a=none):a∉fm.av:=fun m=>by
 have:=I.inv.live a m
 rw [e] at this;cases this
private theorem Bh {es:List Expr}{ms:List (M PV)}{k:Nat}{pos:Pos}(q:SimL W n fm es ms):SimE W n fm (.Tuple es k pos) (M.bind (M.seq ms) EU):=.mk fun A α ps s C I ns=>by
 refine wpAny_Tuple_spliced (wpAny_mono (Co q A α ps s C I (Ab ns)) (fun vs c0 z=>?_) fun x c0 z=>z.bind)
 obtain ⟨l,o0,α₁,u0,s0,d0,l0,S0⟩:=z
 rw [Aa u0] at ns ⊢
 obtain ⟨c,e⟩:=Af ns
 rw [decide_eq_true_eq] at c
 refine ⟨by rw [<- A4,<- S0.length];exact c,?_⟩
 show OkE W fm α s.heap (M.orStuck _ _ o0) _ _
 rw [e]
 have k:=fun b o (e:c0.heap.get? b=some o)=>Heap.get?_push_of_some ({ cls:=.type "tuple",data:=.seq vs.toArray }:Obj) e
 have hn:c0.heap.get? c0.heap.objs.size=none:=Av _
 exact OkE.after (α₁:=α₁) (h₁:=c0.heap) ⟨.tup l,o0,α₁,rfl,⟨s0.inv.keeps k,s0.gens,s0.os⟩,.refl ..,.of_keeps k,.tup (AR s0 hn) ⟨_,Heap.get?_push_size _ rfl,rfl,0,rfl⟩ (S0.keeps k (List.prefix_refl _))⟩ d0 l0
noncomputable abbrev OpCall.T (W:Wd)(n:Nat)(fm:Fm)(f:Value)(g:List PV->M PV):Prop:=∀ A α ps s l vs,Ctx W fm n A->InvS W fm α ps s->RepL W.H W.h₀ fm.av α s.heap l vs->g l ps≠.stuck->Aj W fm A α ps s (call f vs) (g l)
structure OpCall (W:Wd)(n:Nat)(fm:Fm)(f:Value)(g:List PV->M PV):Prop where
 go:OpCall.T W n fm f g
noncomputable instance {W:Wd} {n:Nat} {fm:Fm} {f:Value} {g:List PV->M PV}:CoeFun (OpCall W n fm f g) (fun U=>OpCall.T W n fm f g):=⟨OpCall.go⟩
private theorem AV {f:Value}{args:List (Bool × Sem Value)}{Q:Args->Shared->Prop}{E:Value->Shared->Prop}(hp:args.any (·.1)=false)(h:wpAny W.m A (spliced args) (fun vs s'=>Q ⟨vs,[]⟩ s') E s):wpAny W.m A (evalArgs f true args []) Q E s:=by
 cases args with
 | nil=>
  unfold evalArgs
  show wpAny W.m A (spliced [] >>= _) Q E s
  refine wpAny_bind (wpAny_mono h (fun vs s' h'=>wpAny_bind (wpAny_pure ?_)) fun U U x=>x)
  refine wpAny_holding ?_
  exact wpAny_bind (wpAny_pure (wpAny_bind (wpAny_pure (wpAny_pure h'))))
 | cons a r=>
  obtain ⟨b,x⟩:=a
  have:b=false:=by simpa using (List.any_eq_false.mp hp (b,x) List.mem_cons_self)
  subst this
  exact Calls.evalArgs_plain h
private theorem BD {x:Str}{i:Nat}{v:Value}(C:Ctx W fm n A)(I:InvS W fm α ps s)(hf:x∈Bo)(hn:x≠"__name__")(hb:bootBuiltins x=some v){Q:Value->Shared->Prop}{E:Value->Shared->Prop}(hm:(x,NameKind.globalImplicit,i)∈fm.sc){pos:Pos}(hd:(x==("__debug__":Str))=false)
  (h:Q v s):wpAny W.m A (eval (.Name x pos) fm.env) Q E s:=
 Calls.Name_function_global C.fm.kind (C.fm.kindX hm (by decide)) (Calls.loadGlobal_builtin (env:=fm.env) (by rw [C.fm.glob];exact C.hd.g.keeps I.inv.base) (C.hd.free x hf) (by rw [C.fm.bi];exact C.hd.b.keeps I.inv.base) ((C.hd.bu x hn).trans hb) h) hd
private theorem JJ {x:Str}{i:Nat}{id:String}{np pos:Pos}{es:List Expr}{ms:List (M PV)}{g:List PV->M PV}(hm:(x,NameKind.globalImplicit,i)∈fm.sc)(hf:x∈Bo)(hn:x≠"__name__")(hd:(x==("__debug__":Str))=false)(hb:bootBuiltins x=some (.builtin id))
  (q:SimL W n fm es ms) (op:OpCall W n fm (.builtin id) g):SimE W n fm (.Call (.Name x np) es [] pos) (M.bind (M.seq ms) g):=.mk fun A α ps s C I ns=>by
 show wpAny W.m A (do callWith pos (<- eval (.Name x np) fm.env) [] (backTo pos (starEach es fm.env)) (backToKw pos (keywordEach [] fm.env))) _ _ s
 refine wpAny_bind (BD C I hf hn hb hm hd ?_)
 refine Calls.callWith_builtin (q.plain _) (AV (q.plain _) (wpAny_mono (Co q A α ps s C I (Ab ns)) (fun vs c0 z=>?_) fun x c0 z=>z.bind))
 obtain ⟨l,o0,α₁,u0,s0,d0,l0,S0⟩:=z
 rw [Aa u0] at ns ⊢
 exact wpAny_mono (op A α₁ o0 c0 l vs C s0 S0 ns) (fun U U q=>q.after d0 l0) (fun U U q=>q.after d0 l0)
private theorem JK {x:Str}{i:Nat}{T:String}{np pos:Pos}{es:List Expr}{ms:List (M PV)}{g:List PV->M PV}(hm:(x,NameKind.globalImplicit,i)∈fm.sc)(hf:x∈Bo)(hn:x≠"__name__")(hd:(x==("__debug__":Str))=false)(hb:bootBuiltins x=some (.type T))
  (q:SimL W n fm es ms) (op:OpCall W n fm (.type T) g):SimE W n fm (.Call (.Name x np) es [] pos) (M.bind (M.seq ms) g):=.mk fun A α ps s C I ns=>by
 show wpAny W.m A (do callWith pos (<- eval (.Name x np) fm.env) [] (backTo pos (starEach es fm.env)) (backToKw pos (keywordEach [] fm.env))) _ _ s
 refine wpAny_bind (BD C I hf hn hb hm hd ?_)
 refine PySem.callWith_type (q.plain _) (AV (q.plain _) (wpAny_mono (Co q A α ps s C I (Ab ns)) (fun vs c0 z=>?_) fun x c0 z=>z.bind))
 obtain ⟨l,o0,α₁,u0,s0,d0,l0,S0⟩:=z
 rw [Aa u0] at ns ⊢
 exact wpAny_mono (op A α₁ o0 c0 l vs C s0 S0 ns) (fun U U q=>q.after d0 l0) (fun U U q=>q.after d0 l0)
private theorem JL {k:Nat}(h:k<=big):(k:Int)<2 ^ 63:=by
 have:big=16777216:=rfl
 have:((2:Int) ^ 63)=9223372036854775808:=by decide
 lia
private theorem CR {β:Type}{f:PV->M β}{l:List PV}{vs:List Value}(r:RepL W.H W.h₀ fm.av α h l vs)(ns:M.arg1 l f ps≠.stuck):∃ p v,l=[p]/\vs=[v]/\W.rep fm α h p v/\f p ps≠.stuck:=by
 obtain ⟨p,rfl⟩:=DS ns
 obtain ⟨v,ws,rfl,r1,r2⟩:=r.inv
 obtain rfl:ws=[]:=r2.inv
 exact ⟨p,v,rfl,rfl,r1,ns⟩
set_option tactic.hygienic true in
private theorem AO:OpCall W n fm (.builtin "len") BC:=by
 refine .mk ?_
 intro A α ps s l vs C I r0 ns
 obtain ⟨p,v,rfl,rfl,r,nq⟩:=CR r0 ns
 clear r0
 cases p <;> (try exact absurd rfl ns)
 ·rename_i x
  obtain ⟨t,rfl⟩:=r.inv
  have ns':M.orStuck (x.length<=big) (M.ret (PV.int x.length)) ps≠.stuck:=ns
  obtain ⟨c,e⟩:=Af ns'
  rw [decide_eq_true_eq] at c
  refine Aj.congr (m':=M.ret (PV.int x.length)) e ?_
  have:=JL c
  refine PySem.P.len_str (by rw [Ao];lia) ?_
  rw [Ao]
  exact OkE.same I (.int _ _)
 ·rename_i i
  have ns':M.bind (M.getLst i) (fun l=>M.orStuck (l.length<=big) (M.ret (PV.int l.length))) ps≠.stuck:=ns
  obtain ⟨l,e1,e2⟩:=AQ (Ab ns')
  rw [Aa e2] at ns'
  obtain ⟨c,e⟩:=Af ns'
  rw [decide_eq_true_eq] at c
  refine Aj.congr (m':=M.ret (PV.int l.length)) ((Aa e2).trans e) ?_
  obtain ⟨a,vs,rfl,hl,rl⟩:=Cm I r e1
  have sz:vs.toArray.size=l.length:=by rw [List.size_toArray,rl.length]
  refine Calls.call_len_list hl (by rw [sz];exact JL c) ?_
  rw [sz]
  exact OkE.same I (.int _ _)
 ·rename_i xs
  obtain ⟨a,vs,rfl,hi,hv⟩:=r.inv
  have ns':M.orStuck (xs.length<=big) (M.ret (PV.int xs.length)) ps≠.stuck:=ns
  obtain ⟨c,e⟩:=Af ns'
  rw [decide_eq_true_eq] at c
  refine Aj.congr (m':=M.ret (PV.int xs.length)) e ?_
  obtain ⟨o,e1,e2⟩:=hi
  have sz:=IntsAre.length hv
  rw [Array.length_toList] at sz
  refine Calls.call_len_list ⟨o,I.inv.base _ _ e1,e2⟩ (by rw [sz];exact JL c) ?_
  rw [sz]
  exact OkE.same I (.int _ _)
private theorem Bt:OpCall W n fm (.builtin "chr") DU:=by
 refine .mk ?_
 intro A α ps s l vs C I r0 ns
 obtain ⟨p,v,rfl,rfl,r,nq⟩:=CR r0 ns
 clear r0
 obtain ⟨i,e⟩:=AF nq
 obtain rfl:=AE e
 obtain ⟨t,rfl⟩:=r.inv
 have ns':M.orStuck (0<=i&&i<=1114111) (M.ret (PV.str [i.toNat])) ps≠.stuck:=ns
 obtain ⟨c,e⟩:=Af ns'
 simp only [Bool.and_eq_true,decide_eq_true_eq] at c
 refine Aj.congr (m':=M.ret (PV.str [i.toNat])) e ?_
 refine PySem.P.chr_of_int (by simp only [Bool.or_eq_false_iff,decide_eq_false_iff_not];lia) ?_
 exact OkE.same I (.str [i.toNat] _)
private theorem NJ:OpCall W n fm (.builtin "ord") Rk:=by
 refine .mk ?_
 intro A α ps s l vs C I r0 ns
 obtain ⟨p,v,rfl,rfl,r,nq⟩:=CR r0 ns
 clear r0
 obtain ⟨x,e⟩:=AF nq
 obtain rfl:=AN e
 obtain ⟨t,rfl⟩:=r.inv
 obtain ⟨c,e⟩:=AF (o:=one x) nq
 obtain rfl:=DT e
 exact PySem.P.ord_of_char (OkE.same I (.int (c:Int) _))
private theorem NK:OpCall W n fm (.builtin "abs") Rl:=by
 refine .mk ?_
 intro A α ps s l vs C I r0 ns
 obtain ⟨p,v,rfl,rfl,r,nq⟩:=CR r0 ns
 clear r0
 obtain ⟨i,e⟩:=AF nq
 obtain rfl:=AE e
 obtain ⟨t,rfl⟩:=r.inv
 exact PyProof.Rows.call_abs_int fun u tk=>OkE.same I (.int _ u)
private theorem Io:OpCall W n fm (.type "str") Np:=by
 refine .mk ?_
 intro A α ps s l vs C I r0 ns
 obtain ⟨p,v,rfl,rfl,r,nq⟩:=CR r0 ns
 clear r0
 obtain ⟨i,e⟩:=AF nq
 obtain rfl:=AE e
 obtain ⟨t,rfl⟩:=r.inv
 have ns':M.orStuck (Ai i) (M.ret (PV.str (Bq i))) ps≠.stuck:=ns
 obtain ⟨c,e⟩:=Af ns'
 refine Aj.congr (m':=M.ret (PV.str (Bq i))) e ?_
 refine PySem.P.str_of_int ?_ ?_
 ·unfold Ai at c
  rw [decide_eq_true_eq] at c
  by_cases q:i.natAbs=0
  ·rw [q];decide
  ·exact Nat.lt_of_lt_of_le ((Nat.log2_lt q).mpr (Nat.lt_of_lt_of_le c (by decide:1073741824<=2 ^ 30))) (by decide)
 ·have q:=RepV.str (H:=W.H) (h₀:=W.h₀) (av:=fm.av) (α:=α) (h:=s.heap) (Bq i) s.toks
  have e:txt (Bq i)=Str.ofString (toString i):=Bc _
  rw [e] at q
  exact OkE.same I q
end
noncomputable def cutH (h:Heap)(l:List Addr):Heap:=⟨h.objs.mapIdx fun i o=>if i∈l then { o with data:=.freed } else o,h.life⟩
private theorem JM {h:Heap}{l:List Addr}{b:Addr}(m:b∈l):(cutH h l).get? b=none:=by
 cases q:(cutH h l).get? b with
 | none=>rfl
 | some o=>
  obtain ⟨e,f⟩:=Heap.get?_some_iff.mp q
  have e:(h.objs.mapIdx fun i o=>if i∈l then { o with data:=.freed } else o)[b]? = some o:=e
  rw [Array.getElem?_mapIdx] at e
  obtain ⟨o',_,rfl⟩:=Option.map_eq_some_iff.mp e
  rw [if_pos m] at f
  injection f
private theorem Hv {h:Heap}{l:List Addr}{b:Addr}(m:b∉l):(cutH h l).get? b=h.get? b:=by
 have same:∀ x:Option Obj,x.map (fun o=>if b∈l then { o with data:=.freed } else o)=x:=fun x=>by
  cases x with
  | none=>rfl
  | some o=>exact congrArg some (if_neg m)
 have e:(cutH h l).objs[b]? = h.objs[b]?:=by
  show (h.objs.mapIdx fun i o=>if i∈l then { o with data:=.freed } else o)[b]? = _
  rw [Array.getElem?_mapIdx];exact same _
 exact Option.ext fun o=>by rw [Heap.get?_some_iff,Heap.get?_some_iff,e]
private theorem Dn (h:Heap)(l:List Addr):∀ b o,(cutH h l).get? b=some o->h.get? b=some o:=fun b o e=>by
 by_cases m:b∈l
 ·rw [JM m] at e;cases e
 ·rwa [Hv m] at e
section
variable {W:Wd}{fm:Fm}{α α' α₁:List Addr}{h h' h₁ start:Heap}{n:Nat}{A:Around}{ps ps':PS}{s s':Shared}{H:Hd}{h₀:Heap}{own:List Addr}
structure Turn0 (stk:List Env)(c:List Addr)(h h':Heap):Prop where
 keep:∀ b o,h.get? b=some o->b∉frs stk->b∉c->h'.get? b=some o
 slot:∀ b o,h.get? b=some o->b∈frs stk->b∉c->∃ sl,h'.get? b=some { o with slots:=sl }
 frames:h'.FunFrames ⟨#[],{}⟩ stk
 flds:∀ b∈c,∃ o vs,h.get? b=some o/\o.data = .fields vs/\Cl o
structure Turn (stk:List Env)(c:List Addr)(h h':Heap):Prop extends Turn0 stk c h h' where
 live:∀ b∈c,(h'.get? b).isSome=true
private theorem Turn0.at (T:Turn0 fm.stk c h h'){b:Addr}{o:Obj}(e:h.get? b=some o)(nf:∀ vs,o.data≠.fields vs):∃ sl,h'.get? b=some { o with slots:=sl }:=by
 have nc:b∉c:=fun m=>by obtain ⟨o',vs,e',d,_⟩:=T.flds b m;rw [e] at e';cases e';exact nf vs d
 by_cases m:b∈frs fm.stk
 ·exact T.slot b o e m nc
 ·exact ⟨o.slots,T.keep b o e m nc⟩
private theorem Turn0.keep' (T:Turn0 fm.stk c h h'){b:Addr}{o:Obj}(e:h.get? b=some o)(nf:∀ vs,o.data≠.fields vs)(m:b∉frs fm.stk):h'.get? b=some o:=
 T.keep b o e m fun m=>by obtain ⟨o',vs,e',d,_⟩:=T.flds b m;rw [e] at e';cases e';exact nf vs d
private theorem Ip (T:Turn0 fm.stk c h h')(hf:∀ b∈frs fm.stk,b∈fm.av):(∀ {p:PV} {v:Value},RepV H h₀ fm.av α h p v->RepV H h₀ fm.av α h' p v)/\∀ {l:List PV} {vs:List Value},RepL H h₀ fm.av α h l vs->RepL H h₀ fm.av α h' l vs:=by
 refine CN (fun a vs ha hi=>⟨ha,?_⟩) (fun i a hi=>hi) fun a o es ep ha ho hx hd=>⟨ha,T.keep' ho (fun ws q=>by rw [hd] at q;cases q) fun q=>ha (hf _ q)⟩
 obtain ⟨o,e1,e2,k,e3⟩:=hi
 exact ⟨o,T.keep' e1 (fun ws q=>by rw [e3] at q;cases q) (fun q=>ha (hf _ q)),e2,k,e3⟩
private theorem RepV.turn (T:Turn0 fm.stk c h h')(hf:∀ b∈frs fm.stk,b∈fm.av){p:PV}{v:Value}(x:RepV H h₀ fm.av α h p v):RepV H h₀ fm.av α h' p v:=(Ip T hf).1 x
private theorem RepL.turn (T:Turn0 fm.stk c h h')(hf:∀ b∈frs fm.stk,b∈fm.av){l:List PV}{vs:List Value}(x:RepL H h₀ fm.av α h l vs):RepL H h₀ fm.av α h' l vs:=(Ip T hf).2 x
private theorem OptRep.turn (T:Turn0 fm.stk c h h')(hf:∀ b∈frs fm.stk,b∈fm.av){p:Option PV}{v:Option Value}(x:OptRep H h₀ fm.av α h p v):OptRep H h₀ fm.av α h' p v:=x.map fun r=>r.turn T hf
private theorem BR.turn {P:Addr}(x:BR H h P)(F:h.FunFrames ⟨#[],{}⟩ fm.stk)(T:Turn0 fm.stk c h h'):BR H h' P:=by
 have nfr:∀ b o vs,h.get? b=some o->o.data = .fields vs->b∉frs fm.stk:=fun b o vs e d m=>by
  obtain ⟨_,o',ho,nf⟩:=Heap.FunFrames.mem F m
  rw [e] at ho;cases ho;exact nf vs d
 obtain ⟨ps,e,q⟩:=x
 refine ⟨ps,T.keep P _ e (nfr _ _ _ e rfl) (fun m=>?_),?_⟩
 ·obtain ⟨o,vs,e1,_,p⟩:=T.flds P m
  rw [e] at e1;cases e1;exact p.1 rfl
 ·rcases q with q | ⟨k,oc,vs,t,q1,q2,q3,q4,q5⟩
  ·exact .inl q
  ·refine .inr ⟨k,oc,vs,t,q1,T.keep k _ q2 (nfr _ _ _ q2 q4) (fun m=>?_),q3,q4,q5⟩
   obtain ⟨o,vs,e1,_,p⟩:=T.flds k m
   rw [q2] at e1;cases e1;exact p.2 q3
private theorem Inv.turn0 (F:FmOk h₀ fm)(I:Inv H h₀ fm α ps h)(T:Turn0 fm.stk c h h')(live:∀ b∈c,b∈fm.av->(h'.get? b).isSome=true)(hc:∀ b∈c,h₀.get? b=none):Inv H h₀ fm α ps h':=by
 have rep:=fun {p v}=>OptRep.turn (H:=H) (h₀:=h₀) (α:=α) (p:=p) (v:=v) T F.frsAv
 refine ⟨fun b o e=>?_,?_,?_,?_,?_,T.frames,fun P hP=>(I.tabs P hP).turn I.frames T⟩
 ·refine T.keep b o (I.base b o e) (fun m=>?_) (fun m=>?_)
  ·rw [F.fresh b (F.frsAv b m)] at e;cases e
  ·rw [hc b m] at e;cases e
 ·obtain ⟨m,⟨o,es,ep,h1,h2,h3⟩,k⟩:=I.loc
  obtain ⟨sl,e⟩:=T.at h1 fun vs q=>by rw [h2] at q;cases q
  exact ⟨m,⟨_,es,ep,e,h2,h3⟩,fun x i hm=>rep (k x i hm)⟩
 ·intro x k i hm hk
  obtain ⟨cc,v,h1,h2,h3,h4,h5⟩:=I.cel x k i hm hk
  refine ⟨cc,v,h1,h2,h3,?_,rep h5⟩
  obtain ⟨o,e1,e2⟩:=h4
  obtain ⟨sl,e⟩:=T.at e1 fun vs q=>by rw [e2] at q;cases q
  exact ⟨_,e,e2⟩
 ·refine ⟨I.lists.len,fun i l e=>?_,I.lists.nodup,I.lists.fresh,I.lists.apart⟩
  obtain ⟨a,vs,h1,h2,h3⟩:=I.lists.at_ i l e
  refine ⟨a,vs,h1,?_,RepL.turn T F.frsAv h3⟩
  obtain ⟨k,e1⟩:=h2
  exact ⟨k,T.keep' e1 (fun ws q=>by cases q) (fun q=>I.lists.apart a (List.mem_of_getElem? h1) (F.frsAv _ q))⟩
 ·intro a ha
  have:=I.live a ha
  cases q:h.get? a with
  | none=>rw [q] at this;cases this
  | some o=>
   by_cases m:a∈c
   ·exact live a m ha
   ·by_cases m2:a∈frs fm.stk
    ·obtain ⟨sl,e⟩:=T.slot a o q m2 m;rw [e];rfl
    ·rw [T.keep a o q m2 m];rfl
private theorem Inv.turn (F:FmOk h₀ fm)(I:Inv H h₀ fm α ps h)(T:Turn fm.stk c h h')(hc:∀ b∈c,h₀.get? b=none):Inv H h₀ fm α ps h':=I.turn0 F T.toTurn0 (fun b m U=>T.live b m) hc
private theorem Rel.turn0 (R:Rel fm.stk own α start h)(T:Turn0 fm.stk c h h')(hc:∀ b∈c,start.get? b=none):Rel fm.stk own α start h':=by
 refine ⟨fun b o e h1 h2 h3=>T.keep b o (R.keep b o e h1 h2 h3) h1 (fun m=>by rw [hc b m] at e;cases e),fun b o e h1 h2 h3=>?_,fun b e=>?_⟩
 ·obtain ⟨sl,e1⟩:=R.slot b o e h1 h2 h3
  obtain ⟨sl',e2⟩:=T.slot b _ e1 h1 fun m=>by rw [hc b m] at e;cases e
  exact ⟨sl',e2⟩
 ·cases q:start.get? b with
  | none=>rfl
  | some o=>
   cases q2:h.get? b with
   | none=>rw [R.live b q2] at q;cases q
   | some o2=>
    by_cases m:b∈c
    ·rw [hc b m] at q;cases q
    ·by_cases m2:b∈frs fm.stk
     ·obtain ⟨sl,e2⟩:=T.slot b o2 q2 m2 m;rw [e2] at e;cases e
     ·rw [T.keep b o2 q2 m2 m] at e;cases e
private theorem Rel.turn (R:Rel fm.stk own α start h)(T:Turn fm.stk c h h')(hc:∀ b∈c,start.get? b=none):Rel fm.stk own α start h':=R.turn0 T.toTurn0 hc
end
section
variable {W:Wd}{fm:Fm}{α α' α₁ W0:List Addr}{h h' h₁ start:Heap}{n:Nat}{A:Around}{ps ps':PS}{s s':Shared}{H:Hd}{h₀:Heap}{own:List Addr}{e:PX}{x:Value}
private theorem Turn.set (F:h.FunFrames ⟨#[],{}⟩ fm.stk){a:Addr}{o:Obj}{vs:Array Value}(ha:h.get? a=some o)(hd:o.data = .fields vs)(pf:Cl o)(f:Array Value->Array Value):Turn fm.stk [a] h (h.update a (Obj.mapFields f)) /\
  (h.update a (Obj.mapFields f)).get? a=some (o.mapFields f)/\(o.mapFields f).data = .fields (f vs):=by
 have hd':=Obj.data_mapFields hd f
 have e1:=Heap.get?_update_self (Obj.mapFields f) ha (Obj.isFreed_of_fields hd')
 have ne:∀ b,b≠a->(h.update a (Obj.mapFields f)).get? b=h.get? b:=fun b q=>Heap.get?_update_other _ _ (Ne.symm q)
 refine ⟨⟨⟨fun b o' e' U m=>by rw [ne b (fun q=>m (by rw [q];exact List.mem_singleton_self _))];exact e',fun b o' e' U m=>⟨o'.slots,by rw [ne b (fun q=>m (by rw [q];exact List.mem_singleton_self _))];exact e'⟩,F.of_keeps fun b o' e' nf=>?_,fun b m=>?_⟩,fun b m=>?_⟩,e1,hd'⟩
 ·have:b≠a:=fun q=>by rw [q,ha] at e';cases e';exact nf vs hd
  exact ⟨o',(ne b this).trans e',rfl⟩
 ·rw [List.mem_singleton.mp m];exact ⟨o,vs,ha,hd,pf⟩
 ·rw [List.mem_singleton.mp m,e1];rfl
private theorem Turn.trans {stk:List Env}{c c':List Addr}(T:Turn stk c h h₁)(T':Turn stk c' h₁ h')(hc:∀ b∈c,b∈c'->True)(hs:∀ b∈c',b∈c\/∃ o vs,h.get? b=some o/\o.data = .fields vs/\Cl o)(hl:∀ b∈c,(h'.get? b).isSome=true):Turn stk (c++c') h h':=by
 refine ⟨⟨fun b o e1 m1 m2=>?_,fun b o e1 m1 m2=>?_,T'.frames,fun b m=>?_⟩,fun b m=>?_⟩
 ·exact T'.keep b o (T.keep b o e1 m1 fun q=>m2 (List.mem_append_left _ q)) m1 fun q=>m2 (List.mem_append_right _ q)
 ·obtain ⟨sl,e2⟩:=T.slot b o e1 m1 fun q=>m2 (List.mem_append_left _ q)
  obtain ⟨sl',e3⟩:=T'.slot b _ e2 m1 fun q=>m2 (List.mem_append_right _ q)
  exact ⟨sl',e3⟩
 ·rcases List.mem_append.mp m with q | q
  ·exact T.flds b q
  ·rcases hs b q with q | q
   ·exact T.flds b q
   ·exact q
 ·rcases List.mem_append.mp m with q | q
  ·exact hl b q
  ·exact T'.live b q
private theorem Turn.push {stk:List Env}(F:h.FunFrames ⟨#[],{}⟩ stk)(o:Obj):Turn stk [] h (h.push o):=
 ⟨⟨fun b o' e' U U=>Heap.get?_push_of_some _ e',fun b o' e' U U=>⟨o'.slots,Heap.get?_push_of_some _ e'⟩,F.of_keeps fun b o' e' U=>⟨o',Heap.get?_push_of_some _ e',rfl⟩,fun b m=>(by cases m)⟩,fun b m=>(by cases m)⟩
private theorem Turn.slots {stk:List Env}(F:h.FunFrames ⟨#[],{}⟩ stk)(S:Heap.SlotsOnly (frs stk) h h'):Turn stk [] h h':=
 ⟨⟨fun b o e m U=>(S.2.1 b m).trans e,fun b o e U U=>S.2.2 b o e,F.of_keeps fun b o e U=>by obtain ⟨sl,q⟩:=S.2.2 b o e;exact ⟨_,q,rfl⟩,fun b m=>(by cases m)⟩,fun b m=>(by cases m)⟩
private theorem JN {M:Model}{base:Heap}{e env:Env}{outer:List Env}{L:Addr}{Q:Value->Shared->Prop}{E:Value->Shared->Prop}(hfr:A.frames=some (e::outer))(hl:s.heap.FunFrames base (e::outer))(he:e.frame=env.frame)
  (hf:env.frame=some L) (h:∀ h',Heap.SlotsOnly ((e::outer).filterMap (·.frame)) s.heap h'->Q (.ref L) { s with heap:=h' }):wpAny M A (PySem.frameOf env) Q E s:=by
 unfold PySem.frameOf
 refine wpAny_bind (wpAny_frameEnvs hfr ?_)
 have hdw:((e::outer).dropWhile fun x=>x.frame != env.frame)=e::outer:=by simp [List.dropWhile,he]
 rw [hdw]
 unfold frameObject
 refine wpAny_bind (wpAny_bind (wpAny_readyFrames_fun hl fun h₁ Y2=>wpAny_pure ?_))
 rw [he,hf]
 exact wpAny_pure (h h₁ Y2)
private theorem Iq {a L:Addr}{oe:Obj}{vs:Array Value}{head:Value}{hn:Bool}(hfr:A.frames=some fm.stk)(F:s.heap.FunFrames ⟨#[],{}⟩ fm.stk)(hst:∃ e r,fm.stk=e::r/\e.frame=fm.env.frame)(hf:fm.env.frame=some L)
  (ha:s.heap.get? a=some oe) (hd:oe.data = .fields vs) (pf:Cl oe) (hsz:1<vs.size) {Q:Unit->Shared->Prop} {E:Value->Shared->Prop}
  (hQ:∀ h' T oT ts,Turn fm.stk [a] s.heap h'->h'.get? a=some (oe.mapFields (·.setIfInBounds 1 (.ref T)))->(oe.mapFields (·.setIfInBounds 1 (.ref T))).data = .fields (vs.setIfInBounds 1 (.ref T))->s.heap.get? T=none->T≠a->h'.get? T=some oT->oT.data = .fields ts->3<ts.size->Cl oT->Q () { s with heap:=h' }) :
  wpAny W.m A (do let f <- frameOf fm.env;let pl <- entryPlaceOf L hn;let b <- EntryCells.newEntry head f .none (rawInt L) .none pl;setField (.ref a) 1 b) Q E s:=by
 obtain ⟨er,r,hr,her⟩:=hst
 have F':s.heap.FunFrames ⟨#[],{}⟩ (er::r):=hr▸F
 refine wpAny_bind (JN (hfr.trans (congrArg some hr)) F' her hf fun h₁ Y2=>?_)
 refine wpAny_bind (wpAny_entryPlaceOf fun pl hpl=>?_)
 unfold EntryCells.newEntry newFields
 refine wpAny_bind (wpAny_newObj_type ?_ (hpl.sizeOk5 _ _ _ _ _))
 rw [<- hr] at Y2
 have T1:Turn fm.stk [] s.heap h₁:=Turn.slots F Y2
 have na:a∉frs fm.stk:=fun m=>by
  obtain ⟨_,o,ho,nf⟩:=Heap.FunFrames.mem F m
  rw [ha] at ho;cases ho;exact nf vs hd
 have z6:h₁.get? a=some oe:=(Y2.2.1 a na).trans ha
 have T2:=Turn.push T1.frames { cls:=.type "traceback",dict:=none,data:=.fields ([head,.ref L,.none,rawInt L,.none]++(if pl.isEmpty then List.replicate 6 Value.none else pl)).toArray }
 have T6:=Heap.get?_push_of_some { cls:=.type "traceback",dict:=none,data:=.fields ([head,.ref L,.none,rawInt L,.none]++(if pl.isEmpty then List.replicate 6 Value.none else pl)).toArray } z6
 refine wpAny_setField T6 hd hsz ?_
 obtain ⟨T3,e3,d3⟩:=Turn.set (fm:=fm) T2.frames T6 hd pf (·.setIfInBounds 1 (.ref h₁.objs.size))
 have T12:Turn fm.stk ([]++[]) s.heap _:=T1.trans T2 (fun U U U=>trivial) (fun b m=>(by cases m)) (fun b m=>(by cases m))
 have T123:Turn fm.stk ([]++[]++[a]) s.heap _:=T12.trans T3 (fun U U U=>trivial) (fun b m=>.inr (by rw [List.mem_singleton.mp m];exact ⟨oe,vs,ha,hd,pf⟩)) (fun b m=>(by cases m))
 have nT:h₁.objs.size≠a:=Nat.ne_of_gt (Heap.lt_size z6)
 have fresh:s.heap.get? h₁.objs.size=none:=by rw [Y2.1];exact Av _
 refine hQ _ h₁.objs.size _ _ T123 e3 d3 fresh nT ((Heap.get?_update_other _ _ (Ne.symm nT)).trans (Heap.get?_push_size _ rfl)) rfl ?_ ⟨(fun q=>(by cases q)),fun q=>absurd (Value.type.inj q) (by decide)⟩
 simp
private theorem JO {c:List Addr}{a:Addr}{vs:Array Value}(x:IsTup h a vs)(T:Turn0 fm.stk c h h'):IsTup h' a vs:=by
 obtain ⟨o,e1,e2,k,e3⟩:=x
 obtain ⟨sl,e⟩:=T.at e1 fun ws q=>by rw [e3] at q;cases q
 exact ⟨_,e,e2,k,e3⟩
private theorem DV.turn {c:List Addr}{v:Option Value}(x:DV start h e v)(T:Turn fm.stk c h h'):DV start h' e v:=by
 cases e with
 | std n=>exact x
 | toml m=>obtain ⟨t,tk,h1,h2,h3⟩:=x;exact ⟨t,tk,h1,h2,JO h3 T.toTurn0⟩
private theorem NM {oe:Obj}{v:Option Value}(hc:oe.cls=W.cls e)(x:DV start h e v):Cl oe:=by
 unfold Cl
 rw [hc]
 cases e with
 | std n=>exact ⟨(fun q=>(by cases q)),fun q=>x (Value.type.inj q)⟩
 | toml m=>exact ⟨(fun q=>(by cases q)),fun q=>(by cases q)⟩
private theorem Fc (C:Ctx W fm n A)(I:InvS W fm α ps s)(R:Rel fm.stk own W0 start s.heap)(hs0:∀ b,start.get? b=none->W.h₀.get? b=none)(X:Raised W start s.heap e x){Q:Unit->Shared->Prop}{E:Value->Shared->Prop}
  (h:∀ h',InvS W fm α ps { s with heap:=h' }->Rel fm.stk own W0 start h'->RaisedN W start h' e x->Q () { s with heap:=h' }):wpAny W.m A (noteFrame x fm.env) Q E s:=by
 obtain ⟨a,oe,vs,rfl,ha,hc,hd,hsz,hna,harg,htb,hctx⟩:=X
 obtain ⟨fe,fr,hst,hfe,hsome⟩:=C.fm.frame
 obtain ⟨L,hf⟩:=Option.isSome_iff_exists.mp hsome
 have hst':∃ e r,fm.stk=e::r/\e.frame=fm.env.frame:=⟨fe,fr,hst,hfe⟩
 have F:=I.inv.frames
 have h1v:vs[1]? = some (vs[1]'(by exact Mi.la [_] [([11,3,0],[2])] ([3,3,0],[2]) rfl hsz)):=Array.getElem?_eq_getElem _
 unfold noteFrame
 simp only [hf]
 refine wpAny_bind (wpAny_field ha hd h1v ?_)
 have pf:=NM hc harg
 rcases htb with q | ⟨T,oT,ts,q,nTa,hT,hdT,h3,nT,pT⟩
 ·rw [h1v] at q
  rw [Option.some.inj q]
  rw [if_neg (by decide)]
  refine Iq C.frames F hst' hf ha hd pf (by exact Mi.la [_] [([11,3,0],[2])] ([3,3,0],[2]) rfl hsz) fun h' T oT ts Tn e1 d1 f1 f2 f3 f4 f5 f6=>?_
  have hc0:∀ b∈[a],start.get? b=none:=fun b m=>by rw [List.mem_singleton.mp m];exact hna
  refine h h' ⟨I.inv.turn C.fm Tn fun b m=>hs0 b (hc0 b m),I.gens,I.os⟩ (R.turn Tn hc0) ⟨a,_,_,rfl,e1,(Obj.cls_mapFields _ _).trans hc,d1,by simpa using hsz,hna,?_,?_,?_⟩
  ·rw [Array.getElem?_setIfInBounds_ne (by decide)];exact harg.turn Tn
  ·exact ⟨T,oT,ts,(by simp [show 1<vs.size by exact Mi.la [_] [([11,3,0],[2])] ([3,3,0],[2]) rfl hsz]:(vs.setIfInBounds 1 (Value.ref T))[1]? = some (Value.ref T)),f2,f3,f4,f5,R.live T f1,f6⟩
  ·rw [Array.getElem?_setIfInBounds_ne (by decide)];exact hctx
 ·rw [h1v] at q
  rw [Option.some.inj q]
  rw [if_pos (show (Value.ref T != Value.none)=true from by simp)]
  have h3v:ts[3]? = some (ts[3]'h3):=Array.getElem?_eq_getElem _
  refine wpAny_bind (wpAny_field hT hdT h3v ?_)
  by_cases z:(ts[3]'h3==rawInt L)=true
  ·rw [if_pos z]
   refine wpAny_pure ?_
   exact h s.heap I R ⟨a,oe,vs,rfl,ha,hc,hd,hsz,hna,harg,⟨T,oT,ts,h1v.trans q,nTa,hT,hdT,h3,nT,pT⟩,hctx⟩
  ·rw [if_neg z]
   refine wpAny_bind (wpAny_setField hT hdT h3 ?_)
   obtain ⟨T1,e1,d1⟩:=Turn.set (fm:=fm) F hT hdT pT (·.setIfInBounds 3 .none)
   have ha1:(s.heap.update T (Obj.mapFields (·.setIfInBounds 3 .none))).get? a=some oe:=(Heap.get?_update_other _ _ nTa).trans ha
   refine Iq (s:={ s with heap:=s.heap.update T (Obj.mapFields (·.setIfInBounds 3 .none)) }) C.frames T1.frames hst' hf ha1 hd pf (by exact Mi.la [_] [([11,3,0],[2])] ([3,3,0],[2]) rfl hsz) fun h' T' oT' ts' Tn e2 d2 f1 f2 f3 f4 f5 f6=>?_
   have T12:Turn fm.stk ([T]++[a]) s.heap h':=T1.trans Tn (fun U U U=>trivial) (fun b m=>.inr (by rw [List.mem_singleton.mp m];exact ⟨oe,vs,ha,hd,pf⟩)) (fun b m=>by
    rw [List.mem_singleton.mp m]
    have na:T∉frs fm.stk:=fun m=>by
     obtain ⟨_,o,ho,nf⟩:=Heap.FunFrames.mem F m
     rw [hT] at ho;cases ho;exact nf ts hdT
    rw [Tn.keep T _ e1 na fun q=>nTa (List.mem_singleton.mp q)];rfl)
   have hc0:∀ b∈[T]++[a],start.get? b=none:=fun b m=>by
    rcases List.mem_append.mp m with q | q
    ·rw [List.mem_singleton.mp q];exact nT
    ·rw [List.mem_singleton.mp q];exact hna
   have live1:∀ b,(s.heap.update T (Obj.mapFields (·.setIfInBounds 3 .none))).get? b=none->s.heap.get? b=none:=fun b q=>by
    by_cases z:b=T
    ·rw [z,e1] at q;cases q
    ·rwa [Heap.get?_update_other _ _ (Ne.symm z)] at q
   refine h h' ⟨I.inv.turn C.fm T12 fun b m=>hs0 b (hc0 b m),I.gens,I.os⟩ (R.turn T12 hc0) ⟨a,_,_,rfl,e2,(Obj.cls_mapFields _ _).trans hc,d2,by simpa using hsz,hna,?_,?_,?_⟩
   ·rw [Array.getElem?_setIfInBounds_ne (by decide)];exact harg.turn T12
   ·exact ⟨T',oT',ts',(by simp [show 1<vs.size by exact Mi.la [_] [([11,3,0],[2])] ([3,3,0],[2]) rfl hsz]:(vs.setIfInBounds 1 (Value.ref T'))[1]? = some (Value.ref T')),f2,f3,f4,f5,R.live T' (live1 T' f1),f6⟩
   ·rw [Array.getElem?_setIfInBounds_ne (by decide)];exact hctx
private theorem B4 (C:Ctx W fm n A)(I:InvS W fm α ps s)(R:Rel fm.stk own W0 start s.heap)(hs0:∀ b,start.get? b=none->W.h₀.get? b=none)(X:RaisedN W start s.heap e x)(fl:Option Addr){Q:Unit->Shared->Prop}{E:Value->Shared->Prop}
  (h:∀ h',InvS W fm α ps { s with heap:=h' }->Rel fm.stk own W0 start h'->RaisedN W start h' e x->Q () { s with heap:=h' }):wpAny W.m A (setFlight x fl) Q E s:=by
 obtain ⟨a,oe,vs,rfl,ha,hc,hd,hsz,hna,harg,⟨T,oT,ts,q,nTa,hT,hdT,h3,nT,pT⟩,hctx⟩:=X
 have F:=I.inv.frames
 unfold setFlight
 refine wpAny_bind (wpAny_field ha hd q ?_)
 rw [if_pos (show (Value.ref T != Value.none)=true from by simp)]
 refine wpAny_setField hT hdT h3 ?_
 obtain ⟨T1,e1,d1⟩:=Turn.set (fm:=fm) F hT hdT pT (·.setIfInBounds 3 (fl.elim Value.none fun f=>rawInt f))
 have hc0:∀ b∈[T],start.get? b=none:=fun b m=>by rw [List.mem_singleton.mp m];exact nT
 refine h _ ⟨I.inv.turn C.fm T1 fun b m=>hs0 b (hc0 b m),I.gens,I.os⟩ (R.turn T1 hc0) ⟨a,oe,vs,rfl,(Heap.get?_update_other _ _ nTa).trans ha,hc,hd,hsz,hna,harg.turn T1,?_,hctx⟩
 exact ⟨T,_,_,q,nTa,e1,d1,by simpa using h3,nT,by unfold Cl;rw [Obj.cls_mapFields];exact pT⟩
private theorem SameBut.rel {a:Addr}(S:Heap.SameBut a h h')(ha:(h'.get? a).isSome=true)(m:a∈own)(stk:List Env)(α:List Addr):Rel stk own α h h':=
 ⟨fun b o e U h2 U=>(S.2 b fun q=>h2 (q▸m)).trans e,fun b o e U h2 U=>⟨o.slots,(S.2 b fun q=>h2 (q▸m)).trans e⟩,fun b e=>by
  by_cases q:b=a
  ·rw [q] at e;rw [e] at ha;cases ha
  ·rw [<- S.2 b q];exact e⟩
private theorem Ir {a:Addr}(S:Heap.SameBut a h h')(ha:a∈fm.av)(hα:∀ b∈α,b≠a):(∀ {p:PV} {v:Value},RepV H h₀ fm.av α h p v->RepV H h₀ fm.av α h' p v)/\∀ {l:List PV} {vs:List Value},RepL H h₀ fm.av α h l vs->RepL H h₀ fm.av α h' l vs:=by
 refine CN (fun b vs hn hi=>⟨hn,?_⟩) (fun i a hi=>hi) fun b o es ep hn ho hx hd=>⟨hn,(S.2 _ fun q=>hn (by rw [q];exact ha)).trans ho⟩
 obtain ⟨o,e1,e2⟩:=hi
 exact ⟨o,(S.2 _ fun q=>hn (by rw [q];exact ha)).trans e1,e2⟩
private theorem RepV.same {a:Addr}(S:Heap.SameBut a h h')(ha:a∈fm.av)(hα:∀ b∈α,b≠a){p:PV}{v:Value}(x:RepV H h₀ fm.av α h p v):RepV H h₀ fm.av α h' p v:=(Ir S ha hα).1 x
private theorem RepL.same {a:Addr}(S:Heap.SameBut a h h')(ha:a∈fm.av)(hα:∀ b∈α,b≠a){l:List PV}{vs:List Value}(x:RepL H h₀ fm.av α h l vs):RepL H h₀ fm.av α h' l vs:=(Ir S ha hα).2 x
private theorem OptRep.same {a:Addr}(S:Heap.SameBut a h h')(ha:a∈fm.av)(hα:∀ b∈α,b≠a){p:Option PV}{v:Option Value}(x:OptRep H h₀ fm.av α h p v):OptRep H h₀ fm.av α h' p v:=x.map fun r=>r.same S ha hα
private theorem Inv.mine (F:FmOk h₀ fm)(I:Inv H h₀ fm α ps h){a:Addr}(S:Heap.SameBut a h h')(ha:a∈fm.av)(hs:(h'.get? a).isSome=true)(nf:∀ o,h.get? a=some o->(∀ vs,o.data≠.fields vs)/\∃ o',h'.get? a=some o'/\∀ vs,o'.data≠.fields vs){ps':PS}(hst:ps'.st=ps.st)
  (loc:∃ m,h'.Ns fm.env.locals m/\∀ x i,(x,NameKind.local,i)∈fm.sc->OptRep H h₀ fm.av α h' (ps'.loc i) (m x))
  (cel:∀ x k i,(x,k,i)∈fm.sc->(k = .cell\/k = .free)->∃ c v,fm.env.cells.lookup x=some c/\c∈fm.av/\c≠fm.env.locals/\h'.IsCell c v/\OptRep H h₀ fm.av α h' (ps'.loc i) v):Inv H h₀ fm α ps' h':=by
 have hα:∀ b∈α,b≠a:=fun b m q=>I.lists.apart b m (q▸ha)
 refine ⟨fun b o e=>(S.2 b fun q=>?_).trans (I.base b o e),loc,cel,⟨by rw [hst];exact I.lists.len,fun i l e=>?_,I.lists.nodup,I.lists.fresh,I.lists.apart⟩,fun b m=>?_,?_,fun P hP=>(I.tabs P hP).same S fun o vs e=>(nf o e).1 vs⟩
 ·rw [q,F.fresh a ha] at e;cases e
 ·rw [hst] at e
  obtain ⟨b,vs,h1,h2,h3⟩:=I.lists.at_ i l e
  obtain ⟨k,e1⟩:=h2
  exact ⟨b,vs,h1,⟨k,(S.2 b (hα b (List.mem_of_getElem? h1))).trans e1⟩,RepL.same S ha hα h3⟩
 ·by_cases q:b=a
  ·rw [q];exact hs
  ·rw [S.2 b q];exact I.live b m
 ·have go:∀ l:List Env,h.FunFrames ⟨#[],{}⟩ l->h'.FunFrames ⟨#[],{}⟩ l:=by
   intro l
   induction l with
   | nil=>exact fun U=>trivial
   | cons env rest ih=>
    rintro ⟨h1,⟨L,o,h2,h3,h4,h5⟩,h6⟩
    refine ⟨h1,?_,ih h6⟩
    by_cases q:L=a
    ·obtain ⟨_,o',e1,e2⟩:=nf o (q▸h4)
     exact ⟨L,o',h2,h3,by rw [q];exact e1,e2⟩
    ·exact ⟨L,o,h2,h3,(S.2 L q).trans h4,h5⟩
  exact go _ I.frames
private theorem B6 {x:Str}{k:NameKind}{i:Nat}(C:Ctx W fm n A)(I:InvS W fm α ps s)(hm:(x,k,i)∈fm.sc)(hk:k = .local\/k = .cell){p:PV}{v:Value}(r:W.rep fm α s.heap p v){Q:Unit->Shared->Prop}{E:Value->Shared->Prop}
  (h:∀ s',InvS W fm α { ps with loc:=fun j=>if j=i then some p else ps.loc j } s'->Rel fm.stk fm.own α s.heap s'.heap->Q () s'):wpAny W.m A (storeName fm.env x v) Q E s:=by
 have kd:=C.fm.kindX hm (by rcases hk with rfl | rfl <;> decide)
 rcases hk with rfl | rfl
 ·obtain ⟨m,n1,n2⟩:=I.inv.loc
  refine wpAny_storeName_local kd n1 (fun h' hn S=>?_) (by simp [C.fm.kind])
  have hα:∀ b∈α,b≠fm.env.locals:=fun b m q=>I.inv.lists.apart b m (q▸C.fm.locAv)
  obtain ⟨o',es,ep,e1,e2,e3⟩:=id hn
  have live:(h'.get? fm.env.locals).isSome=true:=by rw [e1];rfl
  refine h _ ⟨I.inv.mine C.fm S C.fm.locAv live (fun o eo=>⟨(fun vs q=>by obtain ⟨oo,_,_,f1,f2,_⟩:=n1;rw [eo] at f1;cases f1;rw [f2] at q;cases q),o',e1,fun vs q=>by rw [e2] at q;cases q⟩) rfl ⟨_,hn,fun y j hy=>?_⟩ fun y kk j hy hkk=>?_,I.gens,I.os⟩ (SameBut.rel S live C.fm.locOwn _ _)
  ·by_cases q:y=x
   ·have:=(C.fm.once _ _ _ _ _ _ hy hm).mpr q
    subst q this
    simp only [if_true]
    exact .some (r.same S C.fm.locAv hα)
   ·have:j≠i:=fun z=>q ((C.fm.once _ _ _ _ _ _ hy hm).mp z)
    simp only [if_neg q,if_neg this]
    exact (n2 y j hy).same S C.fm.locAv hα
  ·obtain ⟨c,v,q1,q2,q3,⟨o,q4,q4'⟩,q5⟩:=I.inv.cel y kk j hy hkk
   refine ⟨c,v,q1,q2,q3,⟨o,(S.2 c q3).trans q4,q4'⟩,?_⟩
   have:j≠i:=fun z=>by
    have:=(C.fm.once _ _ _ _ _ _ hy hm).mp z
    subst this
    have k1:=C.fm.kinds _ _ _ hy
    rw [kd] at k1
    rcases k1 with k1 | ⟨_,k1⟩
    ·cases k1
     rcases hkk with q | q <;> cases q
    ·cases k1
   simp only [if_neg this]
   exact q5.same S C.fm.locAv hα
 ·obtain ⟨c,v0,q1,q2,q3,q4,q5⟩:=I.inv.cel x .cell i hm (.inl rfl)
  refine wpAny_storeName_cell C.fm.kind kd q1 q4 fun h' hc S=>?_
  have hα:∀ b∈α,b≠c:=fun b m q=>I.inv.lists.apart b m (q▸q2)
  obtain ⟨o',e1,e2⟩:=id hc
  have live:(h'.get? c).isSome=true:=by rw [e1];rfl
  refine h _ ⟨I.inv.mine C.fm S q2 live (fun o eo=>⟨(fun vs q=>by obtain ⟨oo,f1,f2⟩:=q4;rw [eo] at f1;cases f1;rw [f2] at q;cases q),o',e1,fun vs q=>by rw [e2] at q;cases q⟩) rfl ?_ fun y kk j hy hkk=>?_,I.gens,I.os⟩ (SameBut.rel S live (C.fm.cellOwn x i c hm q1) _ _)
  ·obtain ⟨m,⟨o,es,ep,n1,n2,n3⟩,n4⟩:=I.inv.loc
   refine ⟨m,⟨o,es,ep,(S.2 _ (Ne.symm q3)).trans n1,n2,n3⟩,fun y j hy=>?_⟩
   have:j≠i:=fun z=>by
    have:=(C.fm.once _ _ _ _ _ _ hy hm).mp z
    subst this
    have k1:=C.fm.kindX hy (by decide)
    rw [kd] at k1
    cases k1
   simp only [if_neg this]
   exact (n4 y j hy).same S q2 hα
  ·obtain ⟨c',v',r1,r2,r3,⟨o,r4,r4'⟩,r5⟩:=I.inv.cel y kk j hy hkk
   by_cases q:c'=c
   ·subst q
    have:=C.fm.cellApart _ _ _ _ _ _ _ hy hm r1 q1
    subst this
    have:=(C.fm.once _ _ _ _ _ _ hy hm).mpr rfl
    subst this
    exact ⟨c',some v,r1,r2,r3,hc,by simp only [if_true];exact .some (r.same S q2 hα)⟩
   ·have:j≠i:=fun z=>by
     have:=(C.fm.once _ _ _ _ _ _ hy hm).mp z
     subst this
     rw [q1] at r1;exact q (Option.some.inj r1).symm
    refine ⟨c',v',r1,r2,r3,⟨o,(S.2 c' q).trans r4,r4'⟩,?_⟩
    simp only [if_neg this]
    exact r5.same S q2 hα
private theorem Rel.up (r:Rel fm.stk fm.tab α h h'):Rel fm.stk fm.own α h h':=r.mono fun U q=>List.mem_append_left _ q
private theorem Rs (op:Operator){a b:PV}{va vb:Value}(C:Ctx W fm n A)(I:InvS W fm α ps s)(ra:W.rep fm α s.heap a va)(rb:W.rep fm α s.heap b vb)(ns:CO op a b ps≠.stuck):Aj W fm A α ps s (inplaceOp op va vb) (CO op a b):=by
 cases op with
 | Add=>
  have ns':PD a b ps≠.stuck:=ns
  show Aj W fm A α ps s _ (PD a b)
  rcases PE ns' with ⟨_,_,rfl,rfl⟩ | ⟨_,_,rfl,rfl⟩
  ·obtain ⟨_,rfl⟩:=ra.inv;obtain ⟨_,rfl⟩:=rb.inv;exact AutoIntOps.iadd_0 (OkE.same I (.int _ _))
  ·obtain ⟨_,rfl⟩:=ra.inv;obtain ⟨_,rfl⟩:=rb.inv
   exact Aj.str I ns' fun hl Q E h=>SB.iadd (fun t' k=>Dm _ _▸h k t') (by rw [Ao,Ao,<- List.length_append];exact hl)
 | Sub=>
  obtain ⟨i,j,rfl,rfl⟩:=Bs (show Br _ a b ps≠.stuck from ns)
  obtain ⟨_,rfl⟩:=ra.inv;obtain ⟨_,rfl⟩:=rb.inv
  exact AutoIntOps.isub_0 (OkE.same I (.int _ _))
 | FloorDiv=>
  obtain ⟨i,j,rfl,rfl⟩:=Bs (show Br _ a b ps≠.stuck from ns)
  obtain ⟨_,rfl⟩:=ra.inv;obtain ⟨_,rfl⟩:=rb.inv
  have ns':M.orStuck (j != 0&&Ai j) (M.ret (PV.int (i.fdiv j))) ps≠.stuck:=ns
  obtain ⟨c,e⟩:=Af ns'
  refine Aj.congr (m':=M.ret (PV.int (i.fdiv j))) e ?_
  rw [Bool.and_eq_true] at c
  exact AutoIntOps.ifloordiv_1 (by simpa using c.1) (by rw [DW c.2];exact Bool.false_ne_true) (OkE.same I (.int _ _))
 | _=>exact absurd rfl ns
private theorem Iu {x:Str}{k:NameKind}{i:Nat}{p pos:Pos}{v:Expr}{m:M PV}(hm:(x,k,i)∈fm.sc)(hk:k = .local\/k = .cell)(hv:SimE W n fm v m)(hs:∀ env,swapsWith v (some (.Name x p)) pos.line env=pure false) :
  SimT W n fm (.Assign [.Name x p] v pos) (M.bind m fun a=>M.bind (M.setL i a) fun U=>M.ret .next):=.mk fun A α ps s C I ns=>by
 refine wpAny_Assign_Name (Aj.seq (hv A α ps s C I (Ab ns)) (fun a va α₁ o0 c0 s0 d0 l0 ra u0=>?_) fun x c0 q=>q.toS.bind) (hs _)
 rw [Aa u0]
 refine B6 C s0 hm hk ra fun s' I' R'=>?_
 exact OkS.after ⟨.next,_,α₁,rfl,I',.refl ..,R',.next⟩ d0 l0.up
private theorem NN {x:Str}{k:NameKind}{i:Nat}{p pos:Pos}{op:Operator}{v:Expr}{m:M PV}(hm:(x,k,i)∈fm.sc)(hk:k = .local\/k = .cell)(hc:(x==("__classdict__":Str))=false)(hv:SimE W n fm v m) :
  SimT W n fm (.AugAssign (.Name x p) op v pos) (M.bind (M.getL i) fun a=>M.bind m fun b=>M.bind (CO op a b) fun r=>M.bind (M.setL i r) fun U=>M.ret .next):=.mk fun A α ps s C I ns=>by
 obtain ⟨a,ea,ea'⟩:=Hq (Ab ns)
 rw [Aa ea'] at ns ⊢
 refine wpAny_AugAssign_Name (Fv C I hm (by rcases hk with q | q <;> simp [q]) hc ea fun va ra=>?_)
 refine Aj.seq (hv A α ps s C I (Ab ns)) (fun b vb α₁ o0 c0 s0 d0 l0 rb u0=>?_) fun x c0 q=>q.toS.bind
 rw [Aa u0] at ns ⊢
 refine Aj.seq (Rs op C s0 (I.stays C l0 d0 ra) rb (Ab ns)) (fun r vr z0 X0 y0 Z0 U0 V0 rr Y0=>?_) fun x c0 q=>(q.bind.after d0 l0).toS
 rw [Aa Y0]
 refine B6 C Z0 hm hk rr fun s' I' R'=>?_
 exact (OkS.after ⟨.next,_,z0,rfl,I',.refl ..,R',.next⟩ U0 V0.up).after d0 l0.up
private theorem AC {v:Expr}{pos:Pos}{m:M PV}(hv:SimE W n fm v m):SimT W n fm (.Return (some v) pos) (M.bind m fun a=>M.ret (.ret a)):=.mk fun A α ps s C I ns=>by
 refine wpAny_Return_some (Aj.seq (hv A α ps s C I (Ab ns)) (fun a va α₁ o0 c0 s0 d0 l0 ra u0=>?_) fun x c0 q=>q.toS.bind)
 rw [Aa u0]
 exact ⟨.ret a,o0,α₁,rfl,s0,d0,l0.up,.ret ra⟩
private theorem LR {v:Expr}{pos:Pos}{m:M PV}(hv:SimE W n fm v m)(hi:∀ env:Env,env.scope.kind = .function->interactive env=false)(hs:∀ env,swapsWith v none pos.line env=pure false):SimT W n fm (.Expr v pos) (M.bind m fun U=>M.ret .next):=.mk fun A α ps s C I ns=>by
 refine wpAny_Expr_any (Aj.seq (hv A α ps s C I (Ab ns)) (fun a va α₁ o0 c0 s0 d0 l0 ra u0=>?_) fun x c0 q=>q.toS.bind) (hi _ C.fm.kind) (hs _)
 rw [Aa u0]
 exact ⟨.next,o0,α₁,rfl,s0,d0,l0.up,.next⟩
private theorem Es {pos:Pos}:SimT W n fm (.Continue pos) (M.ret .cont):=.mk fun A α ps s C I ns=>wpAny_Continue ⟨.cont,ps,α,rfl,I,.refl ..,.refl ..,.cont⟩
private theorem AD:SimS W n fm [] (M.ret .next):=.mk fun A α ps s C I ns=>wpAny_execs_nil ⟨.next,ps,α,rfl,I,.refl ..,.refl ..,.next⟩
private theorem Ac {st:Stmt}{b:List Stmt}{m r:M PFlow}(hm:SimT W n fm st m)(hr:SimS W n fm b r):SimS W n fm (st::b) (M.thenS m r):=.mk fun A α ps s C I ns=>by
 unfold M.thenS at ns ⊢
 refine wpAny_execs_cons (wpAny_mono (hm A α ps s C I (Ab ns)) (fun f c0 q=>?_) fun x c0 q=>q.bind)
 obtain ⟨f,o0,α₁,u0,s0,d0,l0,rf⟩:=q
 rw [Aa u0] at ns ⊢
 cases rf with
 | next=>exact wpAny_mono (hr A α₁ o0 c0 C s0 ns) (fun U U q=>q.after d0 l0) fun U U q=>q.after d0 l0
 | brk=>exact ⟨.brk,o0,α₁,rfl,s0,d0,l0,.brk⟩
 | cont=>exact ⟨.cont,o0,α₁,rfl,s0,d0,l0,.cont⟩
 | ret r=>exact ⟨.ret _,o0,α₁,rfl,s0,d0,l0,.ret r⟩
private theorem JP (m:M PFlow):M.thenS m (M.ret .next)=m:=by
 funext ps
 unfold M.thenS M.bind
 cases m ps with
 | ok f s=>cases f <;> rfl
 | ex e s=>rfl
 | stuck=>rfl
private theorem Ah {st:Stmt}{m:M PFlow}(hm:SimT W n fm st m):SimS W n fm [st] m:=by
 have:=Ac hm (AD (W:=W) (n:=n) (fm:=fm))
 rwa [JP] at this
private theorem AG {t:Expr}{b o:List Stmt}{pos:Pos}{mt:M Bool}{mb mo:M PFlow}(ht:SimB W n fm t mt)(hb:SimS W n fm b mb)(ho:SimS W n fm o mo):SimT W n fm (.If t b o pos) (M.bind mt fun c=>if c then mb else mo):=.mk fun A α ps s C I ns=>by
 refine wpAny_If (wpAny_mono (ht A α ps s C I (Ab ns)) (fun c c0 z=>?_) fun x c0 z=>z.toS.bind)
 obtain ⟨o0,α₁,u0,s0,d0,l0⟩:=z
 rw [Aa u0] at ns ⊢
 cases c
 ·exact wpAny_mono (ho A α₁ o0 c0 C s0 ns) (fun U U q=>q.after d0 l0.up) fun U U q=>q.after d0 l0.up
 ·exact wpAny_mono (hb A α₁ o0 c0 C s0 ns) (fun U U q=>q.after d0 l0.up) fun U U q=>q.after d0 l0.up
inductive ExN (W:Wd)(fm:Fm)(α:List Addr)(h:Heap)(r:R PFlow)(x:Value)(s':Shared):Prop
 | mk (e:PX) (ps':PS) (α':List Addr) (k1:r = .ex e ps') (k2:InvS W fm α' ps' s') (k3:Grow α α' h) (k4:Rel fm.stk fm.own α h s'.heap) (k5:RaisedN W h s'.heap e x):ExN W fm α h r x s'
noncomputable def Hw (W:Wd)(fm:Fm)(α:List Addr)(h:Heap)(r:R PFlow):Result->Shared->Prop
 | .ok f,s'=>OkS W fm α h r f s'
 | .error x,s'=>ExN W fm α h r x s'
private theorem InvS.none (I:InvS W fm α ps s):∀ b,s.heap.get? b=none->W.h₀.get? b=none:=fun b q=>by
 cases z:W.h₀.get? b with
 | none=>rfl
 | some o=>rw [I.inv.base b o z] at q;cases q
private theorem D1 {r:R PFlow}(C:Ctx W fm n A)(hs0:∀ b,h.get? b=none->W.h₀.get? b=none)(q:ExS W fm α h r x s):notedBy W.m A fm.env (fun e s'=>Hw W fm α h r (.error e) s') x s:=by
 obtain ⟨e,ps',α',er,I,g,R,X⟩:=q
 unfold notedBy
 exact Fc C I R hs0 X fun h' I' R' X'=>⟨e,ps',α',er,I',g,R',X'⟩
private theorem Fd {r:R PFlow}(C:Ctx W fm n A)(hs0:∀ b,h.get? b=none->W.h₀.get? b=none)(q:Hw W fm α h r (.error x) s):cameBackBy W.m A fm.env (ExS W fm α h r) x s:=by
 obtain ⟨e,ps',α',er,I,g,R,X⟩:=q
 have X':=X
 obtain ⟨a,oe,vs,rfl,ha,hc,hd,hsz,hna,harg,⟨T,oT,ts,q,nTa,hT,hdT,h3,nT,pT⟩,hctx⟩:=X'
 unfold cameBackBy
 refine wpAny_bind (wpAny_field ha hd q ?_)
 rw [if_neg (show ¬ ((Value.ref T==Value.none)=true) from by simp)]
 refine B4 C I R hs0 X _ fun h' I' R' X'=>?_
 exact ⟨e,ps',α',er,I',g,R',X'.raised⟩
private theorem FE {t:Expr}{b:List Stmt}{pos:Pos}{mt:M Bool}{mb:M PFlow}(ht:SimB W n fm t mt)(hb:SimS W n fm b mb)(K:Nat):SimT W n fm (.While t b [] pos) (M.whileN mt mb K):=.mk fun A α ps s C I ns=>by
 have hs0:=I.none
 refine wpAny_While (codeAny_mono (R:=Hw W fm α s.heap (M.whileN mt mb K ps)) ?_ fun r s' q=>?_)
 ·refine codeAny_whileLoop (fun k s'=>∃ ps' α',M.whileN mt mb K ps=M.whileN mt mb k ps'/\InvS W fm α' ps' s'/\Grow α α' s.heap/\Rel fm.stk fm.own α s.heap s'.heap) ?_ K ⟨ps,α,rfl,I,.refl ..,.refl ..⟩
  rintro k c0 ⟨o0,α₁,u0,s0,d0,l0⟩
  rw [u0] at ns ⊢
  cases k with
  | zero=>exact absurd rfl ns
  | succ k=>
   have ns':M.bind mt (fun c=>if c then M.bind mb fun f=>match f with
    | .next=>M.whileN mt mb k
    | .cont=>M.whileN mt mb k
    | .brk=>M.ret .next
    | .ret v=>M.ret (.ret v)
    else M.ret .next) o0≠.stuck:=ns
   have eq:M.whileN mt mb (k+1) o0=M.bind mt (fun c=>if c then M.bind mb fun f=>match f with
    | .next=>M.whileN mt mb k
    | .cont=>M.whileN mt mb k
    | .brk=>M.ret .next
    | .ret v=>M.ret (.ret v)
    else M.ret .next) o0:=rfl
   refine wpAny_mono (ht A α₁ o0 c0 C s0 (Ab ns')) (fun c y0 z=>?_) fun x y0 z=>D1 C hs0 (by rw [eq];exact ExS.after z.toS.bind d0 l0)
   obtain ⟨X0,z0,Y0,Z0,U0,V0⟩:=z
   rw [Aa Y0] at ns' eq
   have g12:=d0.trans U0 l0
   have x12:=l0.trans V0.up d0.new
   cases c with
   | false=>
    simp only [Bool.false_eq_true,if_false] at eq ⊢
    rw [eq]
    exact wpAny_execs_nil ⟨.next,X0,z0,rfl,Z0,g12,x12,.next⟩
   | true=>
    simp only [if_true] at eq ns' ⊢
    refine wpAny_mono (hb A z0 X0 y0 C Z0 (Ab ns')) (fun f V1 z=>?_) fun x V1 z=>D1 C hs0 (by rw [eq];exact ExS.after z.bind g12 x12)
    obtain ⟨f,u3,V3,W2,U1,Z1,w2,rf⟩:=z
    rw [Aa W2] at ns' eq
    have g123:=g12.trans Z1 x12
    have x123:=x12.trans w2 g12.new
    cases rf with
    | next=>exact ⟨k,Nat.lt_succ_self k,u3,V3,eq,U1,g123,x123⟩
    | cont=>exact ⟨k,Nat.lt_succ_self k,u3,V3,eq,U1,g123,x123⟩
    | brk=>rw [eq];exact ⟨.next,u3,V3,rfl,U1,g123,x123,.next⟩
    | ret r=>rw [eq];exact ⟨.ret _,u3,V3,rfl,U1,g123,x123,.ret r⟩
 ·cases r with
  | ok f=>exact q
  | error x=>exact Fd C hs0 q
end
noncomputable def BM:List String:=["list_iterator", "str_ascii_iterator", "str_iterator", "range_iterator"]
structure ItOk (W:Wd)(fm:Fm)(W0:List Addr)(I:Addr)(get:Nat->M (Option PV))(St:Nat->Heap->Prop):Prop where
 self:∀ (A:Around) s k (Q:Value->Shared->Prop) (E:Value->Shared->Prop),St k s.heap->Q (.ref I) s->wpAny W.m A (pyIter (.ref I)) Q E s
 stay:∀ k h h',St k h->(∀ o,h.get? I=some o->h'.get? I=some o)->St k h'
 flds:∀ k h,St k h->∃ o vs,h.get? I=some o/\o.data = .fields vs/\∃ c,o.cls = .type c/\c∈BM
 next:∀ (fm:Fm) (A:Around) α ps s k (Q:Option Value->Shared->Prop) (E:Value->Shared->Prop),A.handled=none->W0 <+: α->FmOk W.h₀ fm->InvS W fm α ps s->St k s.heap->get k ps≠.stuck ->
  (∀ o r h' tk,get k ps = .ok o ps->(∀ b ob,b≠I->s.heap.get? b=some ob->h'.get? b=some ob)->(match (generalizing:=false) o,r with
   | none,none=>True
   | some p,some v=>W.rep fm α h' p v/\St (k+1) h'
   | _,_=>False)->Q r { s with heap:=h',toks:=tk })->wpAny W.m A (pyNext (.ref I)) Q E s
private theorem ItOk.to {W:Wd}{fm:Fm}{W0:List Addr}{I:Addr}{get:Nat->M (Option PV)}{St:Nat->Heap->Prop}(x:ItOk W fm W0 I get St)(fm':Fm):ItOk W fm' W0 I get St:=⟨x.self,x.stay,x.flds,x.next⟩
inductive ItRes (W:Wd)(fm:Fm)(α:List Addr)(h:Heap)(r:R (Nat->M (Option PV)))(it:Value)(y0:Shared):Prop
 | mk (get:Nat->M (Option PV)) (ps':PS) (α':List Addr) (I:Addr) (St:Nat->Heap->Prop) (k1:r = .ok get ps') (k2:it = .ref I) (k3:InvS W fm α' ps' y0) (k4:Grow α α' h) (k5:Rel fm.stk fm.tab α h y0.heap) (k6:h.get? I=none) (k7:I∉fm.av) (k8:ItOk W fm α' I get St) (k9:St 0 y0.heap):ItRes W fm α h r it y0
noncomputable abbrev SimI.T (W:Wd)(n:Nat)(fm:Fm)(e:Expr)(mi:M (Nat->M (Option PV))):Prop:=∀ A α ps s,Ctx W fm n A->InvS W fm α ps s->mi ps≠.stuck->wpAny W.m A (eval e fm.env) (fun x c0=>wpAny W.m A (pyIter x) (fun it y0=>
  ItRes W fm α s.heap (mi ps) it y0) (ExE W fm α s.heap (mi ps)) c0) (ExE W fm α s.heap (mi ps)) s
structure SimI (W:Wd)(n:Nat)(fm:Fm)(e:Expr)(mi:M (Nat->M (Option PV))):Prop where
 go:SimI.T W n fm e mi
noncomputable instance {W:Wd} {n:Nat} {fm:Fm} {e:Expr} {mi:M (Nat->M (Option PV))}:CoeFun (SimI W n fm e mi) (fun U=>SimI.T W n fm e mi):=⟨SimI.go⟩
section
variable {W:Wd}{fm:Fm}{α α' α₁ W0:List Addr}{h h' h₁ start:Heap}{n:Nat}{A:Around}{ps ps':PS}{s s':Shared}{H:Hd}{h₀:Heap}{own:List Addr}{e:PX}{x:Value}{I:Addr}
private theorem Turn0.one (F:h.FunFrames ⟨#[],{}⟩ fm.stk)(hI:∃ o vs,h.get? I=some o/\o.data = .fields vs/\∃ c,o.cls = .type c/\c∈BM)(k:∀ b o,b≠I->h.get? b=some o->h'.get? b=some o):Turn0 fm.stk [I] h h':=by
 obtain ⟨oI,vs,eI,dI,ci,hci,hw⟩:=hI
 have nf:∀ b o,h.get? b=some o->(∀ vs,o.data≠.fields vs)->h'.get? b=some o:=fun b o e q=>k b o (fun z=>by rw [z,eI] at e;cases e;exact q vs dI) e
 exact ⟨fun b o e U m=>k b o (fun z=>m (by rw [z];exact List.mem_singleton_self _)) e,fun b o e U m=>⟨o.slots,k b o (fun z=>m (by rw [z];exact List.mem_singleton_self _)) e⟩,
  F.of_keeps fun b o e q=>⟨o,nf b o e q,rfl⟩,fun b m=>by rw [List.mem_singleton.mp m];exact ⟨oI,vs,eI,dI,by unfold Cl;rw [hci];exact ⟨(fun q=>(by cases q)),fun q=>absurd (Value.type.inj q▸hw) (by decide)⟩⟩⟩
private theorem ItOk.list {i:Nat}{ax:Addr}(hi:α[i]? = some ax)(hne:ax≠I):ItOk W fm α I (BB (.lst i)) (fun k h=>h.IsListIter I ax k) where
 self:=fun A s k Q E st h=>wpAny_pyIter_listiter st h
 stay:=fun k h h' st q=>by obtain ⟨o,e,r⟩:=st;exact ⟨o,q o e,r⟩
 flds:=fun k h st=>by obtain ⟨o,e,c,d⟩:=st;exact ⟨o,_,e,d,_,c,by simp [BM]⟩
 next:=by
  intro fm A α' ps s k Q E hh hp F J st ns hQ
  have ns':M.bind (M.getLst i) (fun l=>M.ret l[k]?) ps≠.stuck:=ns
  obtain ⟨l,e1,e2⟩:=AQ (Ab ns')
  have e3:BB (.lst i) k ps = .ok l[k]? ps:=Aa e2
  obtain ⟨a,vs,h1,h2',h3⟩:=J.inv.lists.at_ i l e1
  have h2:=h2'.isList
  have:a=ax:=by
   obtain ⟨t,rfl⟩:=hp
   rw [List.getElem?_append_left (List.getElem?_eq_some_iff.mp hi).1,hi] at h1
   exact (Option.some.inj h1).symm
  subst this
  obtain ⟨oI,eI,cI,dI⟩:=id st
  cases q:l[k]? with
  | none=>
   refine wpAny_pyNext_list_end hh st h2 ?_ fun h' S=>?_
   ·rw [List.getElem?_toArray,List.getElem?_eq_none_iff,<- h3.length];exact List.getElem?_eq_none_iff.mp q
   ·exact hQ none none h' _ (by rw [e3,q]) S trivial
  | some p=>
   obtain ⟨v,hv,r⟩:=h3.get k p q
   refine wpAny_pyNext_list_item st h2 (x:=v) (by simpa using hv) fun h' st' S=>?_
   have kk:∀ b o,b≠I->s.heap.get? b=some o->h'.get? b=some o:=fun b o z e=>(S.2 b z).trans e
   exact hQ (some p) (some v) h' _ (by rw [e3,q]) kk ⟨RepV.turn (Turn0.one J.inv.frames ⟨oI,_,eI,dI,_,cI,by simp [BM]⟩ kk) F.frsAv r,st'⟩
private theorem ItOk.ints {l:List Int}{a:Addr}{vs:Array Value}(hl:W.h₀.IsList a vs)(hv:IntsAre vs.toList l)(hne:a≠I):ItOk W fm α I (BB (.ints l)) (fun k h=>h.IsListIter I a k) where
 self:=fun A s k Q E st h=>wpAny_pyIter_listiter st h
 stay:=fun k h h' st q=>by obtain ⟨o,e,r⟩:=st;exact ⟨o,q o e,r⟩
 flds:=fun k h st=>by obtain ⟨o,e,c,d⟩:=st;exact ⟨o,_,e,d,_,c,by simp [BM]⟩
 next:=by
  intro fm A α' ps s k Q E hh hp F J st ns hQ
  have hl':s.heap.IsList a vs:=by obtain ⟨o,e,r⟩:=hl;exact ⟨o,J.inv.base _ _ e,r⟩
  have len:vs.size=l.length:=by rw [<- Array.length_toList];exact hv.length
  cases q:l[k]? with
  | none=>
   refine wpAny_pyNext_list_end hh st hl' ?_ fun h' S=>?_
   ·rw [Array.getElem?_eq_none_iff,len];exact List.getElem?_eq_none_iff.mp q
   ·exact hQ none none h' _ (by show R.ok ((l[k]?).map PV.int) ps=_;rw [q];rfl) S trivial
  | some i=>
   obtain ⟨t,ht⟩:=hv.get k _ q
   refine wpAny_pyNext_list_item st hl' (x:=.int i t) (by rw [<- Array.getElem?_toList];exact ht) fun h' st' S=>?_
   exact hQ (some (.int i)) (some (.int i t)) h' _ (by show R.ok ((l[k]?).map PV.int) ps=_;rw [q];rfl) (fun b o z e=>(S.2 b z).trans e) ⟨.int i t,st'⟩
private theorem ItOk.strA {x:Txt}{t:Tok}:ItOk W fm α I (BB (.str x)) (fun k h=>h.IsStrIter I "str_ascii_iterator" (txt x) t k) where
 self:=fun A s k Q E st h=>wpAny_pyIter_striter_ascii st h
 stay:=fun k h h' st q=>by obtain ⟨o,e,r⟩:=st;exact ⟨o,q o e,r⟩
 flds:=fun k h st=>by obtain ⟨o,e,c,d⟩:=st;exact ⟨o,_,e,d,_,c,by simp [BM]⟩
 next:=by
  intro fm A α' ps s k Q E hh hp F J st ns hQ
  cases q:x[k]? with
  | none=>
   refine wpAny_pyNext_ascii_end hh st (by simp [txt];exact List.getElem?_eq_none_iff.mp q) fun h' S=>?_
   exact hQ none none h' _ (by show R.ok ((x[k]?).map _) ps=_;rw [q];rfl) S trivial
  | some c=>
   refine wpAny_pyNext_ascii_item st (c:=c) (by simp [txt,q]) fun h' st' S=>?_
   exact hQ (some (.str [c])) (some _) h' _ (by show R.ok ((x[k]?).map _) ps=_;rw [q];rfl) (fun b o z e=>(S.2 b z).trans e) ⟨.str [c] _,st'⟩
private theorem ItOk.strW {x:Txt}{t:Tok}:ItOk W fm α I (BB (.str x)) (fun k h=>h.IsStrIter I "str_iterator" (txt x) t k) where
 self:=fun A s k Q E st h=>wpAny_pyIter_striter_wide st h
 stay:=fun k h h' st q=>by obtain ⟨o,e,r⟩:=st;exact ⟨o,q o e,r⟩
 flds:=fun k h st=>by obtain ⟨o,e,c,d⟩:=st;exact ⟨o,_,e,d,_,c,by simp [BM]⟩
 next:=by
  intro fm A α' ps s k Q E hh hp F J st ns hQ
  cases q:x[k]? with
  | none=>
   refine wpAny_pyNext_wide_end hh st (by simp [txt];exact List.getElem?_eq_none_iff.mp q) fun h' S=>?_
   exact hQ none none h' _ (by show R.ok ((x[k]?).map _) ps=_;rw [q];rfl) S trivial
  | some c=>
   refine wpAny_pyNext_wide_item st (c:=c) (by simp [txt,q]) fun h' st' S=>?_
   exact hQ (some (.str [c])) (some _) h' _ (by show R.ok ((x[k]?).map _) ps=_;rw [q];rfl) (fun b o z e=>(S.2 b z).trans e) ⟨.str [c] _,st'⟩
private theorem ItOk.rng {a b:Int}:ItOk W fm α I (BI a b) (fun k h=>IsRangeIter h I (a+k) ((if a<b then b - a else 0) - k) 1) where
 self:=fun A s k Q E st h=>wpAny_pyIter_rangeiter st h
 stay:=fun k h h' e q=>q _ e
 flds:=fun k h e=>⟨_,_,e,rfl,_,rfl,by simp [BM]⟩
 next:=by
  intro fm A α' ps s k Q E hh hp F J st ns hQ
  by_cases q:(k:Int)<b - a
  ·have hab:a<b:=by lia
   rw [if_pos hab] at st
   refine wpAny_pyNext_range_item st (by lia) fun h' st' S=>?_
   refine hQ (some (.int (a+k))) (some _) h' _ (by show R.ok (if _ then _ else _) ps=_;rw [if_pos q]) (fun b o z e=>(S.2 b z).trans e) ⟨.int _ _,?_⟩
   show IsRangeIter h' I (a+((k+1:Nat):Int)) ((if a<b then b - a else 0) - ((k+1:Nat):Int)) 1
   rw [if_pos hab,show a+((k+1:Nat):Int)=a+k+1 by lia,show (b - a - ((k+1:Nat):Int))=b - a - k - 1 by lia]
   exact st'
  ·refine wpAny_pyNext_range_end hh st (by split <;> lia) fun h' S=>?_
   exact hQ none none h' _ (by show R.ok (if _ then _ else _) ps=_;rw [if_neg q]) S trivial
private theorem Bl (I:InvS W fm α ps s)(o:Obj):InvS W fm α ps { s with heap:=s.heap.push o }:=⟨I.inv.keeps fun U U e=>Heap.get?_push_of_some o e,I.gens,I.os⟩
private theorem BE (r:Rel fm.stk own α start s.heap)(o:Obj):Rel fm.stk own α start (s.heap.push o):=r.trans (.of_keeps (α:=α) fun U U e=>Heap.get?_push_of_some o e) fun a m q=>absurd m q
set_option tactic.hygienic true in
private theorem Iv {e:Expr}{m:M PV}(he:SimE W n fm e m):SimI W n fm e (M.bind m No):=.mk fun A α ps s C I ns=>by
 refine Aj.seq (he A α ps s C I (Ab ns)) (fun p v α₁ o0 c0 s0 d0 l0 S0 u0=>?_) fun x c0 q=>q.bind
 rw [Aa u0] at ns
 have fresh:s.heap.get? c0.heap.objs.size=none:=l0.live _ (Av _)
 have nav:c0.heap.objs.size∉fm.av:=AR s0 (Av _)
 have ne:∀ a o,c0.heap.get? a=some o->a≠c0.heap.objs.size:=fun a o q z=>by rw [z,Av] at q;cases q
 cases p <;> (try exact absurd rfl ns)
 ·rename_i t
  obtain ⟨tk,rfl⟩:=S0.inv
  cases ha:(txt t).cps.all (· < 128)
  ·exact wpAny_pyIter_wide ha ⟨_,o0,α₁,c0.heap.objs.size,_,(Aa u0).trans rfl,rfl,Bl s0 _,d0,BE l0 _,fresh,nav,ItOk.strW,⟨_,Heap.get?_push_size _ rfl,rfl,rfl⟩⟩
  ·exact wpAny_pyIter_ascii ha ⟨_,o0,α₁,c0.heap.objs.size,_,(Aa u0).trans rfl,rfl,Bl s0 _,d0,BE l0 _,fresh,nav,ItOk.strA,⟨_,Heap.get?_push_size _ rfl,rfl,rfl⟩⟩
 ·rename_i i
  obtain ⟨a,rfl,hi⟩:=S0.inv
  ·have hl:∃ vs,c0.heap.IsList a vs:=s0.inv.lists.isList (List.mem_of_getElem? hi)
   obtain ⟨vs,hl⟩:=hl
   have nI:a≠c0.heap.objs.size:=by obtain ⟨o,q,_⟩:=hl;exact ne a o q
   exact wpAny_pyIter_list hl ⟨_,o0,α₁,c0.heap.objs.size,_,(Aa u0).trans rfl,rfl,Bl s0 _,d0,BE l0 _,fresh,nav,ItOk.list hi nI,⟨_,Heap.get?_push_size _ rfl,rfl,rfl⟩⟩
 ·rename_i l
  obtain ⟨a,vs,rfl,hl,hv⟩:=S0.inv
  ·have hl':c0.heap.IsList a vs:=by obtain ⟨o,q,r⟩:=hl;exact ⟨o,s0.inv.base _ _ q,r⟩
   have nI:a≠c0.heap.objs.size:=by obtain ⟨o,q,_⟩:=hl';exact ne a o q
   exact wpAny_pyIter_list hl' ⟨_,o0,α₁,c0.heap.objs.size,_,(Aa u0).trans rfl,rfl,Bl s0 _,d0,BE l0 _,fresh,nav,ItOk.ints hl hv nI,⟨_,Heap.get?_push_size _ rfl,rfl,rfl⟩⟩
private theorem Iw {i:Int}(h:Ai i=true):-(2 ^ 62:Int)<=i/\i<2 ^ 62:=by
 unfold Ai at h
 rw [decide_eq_true_eq] at h
 have:((2:Int) ^ 62)=4611686018427387904:=by decide
 omega
private theorem LT {l:List PV}(ns:BX l ps≠.stuck):(∃ b,l=[.int b])\/∃ a b,l=[.int a,.int b]:=by
 obtain ⟨x,e⟩:=AF ns
 rcases PF e with ⟨e,_⟩ | ⟨a,e,_⟩
 ·exact .inl ⟨_,e⟩
 ·exact .inr ⟨_,_,e⟩
private theorem DE {x:Str}{i:Nat}{np pos:Pos}{es:List Expr}{ms:List (M PV)}(hm:(x,NameKind.globalImplicit,i)∈fm.sc)(hf:x∈Bo)(hn:x≠"__name__")(hd:(x==("__debug__":Str))=false)(hb:bootBuiltins x=some (.type "range"))
  (q:SimL W n fm es ms):SimI W n fm (.Call (.Name x np) es [] pos) (M.bind (M.seq ms) BX):=.mk fun A α ps s C I ns=>by
 show wpAny W.m A (do callWith pos (<- eval (.Name x np) fm.env) [] (backTo pos (starEach es fm.env)) (backToKw pos (keywordEach [] fm.env))) _ _ s
 refine wpAny_bind (BD C I hf hn hb hm hd ?_)
 refine PySem.callWith_type (q.plain _) (AV (q.plain _) (wpAny_mono (Co q A α ps s C I (Ab ns)) (fun vs c0 z=>?_) fun x c0 z=>z.bind))
 obtain ⟨l,o0,α₁,u0,s0,d0,l0,S0⟩:=z
 rw [Aa u0] at ns
 have fin:∀ (o:Obj) (a b:Int) (t u v:Tok) tk,o = { cls:=.type "range",data:=.fields #[.int a t,.int b u,.int 1 v] }->Ai a=true->Ai b=true->BX l o0 = .ok (BI a b) o0 ->
   wpAny W.m A (pyIter (.ref c0.heap.objs.size)) (fun it y0=>ItRes W fm α s.heap (M.bind (M.seq ms) BX ps) it y0)
    (ExE W fm α s.heap (M.bind (M.seq ms) BX ps)) { c0 with heap:=c0.heap.push o,toks:=tk }:=by
  rintro o a b t u v tk rfl ha hb' er
  have a62:=Iw ha
  have b62:=Iw hb'
  have I2:=(Bl s0 { cls:=.type "range",data:=.fields #[.int a t,.int b u,.int 1 v] }).tok tk
  refine wpAny_pyIter_range (s:={ c0 with heap:=c0.heap.push { cls:=.type "range",data:=.fields #[.int a t,.int b u,.int 1 v] },toks:=tk }) (IsRange.new ..) (small_one a62.1 a62.2 b62.1 b62.2) ?_
  refine ⟨BI a b,o0,α₁,_,_,(Aa u0).trans er,rfl,Bl I2 _,d0,BE (s:={ c0 with heap:=c0.heap.push _,toks:=tk }) (BE l0 _) _,?_,AR I2 (Av _),ItOk.rng (a:=a) (b:=b),?_⟩
  ·exact (BE l0 { cls:=.type "range",data:=.fields #[.int a t,.int b u,.int 1 v] }).live _ (Av _)
  ·show IsRangeIter _ _ (a+((0:Nat):Int)) _ _
   rw [show a+((0:Nat):Int)=a by lia,show ((if a<b then b - a else 0) - ((0:Nat):Int))=Builtin.Range.rangeSize a b 1 by rw [rangeSize_one];lia]
   exact Heap.get?_push_size _ rfl
 have ns1:BX l o0≠.stuck:=ns
 rcases LT ns1 with ⟨b,rfl⟩ | ⟨a,b,rfl⟩
 ·obtain ⟨_,_,rfl,r,rs⟩:=S0.inv
  obtain ⟨t,rfl⟩:=r.inv
  obtain rfl:=rs.inv
  have ns':M.orStuck (Ai b) (M.ret (BI 0 b)) o0≠.stuck:=ns
  obtain ⟨c,e⟩:=Af ns'
  exact call_range_1 (fin _ 0 b _ _ _ _ rfl (by decide) c e)
 ·obtain ⟨_,_,rfl,r,rs⟩:=S0.inv
  obtain ⟨_,_,rfl,r',rs2⟩:=rs.inv
  obtain rfl:=rs2.inv
  obtain ⟨t,rfl⟩:=r.inv
  obtain ⟨u,rfl⟩:=r'.inv
  have ns':M.orStuck (Ai a&&Ai b) (M.ret (BI a b)) o0≠.stuck:=ns
  obtain ⟨c,e⟩:=Af ns'
  rw [Bool.and_eq_true] at c
  exact call_range_2 (fin _ a b _ _ _ _ rfl c.1 c.2 e)
end
section
variable {prog:Program}{w:World}{A:Around}{E:Value->Shared->Prop}{s:Shared}
private theorem LU {it t:Addr}{items:Array Value}(hne:t≠it):∀ (n i:Nat) (s:Shared) (Q:List Value->Shared->Prop),s.heap.IsListIter it t i->s.heap.IsList t items->i+n<=items.size ->
  (∀ h',h'.IsListIter it t (i+n)->Heap.SameBut it s.heap h'->Q ((items.toList.drop i).take n) { s with heap:=h' })->wpAny (model prog w) A (draw (.ref it) n) Q E s:=by
 intro n
 induction n with
 | zero=>
  intro i s Q hit _ _ hQ
  show wpAny _ _ (pure []) Q E s
  exact wpAny_pure (by simpa using hQ s.heap hit (Heap.SameBut.refl ..))
 | succ n ih=>
  intro i s Q hit ht hle hQ
  have hlt:i<items.size:=by exact Mi.la [_,_,_] [([2,4,3,0,0],[6])] ([2,3,0],[6]) rfl hle
  show wpAny _ _ (pyNext (.ref it) >>= _) Q E s
  refine wpAny_bind (wpAny_pyNext_list_item hit ht (x:=items[i]) (by simp [hlt]) fun h₁ Y5 Y2=>?_)
  refine wpAny_bind (wpAny_holding (ih (i+1) _ _ Y5 (ht.extBut Y2.extBut hne) (by exact Mi.la [_,_,_] [([2,4,3,0,0],[6])] ([2,3,0,4,0],[6]) rfl hle) fun w1 f7 Z5=>wpAny_pure ?_))
  have hd:items.toList.drop i=items[i]::items.toList.drop (i+1):=by simp [List.drop_eq_getElem_cons,hlt]
  have:=hQ w1 (by rw [show i+(n+1)=i+1+n by exact Nat.le_antisymm (Mi.la [_,_] [] ([2,4,3,0,0],[2,3,0,4,0]) rfl) (Mi.la [_,_] [] ([2,3,0,4,0],[2,4,3,0,0]) rfl)];exact f7) (Y2.trans Z5)
  rw [hd,List.take_succ_cons] at this
  exact this
private theorem Et {t:Addr}{items:Array Value}{Q:List Value->Shared->Prop}(hh:A.handled=none)(ht:s.heap.IsList t items)
  (hQ:∀ h',Heap.ExtBut s.heap.objs.size s.heap h'->Q items.toList { s with heap:=h' }):wpAny (model prog w) A (unpackItems (.ref t) items.size none) Q E s:=by
 have hlt:t≠s.heap.objs.size:=by obtain ⟨o,ho,_⟩:=ht;exact Nat.ne_of_lt (Heap.lt_size ho)
 unfold unpackItems
 refine wpAny_bind ?_
 ·unfold notIterableAtAll
  refine wpAny_bind (wpAny_specialOf ht.typeIs slot_list_iter.lookup ?_)
  refine wpAny_pure ?_
  simp only [Bool.false_eq_true,if_false]
  refine wpAny_bind (wpAny_holding (wpAny_pyIter_list ht ?_))
  refine wpAny_bind (wpAny_holding (LU hlt items.size 0 _ _ ⟨_,Heap.get?_push_size _ rfl,rfl,rfl⟩ (ht.push _) (by exact Mi.la [_] [] ([1,2,0],[2]) rfl) fun h₁ Y5 Y2=>?_))
  have hall:List.take items.size (List.drop 0 items.toList)=items.toList:=by
   rw [List.drop_zero];exact List.take_of_length_le (by simp)
  rw [hall]
  rw [if_neg (by simp)]
  have g7:h₁.IsList t items:=(ht.push _).extBut Y2.extBut hlt
  refine wpAny_bind (wpAny_holding (wpAny_pyNext_list_end hh Y5 g7 (by simp) fun w1 i7=>?_))
  simp only [Option.isSome_none,Bool.false_eq_true,if_false]
  refine wpAny_pure (hQ w1 fun b o hb e=>i7 b o hb (Y2.extBut b o hb (Heap.get?_push_of_some _ e)))
end
inductive OkG (W:Wd)(fm:Fm)(α:List Addr)(h:Heap)(r:R Unit)(s':Shared):Prop
 | mk (ps':PS) (k1:r = .ok () ps') (k2:InvS W fm α ps' s') (k3:Rel fm.stk fm.own α h s'.heap):OkG W fm α h r s'
noncomputable abbrev SimG.T (W:Wd)(n:Nat)(fm:Fm)(t:Expr)(f:PV->M Unit):Prop:=∀ A α ps s p v,Ctx W fm n A->InvS W fm α ps s->W.rep fm α s.heap p v->f p ps≠.stuck->wpAny W.m A (assign t fm.env v) (fun U s'=>OkG W fm α s.heap (f p ps) s') (fun U U=>False) s
structure SimG (W:Wd)(n:Nat)(fm:Fm)(t:Expr)(f:PV->M Unit):Prop where
 go:SimG.T W n fm t f
noncomputable instance {W:Wd} {n:Nat} {fm:Fm} {t:Expr} {f:PV->M Unit}:CoeFun (SimG W n fm t f) (fun U=>SimG.T W n fm t f):=⟨SimG.go⟩
inductive SimGs (W:Wd)(n:Nat)(fm:Fm):List Expr->List (PV->M Unit)->Prop
 | nil:SimGs W n fm [] []
 | cons {t:Expr} {f:PV->M Unit} {ts:List Expr} {fs:List (PV->M Unit)} (x:SimG W n fm t f) (hs:∀ rest env,assignEach (t::rest) env=(false,assign t env)::assignEach rest env) (r:SimGs W n fm ts fs):SimGs W n fm (t::ts) (f::fs)
section
variable {W:Wd}{fm:Fm}{α α' α₁ W0:List Addr}{h h' h₁ start:Heap}{n:Nat}{A:Around}{ps ps':PS}{s s':Shared}{H:Hd}{h₀:Heap}{own:List Addr}{e:PX}{x:Value}{I:Addr}
private theorem LV {x:Str}{k:NameKind}{i:Nat}{p:Pos}(hm:(x,k,i)∈fm.sc)(hk:k = .local\/k = .cell):SimG W n fm (.Name x p) (M.setL i):=.mk fun A α ps s q v C J r ns=>
 wpAny_assign_Name (B6 C J hm hk r fun s' J' R'=>⟨_,rfl,J',R'⟩)
private theorem SimGs.plain:∀ {ts:List Expr} {fs:List (PV->M Unit)},SimGs W n fm ts fs->∀ env,(assignEach ts env).length=fs.length/\(assignEach ts env).findIdx? (·.1)=none:=by
 intro _ _ hS
 induction hS with
 | nil=>
  intro env
  exact ⟨rfl,rfl⟩
 | @cons t f ts fs x hs r ih=>
  intro env
  obtain ⟨h1,h2⟩:=ih env
  rw [hs]
  exact ⟨by simp [h1],by simp [List.findIdx?_cons,h2]⟩
set_option tactic.hygienic true in
private theorem PM (C:Ctx W fm n A):∀ {ts:List Expr} {fs:List (PV->M Unit)},SimGs W n fm ts fs->∀ (l:List PV) (vs:List Value) (ps:PS) (s:Shared),InvS W fm α ps s->RepL W.H W.h₀ fm.av α s.heap l vs->M.each fs l ps≠.stuck ->
  wpAny W.m A (assignInOrder ((assignEach ts fm.env).map (·.2)) vs) (fun U s'=>OkG W fm α s.heap (M.each fs l ps) s') (fun U U=>False) s:=by
 intro _ _ hS
 induction hS with
 | nil=>
  intro l vs ps s J r ns
  cases r with
  | nil=>exact assignInOrder_nil ⟨ps,rfl,J,.refl ..⟩
  | cons r rs=>exact absurd rfl ns
 | @cons t f ts fs x hs q ih=>
  intro l vs ps s J r ns
  cases r with
  | nil=>exact absurd rfl ns
  | cons r rs=>
   rename_i p v l vs
   have ns':M.bind (f p) (fun U=>M.each fs l) ps≠.stuck:=ns
   have eq:M.each (f::fs) (p::l) ps=M.bind (f p) (fun U=>M.each fs l) ps:=rfl
   rw [hs,eq]
   refine assignInOrder_cons (wpAny_mono (x A α ps s p v C J r (Ab ns')) (fun U c0 z=>?_) fun U U z=>z.elim)
   obtain ⟨o0,u0,j4,U2⟩:=z
   rw [Aa u0] at ns' ⊢
   refine wpAny_mono (ih l vs o0 c0 j4 (RepL.stays J.inv.lists U2 (List.prefix_refl _) C.fm.frsAv C.fm.ownAv rs) ns') (fun U y0 z=>?_) fun U U z=>z
   obtain ⟨X0,Y0,T4,W3⟩:=z
   exact ⟨X0,Y0,T4,U2.trans W3 fun a m q=>absurd m q⟩
private theorem Rt {l:List PV}{v:Value}(r:W.rep fm α h (.tup l) v):∃ a vs,v = .ref a/\IsTup h a vs.toArray/\RepL W.H W.h₀ fm.av α h l vs:=by
 obtain ⟨_,_,rfl,_,hi,rs⟩:=r.inv
 exact ⟨_,_,rfl,hi,rs⟩
private theorem Inv.extBut (J:InvS W fm α ps s)(he:Heap.ExtBut s.heap.objs.size s.heap h'):InvS W fm α ps { s with heap:=h' }/\∀ b o,s.heap.get? b=some o->h'.get? b=some o:=by
 have k:∀ b o,s.heap.get? b=some o->h'.get? b=some o:=fun b o e=>he b o (fun q=>by rw [q,Av] at e;cases e) e
 exact ⟨⟨J.inv.keeps k,J.gens,J.os⟩,k⟩
set_option tactic.hygienic true in
private theorem FF {fs:List (PV->M Unit)}{p:PV}{v:Value}(C:Ctx W fm n A)(hh:fm.hdl=none)(J:InvS W fm α ps s)(r:W.rep fm α s.heap p v)(ns:M.unpack fs p ps≠.stuck){Q:List Value->Shared->Prop}{E:Value->Shared->Prop}
  (hQ:∀ l vs h',M.unpack fs p ps=M.each fs l ps->l.length=fs.length->InvS W fm α ps { s with heap:=h' }->(∀ b o,s.heap.get? b=some o->h'.get? b=some o)->RepL W.H W.h₀ fm.av α h' l vs->Q vs { s with heap:=h' }):wpAny W.m A (unpackItems v fs.length none) Q E s:=by
 have hA:A.handled=none:=C.hdl.trans hh
 cases p <;> (try exact absurd rfl ns)
 ·rename_i l
  have ns':M.orStuck (l.length==fs.length) (M.each fs l) ps≠.stuck:=ns
  obtain ⟨c,e⟩:=Af ns'
  have c':l.length=fs.length:=by simpa using c
  obtain ⟨a,vs,rfl,hi,rs⟩:=Rt r
  have:fs.length=vs.toArray.size:=by rw [List.size_toArray,<- rs.length,c']
  rw [this]
  refine unpackItems_tuple hA hi fun h' he=>?_
  obtain ⟨J',k⟩:=Inv.extBut J he
  exact hQ l vs h' e c' J' k (rs.keeps k (List.prefix_refl _))
 ·rename_i i
  have ns':M.bind (M.getLst i) (fun l=>M.orStuck (l.length==fs.length) (M.each fs l)) ps≠.stuck:=ns
  obtain ⟨l,e1,e2⟩:=AQ (Ab ns')
  have e3:M.unpack fs (.lst i) ps=M.orStuck (l.length==fs.length) (M.each fs l) ps:=Aa e2
  rw [Aa e2] at ns'
  obtain ⟨c,e⟩:=Af ns'
  have c':l.length=fs.length:=by simpa using c
  obtain ⟨a,vs,rfl,hl,rs⟩:=Cm J r e1
  have:fs.length=vs.toArray.size:=by rw [List.size_toArray,<- rs.length,c']
  rw [this]
  refine Et hA hl fun h' he=>?_
  obtain ⟨J',k⟩:=Inv.extBut J he
  exact hQ l vs h' (e3.trans e) c' J' k (rs.keeps k (List.prefix_refl _))
private theorem JQ {ts:List Expr}{fs:List (PV->M Unit)}{k:Nat}{pos:Pos}(hh:fm.hdl=none)(q:SimGs W n fm ts fs):SimG W n fm (.Tuple ts k pos) (M.unpack fs):=.mk fun A α ps s p v C J r ns=>by
 obtain ⟨p1,p2⟩:=q.plain fm.env
 rw [PyProof.Rows.assign_Tuple]
 refine wpAny_bind (wpAny_standAt ?_)
 unfold unpack
 rw [p1,p2]
 refine wpAny_bind (wpAny_holding (FF C hh J r ns fun l vs h' e c J' k rs=>?_))
 rw [e] at ns ⊢
 refine wpAny_mono (PM C q l vs ps _ J' rs ns) (fun U c0 z=>?_) fun U U z=>z
 obtain ⟨o0,u0,j4,U2⟩:=z
 exact ⟨o0,u0,j4,(Rel.of_keeps k).trans U2 fun a m q=>absurd m q⟩
private theorem C7 {ts:List Expr}{fs:List (PV->M Unit)}{k:Nat}{tpos pos:Pos}{v:Expr}{m:M PV}(hh:fm.hdl=none)(q:SimGs W n fm ts fs)(hv:SimE W n fm v m)
  (hs:∀ env,swapsWithSole [.Tuple ts k tpos] v pos.line env=pure false) (hw:∀ env,swappedStores [.Tuple ts k tpos] v env=pure none) :
  SimT W n fm (.Assign [.Tuple ts k tpos] v pos) (M.bind m fun a=>M.bind (M.unpack fs a) fun U=>M.ret .next):=.mk fun A α ps s C J ns=>by
 refine Assign_Tuple (Aj.seq (hv A α ps s C J (Ab ns)) (fun a va α₁ o0 c0 j4 d0 l0 ra u0=>?_) fun x c0 q=>q.toS.bind) (hs _) (hw _)
 rw [Aa u0] at ns ⊢
 refine wpAny_mono (JQ hh q A α₁ o0 c0 a va C j4 ra (Ab ns)) (fun U y0 z=>?_) fun U U z=>z.elim
 obtain ⟨X0,Y0,T4,W3⟩:=z
 rw [Aa Y0]
 exact OkS.after ⟨.next,X0,α₁,rfl,T4,.refl ..,W3,.next⟩ d0 l0.up
private theorem LW {t:Expr}{I:Addr}{v:Value}{o:Obj}{vs:Array Value}{c:String}(ho:s.heap.get? I=some o)(hd:o.data = .fields vs)(hc:o.cls = .type c)(hw:c∈BM){Q:Unit->Shared->Prop}{E:Value->Shared->Prop}(h:Q () s):wpAny W.m A (letOwnedTupleGo t (.ref I) v) Q E s:=by
 have key:∀ a,(["enumerate", "zip", "dict_itemiterator", "dict_reverseitemiterator", "odict_iterator", "itertools.zip_longest", "itertools.pairwise"].contains c&&vs[0]?==some (rawInt a))=false:=fun a=>by
  have:["enumerate", "zip", "dict_itemiterator", "dict_reverseitemiterator", "odict_iterator", "itertools.zip_longest", "itertools.pairwise"].contains c=false:=by
   simp only [BM,List.mem_cons,List.not_mem_nil,or_false] at hw
   rcases hw with rfl | rfl | rfl | rfl <;> decide
  rw [this];rfl
 have go:∀ a,wpAny W.m A (do
   let o <- load I
   match o.cls,o.data with
   | .type n,.fields vs=>
    if ["enumerate", "zip", "dict_itemiterator", "dict_reverseitemiterator", "odict_iterator", "itertools.zip_longest", "itertools.pairwise"].contains n&&vs[0]?==some (rawInt a) then do
     rule "for.unpacks-the-owned-tuple"
     updateField I 0 .none
    else pure ()
   | _,_=>pure ():Sem Unit) Q E s:=fun a=>by
  refine wpAny_bind (wpAny_load ho ?_)
  rw [hc,hd]
  dsimp only
  rw [if_neg (by rw [key a];exact Bool.false_ne_true)]
  exact wpAny_pure h
 have two:wpAny W.m A (letOwnedTupleGo (.Tuple [] default default) (.ref I) v) Q E s:=by cases v <;> first | exact wpAny_pure h | exact go _
 cases t <;> first | exact wpAny_pure h | exact two
private theorem ItOk.notMem {get:Nat->M (Option PV)}{St:Nat->Heap->Prop}{k:Nat}(q:ItOk W fm α I get St)(F:FmOk W.h₀ fm)(J:InvS W fm α₁ ps s)(st:St k s.heap)(nav:I∉fm.av):I∉frs fm.stk/\I∉fm.own/\I∉α₁:=by
 refine ⟨fun m=>nav (F.frsAv _ m),fun m=>nav (F.ownAv _ m),fun m=>?_⟩
 obtain ⟨o,vs,e,d,_⟩:=q.flds _ _ st
 obtain ⟨ws,o',e',_,k,d'⟩:=J.inv.lists.isList m
 rw [e] at e';cases e'
 rw [d] at d';cases d'
private theorem ItOk.kept {get:Nat->M (Option PV)}{St:Nat->Heap->Prop}{k:Nat}(q:ItOk W fm W0 I get St)(F:FmOk W.h₀ fm)(J:InvS W fm α₁ ps s)(st:St k s.heap)(nav:I∉fm.av){own:List Addr}(ho:∀ b∈own,b∈fm.own)(R:Rel fm.stk own α₁ s.heap h'):St k h':=by
 obtain ⟨n1,n2,n3⟩:=q.notMem F J st nav
 exact q.stay k _ _ st fun o e=>R.keep I o e n1 (fun m=>n2 (ho _ m)) n3
private theorem ItOk.turned {get:Nat->M (Option PV)}{St:Nat->Heap->Prop}{k:Nat}(q:ItOk W fm W0 I get St)(F:FmOk W.h₀ fm)(J:InvS W fm α₁ ps s)(st:St k s.heap)(nav:I∉fm.av)(nb:W.h₀.get? I=none)
  {tk:Nat} (kk:∀ b ob,b≠I->s.heap.get? b=some ob->h'.get? b=some ob):InvS W fm α₁ ps { s with heap:=h',toks:=tk }:=by
 obtain ⟨o,vs,e,d,hc⟩:=q.flds _ _ st
 refine ⟨J.inv.turn0 F (Turn0.one J.inv.frames ⟨o,vs,e,d,hc⟩ kk) (fun b m mm=>?_) (fun b m=>?_),J.gens,J.os⟩
 ·rw [List.mem_singleton.mp m] at mm;exact absurd mm nav
 ·rw [List.mem_singleton.mp m];exact nb
private theorem Ix {t it:Expr}{b:List Stmt}{pos:Pos}{mi:M (Nat->M (Option PV))}{mt:PV->M Unit}{mb:M PFlow}(hh:fm.hdl=none)(hi:SimI W n fm it mi)(hg:SimG W n fm t mt)(hb:SimS W n fm b mb)(hs:∀ env x,foldedSetIterable it env x=pure x)(K:Nat) :
  SimT W n fm (.For t it b [] pos) (M.bind mi fun get=>M.forT get mt mb K 0):=.mk fun A α ps s C J ns=>by
 have hs0:=J.none
 have hA:A.handled=none:=C.hdl.trans hh
 refine wpAny_For (wpAny_mono (hi A α ps s C J (Ab ns)) (fun x c0 z=>wpAny_mono z (fun iv y0 z=>?_) fun x y0 z=>z.toS.bind) fun x y0 z=>z.toS.bind) (hs _)
 obtain ⟨get,X0,z0,I,St,Y0,rfl,T4,U0,V0,fresh,nav,it,st⟩:=z
 have nb:W.h₀.get? I=none:=hs0 _ fresh
 rw [Aa Y0] at ns ⊢
 generalize hR:M.forT get mt mb K 0 X0=R0 at ns ⊢
 refine codeAny_mono (R:=Hw W fm α s.heap R0) ?_ fun r s' q=>?_
 ·refine codeAny_forLoop_any (fun k s'=>∃ j ps' α',R0=M.forT get mt mb k j ps'/\InvS W fm α' ps' s'/\Grow α α' s.heap/\Rel fm.stk fm.own α s.heap s'.heap/\z0 <+: α'/\St j s'.heap) ?_ K ⟨0,X0,z0,hR.symm,T4,U0,V0.up,List.prefix_refl _,st⟩
  rintro k c0 ⟨j,o0,α₁,u0,j4,d0,l0,g6,i6⟩
  cases k with
  | zero=>exact absurd u0 ns
  | succ k=>
   have eq:R0=M.bind (get j) (fun o=>match o with
    | none=>M.ret .next
    | some p=>M.bind (mt p) fun U=>M.bind mb fun fl=>match fl with
     | .next=>M.forT get mt mb k (j+1)
     | .cont=>M.forT get mt mb k (j+1)
     | .brk=>M.ret .next
     | .ret v=>M.ret (.ret v)) o0:=u0
   refine it.next fm A α₁ o0 c0 j _ _ hA g6 C.fm j4 i6 (Ab (eq▸ns)) fun o r h' tk eo kk rr=>?_
   rw [Aa eo] at eq
   have J1':InvS W fm α₁ o0 { c0 with heap:=h',toks:=tk }:=it.turned C.fm j4 i6 nav nb kk
   have x1':Rel fm.stk fm.own α s.heap h':=by
    obtain ⟨ob,vs,eI,dI,hcl⟩:=it.flds _ _ i6
    exact l0.turn0 (Turn0.one j4.inv.frames ⟨ob,vs,eI,dI,hcl⟩ kk) fun b m=>by rw [List.mem_singleton.mp m];exact fresh
   cases o with
   | none=>
    cases r with
    | some _=>exact rr.elim
    | none=>exact wpAny_execs_nil ⟨.next,o0,α₁,eq,J1',d0,x1',.next⟩
   | some p=>
    cases r with
    | none=>exact rr.elim
    | some v=>
    obtain ⟨rp,st2⟩:=rr
    obtain ⟨ob,vs,eI,dI,c,hc,hw⟩:=it.flds _ _ st2
    refine LW (s:={ c0 with heap:=h',toks:=tk }) eI dI hc hw ?_
    have eq2:R0=M.bind (mt p) (fun U=>M.bind mb fun fl=>match fl with
     | .next=>M.forT get mt mb k (j+1)
     | .cont=>M.forT get mt mb k (j+1)
     | .brk=>M.ret .next
     | .ret v=>M.ret (.ret v)) o0:=eq
    refine wpAny_mono (hg A α₁ o0 { c0 with heap:=h',toks:=tk } p v C J1' rp (Ab (eq2▸ns))) (fun U V1 z=>?_) fun U U z=>z.elim
    obtain ⟨u3,W2,U6,v3⟩:=z
    rw [Aa W2] at eq2
    have st3:St (j+1) V1.heap:=it.kept C.fm J1' st2 nav (fun U q=>q) v3
    have x3:Rel fm.stk fm.own α s.heap V1.heap:=x1'.trans v3 d0.new
    refine wpAny_mono (hb A α₁ u3 V1 C U6 (Ab (eq2▸ns))) (fun f u4 z=>?_) fun x u4 z=>D1 C hs0 (ExS.after (eq2▸z.bind) d0 x3)
    obtain ⟨f,U4,V4,o5,U5,Y3,Z3,rf⟩:=z
    rw [Aa o5] at eq2
    have g4:=d0.trans Y3 x3
    have x4:=x3.trans Z3 d0.new
    have st4:St (j+1) u4.heap:=it.kept C.fm U6 st3 nav (fun U q=>q) Z3
    cases rf with
    | next=>exact ⟨k,Nat.lt_succ_self k,j+1,U4,V4,eq2,U5,g4,x4,g6.trans Y3.pre,st4⟩
    | cont=>exact ⟨k,Nat.lt_succ_self k,j+1,U4,V4,eq2,U5,g4,x4,g6.trans Y3.pre,st4⟩
    | brk=>exact ⟨.next,U4,V4,eq2,U5,g4,x4,.next⟩
    | ret r=>exact ⟨.ret _,U4,V4,eq2,U5,g4,x4,.ret r⟩
 ·cases r with
  | ok f=>exact q
  | error x=>exact Fd C hs0 q
end
structure Fi where
 scope:Scope
 body:List Stmt
 params:List Str
 sc:List (Str × NameKind × Nat)
structure Fi.Ok (fi:Fi):Prop where
 kind:fi.scope.kind = .function
 co:fi.scope.isCoroutine=false
 gen:fi.scope.isGenerator=false
 kinds:∀ x k i,(x,k,i)∈fi.sc->fi.scope.names.lookup x=some k
 once:∀ x k i y k' j,(x,k,i)∈fi.sc->(y,k',j)∈fi.sc->(i=j↔x=y)
 nodup:fi.params.Nodup
 parK:∀ p∈fi.params,fi.scope.names.lookup p=some .local\/fi.scope.names.lookup p=some .cell
 parI:∀ x k i,(x,k,i)∈fi.sc->k = .local\/k = .cell->∀ j,fi.params[j]? = some x↔(i=j/\j<fi.params.length)
 noFree:∀ x k i,(x,k,i)∈fi.sc->k≠.free
structure FnAt (h:Heap)(a:Addr)(fd:FuncData)(fi:Fi):Prop where
 obj:∃ o,h.get? a=some o/\o.data = .func fd
 scope:fd.scope=fi.scope
 body:fd.body = .stmts fi.body
 clo:fd.closure=[]
 glob:fd.globals=mainGlobals
 bi:fd.builtins=builtinsNs
 code:h.CodeRec fd.code fd.qualname
section
variable {W:Wd}{fm:Fm}{α α' α₁ W0:List Addr}{h h' h₁ start:Heap}{n:Nat}{A:Around}{ps ps':PS}{s s':Shared}{H:Hd}{h₀:Heap}{own av av':List Addr}{e:PX}{x:Value}{I:Addr}
private theorem Iy (k:∀ a∈av,a∈av'):(∀ {p:PV} {v:Value},RepV H h₀ av' α h p v->RepV H h₀ av α h p v)/\∀ {l:List PV} {vs:List Value},RepL H h₀ av' α h l vs->RepL H h₀ av α h l vs:=
 CN (fun a vs ha hi=>⟨fun q=>ha (k _ q),hi⟩) (fun i a hi=>hi) fun a o es ep ha ho hx hd=>⟨fun q=>ha (k _ q),ho⟩
private theorem RepV.weak (k:∀ a∈av,a∈av'){p:PV}{v:Value}(x:RepV H h₀ av' α h p v):RepV H h₀ av α h p v:=(Iy k).1 x
private theorem RepL.weak (k:∀ a∈av,a∈av'){l:List PV}{vs:List Value}(x:RepL H h₀ av' α h l vs):RepL H h₀ av α h l vs:=(Iy k).2 x
private theorem FG (k:∀ a∈av',a∈av\/h.get? a=Option.none):(∀ {p:PV} {v:Value},RepV H h₀ av α h p v->RepV H h₀ av' α h p v)/\∀ {l:List PV} {vs:List Value},RepL H h₀ av α h l vs->RepL H h₀ av' α h l vs:=by
 have k':∀ a o,a∉av->h.get? a=some o->a∉av':=fun a o ha e q=>(k a q).elim ha fun z=>nomatch z.symm.trans e
 exact CN (fun a vs ha hi=>⟨k' a _ ha hi.choose_spec.1,hi⟩) (fun i a hi=>hi) fun a o es ep ha ho hx hd=>⟨k' a o ha ho,ho⟩
private theorem RepV.strong (k:∀ a∈av',a∈av\/h.get? a=Option.none){p:PV}{v:Value}(x:RepV H h₀ av α h p v):RepV H h₀ av' α h p v:=(FG k).1 x
private theorem RepL.strong (k:∀ a∈av',a∈av\/h.get? a=none){l:List PV}{vs:List Value}(x:RepL H h₀ av α h l vs):RepL H h₀ av' α h l vs:=(FG k).2 x
private theorem Inv.carry (F:FmOk h₀ fm)(I:Inv H h₀ fm α ps h)(R:Rel fm.stk fm.tab α h h'){st':List (List PV)}(L':ListsAt H h₀ fm.av α' st' h')(g:Grow α α' h)(fr:h'.FunFrames ⟨#[],{}⟩ fm.stk)(tb:∀ P∈fm.tab,BR H h' P):Inv H h₀ fm α' ⟨ps.loc,st'⟩ h':=by
 have rep:=fun {p v}=>OptRep.stays (H:=H) (h₀:=h₀) (p:=p) (v:=v) I.lists R g.pre F.frsAv F.tabAv
 have at_:∀ b o,b∈fm.av->b∉fm.tab->h.get? b=some o->∃ sl,h'.get? b=some { o with slots:=sl }:=fun b o m nt e=>by
  by_cases q:b∈frs fm.stk
  ·exact R.slot b o e q nt fun z=>I.lists.apart b z m
  ·exact ⟨o.slots,R.keep b o e q nt fun z=>I.lists.apart b z m⟩
 have nt:∀ b o,h.get? b=some o->(∀ vs,o.data≠.fields vs)->b∉fm.tab:=fun b o e n m=>by
  obtain ⟨ps,e',_⟩:=I.tabs b m
  rw [e] at e';cases e';exact n ps rfl
 refine ⟨fun b o e=>R.keep b o (I.base b o e) (fun m=>?_) (fun m=>?_) (fun m=>?_),?_,?_,L',?_,fr,tb⟩
 ·rw [F.fresh b (F.frsAv b m)] at e;cases e
 ·rw [F.fresh b (F.tabAv b m)] at e;cases e
 ·rw [I.lists.fresh b m] at e;cases e
 ·obtain ⟨m,⟨o,es,ep,h1,h2,h3⟩,k⟩:=I.loc
  obtain ⟨sl,e⟩:=at_ _ _ F.locAv (nt _ _ h1 fun vs q=>by rw [h2] at q;cases q) h1
  exact ⟨m,⟨_,es,ep,e,h2,h3⟩,fun x i hm=>rep (k x i hm)⟩
 ·intro x k i hm hk
  obtain ⟨cc,v,h1,h2,h3,⟨o,e1,e2⟩,h5⟩:=I.cel x k i hm hk
  obtain ⟨sl,e⟩:=at_ _ _ h2 (nt _ _ e1 fun vs q=>by rw [e2] at q;cases q) e1
  exact ⟨cc,v,h1,h2,h3,⟨_,e,e2⟩,rep h5⟩
 ·intro a ha
  have:=I.live a ha
  cases q:h.get? a with
  | none=>rw [q] at this;cases this
  | some o=>
   by_cases z:a∈fm.tab
   ·obtain ⟨ps,e,_⟩:=tb a z
    rw [e];rfl
   ·obtain ⟨sl,e⟩:=at_ a o ha z q;rw [e];rfl
private theorem Iz {B:List (Str × Value)->(Str->Option Value)->Str->Option Value}{x:Str}(h0:∀ m,B [] m x=m x)(h1:∀ p v r m,∃ m',B ((p,v)::r) m x=B r m' x/\m' x=if p=x then some v else m x):∀ (ps:List Str) (vs:List Value) (m:Str->Option Value),ps.Nodup->ps.length=vs.length->∀ (i:Nat) (b:Bool),(∀ j,ps[j]? = some x↔(i=j/\b=true)) ->
  B (ps.zip vs) m x=if b then vs[i]? else m x:=by
 intro ps
 induction ps with
 | nil=>
  intro vs m _ _ i b hi
  cases b with
  | false=>exact h0 m
  | true=>have:=(hi i).mpr ⟨rfl,rfl⟩;injection this
 | cons p ps ih=>
  intro vs m nd hl i b hi
  cases vs with
  | nil=>injection hl
  | cons v vs=>
   have nd':=List.nodup_cons.mp nd
   have hl:=Nat.succ.inj hl
   obtain ⟨m',e,em⟩:=h1 p v (ps.zip vs) m
   refine Eq.trans e ?_
   by_cases q:p=x
   ·subst q
    obtain ⟨rfl,rfl⟩:=(hi 0).mp rfl
    rw [ih vs m' nd'.2 hl 0 false fun j=>⟨fun e=>absurd (List.mem_of_getElem? e) nd'.1,fun e=>(by have:=e.2;cases this)⟩]
    exact em.trans (if_pos rfl)
   ·rw [if_neg q] at em
    cases b with
    | false=>
     rw [ih vs m' nd'.2 hl i false fun j=>⟨fun e=>(by have:=((hi (j+1)).mp e).2;cases this),fun e=>(by have:=e.2;cases this)⟩]
     exact em
    | true=>
     cases i with
     | zero=>exact absurd (Option.some.inj ((hi 0).mpr ⟨rfl,rfl⟩)) q
     | succ i=>exact ih vs m' nd'.2 hl i true fun j=>⟨fun e=>⟨Nat.succ.inj ((hi (j+1)).mp e).1,rfl⟩,fun e=>(hi (j+1)).mpr ⟨congrArg Nat.succ e.1,rfl⟩⟩
private theorem LX (kindOf:Str->Option NameKind){x:Str}(hx:kindOf x=some .local):∀ (ps:List Str) (vs:List Value) (m:Str->Option Value),ps.Nodup->ps.length=vs.length->∀ (i:Nat) (b:Bool),(∀ j,ps[j]? = some x↔(i=j/\b=true)) ->
  bindL kindOf (ps.zip vs) m x=if b then vs[i]? else m x:=
 Iz (B:=bindL kindOf) (fun U=>rfl) fun p v r m=>⟨_,rfl,by
  by_cases q:p=x
  ·subst q;rw [if_pos hx,if_pos rfl]
  ·rw [if_neg q];split
   ·exact if_neg (Ne.symm q)
   ·rfl⟩
private theorem LY (kindOf:Str->Option NameKind){x:Str}(hx:kindOf x≠some .local):∀ (ps:List Str) (vs:List Value) (m:Str->Option Value),ps.Nodup->ps.length=vs.length->∀ (i:Nat) (b:Bool),(∀ j,ps[j]? = some x↔(i=j/\b=true)) ->
  bindC kindOf (ps.zip vs) m x=if b then vs[i]? else m x:=
 Iz (B:=bindC kindOf) (fun U=>rfl) fun p v r m=>⟨_,rfl,by
  by_cases q:p=x
  ·subst q;rw [if_neg hx,if_pos rfl]
  ·rw [if_neg q];split
   ·rfl
   ·exact if_neg (Ne.symm q)⟩
set_option tactic.hygienic true in
private theorem Bi {x:Str}:∀ (names:List (Str × NameKind)) (k:Nat) (acc:List (Str × Addr)),names.lookup x=some .cell\/(acc.lookup x).isSome=true->((cellsFrom k names acc).lookup x).isSome=true
 | [],k,acc,h=>by
  rcases h with h | h
  ·cases h
  ·exact h
 | (y,kd)::r,k,acc,h=>by
  unfold cellsFrom
  split
  ·refine Bi r _ _ ?_
   by_cases q:x=y
   ·subst q;right;simp
   ·rcases h with h | h
    ·left;rw [List.lookup_cons,show (x==y)=false from by simpa using q] at h;exact h
    ·right;rw [List.lookup_cons,show (x==y)=false from by simpa using q];exact h
  ·rename_i nk
   refine Bi r _ _ ?_
   by_cases q:x=y
   ·subst q
    rcases h with h | h
    ·simp at h;exact absurd (by rw [h];rfl) nk
    ·exact .inr h
   ·rcases h with h | h
    ·left;rw [List.lookup_cons,show (x==y)=false from by simpa using q] at h;exact h
    ·exact .inr h
end
noncomputable def A9 (fd:FuncData)(fi:Fi)(L a:Addr):Env:=newEnv fi.scope L mainGlobals (cellsFrom (L+1) fi.scope.names []) (fd.qualname++".<locals>.") (some a) fd.code none builtinsNs
noncomputable def Do (cs:List (Str × Addr)):List Addr:=cs.filterMap fun p=>cs.lookup p.1
private theorem BN {cs:List (Str × Addr)}{c:Addr}:c∈Do cs↔∃ y,cs.lookup y=some c:=by
 unfold Do
 rw [List.mem_filterMap]
 constructor
 ·rintro ⟨p,_,e⟩;exact ⟨p.1,e⟩
 ·rintro ⟨y,e⟩;exact ⟨(y,c),mem_of_lookup e,e⟩
noncomputable def AH (fm:Fm)(fd:FuncData)(fi:Fi)(L a:Addr):Fm:=
 { env:=A9 fd fi L a,stk:=A9 fd fi L a::fm.stk,av:=L::Do (cellsFrom (L+1) fi.scope.names [])++fm.av,own0:=L::Do (cellsFrom (L+1) fi.scope.names []),tab:=fm.tab,sc:=fi.sc,hdl:=fm.hdl }
section
variable {W:Wd}{fm:Fm}{α α' α₁ W0:List Addr}{h h' h₁ start:Heap}{n:Nat}{A:Around}{ps ps':PS}{s s' c0:Shared}{H:Hd}{h₀:Heap}{own av av':List Addr}{e:PX}{x:Value}{fd:FuncData}{fi:Fi}{a:Addr}{vs:List Value}{l:List PV}
private theorem InvS.free (I:InvS W fm α ps s){c:Addr}(hc:s.heap.objs.size<=c):s.heap.get? c=Option.none/\W.h₀.get? c=Option.none/\c∉fm.av:=by
 have h1:s.heap.get? c=Option.none:=Heap.get?_none_of_le hc
 refine ⟨h1,I.none c h1,fun m=>?_⟩
 have:=I.inv.live c m
 rw [h1] at this;cases this
private theorem Eu (X:InCallC s s.heap.objs.size m (cellsFrom (s.heap.objs.size+1) fi.scope.names []) cm c0):∀ b∈(AH fm fd fi s.heap.objs.size a).own0,s.heap.objs.size<=b:=by
 intro b hb
 rcases List.mem_cons.mp hb with q | q
 ·rw [q];exact Nat.le_refl _
 ·obtain ⟨y,hy⟩:=BN.mp q
  exact Nat.le_of_lt (X.above y b (mem_of_lookup hy))
private theorem FH (t1:∀ b∈fm.tab,b∈fm.av)(t2:∀ b∈frs fm.stk,b∈fm.av)(t3:∀ b∈fm.av,W.h₀.get? b=none)(I:InvS W fm α ps s)(ok:fi.Ok)
  (X:InCallC s s.heap.objs.size m (cellsFrom (s.heap.objs.size+1) fi.scope.names []) cm c0):FmOk W.h₀ (AH fm fd fi s.heap.objs.size a) where
 kind:=ok.kind
 glob:=rfl
 bi:=rfl
 locAv:=List.mem_cons_self ..
 locOwn:=List.mem_append_right _ (List.mem_cons_self ..)
 ownAv:=fun b m=>by
  rcases List.mem_append.mp m with m | m
  ·exact List.mem_append_right _ (t1 b m)
  ·exact List.mem_append_left _ m
 frsAv:=fun b m=>by
  rcases List.mem_cons.mp (show b∈s.heap.objs.size::frs fm.stk from m) with q | q
  ·rw [q];exact List.mem_append_left _ (List.mem_cons_self ..)
  ·exact List.mem_append_right _ (t2 b q)
 fresh:=fun b m=>by
  rcases List.mem_append.mp m with q | q
  ·exact (I.free (Eu (fm:=fm) (fd:=fd) (a:=a) X b q)).2.1
  ·exact t3 b q
 kinds:=fun x k i h=>.inl (ok.kinds x k i h)
 once:=ok.once
 cellOwn:=fun x i c hm hc=>List.mem_append_right _ (List.mem_cons_of_mem _ (BN.mpr ⟨x,hc⟩))
 cellApart:=fun x k i y k' j c h1 h2 h3 h4=>name_of_addr X.apart (mem_of_lookup h3) (mem_of_lookup h4)
 frame:=⟨_,_,rfl,rfl,rfl⟩
private theorem GJ (F:FmOk W.h₀ fm)(I:InvS W fm α ps s)(ok:fi.Ok)
  (X:InCallC s s.heap.objs.size m (cellsFrom (s.heap.objs.size+1) fi.scope.names []) cm c0):FmOk W.h₀ (AH fm fd fi s.heap.objs.size a):=FH F.tabAv F.frsAv F.fresh I ok X
private theorem DF (I:InvS W fm α ps s)(ok:fi.Ok)(hl:fi.params.length=vs.length)(rl:RepL W.H W.h₀ fm.av α s.heap l vs)
  (X:InCallC s s.heap.objs.size (bindL (A9 fd fi s.heap.objs.size a).kindOf (fi.params.zip vs) fun U=>none) (cellsFrom (s.heap.objs.size+1) fi.scope.names []) (bindC (A9 fd fi s.heap.objs.size a).kindOf (fi.params.zip vs) fun U=>none) c0) :
  InvS W (AH fm fd fi s.heap.objs.size a) α ⟨fun i=>l[i]?,ps.st⟩ c0:=by
 have kp:=X.toInCall.keep
 obtain ⟨w1,tk,rfl⟩:=X.toInCall.same
 have fr:∀ b∈(AH fm fd fi s.heap.objs.size a).av,b∈fm.av\/s.heap.get? b=none:=fun b m=>by
  rcases List.mem_append.mp m with q | q
  ·exact .inr (I.free (Eu (fm:=fm) (fd:=fd) (a:=a) X b q)).1
  ·exact .inl q
 have rl':RepL W.H W.h₀ (AH fm fd fi s.heap.objs.size a).av α w1 l vs:=(rl.strong fr).keeps kp (List.prefix_refl _)
 have arg:∀ i:Nat,OptRep W.H W.h₀ (AH fm fd fi s.heap.objs.size a).av α w1 (l[i]?) (vs[i]?):=fun (i:Nat)=>by
  cases q:(l[i]?) with
  | none=>
   rw [List.getElem?_eq_none_iff] at q
   rw [List.getElem?_eq_none_iff.mpr (by rw [<- rl.length];exact q)];exact .none
  | some p=>obtain ⟨v,hv,r⟩:=rl'.get i p q;rw [hv];exact .some r
 have argN:∀ i:Nat,¬ i<fi.params.length->l[i]? = none:=fun (i:Nat) q=>List.getElem?_eq_none_iff.mpr (by rw [rl.length,<- hl];exact Mi.la [_,_] [([2],[4])] ([2],[4]) rfl (Nat.not_lt.mp q))
 have par:∀ x k i,(x,k,i)∈fi.sc->k = .local\/k = .cell->∀ j,fi.params[j]? = some x↔(i=j/\decide (i<fi.params.length)=true):=fun x k i hm hk j=>by
  rw [ok.parI x k i hm hk j]
  constructor
  ·rintro ⟨rfl,q⟩;exact ⟨rfl,by simpa using q⟩
  ·rintro ⟨rfl,q⟩;exact ⟨rfl,by simpa using q⟩
 refine ⟨⟨fun b o e=>kp b o (I.inv.base b o e),⟨_,X.toInCall.ns,fun x i hm=>?_⟩,fun x k i hm hk=>?_,⟨I.inv.lists.len,fun i li e=>?_,I.inv.lists.nodup,I.inv.lists.fresh,fun b m q=>?_⟩,fun b m=>?_,?_,fun P hP=>(I.inv.tabs P hP).keeps kp⟩,I.gens,I.os⟩
 ·rw [LX _ (ok.kinds x _ i hm) _ _ _ ok.nodup hl i (decide (i<fi.params.length)) (par x _ i hm (.inl rfl))]
  show OptRep _ _ _ _ _ l[i]? _
  by_cases q:i<fi.params.length
  ·simp only [q,decide_true,if_true];exact arg i
  ·simp only [q,decide_false,Bool.false_eq_true,if_false];rw [argN i q];exact .none
 ·have hk:k = .cell:=hk.resolve_right (ok.noFree x k i hm)
  subst hk
  obtain ⟨c,hc⟩:=Option.isSome_iff_exists.mp (Bi (x:=x) fi.scope.names (s.heap.objs.size+1) [] (.inl (ok.kinds x _ i hm)))
  have kd:(A9 fd fi s.heap.objs.size a).kindOf x≠some .local:=by
   show fi.scope.names.lookup x≠_
   rw [ok.kinds x _ i hm];decide
  refine ⟨c,_,hc,List.mem_append_left _ (List.mem_cons_of_mem _ (BN.mpr ⟨x,hc⟩)),Nat.ne_of_gt (X.above x c (mem_of_lookup hc)),X.cell x c hc,?_⟩
  rw [LY _ kd _ _ _ ok.nodup hl i (decide (i<fi.params.length)) (par x _ i hm (.inr rfl))]
  show OptRep _ _ _ _ _ l[i]? _
  by_cases q:i<fi.params.length
  ·simp only [q,decide_true,if_true];exact arg i
  ·simp only [q,decide_false,Bool.false_eq_true,if_false];rw [argN i q];exact .none
 ·obtain ⟨b,ws,h1,⟨k,e1⟩,h3⟩:=I.inv.lists.at_ i li e
  exact ⟨b,ws,h1,⟨k,kp _ _ e1⟩,(h3.strong fr).keeps kp (List.prefix_refl _)⟩
 ·obtain ⟨ws,o,e1,_⟩:=I.inv.lists.isList m
  rcases fr b q with z | z
  ·exact I.inv.lists.apart b m z
  ·rw [z] at e1;cases e1
 ·rcases List.mem_append.mp m with q | q
  ·rcases List.mem_cons.mp q with q | q
   ·obtain ⟨o,es,ep,e1,_⟩:=X.toInCall.ns
    rw [q,e1];rfl
   ·obtain ⟨y,hy⟩:=BN.mp q
    obtain ⟨o,e1,_⟩:=X.cell y b hy
    rw [e1];rfl
  ·have:=I.inv.live b q
   cases z:s.heap.get? b with
   | none=>rw [z] at this;cases this
   | some o=>rw [kp b o z];rfl
 ·obtain ⟨o,es,ep,e1,e2,_⟩:=X.toInCall.ns
  refine ⟨by show fi.scope.kind≠_;rw [ok.kind];decide,⟨_,o,rfl,rfl,e1,fun vs q=>by rw [e2] at q;cases q⟩,?_⟩
  exact I.inv.frames.of_keeps fun b o e U=>⟨o,kp b o e,rfl⟩
private theorem Cj (F:FmOk W.h₀ fm)(I:InvS W fm α ps s)(X:InCallC s s.heap.objs.size m (cellsFrom (s.heap.objs.size+1) fi.scope.names []) cm c0)
  (I1:InvS W (AH fm fd fi s.heap.objs.size a) α' ps' s') (g:Grow α α' c0.heap) (R:Rel (AH fm fd fi s.heap.objs.size a).stk (AH fm fd fi s.heap.objs.size a).own α c0.heap s'.heap) :
  InvS W fm α' ⟨ps.loc,ps'.st⟩ s'/\Grow α α' s.heap/\Rel fm.stk fm.tab α s.heap s'.heap:=by
 have kp:=X.toInCall.keep
 have av:∀ b,b∈fm.av->b∈(AH fm fd fi s.heap.objs.size a).av:=fun b m=>List.mem_append_right _ m
 have nown:∀ b o,s.heap.get? b=some o->b∉fm.tab->b∉(AH fm fd fi s.heap.objs.size a).own:=fun b o e nt m=>by
  have m:=(List.mem_append.mp m).resolve_left nt
  have:=(I.free (Eu (fm:=fm) (fd:=fd) (a:=a) X b m)).1
  rw [this] at e;cases e
 have none':∀ b,c0.heap.get? b=none->s.heap.get? b=none:=fun b e=>by
  cases q:s.heap.get? b with
  | none=>rfl
  | some o=>rw [kp b o q] at e;cases e
 have nL:∀ b o,s.heap.get? b=some o->b≠s.heap.objs.size:=fun b o e q=>by rw [q,Av] at e;cases e
 have Rr:Rel fm.stk fm.tab α s.heap s'.heap:=by
  refine ⟨fun b o e h1 h2 h3=>R.keep b o (kp b o e) (fun m=>?_) (nown b o e h2) h3,fun b o e h1 h2 h3=>R.slot b o (kp b o e) (List.mem_cons_of_mem _ h1) (nown b o e h2) h3,fun b e=>none' b (R.live b e)⟩
  rcases List.mem_cons.mp (show b∈s.heap.objs.size::frs fm.stk from m) with q | q
  ·exact nL b o e q
  ·exact h1 q
 have g':Grow α α' s.heap:=⟨g.pre,fun b m q=>none' b (g.new b m q)⟩
 refine ⟨⟨I.inv.carry F Rr ⟨I1.inv.lists.len,fun i li e=>?_,I1.inv.lists.nodup,I1.inv.lists.fresh,fun b m q=>I1.inv.lists.apart b m (av b q)⟩ g' I1.inv.frames.2.2 I1.inv.tabs,I1.gens,I1.os⟩,g',Rr⟩
 obtain ⟨b,ws,h1,h2,h3⟩:=I1.inv.lists.at_ i li e
 exact ⟨b,ws,h1,h2,h3.weak av⟩
private theorem PO {m:M PFlow}(h:m ⟨fun i=>l[i]?,ps.st⟩ = .ok f ps'):M.call m l ps = .ok (Nq f) ⟨ps.loc,ps'.st⟩:=by
 unfold M.call;rw [h]
private theorem PP {m:M PFlow}(h:m ⟨fun i=>l[i]?,ps.st⟩ = .ex e ps'):M.call m l ps = .ex e ⟨ps.loc,ps'.st⟩:=by
 unfold M.call;rw [h]
private theorem PQ {m:M PFlow}(h:M.call m l ps≠.stuck):m ⟨fun i=>l[i]?,ps.st⟩≠.stuck:=by
 intro e;unfold M.call at h;rw [e] at h;exact h rfl
private theorem Hx {m:M PFlow}{pos:List Value}{kw:List (Str × Value)}(C:Ctx W fm (n+1) A)(I:InvS W fm α ps s)(Fa:FnAt s.heap a fd fi)(ok:fi.Ok)(hb:BindsTo s fd ⟨pos,kw⟩ (fi.params.zip vs))(hl:fi.params.length=vs.length)
  (rl:RepL W.H W.h₀ fm.av α s.heap l vs) (body:∀ fm':Fm,fm'.sc=fi.sc->fm'.env.scope=fi.scope->fm'.hdl=fm.hdl->SimS W n fm' fi.body m) (ns:M.call m l ps≠.stuck) :
  Aj W fm A α ps s (call (.ref a) pos kw) (M.call m l):=by
 obtain ⟨⟨o,ho,hd⟩,hscope,hbody,hclo,hglob,hbi,hcode⟩:=Fa
 have lim:s.heap.NoLimit:=C.hd.lim.keeps I.inv.base
 have hdep:=C.depth
 refine wpAny_call (codeAny_call_function (by show A.depth<1000;exact Mi.la [_,_] [([2,4,3,0,0,3,0],[1981])] ([2,3,0],[2001]) rfl hdep) ho hd (by rw [hscope];exact ok.co) (by rw [hscope];exact ok.gen) hbody hcode (hb _ _ _ _ ?_))
 rw [hscope,hglob,hclo,hbi]
 refine wpAny_newFunctionEnv_cells ok.kind (fun p hp=>?_) fun env he c0 X=>?_
 ·have hm:p.1∈fi.params:=(List.of_mem_zip (show (p.1,p.2)∈fi.params.zip vs from hp)).1
  rcases ok.parK p.1 hm with q | q
  ·exact .inl q
  ·exact .inr ⟨q,Bi _ _ _ (.inl q)⟩
 ·have he':env=A9 fd fi s.heap.objs.size a:=he
  subst he'
  refine ⟨lim.keeps X.toInCall.keep,codeAny_func ?_⟩
  have F':=GJ (fd:=fd) (a:=a) C.fm I ok X
  have I':=DF (fd:=fd) (a:=a) (ps:=ps) I ok hl rl X
  have C':Ctx W (AH fm fd fi s.heap.objs.size a) n (A.deeper (A9 fd fi s.heap.objs.size a)):=by
   refine ⟨Around.frames_deeper C.frames,?_,?_,C.hdl,C.tab,F',C.hd⟩
   ·show A.depth+1+n<990;exact Mi.la [_,_] [([2,4,3,0,0,3,0],[1981])] ([2,3,0,4,0,3,0],[1981]) rfl hdep
   ·have:=C.units
    show A.units+3+20*n+1000<cLine;lia
  have ns':=PQ ns
  refine wpAny_mono (body (AH fm fd fi s.heap.objs.size a) rfl rfl rfl _ α _ c0 C' I' ns') (fun f s' z=>?_) fun x s' z=>?_
  ·obtain ⟨p,o0,α₁,u0,s0,d0,U2,rf⟩:=z
   obtain ⟨J,g,R⟩:=Cj C.fm I X s0 d0 U2
   refine ⟨Nq p,_,α₁,PO u0,J,g,R,?_⟩
   have av:∀ b,b∈fm.av->b∈(AH fm fd fi s.heap.objs.size a).av:=fun b m=>List.mem_append_right _ m
   cases rf with
   | next=>exact .none
   | brk=>exact .none
   | cont=>exact .none
   | ret r=>exact RepV.weak av r
  ·obtain ⟨e,o0,α₁,u0,s0,d0,U2,u5⟩:=z
   have hs0:=I'.none
   unfold leaving
   refine wpAny_bind (Fc C' s0 U2 hs0 u5 fun w1 Z0 W3 v5=>B4 C' Z0 W3 hs0 v5 _ fun Y1 U1 v3 v4=>?_)
   obtain ⟨J,g,R⟩:=Cj C.fm I X U1 d0 v3
   refine ⟨e,_,α₁,PP u0,J,g,R,v4.raised.start fun b q=>?_⟩
   cases z:s.heap.get? b with
   | none=>rfl
   | some o=>rw [X.toInCall.keep b o z] at q;cases q
end
inductive SimKw (W:Wd)(n:Nat)(fm:Fm):List Keyword->List (M PV)->Prop
 | nil:SimKw W n fm [] []
 | cons {nm:Str} {e:Expr} {p:Pos} {m:M PV} {ks:List Keyword} {ms:List (M PV)} (x:SimE W n fm e m) (t:SimKw W n fm ks ms):SimKw W n fm (⟨some nm,e,p⟩::ks) (m::ms)
noncomputable def CS (ks:List Keyword):List Str:=ks.filterMap (·.arg)
section
variable {W:Wd}{fm:Fm}{α α' α₁ W0:List Addr}{h h' h₁ start:Heap}{n:Nat}{A:Around}{ps ps':PS}{s s' c0:Shared}{H:Hd}{h₀:Heap}{own av av':List Addr}{e:PX}{x:Value}{fd:FuncData}{fi:Fi}{a:Addr}{vs:List Value}{l:List PV}
private theorem FnAt.keeps (F:FnAt h a fd fi)(k:∀ b o,h.get? b=some o->h'.get? b=some o):FnAt h' a fd fi:=
 ⟨let ⟨o,e,d⟩:=F.obj;⟨o,k _ _ e,d⟩,F.scope,F.body,F.clo,F.glob,F.bi,F.code.keeps k⟩
private theorem D2:∀ {ms:List (M PV)} {ps:PS} {l:List PV} {ps':PS},M.seq ms ps = .ok l ps'->l.length=ms.length:=by
 intro ms
 induction ms with
 | nil=>
  intro ps l ps' e
  have:R.ok ([]:List PV) ps = .ok l ps':=e
  cases this;rfl
 | cons m ms ih=>
  intro ps l ps' e
  have e':M.bind m (fun v=>M.bind (M.seq ms) fun vs=>M.ret (v::vs)) ps = .ok l ps':=e
  unfold M.bind at e'
  cases q:m ps with
  | ok v p1=>
   rw [q] at e'
   simp only at e'
   cases q2:M.seq ms p1 with
   | ok vs p2=>
    rw [q2] at e'
    have:R.ok (v::vs) p2 = .ok l ps':=e'
    cases this
    simp [ih q2]
   | ex e p2=>rw [q2] at e';cases e'
   | stuck=>rw [q2] at e';cases e'
  | ex e p1=>rw [q] at e';cases e'
  | stuck=>rw [q] at e';cases e'
private theorem SimKw.some:∀ {ks:List Keyword} {ms:List (M PV)},SimKw W n fm ks ms->∀ pos env,(backToKw pos (keywordEach ks env)).all (·.1.isSome)=true/\(backToKw pos (keywordEach ks env)).filterMap (·.1)=CS ks/\ks.length=ms.length/\(CS ks).length=ms.length:=by
 intro _ _ hS
 induction hS with
 | nil=>
  intro pos env
  exact ⟨rfl,rfl,rfl,rfl⟩
 | @cons nm e p m ks ms x t ih=>
  intro pos env
  obtain ⟨h1,h2,h3,h4⟩:=ih pos env
  refine ⟨?_,?_,by simp [h3],by simp [CS] at h4 ⊢;exact h4⟩
  ·show ((_::backToKw pos (keywordEach ks env)).all _)=true
   rw [List.all_cons,h1];rfl
  ·show List.filterMap _ (_::backToKw pos (keywordEach ks env))=_
   rw [List.filterMap_cons,h2];rfl
private theorem JR {pos:Pos}:∀ {ks:List Keyword} {ms:List (M PV)},SimKw W n fm ks ms->∀ A α ps s,Ctx W fm n A->InvS W fm α ps s->M.seq ms ps≠.stuck ->
  wpAny W.m A (evalAll ((backToKw pos (keywordEach ks fm.env)).map (·.2))) (OkL W fm α s.heap (M.seq ms ps)) (ExE W fm α s.heap (M.seq ms ps)) s:=by
 intro _ _ hS
 induction hS with
 | nil=>
  intro A α ps s C I ns
  exact wpAny_evalAll_nil ⟨[],ps,α,rfl,I,.refl ..,.refl ..,.nil⟩
 | @cons nm e p m ks ms q qs ih=>
  intro A α ps s C I ns
  have ns':M.bind m (fun v=>M.bind (M.seq ms) fun vs=>M.ret (v::vs)) ps≠.stuck:=ns
  have eq:M.seq (m::ms) ps=M.bind m (fun v=>M.bind (M.seq ms) fun vs=>M.ret (v::vs)) ps:=rfl
  rw [eq]
  refine wpAny_evalAll_cons (wpAny_bind ?_)
  refine Aj.seq (q A α ps s C I (Ab ns')) (fun p v α₁ o0 c0 s0 d0 l0 S0 u0=>wpAny_bind (wpAny_standAt (wpAny_pure ?_))) fun x c0 q=>q.bind
  rw [Aa u0] at ns' ⊢
  refine wpAny_mono (ih A α₁ o0 c0 C s0 (Ab ns')) (fun vs y0 q=>?_) fun x y0 q=>q.bind.after d0 l0
  obtain ⟨l,X0,z0,Y0,Z0,U0,V0,V2⟩:=q
  rw [Aa Y0]
  exact ⟨p::l,X0,z0,rfl,Z0,d0.trans U0 l0,l0.trans V0 d0.new,.cons (s0.stays C V0 U0 S0) V2⟩
noncomputable def Du (W:Wd)(fd:FuncData)(fi:Fi)(np:Nat)(kws:List Str)(ext:List Value):Prop:=
 fi.params.length=np+kws.length+ext.length/\∀ s vs ks,(∀ b o,W.h₀.get? b=some o->s.heap.get? b=some o)->vs.length=np->ks.length=kws.length->BindsTo s fd ⟨vs,kws.zip ks⟩ (fi.params.zip (vs++(ks++ext)))
private theorem EO {es:List Expr}{ms:List (M PV)}{pos:Pos}{m:M PFlow}{ext:List PV}{extv:List Value}(C:Ctx W fm (n+1) A)(I:InvS W fm α ps s)(q:SimL W (n+1) fm es ms)(Fa:FnAt W.h₀ a fd fi)(ok:fi.Ok)(hb:Du W fd fi ms.length [] extv)
  (hx:∀ av α h,RepL W.H W.h₀ av α h ext extv) (body:∀ fm':Fm,fm'.sc=fi.sc->fm'.env.scope=fi.scope->fm'.hdl=fm.hdl->SimS W n fm' fi.body m) (ns:M.bind (M.seq ms) (fun l=>M.call m (l++ext)) ps≠.stuck) :
  Aj W fm A α ps s (callWith pos (.ref a) [] (backTo pos (starEach es fm.env)) (backToKw pos (keywordEach [] fm.env))) (M.bind (M.seq ms) fun l=>M.call m (l++ext)):=by
 obtain ⟨o,ho,hd⟩:=Fa.obj
 refine callWith_function_kw (o:=o) (fd:=fd) (AV (q.plain _) (wpAny_mono (Co q A α ps s C I (Ab ns)) (fun vs c0 z=>?_) fun x c0 z=>z.bind))
 obtain ⟨l,o0,α₁,u0,s0,d0,l0,S0⟩:=z
 rw [Aa u0] at ns ⊢
 refine ⟨⟨s0.inv.base _ _ ho,hd⟩,?_⟩
 have hlen:vs.length=ms.length:=by rw [<- S0.length,D2 u0]
 have b:=hb.2 c0 vs [] s0.inv.base hlen rfl
 refine wpAny_mono (Hx (l:=l++ext) (vs:=vs++extv) C s0 (Fa.keeps s0.inv.base) ok b (by rw [hb.1,List.length_append,hlen];simp) (S0.append (hx _ _ _)) body ns) (fun U U q=>q.after d0 l0) (fun U U q=>q.after d0 l0)
private theorem NO {e:Expr}{es:List Expr}{ks:List Keyword}{ms mks:List (M PV)}{pos:Pos}{m:M PFlow}(C:Ctx W fm (n+1) A)(I:InvS W fm α ps s)(q:SimL W (n+1) fm (e::es) ms)(qk:SimKw W (n+1) fm ks mks)(Fa:FnAt W.h₀ a fd fi)(ok:fi.Ok)(hb:Du W fd fi ms.length (CS ks) [])
  (body:∀ fm':Fm,fm'.sc=fi.sc->fm'.env.scope=fi.scope->fm'.hdl=fm.hdl->SimS W n fm' fi.body m) (ns:M.bind (M.seq ms) (fun l=>M.bind (M.seq mks) fun lk=>M.call m (l++lk)) ps≠.stuck) :
  Aj W fm A α ps s (callWith pos (.ref a) [] (backTo pos (starEach (e::es) fm.env)) (backToKw pos (keywordEach ks fm.env))) (M.bind (M.seq ms) fun l=>M.bind (M.seq mks) fun lk=>M.call m (l++lk)):=by
 obtain ⟨o,ho,hd⟩:=Fa.obj
 obtain ⟨k1,k2,k3,k4⟩:=qk.some pos fm.env
 have sq:=Co (pos:=pos) q A α ps s C I (Ab ns)
 cases q with
 | @cons _ m0 _ ms0 q0 hs qs=>
  rw [hs] at sq ⊢
  refine callWith_function_kw (o:=o) (fd:=fd) (evalArgs_kw k1 (wpAny_mono sq (fun vs c0 z=>?_) fun x c0 z=>z.bind))
  obtain ⟨l,o0,α₁,u0,s0,d0,l0,S0⟩:=z
  rw [Aa u0] at ns ⊢
  refine wpAny_mono (JR qk A α₁ o0 c0 C s0 (Ab ns)) (fun vk y0 z=>?_) fun x y0 z=>z.bind.after d0 l0
  obtain ⟨lk,X0,z0,Y0,Z0,U0,V0,V2⟩:=z
  rw [Aa Y0] at ns ⊢
  refine ⟨⟨Z0.inv.base _ _ ho,hd⟩,?_⟩
  rw [k2]
  have hlen:vs.length=(m0::ms0).length:=by rw [<- S0.length,D2 u0]
  have hlen2:vk.length=(CS ks).length:=by rw [<- V2.length,D2 Y0,k4]
  have b:=hb.2 y0 vs vk Z0.inv.base hlen hlen2
  rw [List.append_nil] at b
  refine wpAny_mono (Hx (l:=l++lk) (vs:=vs++vk) C Z0 (Fa.keeps Z0.inv.base) ok b (by rw [hb.1,List.length_append,hlen,hlen2];simp) ((s0.staysL C V0 U0 S0).append V2) body ns) (fun U U q=>(q.after U0 V0).after d0 l0) (fun U U q=>(q.after U0 V0).after d0 l0)
private theorem Fe {x:Str}{i:Nat}{v:Value}(C:Ctx W fm n A)(I:InvS W fm α ps s)(hv:W.H.mg x=some v){Q:Value->Shared->Prop}{E:Value->Shared->Prop}(hm:(x,NameKind.globalImplicit,i)∈fm.sc){pos:Pos}(hd:(x==("__debug__":Str))=false)
  (h:Q v s):wpAny W.m A (eval (.Name x pos) fm.env) Q E s:=
 Calls.Name_function_global C.fm.kind (C.fm.kindX hm (by decide)) (Calls.loadGlobal_global (env:=fm.env) (by rw [C.fm.glob];exact C.hd.g.keeps I.inv.base) hv h) hd
private theorem LZ {x:Str}{i:Nat}{np pos:Pos}{es:List Expr}{ms:List (M PV)}{m:M PFlow}(hm:(x,NameKind.globalImplicit,i)∈fm.sc)(hd:(x==("__debug__":Str))=false)(hv:W.H.mg x=some (.ref a))(q:SimL W (n+1) fm es ms)(Fa:FnAt W.h₀ a fd fi)(ok:fi.Ok)(hb:Du W fd fi ms.length [] [])
  (body:∀ fm':Fm,fm'.sc=fi.sc->fm'.env.scope=fi.scope->fm'.hdl=fm.hdl->SimS W n fm' fi.body m):SimE W (n+1) fm (.Call (.Name x np) es [] pos) (M.bind (M.seq ms) (M.call m)):=.mk fun A α ps s C I ns=>by
 rw [arm_eval_Call_Name']
 refine wpAny_bind (Fe C I hv hm hd ?_)
 have e:(fun l=>M.call m (l++[]))=M.call m:=funext fun l=>by rw [List.append_nil]
 have:=EO (ext:=[]) (extv:=[]) (pos:=pos) C I q Fa ok hb (fun U U U=>.nil) body (by rw [e];exact ns)
 rw [e] at this
 exact this
private theorem Hy {x:Str}{i:Nat}{np pos:Pos}{e:Expr}{es:List Expr}{ks:List Keyword}{ms mks:List (M PV)}{m:M PFlow}(hm:(x,NameKind.globalImplicit,i)∈fm.sc)(hd:(x==("__debug__":Str))=false)(hv:W.H.mg x=some (.ref a))(q:SimL W (n+1) fm (e::es) ms)(qk:SimKw W (n+1) fm ks mks)
  (Fa:FnAt W.h₀ a fd fi) (ok:fi.Ok) (hb:Du W fd fi ms.length (CS ks) []) (body:∀ fm':Fm,fm'.sc=fi.sc->fm'.env.scope=fi.scope->fm'.hdl=fm.hdl->SimS W n fm' fi.body m) :
  SimE W (n+1) fm (.Call (.Name x np) (e::es) ks pos) (M.bind (M.seq ms) fun l=>M.bind (M.seq mks) fun lk=>M.call m (l++lk)):=.mk fun A α ps s C I ns=>by
 rw [arm_eval_Call_Name']
 refine wpAny_bind (Fe C I hv hm hd ?_)
 exact NO (pos:=pos) C I q qk Fa ok hb body ns
end
structure StdX (T:String):Prop where
 exc:isSubtype (.type T) (.type "BaseException")=pure true
 nt:isSubtype (.type ((Manifest.find? T).elim "type" fun x=>x.metatype)) (.type "tuple")=pure false
 self:isSubtype (.type T) (.type T)=pure true
private theorem JS:StdX "IndexError":=⟨by rw [isSubtype_type];kernel_rfl,by rw [isSubtype_type];kernel_rfl,by rw [isSubtype_type];kernel_rfl⟩
private theorem NP:StdX "KeyError":=⟨by rw [isSubtype_type];kernel_rfl,by rw [isSubtype_type];kernel_rfl,by rw [isSubtype_type];kernel_rfl⟩
noncomputable def Fm.mark (fm:Fm)(x:Value):Fm:={ fm with hdl:=some x }
section
variable {W:Wd}{fm:Fm}{α α' α₁ W0:List Addr}{h h' h₁ start:Heap}{n:Nat}{A:Around}{ps ps':PS}{s s' c0:Shared}{H:Hd}{h₀:Heap}{own av av':List Addr}{e:PX}{x y:Value}
private theorem InvS.mark (I:InvS W fm α ps s):InvS W (fm.mark y) α ps s:=⟨⟨I.inv.base,I.inv.loc,I.inv.cel,I.inv.lists,I.inv.live,I.inv.frames,I.inv.tabs⟩,I.gens,I.os⟩
private theorem InvS.unmark (I:InvS W (fm.mark y) α ps s):InvS W fm α ps s:=⟨⟨I.inv.base,I.inv.loc,I.inv.cel,I.inv.lists,I.inv.live,I.inv.frames,I.inv.tabs⟩,I.gens,I.os⟩
private theorem FmOk.mark (F:FmOk h₀ fm):FmOk h₀ (fm.mark y):=⟨F.kind,F.glob,F.bi,F.locAv,F.locOwn,F.ownAv,F.frsAv,F.fresh,F.kinds,F.once,F.cellOwn,F.cellApart,F.frame⟩
private theorem Ctx.mark (C:Ctx W fm n A):Ctx W (fm.mark y) n (A.mark (some y)):=⟨C.frames,C.depth,C.units,rfl,C.tab,C.fm.mark,C.hd⟩
private theorem OkS.unmark {r:R PFlow}{f:Flow}(q:OkS W (fm.mark y) α h r f s):OkS W fm α h r f s:=by
 obtain ⟨p,ps',α',e,I,g,R,rf⟩:=q
 exact ⟨p,ps',α',e,I.unmark,g,R,by cases rf with
  | next=>exact .next
  | brk=>exact .brk
  | cont=>exact .cont
  | ret r=>exact .ret r⟩
private theorem Hw.unmark {r:R PFlow}{f:Result}(q:Hw W (fm.mark y) α h r f s):Hw W fm α h r f s:=by
 cases f with
 | ok f=>exact OkS.unmark (y:=y) q
 | error x=>
  obtain ⟨e,ps',α',er,I,g,R,X⟩:=q
  exact ⟨e,ps',α',er,I.unmark,g,R,X⟩
private theorem JT {r:R PFlow}(C:Ctx W fm n A)(hs0:∀ b,h.get? b=none->W.h₀.get? b=none)(q:ExS W (fm.mark y) α h r x s) :
  notedBy W.m (A.mark (some y)) fm.env (cameBackBy W.m A fm.env (ExS W fm α h r)) x s:=by
 have:=D1 C.mark hs0 q
 unfold notedBy at this ⊢
 exact wpAny_mono this (fun U U z=>Fd C hs0 (Hw.unmark z)) fun U U z=>Fd C hs0 (Hw.unmark z)
private theorem PR {X:PX->Option (M PFlow)}{m:M PFlow}{f:PFlow}(q:m ps = .ok f ps'):M.tryN X m ps = .ok f ps':=by unfold M.tryN;rw [q]
private theorem PT {X:PX->Option (M PFlow)}{m:M PFlow}{e:PX}(q:m ps = .ex e ps')(ns:M.tryN X m ps≠.stuck):∃ hm,X e=some hm/\M.tryN X m ps=hm ps':=by
 unfold M.tryN at ns ⊢
 rw [q] at ns ⊢
 dsimp only at ns ⊢
 cases z:X e with
 | none=>rw [z] at ns;exact absurd rfl ns
 | some hm=>exact ⟨hm,rfl,rfl⟩
private theorem PU {X:PX->Option (M PFlow)}{m:M PFlow}(ns:M.tryN X m ps≠.stuck):m ps≠.stuck:=by
 intro q;unfold M.tryN at ns;rw [q] at ns;exact ns rfl
private theorem GK {b:List Stmt}{hd:ExceptHandler}{pos:Pos}{m:M PFlow}{X:PX->Option (M PFlow)}(hb:SimS W n fm b m)
  (hh:∀ A α ps s e x hm (W0:List Addr) (start:Heap),Ctx W fm n A->(∀ b,start.get? b=none->W.h₀.get? b=none)->(∀ b∈fm.av,(start.get? b).isSome=true)->InvS W fm α ps s->Grow W0 α start->Rel fm.stk fm.own W0 start s.heap->RaisedN W start s.heap e x->X e=some hm->hm ps≠.stuck ->
   wpAny W.m A (handleBy x fm.env [hd]) (OkS W fm W0 start (hm ps)) (ExS W fm W0 start (hm ps)) s) :
  SimT W n fm (.Try b [hd] [] [] pos) (M.tryN X m):=.mk fun A α ps s C I ns=>by
 have hs0:=I.none
 refine wpAny_Try_except (wpAny_mono (hb A α ps s C I (PU ns)) (fun f c0 z=>?_) fun x c0 z=>?_)
 ·obtain ⟨p,o0,α₁,u0,s0,d0,U2,rf⟩:=z
  rw [PR u0]
  cases rf with
  | next=>exact wpAny_execs_nil ⟨.next,o0,α₁,rfl,s0,d0,U2,.next⟩
  | brk=>exact ⟨.brk,o0,α₁,rfl,s0,d0,U2,.brk⟩
  | cont=>exact ⟨.cont,o0,α₁,rfl,s0,d0,U2,.cont⟩
  | ret r=>exact ⟨.ret _,o0,α₁,rfl,s0,d0,U2,.ret r⟩
 ·obtain ⟨e,o0,α₁,u0,s0,d0,U2,u5⟩:=z
  obtain ⟨hm,hX,eq⟩:=PT u0 ns
  rw [eq] at ns ⊢
  exact Fc C s0 U2 hs0 u5 fun w1 Z0 W3 v5=>B4 C Z0 W3 hs0 v5 _ fun Y1 U1 v3 v4=>hh A α₁ o0 _ e x hm α s.heap C hs0 I.inv.live U1 d0 v3 v4 hX ns
end
end Mi
end
section
open PySem PySem.W PyProof.Rows
set_option maxRecDepth 100000
namespace Mi
inductive TomlObj (C:Addr)(h:Heap)(a:Addr)(t:Txt):Prop
 | mk (o:Obj) (vs:Array Value) (T:Addr) (tk:Tok) (k1:h.get? a=some o) (k2:o.cls = .ref C) (k3:o.data = .fields vs) (k4:vs[0]? = some (.ref T)) (k5:IsTup h T #[.str (txt t) tk]):TomlObj C h a t
section
variable {prog:Program}{w:World}{A:Around}{E:Value->Shared->Prop}{h:Heap}{g:Array GenState}{d:Drawn}{t:Nat}{os:OsState}{C e:Addr}{m:Txt}
private theorem L0:mroOf (.type "ValueError")=pure LK:=PySem.F.excBase_ValueError.mroIs
private theorem Ev {M:Model}{x:Addr}{nm q:Str}{N:Addr}{bs bm:List Value}{hdct:Bool}{sn:List Str}{sub:List Value}{ab:Bool}{col:Option Bool}{dd:Option Addr}{k0 k1 k2 k3 k5:Option Value}{B newId:String}{mN:Str->Option Value}
  {o:Obj} {name:Str} {id:String} {args:List Value} {Q:Option Value->Shared->Prop} (hx:h.get? x=some o) (hc:o.cls = .ref C)
  (hC:h.get? C=some (excClassObj nm q C N bs bm hdct sn sub ab col dd k0 k1 k2 k3 k5 newId)) (hn:h.Ns N mN) (hno:mN name=none) (hbm:mroOf (.type B)=pure bm) (S:Slot B name id)
  (hcall:wpAny M A (call (.builtin id) (.ref x::args)) (fun v=>Q (some v)) E ⟨h,g,d,t,os⟩):wpAny M A (callSpecial? (.ref x) name args) Q E ⟨h,g,d,t,os⟩:=by
 simp only [callSpecial?]
 refine wpAny_bind (wpAny_specialOf_inst hx hc hC hn hno hbm S.lookup ?_)
 simp only [S.bind]
 exact wpAny_holding (wpAny_bind (wpAny_pure (wpAny_bind (wpAny_mono hcall (fun v s' h'=>wpAny_pure h') fun U U h'=>h'))))
private theorem Hz {M:Model}{s:Shared}{o:Obj}{vs:Array Value}{T:Addr}{tk:Tok}{x:Str}{Q:Value × List Value->Shared->Prop}(ho:s.heap.get? e=some o)(hd:o.data = .fields vs)(h0:vs[0]? = some (.ref T))(hT:IsTup s.heap T #[.str x tk])(hq:Q (.ref T,[.str x tk]) s) :
  wpAny M A (Builtin.BaseException.bexcArgs (.ref e)) Q E s:=by
 obtain ⟨ot,hto,_,k,htd⟩:=hT
 unfold Builtin.BaseException.bexcArgs
 refine wpAny_bind (wpAny_field ho hd h0 (wpAny_bind (wpAny_seqItems hto htd ?_)))
 exact wpAny_pure hq
private theorem IA {s:Shared}{o:Obj}{vs:Array Value}{T:Addr}{tk:Tok}{x:Str}{Q:Fin->Shared->Prop}(ho:s.heap.get? e=some o)(hd:o.data = .fields vs)(h0:vs[0]? = some (.ref T))(hT:IsTup s.heap T #[.str x tk])(hq:Q (.done (.ret (.str x tk))) s) :
  wpAny (model prog w) A (Builtin.«BaseException.__str__» ⟨[.ref e],[]⟩) Q E s:=by
 unfold Builtin.«BaseException.__str__»
 repeat (first | with_reducible refine Hz ho hd h0 hT ?_ | wp_step)
 exact hq
private theorem L1:builtinKind "BaseException.__str__" = some .slot:=by decide +kernel
private theorem JU:splitId "BaseException.__str__" = some ("BaseException", "__str__"):=by decide +kernel
private theorem La:LK.contains (.type "BaseException")=true:=by decide +kernel
private theorem Gl {id owner n:String}{b:Builtin}{bm:List Value}(h1:builtinKind id=some .slot)(h2:splitId id=some (owner,n))(ha:argsOk id ⟨[.ref e],[]⟩)(hp:plainId id=true)(he:entryFor table id=some b)(hm:bm.contains (.type owner)=true)
  {o:Obj} {Q:Value->Shared->Prop} {nm q:Str} {N:Addr} {bs:List Value} {hdct:Bool} {sn:List Str} {sub:List Value} {ab:Bool} {col:Option Bool} {dd:Option Addr} {k0 k1 k2 k3 k5:Option Value} {newId:String} (ho:h.get? e=some o) (hc:o.cls = .ref C)
  (hC:h.get? C=some (excClassObj nm q C N bs bm hdct sn sub ab col dd k0 k1 k2 k3 k5 newId))
  (hb:wpAny (model prog w) A.in1 (b ⟨[.ref e],[]⟩) (fun fin s'=>∃ v,fin = .done (.ret v)/\Q v s') E ⟨h,g,d,t,os⟩) :
  wpAny (model prog w) A (call (.builtin id) [.ref e]) Q E ⟨h,g,d,t,os⟩:=by
 refine wpAny_call (codeAny_call_builtin hp he (wpAny_check_slot_inst h1 h2 ha hm ho hc hC ?_))
 refine wpAny_mono hb (fun fin s' h'=>?_) fun U U z=>z
 obtain ⟨v,rfl,hv⟩:=h';exact hv
private theorem L2 (K:ClsAt C h){o:Obj}{vs:Array Value}{T:Addr}{tk:Tok}(ho:h.get? e=some o)(hc:o.cls = .ref C)(hd:o.data = .fields vs)(h0:vs[0]? = some (.ref T))(hT:IsTup h T #[.str (txt m) tk]){Q:Value->Shared->Prop}(hq:Q (.str (txt m) tk) ⟨h,g,d,t,os⟩) :
  wpAny (model prog w) A (call (.builtin "BaseException.__str__") [.ref e]) Q E ⟨h,g,d,t,os⟩:=by
 have b:wpAny (model prog w) A.in1 (Builtin.«BaseException.__str__» ⟨[.ref e],[]⟩) (fun fin s'=>∃ v,fin = .done (.ret v)/\Q v s') E ⟨h,g,d,t,os⟩:=IA (s:=⟨h,g,d,t,os⟩) ho hd h0 hT ⟨_,rfl,hq⟩
 obtain ⟨nm,q,N,bs,hdct,sn,sub,ab,col,dd,k0,k1,k2,k3,k5,mN,hC,hN,hno⟩:=K.at_
 exact Gl L1 JU (PySem.F.args_bexc_str _) PySem.F.excStr_ValueError.str.plain PySem.F.entry_bexc_str La ho hc hC b
private theorem JV (hu:A.units<cLine)(K:ClsAt C h){o:Obj}{vs:Array Value}{T:Addr}{tk:Tok}(ho:h.get? e=some o)(hc:o.cls = .ref C)(hd:o.data = .fields vs)(h0:vs[0]? = some (.ref T))(hT:IsTup h T #[.str (txt m) tk]){Q:Value->Shared->Prop}(hq:Q (.str (txt m) tk) ⟨h,g,d,t,os⟩) :
  wpAny (model prog w) A (Builtin.Str.strOf (.ref e)) Q E ⟨h,g,d,t,os⟩:=by
 have hcall:∀ Q:Value->Shared->Prop,Q (.str (txt m) tk) ⟨h,g,d,t,os⟩->wpAny (model prog w) A (call (.builtin "BaseException.__str__") [.ref e]) Q E ⟨h,g,d,t,os⟩:=fun Q hq=>L2 K ho hc hd h0 hT hq
 obtain ⟨nm,q,N,bs,hdct,sn,sub,ab,col,dd,k0,k1,k2,k3,k5,mN,hC,hN,hno⟩:=K.at_
 have hn:mN (Str.ofString "__str__")=none:=hno _ (by decide +kernel)
 unfold Builtin.Str.strOf
 rw [show Builtin.Str.isExactStr (.ref e)=false from rfl]
 rw [if_neg Bool.false_ne_true]
 refine wpAny_bind (wpAny_cRoomFor hu ?_)
 refine wpAny_bind (m:=callSpecial? (.ref e) (Str.ofString "__str__")) (Ev ho hc hC hN hn L0 PySem.F.excStr_ValueError.str (hcall _ ?_))
 exact wpAny_pure hq
private theorem IC (hu:A.units+2<cLine)(K:ClsAt C h)(X:TomlObj C h e m){Q:Value->Shared->Prop}(hq:∀ tk,Q (.str (txt m) tk) ⟨h,g,d,t,os⟩) :
  wpAny (model prog w) A (call (.type "str") [.ref e]) Q E ⟨h,g,d,t,os⟩:=by
 obtain ⟨o,vs,T,tk,ho,hc,hd,h0,hT⟩:=X
 exact callType_new PySem.F.called_str (by decide) (PySem.F.typeCall_str_1 _) (PySem.F.newCall_str_1 _) (fun obj=>PySem.F.args_object_init_2 obj _) PySem.F.entry_str_new
  (meets_str_new (S:=fun A' R s'=>A'.units+1<cLine/\s'=⟨h,g,d,t,os⟩/\R (.ok (.ret (.str (txt m) tk))) s')
   fun U U A' U U hq=>by obtain ⟨h1,h2,h3⟩:=hq;subst h2;exact JV (A:=A'.in1) h1 K ho hc hd h0 hT h3)
  ⟨(show A.units+1+1<cLine from hu),rfl,typeIs_str _ _ _,hq tk⟩
end
end Mi
end
section
open PySem PySem.W PyProof.Rows
set_option maxRecDepth 10000
namespace Mi
inductive ErrAt (W:Wd)(fm:Fm)(h:Heap)(x:Str)(t:Txt):Prop
 | mk (m:Str->Option Value) (a:Addr) (o:Obj) (vs:Array Value) (T:Addr) (tk:Tok) (k1:h.Ns fm.env.locals m) (k2:m x=some (.ref a)) (k3:h.get? a=some o) (k4:o.cls = .ref W.H.toml) (k5:o.data = .fields vs) (k6:vs[0]? = some (.ref T)) (k7:T∉fm.av) (k8:IsTup h T #[.str (txt t) tk]):ErrAt W fm h x t
section
variable {M:Model}{A:Around}{E:Value->Shared->Prop}{s:Shared}{env:Env}
private theorem NQ {n:Str}{pos:Pos}{m:Str->Option Value}{Q:Unit->Shared->Prop}(hl:env.kindOf n=some .local)(hn:s.heap.Ns env.locals m)
  (hp:(env.scope.kind==.class||(env.scope.kind==.module&&env.locals != env.globals))=false)
  (h:∀ h' v,h'.Ns env.locals (fun y=>if y=n then v else m y)->Heap.SameBut env.locals s.heap h'->Q () { s with heap:=h',toks:=s.toks+1 }) :
  wpAny M A (do bindName env n .none;unbindBehindTheSuite env n pos) Q E s:=by
 refine wpAny_bind (wpAny_bindName (wpAny_storeName_local hl hn (fun h₁ j7 Y2=>?_) hp))
 unfold unbindBehindTheSuite
 refine wpAny_onRaise ?_
 unfold unbindName
 refine wpAny_bind (wpAny_point (wpAny_bind ?_))
 unfold deleteName
 simp only [hl,hp]
 rw [if_neg (by decide)]
 refine wpAny_bind (wpAny_nsDel_keeps j7 fun w1 v w5 Z5=>?_)
 simp only [if_true,Option.isSome_some,Bool.not_true,Bool.false_eq_true,if_false]
 refine wpAny_pure (wpAny_point (h w1 v ?_ (Y2.trans Z5)))
 have:(fun x=>if x=n then v else if x=n then some Value.none else m x)=fun y=>if y=n then v else m y:=funext fun y=>by by_cases q:y=n <;> simp [q]
 rw [this] at w5
 exact w5
end
section
variable {W:Wd}{fm:Fm}{α α' α₁ W0:List Addr}{h h' h₁ start:Heap}{n:Nat}{A:Around}{ps ps':PS}{s s' c0:Shared}{H:Hd}{h₀:Heap}{own av av':List Addr}{e:PX}{y:Value}{x:Str}{t:Txt}
noncomputable abbrev SimEx.T (W:Wd)(n:Nat)(fm:Fm)(x:Str)(t:Txt)(e:Expr)(m:M PV):Prop:=∀ A α ps s,Ctx W fm n A->InvS W fm α ps s->ErrAt W fm s.heap x t->m ps≠.stuck->Aj W fm A α ps s (eval e fm.env) m
structure SimEx (W:Wd)(n:Nat)(fm:Fm)(x:Str)(t:Txt)(e:Expr)(m:M PV):Prop where
 go:SimEx.T W n fm x t e m
noncomputable instance {W:Wd} {n:Nat} {fm:Fm} {x:Str} {t:Txt} {e:Expr} {m:M PV}:CoeFun (SimEx W n fm x t e m) (fun U=>SimEx.T W n fm x t e m):=⟨SimEx.go⟩
noncomputable abbrev SimSx.T (W:Wd)(n:Nat)(fm:Fm)(x:Str)(t:Txt)(b:List Stmt)(m:M PFlow):Prop:=∀ A α ps s,Ctx W fm n A->InvS W fm α ps s->ErrAt W fm s.heap x t->m ps≠.stuck->wpAny W.m A (execs b fm.env) (OkS W fm α s.heap (m ps)) (ExS W fm α s.heap (m ps)) s
structure SimSx (W:Wd)(n:Nat)(fm:Fm)(x:Str)(t:Txt)(b:List Stmt)(m:M PFlow):Prop where
 go:SimSx.T W n fm x t b m
noncomputable instance {W:Wd} {n:Nat} {fm:Fm} {x:Str} {t:Txt} {b:List Stmt} {m:M PFlow}:CoeFun (SimSx W n fm x t b m) (fun U=>SimSx.T W n fm x t b m):=⟨SimSx.go⟩
private theorem NR {i:Nat}{np xp pos:Pos}(hk:fm.env.kindOf x=some .local)(hd:(x==("__debug__":Str))=false)(hm:(("str":Str),NameKind.globalImplicit,i)∈fm.sc) :
  SimEx W n fm x t (.Call (.Name "str" np) [.Name x xp] [] pos) (M.ret (.str t)):=.mk fun A α ps s C I X ns=>by
 show wpAny W.m A (do callWith pos (<- eval (.Name "str" np) fm.env) [] (backTo pos (starEach [.Name x xp] fm.env)) (backToKw pos (keywordEach [] fm.env))) _ _ s
 refine wpAny_bind (BD (v:=.type "str") C I (by decide +kernel) (by decide +kernel) (by kernel_rfl) hm (by decide +kernel) ?_)
 obtain ⟨m,a,o,vs,T,tk,hns,hmx,ho,hc,hdd,h0,hT,hI⟩:=X
 refine PySem.callWith_type rfl (AV rfl (Calls.spliced_cons (wpAny_Name (wpAny_loadName_local C.fm.kind hk hns hmx (Calls.spliced_nil ?_)) hd)))
 have hu:A.units+2<cLine:=by have:=C.units;lia
 obtain ⟨hp,g,d,tk',os⟩:=s
 exact IC hu (C.hd.tomlC.keeps I.inv.base) ⟨o,vs,T,tk,ho,hc,hdd,h0,hI⟩ fun tk=>OkE.same' I (.str _ _)
private theorem L3 {v:Expr}{pos:Pos}{m:M PV}(hv:SimEx W n fm x t v m):SimSx W n fm x t [.Return (some v) pos] (M.bind m fun a=>M.ret (.ret a)):=.mk fun A α ps s C I X ns=>by
 refine wpAny_execs_cons (wpAny_Return_some (Aj.seq (hv A α ps s C I X (Ab ns)) (fun a va α₁ o0 c0 s0 d0 l0 ra u0=>?_) fun x c0 q=>q.toS.bind))
 rw [Aa u0]
 exact ⟨.ret a,o0,α₁,rfl,s0,d0,l0.up,.ret ra⟩
private theorem PW {m:M PFlow}(ns:M.calm m ps≠.stuck):∃ f ps',m ps = .ok f ps'/\M.calm m ps = .ok f ps':=by
 unfold M.calm at ns ⊢
 cases q:m ps with
 | ok f p=>exact ⟨f,p,rfl,rfl⟩
 | ex e p=>rw [q] at ns;exact absurd rfl ns
 | stuck=>rw [q] at ns;exact absurd rfl ns
private theorem FI (F:FmOk W.h₀ fm)(I:InvS W fm α ps s)(hx:∀ k i,(x,k,i)∉fm.sc){m:Str->Option Value}{v:Option Value}{tk:Nat}(hns:s.heap.Ns fm.env.locals m)(hn:h'.Ns fm.env.locals (fun y=>if y=x then v else m y))(S:Heap.SameBut fm.env.locals s.heap h') :
  InvS W fm α ps { s with heap:=h',toks:=tk }/\Rel fm.stk fm.own α s.heap h':=by
 obtain ⟨o',es,ep,e1,e2,e3⟩:=id hn
 have live:(h'.get? fm.env.locals).isSome=true:=by rw [e1];rfl
 have hα:∀ b∈α,b≠fm.env.locals:=fun b m q=>I.inv.lists.apart b m (q▸F.locAv)
 refine ⟨⟨I.inv.mine F S F.locAv live (fun o eo=>⟨(fun vs q=>by obtain ⟨oo,_,_,f1,f2,_⟩:=hns;rw [eo] at f1;cases f1;rw [f2] at q;cases q),o',e1,fun vs q=>by rw [e2] at q;cases q⟩) rfl ?_ fun z k i hz hk=>?_,I.gens,I.os⟩,SameBut.rel S live F.locOwn _ _⟩
 ·obtain ⟨m',n1,n2⟩:=I.inv.loc
  have:m'=m:=funext fun z=>by
   obtain ⟨o1,es1,ep1,a1,a2,a3,a4⟩:=n1
   obtain ⟨o2,es2,ep2,b1,b2,b3,b4⟩:=hns
   rw [a1] at b1;cases b1;rw [a2] at b2;cases b2
   rw [<- a4,<- b4]
  subst this
  refine ⟨_,hn,fun z i hz=>?_⟩
  have:z≠x:=fun q=>hx _ _ (q▸hz)
  simp only [if_neg this]
  exact (n2 z i hz).same S F.locAv hα
 ·obtain ⟨c,v',q1,q2,q3,⟨o,q4,q4'⟩,q5⟩:=I.inv.cel z k i hz hk
  exact ⟨c,v',q1,q2,q3,⟨o,(S.2 c q3).trans q4,q4'⟩,q5.same S F.locAv hα⟩
private theorem GL {i:Nat}(C:Ctx W fm n A)(I:InvS W fm α ps s){Q:Value->Shared->Prop}{E:Value->Shared->Prop}(hm:(("TOMLDecodeError":Str),NameKind.globalImplicit,i)∈fm.sc){pos:Pos}
  (h:Q (.ref W.H.toml) s):wpAny W.m A (eval (.Name "TOMLDecodeError" pos) fm.env) Q E s:=Fe C I C.hd.toml hm (by decide +kernel) h
private theorem HA {a:Addr}{o:Obj}(K:ClsAt W.H.toml s.heap)(ho:s.heap.get? a=some o)(hc:o.cls = .ref W.H.toml){Q:Bool->Shared->Prop}{E:Value->Shared->Prop}(h:Q true s):wpAny W.m A (excMatches (.ref a) (.ref W.H.toml)) Q E s:=by
 obtain ⟨nm,q,N,bs,hdct,sn,sub,ab,col,dd,k0,k1,k2,k3,k5,mN,hC,_⟩:=K.at_
 obtain ⟨hp,g,d,tk',os⟩:=s
 exact wpAny_excMatches_sub_self hC ho hc La h
private theorem JW {i:Nat}{tp hp pos:Pos}{b:List Stmt}{b0:Stmt}{suite:List Stmt}{m:M PFlow}{hm:Txt->M PFlow}(ht:(("TOMLDecodeError":Str),NameKind.globalImplicit,i)∈fm.sc)(hx:∀ k i,(x,k,i)∉fm.sc)(hk:fm.env.kindOf x=some .local)
  (hb:SimS W n fm b m) (hh:∀ y t,SimSx W n (fm.mark y) x t (b0::suite) (hm t)):SimT W n fm (.Try b [.ExceptHandler (some (.Name "TOMLDecodeError" tp)) (some x) (b0::suite) hp] [] [] pos) (M.tryN (Nr fun t=>M.calm (hm t)) m):=by
 refine GK hb fun A α ps s e xv hm' W0 start C hs0 hlive I g R X hX ns=>?_
 cases e with
 | std c=>exact (by cases hX)
 | toml t=>
  obtain rfl:=Option.some.inj (show some (M.calm (hm t))=some hm' from hX)
  obtain ⟨fl,o0,ef,ec⟩:=PW ns
  have X':=X
  obtain ⟨a,oe,vs,rfl,ha,hcl,hrest⟩:=X
  refine wpAny_handleBy_cons (codeAny_handlers_test (GL (C.mark (y:=.ref a)) I.mark ht ?_)) (by intro q;cases q)
  refine HA (C.hd.tomlC.keeps I.inv.base) ha hcl ?_
  refine codeAny_handlers_suite_as ?_
  refine B4 (C.mark (y:=.ref a)) I.mark R hs0 X' _ fun Y1 U1 v3 v4=>?_
  obtain ⟨mL,hns,hloc⟩:=U1.inv.loc
  refine wpAny_storeName_local hk hns (fun l7 V6 j6=>?_) (by simp [C.fm.kind])
  obtain ⟨W4,l6⟩:=FI (tk:=_) C.fm U1.unmark hx hns V6 j6
  have R04:=v3.trans l6 g.new
  obtain ⟨a',oe',vs',ea,ha',hc',hd',hsz',hna',⟨T,tk,h0',hTn,hT'⟩,_⟩:=v4
  cases ea
  have hTav:T∉fm.av:=fun q=>by have:=hlive T q;rw [hTn] at this;cases this
  have nea:a≠fm.env.locals:=fun q=>by have:=hlive _ C.fm.locAv;rw [<- q,hna'] at this;cases this
  have neT:T≠fm.env.locals:=fun q=>hTav (q▸C.fm.locAv)
  have err:ErrAt W (fm.mark (.ref a)) l7 x t:=by
   obtain ⟨oT,t1,t2⟩:=hT'
   exact ⟨_,a,oe',vs',T,tk,V6,by simp,(j6.2 a nea).trans ha',hc',hd',h0',hTav,oT,(j6.2 T neT).trans t1,t2⟩
  refine wpAny_mono (hh (.ref a) t _ α ps _ C.mark W4.mark err (by rw [ef];exact fun z=>(by cases z))) (fun f m6 z=>?_) fun y m6 z=>?_
  ·obtain ⟨p,W6,r6,X4,y5,s6,m7,rf⟩:=z
   rw [ef] at X4
   cases X4
   obtain ⟨m5,hns5,_⟩:=y5.inv.loc
   refine NQ hk hns5 (by simp [C.fm.kind]) fun w7 v o7 X6=>?_
   obtain ⟨r7,s7⟩:=FI (tk:=m6.toks+1) C.fm y5.unmark hx hns5 o7 X6
   have g5:=g.trans s6 R04
   rw [ec]
   refine ⟨fl,o0,r6,rfl,r7,g5,(R04.trans m7 g.new).trans s7 g5.new,?_⟩
   cases rf with
   | next=>exact .next
   | brk=>exact .brk
   | cont=>exact .cont
   | ret r=>
    exact .ret (r.same X6 C.fm.locAv fun b m q=>y5.inv.lists.apart b m (q▸C.fm.locAv))
  ·obtain ⟨e,W6,r6,X4,_⟩:=z
   rw [ef] at X4;cases X4
end
end Mi
end
section
open PySem PySem.W PyProof.Rows
set_option maxRecDepth 100000
namespace Mi
inductive MadeAt (C:Addr)(h:Heap)(e:Addr)(m:Txt):Prop
 | mk (o:Obj) (vs:Array Value) (T:Addr) (tk:Tok) (k1:h.get? e=some o) (k2:o.cls = .ref C) (k3:o.data = .fields vs) (k4:5<vs.size) (k5:vs[0]? = some (.ref T)) (k6:vs[1]? = some .none) (k7:IsTup h T #[.str (txt m) tk]):MadeAt C h e m
section
variable {M:Model}{A:Around}{E:Value->Shared->Prop}{s:Shared}{C e:Addr}
private theorem GM {o:Obj}(K:ClsAt C s.heap)(he:s.heap.get? e=some o)(hc:o.cls = .ref C){vs:Array Value}(hd:o.data = .fields vs){c:String}{Q:Value->Shared->Prop}(h:Q (.ref e) s):wpAny M A (excFromValue (.ref e) c) Q E s:=by
 obtain ⟨nm,q,N,bs,hdct,sn,sub,ab,col,dd,k0,k1,k2,k3,k5,mN,hC,_⟩:=K.at_
 obtain ⟨hp,g,d,tk,os⟩:=s
 obtain ⟨cls,dct,data,sl⟩:=o
 simp only at hc hd
 subst hc hd
 have hcB:(Value.ref C::LK).contains (.type "BaseException")=true:=by rw [List.contains_cons,show LK.contains (.type "BaseException")=true from by decide +kernel,Bool.or_true]
 unfold excFromValue isExcClass
 repeat (first | with_reducible refine wpAny_loadPart_at he ?_ | with_reducible refine wpAny_loadPart_at hC ?_ | (with_reducible refine wpAny_isSubtype_exc hC ?_;rw [hcB]) | wp_step)
 exact h
private theorem PY {o:Obj}(K:ClsAt C s.heap)(he:s.heap.get? e=some o)(hc:o.cls = .ref C){vs:Array Value}(hd:o.data = .fields vs){Q:Value->Shared->Prop}(h:Q (.ref e) s):wpAny M A (raisedInstance (.ref e)) Q E s:=by
 obtain ⟨nm,q,N,bs,hdct,sn,sub,ab,col,dd,k0,k1,k2,k3,k5,mN,hC,_⟩:=K.at_
 obtain ⟨hp,g,d,tk,os⟩:=s
 obtain ⟨cls,dct,data,sl⟩:=o
 simp only at hc hd
 subst hc hd
 unfold raisedInstance
 repeat (first | with_reducible refine wpAny_loadPart_at he ?_ | with_reducible refine wpAny_loadPart_at hC ?_ | wp_step)
 exact h
private theorem PZ {o:Obj}(K:ClsAt C s.heap)(he:s.heap.get? e=some o)(hc:o.cls = .ref C){vs:Array Value}(hd:o.data = .fields vs){Q:Bool->Shared->Prop}(h:Q false s):wpAny M A (isType (.ref e)) Q E s:=by
 obtain ⟨nm,q,N,bs,hdct,sn,sub,ab,col,dd,k0,k1,k2,k3,k5,mN,hC,_⟩:=K.at_
 obtain ⟨hp,g,d,tk,os⟩:=s
 obtain ⟨cls,dct,data,sl⟩:=o
 simp only at hc hd
 subst hc hd
 unfold isType
 repeat (first | with_reducible refine wpAny_loadPart_at he ?_ | with_reducible refine wpAny_loadPart_at hC ?_ | wp_step)
 exact h
end
noncomputable def AK (h:Heap)(e:Addr)(k:Nat)(x:Value):Heap:=h.update e (Obj.mapFields (·.setIfInBounds k x))
private theorem MadeAt.set {C e:Addr}{h:Heap}{m:Txt}(X:MadeAt C h e m){k:Nat}{x:Value}(h0:k≠0)(h1:k≠1):MadeAt C (AK h e k x) e m:=by
 obtain ⟨o,vs,T,tk,he,hc,hd,hsz,v0,v1,oT,t1,t2,kk,t3⟩:=X
 have hd':=Obj.data_mapFields hd (·.setIfInBounds k x)
 have nT:T≠e:=fun q=>by rw [q,he] at t1;cases t1;rw [hd] at t3;cases t3
 refine ⟨_,_,T,tk,Heap.get?_update_self (Obj.mapFields (·.setIfInBounds k x)) he (Obj.isFreed_of_fields hd'),(Obj.cls_mapFields _ _).trans hc,hd',by simpa using hsz,?_,?_,oT,(Heap.get?_update_other _ _ (Ne.symm nT)).trans t1,t2,kk,t3⟩
 ·rw [Array.getElem?_setIfInBounds_ne h0];exact v0
 ·rw [Array.getElem?_setIfInBounds_ne h1];exact v1
section
variable {prog:Program}{w:World}{A:Around}{E:Value->Shared->Prop}{s:Shared}{C e:Addr}{m:Txt}
private theorem Cp {k:Nat}{x:Value}{Q:Unit->Shared->Prop}(X:MadeAt C s.heap e m)(hk:k<=5)(h:Q () { s with heap:=AK s.heap e k x }):wpAny (model prog w) A (setField (.ref e) k x) Q E s:=by
 obtain ⟨o,vs,T,tk,he,hc,hd,hsz,v0,v1,hT⟩:=X
 exact wpAny_setField he hd (by exact Mi.la [_,_] [([2],[11]),([11,3,0],[4])] ([2,3,0],[4]) rfl hk hsz) h
private theorem FJ {fl:Option Addr}{Q:Unit->Shared->Prop}(X:MadeAt C s.heap e m)(h:Q () s):wpAny (model prog w) A (setFlight (.ref e) fl) Q E s:=by
 obtain ⟨o,vs,T,tk,he,hc,hd,hsz,v0,v1,hT⟩:=X
 unfold setFlight
 refine wpAny_bind (wpAny_field he hd v1 ?_)
 rw [if_neg (by decide)]
 exact wpAny_pure h
private theorem Gm:entryFor table "proto.unchain" = some Builtin.«proto.unchain»:=entryFor_of_tree (by kernel_rfl)
private theorem Gn {α:Type}{Q:α->Shared->Prop}(X:MadeAt C s.heap e m)
  (h:(A.handled=none/\E (.ref e) s)\/∃ a o vs,A.handled=some (.ref a)/\a≠e/\s.heap.get? a=some o/\o.data = .fields vs/\vs[2]? = some .none/\E (.ref e) { s with heap:=AK s.heap e 2 (.ref a) }):wpAny (model prog w) A (raiseNew (.ref e):Sem α) Q E s:=by
 rcases h with ⟨hh,h⟩ | ⟨a,o,vs,hh,ne,ho,hd,h2,h⟩
 ·exact wpAny_raiseNew_none hh h
 ·unfold raiseNew
  refine wpAny_bind (wpAny_handled ?_)
  rw [hh]
  dsimp only
  rw [if_pos (show (Value.ref a != Value.ref e)=true from by simpa using ne)]
  have un:wpAny (model prog w) A (runValue (.builtin "proto.unchain" ⟨[.ref e,.ref a,.ref a,.bool false],[]⟩)) (fun U s'=>s'=s) E s:=by
   refine wpAny_runValue (codeAny_builtin Gm ?_)
   unfold Builtin.«proto.unchain»
   show wpAny _ _ (field (.ref a) 2 >>= _) _ _ s
   refine wpAny_bind (wpAny_field ho hd h2 ?_)
   rw [if_pos (by rfl)]
   exact wpAny_pure rfl
  refine wpAny_bind (wpAny_holding (wpAny_mono un (fun U s' q=>?_) fun U U z=>z))
  subst q
  exact wpAny_bind (Cp X (by exact Mi.la [] [] ([5],[11]) rfl) (wpAny_throw h))
end
section
variable {prog:Program}{w:World}{A:Around}{E:Value->Shared->Prop}{s:Shared}{C e:Addr}{m:Txt}{env:Env}
noncomputable def HB (A:Around)(h:Heap)(e:Addr)(E:Heap->Prop):Prop:=
 (A.handled=none/\E h)\/∃ a o vs,A.handled=some (.ref a)/\a≠e/\h.get? a=some o/\o.data = .fields vs/\vs[2]? = some .none/\E (AK h e 2 (.ref a))
private theorem GN {Q:Flow->Shared->Prop}(K:ClsAt C s.heap)(X:MadeAt C s.heap e m)(h:HB A s.heap e fun h'=>E (.ref e) { s with heap:=h' }) :
  wpAny (model prog w) A (do
   let e <- if <- isType (.ref e) then holding [.ref e] (raisedFor (.ref e) (.ref e)) else raisedInstance (.ref e)
   setFlight e none
   raiseNew e:Sem Flow) Q E s:=by
 obtain ⟨o,vs,T,tk,he,hc,hd,hsz,v0,v1,hT⟩:=id X
 refine wpAny_bind (PZ K he hc hd ?_)
 simp only [Bool.false_eq_true,if_false]
 refine wpAny_bind (PY K he hc hd ?_)
 refine wpAny_bind (FJ X ?_)
 refine Gn X ?_
 rcases h with ⟨h1,h2⟩ | ⟨a,oa,va,h1,h2,h3,h4,h5,h6⟩
 ·exact .inl ⟨h1,h2⟩
 ·exact .inr ⟨a,oa,va,h1,h2,h3,h4,h5,h6⟩
private theorem GO {k:Nat}{x:Value}(K:ClsAt C s.heap)(X:MadeAt C s.heap e m):ClsAt C (AK s.heap e k x):=by
 obtain ⟨nm,q,N,bs,hdct,sn,sub,ab,col,dd,k0,k1,k2,k3,k5,mN,hC,⟨oN,es,ep,n1,n2,n3⟩,hno⟩:=K.at_
 obtain ⟨o,vs,T,tk,he,hc,hd,_⟩:=X
 have nC:C≠e:=fun q=>by rw [q,he] at hC;cases hC;cases hd
 have nN:N≠e:=fun q=>by rw [q,he] at n1;cases n1;rw [hd] at n2;cases n2
 exact ⟨nm,q,N,bs,hdct,sn,sub,ab,col,dd,k0,k1,k2,k3,k5,mN,(Heap.get?_update_other _ _ (Ne.symm nC)).trans hC,⟨oN,es,ep,(Heap.get?_update_other _ _ (Ne.symm nN)).trans n1,n2,n3⟩,hno⟩
private theorem EV {x:Sem Value}{Q:Flow->Shared->Prop}
  (h:wpAny (model prog w) A x (fun v c0=>∃ e m,v = .ref e/\ClsAt C c0.heap/\MadeAt C c0.heap e m/\HB A c0.heap e fun h'=>E (.ref e) { c0 with heap:=h' }) E s):wpAny (model prog w) A (raiseStmt env (some x) none) Q E s:=by
 unfold raiseStmt
 refine wpAny_bind (wpAny_mono h (fun v c0 z=>?_) fun U U z=>z)
 obtain ⟨e,m,rfl,K,X,R⟩:=z
 obtain ⟨o,vs,T,tk,he,hc,hd,_⟩:=id X
 refine wpAny_bind (wpAny_pure (wpAny_bind (wpAny_holding (GM K he hc hd ?_))))
 exact GN K X R
private theorem FK {x:Sem Value}{pos:Pos}{k:Nat}{Q:Flow->Shared->Prop}
  (h:wpAny (model prog w) A x (fun v c0=>∃ e m,v = .ref e/\ClsAt C c0.heap/\MadeAt C c0.heap e m/\HB A (AK (AK c0.heap e 3 .none) e 4 (.bool true)) e fun h'=>E (.ref e) { c0 with heap:=h' }) E s) (c:Sem Value) (hc0:∀ (s:Shared) (Q:Value->Shared->Prop),Q .none s->wpAny (model prog w) A c Q E s) :
  wpAny (model prog w) A (raiseStmt env (some x) (some c)) Q E s:=by
 unfold raiseStmt
 refine wpAny_bind (wpAny_mono h (fun v c0 z=>?_) fun U U z=>z)
 obtain ⟨e,m,rfl,K,X,R⟩:=z
 obtain ⟨o,vs,T,tk,he,hc,hd,_⟩:=id X
 refine wpAny_bind (wpAny_holding (hc0 _ _ ?_))
 refine wpAny_bind (wpAny_pure ?_)
 refine wpAny_bind (wpAny_holding (GM K he hc hd ?_))
 dsimp only
 rw [if_pos (show (Value.none==Value.none)=true from rfl)]
 refine wpAny_bind (wpAny_pure ?_)
 refine wpAny_bind (Cp X (by exact Mi.la [] [] ([7],[11]) rfl) ?_)
 refine wpAny_bind (Cp (s:={ c0 with heap:=AK c0.heap e 3 .none }) (X.set (by decide) (by decide)) (by exact Mi.la [] [] ([9],[11]) rfl) ?_)
 exact GN (s:={ c0 with heap:=AK (AK c0.heap e 3 .none) e 4 (.bool true) }) (GO (s:={ c0 with heap:=AK c0.heap e 3 .none }) (GO K X) (X.set (by decide) (by decide))) ((X.set (by decide) (by decide)).set (by decide) (by decide)) R
end
inductive NewExc (C:Addr)(start h:Heap)(e:Addr)(m:Txt):Prop
 | mk (k1:start.get? e=none) (o:Obj) (vs:Array Value) (T:Addr) (tk:Tok) (k2:h.get? e=some o) (k3:o.cls = .ref C) (k4:o.data = .fields vs) (k5:5<vs.size) (k6:vs[0]? = some (.ref T)) (k7:vs[1]? = some .none) (k8:IsTup h T #[.str (txt m) tk]) (k9:start.get? T=none):NewExc C start h e m
section
variable {W:Wd}{fm:Fm}{α α' α₁ W0:List Addr}{h h' h₁ start:Heap}{n:Nat}{A:Around}{ps ps':PS}{s s' c0:Shared}{H:Hd}{h₀:Heap}{own av av':List Addr}{y:Value}{x:Str}{t m:Txt}{C e:Addr}
private theorem NewExc.made (X:NewExc C start h e m):MadeAt C h e m:=by
 obtain ⟨_,o,vs,T,tk,h1,h2,h3,h4,h5,h6,h7,_⟩:=X
 exact ⟨o,vs,T,tk,h1,h2,h3,h4,h5,h6,h7⟩
private theorem NewExc.set (X:NewExc C start h e m){k:Nat}{x:Value}(k0:k≠0)(k1:k≠1):NewExc C start (AK h e k x) e m:=by
 obtain ⟨hn,o,vs,T,tk,he,hc,hd,hsz,v0,v1,⟨oT,t1,t2,kk,t3⟩,hT⟩:=X
 have hd':=Obj.data_mapFields hd (·.setIfInBounds k x)
 have nT:T≠e:=fun q=>by rw [q,he] at t1;cases t1;rw [hd] at t3;cases t3
 refine ⟨hn,_,_,T,tk,Heap.get?_update_self (Obj.mapFields (·.setIfInBounds k x)) he (Obj.isFreed_of_fields hd'),(Obj.cls_mapFields _ _).trans hc,hd',by simpa using hsz,?_,?_,⟨oT,(Heap.get?_update_other _ _ (Ne.symm nT)).trans t1,t2,kk,t3⟩,hT⟩
 ·rw [Array.getElem?_setIfInBounds_ne k0];exact v0
 ·rw [Array.getElem?_setIfInBounds_ne k1];exact v1
private theorem NewExc.raised (X:NewExc W.H.toml start h e m):Raised W start h (.toml m) (.ref e):=by
 obtain ⟨hn,o,vs,T,tk,he,hc,hd,hsz,v0,v1,hI,hT⟩:=X
 exact ⟨e,o,vs,rfl,he,hc,hd,hsz,hn,⟨T,tk,v0,hT,hI⟩,.inl v1,trivial⟩
private theorem NewExc.turn (X:NewExc C start h e m)(F:h.FunFrames ⟨#[],{}⟩ fm.stk)(k:Nat)(x:Value):Turn fm.stk [e] h (AK h e k x):=by
 obtain ⟨hn,o,vs,T,tk,he,hc,hd,_⟩:=X
 exact (Turn.set (fm:=fm) F he hd ⟨(by rw [hc];exact fun q=>(by cases q)),by rw [hc];exact fun q=>(by cases q)⟩ (·.setIfInBounds k x)).1
inductive XcRes (W:Wd)(fm:Fm)(α:List Addr)(h:Heap)(r:R Txt)(v:Value)(s':Shared):Prop
 | mk (a:Addr) (t:Txt) (ps':PS) (α':List Addr) (k1:r = .ok t ps') (k2:v = .ref a) (k3:InvS W fm α' ps' s') (k4:Grow α α' h) (k5:Rel fm.stk fm.tab α h s'.heap) (k6:NewExc W.H.toml h s'.heap a t):XcRes W fm α h r v s'
noncomputable abbrev SimXc.T (W:Wd)(n:Nat)(fm:Fm)(e:Expr)(mx:M Txt):Prop:=∀ A α ps s,Ctx W fm n A->InvS W fm α ps s->mx ps≠.stuck->wpAny W.m A (eval e fm.env) (fun v s'=>XcRes W fm α s.heap (mx ps) v s') (ExE W fm α s.heap (mx ps)) s
structure SimXc (W:Wd)(n:Nat)(fm:Fm)(e:Expr)(mx:M Txt):Prop where
 go:SimXc.T W n fm e mx
noncomputable instance {W:Wd} {n:Nat} {fm:Fm} {e:Expr} {mx:M Txt}:CoeFun (SimXc W n fm e mx) (fun U=>SimXc.T W n fm e mx):=⟨SimXc.go⟩
inductive HdlAt (h:Heap)(fm:Fm)(a:Addr):Prop
 | mk (o:Obj) (vs:Array Value) (k1:h.get? a=some o) (k2:o.data = .fields vs) (k3:vs[2]? = some .none):HdlAt h fm a
private theorem HdlAt.rel (F:FmOk W.h₀ fm)(I:InvS W fm α ps s){a:Addr}(hav:a∉fm.av)(ho:∀ b∈own,b∈fm.av)(R:Rel fm.stk own α s.heap h')(q:HdlAt s.heap fm a):HdlAt h' fm a:=by
 obtain ⟨o,vs,he,hd,h2⟩:=q
 have nα:a∉α:=fun z=>by
  obtain ⟨ws,o',e',_,k',d'⟩:=I.inv.lists.isList z
  rw [he] at e';cases e';rw [hd] at d';cases d'
 exact ⟨o,vs,R.keep _ _ he (fun z=>hav (F.frsAv _ z)) (fun z=>hav (ho _ z)) nα,hd,h2⟩
private theorem C8 {v:Expr}{pos:Pos}{mx:M Txt}(hh:fm.hdl=none)(hv:SimXc W n fm v mx):SimT W n fm (.Raise (some v) none pos) (M.bind mx fun t=>M.raise (.toml t)):=.mk fun A α ps s C I ns=>by
 have hA:A.handled=none:=C.hdl.trans hh
 rw [arm_exec_Raise]
 refine wpAny_bind (wpAny_standAt (EV (C:=W.H.toml) ?_))
 refine wpAny_bind (wpAny_mono (hv A α ps s C I (Ab ns)) (fun v s' z=>wpAny_bind (wpAny_standAt (wpAny_pure ?_))) fun x s' z=>z.toS.bind)
 obtain ⟨a,t,ps',α',e,rfl,I',g,R,X⟩:=z
 refine ⟨a,t,rfl,C.hd.tomlC.keeps I'.inv.base,X.made,.inl ⟨hA,?_⟩⟩
 exact ⟨.toml t,ps',α',by rw [Aa e];rfl,I',g,R.up,X.raised⟩
private theorem NewExc.step (C:Ctx W fm n A)(I:InvS W fm α ps s)(hs0:∀ b,start.get? b=none->W.h₀.get? b=none)(X:NewExc W.H.toml start s.heap e m)(R:Rel fm.stk own W0 start s.heap){k:Nat}{x:Value}(k0:k≠0)(k1:k≠1) :
  InvS W fm α ps { s with heap:=AK s.heap e k x }/\Rel fm.stk own W0 start (AK s.heap e k x)/\NewExc W.H.toml start (AK s.heap e k x) e m:=by
 have T:=X.turn (fm:=fm) I.inv.frames k x
 have hc:∀ b∈[e],start.get? b=none:=fun b q=>by rw [List.mem_singleton.mp q];exact X.1
 exact ⟨⟨I.inv.turn C.fm T fun b q=>hs0 b (hc b q),I.gens,I.os⟩,R.turn T hc,X.set k0 k1⟩
noncomputable abbrev SimSh.T (W:Wd)(n:Nat)(fm:Fm)(b:List Stmt)(m:M PFlow):Prop:=∀ A α ps s a,Ctx W fm n A->InvS W fm α ps s->fm.hdl=some (.ref a)->a∉fm.av->HdlAt s.heap fm a->m ps≠.stuck->wpAny W.m A (execs b fm.env) (OkS W fm α s.heap (m ps)) (ExS W fm α s.heap (m ps)) s
structure SimSh (W:Wd)(n:Nat)(fm:Fm)(b:List Stmt)(m:M PFlow):Prop where
 go:SimSh.T W n fm b m
noncomputable instance {W:Wd} {n:Nat} {fm:Fm} {b:List Stmt} {m:M PFlow}:CoeFun (SimSh W n fm b m) (fun U=>SimSh.T W n fm b m):=⟨SimSh.go⟩
private theorem JX {p:Pos}{k:Nat}{pos:Pos}{env:Env}{E:Value->Shared->Prop}(s:Shared)(Q:Value->Shared->Prop)(h:Q .none s):wpAny W.m A (do let v <- eval (.Constant .none k p) env;standAt pos;pure v) Q E s:=
 wpAny_bind (wpAny_pure (wpAny_bind (wpAny_standAt (wpAny_pure h))))
private theorem FL {v:Expr}{k:Nat}{p pos:Pos}{b:List Stmt}{mx:M Txt}(hv:SimXc W n fm v mx):SimSh W n fm (.Raise (some v) (some (.Constant .none k p)) pos::b) (M.bind mx fun t=>M.raise (.toml t)):=.mk fun A α ps s a C I hh hav hat ns=>by
 have hA:A.handled=some (.ref a):=C.hdl.trans hh
 have hs0:=I.none
 refine wpAny_execs_cons ?_
 rw [arm_exec_Raise]
 refine wpAny_bind (wpAny_standAt (FK (C:=W.H.toml) (pos:=pos) (k:=k) ?_ _ fun s Q h=>JX s Q h))
 refine wpAny_bind (wpAny_mono (hv A α ps s C I (Ab ns)) (fun v s' z=>wpAny_bind (wpAny_standAt (wpAny_pure ?_))) fun x s' z=>z.toS.bind)
 obtain ⟨e,t,ps',α',er,rfl,I',g,R,X⟩:=z
 obtain ⟨o,vs,ho,hd,h2⟩:=HdlAt.rel (own:=fm.tab) C.fm I hav C.fm.tabAv R hat
 have ne:a≠e:=fun q=>by
  obtain ⟨o',vs',h1,_⟩:=hat
  rw [q,X.1] at h1;cases h1
 obtain ⟨I1,R1,X1⟩:=X.step C I' hs0 R.up (k:=3) (x:=.none) (by decide) (by decide)
 obtain ⟨I2,R2,X2⟩:=X1.step C I1 hs0 R1 (k:=4) (x:=.bool true) (by decide) (by decide)
 obtain ⟨I3,R3,X3⟩:=X2.step C I2 hs0 R2 (k:=2) (x:=.ref a) (by decide) (by decide)
 refine ⟨e,t,rfl,C.hd.tomlC.keeps I'.inv.base,X.made,.inr ⟨a,o,vs,hA,ne,?_,hd,h2,?_⟩⟩
 ·exact (Heap.get?_update_other _ _ (Ne.symm ne)).trans ((Heap.get?_update_other _ _ (Ne.symm ne)).trans ho)
 ·exact ⟨.toml t,ps',α',by rw [Aa er];rfl,I3,g,R3,X3.raised⟩
end
end Mi
end
section
open PySem PySem.W PyProof.Rows
set_option maxRecDepth 10000
namespace Mi
section
variable {W:Wd}{fm:Fm}{α α' α₁ W0:List Addr}{h h' h₁ start:Heap}{n:Nat}{A:Around}{ps ps':PS}{s s' c0:Shared}{H:Hd}{h₀:Heap}{own av av':List Addr}{y:Value}{x:Str}{t m:Txt}{C e:Addr}
private theorem GP {T:String}{t:Str}{i:Nat}{tp hp pos:Pos}{b:List Stmt}{b0:Stmt}{suite:List Stmt}{m hm:M PFlow}(F:StdX T)(ht:(t,NameKind.globalImplicit,i)∈fm.sc)(hf:t∈Bo)(hn:t≠"__name__")(hd:(t==("__debug__":Str))=false)(hbt:bootBuiltins t=some (.type T))
  (hb:SimS W n fm b m) (hh:∀ y,SimSh W n (fm.mark y) (b0::suite) hm):SimT W n fm (.Try b [.ExceptHandler (some (.Name t tp)) none (b0::suite) hp] [] [] pos) (M.tryN (Ig T hm) m):=by
 refine GK hb fun A α ps s e x hm' W0 start C hs0 hlive I g R X hX ns=>?_
 cases e with
 | toml t=>exact (by cases hX)
 | std c=>
  by_cases hc:c=T
  ·subst hc
   have hX:some hm=some hm':=(if_pos rfl:(if c=c then some hm else none)=some hm).symm.trans hX
   obtain rfl:=Option.some.inj hX
   have X':=X
   obtain ⟨a,oe,vs,rfl,ha,hcl,hrest⟩:=X
   refine wpAny_handleBy_cons (codeAny_handlers_test (BD (C.mark (y:=.ref a)) I.mark hf hn hbt ht hd ?_)) (by intro q;cases q)
   refine wpAny_excMatches_type ⟨oe,ha,hcl⟩ F.exc F.nt F.self ?_
   refine codeAny_handlers_suite ?_
   refine B4 (C.mark (y:=.ref a)) I.mark R hs0 X' _ fun Y1 U1 v3 v4=>?_
   obtain ⟨a',oe',vs',ea,ha',hc',hd',hsz',hna',_,_,hctx⟩:=v4
   cases ea
   have hav:a∉fm.av:=fun q=>by have:=hlive a q;rw [hna'] at this;cases this
   refine wpAny_mono (hh (.ref a) _ α ps _ a C.mark U1 rfl hav ⟨oe',vs',ha',hd',hctx⟩ ns) (fun f u4 z=>?_) fun y u4 z=>?_
   ·exact OkS.unmark (y:=.ref a) (z.after g v3)
   ·exact JT (y:=.ref a) C hs0 (z.after g v3)
  ·have hX:none=some hm':=(if_neg hc:(if c=T then some hm else none)=none).symm.trans hX
   exact (by cases hX)
end
section
variable {W:Wd}{fm:Fm}{α α' α₁ W0:List Addr}{h h' h₁ start:Heap}{n:Nat}{A:Around}{ps ps':PS}{s s' c0:Shared}{H:Hd}{h₀:Heap}
private theorem FM {x:Txt}(ns:M.str x ps≠.stuck):x.length<=sizeLine/\M.str x ps = .ok (.str x) ps:=by
 unfold M.str at ns ⊢
 by_cases q:x.length<=big
 ·rw [if_pos q];exact ⟨A4▸q,rfl⟩
 ·rw [if_neg q] at ns;exact absurd rfl ns
private theorem GQ {i:Int}(h:Ai i=true):i.natAbs.log2<1920:=by
 have:i.natAbs<1073741824:=of_decide_eq_true h
 by_cases z:i.natAbs=0
 ·rw [z];decide
 ·have:=(Nat.log2_lt z).mpr (show i.natAbs<2 ^ 30 from this)
  exact Mi.la [_] [([2,3,0],[61])] ([2,3,0],[3841]) rfl this
private theorem Lb (i:Int):txt (Bq i)=Str.ofString (toString i):=Bc _
set_option tactic.hygienic true in
private theorem HC {v:Expr}{pos:Pos}{m:M PV}(hv:SimE W n fm v m):SimE W n fm (.FormattedValue v (-1) none pos) (M.bind m Dt):=.mk fun A α ps s C I ns=>by
 refine wpAny_FormattedValue_plain (Aj.seq (hv A α ps s C I (Ab ns)) (fun p v α₁ o0 c0 s0 d0 l0 S0 u0=>?_) fun x c0 q=>q.bind)
 rw [Aa u0] at ns ⊢
 cases p <;> (try exact absurd rfl ns)
 ·rename_i i
  obtain ⟨t,rfl⟩:=S0.inv
  have ns':M.orStuck (Ai i) (M.ret (PV.str (Bq i))) o0≠.stuck:=ns
  obtain ⟨c,e⟩:=Af ns'
  refine wpAny_mono (Q:=OkE W fm α₁ c0.heap (M.ret (PV.str (Bq i)) o0)) (E:=fun U U=>False) ?_ (fun U U q=>?_) fun U U z=>z.elim
  ·refine wpAny_formatField_int (GQ c) ?_
   have:=OkE.same (t:=c0.toks+1+1) s0 (RepV.str (H:=W.H) (h₀:=W.h₀) (av:=fm.av) (α:=α₁) (h:=c0.heap) (Bq i) (c0.toks+1))
   rw [Lb] at this
   exact this
  ·have eq:Dt (.int i) o0=M.ret (PV.str (Bq i)) o0:=e
   rw [eq];exact q.after d0 l0
 ·rename_i x
  obtain ⟨t,rfl⟩:=S0.inv
  have ns':M.str x o0≠.stuck:=ns
  obtain ⟨hl,e⟩:=FM ns'
  have eq:Dt (.str x) o0 = .ok (.str x) o0:=e
  rw [eq]
  exact wpAny_formatField_str ((OkE.same' s0 (.str x t)).after d0 l0) ((OkE.same (t:=c0.toks+1) s0 (.str x c0.toks)).after d0 l0) (by rw [Ao];exact hl)
set_option tactic.hygienic true in
private theorem NS {v:Expr}{pos:Pos}{m:M PV}(hv:SimE W n fm v m):SimE W n fm (.FormattedValue v 114 none pos) (M.bind m Ih):=.mk fun A α ps s C I ns=>by
 refine wpAny_FormattedValue_repr (Aj.seq (hv A α ps s C I (Ab ns)) (fun p v α₁ o0 c0 s0 d0 l0 S0 u0=>?_) fun x c0 q=>q.bind)
 rw [Aa u0] at ns ⊢
 cases p <;> (try exact absurd rfl ns)
 rename_i x
 obtain ⟨t,rfl⟩:=S0.inv
 have ns':M.str (A3 x) o0≠.stuck:=ns
 obtain ⟨hl,e⟩:=FM ns'
 have eq:Ih (.str x) o0 = .ok (.str (A3 x)) o0:=e
 have et:reprText (txt x)=txt (A3 x):=(Bc _).symm
 rw [eq]
 refine pyReprObj_str ?_ (by rw [et,Ao];exact hl)
 rw [et]
 exact wpAny_formatField_str ((OkE.same (t:=c0.toks+1) s0 (.str (A3 x) _)).after d0 l0) ((OkE.same (t:=c0.toks+1+1) s0 (.str (A3 x) _)).after d0 l0) (by rw [Ao];exact hl)
set_option tactic.hygienic true in
private theorem NT {R0:R PV}(C:Ctx W fm n A):∀ {es:List Expr} {ms:List (M PV)},All2 (SimE W n fm) es ms->∀ (acc:Txt) (α:List Addr) (ps:PS) (s:Shared),InvS W fm α ps s->Grow W0 α start->Rel fm.stk fm.tab W0 start s.heap->R0=M.joinF ms acc ps->R0≠.stuck ->
  Joins W.m A (ExE W fm W0 start R0) (evalEach es fm.env) (txt acc) (fun out c0=>out.length<=sizeLine/\OkE W fm W0 start R0 (.str out c0.toks) { c0 with toks:=c0.toks+1 }) s:=by
 intro _ _ hS
 induction hS with
 | nil=>
  intro acc α ps s I g x e ns
  have ns':M.str acc ps≠.stuck:=by rw [e] at ns;exact ns
  obtain ⟨hl,e'⟩:=FM ns'
  refine ⟨by rw [Ao];exact hl,.str acc,ps,α,e.trans e',I.tok _,g,x,.str acc _⟩
 | @cons v m es ms q qs ih=>
  intro acc α ps s I g x e ns
  have eq:R0=M.bind m (fun v=>match v with
   | .str t=>M.orStuck ((acc++t).length<=big) (M.joinF ms (acc++t))
   | _=>M.stuck) ps:=e
  show wpAny W.m A (eval v fm.env) _ _ s
  refine Aj.seq (q A α ps s C I (Ab (eq▸ns))) (fun p v α₁ o0 c0 s0 d0 l0 S0 u0=>?_) fun y c0 z=>by rw [eq];exact z.bind.after g x
  rw [Aa u0] at eq
  cases p <;> (try exact absurd eq ns)
  rename_i t
  obtain ⟨tk,rfl⟩:=S0.inv
  have eq:R0=M.orStuck ((acc++t).length<=big) (M.joinF ms (acc++t)) o0:=eq
  have ns':M.orStuck ((acc++t).length<=big) (M.joinF ms (acc++t)) o0≠.stuck:=fun z=>ns (eq.trans z)
  obtain ⟨c,e2⟩:=Af ns'
  rw [decide_eq_true_eq] at c
  refine ⟨txt t,tk,rfl,by rw [Dm,Ao,<- A4];exact c,?_⟩
  rw [Dm]
  exact ih (acc++t) α₁ o0 c0 s0 (g.trans d0 x) (x.trans l0 g.new) (eq.trans e2) ns
private theorem FN {e1 e2:Expr}{es:List Expr}{ms:List (M PV)}{pos:Pos}(q:All2 (SimE W n fm) (e1::e2::es) ms):SimE W n fm (.JoinedStr (e1::e2::es) pos) (M.joinF ms []):=.mk fun A α ps s C I ns=>
 wpAny_JoinedStr (NT C q [] α ps s I (.refl ..) (.refl ..) rfl ns)
end
noncomputable def Ru:PV->M PV
 | .int i=>M.ret (.int (-i))
 | _=>M.stuck
noncomputable def Ew (w3 U3:CmpOp)(a b:PV)(mc:M PV):M PV:=
 M.bind (AA w3 a b) fun c=>M.bind (tst c) fun t=>if t then M.bind mc fun d=>AA U3 b d else M.ret c
noncomputable def HD {K:Type}(enc:K->PV)(ks:List K)(l:List PV):M PV:=M.ret (.dct (ks.map enc) l)
noncomputable def P0 (k:Str):PV:=.str k.cps.toList
section
variable {W:Wd}{fm:Fm}{α α' α₁ W0:List Addr}{h h' h₁ start:Heap}{n:Nat}{A:Around}{ps ps':PS}{s s' c0:Shared}{H:Hd}{h₀:Heap}
private theorem P1 {e:Expr}{pos:Pos}{m:M PV}(he:SimE W n fm e m):SimE W n fm (.UnaryOp .USub e pos) (M.bind m Ru):=.mk fun A α ps s C I ns=>by
 refine wpAny_UnaryOp (Aj.seq (he A α ps s C I (Ab ns)) (fun a va α₁ o0 c0 s0 d0 l0 ra u0=>?_) fun x c0 q=>q.bind)
 rw [Aa u0] at ns ⊢
 cases a <;> (try exact absurd rfl ns)
 obtain ⟨_,rfl⟩:=ra.inv
 exact PySem.P.neg_int ((OkE.same s0 (.int _ _)).after d0 l0)
private theorem GR {l S0 V2:Expr}{w3 U3:CmpOp}{pos:Pos}{ml z5 S5:M PV}(hl:SimE W n fm l ml)(h1:SimE W n fm S0 z5)(h2:SimE W n fm V2 S5)(hm:lastMarks [w3,U3] [S0,V2]=false) :
  SimE W n fm (.Compare l [w3,U3] [S0,V2] pos) (M.bind ml fun a=>M.bind z5 fun b=>Ew w3 U3 a b S5):=.mk fun A α ps s C I ns=>by
 refine Compare_chain (Aj.seq (hl A α ps s C I (Ab ns)) (fun a va α₁ o0 c0 s0 d0 l0 ra u0=>?_) fun x c0 q=>q.bind) hm
 rw [Aa u0] at ns ⊢
 refine chain_link (Aj.seq (h1 A α₁ o0 c0 C s0 (Ab ns)) (fun b vb z0 X0 y0 Z0 U0 V0 rb Y0=>?_) fun x c0 q=>q.bind.after d0 l0)
 rw [Aa Y0] at ns ⊢
 unfold Ew at ns ⊢
 refine Aj.seq (En w3 A z0 X0 y0 a b va vb C Z0 (s0.stays C V0 U0 ra) rb (Ab ns)) (fun c vc V3 u3 V1 U1 Z1 w2 rc W2=>?_) fun x c0 q=>(q.bind.after U0 V0).after d0 l0
 rw [Aa W2] at ns ⊢
 obtain ⟨t,tb,et⟩:=Hr (Ab ns)
 rw [Aa et] at ns ⊢
 have hv:=CP rc tb
 subst hv
 refine wpAny_truthy_bool ?_
 cases t with
 | false=>
  simp only [Bool.false_eq_true,if_false]
  exact ((OkE.same' U1 rc).after Z1 w2 |>.after U0 V0).after d0 l0
 | true=>
  simp only [if_true] at ns ⊢
  refine chain_last (Aj.seq (h2 A V3 u3 V1 C U1 (Ab ns)) (fun d vd V4 U4 u4 W4 Y3 Z3 rd o5=>?_) fun x c0 q=>((q.bind.after Z1 w2).after U0 V0).after d0 l0)
  rw [Aa o5] at ns ⊢
  have rb':=U1.stays C Z3 Y3 (Z0.stays C w2 Z1 rb)
  exact wpAny_mono (En U3 A V4 U4 u4 b d vb vd C W4 rb' rd ns) (fun U U q=>(((q.after Y3 Z3).after Z1 w2).after U0 V0).after d0 l0) (fun U U q=>(((q.after Y3 Z3).after Z1 w2).after U0 V0).after d0 l0)
noncomputable def NU (W:Wd)(fm:Fm){K:Type}[DecidableEq K](knd:KeyKind W.H.prog W.H.w K)(e:Expr)(k:K):Prop:=
 ∀ A s (Q:Value->Shared->Prop) (E:Value->Shared->Prop),(∀ v tk,knd.is k v=true->Q v { s with toks:=tk })->wpAny W.m A (eval e fm.env) Q E s
private theorem SP {i:Int}{k:Nat}{pos:Pos}:NU W fm (intKind _ _) (.Constant (.int i) k pos) i:=fun A s Q E h=>wpAny_Constant_int (h _ _ (intKind_is _ _ _ _))
private theorem keyS {x:Str}{k:Nat}{pos:Pos}:NU W fm (strKind _ _) (.Constant (.str x) k pos) x:=fun A s Q E h=>wpAny_mkText (h _ _ (strKind_is _ _ _ _))
noncomputable def Fm.more (fm:Fm)(D:Addr):Fm:={ fm with av:=D::fm.av }
inductive SimD (W:Wd)(n:Nat)(fm:Fm){K:Type}[DecidableEq K](knd:KeyKind W.H.prog W.H.w K):List (Option Expr)->List Expr->List K->List (M PV)->Prop
 | nil:SimD W n fm knd [] [] [] []
 | cons {ke ve:Expr} {k:K} {m:M PV} {kes:List (Option Expr)} {ves:List Expr} {ks:List K} {ms:List (M PV)} (hk:∀ D,NU W (fm.more D) knd ke k) (hv:∀ D,SimE W n (fm.more D) ve m) (r:SimD W n fm knd kes ves ks ms):SimD W n fm knd (some ke::kes) (ve::ves) (k::ks) (m::ms)
variable {K:Type}[DecidableEq K]{knd:KeyKind W.H.prog W.H.w K}
private theorem SimD.facts:∀ {kes:List (Option Expr)} {ves:List Expr} {ks:List K} {ms:List (M PV)},SimD W n fm knd kes ves ks ms->kes.all (·.isSome)=true/\kes.length=ves.length/\kes.length=ks.length:=by
 intro _ _ _ _ hS
 induction hS with
 | nil=>

  exact ⟨rfl,rfl,rfl⟩
 | @cons ke ve k m kes ves ks ms hk hv r ih=>

  obtain ⟨h1,h2,h3⟩:=ih
  exact ⟨by simp [h1],by simp [h2],by simp [h3]⟩
private theorem NV {pos:Pos}{D:Addr}:∀ {kes:List (Option Expr)} {ves:List Expr} {ks:List K} {ms:List (M PV)},SimD W n fm knd kes ves ks ms->∀ A α ps s,Ctx W (fm.more D) n A->InvS W (fm.more D) α ps s->M.seq ms ps≠.stuck ->
  wpAny W.m A (evalPairs (pairTrees kes ves (fm.more D).env pos)) (fun vs s'=>OkL W (fm.more D) α s.heap (M.seq ms ps) (vs.map (·.2)) s'/\Carries knd vs (ks.zip (vs.map (·.2)))/\vs.length=ks.length) (ExE W (fm.more D) α s.heap (M.seq ms ps)) s:=by
 intro _ _ _ _ hS
 induction hS with
 | nil=>
  intro A α ps s C I ns
  exact pairTrees_nil_walk ⟨⟨[],ps,α,rfl,I,.refl ..,.refl ..,.nil⟩,trivial,rfl⟩
 | @cons ke ve k m kes ves ks ms hk hv r ih=>
  intro A α ps s C I ns
  have ns':M.bind m (fun v=>M.bind (M.seq ms) fun vs=>M.ret (v::vs)) ps≠.stuck:=ns
  have eq:M.seq (m::ms) ps=M.bind m (fun v=>M.bind (M.seq ms) fun vs=>M.ret (v::vs)) ps:=rfl
  rw [eq]
  refine pairTrees_cons_walk (hk D A s _ _ fun kv tk hkv=>?_)
  refine Aj.seq (hv D A α ps { s with toks:=tk } C (I.tok tk) (Ab ns')) (fun p v α₁ o0 c0 s0 d0 l0 S0 u0=>?_) fun x c0 q=>q.bind
  rw [Aa u0] at ns' ⊢
  refine wpAny_mono (ih A α₁ o0 c0 C s0 (Ab ns')) (fun vs y0 q=>?_) fun x y0 q=>q.bind.after d0 l0
  obtain ⟨⟨l,X0,z0,Y0,Z0,U0,V0,V2⟩,hc,hl⟩:=q
  rw [Aa Y0]
  exact ⟨⟨p::l,X0,z0,rfl,Z0,d0.trans U0 l0,l0.trans V0 d0.new,.cons (s0.stays C V0 U0 S0) V2⟩,⟨hkv,rfl,hc⟩,by simp [hl]⟩
private theorem JY (acc:List (K × Value))(k:K)(v:Value)(hn:k∉acc.map (·.1)):stored acc k v=acc++[(k,v)]:=by
 unfold stored
 rw [if_neg]
 intro q
 obtain ⟨kv,h1,h2⟩:=List.any_eq_true.mp q
 exact hn (List.mem_map.mpr ⟨kv,h1,by simpa using h2⟩)
private theorem FO:∀ (kvs acc:List (K × Value)),((acc++kvs).map (·.1)).Nodup->merged acc kvs=acc++kvs
 | [],acc,_=>by simp [merged]
 | (k,v)::kvs,acc,h=>by
  have hk:k∉acc.map (·.1):=by
   intro q
   rw [List.map_append,List.nodup_append] at h
   exact h.2.2 k q k (by simp) rfl
  have:=FO kvs (acc++[(k,v)]) (by simpa using h)
  show merged (stored acc k v) kvs=_
  rw [JY acc k v hk,this];simp
private theorem L4 (enc:K->PV)(he:∀ {α:List Addr} {h:Heap} {k:K} {v:Value},knd.is k v=true->W.rep fm α h (enc k) v){ks:List K}:∀ {es:List DictEntry} {l:List PV} {vs:List Value},Pairs knd es (ks.zip vs)->ks.length=vs.length->RepL W.H W.h₀ fm.av α h l vs ->
  RepL W.H W.h₀ fm.av α h (ks.map enc) (es.map (·.key))/\RepL W.H W.h₀ fm.av α h l (es.map (·.val)):=by
 induction ks with
 | nil=>
  intro es l vs p hl r
  cases List.eq_nil_of_length_eq_zero hl.symm
  cases p;cases r;exact ⟨.nil,.nil⟩
 | cons k ks ih=>
  intro es l vs p hl r
  cases vs with
  | nil=>cases hl
  | cons v vs=>
   cases p with
   | cons h1 h2 p=>
    obtain ⟨_,_,rfl,r,rs⟩:=r.inv'
    obtain ⟨q1,q2⟩:=ih p (Nat.succ.inj hl) rs
    exact ⟨.cons (he h1) q1,.cons (by have h2:_=v:=h2;subst h2;exact r) q2⟩
private theorem Lc:∀ {ks:List K} {vs:List Value},ks.length=vs.length->(ks.zip vs).map (·.1)=ks
 | [],[],_=>rfl
 | k::ks,v::vs,h=>by simp [Lc (ks:=ks) (vs:=vs) (by simpa using h)]
 | [],_::_,h=>by simp at h
 | _::_,[],h=>by simp at h
private theorem Ctx.more {D:Addr}(C:Ctx W fm n A)(hD:W.h₀.get? D=Option.none):Ctx W (fm.more D) n A:=
 ⟨C.frames,C.depth,C.units,C.hdl,C.tab,⟨C.fm.kind,C.fm.glob,C.fm.bi,List.mem_cons_of_mem _ C.fm.locAv,C.fm.locOwn,fun a h=>List.mem_cons_of_mem _ (C.fm.ownAv a h),fun a h=>List.mem_cons_of_mem _ (C.fm.frsAv a h),fun a h=>by
  rcases List.mem_cons.mp h with q | q
  ·rw [q];exact hD
  ·exact C.fm.fresh a q,C.fm.kinds,C.fm.once,C.fm.cellOwn,C.fm.cellApart,C.fm.frame⟩,C.hd⟩
private theorem InvS.more {D:Addr}(I:InvS W fm α ps s)(nD:s.heap.get? D=Option.none)(x:Rel fm.stk fm.tab α s.heap s'.heap)(J:InvS W fm α ps s')(hs:(s'.heap.get? D).isSome=true)(kp:∀ b o,s.heap.get? b=some o->s'.heap.get? b=some o):InvS W (fm.more D) α ps s':=by
 have st:∀ a∈(fm.more D).av,a∈fm.av\/s.heap.get? a=Option.none:=fun a h=>by
  rcases List.mem_cons.mp h with q | q
  ·rw [q];exact .inr nD
  ·exact .inl q
 have nα:D∉α:=fun z=>by
  obtain ⟨ws,o,e,_⟩:=I.inv.lists.isList z
  rw [nD] at e;cases e
 have pre:α <+: α:=List.prefix_refl _
 have rep:∀ {p v},OptRep W.H W.h₀ fm.av α s.heap p v->OptRep W.H W.h₀ (fm.more D).av α s'.heap p v:=fun r=>r.map fun r=>(r.strong st).keeps kp pre
 refine ⟨⟨J.inv.base,?_,fun x k i hx hk=>?_,⟨I.inv.lists.len,fun i l e=>?_,I.inv.lists.nodup,I.inv.lists.fresh,fun a m q=>?_⟩,fun a m=>?_,J.inv.frames,J.inv.tabs⟩,J.gens,J.os⟩
 ·obtain ⟨m,n1,n2⟩:=I.inv.loc
  exact ⟨m,n1.keeps kp,fun x i hm=>rep (n2 x i hm)⟩
 ·obtain ⟨c,v,q1,q2,q3,⟨o,q4,q4'⟩,q5⟩:=I.inv.cel x k i hx hk
  exact ⟨c,v,q1,List.mem_cons_of_mem _ q2,q3,⟨o,kp _ _ q4,q4'⟩,rep q5⟩
 ·obtain ⟨a,vs,h1,h2,h3⟩:=I.inv.lists.at_ i l e
  exact ⟨a,vs,h1,h2.at (kp _),(h3.strong st).keeps kp pre⟩
 ·rcases List.mem_cons.mp q with q | q
  ·exact nα (q▸m)
  ·exact I.inv.lists.apart a m q
 ·rcases List.mem_cons.mp m with q | q
  ·rw [q];exact hs
  ·exact J.inv.live a q
private theorem InvS.less {D:Addr}(I:InvS W (fm.more D) α ps s)(hD:∀ v,¬ s.heap.IsCell D v):InvS W fm α ps s:=by
 have wk:∀ a,a∈fm.av->a∈(fm.more D).av:=fun a m=>List.mem_cons_of_mem _ m
 have rep:∀ {p v},OptRep W.H W.h₀ (fm.more D).av α s.heap p v->OptRep W.H W.h₀ fm.av α s.heap p v:=fun r=>r.map fun r=>r.weak wk
 refine ⟨⟨I.inv.base,?_,fun x k i hx hk=>?_,⟨I.inv.lists.len,fun i l e=>?_,I.inv.lists.nodup,I.inv.lists.fresh,fun a m q=>I.inv.lists.apart a m (wk a q)⟩,fun a m=>I.inv.live a (wk a m),I.inv.frames,I.inv.tabs⟩,I.gens,I.os⟩
 ·obtain ⟨m,n1,n2⟩:=I.inv.loc
  exact ⟨m,n1,fun x i hm=>rep (n2 x i hm)⟩
 ·obtain ⟨c,v,q1,q2,q3,q4,q5⟩:=I.inv.cel x k i hx hk
  refine ⟨c,v,q1,?_,q3,q4,rep q5⟩
  rcases List.mem_cons.mp q2 with z | z
  ·exact absurd q4 (z▸hD v)
  ·exact z
 ·obtain ⟨a,vs,h1,h2,h3⟩:=I.inv.lists.at_ i l e
  exact ⟨a,vs,h1,h2,h3.weak wk⟩
private theorem ExE.less {D:Addr}{β:Type}{r:R β}{x:Value}(hD:∀ v,¬ s'.heap.IsCell D v)(q:ExE W (fm.more D) α h r x s'):ExE W fm α h r x s':=by
 obtain ⟨e,ps',α',er,I,g,R,X⟩:=q
 exact ⟨e,ps',α',er,I.less hD,g,R,X⟩
private theorem ID (enc:K->PV)(he:∀ {α:List Addr} {h:Heap} {k:K} {v:Value},knd.is k v=true->W.rep fm α h (enc k) v)
  (fin:∀ {ks vs:List PV} {a:Addr} {o:Obj} {es:Array DictEntry} {ep:Nat} {α:List Addr} {h:Heap},(a∉fm.av/\(a==sysModules)=false)->h.get? a=some o->o.ExactDict->o.data = .dict es ep->KeysOf knd es ->
   RepL W.H W.h₀ fm.av α h ks (es.toList.map (·.key))->RepL W.H W.h₀ fm.av α h vs (es.toList.map (·.val))->W.rep fm α h (.dct ks vs) (.ref a))
  {kes:List (Option Expr)} {ves:List Expr} {ks:List K} {ms:List (M PV)} {pos:Pos} (q:SimD W n fm knd kes ves ks ms) (hn:ks.Nodup) (h0:kes≠[]) (hlen:kes.length<=15) :
  SimE W n fm (.Dict kes ves pos) (M.bind (M.seq ms) (HD enc ks)):=.mk fun A α ps s C I ns=>by
 obtain ⟨f1,f2,f3⟩:=q.facts
 have nD:s.heap.get? s.heap.objs.size=none:=Av _
 have navD:s.heap.objs.size∉fm.av:=AR I nD
 have nα:s.heap.objs.size∉α:=fun z=>by
  obtain ⟨ws,o,e,_⟩:=I.inv.lists.isList z
  rw [nD] at e;cases e
 have kp:∀ b o,s.heap.get? b=some o->(s.heap.push { cls:=.type "dict",data:=.dict #[] }).get? b=some o:=fun b o e=>Heap.get?_push_of_some _ e
 have nDt:s.heap.objs.size∉fm.tab:=fun m=>navD (C.fm.tabAv _ m)
 have P:InvS W (fm.more s.heap.objs.size) α ps { s with heap:=s.heap.push { cls:=.type "dict",data:=.dict #[] } }:=I.more nD (.of_keeps kp) (Bl I _) (by rw [Heap.get?_push_size _ rfl];rfl) kp
 refine wpAny_Dict_walk (knd:=knd) f1 f2 h0 hlen ?_
 refine wpAny_mono (NV (D:=s.heap.objs.size) q A α ps _ (C.more (I.none _ nD)) P (Ab ns)) (fun vs c0 z=>?_) fun x c0 z=>?_
 rotate_left
 ·have z2:=z
  obtain ⟨_,_,_,_,_,_,Rz,_⟩:=z2
  refine ExE.less (fun v hv=>?_) (z.bind.after (.refl ..) (.of_keeps kp))
  have eD:=Rz.keep _ _ (Heap.get?_push_size _ rfl) (fun z=>navD (C.fm.frsAv _ z)) nDt nα
  obtain ⟨o,e1,e2⟩:=hv
  rw [eD] at e1;cases e1;cases e2
 obtain ⟨⟨l,o0,α₁,u0,s0,d0,l0,S0⟩,hc,hl⟩:=z
 rw [Aa u0]
 have hl2:ks.length=(vs.map (·.2)).length:=by rw [List.length_map,hl]
 have keepD:∀ o,(s.heap.push { cls:=.type "dict",data:=.dict #[] }).get? s.heap.objs.size=some o->c0.heap.get? s.heap.objs.size=some o:=fun o e=>
  l0.keep _ o e (fun z=>navD (C.fm.frsAv _ z)) nDt nα
 refine ⟨ks.zip (vs.map (·.2)),hc,(Heap.DictOf.new s.heap).at keepD,fun h' hd hs=>?_⟩
 rw [FO _ [] (by rw [List.nil_append,Lc hl2];exact hn),List.nil_append] at hd
 obtain ⟨o,es,ep,ho,hx,hdt,hk,hp,_⟩:=hd
 have nsys:(s.heap.objs.size==sysModules)=false:=by
  refine beq_eq_false_iff_ne.mpr fun z=>?_
  obtain ⟨o,eo⟩:=Option.isSome_iff_exists.mp C.hd.sysm
  have:=I.inv.base _ _ eo
  rw [<- z,nD] at this;cases this
 have mem:s.heap.objs.size∈(fm.more s.heap.objs.size).av:=List.mem_cons_self ..
 have hα:∀ b∈α₁,b≠s.heap.objs.size:=fun b m q=>s0.inv.lists.apart b m (q▸mem)
 have J:InvS W (fm.more s.heap.objs.size) α₁ o0 { c0 with heap:=h',toks:=c0.toks+vs.length }:=by
  refine ⟨s0.inv.mine (C.more (I.none _ nD)).fm hs mem (by rw [ho];rfl) (fun o' eo=>⟨(fun vs q=>by rw [keepD _ (Heap.get?_push_size _ rfl)] at eo;cases eo;cases q),o,ho,fun vs q=>by rw [hdt] at q;cases q⟩) rfl ?_ fun x k i hx hkk=>?_,s0.gens,s0.os⟩
  ·obtain ⟨m,⟨oL,eL,epL,n1,n2,n3⟩,nr⟩:=s0.inv.loc
   have nL:fm.env.locals≠s.heap.objs.size:=fun q=>navD (q▸C.fm.locAv)
   exact ⟨m,⟨oL,eL,epL,(hs.2 _ nL).trans n1,n2,n3⟩,fun x i hm=>(nr x i hm).same hs mem hα⟩
  ·obtain ⟨c,v,q1,q2,q3,⟨oc,q4,q4'⟩,q5⟩:=s0.inv.cel x k i hx hkk
   refine ⟨c,v,q1,q2,q3,⟨oc,(hs.2 c fun q=>?_).trans q4,q4'⟩,q5.same hs mem hα⟩
   have eD:=keepD _ (Heap.get?_push_size _ rfl)
   rw [q,eD] at q4;cases q4;cases q4'
 have x2:Rel fm.stk fm.tab α s.heap h':=by
  have x0:=(Rel.of_keeps (stk:=fm.stk) (own:=fm.tab) (α:=α) kp).trans l0 fun a m q=>absurd m q
  exact ⟨fun b o e m1 m2 m3=>(hs.2 b fun q=>by rw [q,nD] at e;cases e).trans (x0.keep b o e m1 m2 m3),fun b o e m1 m2 m3=>by
   obtain ⟨sl,e'⟩:=x0.slot b o e m1 m2 m3
   exact ⟨sl,(hs.2 b fun q=>by rw [q,nD] at e;cases e).trans e'⟩,fun b e=>by
   by_cases q:b=s.heap.objs.size
   ·rw [q];exact nD
   ·exact x0.live b ((hs.2 b q).symm.trans e)⟩
 obtain ⟨q1,q2⟩:=L4 (fm:=fm) enc he hp hl2 (RepL.weak (fun a m=>List.mem_cons_of_mem _ m) (RepL.same (fm:=fm.more s.heap.objs.size) hs mem hα S0))
 exact ⟨.dct (ks.map enc) l,o0,α₁,rfl,J.less (fun v hv=>by obtain ⟨oc,e1,e2⟩:=hv;rw [ho] at e1;cases e1;rw [hdt] at e2;cases e2),⟨d0.pre,fun a m q=>Rel.live (Rel.of_keeps (stk:=fm.stk) (own:=fm.tab) (α:=α) kp) a (d0.new a m q)⟩,x2,fin ⟨navD,nsys⟩ ho hx hdt hk q1 q2⟩
private theorem L5 {kes:List (Option Expr)}{ves:List Expr}{ks:List Int}{ms:List (M PV)}{pos:Pos}(q:SimD W n fm (intKind _ _) kes ves ks ms)(hn:ks.Nodup)(h0:kes≠[])(hlen:kes.length<=15) :
  SimE W n fm (.Dict kes ves pos) (M.bind (M.seq ms) (HD .int ks)):=
 ID .int (fun h=>by obtain ⟨t,rfl⟩:=Value.isInt_shape h;exact .int _ t) (fun h1 h2 h3 h4 h5 h6 h7=>.dct h1 h2 h3 h4 (.inr h5) h6 h7) q hn h0 hlen
private theorem L6 {kes:List (Option Expr)}{ves:List Expr}{ks:List Str}{ms:List (M PV)}{pos:Pos}(q:SimD W n fm (strKind _ _) kes ves ks ms)(hn:ks.Nodup)(h0:kes≠[])(hlen:kes.length<=15) :
  SimE W n fm (.Dict kes ves pos) (M.bind (M.seq ms) (HD P0 ks)):=
 ID P0 (fun {α h k v} r=>by obtain ⟨t,rfl⟩:=Value.isStrOf_shape r;have:=RepV.str (H:=W.H) (h₀:=W.h₀) (av:=fm.av) (α:=α) (h:=h) k.cps.toList t;rwa [Bc] at this) (fun h1 h2 h3 h4 h5 h6 h7=>.dct h1 h2 h3 h4 (.inl h5) h6 h7) q hn h0 hlen
end
namespace M
noncomputable def scope (js:List Nat)(m:M PV):M PV:=fun s=>match m ⟨fun i=>if i∈js then none else s.loc i,s.st⟩ with
 | .ok v s'=>.ok v ⟨s.loc,s'.st⟩
 | _=>.stuck
noncomputable def compN (get:Nat->M (Option PV))(j:Nat)(mc:M Bool)(me:M PV):Nat->Nat->List PV->M PV
 | 0,_,_=>stuck
 | f+1,k,acc=>bind (get k) fun o=>match o with
  | none=>newLst acc
  | some p=>bind (setL j p) fun U=>bind mc fun c=>if c then bind me fun v=>orStuck (acc.length+1<=big) (compN get j mc me f (k+1) (acc++[v])) else compN get j mc me f (k+1) acc
end M
noncomputable def EW (cells:List (Str × Addr)):List (Str × NameKind)->List (Str × Addr)->List (Str × Addr)
 | [],acc=>acc
 | (x,k)::r,acc=>EW cells r (if k==.free then (x,(cells.lookup x).getD 0)::acc else acc)
private theorem P2 {env:Env}:∀ (names:List (Str × NameKind)) (acc:List (Str × Addr)),(∀ y∈names,y.2 = .free->(env.cells.lookup y.1).isSome=true) ->
  (forIn names acc fun (x:Str × NameKind) (cs:List (Str × Addr))=>(if (x.2==.free)=true then do let c <- cellOf env x.1;pure (ForInStep.yield ((x.1,c)::cs)) else pure (ForInStep.yield cs):Sem _))=pure (EW env.cells names acc):=by
 intro names
 induction names with
 | nil=>intro acc _;rw [List.forIn_nil];rfl
 | cons xk r ih=>
  intro acc h
  obtain ⟨x,k⟩:=xk
  rw [List.forIn_cons]
  by_cases q:k = .free
  ·subst q
   obtain ⟨c,hc⟩:=Option.isSome_iff_exists.mp (h (x,.free) List.mem_cons_self rfl)
   simp only at hc
   have e:cellOf env x=pure c:=by unfold cellOf;rw [hc]
   simp only [beq_self_eq_true,if_true,e,pure_bind]
   rw [ih _ fun y hy=>h y (List.mem_cons_of_mem _ hy)]
   show _=pure (EW env.cells r (if (NameKind.free==NameKind.free)=true then (x,(env.cells.lookup x).getD 0)::acc else acc))
   rw [hc];rfl
  ·have:(k==NameKind.free)=false:=by simpa using q
   simp only [this,Bool.false_eq_true,if_false,pure_bind]
   rw [ih _ fun y hy=>h y (List.mem_cons_of_mem _ hy)]
   show _=pure (EW env.cells r (if (k==.free)=true then (x,(env.cells.lookup x).getD 0)::acc else acc))
   rw [this];rfl
private theorem Dv {env:Env}{scope:Scope}(h:∀ y∈scope.names,y.2 = .free->(env.cells.lookup y.1).isSome=true):closureFor scope env=pure (EW env.cells scope.names []):=by
 have:=P2 (env:=env) scope.names [] h
 unfold closureFor
 show (forIn scope.names [] _ >>= _)=_
 have e:∀ (f g:Str × NameKind->List (Str × Addr)->Sem (ForInStep (List (Str × Addr)))),(∀ x cs,f x cs=g x cs)->(forIn scope.names [] f)=forIn scope.names [] g:=fun f g h=>by
  have:f=g:=funext fun x=>funext fun cs=>h x cs
  rw [this]
 rw [e _ (fun (x:Str × NameKind) (cs:List (Str × Addr))=>(if (x.2==.free)=true then do let c <- cellOf env x.1;pure (ForInStep.yield ((x.1,c)::cs)) else pure (ForInStep.yield cs):Sem _)) (fun x cs=>rfl),this]
 rfl
private theorem FP {cells:List (Str × Addr)}{x:Str}{c:Addr}:∀ {names:List (Str × NameKind)} {acc:List (Str × Addr)},(∀ y∈names,y.2 = .free->(cells.lookup y.1).isSome=true)->(EW cells names acc).lookup x=some c ->
  ((x,NameKind.free)∈names/\cells.lookup x=some c)\/acc.lookup x=some c:=by
 intro names
 induction names with
 | nil=>exact fun U h=>.inr h
 | cons yk r ih=>
  intro acc hs h
  obtain ⟨y,k⟩:=yk
  have ih:=ih (fun y hy=>hs y (List.mem_cons_of_mem _ hy)) h
  rcases ih with ⟨h1,h2⟩ | ih
  ·exact .inl ⟨List.mem_cons_of_mem _ h1,h2⟩
  ·by_cases q:k = .free
   ·subst q
    simp only [beq_self_eq_true,if_true,List.lookup_cons] at ih
    by_cases z:x=y
    ·subst z
     simp only [beq_self_eq_true] at ih
     obtain ⟨c',hc'⟩:=Option.isSome_iff_exists.mp (hs (x,.free) List.mem_cons_self rfl)
     simp only at hc'
     rw [hc'] at ih
     simp only [Option.getD_some] at ih
     exact .inl ⟨List.mem_cons_self,by rw [hc',<- ih]⟩
    ·rw [show (x==y)=false from by simpa using z] at ih
     exact .inr ih
   ·have:(k==NameKind.free)=false:=by simpa using q
    simp only [this,Bool.false_eq_true,if_false] at ih
    exact .inr ih
private theorem NW {cells:List (Str × Addr)}{x:Str}:∀ {names:List (Str × NameKind)} {acc:List (Str × Addr)},((x,NameKind.free)∈names\/(acc.lookup x).isSome=true)->((EW cells names acc).lookup x).isSome=true:=by
 intro names
 induction names with
 | nil=>
  intro acc h
  rcases h with h | h
  ·cases h
  ·exact h
 | cons yk r ih=>
  intro acc h
  obtain ⟨y,k⟩:=yk
  refine ih ?_
  by_cases q:k = .free
  ·subst q
   simp only [beq_self_eq_true,if_true,List.lookup_cons]
   by_cases z:x=y
   ·subst z;right;simp
   ·rw [show (x==y)=false from by simpa using z]
    rcases h with h | h
    ·rcases List.mem_cons.mp h with h | h
     ·injection h with h;exact absurd h z
     ·exact .inl h
    ·exact .inr h
  ·have:(k==NameKind.free)=false:=by simpa using q
   simp only [this,Bool.false_eq_true,if_false]
   rcases h with h | h
   ·rcases List.mem_cons.mp h with h | h
    ·injection h with _ h;exact absurd h.symm q
    ·exact .inl h
   ·exact .inr h
private theorem C9 {env:Env}{x:Str}{k:NameKind}:∀ {names:List (Str × NameKind)},names.lookup x=some k ->
  (names.map fun (n,k)=>if (k==NameKind.free&&env.scope.kind==.function&&env.kindOf n==some .cell) then (n,NameKind.cell) else (n,k)).lookup x=some k \/
   (k = .free/\(names.map fun (n,k)=>if (k==NameKind.free&&env.scope.kind==.function&&env.kindOf n==some .cell) then (n,NameKind.cell) else (n,k)).lookup x=some .cell)
 | [],h=>by simp at h
 | (y,k')::r,h=>by
  have ih:=@C9 env x k r
  show List.lookup x ((if (k'==NameKind.free&&env.scope.kind==.function&&env.kindOf y==some .cell)=true then (y,NameKind.cell) else (y,k'))::_)=_\/(_/\List.lookup x ((if (k'==NameKind.free&&env.scope.kind==.function&&env.kindOf y==some .cell)=true then (y,NameKind.cell) else (y,k'))::_)=_)
  cases hx:x==y with
  | true=>
   simp only [List.lookup_cons,hx] at h
   cases (h)
   by_cases hc:(k==NameKind.free&&env.scope.kind==.function&&env.kindOf y==some .cell)=true
   ·rw [if_pos hc]
    simp only [Bool.and_eq_true,beq_iff_eq] at hc
    exact .inr ⟨hc.1.1,by simp [List.lookup_cons,hx]⟩
   ·rw [if_neg hc]
    exact .inl (by simp [List.lookup_cons,hx])
  | false=>
   simp only [List.lookup_cons,hx] at h
   by_cases hc:(k'==NameKind.free&&env.scope.kind==.function&&env.kindOf y==some .cell)=true
   ·rw [if_pos hc];simp only [List.lookup_cons,hx];exact ih h
   ·rw [if_neg hc];simp only [List.lookup_cons,hx];exact ih h
structure Ci (osc:List (Str × NameKind × Nat))(scope:Scope)(sc:List (Str × NameKind × Nat))(js:List Nat):Prop where
 kind:scope.kind = .function
 noCell:∀ y∈scope.names,y.2≠.cell
 names:∀ y∈scope.names,y.2 = .local->scope.names.lookup y.1=some .local
 free:∀ y∈scope.names,y.2 = .free->∃ k i,(y.1,k,i)∈osc/\(k = .cell\/k = .free)
 look:∀ x k i,(x,k,i)∈sc->k≠.cell/\scope.names.lookup x=some k
 cap:∀ x i,(x,NameKind.free,i)∈sc->∃ k,(x,k,i)∈osc/\(k = .cell\/k = .free)
 loc:∀ x k i,(x,k,i)∈sc->(k = .local↔i∈js)
 once:∀ x k i y k' j,(x,k,i)∈sc->(y,k',j)∈sc->(i=j↔x=y)
noncomputable def ciB (osc:List (Str × NameKind × Nat))(scope:Scope)(sc:List (Str × NameKind × Nat))(js:List Nat):Bool:=
 decide (scope.kind = .function)&&scope.names.all (fun y=>decide (y.2≠.cell))&&scope.names.all (fun y=>!decide (y.2 = .local)||decide (scope.names.lookup y.1=some .local)) &&
 scope.names.all (fun y=>!decide (y.2 = .free)||osc.any fun e=>decide (e.1=y.1)&&(decide (e.2.1 = .cell)||decide (e.2.1 = .free))) &&
 sc.all (fun e=>decide (e.2.1≠.cell)&&decide (scope.names.lookup e.1=some e.2.1)) &&
 sc.all (fun e=>!decide (e.2.1 = .free)||osc.any fun o=>decide (o.1=e.1)&&decide (o.2.2=e.2.2)&&(decide (o.2.1 = .cell)||decide (o.2.1 = .free))) &&
 sc.all (fun e=>decide (e.2.1 = .local)==decide (e.2.2∈js)) &&
 sc.all (fun e=>sc.all fun o=>decide (e.2.2=o.2.2)==decide (e.1=o.1))
private theorem Ci.of {osc:List (Str × NameKind × Nat)}{scope:Scope}{sc:List (Str × NameKind × Nat)}{js:List Nat}(h:ciB osc scope sc js=true):Ci osc scope sc js:=by
 unfold ciB at h
 simp only [Bool.and_eq_true,List.all_eq_true,decide_eq_true_eq,Bool.or_eq_true,Bool.not_eq_true',decide_eq_false_iff_not,List.any_eq_true,beq_iff_eq] at h
 obtain ⟨⟨⟨⟨⟨⟨⟨h1,h2⟩,h3⟩,h4⟩,h5⟩,h6⟩,h7⟩,h8⟩:=h
 refine ⟨h1,h2,fun y hy q=>(h3 y hy).resolve_left fun z=>z q,fun y hy q=>?_,fun x k i hm=>h5 _ hm,fun x i hm=>?_,fun x k i hm=>?_,fun x k i y k' j hm hm'=>?_⟩
 ·obtain ⟨⟨x,k,i⟩,e1,e2,e3⟩:=(h4 y hy).resolve_left fun z=>z q
  exact ⟨k,i,by have e2:x=y.1:=e2;rw [<- e2];exact e1,e3⟩
 ·obtain ⟨⟨x',k,i'⟩,e1,⟨e2,e2'⟩,e3⟩:=(h6 _ hm).resolve_left fun z=>z rfl
  have e2:x'=x:=e2
  have e2':i'=i:=e2'
  subst e2 e2'
  exact ⟨k,e1,e3⟩
 ·have:=h7 _ hm
  exact decide_eq_decide.mp this
 ·have:=h8 _ hm _ hm'
  exact decide_eq_decide.mp this
section
variable {W:Wd}{fm:Fm}{α α' α₁ W0:List Addr}{h h' h₁ w1 Y1 start:Heap}{n:Nat}{A:Around}{ps ps':PS}{s s' c0:Shared}{H:Hd}{h₀:Heap}{own:List Addr}
private theorem IE:∀ {es:List Expr} {ms:List (M Bool)},All2 (SimB W n fm) es ms->∀ A α ps s,Ctx W fm n A->InvS W fm α ps s->AB .And ms ps≠.stuck ->
  wpAny W.m A (forIn es true fun c r=>if r=true then do let ok <- isTrue c fm.env (eval c fm.env);pure (ForInStep.yield ok) else pure (ForInStep.yield r)) (OkB W fm α s.heap (AB .And ms ps)) (ExE W fm α s.heap (AB .And ms ps)) s:=by
 intro _ _ hS
 induction hS with
 | nil=>
  intro A α ps s C I ns
  rw [List.forIn_nil]
  exact wpAny_pure (.same I)
 | @cons e m es ms q qs ih=>
  intro A α ps s C I ns
  unfold AB at ns ⊢
  rw [List.forIn_cons]
  refine wpAny_bind ?_
  simp only [if_true]
  refine wpAny_bind (wpAny_mono (q A α ps s C I (Ab ns)) (fun b c0 z=>?_) (fun U U z=>z.bind))
  obtain ⟨o0,α₁,u0,s0,d0,l0⟩:=z
  rw [Aa u0] at ns ⊢
  refine wpAny_pure ?_
  cases b with
  | true=>exact wpAny_mono (ih A α₁ o0 c0 C s0 ns) (fun U U q=>q.after d0 l0) (fun U U q=>q.after d0 l0)
  | false=>
   have go:∀ es:List Expr,(forIn es false fun c r=>if r=true then do let ok <- isTrue c fm.env (eval c fm.env);pure (ForInStep.yield ok) else pure (ForInStep.yield r):Sem Bool)=pure false:=by
    intro es
    induction es with
    | nil=>rw [List.forIn_nil]
    | cons e es ih=>
     rw [List.forIn_cons]
     simp only [Bool.false_eq_true,if_false,pure_bind]
     exact ih
   show wpAny W.m A (forIn es false _) _ _ _
   rw [go]
   exact wpAny_pure ⟨o0,α₁,rfl,s0,d0,l0⟩
private theorem Rel.fresh {stk:List Env}{tab:List Addr}(x:Rel stk tab α h₁ w1)(y:Rel stk own α' w1 Y1)(n:∀ a∈α',a∉α->h₁.get? a=none)(f:∀ a∈own,a∈tab\/h₁.get? a=none):Rel stk tab α h₁ Y1:=by
 have q:∀ b o,h₁.get? b=some o->b∉α->b∉α':=fun b o e h1 h2=>by rw [n b h2 h1] at e;cases e
 have q2:∀ b o,h₁.get? b=some o->b∉tab->b∉own:=fun b o e nt h2=>by rw [(f b h2).resolve_left nt] at e;cases e
 refine ⟨fun b o e h1 h2 h3=>y.keep b o (x.keep b o e h1 h2 h3) h1 (q2 b o e h2) (q b o e h3),fun b o e h1 h2 h3=>?_,fun b e=>x.live b (y.live b e)⟩
 obtain ⟨sl,Y0⟩:=x.slot b o e h1 h2 h3
 obtain ⟨sl',W2⟩:=y.slot b _ Y0 h1 (q2 b o e h2) (q b o e h3)
 exact ⟨sl',W2⟩
private theorem InvS.poke (F:FmOk W.h₀ fm)(I:InvS W fm α ps s){a:Addr}(m:a∈fm.av)(nl:a≠fm.env.locals)(nc:∀ v,¬ s.heap.IsCell a v)(nf:∀ o vs,s.heap.get? a=some o->o.data≠.fields vs)(S:Heap.SameBut a s.heap h'){o:Obj}(ho:h'.get? a=some o)(hd:∀ vs,o.data≠.fields vs){tk:Nat} :
  InvS W fm α ps { s with heap:=h',toks:=tk }:=by
 have hα:∀ b∈α,b≠a:=fun b m' q=>I.inv.lists.apart b m' (q▸m)
 refine ⟨I.inv.mine F S m (by rw [ho];rfl) (fun o' eo=>⟨fun vs=>nf o' vs eo,o,ho,hd⟩) rfl ?_ fun x k i hx hkk=>?_,I.gens,I.os⟩
 ·obtain ⟨mm,⟨oL,eL,epL,n1,n2,n3⟩,nr⟩:=I.inv.loc
  exact ⟨mm,⟨oL,eL,epL,(S.2 _ nl.symm).trans n1,n2,n3⟩,fun x i hm=>(nr x i hm).same S m hα⟩
 ·obtain ⟨c,v,q1,q2,q3,q4,q5⟩:=I.inv.cel x k i hx hkk
  refine ⟨c,v,q1,q2,q3,?_,q5.same S m hα⟩
  have:c≠a:=fun q=>nc v (q▸q4)
  obtain ⟨oc,e1,e2⟩:=q4
  exact ⟨oc,(S.2 c this).trans e1,e2⟩
noncomputable def Am (fm:Fm)(scope:Scope)(sc:List (Str × NameKind × Nat))(D C:Addr):Fm:=
 { env:=compEnvC scope (EW fm.env.cells scope.names []) C fm.env,stk:=fm.stk,av:=D::C::fm.av,own0:=[C],tab:=fm.tab,sc:=sc,hdl:=fm.hdl }
private theorem Ci.cells {scope:Scope}{sc:List (Str × NameKind × Nat)}{js:List Nat}(ci:Ci fm.sc scope sc js)(I:InvS W fm α ps s):∀ y∈scope.names,y.2 = .free->(fm.env.cells.lookup y.1).isSome=true:=fun y hy q=>by
 obtain ⟨k,i,h1,h2⟩:=ci.free y hy q
 obtain ⟨c,v,q1,_⟩:=I.inv.cel _ _ _ h1 h2
 rw [q1];rfl
private theorem GS {scope:Scope}{sc:List (Str × NameKind × Nat)}{js:List Nat}{D C:Addr}(ci:Ci fm.sc scope sc js)(F:FmOk W.h₀ fm)(I:InvS W fm α ps s)(hD:W.h₀.get? D=none)(hC:W.h₀.get? C=none):FmOk W.h₀ (Am fm scope sc D C) where
 kind:=ci.kind
 glob:=F.glob
 bi:=F.bi
 locAv:=List.mem_cons_of_mem _ (List.mem_cons_self ..)
 locOwn:=List.mem_append_right _ (List.mem_cons_self ..)
 ownAv:=fun a h=>by
  rcases List.mem_append.mp h with h | h
  ·exact List.mem_cons_of_mem _ (List.mem_cons_of_mem _ (F.tabAv a h))
  ·rw [List.mem_singleton.mp h];exact List.mem_cons_of_mem _ (List.mem_cons_self ..)
 frsAv:=fun a h=>List.mem_cons_of_mem _ (List.mem_cons_of_mem _ (F.frsAv a h))
 fresh:=fun a h=>by
  rcases List.mem_cons.mp h with q | q
  ·rw [q];exact hD
  ·rcases List.mem_cons.mp q with q | q
   ·rw [q];exact hC
   ·exact F.fresh a q
 kinds:=fun x k i hm=>C9 (ci.look x k i hm).2
 once:=ci.once
 cellOwn:=fun x i c hm U=>absurd rfl (ci.look x _ i hm).1
 cellApart:=fun x k i y k' j c h1 h2 h3 h4=>by
  have hs:=ci.cells I
  obtain ⟨a1,a2⟩:=(FP hs h3).resolve_right (by simp)
  obtain ⟨b1,b2⟩:=(FP hs h4).resolve_right (by simp)
  obtain ⟨kx,ix,ex,_⟩:=ci.free _ a1 rfl
  obtain ⟨ky,iy,ey,_⟩:=ci.free _ b1 rfl
  exact F.cellApart _ _ _ _ _ _ _ ex ey a2 b2
 frame:=F.frame
end
section
variable {W:Wd}{fm:Fm}{α α' α₁ z0 W0:List Addr}{h h' h₁ w1 Y1 start:Heap}{n:Nat}{A:Around}{ps ps':PS}{s s' c0 y0:Shared}{H:Hd}{h₀:Heap}{own:List Addr}
private theorem IF {js:List Nat}{m:M PV}(ns:M.scope js m ps≠.stuck):∃ v s',m ⟨fun i=>if i∈js then none else ps.loc i,ps.st⟩ = .ok v s'/\M.scope js m ps = .ok v ⟨ps.loc,s'.st⟩:=by
 unfold M.scope at ns ⊢
 cases q:m ⟨fun i=>if i∈js then none else ps.loc i,ps.st⟩ with
 | ok v s'=>exact ⟨v,s',rfl,rfl⟩
 | ex e s'=>rw [q] at ns;exact absurd rfl ns
 | stuck=>rw [q] at ns;exact absurd rfl ns
private theorem FQ {scope:Scope}{sc:List (Str × NameKind × Nat)}{js:List Nat}{D C:Addr}(ci:Ci fm.sc scope sc js)(F:FmOk W.h₀ fm)(I:InvS W fm α ps s)(hD:s.heap.get? D=none)(hC:s.heap.get? C=none)
  (kp:∀ b o,s.heap.get? b=some o->h₁.get? b=some o) (hns:h₁.Ns C fun U=>none) (hDl:(h₁.get? D).isSome=true) {tk:Nat} :
  InvS W (Am fm scope sc D C) α ⟨fun i=>if i∈js then none else ps.loc i,ps.st⟩ { s with heap:=h₁,toks:=tk }:=by
 have st:∀ a∈(Am fm scope sc D C).av,a∈fm.av\/s.heap.get? a=Option.none:=fun a h=>by
  rcases List.mem_cons.mp h with q | q
  ·rw [q];exact .inr hD
  ·rcases List.mem_cons.mp q with q | q
   ·rw [q];exact .inr hC
   ·exact .inl q
 have pre:α <+: α:=List.prefix_refl _
 have rep:∀ {p v},OptRep W.H W.h₀ fm.av α s.heap p v->OptRep W.H W.h₀ (Am fm scope sc D C).av α h₁ p v:=fun r=>r.map fun r=>(r.strong st).keeps kp pre
 have nα:∀ b,s.heap.get? b=none->b∉α:=fun b e z=>by
  obtain ⟨ws,o,e',_⟩:=I.inv.lists.isList z
  rw [e] at e';cases e'
 refine ⟨⟨fun b o e=>kp b o (I.inv.base b o e),⟨_,hns,fun x i hm=>?_⟩,fun x k i hm hk=>?_,⟨I.inv.lists.len,fun i l e=>?_,I.inv.lists.nodup,I.inv.lists.fresh,fun a m q=>?_⟩,fun a m=>?_,?_,?_⟩,I.gens,I.os⟩
 ·have:=(ci.loc x _ i hm).mp rfl
  simp only [this,if_true]
  exact .none
 ·have hk:k = .free:=hk.resolve_left (ci.look x k i hm).1
  subst hk
  obtain ⟨k',h1,h2⟩:=ci.cap x i hm
  obtain ⟨c,v,q1,q2,q3,⟨o,q4,q4'⟩,q5⟩:=I.inv.cel x k' i h1 h2
  have hin:(x,NameKind.free)∈scope.names:=mem_of_lookup (ci.look x _ i hm).2
  obtain ⟨c',hc'⟩:=Option.isSome_iff_exists.mp (NW (cells:=fm.env.cells) (acc:=[]) (.inl hin))
  obtain ⟨_,e2⟩:=(FP (ci.cells I) hc').resolve_right (by simp)
  rw [q1] at e2;cases e2
  have nj:i∉js:=fun z=>by have:=(ci.loc x _ i hm).mpr z;cases this
  refine ⟨c,v,hc',List.mem_cons_of_mem _ (List.mem_cons_of_mem _ q2),fun q=>?_,⟨o,kp _ _ q4,q4'⟩,?_⟩
  ·have:s.heap.get? C=some o:=by rw [<- (show c=C from q)];exact q4
   rw [hC] at this;cases this
  ·simp only [nj,if_false]
   exact rep q5
 ·obtain ⟨a,vs,h1,h2,h3⟩:=I.inv.lists.at_ i l e
  exact ⟨a,vs,h1,h2.at (kp _),(h3.strong st).keeps kp pre⟩
 ·rcases st a q with z | z
  ·exact I.inv.lists.apart a m z
  ·exact nα a z m
 ·rcases List.mem_cons.mp m with q | q
  ·rw [q];exact hDl
  ·rcases List.mem_cons.mp q with q | q
   ·obtain ⟨o,_,_,e,_⟩:=hns
    rw [q,e];rfl
   ·obtain ⟨o,e⟩:=Option.isSome_iff_exists.mp (I.inv.live a q)
    rw [kp a o e];rfl
 ·exact I.inv.frames.of_keeps fun b o e U=>⟨o,kp b o e,rfl⟩
 ·exact fun P hP=>(I.inv.tabs P hP).keeps kp
private theorem FunFrames.but {a:Addr}(S:Heap.SameBut a h h'){l:List Env}(nb:∀ b∈frs l,b≠a)(x:h.FunFrames ⟨#[],{}⟩ l):h'.FunFrames ⟨#[],{}⟩ l:=by
 induction l with
 | nil=>exact trivial
 | cons env rest ih=>
  obtain ⟨h1,⟨L,o,h2,h3,h4,h5⟩,h6⟩:=x
  have e:frs (env::rest)=L::frs rest:=by unfold frs;rw [List.filterMap_cons,h2]
  rw [e] at nb
  exact ⟨h1,⟨L,o,h2,h3,(S.2 L (nb L (List.mem_cons_self ..))).trans h4,h5⟩,ih (fun b m=>nb b (List.mem_cons_of_mem _ m)) h6⟩
private theorem EP {scope:Scope}{sc:List (Str × NameKind × Nat)}{D C:Addr}{acc:List PV}{vs:List Value}(F:FmOk W.h₀ fm)(I:InvS W fm α ps s)(hD:s.heap.get? D=none)(hC:s.heap.get? C=none)(hDC:D≠C)
  (J:InvS W (Am fm scope sc D C) α' ps' s') (g:Grow α α' s.heap) (R:Rel fm.stk fm.tab α s.heap s'.heap) (hl:s'.heap.PlainList D vs.toArray) (rl:RepL W.H W.h₀ (Am fm scope sc D C).av α' s'.heap acc vs) (S:Heap.SameBut C s'.heap h') :
  InvS W fm (α'++[D]) ⟨ps.loc,ps'.st++[acc]⟩ { s' with heap:=h' }/\Grow α (α'++[D]) s.heap/\Rel fm.stk fm.tab α s.heap h'/\(α'++[D])[ps'.st.length]? = some D:=by
 have wk:∀ a,a∈fm.av->a∈(Am fm scope sc D C).av:=fun a m=>List.mem_cons_of_mem _ (List.mem_cons_of_mem _ m)
 have mC:C∈(Am fm scope sc D C).av:=List.mem_cons_of_mem _ (List.mem_cons_self ..)
 have mD:D∈(Am fm scope sc D C).av:=List.mem_cons_self ..
 have hαC:∀ b∈α',b≠C:=fun b m q=>J.inv.lists.apart b m (q▸mC)
 have hαD:D∉α':=fun m=>J.inv.lists.apart D m mD
 have CH:∀ b o,s.heap.get? b=some o->b≠C:=fun b o e q=>by rw [q,hC] at e;cases e
 have nfC:∀ o vs,s'.heap.get? C=some o->o.data≠.fields vs:=fun o vs e q=>by
  obtain ⟨mm,⟨oL,eL,epL,n1,n2,_⟩,_⟩:=J.inv.loc
  rw [show s'.heap.get? C=some oL from n1] at e;cases e
  rw [n2] at q;cases q
 have R':Rel fm.stk fm.tab α s.heap h':=⟨fun b o e m1 m2 m3=>(S.2 b (CH b o e)).trans (R.keep b o e m1 m2 m3),fun b o e m1 m2 m3=>by
   obtain ⟨sl,e'⟩:=R.slot b o e m1 m2 m3
   exact ⟨sl,(S.2 b (CH b o e)).trans e'⟩,fun b e=>by
   by_cases q:b=C
   ·rw [q];exact hC
   ·exact R.live b ((S.2 b q).symm.trans e)⟩
 have g':Grow α (α'++[D]) s.heap:=⟨g.pre.trans (List.prefix_append _ _),fun a m q=>by
  rcases List.mem_append.mp m with m | m
  ·exact g.new a m q
  ·rw [List.mem_singleton.mp m];exact hD⟩
 have fr:h'.FunFrames ⟨#[],{}⟩ fm.stk:=by
  refine FunFrames.but S (fun b m q=>?_) J.inv.frames
  have:=I.inv.live b (F.frsAv b m)
  rw [q,hC] at this;cases this
 have stp:α' <+: α'++[D]:=List.prefix_append _ _
 have kk:∀ b o,h'.get? b=some o->h'.get? b=some o:=fun U U e=>e
 have lift:∀ {l:List PV} {ws:List Value},RepL W.H W.h₀ (Am fm scope sc D C).av α' s'.heap l ws->RepL W.H W.h₀ fm.av (α'++[D]) h' l ws:=fun r=>
  RepL.keeps kk stp (RepL.weak wk (RepL.same (fm:=Am fm scope sc D C) S mC hαC r))
 refine ⟨⟨I.inv.carry F R' ⟨by simp [J.inv.lists.len],fun i l e=>?_,?_,fun a m=>?_,fun a m q=>?_⟩ g' fr fun P hP=>(J.inv.tabs P hP).same S nfC,J.gens,J.os⟩,g',R',?_⟩
 ·by_cases hi:i<ps'.st.length
  ·rw [List.getElem?_append_left hi] at e
   obtain ⟨a,ws,q1,⟨k,q2⟩,q3⟩:=J.inv.lists.at_ i l e
   exact ⟨a,ws,by rw [List.getElem?_append_left (by rw [J.inv.lists.len];exact hi)];exact q1,⟨k,(S.2 a (hαC a (List.mem_of_getElem? q1))).trans q2⟩,lift q3⟩
  ·have:i=ps'.st.length:=by
    have:=(List.getElem?_eq_some_iff.mp e).1
    simp at this;exact Nat.le_antisymm (Mi.la [_,_] [([2,3,0],[4,3,0])] ([2],[4]) rfl this) (Mi.la [_,_] [([2],[4])] ([2],[4]) rfl (Nat.not_lt.mp hi))
   subst this
   rw [List.getElem?_append_right (Nat.le_refl _)] at e
   simp at e
   subst e
   obtain ⟨k,q2⟩:=hl
   exact ⟨D,vs,by rw [<- J.inv.lists.len,List.getElem?_append_right (Nat.le_refl _)];simp,⟨k,(S.2 D hDC).trans q2⟩,lift rl⟩
 ·rw [List.nodup_append]
  exact ⟨J.inv.lists.nodup,by simp,fun x hx y hy=>by simp at hy;subst hy;exact fun e=>hαD (e▸hx)⟩
 ·rcases List.mem_append.mp m with q | q
  ·exact J.inv.lists.fresh a q
  ·rw [List.mem_singleton.mp q];exact I.none _ hD
 ·rcases List.mem_append.mp m with p | p
  ·exact J.inv.lists.apart a p (wk a q)
  ·rw [List.mem_singleton.mp p] at q
   have:=I.inv.live D q
   rw [hD] at this;cases this
 ·rw [<- J.inv.lists.len,List.getElem?_append_right (Nat.le_refl _)];simp
private theorem BK {D:Addr}{ws:Array Value}(R:Rel fm.stk own α h h')(x:h.PlainList D ws)(n1:D∉frs fm.stk)(n2:D∉own)(n3:D∉α):h'.PlainList D ws:=by
 obtain ⟨k,e⟩:=x
 exact ⟨k,R.keep D _ e n1 n2 n3⟩
inductive CompI (W:Wd)(fm F:Fm)(z0:List Addr)(B:Heap)(D:Addr)(St:Nat->Heap->Prop)(run:Nat->Nat->List PV->PS->Prop)(k:Nat)(s':Shared):Prop
 | mk (i:Nat) (ps':PS) (α':List Addr) (acc:List PV) (vs:List Value) (e:run k i acc ps') (I:InvS W F α' ps' s') (g:Grow z0 α' B) (x:Rel fm.stk fm.tab z0 B s'.heap) (l:s'.heap.PlainList D vs.toArray) (r:RepL W.H W.h₀ F.av α' s'.heap acc vs) (t:St i s'.heap):CompI W fm F z0 B D St run k s'
private theorem L7 {elt iter:Expr}{x:Str}{px pos:Pos}{ifs:List Expr}{scope:Scope}{sc:List (Str × NameKind × Nat)}{js:List Nat}{j:Nat}{mi:M (Nat->M (Option PV))}{mc:List (M Bool)}{me:M PV}(hh:fm.hdl=none)(ci:Ci fm.sc scope sc js)(hx:(x,NameKind.local,j)∈sc)
  (hi:SimI W n fm iter mi) (hc:∀ fm':Fm,fm'.sc=sc->fm'.hdl=none->All2 (SimB W n fm') ifs mc) (he:∀ fm':Fm,fm'.sc=sc->fm'.hdl=none->SimE W n fm' elt me) (hs:∀ env x,foldedSetIterable iter env x=pure x) (K:Nat) :
  SimE W n fm (.ListComp elt [⟨.Name x px,iter,ifs,0⟩] scope pos) (M.bind mi fun get=>M.scope js (M.compN get j (AB .And mc) me K 0 [])):=.mk fun A α ps s Cx I0 ns=>by
 have hA:A.handled=none:=Cx.hdl.trans hh
 unfold Aj
 rw [eval_ListComp]
 refine wpAny_comprehension_free (use:=none) (cl:=EW fm.env.cells scope.names []) rfl (hs _) (Dv (ci.cells I0)) ci.kind ci.names ?_
 refine wpAny_mono (hi A α ps s Cx I0 (Ab ns)) (fun xv c0 z=>wpAny_mono z (fun it y0 z=>?_) fun U U z=>z.bind) fun U U z=>z.bind
 obtain ⟨get,X0,z0,It,St,Y0,rfl,I,U0,V0,freshI,nav,itk,st⟩:=z
 rw [Aa Y0] at ns ⊢
 refine wpAny_newObj_type (wpAny_newFunctionEnv ci.noCell (by intro y hy;simp at hy) (fun h₁ Y4 w4=>?_) ci.kind)
 dsimp only at Y4 w4 ⊢
 generalize hH2:y0.heap.push { cls:=.type "list",dict:=none,data:=.seq ([]:List Value).toArray } = H2 at Y4 w4 ⊢
 have hC:H2.objs.size=y0.heap.objs.size+1:=by rw [<- hH2,Heap.size_push]
 have hDC:y0.heap.objs.size≠H2.objs.size:=by rw [hC];exact Nat.ne_of_lt (Nat.lt_succ_self _)
 have below:∀ b,b<y0.heap.objs.size->b≠H2.objs.size:=fun b hb=>by rw [hC];exact Nat.ne_of_lt (Nat.lt_succ_of_lt hb)
 have old:∀ b o,y0.heap.get? b=some o->h₁.get? b=some o:=fun b o e=>w4.extBut b o (below b (Heap.lt_size e)) (Heap.get?_push_of_some _ (hH2▸Heap.get?_push_of_some _ e))
 have hacc:h₁.PlainList y0.heap.objs.size ([]:List Value).toArray:=⟨0,w4.extBut _ _ hDC (Heap.get?_push_of_some _ (hH2▸Heap.get?_push_size _ rfl))⟩
 have nD:y0.heap.get? y0.heap.objs.size=none:=Av _
 have nC:y0.heap.get? H2.objs.size=none:=Heap.get?_none_of_le (by rw [hC];exact Nat.le_succ _)
 have hs0:=I.none
 have FC:FmOk W.h₀ (Am fm scope sc y0.heap.objs.size H2.objs.size):=GS ci Cx.fm I (hs0 _ nD) (hs0 _ nC)
 have CC:Ctx W (Am fm scope sc y0.heap.objs.size H2.objs.size) n A:=⟨Cx.frames,Cx.depth,Cx.units,Cx.hdl,Cx.tab,FC,Cx.hd⟩
 have I1:InvS W (Am fm scope sc y0.heap.objs.size H2.objs.size) z0 ⟨fun i=>if i∈js then none else X0.loc i,X0.st⟩ { y0 with heap:=h₁,toks:=y0.toks+([]:List (Str × Value)).length }:=
  FQ ci Cx.fm I nD nC old (by simpa using Y4) (by obtain ⟨o,e⟩:=hacc;rw [e];rfl)
 obtain ⟨rv,rs,eR,eS⟩:=IF ns
 rw [eS]
 obtain ⟨oI,vsI,eI,dI,cI⟩:=itk.flds _ _ st
 have ItD:It≠y0.heap.objs.size:=fun q=>by rw [q,nD] at eI;cases eI
 have ItC':It≠H2.objs.size:=fun q=>by rw [q,nC] at eI;cases eI
 have navC:It∉(Am fm scope sc y0.heap.objs.size H2.objs.size).av:=fun m=>by
  rcases List.mem_cons.mp m with q | q
  ·exact ItD q
  ·rcases List.mem_cons.mp q with q | q
   ·exact ItC' q
   ·exact nav q
 have mC:H2.objs.size∈(Am fm scope sc y0.heap.objs.size H2.objs.size).av:=List.mem_cons_of_mem _ (List.mem_cons_self ..)
 have mD:y0.heap.objs.size∈(Am fm scope sc y0.heap.objs.size H2.objs.size).av:=List.mem_cons_self ..
 have Dfr:y0.heap.objs.size∉frs fm.stk:=fun m=>AR I nD (Cx.fm.frsAv _ m)
 have Dtab:y0.heap.objs.size∉fm.tab:=fun m=>AR I nD (Cx.fm.tabAv _ m)
 -- the heap less the walker
 have T0:Turn0 fm.stk [It] y0.heap (cutH y0.heap [It]):=Turn0.one I.inv.frames ⟨oI,vsI,eI,dI,cI⟩ fun b o q e=>by rw [Hv (by simpa using q)];exact e
 have IB:InvS W fm z0 X0 { y0 with heap:=cutH y0.heap [It] }:=⟨I.inv.turn0 Cx.fm T0 (fun b m q=>absurd q (by rw [List.mem_singleton.mp m];exact nav)) (fun b m=>by rw [List.mem_singleton.mp m];exact I0.none _ freshI),I.gens,I.os⟩
 have cutI:(cutH y0.heap [It]).get? It=none:=JM (List.mem_singleton_self _)
 have cutN:∀ b,y0.heap.get? b=none->(cutH y0.heap [It]).get? b=none:=fun b e=>by
  cases q:(cutH y0.heap [It]).get? b with
  | none=>rfl
  | some o=>rw [Dn _ _ _ _ q] at e;cases e
 have xB:Rel fm.stk fm.tab α s.heap (cutH y0.heap [It]):=V0.turn0 T0 fun b m=>by rw [List.mem_singleton.mp m];exact freshI
 have stays:∀ b o,(cutH y0.heap [It]).get? b=some o->y0.heap.get? b=some o:=fun b o e=>Dn _ _ _ _ e
 generalize y0.heap.objs.size=D at *
 generalize H2.objs.size=C at *
 generalize cutH y0.heap [It]=B at *
 have loop:∀ V1:Shared,V1 = { y0 with heap:=h₁,toks:=y0.toks+([]:List (Str × Value)).length } ->
   codeAny W.m A (.compLoop (.ListComp elt [⟨.Name x px,iter,ifs,0⟩] scope pos) 0 (.ref It) (.ref D) (compEnvC scope (EW fm.env.cells scope.names []) C fm.env))
    (compPost W.m A (ExE W fm α s.heap (R.ok rv ⟨X0.loc,rs.st⟩)) none (OkE W fm α s.heap (.ok rv ⟨X0.loc,rs.st⟩)) (.ref D) C) V1:=by
  rintro V1 rfl
  have fin:∀ s':Shared,(∃ m,s'.heap.Ns C m/\∀ h',Heap.SameBut C s'.heap h'->OkE W fm α s.heap (.ok rv ⟨X0.loc,rs.st⟩) (.ref D) { s' with heap:=h' })->compPost W.m A (ExE W fm α s.heap (R.ok rv ⟨X0.loc,rs.st⟩)) none (OkE W fm α s.heap (.ok rv ⟨X0.loc,rs.st⟩)) (.ref D) C (.ok .next) s':=fun U h=>h
  generalize compPost W.m A (ExE W fm α s.heap (R.ok rv ⟨X0.loc,rs.st⟩)) none (OkE W fm α s.heap (.ok rv ⟨X0.loc,rs.st⟩)) (.ref D) C=RR at fin ⊢
  obtain ⟨CI,mkI,elI⟩:∃ CI:Nat->Shared->Prop,(∀ k s,CompI W fm (Am fm scope sc D C) z0 B D St (fun k i acc ps=>M.compN get j (AB .And mc) me k i acc ps = .ok rv rs) k s->CI k s)/\(∀ k s,CI k s->CompI W fm (Am fm scope sc D C) z0 B D St (fun k i acc ps=>M.compN get j (AB .And mc) me k i acc ps = .ok rv rs) k s):=⟨_,fun U U h=>h,fun U U h=>h⟩
  refine codeAny_compLoop_tests CI ?_ K (mkI _ _
   ⟨0,_,z0,[],[],eR,I1,.refl ..,.of_keeps fun b o e=>old b o (stays b o e),hacc,.nil,itk.stay _ _ _ st fun o e=>old _ o e⟩)
  intro k s' hi
  generalize notedBy _ _ _ _=EE
  obtain ⟨i,ps',α',acc,vs,e',I',g',x',hl',rl',st'⟩:=elI _ _ hi
  clear hi elI
  cases k with
  | zero=>
   have e':M.compN get j (AB .And mc) me 0 i acc ps' = .ok rv rs:=e'
   cases e'
  | succ k=>
   have eq:M.bind (get i) (fun o=>match o with
    | none=>M.newLst acc
    | some p=>M.bind (M.setL j p) fun U=>M.bind (AB .And mc) fun c=>if c then M.bind me fun v=>M.orStuck (acc.length+1<=big) (M.compN get j (AB .And mc) me k (i+1) (acc++[v])) else M.compN get j (AB .And mc) me k (i+1) acc) ps' = .ok rv rs:=e'
   have nns:∀ {r:R PV},r = .ok rv rs->r≠.stuck:=fun e q=>by rw [q] at e;cases e
   have ItC:=itk.to (Am fm scope sc D C)
   have Dα:∀ {β ps s},InvS W (Am fm scope sc D C) β ps s->D∉β:=fun J m=>J.inv.lists.apart _ m mD
   refine ItC.next (Am fm scope sc D C) A α' ps' s' i _ _ hA g'.pre FC I' st' (Ab (nns eq)) fun o r h2 tk eo kk rr=>?_
   rw [Aa eo] at eq
   obtain ⟨oJ,vsJ,eJ,dJ,cJ⟩:=itk.flds _ _ st'
   have T1:Turn0 fm.stk [It] s'.heap h2:=Turn0.one I'.inv.frames ⟨oJ,vsJ,eJ,dJ,cJ⟩ kk
   have J:InvS W (Am fm scope sc D C) α' ps' { s' with heap:=h2,toks:=tk }:=ItC.turned FC I' st' navC (I0.none _ freshI) kk
   have x1:Rel fm.stk fm.tab z0 (B) h2:=x'.turn0 T1 fun b m=>by rw [List.mem_singleton.mp m];exact cutI
   have hl1:h2.PlainList D vs.toArray:=by
    obtain ⟨oD,e⟩:=hl'
    exact ⟨oD,kk _ _ (Ne.symm ItD) e⟩
   have rl1:RepL W.H W.h₀ (Am fm scope sc D C).av α' h2 acc vs:=RepL.turn (fm:=Am fm scope sc D C) T1 FC.frsAv rl'
   cases o with
   | none=>
    cases r with
    | some _=>exact rr.elim
    | none=>
    have eq:M.newLst acc ps' = .ok rv rs:=eq
    unfold M.newLst at eq
    split at eq
    ·cases eq
     obtain ⟨mL,nL,_⟩:=J.inv.loc
     refine fin _ ⟨mL,nL,fun h' S=>?_⟩
     obtain ⟨K1,K2,K3,K4⟩:=EP Cx.fm IB (cutN _ nD) (cutN _ nC) hDC J g' x1 hl1 rl1 S
     exact OkE.after (α₁:=z0) (h₁:=B) ⟨_,_,_,rfl,K1,K2,K3,.lst K4⟩ U0 xB
    ·cases eq
   | some p=>
    cases r with
    | none=>exact rr.elim
    | some v=>
    obtain ⟨rp,st2⟩:=rr
    have eq:M.bind (M.setL j p) (fun U=>M.bind (AB .And mc) fun c=>if c then M.bind me fun v=>M.orStuck (acc.length+1<=big) (M.compN get j (AB .And mc) me k (i+1) (acc++[v])) else M.compN get j (AB .And mc) me k (i+1) acc) ps' = .ok rv rs:=eq
    have eqs:M.setL j p ps' = .ok () { ps' with loc:=fun i=>if i=j then some p else ps'.loc i }:=rfl
    rw [Aa eqs] at eq
    refine wpAny_assign_Name (B6 CC J hx (.inl rfl) rp fun s3 J3 R3=>?_)
    have x3:Rel fm.stk fm.tab z0 (B) s3.heap:=x1.fresh R3 g'.new fun a m=>by
     rcases List.mem_append.mp m with m | m
     ·exact .inl m
     ·rw [List.mem_singleton.mp m];exact .inr (cutN _ nC)
    have hl3:=BK R3 hl1 Dfr (fun m=>by
     rcases List.mem_append.mp m with m | m
     ·exact Dtab m
     ·exact hDC (List.mem_singleton.mp m)) (Dα J)
    have rl3:=RepL.stays J.inv.lists R3 (List.prefix_refl _) FC.frsAv FC.ownAv rl1
    have st3:St (i+1) s3.heap:=ItC.kept FC J st2 navC (fun U q=>q) R3
    have bad:∀ {β:Type} {x:Value} {s} {r:R β},ExE W (Am fm scope sc D C) α' s3.heap r x s->(∀ e q,r≠.ex e q)->False:=fun q n=>by
     obtain ⟨e,ps,α,er,_⟩:=q
     exact n e ps er
    refine wpAny_mono (IE (hc _ rfl (Cx.hdl▸hA)) A α' _ s3 CC J3 (Ab (nns eq))) (fun c s4 z=>?_) fun y s4 z=>(bad z fun e q er=>by rw [Dl er] at eq;cases eq).elim
    obtain ⟨ps4,α4,e4,J4,g4,R4⟩:=z
    rw [Aa e4] at eq
    have x4:=x3.trans R4 g'.new
    have g4':=g'.trans g4 x3
    have hl4:=BK R4 hl3 Dfr Dtab (Dα J3)
    have rl4:=J3.staysL CC R4 g4 rl3
    have st4:St (i+1) s4.heap:=ItC.kept FC J3 st3 navC (fun U q=>List.mem_append_left _ q) R4
    cases c with
    | false=>
     simp only [Bool.false_eq_true,if_false] at eq ⊢
     exact ⟨k,Nat.lt_succ_self k,mkI _ _ ⟨i+1,ps4,α4,acc,vs,eq,J4,g4',x4,hl4,rl4,st4⟩⟩
    | true=>
     simp only [if_true] at eq ⊢
     have bad:∀ {β:Type} {x:Value} {s} {r:R β},ExE W (Am fm scope sc D C) α4 s4.heap r x s->(∀ e q,r≠.ex e q)->False:=fun q n=>by
      obtain ⟨e,ps,α,er,_⟩:=q
      exact n e ps er
     refine wpAny_mono (he _ rfl (Cx.hdl▸hA) A α4 ps4 s4 CC J4 (Ab (nns eq))) (fun y s5 z=>?_) fun y s5 z=>(bad z fun e q er=>by rw [Dl er] at eq;cases eq).elim
     obtain ⟨q,ps5,α5,e5,J5,g5,R5,rq⟩:=z
     rw [Aa e5] at eq
     have x5:=x4.trans R5 g4'.new
     have g5':=g4'.trans g5 x4
     have hl5:=BK R5 hl4 Dfr Dtab (Dα J4)
     have rl5:=J4.staysL CC R5 g5 rl4
     have st5:St (i+1) s5.heap:=ItC.kept FC J4 st4 navC (fun U q=>List.mem_append_left _ q) R5
     obtain ⟨hb,eb⟩:=Af (nns eq)
     rw [eb] at eq
     rw [decide_eq_true_eq] at hb
     refine wpAny_list_append_plain hl5 (fun h6 hl6 S6=>?_) (by rw [List.size_toArray,<- rl5.length,<- A4];lia)
     have hα5:∀ b∈α5,b≠D:=fun b m z=>Dα J5 (z▸m)
     obtain ⟨o6,eo6,_,k6,d6⟩:=hl6.isList
     have J6:InvS W (Am fm scope sc D C) α5 ps5 { s5 with heap:=h6 }:=J5.poke (tk:=s5.toks) FC mD hDC (fun v hv=>by
      obtain ⟨oc,e1,e2⟩:=hv
      obtain ⟨od,e3,_,kd,d3⟩:=hl5.isList
      rw [e3] at e1;cases e1;rw [d3] at e2;cases e2) (fun o vs e q=>by
      obtain ⟨od,e3,_,kd,d3⟩:=hl5.isList
      rw [e3] at e;cases e;rw [d3] at q;cases q) S6 eo6 (fun vs q=>by rw [d6] at q;cases q)
     have live6:(h6.get? D).isSome=true:=by rw [eo6];rfl
     have R6:Rel fm.stk [D] α5 s5.heap h6:=SameBut.rel S6 live6 (List.mem_singleton_self _) _ _
     have x6:Rel fm.stk fm.tab z0 (B) h6:=x5.fresh R6 g5'.new fun a m=>by rw [List.mem_singleton.mp m];exact .inr (cutN _ nD)
     refine ⟨k,Nat.lt_succ_self k,mkI _ _ ⟨i+1,ps5,α5,acc++[q],vs++[y],eq,J6,g5',x6,by simpa using hl6,?_,itk.stay _ _ _ st5 fun o e=>(S6.2 It ItD).trans e⟩⟩
     exact RepL.append (RepL.same S6 mD hα5 rl5) (.cons (RepV.same S6 mD hα5 rq) .nil)
 exact codeAny_compStart_list (loop _ rfl) (itk.self A _ 0 _ _ (itk.stay _ _ _ st fun o e=>old _ o e) (loop _ rfl))
end
structure MethAt (T id:String)(name:Str):Prop where
 pa:PlainAttrs T
 slot:Slot T name id
 ty:typeOf (.builtin id)=pure (.type "method_descriptor")
noncomputable def Ba:PV->Bool
 | .str _=>true
 | _=>false
noncomputable def HE:PV->Bool
 | .lst _=>true
 | _=>false
noncomputable def IG:PV->Bool
 | .fset _=>true
 | _=>false
noncomputable def FR (sep:Txt):List Txt->Txt
 | []=>[]
 | t::r=>r.foldl (fun acc p=>acc++sep++p) t
noncomputable def CT:List PV->Option (List Txt)
 | []=>some []
 | p::r=>(asS p).bind fun s=>(CT r).map (s::·)
noncomputable def Da (l:List Txt):Nat:=(l.map (·.length)).sum
noncomputable def D3 (v:PV)(l:List PV):M PV:=M.get (asL v) fun i=>M.arg1 l fun x=>M.bind (M.getLst i) fun l=>M.orStuck (l.length+1<=big) (M.bind (M.setLst i (l++[x])) fun U=>M.ret .none)
noncomputable def Ld (v:PV)(l:List PV):M PV:=M.get (asS v) fun sep=>M.arg1 l fun p=>M.get (asL p) fun i=>M.bind (M.getLst i) fun l=>M.bind (M.ofO (CT l)) fun ts=>M.orStuck (Da ts+ts.length*sep.length<=big) (M.ret (.str (FR sep ts)))
noncomputable def AJ (x y:Txt)(lo:Nat):Option Nat:=(List.range' lo (x.length+1 - lo)).find? fun i=>decide (i+y.length<=x.length)&&((x.drop i).take y.length==y)
noncomputable def Sh (l:List PV):Option (Txt × Option Int):=un l fun p r=>(asS p).bind fun s=>match r with
 | []=>some (s,none)
 | q::r=>(asI q).bind fun i=>cond r.isEmpty (some (s,some i)) none
private theorem P3 {l:List PV}{x:Txt × Option Int}(h:Sh l=some x):(l=[.str x.1]/\x.2=none)\/∃ i,l=[.str x.1,.int i]/\x.2=some i:=by
 obtain ⟨p,r,rfl,h⟩:=DR h
 obtain ⟨s,e,h⟩:=Option.bind_eq_some_iff.mp h
 rw [AN e]
 cases r with
 | nil=>obtain rfl:=Option.some.inj h;exact .inl ⟨rfl,rfl⟩
 | cons q r=>
  obtain ⟨i,e',h⟩:=Option.bind_eq_some_iff.mp h
  obtain ⟨e1,rfl⟩:=El h
  rw [AE e',e1]
  exact .inr ⟨i,rfl,rfl⟩
noncomputable def Ex (hd:Bool)(v:PV)(l:List PV):M PV:=M.get (asS v) fun x=>M.get (Sh l) fun y=>match y.2 with
 | none=>(match AJ x y.1 0 with
  | some i=>M.ret (.int i)
  | none=>M.stuck)
 | some p=>M.orStuck (0<=p&&Ai p) (match AJ x y.1 p.toNat with
  | some i=>M.ret (.int i)
  | none=>M.raiseB hd "ValueError")
section
variable {W:Wd}{fm:Fm}{α α' α₁ z0 W0:List Addr}{h h' h₁ w1 Y1 start:Heap}{n:Nat}{A:Around}{ps ps':PS}{s s' c0 y0:Shared}{H:Hd}{h₀:Heap}{own:List Addr}
noncomputable def GT (W:Wd)(fm:Fm)(K:PV->Bool)(T:String):Prop:=∀ n A α ps s p v,Ctx W fm n A->InvS W fm α ps s->K p=true->W.rep fm α s.heap p v->s.TypeIs v T/\(∀ a,v = .ref a->∃ ob,s.heap.get? a=some ob/\ob.dict=none)
private theorem DG {p:PV}(h:Ba p=true):∃ x,p = .str x:=by
 cases p with
 | str x=>exact ⟨x,rfl⟩
 | _=>cases h
private theorem NX {p:PV}(h:HE p=true):∃ i,p = .lst i:=by
 cases p with
 | lst i=>exact ⟨i,rfl⟩
 | _=>cases h
private theorem NY {p:PV}(h:IG p=true):∃ k,p = .fset k:=by
 cases p with
 | fset k=>exact ⟨k,rfl⟩
 | _=>cases h
noncomputable abbrev OpMeth.T (W:Wd)(n:Nat)(fm:Fm)(K:PV->Bool)(id:String)(g:PV->List PV->M PV):Prop:=∀ A α ps s p v l vs,Ctx W fm n A->InvS W fm α ps s->K p=true->W.rep fm α s.heap p v->RepL W.H W.h₀ fm.av α s.heap l vs->g p l ps≠.stuck->Aj W fm A α ps s (call (.builtin id) (v::vs)) (g p l)
structure OpMeth (W:Wd)(n:Nat)(fm:Fm)(K:PV->Bool)(id:String)(g:PV->List PV->M PV):Prop where
 go:OpMeth.T W n fm K id g
noncomputable instance {W:Wd} {n:Nat} {fm:Fm} {K:PV->Bool} {id:String} {g:PV->List PV->M PV}:CoeFun (OpMeth W n fm K id g) (fun U=>OpMeth.T W n fm K id g):=⟨OpMeth.go⟩
private theorem B7:GT W fm Ba "str":=fun n A α ps s p v C I hK r=>by
 obtain ⟨x,rfl⟩:=DG hK
 obtain ⟨_,rfl⟩:=r.inv
 exact ⟨typeIs_str _ _ _,fun U e=>(by cases e)⟩
private theorem NZ:GT W fm HE "list":=fun n A α ps s p v C I hK r=>by
 obtain ⟨i,rfl⟩:=NX hK
 obtain ⟨a,rfl,hi⟩:=r.inv
 ·have lt:=(List.getElem?_eq_some_iff.mp hi).1
  obtain ⟨a',vs,h1,h2,_⟩:=I.inv.lists.at_ i _ (List.getElem?_eq_getElem (I.inv.lists.len▸lt))
  obtain rfl:=Option.some.inj (hi.symm.trans h1)
  obtain ⟨k,eo⟩:=h2
  exact ⟨⟨_,eo,rfl⟩,fun b eb=>by cases eb;exact ⟨_,eo,rfl⟩⟩
private theorem P4:GT W fm IG "frozenset":=fun n A α ps s p v C I hK r=>by
 obtain ⟨x,rfl⟩:=NY hK
 obtain ⟨_,rfl,e⟩:=r.inv
 ·obtain ⟨m,⟨es,ep,t,ho,_⟩,_⟩:=C.hd.set I.inv.base _ e
  exact ⟨⟨_,ho,rfl⟩,fun b eb=>by cases eb;exact ⟨_,ho,rfl⟩⟩
private theorem N0 {o:Expr}{name:Str}{apos pos:Pos}{es:List Expr}{mo:M PV}{ms:List (M PV)}{g:PV->List PV->M PV}{K:PV->Bool}{T id:String}(ho:SimE W n fm o mo)(q:SimL W n fm es ms)(Ma:MethAt T id name)(KT:GT W fm K T)(op:OpMeth W n fm K id g)
  (hbase:∀ env,attributeBase o name env (eval o env)=eval o env) (hlen:es.length<30) (hline:(apos.endLine==pos.line)=true) :
  SimE W n fm (.Call (.Attribute o name apos) es [] pos) (M.bind mo fun p=>M.orStuck (K p) (M.bind (M.seq ms) (g p))):=.mk fun A α ps s C I ns=>by
 have hpl:(backTo pos (starEach es fm.env)).all (fun x=>!x.1)=true:=by
  have:=q.plain (pos:=pos) fm.env
  rw [List.any_eq_false] at this
  rw [List.all_eq_true]
  intro x hx
  simpa using this x hx
 refine wpAny_Call_method_lateS (hbase _) (by rw [hpl];exact decide_eq_true hlen) hline (Aj.seq (ho A α ps s C I (Ab ns)) (fun p v α₁ o0 c0 s0 d0 l0 S0 u0=>?_) fun x c0 q=>q.bind)
 rw [Aa u0] at ns ⊢
 obtain ⟨c,e⟩:=Af ns
 rw [e] at ns ⊢
 obtain ⟨k1,k2⟩:=KT n A α₁ o0 c0 p v C s0 c S0
 refine ⟨T,id,Ma.pa,Ma.slot,Ma.ty,k1,k2,?_⟩
 refine Calls.callWith_builtin (q.plain _) (AV (q.plain _) (wpAny_mono (Co q A α₁ o0 c0 C s0 (Ab ns)) (fun vs y0 z=>?_) fun x c0 z=>z.bind.after d0 l0))
 obtain ⟨l,X0,z0,Y0,Z0,U0,V0,V2⟩:=z
 rw [Aa Y0] at ns ⊢
 exact wpAny_mono (op A z0 X0 y0 p v l vs C Z0 c (s0.stays C V0 U0 S0) V2 ns) (fun U U q=>(q.after U0 V0).after d0 l0) (fun U U q=>(q.after U0 V0).after d0 l0)
private theorem IH {av:List Addr}{a:Addr}(S:Heap.SameBut a h h')(hl:∃ ws,h.IsList a ws):(∀ {p:PV} {v:Value},RepV H h₀ av α h p v->RepV H h₀ av α h' p v)/\∀ {l:List PV} {vs:List Value},RepL H h₀ av α h l vs->RepL H h₀ av α h' l vs:=by
 refine CN (fun b vs hn hi=>⟨hn,?_⟩) (fun i a hi=>hi) fun b o es ep hn ho hx hd=>⟨hn,(S.2 _ fun q=>?_).trans ho⟩
 ·obtain ⟨o,e1,e2⟩:=hi
  refine ⟨o,(S.2 _ fun q=>?_).trans e1,e2⟩
  obtain ⟨ws,hl⟩:=hl
  exact Cz ⟨o,e1,e2⟩ (q▸hl)
 ·obtain ⟨ws,o',e1,e2,_⟩:=hl
  rw [<- q,ho] at e1;cases e1
  rw [hx.1] at e2;exact absurd e2 (by decide)
private theorem RepV.butL {av:List Addr}{a:Addr}(S:Heap.SameBut a h h')(hl:∃ ws,h.IsList a ws){p:PV}{v:Value}(x:RepV H h₀ av α h p v):RepV H h₀ av α h' p v:=(IH S hl).1 x
private theorem RepL.butL {av:List Addr}{a:Addr}(S:Heap.SameBut a h h')(hl:∃ ws,h.IsList a ws){l:List PV}{vs:List Value}(x:RepL H h₀ av α h l vs):RepL H h₀ av α h' l vs:=(IH S hl).2 x
private theorem InvS.setLst (F:FmOk W.h₀ fm)(I:InvS W fm α ps s){i:Nat}{a:Addr}{l:List PV}{vs ws:List Value}(hi:α[i]? = some a)(hl:s.heap.PlainList a vs.toArray)(S:Heap.SameBut a s.heap h')(hl':h'.PlainList a ws.toArray)(r:RepL W.H W.h₀ fm.av α s.heap l ws){tk:Nat} :
  InvS W fm α { ps with st:=ps.st.set i l } { s with heap:=h',toks:=tk }/\Rel fm.stk fm.tab α s.heap h':=by
 have hL:∃ ws,s.heap.IsList a ws:=⟨_,hl.isList⟩
 have ma:=List.mem_of_getElem? hi
 have nav:a∉fm.av:=I.inv.lists.apart a ma
 have rep:∀ {p v},OptRep W.H W.h₀ fm.av α s.heap p v->OptRep W.H W.h₀ fm.av α h' p v:=fun r=>by
  match r with
  | .none=>exact .none
  | .some r=>exact .some (r.butL S hL)
 have nfr:a∉frs fm.stk:=fun m=>nav (F.frsAv _ m)
 have lt:=(List.getElem?_eq_some_iff.mp hi).1
 refine ⟨⟨⟨fun b o e=>(S.2 b fun q=>?_).trans (I.inv.base b o e),?_,fun x k i hx hkk=>?_,⟨by simp [I.inv.lists.len],fun j l' e=>?_,I.inv.lists.nodup,I.inv.lists.fresh,I.inv.lists.apart⟩,fun b m=>?_,?_,fun P hP=>(I.inv.tabs P hP).same S fun o vs e q=>by
  obtain ⟨k,e'⟩:=hl
  rw [e'] at e;cases e;cases q⟩,I.gens,I.os⟩,⟨fun b o e U U m=>(S.2 b fun q=>m (q▸ma)).trans e,fun b o e m U m2=>⟨o.slots,(S.2 b fun q=>m2 (q▸ma)).trans e⟩,fun b e=>?_⟩⟩
 ·rw [q,I.inv.lists.fresh a ma] at e;cases e
 ·obtain ⟨mm,⟨oL,eL,epL,n1,n2,n3⟩,nr⟩:=I.inv.loc
  exact ⟨mm,⟨oL,eL,epL,(S.2 _ fun q=>nav (q▸F.locAv)).trans n1,n2,n3⟩,fun x i hm=>rep (nr x i hm)⟩
 ·obtain ⟨c,v,q1,q2,q3,⟨oc,q4,q4'⟩,q5⟩:=I.inv.cel x k i hx hkk
  exact ⟨c,v,q1,q2,q3,⟨oc,(S.2 c fun q=>nav (q▸q2)).trans q4,q4'⟩,rep q5⟩
 ·by_cases q:j=i
  ·subst q
   rw [List.getElem?_set_self (by rw [<- I.inv.lists.len];exact lt)] at e
   cases e
   exact ⟨a,ws,hi,hl',r.butL S hL⟩
  ·rw [List.getElem?_set_ne (Ne.symm q)] at e
   obtain ⟨b,us,h1,⟨k,h2⟩,h3⟩:=I.inv.lists.at_ j l' e
   have:b≠a:=fun z=>by
    subst z
    have lj:=(List.getElem?_eq_some_iff.mp h1).1
    exact q ((List.getElem?_inj lj I.inv.lists.nodup).mp (h1.trans hi.symm))
   exact ⟨b,us,h1,⟨k,(S.2 b this).trans h2⟩,h3.butL S hL⟩
 ·by_cases q:b=a
  ·exact absurd m (q▸nav)
  ·rw [S.2 b q];exact I.inv.live b m
 ·exact FunFrames.but S (fun b m q=>nfr (q▸m)) I.inv.frames
 ·by_cases q:b=a
  ·obtain ⟨k,e'⟩:=hl'
   rw [q,e'] at e;cases e
  ·rwa [S.2 b q] at e
private theorem II:MethAt "list" "list.append" "append":=⟨by first | exact PySem.F.plainAttrs_list | exact F.plainAttrs_list,slot_list_append,by first | exact F.type_list_append | (rw [typeOf_builtin];kernel_rfl)⟩
private theorem L8:OpMeth W n fm HE "list.append" D3:=.mk fun A α ps s p v l vs C I hK r rl ns=>by
 obtain ⟨i,rfl⟩:=NX hK
 obtain ⟨x,vx,rfl,rfl,rx,nq⟩:=CR (f:=fun x=>M.bind (M.getLst i) fun l=>M.orStuck (l.length+1<=big) (M.bind (M.setLst i (l++[x])) fun U=>M.ret PV.none)) rl ns
 ··have ns':M.bind (M.getLst i) (fun l=>M.orStuck (l.length+1<=big) (M.bind (M.setLst i (l++[x])) fun U=>M.ret PV.none)) ps≠.stuck:=ns
   obtain ⟨l,e1,e2⟩:=AQ (Ab ns')
   rw [Aa e2] at ns'
   obtain ⟨c,e3⟩:=Af ns'
   rw [decide_eq_true_eq] at c
   have e4:M.setLst i (l++[x]) ps = .ok () { ps with st:=ps.st.set i (l++[x]) }:=by
    unfold M.setLst;rw [if_pos (by simpa using c)]
   have e5:D3 (.lst i) [x] ps = .ok PV.none { ps with st:=ps.st.set i (l++[x]) }:=(Aa e2).trans (e3.trans (Aa e4))
   obtain ⟨a,ws,rfl,hi,hl,rw'⟩:=K0 I r e1
   unfold Aj
   rw [e5]
   refine wpAny_list_append_plain hl (fun h' hl' S=>?_) (by rw [List.size_toArray,<- rw'.length,<- A4];lia)
   obtain ⟨J,R⟩:=I.setLst (l:=l++[x]) (ws:=ws++[vx]) (tk:=s.toks) C.fm hi hl S (by simpa using hl') (rw'.append (.cons rx .nil))
   exact ⟨.none,_,α,rfl,J,.refl ..,R,.none⟩
end
end Mi
end
section
open PySem PySem.W PyProof.Rows
open PySem.Builtin PySem.Builtin.Str
set_option maxRecDepth 10000
namespace Mi
section
variable {W:Wd}{fm:Fm}{α α' α₁ z0 W0:List Addr}{h h' h₁ w1 Y1 start:Heap}{n:Nat}{A:Around}{ps ps':PS}{s s' c0 y0:Shared}{H:Hd}{h₀:Heap}{own:List Addr}
private theorem P5:∀ {l:List PV} {vs:List Value} {ts:List Txt},CT l=some ts->RepL H h₀ α₁ α h l vs->∃ lt:List (Str × Tok),vs=strValues lt/\lt.map (·.1)=ts.map txt:=by
 intro l
 induction l with
 | nil=>intro _ _ e r;cases r;cases e;exact ⟨[],rfl,rfl⟩
 | cons p l ih=>
  intro _ ts e r
  obtain ⟨v0,vs0,rfl,r,rs⟩:=r.inv
  obtain ⟨x,ex,e0⟩:=Option.bind_eq_some_iff.mp (show (asS p).bind (fun x=>(CT l).map (x::·))=some ts from e)
  clear e
  obtain rfl:=AN ex
  have e:=e0
  cases q:CT l with
  | none=>rw [q] at e;cases e
  | some ts'=>
   rw [q] at e
   have e:some (x::ts')=some ts:=e
   cases e
   obtain ⟨lt,h1,h2⟩:=ih q rs
   obtain ⟨t,rfl⟩:=r.inv
   ·exact ⟨(txt x,t)::lt,by rw [h1];rfl,by rw [List.map_cons,h2];rfl⟩
private theorem Oa (sep:Txt)(ts:List Txt):Txt.join (txt sep) (ts.map txt)=txt (FR sep ts):=by
 show glued _ _=_
 apply Str.ext'
 cases ts with
 | nil=>rfl
 | cons t r=>
  show (r.map txt).foldl (fun acc p=>acc++(txt sep).cps++p.cps) (txt t).cps=_
  have:∀ (r:List Txt) (acc:Txt),(r.map txt).foldl (fun acc p=>acc++(txt sep).cps++p.cps) acc.toArray=(r.foldl (fun acc p=>acc++sep++p) acc).toArray:=by
   intro r
   induction r with
   | nil=>intro acc;rfl
   | cons p r ih=>
    intro acc
    rw [List.map_cons,List.foldl_cons,List.foldl_cons,<- ih]
    congr 1
    simp [txt]
  exact this r t
private theorem JZ (ts:List Txt):((ts.map txt).map (·.length)).sum=Da ts:=by
 unfold Da
 rw [List.map_map]
 exact congrArg List.sum (List.map_congr_left fun t U=>Ao t)
private theorem L9:MethAt "str" "str.join" "join":=⟨PySem.F.plainAttrs_str,PySem.F.slot_str_join,PySem.F.type_str_join⟩
private theorem P6:OpMeth W n fm Ba "str.join" Ld:=.mk fun A α ps s p v l vs C I hK r rl ns=>by
 obtain ⟨sep,rfl⟩:=DG hK
 obtain ⟨x,vx,rfl,rfl,rx,nq⟩:=CR (f:=fun p=>M.get (asL p) fun i=>M.bind (M.getLst i) fun l=>M.bind (M.ofO (CT l)) fun ts=>M.orStuck (Da ts+ts.length*sep.length<=big) (M.ret (PV.str (FR sep ts)))) rl ns
 obtain ⟨i,e⟩:=AF nq
 obtain rfl:=Fo e
 have ns':M.bind (M.getLst i) (fun l=>M.bind (M.ofO (CT l)) fun ts=>M.orStuck (Da ts+ts.length*sep.length<=big) (M.ret (PV.str (FR sep ts)))) ps≠.stuck:=ns
 obtain ⟨l,e1,e2⟩:=AQ (Ab ns')
 rw [Aa e2] at ns'
 obtain ⟨ts,e3,e4⟩:=Cn (Ab ns')
 rw [Aa e4] at ns'
 obtain ⟨c,e5⟩:=Af ns'
 rw [decide_eq_true_eq] at c
 have e6:Ld (.str sep) [.lst i] ps = .ok (.str (FR sep ts)) ps:=(Aa e2).trans ((Aa e4).trans e5)
 obtain ⟨a,ws,rfl,hl,rw'⟩:=Cm I rx e1
 obtain ⟨lt,q1,q2⟩:=P5 e3 rw'
 unfold Aj
 rw [e6]
 obtain ⟨t,rfl⟩:=r.inv
 refine SC.join (by rw [q1] at hl;exact hl) q2 ?_ fun t' k=>?_
 ·unfold JoinOk
  rw [StrLaws.joinTotal,JZ,List.length_map,Ao]
  unfold tooLong
  rw [decide_eq_false (by rw [<- A4];lia)];rfl
 ·rw [Oa]
  exact OkE.same I (.str _ _)
private theorem HF (x y:Str)(i:Int)(t u v:Tok)(k:Nat)(rest:List Nat)(h:occurrences x y (fromIndex x.length i) x.length 1=k::rest):Gives («str.index» ⟨[.str x t,.str y u,.int i v],[]⟩) (.int k):=by
 show Gives (match occurrences x y (fromIndex x.length i) (min x.length x.length) 1 with | i::_=>retInt i | []=>(do rule "str.index.not-found";raiseError "ValueError" "substring not found")) _
 rw [Nat.min_self,h]
 exact .of_eq rfl
private theorem Gp (x y:Str)(i:Int)(t u v:Tok)(h:occurrences x y (fromIndex x.length i) x.length 1=[]):Meets («str.index» ⟨[.str x t,.str y u,.int i v],[]⟩) (raisesNew "ValueError"):=by
 intro prog w A R s hS
 show wpAny _ _ (match occurrences x y (fromIndex x.length i) (min x.length x.length) 1 with | i::_=>retInt i | []=>_) _ _ s
 rw [Nat.min_self,h]
 first
  | exact wpAny_bind (wpAny_rule (by exact_raiseError plainExc_ValueError hS.1 hS.2))
  | exact wpAny_bind (wpAny_rule (wpAny_bind (by exact_raiseError plainExc_ValueError hS.1 hS.2)))
noncomputable def AtT (x y:Txt)(i:Nat):Prop:=i+y.length<=x.length/\(x.drop i).take y.length=y
private theorem Ff (x y:Txt)(i:Nat):StrLaws.At (txt x) (txt y) (txt x).length i↔AtT x y i:=by
 unfold StrLaws.At AtT
 rw [StrLaws.subAt_eq,Ao,Ao]
 simp [txt]
private theorem Mb (x y:Txt)(lo:Nat):(AJ x y lo=none/\∀ i,lo<=i->¬ AtT x y i)\/∃ i,AJ x y lo=some i/\lo<=i/\AtT x y i/\∀ k,lo<=k->k<i->¬ AtT x y k:=by
 have pi:∀ i,(decide (i+y.length<=x.length)&&((x.drop i).take y.length==y))=true↔AtT x y i:=fun i=>by
  unfold AtT;simp
 cases q:AJ x y lo with
 | none=>
  refine .inl ⟨rfl,fun i hi ha=>?_⟩
  unfold AJ at q
  rw [List.find?_eq_none] at q
  exact q i (List.mem_range'_1.mpr ⟨hi,by have:=ha.1;exact Mi.la [_,_,_,_,_] [([2,4,0],[6]),([6,3,0],[8,10,0])] ([2,3,0],[10,8,0]) rfl this (Mi.lcS _ _)⟩) ((pi i).mpr ha)
 | some i=>
  refine .inr ⟨i,rfl,?_⟩
  unfold AJ at q
  rw [List.find?_range'_eq_some] at q
  obtain ⟨h1,h2,h3⟩:=q
  have h2:=List.mem_range'_1.mp h2
  refine ⟨h2.1,(pi i).mp h1,fun k k1 k2 ha=>?_⟩
  have:=h3 k k1 k2
  rw [(pi k).mpr ha] at this
  simp at this
private theorem IJ (x y:Txt)(lo:Nat):match AJ x y lo with
  | none=>occurrences (txt x) (txt y) lo (txt x).length 1=[]
  | some i=>∃ r,occurrences (txt x) (txt y) lo (txt x).length 1=i::r:=by
 rcases StrLaws.occ_head_from (txt x) (txt y) lo 1 (Nat.le_refl _) with ⟨o1,o2⟩ | ⟨i,r,o1,o2,o3,o4⟩ <;> rcases Mb x y lo with ⟨f1,f2⟩ | ⟨j,f1,f2,f3,f4⟩
 ·rw [f1];exact o1
 ·exact absurd ((Ff x y j).mpr f3) (o2 j f2)
 ·exact absurd ((Ff x y i).mp o3) (f2 i o2)
 ·rw [f1]
  have:i=j:=by
   rcases Nat.lt_trichotomy i j with q | q | q
   ·exact absurd ((Ff x y i).mp o3) (f4 i o2 q)
   ·exact q
   ·exact absurd ((Ff x y j).mpr f3) (o4 j f2 q)
  subst this
  exact ⟨r,o1⟩
private theorem J0:MethAt "str" "str.index" "index":=⟨PySem.F.plainAttrs_str,PySem.F.slot_str_index,PySem.F.type_str_index⟩
private theorem Ob:OpMeth W n fm Ba "str.index" (Ex fm.hdl.isSome):=.mk fun A α ps s p v l vs C I hK r rl ns=>by
 obtain ⟨x,rfl⟩:=DG hK
 obtain ⟨t,rfl⟩:=r.inv
 obtain ⟨⟨y,oi⟩,e⟩:=AF (f:=fun y:Txt × Option Int=>match y.2 with
  | none=>(match AJ x y.1 0 with
   | some i=>M.ret (PV.int i)
   | none=>M.stuck)
  | some p=>M.orStuck (0<=p&&Ai p) (match AJ x y.1 p.toNat with
   | some i=>M.ret (PV.int i)
   | none=>M.raiseB fm.hdl.isSome "ValueError")) ns
 rcases P3 e with ⟨rfl,_⟩ | ⟨i,rfl,_⟩
 ·obtain ⟨vy,ws,rfl,rx,rs⟩:=rl.inv
  obtain rfl:ws=[]:=rs.inv
  obtain ⟨u,rfl⟩:=rx.inv
  ·have ns':(match AJ x y 0 with
    | some i=>M.ret (PV.int i)
    | none=>M.stuck) ps≠.stuck:=ns
   have oc:=IJ x y 0
   unfold Aj
   show wpAny _ _ _ (OkE W fm α s.heap ((match AJ x y 0 with
    | some i=>M.ret (PV.int i)
    | none=>M.stuck) ps)) _ _
   cases q:AJ x y 0 with
   | none=>rw [q] at ns';exact absurd rfl ns'
   | some i=>
    rw [q] at oc
    obtain ⟨r,oc⟩:=oc
    exact SC.index oc (OkE.same I (.int _ _))
 ·obtain ⟨vy,ws,rfl,rx,rs⟩:=rl.inv
  obtain ⟨vz,ws,rfl,rz,rs⟩:=rs.inv
  obtain rfl:ws=[]:=rs.inv
  obtain ⟨u,rfl⟩:=rx.inv
  obtain ⟨v,rfl⟩:=rz.inv
  ··have ns':M.orStuck (0<=i&&Ai i) (match AJ x y i.toNat with
     | some i=>M.ret (PV.int i)
     | none=>M.raiseB fm.hdl.isSome "ValueError") ps≠.stuck:=ns
    obtain ⟨c,e⟩:=Af ns'
    rw [e] at ns'
    refine Aj.congr (m:=Ex fm.hdl.isSome (.str x) [.str y,.int i]) e ?_
    rw [Bool.and_eq_true,decide_eq_true_eq] at c
    have fi:fromIndex (txt x).length i=i.toNat:=by
     unfold fromIndex
     rw [if_neg (by lia)]
     congr 1;lia
    have oc:=IJ x y i.toNat
    cases q:AJ x y i.toNat with
    | none=>
     simp only [q] at ns' oc
     obtain ⟨h1,h2⟩:=Er ns'
     have hh:A.handled=none:=by rw [C.hdl];exact Option.isNone_iff_eq_none.mp (by cases hq:fm.hdl <;> simp_all)
     refine Aj.congr (m':=fun ps=>.ex (.std "ValueError") ps) h2 ?_
     exact call_meets F.slot_str_index (typeIs_str _ _ _) F.entry_str_index (F.args_str_index_3 _ _ _) (Gp (txt x) (txt y) i t u v (by rw [fi];exact oc)) ⟨hh,fun h' tk e x=>Ep I x⟩
    | some k=>
     simp only [q] at ns' oc
     obtain ⟨r,oc⟩:=oc
     exact call_gives F.slot_str_index (typeIs_str _ _ _) F.entry_str_index (F.args_str_index_3 _ _ _) (HF (txt x) (txt y) i t u v k r (by rw [fi];exact oc)) (OkE.same I (.int _ _))
end
end Mi
end
section
open PySem PySem.W PyProof.Rows
open PySem.Builtin PySem.Builtin.Str
set_option maxRecDepth 100000
namespace Mi
private theorem Gq:PlainAttrs "frozenset":=
 ⟨⟨"object.__getattribute__",by rw [typeLookup_type,builtinLookup_eq_fast];kernel_rfl,by decide +kernel⟩,by rw [typeLookup_type,builtinLookup_eq_fast];kernel_rfl⟩
noncomputable def asF:PV->Option Nat
 | .fset k=>some k
 | _=>none
noncomputable def P7 (v:PV)(l:List PV):M PV:=M.get (asF v) fun k=>M.arg1 l fun p=>M.get (asS p) fun x=>M.ret (.bool (x.all fun c=>!AM k c))
noncomputable def Mc (v:PV)(l:List PV):M PV:=M.get (asF v) fun k=>M.arg1 l fun p=>M.get (asS p) fun x=>M.ret (.bool (x.all fun c=>AM k c))
section
variable {W:Wd}{fm:Fm}{α α' α₁ z0 W0:List Addr}{h h' h₁ w1 Y1 start:Heap}{n:Nat}{A:Around}{ps ps':PS}{s s' c0 y0:Shared}{H:Hd}{h₀:Heap}{own:List Addr}{E:Value->Shared->Prop}
private theorem IK {x:Txt}{i:Nat}:BB (.str x) i ps = .ok ((x[i]?).map fun c=>PV.str [c]) ps:=rfl
private theorem CZ:Slot "frozenset" "isdisjoint" "frozenset.isdisjoint":=
 .of (owner:="frozenset") (n:="isdisjoint") (by rw [typeLookup_type,builtinLookup_eq_fast];kernel_rfl) (by decide +kernel) (by decide +kernel) (by decide +kernel)
  (by first | exact .inl (by decide +kernel) | exact .inr (by decide +kernel)) (by rw [isSubtype_type];kernel_rfl)
private theorem EX (a b:Value):argsOk "frozenset.isdisjoint" ⟨[a,b],[]⟩:=by
 unfold argsOk;kernel_rfl
private theorem Ey:entryFor table "frozenset.isdisjoint" = some Builtin.«frozenset.isdisjoint»:=entryFor_of_tree (by kernel_rfl)
private theorem A0:plainId "frozenset.isdisjoint.loop" = true:=by decide +kernel
private theorem C2:entryFor table "frozenset.isdisjoint.loop" = some Builtin.«frozenset.isdisjoint.loop»:=entryFor_of_tree (by kernel_rfl)
private theorem IL {It:Addr}{x:Txt}{St:Nat->Heap->Prop}(hA:A.handled=none)(F:FmOk W.h₀ fm)(nav:It∉fm.av)(freshI:start.get? It=none)(h0I:W.h₀.get? It=none)(itk:ItOk W fm α It (BB (.str x)) St)
  {i:Nat} {s:Shared} (J:InvS W fm α ps s) (R:Rel fm.stk fm.tab α start s.heap) (st:St i s.heap) {Q:Option Value->Shared->Prop} {E:Value->Shared->Prop}
  (h0:x[i]? = none->∀ s',InvS W fm α ps s'->Rel fm.stk fm.tab α start s'.heap->Q none s')
  (h1:∀ c t s',x[i]? = some c->InvS W fm α ps s'->Rel fm.stk fm.tab α start s'.heap->St (i+1) s'.heap->Q (some (.str (txt [c]) t)) s'):wpAny W.m A (pyNext (.ref It)) Q E s:=by
 refine itk.next fm A α ps s i _ _ hA (List.prefix_refl _) F J st (by rw [IK];exact fun q=>(by cases q)) fun o r h' tk eo kk rr=>?_
 rw [IK] at eo
 obtain ⟨ob,vs,eI,dI,cI⟩:=itk.flds _ _ st
 have J2:=itk.turned (tk:=tk) F J st nav h0I kk
 have R2:=R.turn0 (Turn0.one J.inv.frames ⟨ob,vs,eI,dI,cI⟩ kk) (fun b m=>by rw [List.mem_singleton.mp m];exact freshI)
 cases e:x[i]? with
 | none=>
  rw [e] at eo
  cases eo
  cases r with
  | some v=>exact rr.elim
  | none=>exact h0 e _ J2 R2
 | some c=>
  rw [e] at eo
  cases eo
  cases r with
  | none=>exact rr.elim
  | some v=>
   obtain ⟨rp,st2⟩:=rr
   obtain ⟨t,rfl⟩:=rp.inv
   exact h1 c t _ e J2 R2 st2
private theorem GU {x:Txt}{i:Nat}{f:Nat->Bool}(e:x[i]? = none):(x.drop i).all f=true:=by
 rw [List.drop_of_length_le (List.getElem?_eq_none_iff.mp e)];rfl
private theorem GV {x:Txt}{i c:Nat}{f:Nat->Bool}(e:x[i]? = some c):(x.drop i).all f=(f c&&(x.drop (i+1)).all f):=by
 obtain ⟨lt,e⟩:=List.getElem?_eq_some_iff.mp e
 rw [List.drop_eq_getElem_cons lt,List.all_cons,e]
private theorem EY {S It:Addr}{k m:Nat}{x:Txt}{St:Nat->Heap->Prop}(hS:FrozAt (strKind W.H.prog W.H.w) W.h₀ S (Ek k) m)(hm:m<4096)(hA:A.handled=none)(F:FmOk W.h₀ fm)(nav:It∉fm.av)(freshI:start.get? It=none)(h0I:W.h₀.get? It=none)
  (itk:ItOk W fm α It (BB (.str x)) St) (d:Nat):∀ (i:Nat) (s:Shared),x.length<i+d->i<=x.length->InvS W fm α ps s->Rel fm.stk fm.tab α start s.heap->St i s.heap ->
  codeAny W.m A (.builtin "frozenset.isdisjoint.loop" ⟨[.ref S,.ref It],[]⟩) (fun r s'=>match r with
   | .ok (.ret v)=>OkE W fm α start (.ok (.bool ((x.drop i).all fun c=>!AM k c)) ps) v s'
   | .ok _=>False
   | .error e=>E e s') s:=by
 have done:∀ (b:Bool) (s:Shared),InvS W fm α ps s->Rel fm.stk fm.tab α start s.heap->OkE W fm α start (.ok (.bool b) ps) (.bool b) s:=fun b s J R=>⟨_,ps,α,rfl,J,.refl ..,R,.bool _⟩
 induction d with
 | zero=>intro i s hd hi;exact absurd hd (Nat.not_lt.mpr hi)
 | succ d ih=>
  intro i s hd hi J R st
  refine codeAny_builtin C2 ?_
  rw [Around.under_plainId A0 _]
  show wpAny _ A.in1 (pyNext (.ref It) >>= _) _ _ s
  refine wpAny_bind (IL (A:=A.in1) hA F nav freshI h0I itk J R st (fun e s' J R=>wpAny_pure ?_) fun c t s' e J R st=>?_)
  ·rw [GU e];exact done true _ J R
  rw [GV e]
  have lt:=(List.getElem?_eq_some_iff.mp e).1
  obtain ⟨es,ep,tt,ho,hr⟩:=hS
  refine wpAny_bind (wpAny_holding (Hp (s:=s') (S:=Ek k) ⟨es,ep,tt,J.inv.base _ _ ho,hr⟩ hm ?_))
  rw [DZ]
  show wpAny _ _ (if AM k c=true then _ else _) _ _ _
  cases q:AM k c with
  | true=>rw [if_pos rfl,Bool.not_true,Bool.false_and];exact wpAny_pure (done false _ (J.tok _) R)
  | false=>rw [if_neg (by decide),Bool.not_false,Bool.true_and];exact wpAny_pure ⟨plainId_quiet A0 _,ih (i+1) _ (by exact Mi.la [_,_,_] [([2,3,0],[4,6,3,0,0])] ([2,3,0],[4,3,0,6,0]) rfl hd) lt (J.tok _) R st⟩
private theorem Le {l:List PV}{f:Txt->M PV}(ns:M.arg1 l (fun p=>M.get (asS p) f) ps≠.stuck):∃ x,l=[.str x]:=by
 obtain ⟨p,rfl⟩:=DS ns
 obtain ⟨x,e⟩:=AF (f:=f) ns
 exact ⟨x,by rw [AN e]⟩
private theorem Pj (hh:fm.hdl=none):OpMeth W n fm IG "frozenset.isdisjoint" P7:=.mk fun A α ps s p v l vs C I hK r rl ns=>by
 have hA:A.handled=none:=C.hdl.trans hh
 obtain ⟨k,rfl⟩:=NY hK
 obtain ⟨x,rfl⟩:=Le (f:=fun x=>M.ret (.bool (x.all fun c=>!AM k c))) ns
 obtain ⟨vx,ws,rfl,rx,rs⟩:=rl.inv
 cases (show ws=[] from rs.inv)
 obtain ⟨t,rfl⟩:=rx.inv
 obtain ⟨S,rfl,e⟩:=r.inv
 obtain ⟨m,hS,hm⟩:=C.hd.sets k S e
 have hS':=hS
 obtain ⟨es,ep,tt,ho,_⟩:=hS'
 have hT:s.TypeIs (.ref S) "frozenset":=⟨_,I.inv.base _ _ ho,rfl⟩
 have fresh:s.heap.get? s.heap.objs.size=none:=Av _
 have nav:=AR I fresh
 have fin:∀ (St:Nat->Heap->Prop) o,ItOk W fm α s.heap.objs.size (BB (.str x)) St->St 0 (s.heap.push o) ->
   codeAny W.m A (.builtin "frozenset.isdisjoint.loop" ⟨[.ref S,.ref s.heap.objs.size],[]⟩) (fun r s'=>match r with
    | .ok (.ret v)=>OkE W fm α s.heap (P7 (.fset k) [.str x] ps) v s'
    | .ok _=>False
    | .error e=>ExE W fm α s.heap (P7 (.fset k) [.str x] ps) e s') { s with heap:=s.heap.push o }:=fun St o itk st=>by
  have:=EY (E:=ExE W fm α s.heap (P7 (.fset k) [.str x] ps)) hS hm hA C.fm nav fresh (I.none _ fresh) itk (x.length+1) 0 { s with heap:=s.heap.push o } (by exact Mi.la [_] [] ([2,3,0],[1,2,3,0,0]) rfl) (Nat.zero_le _) (Bl I o) (.of_keeps fun b ob e=>Heap.get?_push_of_some _ e) st
  exact this
 refine wpAny_call (codeAny_call_builtin CZ.plain Ey (CZ.check _ _ _ _ _ _ _ _ hT (EX _ _) ?_))
 unfold Builtin.«frozenset.isdisjoint» Frozenset.oneOther
 unfold Frozenset.addrOf
 refine wpAny_bind (wpAny_bind (wpAny_pure (wpAny_pure ?_)))
 dsimp only
 rw [if_neg (by simp)]
 refine wpAny_bind (wpAny_typeOf (typeIs_str _ _ _) ?_)
 rw [if_neg (by decide)]
 cases ha:(txt x).cps.all (· < 128)
 ·exact wpAny_bind (wpAny_pyIter_wide ha (wpAny_pure ⟨plainId_quiet A0 _,fin _ _ ItOk.strW ⟨_,Heap.get?_push_size _ rfl,rfl,rfl⟩⟩))
 ·exact wpAny_bind (wpAny_pyIter_ascii ha (wpAny_pure ⟨plainId_quiet A0 _,fin _ _ ItOk.strA ⟨_,Heap.get?_push_size _ rfl,rfl,rfl⟩⟩))
private theorem BY:Slot "frozenset" "issuperset" "frozenset.issuperset":=
 .of (owner:="frozenset") (n:="issuperset") (by rw [typeLookup_type,builtinLookup_eq_fast];kernel_rfl) (by decide +kernel) (by decide +kernel) (by decide +kernel)
  (by first | exact .inl (by decide +kernel) | exact .inr (by decide +kernel)) (by rw [isSubtype_type];kernel_rfl)
private theorem EZ:typeOf (.builtin "frozenset.issuperset")=pure (.type "method_descriptor"):=by show builtinType _=_;rw [builtinType_eq_fast];kernel_rfl
private theorem E0 (a b:Value):argsOk "frozenset.issuperset" ⟨[a,b],[]⟩:=by
 unfold argsOk;kernel_rfl
private theorem Ez:entryFor table "frozenset.issuperset" = some Builtin.«frozenset.issuperset»:=entryFor_of_tree (by kernel_rfl)
private theorem A1:plainId "frozenset.issuperset.loop" = true:=by decide +kernel
private theorem C3:entryFor table "frozenset.issuperset.loop" = some Builtin.«frozenset.issuperset.loop»:=entryFor_of_tree (by kernel_rfl)
private theorem E1:MethAt "frozenset" "frozenset.issuperset" "issuperset":=⟨Gq,BY,EZ⟩
private theorem E2 {S It:Addr}{k m:Nat}{x:Txt}{St:Nat->Heap->Prop}(hS:FrozAt (strKind W.H.prog W.H.w) W.h₀ S (Ek k) m)(hm:m<4096)(hA:A.handled=none)(F:FmOk W.h₀ fm)(nav:It∉fm.av)(freshI:start.get? It=none)(h0I:W.h₀.get? It=none)
  (itk:ItOk W fm α It (BB (.str x)) St) (d:Nat):∀ (i:Nat) (s:Shared),x.length<i+d->i<=x.length->InvS W fm α ps s->Rel fm.stk fm.tab α start s.heap->St i s.heap ->
  codeAny W.m A (.builtin "frozenset.issuperset.loop" ⟨[.ref S,.ref It],[]⟩) (fun r s'=>match r with
   | .ok (.ret v)=>OkE W fm α start (.ok (.bool ((x.drop i).all fun c=>AM k c)) ps) v s'
   | .ok _=>False
   | .error e=>E e s') s:=by
 have done:∀ (b:Bool) (s:Shared),InvS W fm α ps s->Rel fm.stk fm.tab α start s.heap->OkE W fm α start (.ok (.bool b) ps) (.bool b) s:=fun b s J R=>⟨_,ps,α,rfl,J,.refl ..,R,.bool _⟩
 induction d with
 | zero=>intro i s hd hi;exact absurd hd (Nat.not_lt.mpr hi)
 | succ d ih=>
  intro i s hd hi J R st
  refine codeAny_builtin C3 ?_
  rw [Around.under_plainId A1 _]
  show wpAny _ A.in1 (pyNext (.ref It) >>= _) _ _ s
  refine wpAny_bind (IL (A:=A.in1) hA F nav freshI h0I itk J R st (fun e s' J R=>wpAny_pure ?_) fun c t s' e J R st=>?_)
  ·rw [GU e];exact done true _ J R
  rw [GV e]
  have lt:=(List.getElem?_eq_some_iff.mp e).1
  obtain ⟨es,ep,tt,ho,hr⟩:=hS
  refine wpAny_bind (wpAny_holding (Hp (s:=s') (S:=Ek k) ⟨es,ep,tt,J.inv.base _ _ ho,hr⟩ hm ?_))
  rw [DZ]
  show wpAny _ _ (if AM k c=true then _ else _) _ _ _
  cases q:AM k c with
  | true=>rw [if_pos rfl,Bool.true_and];exact wpAny_pure ⟨plainId_quiet A1 _,ih (i+1) _ (by exact Mi.la [_,_,_] [([2,3,0],[4,6,3,0,0])] ([2,3,0],[4,3,0,6,0]) rfl hd) lt (J.tok _) R st⟩
  | false=>rw [if_neg (by decide),Bool.false_and];exact wpAny_pure (done false _ (J.tok _) R)
private theorem Gr (hh:fm.hdl=none):OpMeth W n fm IG "frozenset.issuperset" Mc:=.mk fun A α ps s p v l vs C I hK r rl ns=>by
 have hA:A.handled=none:=C.hdl.trans hh
 obtain ⟨k,rfl⟩:=NY hK
 obtain ⟨x,rfl⟩:=Le (f:=fun x=>M.ret (.bool (x.all fun c=>AM k c))) ns
 obtain ⟨vx,ws,rfl,rx,rs⟩:=rl.inv
 cases (show ws=[] from rs.inv)
 obtain ⟨t,rfl⟩:=rx.inv
 obtain ⟨S,rfl,e⟩:=r.inv
 obtain ⟨m,hS,hm⟩:=C.hd.sets k S e
 have hS':=hS
 obtain ⟨es,ep,tt,ho,_⟩:=hS'
 have hT:s.TypeIs (.ref S) "frozenset":=⟨_,I.inv.base _ _ ho,rfl⟩
 have fresh:s.heap.get? s.heap.objs.size=none:=Av _
 have nav:=AR I fresh
 have fin:∀ (St:Nat->Heap->Prop) o,ItOk W fm α s.heap.objs.size (BB (.str x)) St->St 0 (s.heap.push o) ->
   codeAny W.m A (.builtin "frozenset.issuperset.loop" ⟨[.ref S,.ref s.heap.objs.size],[]⟩) (fun r s'=>match r with
    | .ok (.ret v)=>OkE W fm α s.heap (Mc (.fset k) [.str x] ps) v s'
    | .ok _=>False
    | .error e=>ExE W fm α s.heap (Mc (.fset k) [.str x] ps) e s') { s with heap:=s.heap.push o }:=fun St o itk st=>by
  have:=E2 (E:=ExE W fm α s.heap (Mc (.fset k) [.str x] ps)) hS hm hA C.fm nav fresh (I.none _ fresh) itk (x.length+1) 0 { s with heap:=s.heap.push o } (by exact Mi.la [_] [] ([2,3,0],[1,2,3,0,0]) rfl) (Nat.zero_le _) (Bl I o) (.of_keeps fun b ob e=>Heap.get?_push_of_some _ e) st
  exact this
 refine wpAny_call (codeAny_call_builtin BY.plain Ez (BY.check _ _ _ _ _ _ _ _ hT (E0 _ _) ?_))
 unfold Builtin.«frozenset.issuperset» Frozenset.oneOther
 unfold Frozenset.addrOf
 refine wpAny_bind (wpAny_bind (wpAny_pure (wpAny_pure ?_)))
 dsimp only
 refine wpAny_bind (m:=Frozenset.isAnySet (.str (txt x) t)) ?_
 unfold Frozenset.isAnySet
 refine wpAny_bind (wpAny_isInstance (typeIs_str s (txt x) t) (b:=false) (by kernel_rfl) ?_)
 refine wpAny_bind (wpAny_pure ?_)
 refine wpAny_isInstance (typeIs_str s (txt x) t) (b:=false) (by kernel_rfl) ?_
 rw [if_neg (by decide)]
 cases ha:(txt x).cps.all (· < 128)
 ·exact wpAny_bind (wpAny_pyIter_wide ha (wpAny_pure ⟨plainId_quiet A1 _,fin _ _ ItOk.strW ⟨_,Heap.get?_push_size _ rfl,rfl,rfl⟩⟩))
 ·exact wpAny_bind (wpAny_pyIter_ascii ha (wpAny_pure ⟨plainId_quiet A1 _,fin _ _ ItOk.strA ⟨_,Heap.get?_push_size _ rfl,rfl,rfl⟩⟩))
end
end Mi
end
section
open PySem PySem.W PyProof.Rows
open PySem.Builtin PySem.Builtin.Str PySem.NumText
set_option maxRecDepth 100000
namespace Mi
noncomputable def hexdig (c:Nat):Nat:=if c<=57 then c - 48 else if 97<=c then c - 87 else c - 55
noncomputable def hexval (x:Txt):Nat:=x.foldl (fun a c=>a*16+hexdig c) 0
private theorem HG {c:Nat}(h:hexd c=true):c<128:=by
 unfold hexd at h
 simp only [Bool.or_eq_true,Bool.and_eq_true,decide_eq_true_eq] at h
 lia
private theorem Bm {c:Nat}(h:hexd c=true):digit? c=some (hexdig c)/\hexdig c<16/\c≠95/\c≠0/\blank c=false/\c≠45/\c≠43/\c<128/\c≠120/\c≠88:=
 (by decide +kernel:∀ c<128,hexd c=true->digit? c=some (hexdig c)/\hexdig c<16/\c≠95/\c≠0/\blank c=false/\c≠45/\c≠43/\c<128/\c≠120/\c≠88) c (HG h) h
private theorem FS:∀ (x:Txt) (acc:Array Nat) (b:Bool),x.all hexd=true->x.foldlM (step 16) (acc,b)=some (acc++(x.map hexdig).toArray,b||!x.isEmpty)
 | [],acc,b,_=>by simp
 | c::x,acc,b,h=>by
  rw [List.all_cons,Bool.and_eq_true] at h
  obtain ⟨d1,d2,d3,_⟩:=Bm h.1
  rw [List.foldlM_cons]
  have e:step 16 (acc,b) c=some (acc.push (hexdig c),true):=by
   unfold NumText.step
   simp only [beq_iff_eq,d3,if_false,d1,d2,if_true]
  rw [e]
  show x.foldlM (step 16) (acc.push (hexdig c),true)=_
  rw [FS x _ _ h.2]
  simp
private theorem Dw (x:Txt)(h:x.all hexd=true):x.dropWhile blank=x:=by
 cases x with
 | nil=>rfl
 | cons c x=>
  rw [List.all_cons,Bool.and_eq_true] at h
  obtain ⟨_,_,_,_,d5,_⟩:=Bm h.1
  rw [List.dropWhile_cons,d5];rfl
private theorem P8 (x:Txt)(h:x.all hexd=true):x.reverse.all hexd=true:=by rw [List.all_reverse];exact h
set_option tactic.hygienic true in
private theorem Oc (x:Txt)(h:x.all hexd=true):sign x=(false,x):=by
 cases x with
 | nil=>rfl
 | cons c x=>
  rw [List.all_cons,Bool.and_eq_true] at h
  obtain ⟨_,_,_,_,_,d6,d7,_⟩:=Bm h.1
  unfold sign
  split
  ·rename_i r e;injection e with e1 e2;exact absurd e1 d6
  ·rename_i r e;injection e with e1 e2;exact absurd e1 d7
  ·rfl
set_option tactic.hygienic true in
private theorem Md (x:Txt)(h:x.all hexd=true):based 16 x=(16,false,x):=by
 unfold based
 split
 ·rename_i p hp
  have:p≠16:=by
   unfold prefix? at hp
   split at hp
   ·rename_i c r
    rw [List.all_cons,Bool.and_eq_true,List.all_cons,Bool.and_eq_true] at h
    obtain ⟨_,_,_,_,_,_,_,_,d9,d10⟩:=Bm h.2.1
    rw [if_neg (by simp [d9,d10])] at hp
    split at hp
    ·cases hp;decide
    ·split at hp
     ·cases hp;decide
     ·cases hp
   ·cases hp
  rw [if_neg (by simp;exact fun e=>this e.symm)]
 ·rfl
private theorem Rv (x:Txt)(h:x.all hexd=true)(ne:x≠[]):(int_private% "readNumeral") 0 16 x=(int_private% "Numeral.value") (hexval x):=by
 have e1:=Dw x h
 have e2:=Oc x h
 have e3:=Md x h
 have e4:=Dw x.reverse (P8 x h)
 refine (readNumeral_eq 0 16 x).trans ?_
 rw [e1,e2]
 simp only [e3,e4,List.reverse_reverse]
 unfold digits?
 rw [FS x #[] false h]
 have:x.isEmpty=false:=by cases x with
  | nil=>exact absurd rfl ne
  | cons=>rfl
 simp only [this,Option.bind_some,Bool.not_false,Bool.or_true,if_true]
 unfold judge
 simp only [Array.empty_append]
 have ev:(x.map hexdig).toArray.foldl (fun acc d=>acc*16+d) 0=hexval x:=by
  rw [List.foldl_toArray,List.foldl_map];rfl
 rw [if_neg (by simp),if_neg (by simp),ev]
 rfl
theorem wp_text16 {M:Model}{A:Around}{E:Value->Shared->Prop}{s:Shared}{Q:Value->Shared->Prop}{v:Value}{text:List Nat}{n:Int}
  (hs:(text.takeWhile (· != 0)).length<=640) (hr:(int_private% "readNumeral") 0 16 (text.takeWhile (· != 0))=(int_private% "Numeral.value") n)
  (ha:((text.takeWhile (· != 0)).length==text.length)=true) (h:Q (.int n s.toks) { s with toks:=s.toks+1 }) :
  wpAny M A ((int_private% "intFromText") v text 16) Q E s:=by
 obtain ⟨hp,g,d,tk,os⟩:=s
 repeat (any_goals (first
  | assumption
  | (with_reducible refine wpAny_ite_true (decide_eq_true hs) ?_)
  | (with_reducible refine wpAny_ite_true (decide_eq_true ha) ?_)
  | wp_step))
 all_goals (try rw [hr])
 all_goals (try dsimp only)
 repeat (any_goals (first
  | assumption
  | (with_reducible refine wpAny_ite_true (decide_eq_true hs) ?_)
  | (with_reducible refine wpAny_ite_true (decide_eq_true ha) ?_)
  | wp_step))
private theorem FT (x:Txt)(h:x.all hexd=true):x.takeWhile (· != 0)=x:=by
 induction x with
 | nil=>rfl
 | cons c x ih=>
  rw [List.all_cons,Bool.and_eq_true] at h
  obtain ⟨_,_,_,d4,_⟩:=Bm h.1
  rw [List.takeWhile_cons,if_pos (by simpa using d4),ih h.2]
set_option maxHeartbeats 4000000 in
private theorem Me {x:Txt}{u v:Tok}(h:x.all hexd=true)(ne:x≠[])(hl:x.length<=640):Gives (Builtin.«int.__new__» ⟨[.type "int",.str (txt x) u,.int 16 v],[]⟩) (.int (hexval x)):=
 .of_wp fun M A E s Q hq=>by
  obtain ⟨hp,g,d,tk,os⟩:=s
  have f1:=F.conv_sub_int
  have f2:=F.madeHere_int
  have f6:typeOf (.str (txt x) u)=pure (.type "str"):=rfl
  have e0:(txt x).cps.all (· < 128)=true:=by
   rw [<- Array.all_toList]
   show x.toArray.toList.all _=true
   rw [List.toList_toArray,List.all_eq_true]
   intro c hc
   obtain ⟨_,_,_,_,_,_,_,d8,_⟩:=Bm (List.all_eq_true.mp h c hc)
   exact decide_eq_true d8
  have e1:(txt x).cps.toList=x:=by simp [txt]
  have hs:(x.takeWhile (· != 0)).length<=640:=by rw [FT x h];exact hl
  have hr:(int_private% "readNumeral") 0 16 (x.takeWhile (· != 0))=(int_private% "Numeral.value") (hexval x):=by rw [FT x h];exact Rv x h ne
  have ha:((x.takeWhile (· != 0)).length==x.length)=true:=by rw [FT x h];exact beq_self_eq_true _
  have hk:=W.KIN.Hid.mk (And.intro hs (And.intro hr ha))
  clear hs hr ha hl h ne
  repeat (any_goals (first
   | assumption
   | ((with_reducible show wpAny _ _ ((int_private% "intFromText") _ _ _) _ _ _);simp only [e0,e1,if_true];refine wp_text16 hk.out.1 hk.out.2.1 hk.out.2.2 ?_)
   | wp_step))
  all_goals first | exact ⟨_,rfl,hq⟩ | skip
end Mi
end
section
open PySem PySem.W PyProof.Rows
open PySem.Builtin PySem.Builtin.Str
set_option maxRecDepth 100000
namespace Mi
noncomputable def SQ (x:Txt × Int):M PV:=M.orStuck (x.2==16&&!x.1.isEmpty&&x.1.all hexd&&x.1.length<=640) (M.ret (.int (hexval x.1)))
noncomputable def QX (l:List PV):Option (Txt × Int):=un l fun p r=>(asS p).bind fun s=>un r fun q r=>(asI q).bind fun i=>cond r.isEmpty (some (s,i)) none
noncomputable def P9 (l:List PV):M PV:=M.get (QX l) SQ
private theorem Od {l:List PV}{x:Txt × Int}(h:QX l=some x):l=[.str x.1,.int x.2]:=by
 obtain ⟨p,r,rfl,h⟩:=DR h
 obtain ⟨s,e,h⟩:=Option.bind_eq_some_iff.mp h
 obtain ⟨q,r,rfl,h⟩:=DR h
 obtain ⟨i,e',h⟩:=Option.bind_eq_some_iff.mp h
 obtain ⟨e1,rfl⟩:=El h
 rw [AN e,AE e',e1]
private theorem FU (a b:Value):checkTypeCall "int" ⟨[a,b],[]⟩=pure ():=by kernel_rfl
private theorem Gs (a b:Value):checkBuiltinCall "int.__new__" ⟨[.type "int",a,b],[]⟩=pure ():=by kernel_rfl
private theorem DH (a b c:Value):argsOk "object.__init__" ⟨[a,b,c],[]⟩:=by unfold argsOk;kernel_rfl
section
variable {W:Wd}{fm:Fm}{α α' α₁ z0 W0:List Addr}{h h' h₁ w1 Y1 start:Heap}{n:Nat}{A:Around}{ps ps':PS}{s s' c0 y0:Shared}{H:Hd}{h₀:Heap}{own:List Addr}{E:Value->Shared->Prop}
private theorem J1:OpCall W n fm (.type "int") P9:=.mk fun A α ps s l vs C I rl ns=>by
 obtain ⟨⟨x,b⟩,e⟩:=AF ns
 obtain rfl:=Od e
 obtain ⟨va,ws,rfl,ra,rs⟩:=rl.inv
 obtain ⟨vb,ws,rfl,rb,rs⟩:=rs.inv
 obtain rfl:ws=[]:=rs.inv
 have ns':M.orStuck (b==16&&!x.isEmpty&&x.all hexd&&x.length<=640) (M.ret (PV.int (hexval x))) ps≠.stuck:=ns
 obtain ⟨c,e⟩:=Af ns'
 refine Aj.congr (m':=M.ret (PV.int (hexval x))) e ?_
 simp only [Bool.and_eq_true,decide_eq_true_eq,beq_iff_eq,Bool.not_eq_true'] at c
 obtain ⟨⟨⟨rfl,c2⟩,c3⟩,c4⟩:=c
 obtain ⟨_,rfl⟩:=ra.inv;obtain ⟨_,rfl⟩:=rb.inv
 exact callType_new F.called_int F.newNe_int (FU _ _) (Gs _ _) (fun obj=>DH obj _ _) F.entry_int_new (Me c3 (by intro q;rw [q] at c2;cases c2) c4).meets
  (show (Made.int (hexval x)).post _ s from ⟨rfl,OkE.same I (.int _ _)⟩)
end
end Mi
end
section
open PySem PySem.W PyProof.Rows
set_option maxRecDepth 100000
namespace Mi
noncomputable def HH (h:Heap)(f:Addr)(fd:FuncData)(fi:Fi):Prop:=
 (∃ o,h.get? f=some o/\o.data = .func fd)/\fd.scope=fi.scope/\fd.body = .stmts fi.body/\fd.closure=[]/\fd.globals=mainGlobals/\fd.builtins=builtinsNs /\
  ∃ c oc vs t,fd.code = .ref c/\h.get? c=some oc/\oc.cls = .type "code"/\oc.data = .fields vs/\vs[1]? = some (.str fd.qualname t)
private theorem HH.fnAt {h:Heap}{f:Addr}{fd:FuncData}{fi:Fi}(x:HH h f fd fi):FnAt h f fd fi:=by
 obtain ⟨h1,h2,h3,h4,h5,h6,c,oc,vs,t,e1,e2,e3,e4,e5⟩:=x
 exact ⟨h1,h2,h3,h4,h5,h6,c,oc,vs,t,e1,e2,e4,e5⟩
section
variable {W:Wd}{fm:Fm}{α α' α₁ z0 W0:List Addr}{h h' h₁ w1 Y1 start:Heap}{n:Nat}{A:Around}{ps ps':PS}{s s' c0 y0:Shared}{H:Hd}{h₀:Heap}{own:List Addr}{E:Value->Shared->Prop}
private theorem InvS.tabStep (F:FmOk W.h₀ fm)(I:InvS W fm α ps s){P:Addr}(hP:P∈fm.tab)(x:Heap.ExtBut P s.heap h')(lv:(h'.get? P).isSome=true)(tb:∀ Q∈fm.tab,BR W.H h' Q){tk:Nat} :
  InvS W fm α ps { s with heap:=h',toks:=tk }/\Rel fm.stk fm.tab α s.heap h':=by
 have neT:∀ b,b∉fm.tab->b≠P:=fun b m q=>m (q▸hP)
 have R:Rel fm.stk fm.tab α s.heap h':=⟨fun b o e U m U=>x b o (neT b m) e,fun b o e U m U=>⟨o.slots,x b o (neT b m) e⟩,fun b e=>by
  cases q:s.heap.get? b with
  | none=>rfl
  | some o=>
   by_cases z:b=P
   ·rw [z] at e;rw [e] at lv;cases lv
   ·rw [x b o z q] at e;cases e⟩
 have pav:=F.tabAv P hP
 refine ⟨⟨I.inv.carry F R ⟨I.inv.lists.len,fun i l e=>?_,I.inv.lists.nodup,I.inv.lists.fresh,I.inv.lists.apart⟩ (.refl ..) ?_ tb,I.gens,I.os⟩,R⟩
 ·obtain ⟨a,vs,h1,⟨k,h2⟩,h3⟩:=I.inv.lists.at_ i l e
  exact ⟨a,vs,h1,⟨k,x a _ (fun q=>I.inv.lists.apart a (List.mem_of_getElem? h1) (q▸pav)) h2⟩,RepL.stays I.inv.lists R (List.prefix_refl _) F.frsAv F.tabAv h3⟩
 ·refine I.inv.frames.of_keeps fun b o e nf=>⟨o,x b o (fun q=>?_) e,rfl⟩
  obtain ⟨ps0,e0,_⟩:=I.inv.tabs P hP
  rw [q,e0] at e;cases e;exact nf ps0 rfl
private theorem E3 {name qual:Str}{params:Arguments}{body:List Stmt}{scope:Scope}{pos:Pos}{fl:Nat}{c P:Addr}{fi:Fi}{Q:Value->Shared->Prop}(C:Ctx W fm n A)(I:InvS W fm α ps s)(hc:fm.env.code = .ref c)(hcd:CodeHd W.h₀ c P)(hP:fm.tab=[P])
  (hp:pos=W.H.tabPos) (hq:qual=W.H.tabQ) (hfree:∀ y∈scope.names,y.2≠.free) (hs:scope=fi.scope) (hb:body=fi.body) (hbm:∃ bm ob,W.H.mg "__builtins__" = some (.ref bm)/\bm≠builtinsNs/\W.h₀.get? bm=some ob/\ob.cls = .type "module"/\ob.dict=some builtinsNs/\ob.data = .plain)
  (h:∀ f doc ctv c' s',InvS W fm α ps s'->Rel fm.stk fm.tab α s.heap s'.heap->f∉fm.av->s.heap.get? f=none->HH s'.heap f (fnX name qual params body scope [] .none .none doc ((W.H.mg "__name__").getD .none) none (.ref c') ctv) fi->Q (.ref f) s') :
  wpAny W.m A (makeFunction name qual params (.stmts body) scope fm.env [] [] [] pos fl) Q E s:=by
 have hPm:P∈fm.tab:=by rw [hP];exact List.mem_singleton_self _
 have hcl:closureFor scope fm.env=pure []:=closureFor_none hfree
 have hg:s.heap.Ns mainGlobals W.H.mg:=C.hd.g.keeps I.inv.base
 have hcd':=hcd.keeps I.inv.base
 obtain ⟨bm,ob,b1,b2,b3,b4,b5,b6⟩:=hbm
 obtain ⟨ps0,eP,ht⟩:=I.inv.tabs P hPm
 have pav:=C.fm.tabAv P hPm
 have notP:∀ b o,W.h₀.get? b=some o->b≠P:=fun b o e q=>by rw [q,C.fm.fresh P pav] at e;cases e
 have hgP:mainGlobals≠P:=by
  obtain ⟨o,_,_,e,_⟩:=C.hd.g
  exact notP _ _ e
 have hbG:bm≠mainGlobals:=fun q=>by
  obtain ⟨o,es,ep,e,hd,_⟩:=C.hd.g
  rw [q,e] at b3;cases b3;rw [hd] at b6;cases b6
 rcases ht with rfl | ⟨k,oc,vs,t,rfl,k1,k2,k3,k4⟩
 ·rw [makeFunction_eq]
  simp only [List.zip_nil_right,List.filterMap_nil,List.isEmpty_nil,if_true,pure_bind]
  unfold makeTail
  rw [hcl,C.fm.glob,C.fm.bi]
  refine wpAny_bind (wpAny_pure ?_)
  simp only [List.isEmpty_nil,if_true]
  refine wpAny_bind (wpAny_pure ?_)
  refine wpAny_bind (wpAny_functionCodeX hc (hcd'.code eP trivial) (hcd'.tab eP) rfl fun c' h' tk hx hge hlt U hrec htb htc=>?_)
  have hg':=hg.extBut hx hgP
  refine wpAny_bind (wpAny_builtinsFor hg' b1 b2 (hx _ _ (notP _ _ b3) (I.inv.base _ _ b3)) b4 b5 b6 ?_)
  refine wpAny_bind (wpAny_nsGet hg' ?_)
  obtain ⟨P',hP',_,⟨⟨oc,vs,q1,q2,q3,q4⟩,_⟩⟩:=htc
  obtain ⟨y7,z7,S7,Y6,Y0,g1,g2,g3⟩:=hrec
  cases Y0
  rw [q1] at g1;cases g1
  rw [q3] at g2;cases g2
  have tb:∀ Q∈fm.tab,BR W.H h' Q:=fun Q hQ=>by
   rw [hP] at hQ
   rw [List.mem_singleton.mp hQ]
   exact ⟨_,htb.2,.inr ⟨c',_,_,Y6,by rw [<- hp];rfl,q1,q2,q3,by rw [<- hq];exact g3⟩⟩
  have fin:∀ (doc:Value) (tk:Nat),wpAny W.m A (newObj (.type "function") (.func (fnX name qual params body scope [] .none .none doc ((W.H.mg "__name__").getD .none) none (.ref c') .none))) Q E { s with heap:=h',toks:=tk }:=fun doc tk=>by
   obtain ⟨J,R⟩:=I.tabStep (tk:=tk) C.fm hPm hx (by rw [htb.2];rfl) tb
   have fr:=AR J (Av _)
   refine wpAny_newObj_type (h _ _ _ _ _ (Bl J _) (BE (s:={ s with heap:=h',toks:=tk }) R _) fr (R.live _ (Av _)) ⟨⟨_,Heap.get?_push_size _ rfl,rfl⟩,hs,by rw [<- hb],rfl,rfl,rfl,c',_,_,Y6,rfl,Heap.get?_push_of_some _ q1,q2,q3,g3⟩) (by size_fits)
  cases hdoc:docOf body with
  | none=>exact wpAny_bind (wpAny_pure (fin _ _))
  | some t=>exact wpAny_bind (wpAny_mkText (fin _ _))
 ·refine makeFunction_hit (mg:=W.H.mg) (cv:=.ref k) hcl C.fm.glob hg hc hcd' eP trivial (by rw [hp];simp [codeAmong,rawInt]) ⟨bm,ob,b1,b2,hbG,notP _ _ b3,I.inv.base _ _ b3,b4,b5,b6⟩ fun ctv doc h' tk hk hsz=>?_
  have J:InvS W fm α ps { s with heap:=h',toks:=tk }:=⟨I.inv.keeps hk,I.gens,I.os⟩
  have R:Rel fm.stk fm.tab α s.heap h':=.of_keeps hk
  exact h _ doc ctv k _ (Bl J _) (BE (s:={ s with heap:=h',toks:=tk }) R _) (AR J (Av _)) (R.live _ (Av _)) ⟨⟨_,Heap.get?_push_size _ rfl,rfl⟩,hs,by rw [<- hb],rfl,rfl,rfl,k,oc,vs,t,rfl,Heap.get?_push_of_some _ (hk _ _ k1),k2,k3,by rw [hq];exact k4⟩
end
end Mi
end
section
open PySem PySem.W PyProof.Rows
open PySem.Builtin PySem.Builtin.Str
set_option maxRecDepth 100000
namespace Mi
noncomputable def posns (c:Nat)(x:Txt)(hi:Nat):List Nat:=(List.range hi).filter fun i=>x[i]?==some c
noncomputable def Lg (l:List PV):Option (Nat × Int × Int):=un l fun p r=>(asS p).bind fun s=>(one s).bind fun c=>un r fun q r=>(asI q).bind fun a=>un r fun q r=>(asI q).bind fun b=>cond r.isEmpty (some (c,a,b)) none
private theorem Oe {l:List PV}{x:Nat × Int × Int}(h:Lg l=some x):l=[.str [x.1],.int x.2.1,.int x.2.2]:=by
 obtain ⟨p,r,rfl,h⟩:=DR h
 obtain ⟨s,es,h⟩:=Option.bind_eq_some_iff.mp h
 obtain ⟨c,ec,h⟩:=Option.bind_eq_some_iff.mp h
 obtain ⟨q,r,rfl,h⟩:=DR h
 obtain ⟨a,ea,h⟩:=Option.bind_eq_some_iff.mp h
 obtain ⟨q',r,rfl,h⟩:=DR h
 obtain ⟨b,eb,h⟩:=Option.bind_eq_some_iff.mp h
 obtain ⟨rfl,rfl⟩:=El h
 rw [AN es,DT ec,AE ea,AE eb]
noncomputable def FV (v:PV)(l:List PV):M PV:=M.get (asS v) fun x=>M.get (Lg l) fun q=>M.orStuck (q.2.1==0&&0<=q.2.2&&Ai q.2.2) (M.ret (.int (posns q.1 x (min q.2.2.toNat x.length)).length))
noncomputable def D4 (v:PV)(l:List PV):M PV:=M.get (asS v) fun x=>M.get (Lg l) fun q=>M.orStuck (q.2.1==0&&0<=q.2.2&&Ai q.2.2) (match (posns q.1 x (min q.2.2.toNat x.length)).getLast? with
  | some i=>M.ret (.int i)
  | none=>M.stuck)
private theorem HI (x:Txt)(c hi i:Nat)(hh:hi<=x.length):(i+(⟨#[c]⟩:Str).length<=hi/\subAt (txt x) ⟨#[c]⟩ i=true)↔i<hi/\x[i]? = some c:=by
 have e:(⟨#[c]⟩:Str).length=1:=rfl
 have:subAt (txt x) ⟨#[c]⟩ i=true↔x[i]? = some c:=by
  rw [StrLaws.subAt_eq]
  simp only [e,txt]
  exact StrLaws.take1_drop
 rw [this,e]
 constructor
 ·rintro ⟨h1,h2⟩;exact ⟨by exact Mi.la [_,_] [([2,3,0],[4])] ([2,3,0],[4]) rfl h1,h2⟩
 ·rintro ⟨h1,h2⟩;exact ⟨by exact Mi.la [_,_] [([2,3,0],[4])] ([2,3,0],[4]) rfl h1,h2⟩
private theorem Fg (x:Txt)(c hi limit:Nat)(hh:hi<=x.length):∀ (l:List Nat) (found:Array Nat) (free:Nat),(∀ i∈l,free<=i)->l.Pairwise (· < ·)->found.size+l.length<=limit ->
  (forIn l (found,free) (StrLaws.occBody (txt x) ⟨#[c]⟩ hi limit)).run.fst.toList=found.toList++l.filter fun i=>decide (i<hi)&&(x[i]?==some c)
 | [],found,free,_,_,_=>by simp
 | a::l,found,free,hf,hp,hl=>by
  have hp':=List.pairwise_cons.mp hp
  rw [List.forIn_cons]
  unfold StrLaws.occBody
  have hfa:=hf a List.mem_cons_self
  simp only [List.length_cons] at hl
  by_cases q:a<hi/\x[a]? = some c
  ·have q':=(HI x c hi a hh).mpr q
   rw [if_pos ⟨⟨⟨by show found.size<limit;exact Mi.la [_,_,_] [([2,4,3,0,0],[6])] ([2,3,0],[6]) rfl hl,hfa⟩,q'.1⟩,q'.2⟩]
   refine (Fg x c hi limit hh l (found.push a) (a+1) (fun i m=>hp'.1 i m) hp'.2 (by simp;exact Mi.la [_,_,_] [([2,4,3,0,0],[6])] ([2,3,0,4,0],[6]) rfl hl)).trans ?_
   rw [List.filter_cons,if_pos (by simp [q.1,q.2])]
   simp
  ·have q':¬ (((((found,free):Array Nat × Nat).fst.size<limit/\((found,free):Array Nat × Nat).snd<=a)/\a+(⟨#[c]⟩:Str).length<=hi)/\subAt (txt x) ⟨#[c]⟩ a=true):=fun z=>q ((HI x c hi a hh).mp ⟨z.1.2,z.2⟩)
   rw [if_neg q']
   refine (Fg x c hi limit hh l found free (fun i m=>hf i (List.mem_cons_of_mem _ m)) hp'.2 (by exact Mi.la [_,_,_] [([2,4,3,0,0],[6])] ([2,4,0],[6]) rfl hl)).trans ?_
   rw [List.filter_cons,if_neg (by simpa using fun h=>by simpa using fun z=>q ⟨h,z⟩)]
private theorem EA (c:Nat)(x:Txt)(hi:Nat):((List.range' 0 (hi+1 - 0)).filter fun i=>decide (i<hi)&&(x[i]?==some c))=posns c x hi:=by
 rw [Nat.sub_zero,<- List.range_eq_range',List.range_succ,List.filter_append]
 have e1:[hi].filter (fun i=>decide (i<hi)&&(x[i]?==some c))=[]:=by simp
 rw [e1,List.append_nil]
 unfold posns
 exact List.filter_congr fun i m=>by rw [List.mem_range] at m;simp [m]
private theorem FW (x:Txt)(c hi:Nat)(hh:hi<=x.length):∀ (l:List Nat) (st:Option Nat),(forIn l st (StrLaws.lastBody (txt x) ⟨#[c]⟩ hi)).run=match (l.filter fun i=>decide (i<hi)&&(x[i]?==some c)).getLast? with | some a=>some a | none=>st
 | [],st=>by simp
 | a::l,st=>by
  rw [List.forIn_cons]
  unfold StrLaws.lastBody
  by_cases q:a<hi/\x[a]? = some c
  ·rw [if_pos ((HI x c hi a hh).mpr q)]
   refine (FW x c hi hh l (some a)).trans ?_
   rw [List.filter_cons,if_pos (by simp [q.1,q.2]),List.getLast?_cons]
   cases (l.filter fun i=>decide (i<hi)&&(x[i]?==some c)).getLast? <;> rfl
  ·rw [if_neg fun z=>q ((HI x c hi a hh).mp z)]
   refine (FW x c hi hh l st).trans ?_
   rw [List.filter_cons,if_neg (by simpa using fun h=>by simpa using fun z=>q ⟨h,z⟩)]
private theorem HJ (x y:Str)(i j:Int)(t u v z:Tok):Gives («str.count» ⟨[.str x t,.str y u,.int i v,.int j z],[]⟩) (.int (occurrences x y (fromIndex x.length i) (min (fromIndex x.length j) x.length) (x.length+1)).length):=by
 show Gives (retInt (occurrences x y (fromIndex x.length i) (min (fromIndex x.length j) x.length) (x.length+1)).length) _
 exact .of_eq rfl
private theorem Gu (x y:Str)(i j:Int)(t u v z:Tok)(k:Nat)(h:lastOccurrence x y (fromIndex x.length i) (min (fromIndex x.length j) x.length)=some k):Gives («str.rindex» ⟨[.str x t,.str y u,.int i v,.int j z],[]⟩) (.int k):=by
 show Gives (match lastOccurrence x y (fromIndex x.length i) (min (fromIndex x.length j) x.length) with | some i=>retInt i | none=>(do rule "str.rindex.not-found";raiseError "ValueError" "substring not found")) _
 rw [h]
 exact .of_eq rfl
section
variable {W:Wd}{fm:Fm}{α α' α₁ z0 W0:List Addr}{h h' h₁ w1 Y1 start:Heap}{n:Nat}{A:Around}{ps ps':PS}{s s' c0 y0:Shared}{H:Hd}{h₀:Heap}{own:List Addr}{E:Value->Shared->Prop}
private theorem D5 {len:Nat}{b:Int}(h:0<=b):fromIndex len b=b.toNat:=by
 unfold fromIndex
 rw [if_neg (by lia)]
 congr 1;lia
private theorem FX {β:Type}{f:Nat × Int × Int->M β}{l:List PV}{vs:List Value}(r:RepL W.H W.h₀ fm.av α h l vs)(ns:M.get (Lg l) f ps≠.stuck):∃ c a b t u v,l=[.str [c],.int a,.int b]/\vs=[.str (txt [c]) t,.int a u,.int b v]:=by
 obtain ⟨⟨c,a,b⟩,e⟩:=AF ns
 obtain rfl:=Oe e
 obtain ⟨_,_,rfl,r1,s1⟩:=r.inv
 obtain ⟨_,_,rfl,r2,s2⟩:=s1.inv
 obtain ⟨_,_,rfl,r3,s3⟩:=s2.inv
 obtain ⟨_,rfl⟩:=r1.inv;obtain ⟨_,rfl⟩:=r2.inv;obtain ⟨_,rfl⟩:=r3.inv
 obtain rfl:_=[]:=s3.inv
 exact ⟨c,a,b,_,_,_,rfl,rfl⟩
private theorem J7:MethAt "str" "str.count" "count":=⟨PySem.F.plainAttrs_str,PySem.F.slot_str_count,PySem.F.type_str_count⟩
private theorem IM:MethAt "str" "str.rindex" "rindex":=⟨PySem.F.plainAttrs_str,PySem.F.slot_str_rindex,PySem.F.type_str_rindex⟩
private theorem Of:OpMeth W n fm Ba "str.count" FV:=.mk fun A α ps s p v l vs C I hK r rl ns=>by
 obtain ⟨x,rfl⟩:=DG hK
 obtain ⟨c,a,b,t,u,v,rfl,rfl⟩:=FX rl ns
 obtain ⟨t0,rfl⟩:=r.inv
 have ns':M.orStuck (a==0&&0<=b&&Ai b) (M.ret (PV.int (posns c x (min b.toNat x.length)).length)) ps≠.stuck:=ns
 obtain ⟨cc,e⟩:=Af ns'
 simp only [Bool.and_eq_true,decide_eq_true_eq,beq_iff_eq] at cc
 obtain ⟨⟨rfl,hb⟩,_⟩:=cc
 refine Aj.congr (m:=FV (.str x) [.str [c],.int 0,.int b]) e ?_
 have f0:fromIndex (txt x).length 0=0:=D5 (by lia)
 have key:occurrences (txt x) (txt [c]) (fromIndex (txt x).length 0) (min (fromIndex (txt x).length b) (txt x).length) ((txt x).length+1)=posns c x (min b.toNat x.length):=by
  rw [f0,D5 hb,Ao,StrLaws.occ_eq]
  have:=Fg x c (min b.toNat x.length) (x.length+1) (by exact Mi.la [_,_] [([2],[4])] ([2],[4]) rfl (Nat.min_le_right _ _)) (List.range' 0 (min b.toNat x.length+1 - 0)) #[] 0 (fun U U=>Nat.zero_le _) (List.pairwise_lt_range' ..) (by simp;exact Mi.la [_,_] [([2],[4])] ([2],[4]) rfl (Nat.min_le_right _ _))
  exact this.trans (by rw [EA];simp)
 have g:=HJ (txt x) (txt [c]) 0 b t0 t u v
 rw [key] at g
 exact call_gives F.slot_str_count (typeIs_str _ _ _) F.entry_str_count (F.args_str_count_4 _ _ _ _) g (OkE.same I (.int _ _))
private theorem Mf:OpMeth W n fm Ba "str.rindex" D4:=.mk fun A α ps s p v l vs C I hK r rl ns=>by
 obtain ⟨x,rfl⟩:=DG hK
 obtain ⟨c,a,b,t,u,v,rfl,rfl⟩:=FX rl ns
 obtain ⟨t0,rfl⟩:=r.inv
 have ns':M.orStuck (a==0&&0<=b&&Ai b) (match (posns c x (min b.toNat x.length)).getLast? with
  | some i=>M.ret (PV.int i)
  | none=>M.stuck) ps≠.stuck:=ns
 obtain ⟨cc,e⟩:=Af ns'
 rw [e] at ns'
 simp only [Bool.and_eq_true,decide_eq_true_eq,beq_iff_eq] at cc
 obtain ⟨⟨rfl,hb⟩,_⟩:=cc
 refine Aj.congr (m:=D4 (.str x) [.str [c],.int 0,.int b]) e ?_
 have f0:fromIndex (txt x).length 0=0:=D5 (by lia)
 have key:lastOccurrence (txt x) (txt [c]) (fromIndex (txt x).length 0) (min (fromIndex (txt x).length b) (txt x).length)=(posns c x (min b.toNat x.length)).getLast?:=by
  rw [f0,D5 hb,Ao,StrLaws.last_eq]
  have:=FW x c (min b.toNat x.length) (by exact Mi.la [_,_] [([2],[4])] ([2],[4]) rfl (Nat.min_le_right _ _)) (List.range' 0 (min b.toNat x.length+1 - 0)) none
  refine this.trans ?_
  rw [EA]
  cases (posns c x (min b.toNat x.length)).getLast? <;> rfl
 cases q:(posns c x (min b.toNat x.length)).getLast? with
 | none=>rw [q] at ns';exact absurd rfl ns'
 | some k=>
  simp only [q] at ns' ⊢
  exact call_gives F.slot_str_rindex (typeIs_str _ _ _) F.entry_str_rindex (F.args_str_rindex_4 _ _ _ _) (Gu (txt x) (txt [c]) 0 b t0 t u v k (key.trans q)) (OkE.same I (.int _ _))
end
end Mi
end
section
open PySem PySem.W PyProof.Rows
set_option maxRecDepth 100000
namespace Mi
noncomputable abbrev SimF.T (W:Wd)(n:Nat)(fm:Fm)(P:Heap->Prop)(e:Expr)(m:M PV):Prop:=∀ A α ps s,Ctx W fm n A->InvS W fm α ps s->P s.heap->m ps≠.stuck->Aj W fm A α ps s (eval e fm.env) m
structure SimF (W:Wd)(n:Nat)(fm:Fm)(P:Heap->Prop)(e:Expr)(m:M PV):Prop where
 go:SimF.T W n fm P e m
noncomputable instance {W:Wd} {n:Nat} {fm:Fm} {P:Heap->Prop} {e:Expr} {m:M PV}:CoeFun (SimF W n fm P e m) (fun U=>SimF.T W n fm P e m):=⟨SimF.go⟩
noncomputable def Og (W:Wd)(fm:Fm)(P:Heap->Prop):Prop:=∀ α ps s h',FmOk W.h₀ fm->InvS W fm α ps s->P s.heap->Rel fm.stk fm.tab α s.heap h'->P h'
inductive CrAt (fm:Fm)(x:Str)(fi:Fi)(f:Addr)(of:Obj)(fd:FuncData)(h:Heap):Prop
 | mk (m:Str->Option Value) (k1:h.Ns fm.env.locals m) (k2:m x=some (.ref f)) (k3:f∉fm.av) (k4:h.get? f=some of) (k5:of.data = .func fd) (k6:HH h f fd fi):CrAt fm x fi f of fd h
noncomputable def M.callX (m:M Txt)(l:List PV):M Txt:=fun s=>match m ⟨fun i=>l[i]?,s.st⟩ with
 | .ok t s'=>.ok t ⟨s.loc,s'.st⟩
 | .ex e s'=>.ex e ⟨s.loc,s'.st⟩
 | .stuck=>.stuck
noncomputable def QY (v:PV):M Txt:=match v with
 | .str t=>M.ret t
 | _=>M.stuck
noncomputable def EB (m2:M PFlow):M Txt:=
 M.bind (M.joinF [M.bind (M.getL 2) Dt,M.ret (.str (" (at ":Str).cps.toList),M.bind (M.bind (M.seq [M.getL 0,M.getL 1]) (M.call m2)) Dt,M.ret (.str (")":Str).cps.toList)] []) QY
section
variable {W:Wd}{fm:Fm}{α α' α₁ z0 W0:List Addr}{h h' h₁ w1 Y1 start:Heap}{n:Nat}{A:Around}{ps ps':PS}{s s' c0 y0:Shared}{H:Hd}{h₀:Heap}{own:List Addr}{E:Value->Shared->Prop}{P:Heap->Prop}
private theorem SimE.toF {e:Expr}{m:M PV}(h:SimE W n fm e m):SimF W n fm P e m:=.mk fun A α ps s C I U ns=>h A α ps s C I ns
private theorem CrAt.stay {x:Str}{fi:Fi}{f:Addr}{of:Obj}{fd:FuncData}:Og W fm (CrAt fm x fi f of fd):=fun α ps s h' F I q R=>by
 obtain ⟨m,⟨oL,es,ep,n1,n2,n3⟩,hm,fav,f1,f2,⟨_,g1,g2,g3,g4,g5,c,oc,vs,t,c1,c2,c3,c4,c5⟩⟩:=q
 have nL:fm.env.locals∉fm.tab:=fun m=>by
  obtain ⟨ps,e',_⟩:=I.inv.tabs _ m
  rw [n1] at e';cases e';cases n2
 have at_:∃ sl,h'.get? fm.env.locals=some { oL with slots:=sl }:=by
  by_cases q:fm.env.locals∈frs fm.stk
  ·exact R.slot _ _ n1 q nL fun z=>I.inv.lists.apart _ z F.locAv
  ·exact ⟨oL.slots,R.keep _ _ n1 q nL fun z=>I.inv.lists.apart _ z F.locAv⟩
 obtain ⟨sl,e1⟩:=at_
 have fk:h'.get? f=some of:=R.keep _ _ f1 (fun z=>fav (F.frsAv _ z)) (fun z=>fav (F.tabAv _ z)) fun z=>by
  obtain ⟨ws,o',e',_,k',d'⟩:=I.inv.lists.isList z
  rw [f1] at e';cases e';rw [f2] at d';cases d'
 have ck:h'.get? c=some oc:=R.keep _ _ c2 (fun z=>by
  obtain ⟨_,o',ho',nf⟩:=Heap.FunFrames.mem I.inv.frames z
  rw [c2] at ho';cases ho';exact nf vs c4) (fun z=>by
  obtain ⟨ps,e',_⟩:=I.inv.tabs _ z
  rw [c2] at e';cases e';cases c3) fun z=>by
  obtain ⟨ws,o',e',_,k',d'⟩:=I.inv.lists.isList z
  rw [c2] at e';cases e';rw [c4] at d';cases d'
 exact ⟨m,⟨_,es,ep,e1,n2,n3⟩,hm,fav,fk,f2,⟨⟨of,fk,f2⟩,g1,g2,g3,g4,g5,c,oc,vs,t,c1,ck,c3,c4,c5⟩⟩
set_option tactic.hygienic true in
private theorem Oh {v:Expr}{pos:Pos}{m:M PV}(hv:SimF W n fm P v m):SimF W n fm P (.FormattedValue v (-1) none pos) (M.bind m Dt):=.mk fun A α ps s C I hP ns=>by
 refine wpAny_FormattedValue_plain (Aj.seq (hv A α ps s C I hP (Ab ns)) (fun p v α₁ o0 c0 s0 d0 l0 S0 u0=>?_) fun x c0 q=>q.bind)
 rw [Aa u0] at ns ⊢
 cases p <;> (try exact absurd rfl ns)
 ·rename_i i
  obtain ⟨t,rfl⟩:=S0.inv
  have ns':M.orStuck (Ai i) (M.ret (PV.str (Bq i))) o0≠.stuck:=ns
  obtain ⟨c,e⟩:=Af ns'
  refine wpAny_mono (Q:=OkE W fm α₁ c0.heap (M.ret (PV.str (Bq i)) o0)) (E:=fun U U=>False) ?_ (fun U U q=>?_) fun U U z=>z.elim
  ·refine wpAny_formatField_int (GQ c) ?_
   have:=OkE.same (t:=c0.toks+1+1) s0 (RepV.str (H:=W.H) (h₀:=W.h₀) (av:=fm.av) (α:=α₁) (h:=c0.heap) (Bq i) (c0.toks+1))
   rw [Lb] at this
   exact this
  ·have eq:Dt (.int i) o0=M.ret (PV.str (Bq i)) o0:=e
   rw [eq];exact q.after d0 l0
 ·rename_i x
  obtain ⟨t,rfl⟩:=S0.inv
  have ns':M.str x o0≠.stuck:=ns
  obtain ⟨hl,e⟩:=FM ns'
  have eq:Dt (.str x) o0 = .ok (.str x) o0:=e
  rw [eq]
  exact wpAny_formatField_str ((OkE.same' s0 (.str x t)).after d0 l0) ((OkE.same (t:=c0.toks+1) s0 (.str x c0.toks)).after d0 l0) (by rw [Ao];exact hl)
set_option tactic.hygienic true in
private theorem Mg (st:Og W fm P){R0:R PV}(C:Ctx W fm n A):∀ {es:List Expr} {ms:List (M PV)},All2 (SimF W n fm P) es ms->∀ (acc:Txt) (α:List Addr) (ps:PS) (s:Shared),InvS W fm α ps s->P s.heap->Grow W0 α start->Rel fm.stk fm.tab W0 start s.heap->R0=M.joinF ms acc ps->R0≠.stuck ->
  Joins W.m A (ExE W fm W0 start R0) (evalEach es fm.env) (txt acc) (fun out c0=>out.length<=sizeLine/\OkE W fm W0 start R0 (.str out c0.toks) { c0 with toks:=c0.toks+1 }) s:=by
 intro _ _ hS
 induction hS with
 | nil=>
  intro acc α ps s I hP g x e ns
  have ns':M.str acc ps≠.stuck:=by rw [e] at ns;exact ns
  obtain ⟨hl,e'⟩:=FM ns'
  refine ⟨by rw [Ao];exact hl,.str acc,ps,α,e.trans e',I.tok _,g,x,.str acc _⟩
 | @cons v m es ms q qs ih=>
  intro acc α ps s I hP g x e ns
  have eq:R0=M.bind m (fun v=>match v with
   | .str t=>M.orStuck ((acc++t).length<=big) (M.joinF ms (acc++t))
   | _=>M.stuck) ps:=e
  show wpAny W.m A (eval v fm.env) _ _ s
  refine Aj.seq (q A α ps s C I hP (Ab (eq▸ns))) (fun p v α₁ o0 c0 s0 d0 l0 S0 u0=>?_) fun y c0 z=>by rw [eq];exact z.bind.after g x
  rw [Aa u0] at eq
  cases p <;> (try exact absurd eq ns)
  rename_i t
  obtain ⟨tk,rfl⟩:=S0.inv
  have eq:R0=M.orStuck ((acc++t).length<=big) (M.joinF ms (acc++t)) o0:=eq
  have ns':M.orStuck ((acc++t).length<=big) (M.joinF ms (acc++t)) o0≠.stuck:=fun z=>ns (eq.trans z)
  obtain ⟨c,e2⟩:=Af ns'
  rw [decide_eq_true_eq] at c
  refine ⟨txt t,tk,rfl,by rw [Dm,Ao,<- A4];exact c,?_⟩
  rw [Dm]
  exact ih (acc++t) α₁ o0 c0 s0 (st _ _ _ _ C.fm I hP l0) (g.trans d0 x) (x.trans l0 g.new) (eq.trans e2) ns
private theorem IN (st:Og W fm P){e1 e2:Expr}{es:List Expr}{ms:List (M PV)}{pos:Pos}(q:All2 (SimF W n fm P) (e1::e2::es) ms):SimF W n fm P (.JoinedStr (e1::e2::es) pos) (M.joinF ms []):=.mk fun A α ps s C I hP ns=>
 wpAny_JoinedStr (Mg st C q [] α ps s I hP (.refl ..) (.refl ..) rfl ns)
private theorem Sj {x:Str}{fi:Fi}{f:Addr}{of:Obj}{fd:FuncData}{np pos:Pos}{e0:Expr}{es:List Expr}{ms:List (M PV)}{m:M PFlow}(hk:fm.env.kindOf x=some .local)(hd:(x==("__debug__":Str))=false)(q:SimL W (n+1) fm (e0::es) ms)(ok:fi.Ok)
  (hlen:fi.params.length=ms.length) (hb:∀ s vs,vs.length=ms.length->BindsTo s fd ⟨vs,[]⟩ (fi.params.zip vs)) (body:∀ fm':Fm,fm'.sc=fi.sc->fm'.env.scope=fi.scope->fm'.hdl=fm.hdl->SimS W n fm' fi.body m) :
  SimF W (n+1) fm (CrAt fm x fi f of fd) (.Call (.Name x np) (e0::es) [] pos) (M.bind (M.seq ms) (M.call m)):=.mk fun A α ps s C I hP ns=>by
 have hP0:=hP
 obtain ⟨mL,hns,hm,fav,f1,f2,N⟩:=hP0
 unfold Aj
 rw [arm_eval_Call_Name']
 refine wpAny_bind (wpAny_Name (wpAny_loadName_local C.fm.kind hk hns hm ?_) hd)
 refine callWith_function_kw (fd:=fd) (o:=of) (AV (q.plain _) (wpAny_mono (Co q A α ps s C I (Ab ns)) (fun vs c0 z=>?_) fun x c0 z=>z.bind))
 obtain ⟨l,o0,α₁,u0,s0,d0,l0,S0⟩:=z
 rw [Aa u0] at ns ⊢
 obtain ⟨_,_,_,_,f1',_,u6⟩:=CrAt.stay (W:=W) (fm:=fm) α ps s c0.heap C.fm I hP l0
 refine ⟨⟨f1',f2⟩,?_⟩
 have len:vs.length=ms.length:=by rw [<- S0.length,D2 u0]
 exact wpAny_mono (Hx (l:=l) (vs:=vs) C s0 u6.fnAt ok (hb c0 vs len) (by rw [hlen,len]) S0 body ns) (fun U U q=>q.after d0 l0) (fun U U q=>q.after d0 l0)
private theorem NewExc.since {C e:Addr}{m:Txt}(X:NewExc C h₁ h e m)(l:∀ b,h₁.get? b=none->w1.get? b=none):NewExc C w1 h e m:=by
 obtain ⟨a,o,vs,T,tk,h1,h2,h3,h4,h5,h6,h7,h8⟩:=X
 exact ⟨l _ a,o,vs,T,tk,h1,h2,h3,h4,h5,h6,h7,l _ h8⟩
private theorem Oi {t:Txt}{tk:Tok}{Q:Value->Shared->Prop}(C:Ctx W fm n A)(I:InvS W fm α ps s)(h:∀ e s',InvS W fm α ps s'->Rel fm.stk fm.tab α s.heap s'.heap->NewExc W.H.toml s.heap s'.heap e t->Q (.ref e) s') :
  wpAny W.m A (call (.ref W.H.toml) [.str (txt t) tk]) Q E s:=by
 obtain ⟨nm,q,N,bs,hdct,sn,sub,ab,col,dd,k0,k1,k2,k3,k5,mN,hC,hN,hno⟩:=(C.hd.tomlC.keeps I.inv.base).at_
 have hni:mN "__init__" = none:=hno _ (by decide +kernel)
 obtain ⟨hp,g,d,tk',os⟩:=s
 refine wpAny_call_exc_subT (hrest:=by simp [sizeLine]) PySem.F.excBase_ValueError .base hC hN hni fun h' e X=>?_
 obtain ⟨T,hT,nT,hI⟩:=X.there
 refine h e _ ⟨I.inv.keeps X.keeps,I.gens,I.os⟩ (.of_keeps X.keeps) ⟨X.new,_,_,T,tk,hT,rfl,rfl,by simp,rfl,rfl,⟨_,hI,rfl,0,rfl⟩,nT⟩
private theorem Mj {pos:Pos}{args:List (Bool × Sem Value)}{Q:Value->Shared->Prop}(hplain:args.any (·.1)=false)
  (h:wpAny W.m A (evalArgs (.ref W.H.toml) true args []) (fun a c0=>a.kw=[]/\ClsAt W.H.toml c0.heap/\wpAny W.m A (call (.ref W.H.toml) a.pos) Q E c0) E s) :
  wpAny W.m A (callWith pos (.ref W.H.toml) [] args []) Q E s:=by
 refine wpAny_bind (wpAny_holding (wpAny_mono h (fun a c0 h₁=>wpAny_bind (wpAny_standAt ?_)) fun U U x=>x))
 obtain ⟨apos,akw⟩:=a
 obtain ⟨hkw,K,h₁⟩:=h₁
 obtain rfl:akw=[]:=hkw
 obtain ⟨nm,q,N,bs,hdct,sn,sub,ab,col,dd,k0,k1,k2,k3,k5,mN,hC,hN,hno⟩:=K.at_
 obtain ⟨hp,g,d,tk,os⟩:=c0
 rw [hplain]
 refine wpAny_bind (wpAny_keeperOf_exc hC ?_)
 exact wpAny_bind (wpAny_mono h₁ (fun r y0 hr=>wpAny_bind (wpAny_holding (wpAny_point (wpAny_pure hr)))) fun U U x=>x)
inductive OkX (W:Wd)(fm:Fm)(α:List Addr)(h:Heap)(r:R Txt)(f:Flow)(s':Shared):Prop
 | mk (a:Addr) (t:Txt) (ps':PS) (α':List Addr) (k1:f = .ret (.ref a)) (k2:r = .ok t ps') (k3:InvS W fm α' ps' s') (k4:Grow α α' h) (k5:Rel fm.stk fm.own α h s'.heap) (k6:NewExc W.H.toml h s'.heap a t):OkX W fm α h r f s'
noncomputable def EQ:List (Str × NameKind × Nat):=[(("src":Str),NameKind.local,0),(("pos":Str),NameKind.local,1),(("msg":Str),NameKind.local,2),(("TOMLDecodeError":Str),NameKind.globalImplicit,3)]
structure SufFm (W:Wd)(fm:Fm)(c P:Addr):Prop where
 sc:fm.sc=EQ
 kind:fm.env.kindOf "coord_repr" = some .local
 code:fm.env.code = .ref c
 head:CodeHd W.h₀ c P
 tab:fm.tab=[P]
 qual:fm.env.qual++("coord_repr":Str)=W.H.tabQ
set_option tactic.hygienic true in
private theorem IO {fi:Fi}{params:Arguments}{scope:Scope}{body:List Stmt}{c P:Addr}{m2:M PFlow}{dp p1 p2 p3 p4 p5 p6 p7 p8 p9 p10 p11 p12 p13:Pos}{k1 k2:Nat}(S:SufFm W fm c P)(hp:dp=W.H.tabPos)(hd0:params.defaults=[])(hk0:params.kw_defaults=[])(ha:∀ env,annTrees params none env=[])
  (hfree:∀ y∈scope.names,y.2≠.free) (hs:scope=fi.scope) (hb:body=fi.body) (hlen:fi.params.length=2) (hbd:∀ doc pm c' ctv s vs,vs.length=2->BindsTo s (fnX "coord_repr" W.H.tabQ params body scope [] .none .none doc pm none (.ref c') ctv) ⟨vs,[]⟩ (fi.params.zip vs))
  (ok:fi.Ok) (hbody:∀ fm':Fm,fm'.sc=fi.sc->fm'.env.scope=fi.scope->fm'.hdl=fm.hdl->SimS W n fm' fi.body m2) (C:Ctx W fm (n+1) A) (I:InvS W fm α ps s) (ns:EB m2 ps≠.stuck) :
  wpAny W.m A (execs [.FunctionDef "coord_repr" params body [] none [] scope none "coord_repr" dp,
   .Return (some (.Call (.Name "TOMLDecodeError" p1) [.JoinedStr [.FormattedValue (.Name "msg" p2) (-1) none p3,.Constant (.str " (at ") k1 p4,.FormattedValue (.Call (.Name "coord_repr" p5) [.Name "src" p6,.Name "pos" p7] [] p8) (-1) none p9,.Constant (.str ")") k2 p10] p11] [] p12)) p13] fm.env)
   (OkX W fm α s.heap (EB m2 ps)) (ExS W fm α s.heap (EB m2 ps)) s:=by
 have i0:(("src":Str),NameKind.local,0)∈fm.sc:=by rw [S.sc];simp [EQ]
 have i1:(("pos":Str),NameKind.local,1)∈fm.sc:=by rw [S.sc];simp [EQ]
 have i2:(("msg":Str),NameKind.local,2)∈fm.sc:=by rw [S.sc];simp [EQ]
 have i3:(("TOMLDecodeError":Str),NameKind.globalImplicit,3)∈fm.sc:=by rw [S.sc];simp [EQ]
 have hx:∀ k i,(("coord_repr":Str),k,i)∉fm.sc:=fun k i=>by
  rw [S.sc]
  intro q
  simp only [EQ,List.mem_cons,Prod.mk.injEq,List.not_mem_nil,or_false] at q
  rcases q with q | q | q | q <;> exact absurd q.1 (by decide +kernel)
 refine wpAny_execs_cons (nestDef_K hd0 hk0 (ha _) ?_)
 have eq:qualnameIn fm.env ("coord_repr":Str) ("coord_repr":Str)=W.H.tabQ:=by
  unfold qualnameIn
  rw [S.kind,if_neg (by decide)]
  exact S.qual
 rw [eq]
 refine E3 C I S.code S.head S.tab hp rfl hfree hs hb C.hd.bmain fun f doc ctv c' c0 J R fav fnew N=>?_
 obtain ⟨mL,hns,hloc⟩:=J.inv.loc
 refine wpAny_storeName_local S.kind hns (fun w1 w5 V5=>?_) (by simp [C.fm.kind])
 obtain ⟨T4,W3⟩:=FI (tk:=c0.toks+1) C.fm J hx hns w5 V5
 have fL:f≠fm.env.locals:=fun q=>fav (q▸C.fm.locAv)
 obtain ⟨⟨of,of1,of2⟩,N1,N2,N3,N4,N5,cc,oc,vs,t,N6,N7,N8,N9,N10⟩:=N
 have cL:cc≠fm.env.locals:=fun q=>by
  obtain ⟨o,_,_,e,d,_⟩:=hns
  rw [q,e] at N7;cases N7;rw [d] at N9;cases N9
 have cr:CrAt fm "coord_repr" fi f of (fnX "coord_repr" W.H.tabQ params body scope [] .none .none doc ((W.H.mg "__name__").getD .none) none (.ref c') ctv) w1:=⟨_,w5,by simp,fav,(V5.2 f fL).trans of1,of2,⟨⟨of,(V5.2 f fL).trans of1,of2⟩,N1,N2,N3,N4,N5,cc,oc,vs,t,N6,(V5.2 cc cL).trans N7,N8,N9,N10⟩⟩
 have R02:=(R.up).trans W3 fun a m q=>absurd m q
 have hcall:=Sj (fd:=(fnX "coord_repr" W.H.tabQ params body scope [] .none .none doc ((W.H.mg "__name__").getD .none) none (.ref c') ctv)) (W:=W) (n:=n) (np:=p5) (pos:=p8) (f:=f) (of:=of) S.kind (by decide +kernel) (.cons (Fb (pos:=p6) i0 (.inl rfl) (by decide +kernel) (by decide +kernel)) (fun U U=>rfl) (.cons (Fb (pos:=p7) i1 (.inl rfl) (by decide +kernel) (by decide +kernel)) (fun U U=>rfl) .nil)) ok hlen (hbd doc _ c' ctv) hbody
 have parts:All2 (SimF W (n+1) fm (CrAt fm "coord_repr" fi f of (fnX "coord_repr" W.H.tabQ params body scope [] .none .none doc ((W.H.mg "__name__").getD .none) none (.ref c') ctv))) [.FormattedValue (.Name "msg" p2) (-1) none p3,.Constant (.str " (at ") k1 p4,.FormattedValue (.Call (.Name "coord_repr" p5) [.Name "src" p6,.Name "pos" p7] [] p8) (-1) none p9,.Constant (.str ")") k2 p10]
   [M.bind (M.getL 2) Dt,M.ret (.str (" (at ":Str).cps.toList),M.bind (M.bind (M.seq [M.getL 0,M.getL 1]) (M.call m2)) Dt,M.ret (.str (")":Str).cps.toList)]:=
  .cons (HC (Fb i2 (.inl rfl) (by decide +kernel) (by decide +kernel))).toF (.cons E9.toF (.cons (Oh hcall) (.cons E9.toF .nil)))
 unfold EB at ns ⊢
 refine wpAny_execs_cons (wpAny_Return_some ?_)
 rw [arm_eval_Call_Name']
 refine wpAny_bind (GL (s:={ c0 with heap:=w1,toks:=c0.toks+1 }) C T4 i3 ?_)
 refine Mj rfl (AV rfl (Calls.spliced_cons ?_))
 have nsJ:=Ab ns
 have hj:=IN (pos:=p11) CrAt.stay parts
 have ex:∀ {β:Type} {r:Mi.R β} {x:Value} {V1:Shared},ExE W fm α w1 r x V1->ExS W fm α s.heap r x V1:=fun q=>ExS.after q.toS (.refl ..) R02
 refine Aj.seq (hj A α ps { c0 with heap:=w1,toks:=c0.toks+1 } C T4 cr nsJ) (fun p v α₁ o0 V1 U1 Z1 w2 t7 W2=>?_) fun x V1 q=>ex q.bind
 rw [Aa W2] at ns ⊢
 cases p <;> (try exact absurd rfl ns)
 rename_i t
 obtain ⟨tk,rfl⟩:=t7.inv
 refine Calls.spliced_nil ⟨rfl,C.hd.tomlC.keeps U1.inv.base,?_⟩
 have R3:=R02.trans w2.up fun a m q=>absurd m q
 have g3:Grow α α₁ s.heap:=⟨Z1.pre,fun a m q=>R02.live a (Z1.new a m q)⟩
 refine Oi C U1 fun e u4 W4 l6 X=>?_
 exact ⟨e,t,o0,α₁,rfl,rfl,W4,g3,R3.trans l6.up g3.new,X.since fun b q=>R3.live b q⟩
end
section
variable {W:Wd}{fm:Fm}{α α' α₁ z0 W0:List Addr}{h h' h₁ w1 Y1 start:Heap}{n:Nat}{A:Around}{ps ps':PS}{s s' c0 y0:Shared}{H:Hd}{h₀:Heap}{own:List Addr}{E:Value->Shared->Prop}{P:Heap->Prop}{fd:FuncData}{fi:Fi}{a:Addr}{vs:List Value}{l:List PV}
private theorem Oj {m:M Txt}{t:Txt}(h:m ⟨fun i=>l[i]?,ps.st⟩ = .ok t ps'):M.callX m l ps = .ok t ⟨ps.loc,ps'.st⟩:=by
 unfold M.callX;rw [h]
private theorem Ol {m:M Txt}{e:PX}(h:m ⟨fun i=>l[i]?,ps.st⟩ = .ex e ps'):M.callX m l ps = .ex e ⟨ps.loc,ps'.st⟩:=by
 unfold M.callX;rw [h]
private theorem Om {m:M Txt}(h:M.callX m l ps≠.stuck):m ⟨fun i=>l[i]?,ps.st⟩≠.stuck:=by
 intro e;unfold M.callX at h;rw [e] at h;exact h rfl
private theorem On {m:M Txt}{pos:List Value}{kw:List (Str × Value)}(C:Ctx W fm (n+1) A)(I:InvS W fm α ps s)(Fa:FnAt s.heap a fd fi)(ok:fi.Ok)(hb:BindsTo s fd ⟨pos,kw⟩ (fi.params.zip vs))(hl:fi.params.length=vs.length)
  (rl:RepL W.H W.h₀ fm.av α s.heap l vs) (body:∀ L A α ps s,Ctx W (AH fm fd fi L a) n A->InvS W (AH fm fd fi L a) α ps s->m ps≠.stuck->wpAny W.m A (execs fi.body (AH fm fd fi L a).env) (OkX W (AH fm fd fi L a) α s.heap (m ps)) (ExS W (AH fm fd fi L a) α s.heap (m ps)) s) (ns:M.callX m l ps≠.stuck) :
  wpAny W.m A (call (.ref a) pos kw) (fun v s'=>∃ e t ps' α',M.callX m l ps = .ok t ps'/\v = .ref e/\InvS W fm α' ps' s'/\Grow α α' s.heap/\Rel fm.stk fm.tab α s.heap s'.heap/\NewExc W.H.toml s.heap s'.heap e t) (ExE W fm α s.heap (M.callX m l ps)) s:=by
 obtain ⟨⟨o,ho,hd⟩,hscope,hbody,hclo,hglob,hbi,hcode⟩:=Fa
 have lim:s.heap.NoLimit:=C.hd.lim.keeps I.inv.base
 have hdep:=C.depth
 refine wpAny_call (codeAny_call_function (by show A.depth<1000;exact Mi.la [_,_] [([2,4,3,0,0,3,0],[1981])] ([2,3,0],[2001]) rfl hdep) ho hd (by rw [hscope];exact ok.co) (by rw [hscope];exact ok.gen) hbody hcode (hb _ _ _ _ ?_))
 rw [hscope,hglob,hclo,hbi]
 refine wpAny_newFunctionEnv_cells ok.kind (fun p hp=>?_) fun env he c0 X=>?_
 ·have hm:p.1∈fi.params:=(List.of_mem_zip (show (p.1,p.2)∈fi.params.zip vs from hp)).1
  rcases ok.parK p.1 hm with q | q
  ·exact .inl q
  ·exact .inr ⟨q,Bi _ _ _ (.inl q)⟩
 ·have he':env=A9 fd fi s.heap.objs.size a:=he
  subst he'
  refine ⟨lim.keeps X.toInCall.keep,codeAny_func ?_⟩
  have F':=GJ (fd:=fd) (a:=a) C.fm I ok X
  have I':=DF (fd:=fd) (a:=a) (ps:=ps) I ok hl rl X
  have C':Ctx W (AH fm fd fi s.heap.objs.size a) n (A.deeper (A9 fd fi s.heap.objs.size a)):=by
   refine ⟨Around.frames_deeper C.frames,?_,?_,C.hdl,C.tab,F',C.hd⟩
   ·show A.depth+1+n<990;exact Mi.la [_,_] [([2,4,3,0,0,3,0],[1981])] ([2,3,0,4,0,3,0],[1981]) rfl hdep
   ·have:=C.units
    show A.units+3+20*n+1000<cLine;lia
  have ns':=Om ns
  have up:∀ b,c0.heap.get? b=none->s.heap.get? b=none:=fun b q=>by
   cases z:s.heap.get? b with
   | none=>rfl
   | some o=>rw [X.toInCall.keep b o z] at q;cases q
  refine wpAny_mono (body s.heap.objs.size _ α _ c0 C' I' ns') (fun f s' z=>?_) fun x s' z=>?_
  ·obtain ⟨e,t,o0,α₁,rfl,u0,s0,d0,U2,u6⟩:=z
   obtain ⟨J,g,R⟩:=Cj C.fm I X s0 d0 U2
   exact ⟨e,t,_,α₁,Oj u0,rfl,J,g,R,u6.since up⟩
  ·obtain ⟨e,o0,α₁,u0,s0,d0,U2,u5⟩:=z
   have hs0:=I'.none
   unfold leaving
   refine wpAny_bind (Fc C' s0 U2 hs0 u5 fun w1 Z0 W3 v5=>B4 C' Z0 W3 hs0 v5 _ fun Y1 U1 v3 v4=>?_)
   obtain ⟨J,g,R⟩:=Cj C.fm I X U1 d0 v3
   exact ⟨e,_,α₁,Ol u0,J,g,R,v4.raised.start up⟩
private theorem Mk {x:Str}{i:Nat}{np pos:Pos}{es:List Expr}{ms:List (M PV)}{m:M Txt}(hm:(x,NameKind.globalImplicit,i)∈fm.sc)(hd:(x==("__debug__":Str))=false)(hv:W.H.mg x=some (.ref a))(q:SimL W (n+1) fm es ms)(Fa:FnAt W.h₀ a fd fi)(ok:fi.Ok)(hb:Du W fd fi ms.length [] [])
  (body:∀ L A α ps s,Ctx W (AH fm fd fi L a) n A->InvS W (AH fm fd fi L a) α ps s->m ps≠.stuck->wpAny W.m A (execs fi.body (AH fm fd fi L a).env) (OkX W (AH fm fd fi L a) α s.heap (m ps)) (ExS W (AH fm fd fi L a) α s.heap (m ps)) s) :
  SimXc W (n+1) fm (.Call (.Name x np) es [] pos) (M.bind (M.seq ms) (M.callX m)):=.mk fun A α ps s C I ns=>by
 rw [arm_eval_Call_Name']
 refine wpAny_bind (Fe C I hv hm hd ?_)
 obtain ⟨o,ho,hdt⟩:=Fa.obj
 refine callWith_function_kw (o:=o) (fd:=fd) (AV (q.plain _) (wpAny_mono (Co q A α ps s C I (Ab ns)) (fun vs c0 z=>?_) fun x c0 z=>z.bind))
 obtain ⟨l,o0,α₁,u0,s0,d0,l0,S0⟩:=z
 rw [Aa u0] at ns ⊢
 refine ⟨⟨s0.inv.base _ _ ho,hdt⟩,?_⟩
 have hlen:vs.length=ms.length:=by rw [<- S0.length,D2 u0]
 have b:=hb.2 c0 vs [] s0.inv.base hlen rfl
 rw [List.append_nil,List.append_nil] at b
 refine wpAny_mono (On (l:=l) (vs:=vs) C s0 (Fa.keeps s0.inv.base) ok b (by rw [hb.1,hlen];simp) S0 body ns) (fun v y0 z=>?_) (fun U U q=>q.after d0 l0)
 obtain ⟨e,t,X0,z0,Y0,rfl,Z0,U0,V0,X⟩:=z
 exact ⟨e,t,X0,z0,Y0,rfl,Z0,d0.trans U0 l0,l0.trans V0 d0.new,X.since l0.live⟩
end
noncomputable def fiB (fi:Fi):Bool:=
 decide (fi.scope.kind = .function)&&!fi.scope.isCoroutine&&!fi.scope.isGenerator &&
 fi.sc.all (fun e=>decide (fi.scope.names.lookup e.1=some e.2.1)&&decide (e.2.1≠.free)) &&
 fi.sc.all (fun e=>fi.sc.all fun o=>decide (e.2.2=o.2.2)==decide (e.1=o.1)) &&
 decide fi.params.Nodup &&
 fi.params.all (fun p=>decide (fi.scope.names.lookup p=some .local)||decide (fi.scope.names.lookup p=some .cell)) &&
 fi.sc.all (fun e=>!(decide (e.2.1 = .local)||decide (e.2.1 = .cell))||((List.range fi.params.length).all fun j=>decide (fi.params[j]? = some e.1)==decide (e.2.2=j)))
private theorem Fi.Ok.of {fi:Fi}(h:fiB fi=true):fi.Ok:=by
 unfold fiB at h
 simp only [Bool.and_eq_true,List.all_eq_true,decide_eq_true_eq,Bool.or_eq_true,Bool.not_eq_true',beq_iff_eq,List.mem_range] at h
 obtain ⟨⟨⟨⟨⟨⟨⟨h1,h2⟩,h3⟩,h4⟩,h5⟩,h6⟩,h7⟩,h8⟩:=h
 refine ⟨h1,h2,h3,fun x k i m=>(h4 _ m).1,fun x k i y k' j m m'=>decide_eq_decide.mp (h5 _ m _ m'),h6,h7,fun x k i m hk j=>?_,fun x k i m=>(h4 _ m).2⟩
 have:=(h8 _ m).resolve_left (by
  intro q
  rcases hk with rfl | rfl <;> simp at q)
 constructor
 ·intro e
  have lt:=(List.getElem?_eq_some_iff.mp e).1
  exact ⟨(decide_eq_decide.mp (this j lt)).mp e,lt⟩
 ·rintro ⟨e,lt⟩
  exact (decide_eq_decide.mp (this j lt)).mpr e
private theorem scm {fm:Fm}{sc:List (Str × NameKind × Nat)}(h:fm.sc=sc)(k:Nat){e:Str × NameKind × Nat}(q:sc[k]? = some e):e∈fm.sc:=h▸List.mem_of_getElem? q
noncomputable def EC (W:Wd)(x:Str)(fi:Fi)(np:Nat)(kws:List Str)(ext:List Value):Prop:=∃ a fd,W.H.mg x=some (.ref a)/\FnAt W.h₀ a fd fi/\Du W fd fi np kws ext
noncomputable def M.viaFn (T:Nat->Option (M PFlow × List PV))(ms:List (M PV)):PV->M PV
 | .fn k=>match T k with
  | some (m,ext)=>M.bind (M.seq ms) fun l=>M.call m (l++ext)
  | none=>M.stuck
 | _=>M.stuck
section
variable {W:Wd}{fm:Fm}{α α' α₁ z0 W0:List Addr}{h h' h₁ w1 Y1 start:Heap}{n k:Nat}{A:Around}{ps ps':PS}{s s' c0 y0:Shared}{fi:Fi}
private theorem Ctx.down (C:Ctx W fm k A)(h:n<=k):Ctx W fm n A:=⟨C.frames,by have:=C.depth;exact Mi.la [_,_,_] [([2],[4]),([6,4,0,3,0],[1981])] ([6,2,0,3,0],[1981]) rfl h this,by have:=C.units;lia,C.hdl,C.tab,C.fm,C.hd⟩
private theorem SimS.up {b:List Stmt}{m:M PFlow}(x:SimS W n fm b m)(h:n<=k):SimS W k fm b m:=.mk fun A α ps s C I ns=>x A α ps s (C.down h) I ns
private theorem J8 {e:Expr}:SimB W n fm e M.stuck:=.mk fun A α ps s C I ns=>absurd rfl ns
private theorem J9 {e:Stmt}:SimT W n fm e M.stuck:=.mk fun A α ps s C I ns=>absurd rfl ns
private theorem Ka {e:List Stmt}:SimS W n fm e M.stuck:=.mk fun A α ps s C I ns=>absurd rfl ns
private theorem Oo {x:Str}{k:Nat}{pos:Pos}{t:Txt}(h:x.cps.toList=t):SimE W n fm (.Constant (.str x) k pos) (M.ret (.str t)):=h▸E9
private theorem Kd {x:Str}{i:Nat}{np pos:Pos}{es:List Expr}{ms:List (M PV)}{m:M PFlow}(F:EC W x fi ms.length [] [])(ok:fi.Ok)(hm:(x,NameKind.globalImplicit,i)∈fm.sc)(hd:(x==("__debug__":Str))=false)(q:SimL W (n+1) fm es ms)
  (body:∀ fm':Fm,fm'.sc=fi.sc->fm'.env.scope=fi.scope->fm'.hdl=fm.hdl->SimS W n fm' fi.body m):SimE W (n+1) fm (.Call (.Name x np) es [] pos) (M.bind (M.seq ms) (M.call m)):=by
 obtain ⟨a,fd,hv,Fa,hb⟩:=F
 exact LZ hm hd hv q Fa ok hb body
private theorem Gv {x:Str}{i:Nat}{np pos:Pos}{e:Expr}{es:List Expr}{ks:List Keyword}{ms mks:List (M PV)}{m:M PFlow}(F:EC W x fi ms.length (CS ks) [])(ok:fi.Ok)(hm:(x,NameKind.globalImplicit,i)∈fm.sc)(hd:(x==("__debug__":Str))=false)(q:SimL W (n+1) fm (e::es) ms)(qk:SimKw W (n+1) fm ks mks)
  (body:∀ fm':Fm,fm'.sc=fi.sc->fm'.env.scope=fi.scope->fm'.hdl=fm.hdl->SimS W n fm' fi.body m) :
  SimE W (n+1) fm (.Call (.Name x np) (e::es) ks pos) (M.bind (M.seq ms) fun l=>M.bind (M.seq mks) fun lk=>M.call m (l++lk)):=by
 obtain ⟨a,fd,hv,Fa,hb⟩:=F
 exact Hy hm hd hv q qk Fa ok hb body
noncomputable def QZ (W:Wd)(fi fi2:Fi):Prop:=∃ a fd c,W.H.mg "suffixed_err" = some (.ref a)/\FnAt W.h₀ a fd fi/\Du W fd fi 3 [] []/\fd.code = .ref c/\CodeHd W.h₀ c W.H.tabP/\fd.qualname++(".<locals>.":Str)++("coord_repr":Str)=W.H.tabQ
private theorem IP {i:Nat}{fi2:Fi}{np pos:Pos}{es:List Expr}{m1 m2 m3:M PV}{params:Arguments}{mc:M PFlow}{dp p1 p2 p3 p4 p5 p6 p7 p8 p9 p10 p11 p12 p13:Pos}{k1 k2:Nat}(F:QZ W fi fi2)(ok:fi.Ok)(ok2:fi2.Ok)(hsc:fi.sc=EQ)(hcr:fi.scope.names.lookup (("coord_repr":Str))=some NameKind.local)
  (hbody:fi.body=[.FunctionDef "coord_repr" params fi2.body [] none [] fi2.scope none "coord_repr" dp,
   .Return (some (.Call (.Name "TOMLDecodeError" p1) [.JoinedStr [.FormattedValue (.Name "msg" p2) (-1) none p3,.Constant (.str " (at ") k1 p4,.FormattedValue (.Call (.Name "coord_repr" p5) [.Name "src" p6,.Name "pos" p7] [] p8) (-1) none p9,.Constant (.str ")") k2 p10] p11] [] p12)) p13])
  (hp:dp=W.H.tabPos) (hd0:params.defaults=[]) (hk0:params.kw_defaults=[]) (ha:∀ env,annTrees params none env=[]) (hfree:∀ y∈fi2.scope.names,y.2≠.free) (hlen:fi2.params.length=2)
  (hbd:∀ doc pm c' ctv q v w,bindArgs (fnX "coord_repr" q params fi2.body fi2.scope [] .none .none doc pm none (.ref c') ctv) ⟨[v,w],[]⟩=pure (fi2.params.zip [v,w])) (hm:(("suffixed_err":Str),NameKind.globalImplicit,i)∈fm.sc) (q:SimL W (n+2) fm es [m1,m2,m3])
  (body:∀ fm':Fm,fm'.sc=fi2.sc->fm'.env.scope=fi2.scope->fm'.hdl=fm.hdl->SimS W n fm' fi2.body mc) :
  SimXc W (n+2) fm (.Call (.Name "suffixed_err" np) es [] pos) (M.bind (M.seq [m1,m2,m3]) (M.callX (EB mc))):=by
 obtain ⟨a,fd,c,hv,Fa,hb,hc,hcd,hq⟩:=F
 refine Mk hm (by decide +kernel) hv q Fa ok hb fun L A α ps s C I ns=>?_
 rw [hbody]
 refine IO (c:=c) (P:=W.H.tabP) (fi:=fi2) ⟨hsc,hcr,hc,hcd,C.tab,hq⟩ hp hd0 hk0 ha hfree rfl rfl hlen (fun doc pm c' ctv s vs hl=>?_) ok2 body C I ns
 cases vs with
 | nil=>cases hl
 | cons v vs=>
  cases vs with
  | nil=>cases hl
  | cons w vs=>
   cases vs with
   | nil=>exact BindsTo.of_eq (hbd doc pm c' ctv _ v w)
   | cons=>cases hl
private theorem IQ {T:Nat->Option (M PFlow × List PV)}{ms:List (M PV)}:M.viaFn T ms (.fn k)=match T k with
  | some (m,ext)=>M.bind (M.seq ms) fun l=>M.call m (l++ext)
  | none=>M.stuck:=rfl
set_option tactic.hygienic true in
private theorem Ml {x:Str}{kd:NameKind}{i:Nat}{np pos:Pos}{es:List Expr}{ms:List (M PV)}{T:Nat->Option (M PFlow × List PV)}(hm:(x,kd,i)∈fm.sc)(hk:kd = .local\/kd = .cell\/kd = .free)(hc:(x==("__classdict__":Str))=false)(hd:(x==("__debug__":Str))=false)(q:SimL W (n+1) fm es ms)
  (hT:∀ k m ext,T k=some (m,ext)->∃ fd fi extv,FnAt W.h₀ (W.H.fnv k) fd fi/\fi.Ok/\Du W fd fi ms.length [] extv/\(∀ av α h,RepL W.H W.h₀ av α h ext extv)/\∀ fm':Fm,fm'.sc=fi.sc->fm'.env.scope=fi.scope->fm'.hdl=fm.hdl->SimS W n fm' fi.body m) :
  SimE W (n+1) fm (.Call (.Name x np) es [] pos) (M.bind (M.getL i) (M.viaFn T ms)):=.mk fun A α ps s C I ns=>by
 obtain ⟨p,e,e'⟩:=Hq (Ab ns)
 unfold Aj
 rw [Aa e'] at ns ⊢
 rw [arm_eval_Call_Name']
 refine wpAny_bind (wpAny_Name (Fv C I hm hk hc e fun v r=>?_) hd)
 cases p <;> first | exact absurd rfl ns | skip
 rename_i k
 cases q2:T k with
 | none=>
  have:M.viaFn T ms (.fn k) ps = .stuck:=by rw [IQ,q2];rfl
  exact absurd this ns
 | some mt=>
  obtain ⟨m,ext⟩:=mt
  have eq:M.viaFn T ms (.fn k)=M.bind (M.seq ms) fun l=>M.call m (l++ext):=by rw [IQ,q2]
  rw [eq] at ns ⊢
  obtain ⟨fd,fi,extv,Fa,ok,hb,hx,body⟩:=hT k m ext q2
  obtain rfl:_=_:=r.inv
  exact EO (pos:=pos) C I q Fa ok hb hx body ns
end
noncomputable def AW:Stmt->List Stmt
 | .FunctionDef _ _ b _ _ _ _ _ _ _=>b
 | _=>[]
noncomputable def A2:Stmt->Scope
 | .FunctionDef _ _ _ _ _ _ s _ _ _=>s
 | _=>default
noncomputable def FY:Stmt->Arguments
 | .FunctionDef _ a _ _ _ _ _ _ _ _=>a
 | _=>default
noncomputable def Lh:Stmt->Pos
 | .FunctionDef _ _ _ _ _ _ _ _ _ p=>p
 | _=>default
private theorem Rw {l:List (Str × NameKind × Nat)}{x:Str}{k:NameKind}{i:Nat}(h:l.all (fun e=>!decide (e.1=x))=true):(x,k,i)∉l:=fun m=>by
 have:=List.all_eq_true.mp h _ m
 simp at this
noncomputable def IR (e:Expr):Bool:=Nat.beq e.ctorIdx 22
noncomputable def Op (e:Expr):Bool:=Nat.ble 8 e.ctorIdx&&Nat.ble e.ctorIdx 10
noncomputable def Sk (e:Expr):Bool:=!(Nat.beq e.ctorIdx 0||(Nat.beq e.ctorIdx 3||(Nat.beq e.ctorIdx 5||Nat.beq e.ctorIdx 15)))
noncomputable def Oq (e:Expr):Bool:=Nat.beq e.ctorIdx 7
noncomputable def SR (e:Expr):Bool:=Nat.beq e.ctorIdx 25
private theorem Li {e:Expr}(h:IR e=false):∀ rest env,starEach (e::rest) env=(false,eval e env)::starEach rest env:=by
 intro rest env
 cases e <;> first | rfl | cases h
private theorem Rx {e:Expr}(h:IR e=false):∀ rest env,assignEach (e::rest) env=(false,assign e env)::assignEach rest env:=by
 intro rest env
 cases e <;> first | rfl | cases h
private theorem Qa {e:Expr}:∀ o i,∃ ops,subscripted e false o i=operate ops (getItem o i):=by
 intro o i
 cases e with
 | Slice a b c p=>cases c <;> exact ⟨_,rfl⟩
 | _=>exact ⟨_,rfl⟩
private theorem HK {v:Expr}{x:Option Expr}{l:Nat}(h:Op v=false):∀ env,swapsWith v x l env=pure false:=by
 intro env
 cases v <;> first | rfl | cases h
private theorem HL {t v:Expr}{l:Nat}(h:Op v=false):∀ env,swapsWithSole [t] v l env=pure false:=fun env=>HK h env
private theorem Lj {ts:List Expr}{k:Nat}{p:Pos}{v:Expr}(h:SR v=false):∀ env,swappedStores [.Tuple ts k p] v env=pure none:=by
 intro env
 cases v <;> first | rfl | cases h
private theorem CU {e:Expr}(h:Sk e=true):∀ env whole,isTrue e env whole=(do let v <- whole;standAt e.pos;holding [v] (truthy v)):=by
 intro env whole
 cases e <;> first | rfl | cases h
private theorem D6 {e:Expr}(h:Oq e=false):∀ env x,foldedSetIterable e env x=pure x:=by
 intro env x
 cases e <;> first | rfl | cases h
private theorem FZ {op:CmpOp}{e:Expr}(h:Oq e=false):behindInMarks op e=false:=by
 cases e <;> first | rfl | cases h
private theorem HM {o1 o2:CmpOp}{e1 e2:Expr}(h:Oq e2=false):lastMarks [o1,o2] [e1,e2]=false:=FZ h
private theorem Os:∀ env:Env,env.scope.kind = .function->interactive env=false:=fun env h=>by unfold interactive;rw [h];rfl
noncomputable def Ot (e:Expr):Bool:=!Nat.beq e.ctorIdx 16
private theorem Qb {o:Expr}{name:Str}(h:Ot o=true):∀ env,attributeBase o name env (eval o env)=eval o env:=by
 intro env
 cases o <;> first | rfl | cases h
section
variable {W:Wd}{fm:Fm}{α α' α₁ z0 W0:List Addr}{h h' h₁ w1 Y1 start:Heap}{n k:Nat}{A:Around}{ps ps':PS}{s s' c0 y0:Shared}{fi:Fi}
private theorem Mm (hh:fm.hdl=none):OpMeth W n fm Ba "str.index" (Ex false):=by
 have:=Ob (W:=W) (n:=n) (fm:=fm)
 rw [hh] at this
 exact this
private theorem HN {x:Str}{i:Nat}{pos:Pos}(hv:∃ a,W.H.mg x=some (.ref a)/\W.H.setv k=some a)(hm:(x,NameKind.globalImplicit,i)∈fm.sc)(hd:(x==("__debug__":Str))=false):SimE W n fm (.Name x pos) (M.ret (.fset k)):=by
 obtain ⟨a,h1,h2⟩:=hv
 exact Fw hm h1 (fun U U=>.fset k h2) hd
private theorem Lk {x:Str}{i:Nat}{pos:Pos}(hv:W.H.mg x=some (.ref (W.H.fnv k)))(hm:(x,NameKind.globalImplicit,i)∈fm.sc)(hd:(x==("__debug__":Str))=false):SimE W n fm (.Name x pos) (M.ret (.fn k)):=Fw hm hv (fun U U=>.fn k) hd
private theorem Qc {x:Str}{i:Nat}{pos:Pos}(hv:W.H.mg x=some (.ref W.H.mpv))(hm:(x,NameKind.globalImplicit,i)∈fm.sc)(hd:(x==("__debug__":Str))=false):SimE W n fm (.Name x pos) (M.ret .mp):=Fw hm hv (fun U U=>.mp) hd
end
noncomputable def F0 (e:Expr):Option PV:=match e with
 | .Constant c _ _=>match c with
  | .int i=>some (.int i)
  | .str x=>some (.str x.cps.toList)
  | _=>none
 | _=>none
noncomputable def Db:List Expr->Option (List PV)
 | []=>some []
 | e::es=>(F0 e).bind fun v=>(Db es).bind fun vs=>some (v::vs)
noncomputable def Q0:PV->Option Int
 | .int i=>some i
 | _=>none
noncomputable def Ry (e:Option Expr):Option Int:=(e.bind F0).bind Q0
noncomputable def ED:List (Option Expr)->Option (List Int)
 | []=>some []
 | e::es=>(Ry e).bind fun i=>(ED es).bind fun l=>some (i::l)
private theorem Kf {α β:Type}{o:Option α}{f:α->Option β}{b:β}{C:Prop}(h:o.bind f=some b)(k:∀ a,o=some a->f a=some b->C):C:=by
 cases o with
 | none=>cases h
 | some a=>exact k a rfl h
inductive ConstAt:Expr->PV->Prop
 | int {i:Int} {k:Nat} {p:Pos}:ConstAt (.Constant (.int i) k p) (.int i)
 | str {x:Str} {k:Nat} {p:Pos}:ConstAt (.Constant (.str x) k p) (.str x.cps.toList)
private theorem constOne_at {e:Expr}{v:PV}(h:F0 e=some v):ConstAt e v:=by
 cases e with
 | Constant c k p=>
  cases c with
  | int i=>cases h;exact .int
  | str x=>cases h;exact .str
  | _=>cases h
 | _=>cases h
private theorem intOf_is {v:PV}{i:Int}(h:Q0 v=some i):v = .int i:=by
 cases v with
 | int=>cases h;rfl
 | _=>cases h
section
variable {W:Wd}{fm:Fm}{n:Nat}
private theorem F1:∀ (l:List PV),M.seq (l.map M.ret)=M.ret l
 | []=>rfl
 | v::l=>by
  show M.bind (M.ret v) (fun v=>M.bind (M.seq (l.map M.ret)) fun vs=>M.ret (v::vs))=_
  rw [F1 l];rfl
private theorem ConstAt.sim {e:Expr}{v:PV}(c:ConstAt e v):SimE W n fm e (M.ret v):=by
 cases c with
 | int=>exact Ad
 | str=>exact E9
private theorem ConstAt.star {e:Expr}{v:PV}(c:ConstAt e v):IR e=false:=by
 cases c <;> rfl
private theorem HO {es:List Expr}:∀ {vs:List PV},Db es=some vs->SimL W n fm es (vs.map M.ret):=by
 induction es with
 | nil=>intro vs h;cases h;exact .nil
 | cons e es ih=>
  intro vs h
  refine Kf h fun v h1 h=>Kf h fun vs' h2 h=>?_
  cases h
  exact .cons (constOne_at h1).sim (Li (constOne_at h1).star) (ih h2)
private theorem Mn {es:List Expr}{vs:List PV}{pos:Pos}(h:Db es=some vs):SimE W n fm (.List es pos) (M.newLst vs):=by
 have:=CD (pos:=pos) (HO (W:=W) (n:=n) (fm:=fm) h)
 rw [F1] at this
 exact this
private theorem Gw {kes:List (Option Expr)}:∀ {ves:List Expr} {ks:List Int} {vs:List PV},ED kes=some ks->Db ves=some vs->kes.length=ves.length->SimD W n fm (intKind _ _) kes ves ks (vs.map M.ret):=by
 induction kes with
 | nil=>
  intro ves ks vs h1 h2 h3
  cases ves with
  | nil=>cases h1;cases h2;exact .nil
  | cons=>cases h3
 | cons ke kes ih=>
  intro ves ks vs h1 h2 h3
  cases ves with
  | nil=>cases h3
  | cons e es=>
   refine Kf h1 fun i q1 a1=>Kf a1 fun l q2 a2=>Kf h2 fun v p1 a3=>Kf a3 fun vs' p2 a4=>Kf q1 fun u u1 u2=>?_
   obtain ⟨e',rfl,e1⟩:=Option.bind_eq_some_iff.mp u1
   cases a2;cases a4
   cases intOf_is u2
   cases constOne_at e1
   exact .cons (fun U=>SP) (fun U=>(constOne_at p1).sim) (ih q2 p2 (Nat.succ.inj h3))
private theorem Mp {kes:List (Option Expr)}{ves:List Expr}{ks:List Int}{vs:List PV}{pos:Pos}(h1:ED kes=some ks)(h2:Db ves=some vs)(hl:kes.length=ves.length)(hn:ks.Nodup)(h0:kes≠[])(hlen:kes.length<=15) :
  SimE W n fm (.Dict kes ves pos) (HD .int ks vs):=by
 have:=L5 (pos:=pos) (Gw (W:=W) (n:=n) (fm:=fm) h1 h2 hl) hn h0 hlen
 rw [F1] at this
 exact this
end
end Mi
end
section
open PySem PySem.W PyProof.Rows
set_option maxRecDepth 10000
namespace Mi
section
variable {W:Wd}{fm:Fm}{n:Nat}{sc:List (Str × NameKind × Nat)}{x:Str}{k:NameKind}{i:Nat}{p pos np:Pos}{e l r:Expr}{es:List Expr}{m ml mr:M PV}{ms:List (M PV)}
noncomputable def ckL (k:NameKind):Bool:=decide (k = .local\/k = .cell)
noncomputable def ckV (x:Str)(k:NameKind):Bool:=decide (k = .local\/k = .cell\/k = .free)&&(!(x==("__classdict__":Str))&&!(x==("__debug__":Str)))
noncomputable def ckB (x:Str):Bool:=decide (x∈Bo)&&(decide (x≠("__name__":Str))&&!(x==("__debug__":Str)))
private theorem AY {a b:Bool}(h:(a&&b)=true):a=true/\b=true:=Bool.and_eq_true_iff.mp h
private theorem DI {a:Bool}(h:(!a)=true):a=false:=Bool.not_eq_true' a▸h
private theorem sv (h:fm.sc=sc)(j:Nat)(q:sc[j]? = some (x,k,i))(c:ckV x k=true:=by decide +kernel):SimE W n fm (.Name x pos) (M.getL i):=Fb (scm h j q) (of_decide_eq_true (AY c).1) (DI (AY (AY c).2).1) (DI (AY (AY c).2).2)
private theorem sl (h:IR e=false)(a:SimE W n fm e m)(b:SimL W n fm es ms):SimL W n fm (e::es) (m::ms):=.cons a (Li h) b
private theorem cb {id:String}{g:List PV->M PV}(h:fm.sc=sc)(j:Nat)(q:sc[j]? = some (x,.globalImplicit,i))(a:SimL W n fm es ms)(o:OpCall W n fm (.builtin id) g)(c:ckB x=true:=by decide +kernel)(h4:bootBuiltins x=some (.builtin id):=by kernel_rfl) :
  SimE W n fm (.Call (.Name x np) es [] pos) (M.bind (M.seq ms) g):=JJ (scm h j q) (of_decide_eq_true (AY c).1) (of_decide_eq_true (AY (AY c).2).1) (DI (AY (AY c).2).2) h4 a o
private theorem ct {T:String}{g:List PV->M PV}(h:fm.sc=sc)(j:Nat)(q:sc[j]? = some (x,.globalImplicit,i))(a:SimL W n fm es ms)(o:OpCall W n fm (.type T) g)(c:ckB x=true:=by decide +kernel)(h4:bootBuiltins x=some (.type T):=by kernel_rfl) :
  SimE W n fm (.Call (.Name x np) es [] pos) (M.bind (M.seq ms) g):=JK (scm h j q) (of_decide_eq_true (AY c).1) (of_decide_eq_true (AY (AY c).2).1) (DI (AY (AY c).2).2) h4 a o
private theorem sa {v:Expr}(h:fm.sc=sc)(j:Nat)(q:sc[j]? = some (x,k,i))(hs:(ckL k&&!Op v)=true)(a:SimE W n fm v m):SimT W n fm (.Assign [.Name x p] v pos) (M.bind m fun a=>M.bind (M.setL i a) fun U=>M.ret .next):=Iu (scm h j q) (of_decide_eq_true (AY hs).1) a (HK (DI (AY hs).2))
private theorem sg {op:Operator}{v:Expr}(h:fm.sc=sc)(j:Nat)(q:sc[j]? = some (x,k,i))(a:SimE W n fm v m)(c:(ckL k&&!(x==("__classdict__":Str)))=true:=by decide +kernel) :
  SimT W n fm (.AugAssign (.Name x p) op v pos) (M.bind (M.getL i) fun a=>M.bind m fun b=>M.bind (CO op a b) fun r=>M.bind (M.setL i r) fun U=>M.ret .next):=NN (scm h j q) (of_decide_eq_true (AY c).1) (DI (AY c).2) a
private theorem cm {op:CmpOp}(h:Oq r=false)(a:SimE W n fm l ml)(b:SimE W n fm r mr):SimB W n fm (.Compare l [op] [r] pos) (M.bind ml fun a=>M.bind mr fun b=>M.bind (AA op a b) tst):=Nx a b (FZ h)
private theorem ss {kk:Nat}{t:Txt}(h:x.cps.toList=t:=by kernel_rfl):SimE W n fm (.Constant (.str x) kk pos) (M.ret (.str t)):=Oo h
private theorem gn (h:fm.sc=sc)(j:Nat)(q:sc[j]? = some (x,k,i))(hk:ckL k=true):SimG W n fm (.Name x p) (M.setL i):=LV (scm h j q) (of_decide_eq_true hk)
private theorem gs {t:Expr}{f:PV->M Unit}{ts:List Expr}{fs:List (PV->M Unit)}(h:IR t=false)(a:SimG W n fm t f)(b:SimGs W n fm ts fs):SimGs W n fm (t::ts) (f::fs):=.cons a (Rx h) b
private theorem it {me mi:M PV}{ix:Expr}(hh:fm.hdl=none)(a:SimE W n fm e me)(b:SimE W n fm ix mi):SimE W n fm (.Subscript e ix pos) (M.bind me fun a=>M.bind mi fun b=>Ax false a b):=NF (by rw [hh];rfl) a b Qa
private theorem fc {fi:Fi}{a:Nat}{mm:M PFlow}(F:EC W x fi ms.length [] [])(ok:fi.Ok)(h:fm.sc=sc)(j:Nat)(q:sc[j]? = some (x,.globalImplicit,i))(A:SimL W (n+1) fm es ms)(hh:fm.hdl=none)(s:∀ {fm':Fm},fm'.sc=fi.sc->fm'.env.scope=fi.scope->fm'.hdl=none->SimS W a fm' fi.body mm)(c:(decide (a<=n)&&!(x==("__debug__":Str)))=true:=by decide +kernel) :
  SimE W (n+1) fm (.Call (.Name x np) es [] pos) (M.bind (M.seq ms) (M.call mm)):=Kd F ok (scm h j q) (DI (AY c).2) A fun fm' hs he hd=>(s hs he (hd.trans hh)).up (of_decide_eq_true (AY c).1)
end
section
variable {W:Wd}{fm:Fm}{n:Nat}{pos:Pos}{l r:Expr}{es:List Expr}{m ml mr:M PV}{ms:List (M PV)}
private theorem ce {op:CmpOp}(h:Oq r=false)(a:SimE W n fm l ml)(b:SimE W n fm r mr):SimE W n fm (.Compare l [op] [r] pos) (M.bind ml fun a=>M.bind mr fun b=>AA op a b):=PJ a b (FZ h)
private theorem me {o:Expr}{name:Str}{apos:Pos}{mo:M PV}{g:PV->List PV->M PV}{K:PV->Bool}{T id:String}(hb:Ot o=true)(hc:(decide (es.length<30)&&(apos.endLine==pos.line))=true)(ho:SimE W n fm o mo)(q:SimL W n fm es ms)(Ma:MethAt T id name)(KT:GT W fm K T)(op:OpMeth W n fm K id g) :
  SimE W n fm (.Call (.Attribute o name apos) es [] pos) (M.bind mo fun p=>M.orStuck (K p) (M.bind (M.seq ms) (g p))):=N0 ho q Ma KT op (Qb hb) (of_decide_eq_true (AY hc).1) (AY hc).2
end
end Mi
end
section
open PySem PySem.W PyProof.Rows
open PySem.Builtin PySem.Builtin.Str
set_option maxRecDepth 100000
namespace Mi
noncomputable def BZ (c:Nat):Txt->List Txt
 | []=>[[]]
 | a::x=>if a=c then []::BZ c x else match BZ c x with
  | y::r=>(a::y)::r
  | []=>[[a]]
noncomputable def HP (v:PV)(l:List PV):M PV:=M.get (asS v) fun x=>M.arg1 l fun p=>M.get (asS p) fun s=>M.get (one s) fun c=>M.orStuck (decide (c<256)&&decide (x.length<=big)) (M.newLst ((BZ c x).map .str))
noncomputable def asD:PV->Option (List PV × List PV)
 | .dct ks vs=>some (ks,vs)
 | _=>none
noncomputable def HQ (p:PV):Bool:=(asD p).isSome
noncomputable def as2 (l:List PV):Option (PV × PV):=un l fun p r=>un r fun q r=>cond r.isEmpty (some (p,q)) none
private theorem RA {l:List PV}{x:PV × PV}(h:as2 l=some x):l=[x.1,x.2]:=by
 obtain ⟨p,t,rfl,h⟩:=DR h
 obtain ⟨q,r,rfl,h⟩:=DR (show un t (fun q r=>cond r.isEmpty (some (p,q)) none)=some x from h)
 obtain ⟨rfl,rfl⟩:=El h
 rfl
noncomputable def Mq (v:PV)(l:List PV):M PV:=M.get (asD v) fun kv=>M.get (as2 l) fun x=>M.ofO ((CA kv.1 kv.2 x.1).map fun r=>r.getD x.2)
noncomputable def Bu (x:Txt)(from_:Nat):List Nat->List Txt
 | []=>[x.drop from_]
 | i::r=>((x.take i).drop from_)::Bu x (i+1) r
private theorem Kg (c a:Nat)(x:Txt):posns c (a::x) (x.length+1)=(if a=c then [0] else [])++(posns c x x.length).map (·+1):=by
 unfold posns
 rw [List.range_succ_eq_map,List.filter_cons]
 have:(List.map Nat.succ (List.range x.length)).filter (fun i=>(a::x)[i]?==some c)=((List.range x.length).filter fun i=>x[i]?==some c).map (·+1):=by
  rw [List.filter_map]
  rfl
 rw [this]
 by_cases q:a=c
 ·subst q;simp
 ·simp [q]
private theorem Dc (a:Nat)(x:Txt):∀ (l:List Nat) (k:Nat),Bu (a::x) (k+1) (l.map (·+1))=Bu x k l
 | [],k=>by simp [Bu]
 | i::l,k=>by
  rw [List.map_cons,Bu,Bu,Dc a x l (i+1)]
  simp
private theorem CV (c:Nat):∀ x:Txt,BZ c x=Bu x 0 (posns c x x.length)
 | []=>rfl
 | a::x=>by
  have ih:=CV c x
  rw [List.length_cons,Kg,BZ]
  by_cases q:a=c
  ·rw [if_pos q,if_pos q,ih]
   show _=Bu (a::x) 0 (0::(posns c x x.length).map (·+1))
   rw [Bu,Dc]
   rfl
  ·rw [if_neg q,if_neg q,List.nil_append,ih]
   cases hp:posns c x x.length with
   | nil=>simp [Bu]
   | cons i r=>
    rw [List.map_cons,Bu,Bu,Dc]
    simp
private theorem GW (x:Txt):∀ (l:List Nat) (k:Nat),(((k::l.map (·+1)).zip (l++[x.length])).map fun p=>strSub (txt x) p.1 p.2)=(Bu x k l).map txt
 | [],k=>by
  simp only [List.map_nil,List.nil_append,List.zip_cons_cons,List.zip_nil_left,List.map_cons,Bu]
  congr 1
  unfold strSub
  simp [txt]
  exact List.take_of_length_le (by simp)
 | i::l,k=>by
  rw [List.map_cons,List.cons_append,List.zip_cons_cons,List.map_cons,GW x l (i+1),Bu,List.map_cons]
  congr 1
  unfold strSub
  simp [txt]
  exact List.drop_take.symm
private theorem Mr (c:Nat)(x:Txt):occurrences (txt x) (txt [c]) 0 (txt x).length ((txt x).length+1)=posns c x x.length:=by
 rw [Ao,StrLaws.occ_eq]
 have:=Fg x c x.length (x.length+1) (Nat.le_refl _) (List.range' 0 (x.length+1 - 0)) #[] 0 (fun U U=>Nat.zero_le _) (List.pairwise_lt_range' ..) (by simp)
 exact this.trans (by rw [EA];simp)
set_option tactic.hygienic true in
private theorem GX {c:Nat}(hc:c<256)(x:Txt):Txt.split (txt x) (txt [c])=(BZ c x).map txt:=by
 unfold Txt.split
 rw [Mr,CV]
 have hp:partsBetween (txt x) (posns c x x.length) (txt [c]).length=(Bu x 0 (posns c x x.length)).map txt:=by
  unfold partsBetween
  have:=GW x (posns c x x.length) 0
  rw [<- this]
  rfl
 have h0:(posns c x x.length)=[]->[txt x]=(Bu x 0 (posns c x x.length)).map txt:=fun e=>by rw [e];rfl
 split
 ·rename_i q
  refine h0 ?_
  rw [Bool.or_eq_true,decide_eq_true_eq,decide_eq_true_eq] at q
  rcases q with q | q
  ·rw [Ao] at q
   have:x=[]:=List.eq_nil_of_length_eq_zero (by have:(txt [c]).length=1:=rfl;exact Nat.le_antisymm (Mi.la [_,_] [([2,3,0],[4]),([4],[3])] ([2],[1]) rfl q (Nat.le_of_eq this)) (Mi.la [_] [] ([1],[2]) rfl))
   subst this;rfl
  ·have k1:Builtin.Str.strKind (txt [c])=1:=by
    unfold Builtin.Str.strKind
    rw [if_pos (by simp [txt,hc])]
   have:1<=Builtin.Str.strKind (txt x):=by
    unfold Builtin.Str.strKind
    split
    ·exact Nat.le_refl _
    ·split <;> decide
   lia
 ·split
  ·rename_i q
   exact h0 (List.isEmpty_iff.mp q)
  ·exact hp
section
variable {prog:Program}{w:World}{A:Around}{E:Value->Shared->Prop}{s:Shared}{x y:Str}{t u:Tok}{Q:Value->Shared->Prop}
private theorem Ms (hy:(y.length==0)=false)(hsz:x.length<=sizeLine)(hsz2:(Txt.split x y).length<=sizeLine)
  (h:∀ l k,l.map (·.1)=Txt.split x y->Q (.ref s.heap.objs.size) { s with heap:=s.heap.push { cls:=.type "list",data:=.seq (strValues l).toArray },toks:=k }):wpAny (model prog w) A (call (.builtin "str.split") [.str x t,.str y u]) Q E s:=by
 by_cases h1:(decide (x.length<y.length)||decide (Builtin.Str.strKind x<Builtin.Str.strKind y))=true
 ·exact call_meets F.slot_str_split (typeIs_str _ _ _) F.entry_str_split (F.args_str_split_2 _ _) (meets_str_split_cannot_occur x y t u h1) (h [(x,t)] s.toks (by unfold Txt.split;rw [if_pos h1];rfl))
 ·have h1':=Bool.eq_false_iff.mpr h1
  by_cases hf:(occurrences x y 0 x.length (x.length+1)).isEmpty=true
  ·exact call_meets F.slot_str_split (typeIs_str _ _ _) F.entry_str_split (F.args_str_split_2 _ _) (meets_str_split_not_found x y t u h1' hy hf) (h [(x,t)] s.toks (by unfold Txt.split;rw [if_neg h1,if_pos hf];rfl))
  ·have hf':=Bool.eq_false_iff.mpr hf
   have e:Txt.split x y=partsBetween x (occurrences x y 0 x.length (x.length+1)) y.length:=by unfold Txt.split;rw [if_neg h1,if_neg hf]
   rw [e] at hsz2
   refine call_meets F.slot_str_split (typeIs_str _ _ _) F.entry_str_split (F.args_str_split_2 _ _) (meets_str_split_sep x y t u h1' hy hf' hsz hsz2) ?_
   have:=h (numbered s.toks (partsBetween x (occurrences x y 0 x.length (x.length+1)) y.length)) (s.toks+(partsBetween x (occurrences x y 0 x.length (x.length+1)) y.length).length) (by rw [numbered_texts,e])
   rw [<- strsFrom_eq] at this
   exact this
end
section
variable {W:Wd}{fm:Fm}{α:List Addr}{h:Heap}{n:Nat}{A:Around}{ps:PS}{s:Shared}
private theorem Ou:GT W fm HQ "dict":=fun n A α ps s p v C I hK r=>by
 cases p <;> first | exact Bool.noConfusion hK | skip
 cases r with
 | dct hna ho hx hd hk rk rv=>exact ⟨⟨_,ho,hx.1⟩,fun b eb=>by cases eb;exact ⟨_,ho,hx.2.1⟩⟩
private theorem Kh:MethAt "str" "str.split" "split":=⟨PySem.F.plainAttrs_str,PySem.F.slot_str_split,PySem.F.type_str_split⟩
private theorem Ov:MethAt "dict" "dict.get" "get":=⟨PySem.F.plainAttrs_dict,PySem.F.slot_dict_get,PySem.F.type_dict_get⟩
private theorem GY (x:Txt):∀ (l:List Nat) (k:Nat),(Bu x k l).length=l.length+1
 | [],k=>rfl
 | i::l,k=>by rw [Bu,List.length_cons,GY x l,List.length_cons]
private theorem ER {Key:Type}(P:Key->Value->Bool)(es:Array DictEntry)(k:Key):findBy P es k=(es.toList.find? fun e=>P k e.key).map (·.val):=by
 unfold findBy;obtain ⟨l⟩:=es;simp
private theorem Mt {ts:List Txt}{lt:List (Str × Tok)}(e:lt.map (·.1)=ts.map txt):RepL W.H W.h₀ fm.av α h (ts.map .str) (strValues lt):=by
 induction ts generalizing lt with
 | nil=>
  cases lt with
  | nil=>exact .nil
  | cons a l=>simp at e
 | cons t ts ih=>
  cases lt with
  | nil=>simp at e
  | cons a l=>
   simp only [List.map_cons,List.cons.injEq] at e
   obtain ⟨y,k⟩:=a
   have e1:y=txt t:=e.1
   subst e1
   exact .cons (.str _ _) (ih e.2)
private theorem Ow:OpMeth W n fm Ba "str.split" HP:=.mk fun A α ps s p v l vs C I hK r rl ns=>by
 obtain ⟨x,e⟩:=AF ns
 have e:=AN e
 subst e
 obtain ⟨p,rfl⟩:=DS (show M.arg1 l _ ps≠.stuck from ns)
 obtain ⟨y,e⟩:=AF (show M.get (asS p) _ ps≠.stuck from ns)
 have e:=AN e
 subst e
 obtain ⟨c,e⟩:=AF (show M.get (one y) _ ps≠.stuck from ns)
 have e:=DT e
 subst e
 obtain ⟨_,_,rfl,r1,rl⟩:=rl.inv
 cases rl
 cases r1
 cases r
 have ns':M.orStuck (decide (c<256)&&decide (x.length<=big)) (M.newLst ((BZ c x).map .str)) ps≠.stuck:=ns
 obtain ⟨cc,e⟩:=Af ns'
 simp only [Bool.and_eq_true,decide_eq_true_eq] at cc
 have ns2:M.newLst ((BZ c x).map .str) ps≠.stuck:=by rw [e] at ns';exact ns'
 have hb:=CB ns2
 refine Aj.congr (m:=HP (.str x) [.str [c]]) e ?_
 refine Ms rfl (by rw [Ao,<- A4];exact cc.2) (by rw [GX cc.1,List.length_map,<- A4];simpa using hb) fun lt k hlt=>?_
 rw [GX cc.1] at hlt
 exact OkE.newLst (a:=s.heap.objs.size) C I hb (Mt hlt) (fun b o e=>Heap.get?_push_of_some _ e) (Av _) ⟨_,Heap.get?_push_size _ rfl⟩
private theorem RB {p:PV}{kv:List PV × List PV}(h:asD p=some kv):p = .dct kv.1 kv.2:=by cases p <;> first | (injection h;done) | (injection h with h;rw [<- h])
private theorem RC:OpMeth W n fm HQ "dict.get" Mq:=.mk fun A α ps s p v l vs C I hK r rl ns=>by
 obtain ⟨⟨ks,dv⟩,e⟩:=AF ns
 have e:=RB e
 subst e
 obtain ⟨⟨x,d⟩,e⟩:=AF (show M.get (as2 l) _ ps≠.stuck from ns)
 have e:=RA e
 subst e
 obtain ⟨_,_,rfl,r1,rl⟩:=rl.inv
 obtain ⟨_,_,rfl,r2,rl⟩:=rl.inv
 cases rl
 have ns':M.ofO ((CA ks dv x).map fun r=>r.getD d) ps≠.stuck:=ns
 obtain ⟨z,ez,e⟩:=Cn ns'
 obtain ⟨rr,er,rfl⟩:=Option.map_eq_some_iff.mp ez
 refine Aj.congr (m:=Mq (.dct ks dv) [x,d]) e ?_
 obtain ⟨_,o,es,ep,rfl,hna,ho,hx,hd,hk,rk,rv⟩:=r.inv
 rcases hk with hk | hk
 ·obtain ⟨t,rfl⟩:=DD hk rk r1 er
  cases r1
  have hm:s.heap.MapOf (strKind W.H.prog W.H.w) _ (fun k=>findBy (strKind W.H.prog W.H.w).is _ k):=⟨_,_,_,ho,hx,hd,hk,fun U=>rfl⟩
  refine call_meetsIn F.slot_dict_get hm.typeIs F.entry_dict_get (F.args_dict_get_3 _ _ _) (meets_dict_get_default _ _ (strKind_is _ _ _ _) hna.2 _) ⟨_,hm,?_⟩
  have sp:=Ft hk rk rv (BJ er)
  rw [ER]
  cases rr with
  | none=>simp only at sp;rw [sp];exact OkE.same I r2
  | some z=>obtain ⟨e,e1,e2⟩:=sp;rw [e1];exact OkE.same I e2
 ·obtain ⟨t,rfl⟩:=C5 hk rk r1 er
  cases r1
  have hm:s.heap.MapOf (intKind W.H.prog W.H.w) _ (fun k=>findBy (intKind W.H.prog W.H.w).is _ k):=⟨_,_,_,ho,hx,hd,hk,fun U=>rfl⟩
  refine call_meetsIn F.slot_dict_get hm.typeIs F.entry_dict_get (F.args_dict_get_3 _ _ _) (meets_dict_get_default _ _ (intKind_is _ _ _ _) hna.2 _) ⟨_,hm,?_⟩
  have sp:=Fu hk rk rv (BJ er)
  rw [ER]
  cases rr with
  | none=>simp only at sp;rw [sp];exact OkE.same I r2
  | some z=>obtain ⟨e,e1,e2⟩:=sp;rw [e1];exact OkE.same I e2
end
end Mi
end
section
open PySem PySem.W PyProof.Rows
set_option maxRecDepth 100000
namespace Mi
section
variable {W:Wd}{fm:Fm}{n:Nat}{x:Str}{t:Txt}
private theorem Ki {e:Expr}{m:M PV}{pos:Pos}(q:SimEx W n fm x t e m)(hs:∀ rest env,starEach (e::rest) env=(false,eval e env)::starEach rest env):SimEx W n fm x t (.List [e] pos) (M.bind (M.seq [m]) M.newLst):=.mk fun A α ps s C I X ns=>by
 have ns':M.bind m (fun v=>M.bind (M.seq []) fun vs=>M.ret (v::vs)) ps≠.stuck:=Ab ns
 have go:wpAny W.m A (spliced (backTo pos (starEach [e] fm.env))) (OkL W fm α s.heap (M.seq [m] ps)) (ExE W fm α s.heap (M.seq [m] ps)) s:=by
  rw [hs]
  show wpAny W.m A (spliced ((false,eval e fm.env)::backTo pos (starEach [] fm.env))) (OkL W fm α s.heap (M.bind m (fun v=>M.bind (M.seq []) fun vs=>M.ret (v::vs)) ps)) (ExE W fm α s.heap (M.bind m (fun v=>M.bind (M.seq []) fun vs=>M.ret (v::vs)) ps)) s
  refine Calls.spliced_cons (Aj.seq (q A α ps s C I X (Ab ns')) (fun p v α₁ o0 c0 s0 d0 l0 S0 u0=>?_) fun x c0 q=>q.bind)
  rw [Aa u0]
  exact Calls.spliced_nil ⟨[p],o0,α₁,rfl,s0,d0,l0,.cons S0 .nil⟩
 refine wpAny_List_spliced (wpAny_mono go (fun vs c0 z=>?_) fun x c0 z=>z.bind)
 obtain ⟨l,o0,α₁,u0,s0,d0,l0,S0⟩:=z
 rw [Aa u0] at ns ⊢
 have hb:=CB ns
 refine ⟨by rw [<- A4,<- S0.length];exact hb,?_⟩
 exact (OkE.newLst C s0 hb S0 (fun U U e=>Heap.get?_push_of_some _ e) (Av _) ⟨0,Heap.get?_push_size _ rfl⟩).after d0 l0
variable {α:List Addr}{A:Around}{ps:PS}{s:Shared}
noncomputable def F2 (w3 U3:CmpOp)(a b:PV)(mc:M PV):M Bool:=
 M.bind (AA w3 a b) fun c=>M.bind (tst c) fun t=>if t then M.bind mc fun d=>M.bind (AA U3 b d) tst else M.ret false
private theorem Kj {l S0 V2:Expr}{w3 U3:CmpOp}{pos:Pos}{ml z5 S5:M PV}(hl:SimE W n fm l ml)(h1:SimE W n fm S0 z5)(h2:SimE W n fm V2 S5)(hm:lastMarks [w3,U3] [S0,V2]=false) :
  SimB W n fm (.Compare l [w3,U3] [S0,V2] pos) (M.bind ml fun a=>M.bind z5 fun b=>F2 w3 U3 a b S5):=.mk fun A α ps s C I ns=>by
 refine isTrue_chain (Aj.seq (hl A α ps s C I (Ab ns)) (fun a va α₁ o0 c0 s0 d0 l0 ra u0=>?_) fun x c0 q=>q.bind) hm
 rw [Aa u0] at ns ⊢
 refine test_link (Aj.seq (h1 A α₁ o0 c0 C s0 (Ab ns)) (fun b vb z0 X0 y0 Z0 U0 V0 rb Y0=>?_) fun x c0 q=>q.bind.after d0 l0)
 rw [Aa Y0] at ns ⊢
 unfold F2 at ns ⊢
 refine Aj.seq (En w3 A z0 X0 y0 a b va vb C Z0 (s0.stays C V0 U0 ra) rb (Ab ns)) (fun c vc V3 u3 V1 U1 Z1 w2 rc W2=>?_) fun x c0 q=>(q.bind.after U0 V0).after d0 l0
 rw [Aa W2] at ns ⊢
 obtain ⟨t,tb,et⟩:=Hr (Ab ns)
 rw [Aa et] at ns ⊢
 have hv:=CP rc tb
 subst hv
 refine wpAny_truthy_bool ?_
 cases t with
 | false=>
  simp only [Bool.false_eq_true,if_false]
  exact ⟨u3,V3,rfl,U1,(d0.trans U0 l0).trans Z1 (l0.trans V0 d0.new),(l0.trans V0 d0.new).trans w2 (d0.trans U0 l0).new⟩
 | true=>
  simp only [if_true] at ns ⊢
  refine test_last (Aj.seq (h2 A V3 u3 V1 C U1 (Ab ns)) (fun d vd V4 U4 u4 W4 Y3 Z3 rd o5=>?_) fun x c0 q=>((q.bind.after Z1 w2).after U0 V0).after d0 l0)
  rw [Aa o5] at ns ⊢
  have rb':=U1.stays C Z3 Y3 (Z0.stays C w2 Z1 rb)
  refine Aj.seq (En U3 A V4 U4 u4 b d vb vd C W4 rb' rd (Ab ns)) (fun c vc r6 W6 m6 y5 s6 u7 rc X4=>?_) fun x c0 q=>(((q.bind.after Y3 Z3).after Z1 w2).after U0 V0).after d0 l0
  rw [Aa X4] at ns ⊢
  exact wpAny_mono (Eo y5 rc ns) (fun U U q=>((((q.after s6 u7).after Y3 Z3).after Z1 w2).after U0 V0).after d0 l0) (fun U U q=>q)
end
noncomputable def F3 (v:PV)(l:List PV):M PV:=M.get (asS v) fun x=>M.orStuck (l.isEmpty&&(x.all (fun c=>decide (c<128))&&decide (x.length<=1000000))) (M.ret (.str (x.map lo1)))
noncomputable def IS (y x:Txt):Txt:=x.take (x.length - (x.reverse.takeWhile fun c=>y.contains c).length)
noncomputable def D7 (v:PV)(l:List PV):M PV:=M.get (asS v) fun x=>M.arg1 l fun p=>M.get (asS p) fun y=>M.orStuck (decide (x.length<=1000000)) (M.ret (.str (IS y x)))
section
variable {W:Wd}{fm:Fm}{n:Nat}
private theorem Kk:MethAt "str" "str.lower" "lower":=⟨PySem.F.plainAttrs_str,PySem.F.slot_str_lower,PySem.F.type_str_lower⟩
private theorem IT:MethAt "str" "str.rstrip" "rstrip":=⟨PySem.F.plainAttrs_str,PySem.F.slot_str_rstrip,PySem.F.type_str_rstrip⟩
private theorem GZ {x:Txt}(h:∀ c∈x,c<128):Txt.lower (txt x)=txt (x.map lo1):=by
 rw [lower_ascii (fun c m=>h c (by simpa [txt] using m))]
 simp [txt]
private theorem Qd (y x:Txt):Txt.rstripChars (txt x) (txt y)=txt (IS y x):=by
 unfold Txt.rstripChars
 rw [PyProof.Rows.stripBy_eq]
 unfold stripLo stripHi IS Builtin.Str.strSub
 have e:(fun c=>y.contains c)=y.toArray.contains:=by funext c;simp
 rw [e]
 simp [txt]
 show min (x.length - _) x.length=_
 exact Nat.min_eq_left (Nat.sub_le ..)
private theorem Ox:OpMeth W n fm Ba "str.lower" F3:=.mk fun A α ps s p v l vs C I hK r rl ns=>by
 obtain ⟨x,rfl⟩:=DG hK
 obtain ⟨t0,rfl⟩:=r.inv
 have ns':M.orStuck (l.isEmpty&&(x.all (fun c=>decide (c<128))&&decide (x.length<=1000000))) (M.ret (PV.str (x.map lo1))) ps≠.stuck:=ns
 obtain ⟨cc,e⟩:=Af ns'
 simp only [Bool.and_eq_true,decide_eq_true_eq,List.isEmpty_iff,List.all_eq_true] at cc
 obtain ⟨rfl,ha,hl⟩:=cc
 cases rl
 refine Aj.congr (m:=F3 (.str x) []) e ?_
 refine SC.lower (by rw [GZ ha,Ao,List.length_map];exact PyProof.Rows.short24 (Nat.le_trans hl (by decide))) ?_
 rw [GZ ha]
 exact ⟨_,ps,α,rfl,⟨I.inv,I.gens,I.os⟩,.refl ..,.refl ..,.str _ _⟩
private theorem Mu:OpMeth W n fm Ba "str.rstrip" D7:=.mk fun A α ps s p v l vs C I hK r rl ns=>by
 obtain ⟨x,rfl⟩:=DG hK
 obtain ⟨t0,rfl⟩:=r.inv
 obtain ⟨p,rfl⟩:=DS (show M.arg1 l _ ps≠.stuck from ns)
 obtain ⟨y,e⟩:=AF (show M.get (asS p) _ ps≠.stuck from ns)
 have e:=AN e
 subst e
 obtain ⟨_,_,rfl,r1,rl⟩:=rl.inv
 cases rl
 obtain ⟨u,rfl⟩:=r1.inv
 have ns':M.orStuck (decide (x.length<=1000000)) (M.ret (PV.str (IS y x))) ps≠.stuck:=ns
 obtain ⟨cc,e⟩:=Af ns'
 refine Aj.congr (m:=D7 (.str x) [.str y]) e ?_
 refine SC.rstripChars (fun t' k=>?_) (by rw [Ao,<- A4];exact Nat.le_trans (of_decide_eq_true cc) (by decide))
 rw [Qd]
 exact ⟨_,ps,α,rfl,⟨I.inv,I.gens,I.os⟩,.refl ..,.refl ..,.str _ _⟩
end
noncomputable def Dd:List PV->Option (List Int)
 | []=>some []
 | p::l=>(asI p).bind fun i=>(Dd l).map (i::·)
noncomputable def Oy (l:List PV):M PV:=M.arg1 l fun p=>M.get (asL p) fun i=>M.bind (M.getLst i) fun l=>M.bind (M.ofO (Dd l)) fun is=>M.orStuck (is.all (fun i=>decide (i.natAbs<=1099511627776))&&decide (is.length<=1000000)) (M.ret (.int is.sum))
section
variable {W:Wd}{fm:Fm}{n:Nat}{H:Hd}{h₀:Heap}{av α:List Addr}{h:Heap}
private theorem Qe:∀ {l:List PV} {vs:List Value} {is:List Int},Dd l=some is->RepL H h₀ av α h l vs->∃ xs:List (Int × Tok),vs=xs.map (fun p=>.int p.1 p.2)/\xs.map (·.1)=is:=by
 intro l
 induction l with
 | nil=>intro _ _ e r;cases r;cases e;exact ⟨[],rfl,rfl⟩
 | cons p l ih=>
  intro _ is e r
  obtain ⟨v0,vs0,rfl,r,rs⟩:=r.inv
  obtain ⟨x,ex,e0⟩:=Option.bind_eq_some_iff.mp (show (asI p).bind (fun x=>(Dd l).map (x::·))=some is from e)
  clear e
  obtain rfl:=AE ex
  obtain ⟨is',e1,rfl⟩:=Option.map_eq_some_iff.mp e0
  obtain ⟨xs,h1,h2⟩:=ih e1 rs
  obtain ⟨t,rfl⟩:=r.inv
  exact ⟨(x,t)::xs,by rw [h1];rfl,by rw [List.map_cons,h2]⟩
private theorem Mv {is:List Int}(h:∀ i∈is,i.natAbs<=1099511627776):is.sum.natAbs<=1099511627776*is.length:=by
 induction is with
 | nil=>decide
 | cons i is ih=>
  have h1:=h i (List.mem_cons_self ..)
  have h2:=ih fun j m=>h j (List.mem_cons_of_mem _ m)
  rw [List.sum_cons,List.length_cons]
  lia
private theorem Oz (hh:fm.hdl=none):OpCall W n fm (.builtin "sum") Oy:=.mk fun A α ps s l vs C I r0 ns=>by
 obtain ⟨p,rfl⟩:=DS ns
 obtain ⟨i,e⟩:=AF (show M.get (asL p) _ ps≠.stuck from ns)
 obtain rfl:=Fo e
 have ns':M.bind (M.getLst i) (fun l=>M.bind (M.ofO (Dd l)) fun is=>M.orStuck (is.all (fun i=>decide (i.natAbs<=1099511627776))&&decide (is.length<=1000000)) (M.ret (PV.int is.sum))) ps≠.stuck:=ns
 obtain ⟨l,e1,e2⟩:=AQ (Ab ns')
 rw [Aa e2] at ns'
 obtain ⟨is,e3,e4⟩:=Cn (Ab ns')
 rw [Aa e4] at ns'
 obtain ⟨c,e5⟩:=Af ns'
 simp only [Bool.and_eq_true,decide_eq_true_eq,List.all_eq_true] at c
 have e6:Oy [.lst i] ps = .ok (.int is.sum) ps:=(Aa e2).trans ((Aa e4).trans e5)
 obtain ⟨_,_,rfl,r1,r0⟩:=r0.inv
 cases r0
 obtain ⟨a,ws,rfl,hl,rw'⟩:=Cm I r1 e1
 obtain ⟨xs,q1,q2⟩:=Qe e3 rw'
 unfold Aj
 rw [e6]
 have hl':s.heap.IsList a (intItems xs.toArray):=by
  have:intItems xs.toArray=ws.toArray:=by rw [q1];simp [intItems]
  rw [this];exact hl
 have ps_:∀ j,preSum (numAt xs.toArray) j=(is.take j).sum:=fun j=>by rw [preSum_eq,List.toList_toArray,q2]
 have sub:∀ j,((is.take j).sum).natAbs<=1099511627776*1000000:=fun j=>Nat.le_trans (Mv fun i m=>c.1 i (List.mem_of_mem_take m)) (Nat.mul_le_mul_left _ (Nat.le_trans (by rw [List.length_take];exact Nat.min_le_right ..) c.2))
 have inl:∀ j,InLong (preSum (numAt xs.toArray) j):=fun j=>by
  rw [ps_]
  have:=sub j
  unfold InLong
  lia
 refine sum_intList (C.hdl.trans hh) hl' (fun j hj=>⟨?_,inl (j+1)⟩) fun h' tk t' k=>?_
 ·have h1:=inl (j+1)
  have h2:=sub j
  have h3:=sub (j+1)
  have e:preSum (numAt xs.toArray) (j+1)=preSum (numAt xs.toArray) j+numAt xs.toArray j:=rfl
  rw [ps_,ps_] at e
  unfold InLong
  lia
 ·have e:preSum (numAt xs.toArray) xs.toArray.size=is.sum:=by
   have l:xs.toArray.size=is.length:=by rw [<- q2];simp
   rw [ps_,l,List.take_length]
  rw [e]
  exact ⟨_,ps,α,rfl,⟨I.inv.keeps k,I.gens,I.os⟩,.refl ..,.of_keeps k,.int _ _⟩
end
end Mi
end
section
open PySem PySem.W PyProof.Rows
set_option maxRecDepth 10000
namespace Mi
section
variable {W:Wd}{fm:Fm}{α α' α₁ z0 W0:List Addr}{h h' h₁ w1 Y1 start:Heap}{n:Nat}{A:Around}{ps ps':PS}{s s' c0 y0:Shared}{H:Hd}{h₀:Heap}{own:List Addr}{C D:Addr}{st':List (List PV)}
private theorem Inv.carryMore (F:FmOk h₀ fm)(I:Inv H h₀ fm α ps h)(hC:h.get? C=Option.none)(R:Rel fm.stk fm.tab α h h')(K:Inv H h₀ fm α' ⟨ps.loc,st'⟩ h')(L':ListsAt H h₀ (fm.more C).av α' st' h')(g:Grow α α' h)(hs:(h'.get? C).isSome=true):Inv H h₀ (fm.more C) α' ⟨ps.loc,st'⟩ h':=by
 have st:∀ a∈(fm.more C).av,a∈fm.av\/h.get? a=Option.none:=fun a m=>by
  rcases List.mem_cons.mp m with q | q
  ·rw [q];exact .inr hC
  ·exact .inl q
 have nα:C∉α:=fun z=>by
  obtain ⟨ws,o,e,_⟩:=I.lists.isList z
  rw [hC] at e;cases e
 have L:ListsAt H h₀ (fm.more C).av α ps.st h:=⟨I.lists.len,fun i l e=>by
   obtain ⟨a,vs,h1,h2,h3⟩:=I.lists.at_ i l e
   exact ⟨a,vs,h1,h2,h3.strong st⟩,I.lists.nodup,I.lists.fresh,fun a m q=>by
   rcases List.mem_cons.mp q with q | q
   ·exact nα (q▸m)
   ·exact I.lists.apart a m q⟩
 have rep:∀ {p v},OptRep H h₀ fm.av α h p v->OptRep H h₀ (fm.more C).av α' h' p v:=fun r=>OptRep.stays L R g.pre (fun b m=>List.mem_cons_of_mem _ (F.frsAv b m)) (fun b m=>List.mem_cons_of_mem _ (F.tabAv b m)) (r.map fun r=>r.strong st)
 have at_:∀ b o,b∈fm.av->b∉fm.tab->h.get? b=some o->∃ sl,h'.get? b=some { o with slots:=sl }:=fun b o m nt e=>by
  by_cases q:b∈frs fm.stk
  ·exact R.slot b o e q nt fun z=>I.lists.apart b z m
  ·exact ⟨o.slots,R.keep b o e q nt fun z=>I.lists.apart b z m⟩
 have nt:∀ b o,h.get? b=some o->(∀ vs,o.data≠.fields vs)->b∉fm.tab:=fun b o e n m=>by
  obtain ⟨ps,e',_⟩:=I.tabs b m
  rw [e] at e';cases e';exact n ps rfl
 refine ⟨K.base,?_,?_,L',?_,K.frames,K.tabs⟩
 ·obtain ⟨m,⟨o,es,ep,h1,h2,h3⟩,k⟩:=I.loc
  obtain ⟨sl,e⟩:=at_ _ _ F.locAv (nt _ _ h1 fun vs q=>by rw [h2] at q;cases q) h1
  exact ⟨m,⟨_,es,ep,e,h2,h3⟩,fun x i hm=>rep (k x i hm)⟩
 ·intro x k i hm hk
  obtain ⟨cc,v,h1,h2,h3,⟨o,e1,e2⟩,h5⟩:=I.cel x k i hm hk
  obtain ⟨sl,e⟩:=at_ _ _ h2 (nt _ _ e1 fun vs q=>by rw [e2] at q;cases q) e1
  exact ⟨cc,v,h1,List.mem_cons_of_mem _ h2,h3,⟨_,e,e2⟩,rep h5⟩
 ·intro a ha
  rcases List.mem_cons.mp ha with q | q
  ·rw [q];exact hs
  ·exact K.live a q
private theorem IU {scope:Scope}{sc:List (Str × NameKind × Nat)}{acc:List PV}{vs:List Value}(F:FmOk W.h₀ fm)(I:InvS W fm α ps s)(hD:s.heap.get? D=Option.none)(hC:s.heap.get? C=Option.none)(hDC:D≠C)
  (J:InvS W (Am fm scope sc D C) α' ps' s') (g:Grow α α' s.heap) (R:Rel fm.stk fm.tab α s.heap s'.heap) (hl:s'.heap.PlainList D vs.toArray) (rl:RepL W.H W.h₀ (Am fm scope sc D C).av α' s'.heap acc vs) :
  InvS W (fm.more C) (α'++[D]) ⟨ps.loc,ps'.st++[acc]⟩ s'/\Grow α (α'++[D]) s.heap/\(α'++[D])[ps'.st.length]? = some D:=by
 obtain ⟨K,g',R',hiD⟩:=EP F I hD hC hDC J g R hl rl (.refl ..)
 have mC:C∈(Am fm scope sc D C).av:=List.mem_cons_of_mem _ (List.mem_cons_self ..)
 have wk:∀ a,a∈(fm.more C).av->a∈(Am fm scope sc D C).av:=fun a m=>List.mem_cons_of_mem _ m
 have stp:α' <+: α'++[D]:=List.prefix_append _ _
 have kk:∀ b o,s'.heap.get? b=some o->s'.heap.get? b=some o:=fun U U e=>e
 have lift:∀ {l:List PV} {ws:List Value},RepL W.H W.h₀ (Am fm scope sc D C).av α' s'.heap l ws->RepL W.H W.h₀ (fm.more C).av (α'++[D]) s'.heap l ws:=fun r=>RepL.keeps kk stp (RepL.weak wk r)
 refine ⟨⟨I.inv.carryMore F hC R K.inv ⟨K.inv.lists.len,fun i l e=>?_,K.inv.lists.nodup,K.inv.lists.fresh,fun a m q=>?_⟩ g' (J.inv.live C mC),J.gens,J.os⟩,g',hiD⟩
 ·by_cases hi:i<ps'.st.length
  ·rw [List.getElem?_append_left hi] at e
   obtain ⟨a,ws,q1,q2,q3⟩:=J.inv.lists.at_ i l e
   exact ⟨a,ws,by rw [List.getElem?_append_left (by rw [J.inv.lists.len];exact hi)];exact q1,q2,lift q3⟩
  ·have:i=ps'.st.length:=by
    have:=(List.getElem?_eq_some_iff.mp e).1
    simp at this;lia
   subst this
   rw [List.getElem?_append_right (Nat.le_refl _)] at e
   simp at e
   subst e
   exact ⟨D,vs,hiD,hl,lift rl⟩
 ·rcases List.mem_cons.mp q with q | q
  ·rcases List.mem_append.mp m with p | p
   ·exact J.inv.lists.apart a p (q▸mC)
   ·rw [List.mem_singleton.mp p] at q;exact hDC q
  ·exact K.inv.lists.apart a m q
private theorem InvS.shed (F:FmOk W.h₀ fm)(J:InvS W (fm.more C) α ps s)(hC0:W.h₀.get? C=Option.none)(nav:C∉fm.av)(nf:∀ o vs,s.heap.get? C=some o->o.data≠.fields vs)(nc:∀ v,¬ s.heap.IsCell C v)(S:Heap.SameBut C s.heap h'):InvS W fm α ps { s with heap:=h' }:=by
 have mC:C∈(fm.more C).av:=List.mem_cons_self ..
 have wk:∀ a,a∈fm.av->a∈(fm.more C).av:=fun a m=>List.mem_cons_of_mem _ m
 have hαC:∀ b∈α,b≠C:=fun b m q=>J.inv.lists.apart b m (q▸mC)
 have ne:∀ b∈fm.av,b≠C:=fun b m q=>nav (q▸m)
 have rep:∀ {p v},OptRep W.H W.h₀ (fm.more C).av α s.heap p v->OptRep W.H W.h₀ fm.av α h' p v:=fun r=>(OptRep.same (fm:=fm.more C) S mC hαC r).map fun r=>r.weak wk
 refine ⟨⟨fun b o e=>?_,?_,fun x k i hx hk=>?_,⟨J.inv.lists.len,fun i l e=>?_,J.inv.lists.nodup,J.inv.lists.fresh,fun a m q=>J.inv.lists.apart a m (wk a q)⟩,fun a m=>?_,?_,fun P hP=>(J.inv.tabs P hP).same S nf⟩,J.gens,J.os⟩
 ·have hb:b≠C:=fun q=>by rw [q,hC0] at e;cases e
  exact (S.2 b hb).trans (J.inv.base b o e)
 ·obtain ⟨m,n1,n2⟩:=J.inv.loc
  exact ⟨m,n1.sameBut S (ne _ F.locAv),fun x i hm=>rep (n2 x i hm)⟩
 ·obtain ⟨c,v,q1,q2,q3,q4,q5⟩:=J.inv.cel x k i hx hk
  have hc:c≠C:=fun z=>nc v (z▸q4)
  exact ⟨c,v,q1,(List.mem_cons.mp q2).resolve_left hc,q3,q4.sameBut S hc,rep q5⟩
 ·obtain ⟨a,vs,h1,⟨k,h2⟩,h3⟩:=J.inv.lists.at_ i l e
  exact ⟨a,vs,h1,⟨k,(S.2 a (hαC a (List.mem_of_getElem? h1))).trans h2⟩,RepL.weak wk (RepL.same (fm:=fm.more C) S mC hαC h3)⟩
 ·show (h'.get? a).isSome=true
  rw [S.2 a (ne a m)]
  exact J.inv.live a (wk a m)
 ·exact FunFrames.but S (fun b m=>ne b (F.frsAv b m)) J.inv.frames
end
section
variable {W:Wd}{fm:Fm}{n:Nat}
private theorem G0 {elt iter:Expr}{x:Str}{px pos:Pos}{ifs:List Expr}{scope:Scope}{sc:List (Str × NameKind × Nat)}{js:List Nat}{j:Nat}{mi:M (Nat->M (Option PV))}{mc:List (M Bool)}{me:M PV}(hh:fm.hdl=none)(ci:Ci fm.sc scope sc js)(hx:(x,NameKind.local,j)∈sc)
  (hi:SimI W n fm iter mi) (hc:∀ fm':Fm,fm'.sc=sc->fm'.hdl=none->All2 (SimB W n fm') ifs mc) (he:∀ fm':Fm,fm'.sc=sc->fm'.hdl=none->SimE W n fm' elt me) (hs:∀ env x,foldedSetIterable iter env x=pure x) (K:Nat) {A:Around} {α:List Addr} {ps:PS} {s:Shared} (Cx:Ctx W fm n A) (I0:InvS W fm α ps s) (ns:(M.bind mi fun get=>M.scope js (M.compN get j (AB .And mc) me K 0 [])) ps≠.stuck) {use:Option (Value->Sem Unit)} {Q E:Value->Shared->Prop}
  (hE:∀ x s',ExE W fm α s.heap ((M.bind mi fun get=>M.scope js (M.compN get j (AB .And mc) me K 0 [])) ps) x s'->E x s')
  (fin:∀ (β:List Addr) (ps':PS) (i:Nat) (D C:Addr) (s':Shared),(M.bind mi fun get=>M.scope js (M.compN get j (AB .And mc) me K 0 [])) ps = .ok (.lst i) ps'->s.heap.get? C=none->(∃ m,s'.heap.Ns C m)->InvS W (fm.more C) β ps' s'->Grow α β s.heap->Rel fm.stk fm.tab α s.heap s'.heap->β[i]? = some D->compPost W.m A E use Q (.ref D) C (.ok .next) s') {p0:Pos} :
  wpAny W.m A (comprehension (.ListComp elt [⟨.Name x px,iter,ifs,0⟩] scope pos) scope fm.env p0 (newList []) false (eval iter fm.env) use) Q E s:=by
 have hA:A.handled=none:=Cx.hdl.trans hh
 refine wpAny_comprehension_free (cl:=EW fm.env.cells scope.names []) rfl (hs _) (Dv (ci.cells I0)) ci.kind ci.names ?_
 refine wpAny_mono (hi A α ps s Cx I0 (Ab ns)) (fun xv c0 z=>wpAny_mono z (fun it y0 z=>?_) fun U U z=>hE _ _ z.bind) fun U U z=>hE _ _ z.bind
 obtain ⟨get,X0,z0,It,St,Y0,rfl,I,U0,V0,freshI,nav,itk,st⟩:=z
 rw [Aa Y0] at ns
 refine wpAny_newObj_type (wpAny_newFunctionEnv ci.noCell (by intro y hy;simp at hy) (fun h₁ Y4 w4=>?_) ci.kind)
 dsimp only at Y4 w4 ⊢
 generalize hH2:y0.heap.push { cls:=.type "list",dict:=none,data:=.seq ([]:List Value).toArray } = H2 at Y4 w4 ⊢
 have hC:H2.objs.size=y0.heap.objs.size+1:=by rw [<- hH2,Heap.size_push]
 have hDC:y0.heap.objs.size≠H2.objs.size:=by rw [hC];exact Nat.ne_of_lt (Nat.lt_succ_self _)
 have below:∀ b,b<y0.heap.objs.size->b≠H2.objs.size:=fun b hb=>by rw [hC];exact Nat.ne_of_lt (Nat.lt_succ_of_lt hb)
 have old:∀ b o,y0.heap.get? b=some o->h₁.get? b=some o:=fun b o e=>w4.extBut b o (below b (Heap.lt_size e)) (Heap.get?_push_of_some _ (hH2▸Heap.get?_push_of_some _ e))
 have hacc:h₁.PlainList y0.heap.objs.size ([]:List Value).toArray:=⟨0,w4.extBut _ _ hDC (Heap.get?_push_of_some _ (hH2▸Heap.get?_push_size _ rfl))⟩
 have nD:y0.heap.get? y0.heap.objs.size=none:=Av _
 have nC:y0.heap.get? H2.objs.size=none:=Heap.get?_none_of_le (by rw [hC];exact Nat.le_succ _)
 have hs0:=I.none
 have FC:FmOk W.h₀ (Am fm scope sc y0.heap.objs.size H2.objs.size):=GS ci Cx.fm I (hs0 _ nD) (hs0 _ nC)
 have CC:Ctx W (Am fm scope sc y0.heap.objs.size H2.objs.size) n A:=⟨Cx.frames,Cx.depth,Cx.units,Cx.hdl,Cx.tab,FC,Cx.hd⟩
 have I1:InvS W (Am fm scope sc y0.heap.objs.size H2.objs.size) z0 ⟨fun i=>if i∈js then none else X0.loc i,X0.st⟩ { y0 with heap:=h₁,toks:=y0.toks+([]:List (Str × Value)).length }:=
  FQ ci Cx.fm I nD nC old (by simpa using Y4) (by obtain ⟨o,e⟩:=hacc;rw [e];rfl)
 obtain ⟨rv,rs,eR,eS⟩:=IF ns
 obtain ⟨oI,vsI,eI,dI,cI⟩:=itk.flds _ _ st
 have ItD:It≠y0.heap.objs.size:=fun q=>by rw [q,nD] at eI;cases eI
 have ItC':It≠H2.objs.size:=fun q=>by rw [q,nC] at eI;cases eI
 have navC:It∉(Am fm scope sc y0.heap.objs.size H2.objs.size).av:=fun m=>by
  rcases List.mem_cons.mp m with q | q
  ·exact ItD q
  ·rcases List.mem_cons.mp q with q | q
   ·exact ItC' q
   ·exact nav q
 have mC:H2.objs.size∈(Am fm scope sc y0.heap.objs.size H2.objs.size).av:=List.mem_cons_of_mem _ (List.mem_cons_self ..)
 have mD:y0.heap.objs.size∈(Am fm scope sc y0.heap.objs.size H2.objs.size).av:=List.mem_cons_self ..
 have Dfr:y0.heap.objs.size∉frs fm.stk:=fun m=>AR I nD (Cx.fm.frsAv _ m)
 have Dtab:y0.heap.objs.size∉fm.tab:=fun m=>AR I nD (Cx.fm.tabAv _ m)
 -- the heap less the walker
 have T0:Turn0 fm.stk [It] y0.heap (cutH y0.heap [It]):=Turn0.one I.inv.frames ⟨oI,vsI,eI,dI,cI⟩ fun b o q e=>by rw [Hv (by simpa using q)];exact e
 have IB:InvS W fm z0 X0 { y0 with heap:=cutH y0.heap [It] }:=⟨I.inv.turn0 Cx.fm T0 (fun b m q=>absurd q (by rw [List.mem_singleton.mp m];exact nav)) (fun b m=>by rw [List.mem_singleton.mp m];exact I0.none _ freshI),I.gens,I.os⟩
 have cutI:(cutH y0.heap [It]).get? It=none:=JM (List.mem_singleton_self _)
 have cutN:∀ b,y0.heap.get? b=none->(cutH y0.heap [It]).get? b=none:=fun b e=>by
  cases q:(cutH y0.heap [It]).get? b with
  | none=>rfl
  | some o=>rw [Dn _ _ _ _ q] at e;cases e
 have xB:Rel fm.stk fm.tab α s.heap (cutH y0.heap [It]):=V0.turn0 T0 fun b m=>by rw [List.mem_singleton.mp m];exact freshI
 have stays:∀ b o,(cutH y0.heap [It]).get? b=some o->y0.heap.get? b=some o:=fun b o e=>Dn _ _ _ _ e
 generalize y0.heap.objs.size=D at *
 generalize H2.objs.size=C at *
 generalize cutH y0.heap [It]=B at *
 have loop:∀ V1:Shared,V1 = { y0 with heap:=h₁,toks:=y0.toks+([]:List (Str × Value)).length } ->
   codeAny W.m A (.compLoop (.ListComp elt [⟨.Name x px,iter,ifs,0⟩] scope pos) 0 (.ref It) (.ref D) (compEnvC scope (EW fm.env.cells scope.names []) C fm.env))
    (compPost W.m A E use Q (.ref D) C) V1:=by
  rintro V1 rfl
  have fin2:∀ (α':List Addr) (acc:List PV) (vs:List Value) (ps':PS) (s':Shared),M.newLst acc ps' = .ok rv rs->InvS W (Am fm scope sc D C) α' ps' s'->Grow z0 α' B->Rel fm.stk fm.tab z0 B s'.heap->s'.heap.PlainList D vs.toArray->RepL W.H W.h₀ (Am fm scope sc D C).av α' s'.heap acc vs->compPost W.m A E use Q (.ref D) C (.ok .next) s':=fun α' acc vs ps' s' eq J g R hl rl=>by
   unfold M.newLst at eq
   split at eq
   ·cases eq
    obtain ⟨mL,nL,_⟩:=J.inv.loc
    obtain ⟨K1,K2,K3⟩:=IU Cx.fm IB (cutN _ nD) (cutN _ nC) hDC J g R hl rl
    exact fin _ _ _ _ _ _ ((Aa Y0).trans eS) (xB.live C (cutN _ nC)) ⟨mL,nL⟩ K1 (U0.trans K2 xB) (xB.trans R U0.new) K3
   ·cases eq
  generalize compPost W.m A E use Q (.ref D) C=RR at fin2 ⊢
  obtain ⟨CI,mkI,elI⟩:∃ CI:Nat->Shared->Prop,(∀ k s,CompI W fm (Am fm scope sc D C) z0 B D St (fun k i acc ps=>M.compN get j (AB .And mc) me k i acc ps = .ok rv rs) k s->CI k s)/\(∀ k s,CI k s->CompI W fm (Am fm scope sc D C) z0 B D St (fun k i acc ps=>M.compN get j (AB .And mc) me k i acc ps = .ok rv rs) k s):=⟨_,fun U U h=>h,fun U U h=>h⟩
  refine codeAny_compLoop_tests CI ?_ K (mkI _ _
   ⟨0,_,z0,[],[],eR,I1,.refl ..,.of_keeps fun b o e=>old b o (stays b o e),hacc,.nil,itk.stay _ _ _ st fun o e=>old _ o e⟩)
  intro k s' hi
  generalize notedBy _ _ _ _=EE
  obtain ⟨i,ps',α',acc,vs,e',I',g',x',hl',rl',st'⟩:=elI _ _ hi
  clear hi elI
  cases k with
  | zero=>
   have e':M.compN get j (AB .And mc) me 0 i acc ps' = .ok rv rs:=e'
   cases e'
  | succ k=>
   have eq:M.bind (get i) (fun o=>match o with
    | none=>M.newLst acc
    | some p=>M.bind (M.setL j p) fun U=>M.bind (AB .And mc) fun c=>if c then M.bind me fun v=>M.orStuck (acc.length+1<=big) (M.compN get j (AB .And mc) me k (i+1) (acc++[v])) else M.compN get j (AB .And mc) me k (i+1) acc) ps' = .ok rv rs:=e'
   have nns:∀ {r:R PV},r = .ok rv rs->r≠.stuck:=fun e q=>by rw [q] at e;cases e
   have ItC:=itk.to (Am fm scope sc D C)
   have Dα:∀ {β ps s},InvS W (Am fm scope sc D C) β ps s->D∉β:=fun J m=>J.inv.lists.apart _ m mD
   refine ItC.next (Am fm scope sc D C) A α' ps' s' i _ _ hA g'.pre FC I' st' (Ab (nns eq)) fun o r h2 tk eo kk rr=>?_
   rw [Aa eo] at eq
   obtain ⟨oJ,vsJ,eJ,dJ,cJ⟩:=itk.flds _ _ st'
   have T1:Turn0 fm.stk [It] s'.heap h2:=Turn0.one I'.inv.frames ⟨oJ,vsJ,eJ,dJ,cJ⟩ kk
   have J:InvS W (Am fm scope sc D C) α' ps' { s' with heap:=h2,toks:=tk }:=ItC.turned FC I' st' navC (I0.none _ freshI) kk
   have x1:Rel fm.stk fm.tab z0 (B) h2:=x'.turn0 T1 fun b m=>by rw [List.mem_singleton.mp m];exact cutI
   have hl1:h2.PlainList D vs.toArray:=by
    obtain ⟨oD,e⟩:=hl'
    exact ⟨oD,kk _ _ (Ne.symm ItD) e⟩
   have rl1:RepL W.H W.h₀ (Am fm scope sc D C).av α' h2 acc vs:=RepL.turn (fm:=Am fm scope sc D C) T1 FC.frsAv rl'
   cases o with
   | none=>
    cases r with
    | some _=>exact rr.elim
    | none=>
    exact fin2 _ _ _ _ _ eq J g' x1 hl1 rl1
   | some p=>
    cases r with
    | none=>exact rr.elim
    | some v=>
    obtain ⟨rp,st2⟩:=rr
    have eq:M.bind (M.setL j p) (fun U=>M.bind (AB .And mc) fun c=>if c then M.bind me fun v=>M.orStuck (acc.length+1<=big) (M.compN get j (AB .And mc) me k (i+1) (acc++[v])) else M.compN get j (AB .And mc) me k (i+1) acc) ps' = .ok rv rs:=eq
    have eqs:M.setL j p ps' = .ok () { ps' with loc:=fun i=>if i=j then some p else ps'.loc i }:=rfl
    rw [Aa eqs] at eq
    refine wpAny_assign_Name (B6 CC J hx (.inl rfl) rp fun s3 J3 R3=>?_)
    have x3:Rel fm.stk fm.tab z0 (B) s3.heap:=x1.fresh R3 g'.new fun a m=>by
     rcases List.mem_append.mp m with m | m
     ·exact .inl m
     ·rw [List.mem_singleton.mp m];exact .inr (cutN _ nC)
    have hl3:=BK R3 hl1 Dfr (fun m=>by
     rcases List.mem_append.mp m with m | m
     ·exact Dtab m
     ·exact hDC (List.mem_singleton.mp m)) (Dα J)
    have rl3:=RepL.stays J.inv.lists R3 (List.prefix_refl _) FC.frsAv FC.ownAv rl1
    have st3:St (i+1) s3.heap:=ItC.kept FC J st2 navC (fun U q=>q) R3
    have bad:∀ {β:Type} {x:Value} {s} {r:R β},ExE W (Am fm scope sc D C) α' s3.heap r x s->(∀ e q,r≠.ex e q)->False:=fun q n=>by
     obtain ⟨e,ps,α,er,_⟩:=q
     exact n e ps er
    refine wpAny_mono (IE (hc _ rfl (Cx.hdl▸hA)) A α' _ s3 CC J3 (Ab (nns eq))) (fun c s4 z=>?_) fun y s4 z=>(bad z fun e q er=>by rw [Dl er] at eq;cases eq).elim
    obtain ⟨ps4,α4,e4,J4,g4,R4⟩:=z
    rw [Aa e4] at eq
    have x4:=x3.trans R4 g'.new
    have g4':=g'.trans g4 x3
    have hl4:=BK R4 hl3 Dfr Dtab (Dα J3)
    have rl4:=J3.staysL CC R4 g4 rl3
    have st4:St (i+1) s4.heap:=ItC.kept FC J3 st3 navC (fun U q=>List.mem_append_left _ q) R4
    cases c with
    | false=>
     simp only [Bool.false_eq_true,if_false] at eq ⊢
     exact ⟨k,Nat.lt_succ_self k,mkI _ _ ⟨i+1,ps4,α4,acc,vs,eq,J4,g4',x4,hl4,rl4,st4⟩⟩
    | true=>
     simp only [if_true] at eq ⊢
     have bad:∀ {β:Type} {x:Value} {s} {r:R β},ExE W (Am fm scope sc D C) α4 s4.heap r x s->(∀ e q,r≠.ex e q)->False:=fun q n=>by
      obtain ⟨e,ps,α,er,_⟩:=q
      exact n e ps er
     refine wpAny_mono (he _ rfl (Cx.hdl▸hA) A α4 ps4 s4 CC J4 (Ab (nns eq))) (fun y s5 z=>?_) fun y s5 z=>(bad z fun e q er=>by rw [Dl er] at eq;cases eq).elim
     obtain ⟨q,ps5,α5,e5,J5,g5,R5,rq⟩:=z
     rw [Aa e5] at eq
     have x5:=x4.trans R5 g4'.new
     have g5':=g4'.trans g5 x4
     have hl5:=BK R5 hl4 Dfr Dtab (Dα J4)
     have rl5:=J4.staysL CC R5 g5 rl4
     have st5:St (i+1) s5.heap:=ItC.kept FC J4 st4 navC (fun U q=>List.mem_append_left _ q) R5
     obtain ⟨hb,eb⟩:=Af (nns eq)
     rw [eb] at eq
     rw [decide_eq_true_eq] at hb
     refine wpAny_list_append_plain hl5 (fun h6 hl6 S6=>?_) (by rw [List.size_toArray,<- rl5.length,<- A4];lia)
     have hα5:∀ b∈α5,b≠D:=fun b m z=>Dα J5 (z▸m)
     obtain ⟨o6,eo6,_,k6,d6⟩:=hl6.isList
     have J6:InvS W (Am fm scope sc D C) α5 ps5 { s5 with heap:=h6 }:=J5.poke (tk:=s5.toks) FC mD hDC (fun v hv=>by
      obtain ⟨oc,e1,e2⟩:=hv
      obtain ⟨od,e3,_,kd,d3⟩:=hl5.isList
      rw [e3] at e1;cases e1;rw [d3] at e2;cases e2) (fun o vs e q=>by
      obtain ⟨od,e3,_,kd,d3⟩:=hl5.isList
      rw [e3] at e;cases e;rw [d3] at q;cases q) S6 eo6 (fun vs q=>by rw [d6] at q;cases q)
     have live6:(h6.get? D).isSome=true:=by rw [eo6];rfl
     have R6:Rel fm.stk [D] α5 s5.heap h6:=SameBut.rel S6 live6 (List.mem_singleton_self _) _ _
     have x6:Rel fm.stk fm.tab z0 (B) h6:=x5.fresh R6 g5'.new fun a m=>by rw [List.mem_singleton.mp m];exact .inr (cutN _ nD)
     refine ⟨k,Nat.lt_succ_self k,mkI _ _ ⟨i+1,ps5,α5,acc++[q],vs++[y],eq,J6,g5',x6,by simpa using hl6,?_,itk.stay _ _ _ st5 fun o e=>(S6.2 It ItD).trans e⟩⟩
     exact RepL.append (RepL.same S6 mD hα5 rl5) (.cons (RepV.same S6 mD hα5 rq) .nil)
 exact codeAny_compStart_list (loop _ rfl) (itk.self A _ 0 _ _ (itk.stay _ _ _ st fun o e=>old _ o e) (loop _ rfl))
structure SimU (W:Wd)(n:Nat)(fm:Fm)(e:Expr)(m:M PV):Prop where
 toE:SimE W n fm e m
 sw:∀ x p l env,∃ b,swapsWith e (some (.Name x p)) l env=pure b
 us:∀ A α ps s,Ctx W fm n A->InvS W fm α ps s->m ps≠.stuck->∀ {u:Value->Sem Unit} {Q:Unit->Shared->Prop} {E:Value->Shared->Prop},(∀ x s',ExE W fm α s.heap (m ps) x s'->E x s') ->
  (∀ (β:List Addr) (ps':PS) (i:Nat) (D C:Addr) (s':Shared),m ps = .ok (.lst i) ps'->s.heap.get? C=none->(∃ m,s'.heap.Ns C m)->InvS W (fm.more C) β ps' s'->Grow α β s.heap->Rel fm.stk fm.tab α s.heap s'.heap->β[i]? = some D ->
   wpAny W.m A (u (.ref D)) (fun U s''=>∃ m,s''.heap.Ns C m/\∀ h',Heap.SameBut C s''.heap h'->Q () { s'' with heap:=h' }) E s')->wpAny W.m A (evalThenUse e fm.env u) Q E s
variable {α β:List Addr}{A:Around}{ps ps':PS}{s s' s'':Shared}{h':Heap}{C D:Addr}
private theorem OA {ts vs:List Expr}{k k':Nat}{p p':Pos}(h:(ts.length==2||ts.length==3)=false):∀ env,swappedStores [.Tuple ts k p] (.Tuple vs k' p') env=pure none:=by
 intro env
 unfold swappedStores
 simp [h]
private theorem Qf (R:Rel fm.stk fm.own α s.heap s''.heap)(hC:s.heap.get? C=none)(S:Heap.SameBut C s''.heap h'):Rel fm.stk fm.own α s.heap h':=by
 have CH:∀ b o,s.heap.get? b=some o->b≠C:=fun b o e q=>by rw [q,hC] at e;cases e
 exact ⟨fun b o e m1 m2 m3=>(S.2 b (CH b o e)).trans (R.keep b o e m1 m2 m3),fun b o e m1 m2 m3=>by
  obtain ⟨sl,e'⟩:=R.slot b o e m1 m2 m3
  exact ⟨sl,(S.2 b (CH b o e)).trans e'⟩,fun b e=>by
  by_cases q:b=C
  ·rw [q];exact hC
  ·exact R.live b ((S.2 b q).symm.trans e)⟩
private theorem IV {m:Str->Option Value}(x:s.heap.Ns C m):(∀ o vs,s.heap.get? C=some o->o.data≠.fields vs)/\∀ v,¬ s.heap.IsCell C v:=by
 obtain ⟨o,es,ep,e,d,_⟩:=x
 refine ⟨fun o' vs e' q=>?_,fun v z=>?_⟩
 ·rw [e] at e';cases e';rw [d] at q;cases q
 ·obtain ⟨o',e',q⟩:=z
  rw [e] at e';cases e';rw [d] at q;cases q
private theorem G1 {elt iter:Expr}{x:Str}{px pos:Pos}{ifs:List Expr}{scope:Scope}{sc:List (Str × NameKind × Nat)}{js:List Nat}{j:Nat}{mi:M (Nat->M (Option PV))}{mc:List (M Bool)}{me:M PV}(hh:fm.hdl=none)(ci:Ci fm.sc scope sc js)(hx:(x,NameKind.local,j)∈sc)
  (hi:SimI W n fm iter mi) (hc:∀ fm':Fm,fm'.sc=sc->fm'.hdl=none->All2 (SimB W n fm') ifs mc) (he:∀ fm':Fm,fm'.sc=sc->fm'.hdl=none->SimE W n fm' elt me) (hs:∀ env x,foldedSetIterable iter env x=pure x) (K:Nat) :
  SimU W n fm (.ListComp elt [⟨.Name x px,iter,ifs,0⟩] scope pos) (M.bind mi fun get=>M.scope js (M.compN get j (AB .And mc) me K 0 [])) where
 toE:=.mk fun A α ps s Cx I0 ns=>by
  unfold Aj
  rw [eval_ListComp]
  refine G0 hh ci hx hi hc he hs K Cx I0 ns (fun U U z=>z) fun β ps' i D C s' e nC hm J g R hi=>?_
  obtain ⟨m,hm⟩:=hm
  obtain ⟨f1,f2⟩:=IV hm
  have nav:C∉fm.av:=AR I0 nC
  refine ⟨m,hm,fun h' S=>?_⟩
  refine ⟨.lst i,ps',β,e,J.shed Cx.fm (I0.none _ nC) nav f1 f2 S,g,?_,.lst hi⟩
  have CH:∀ b o,s.heap.get? b=some o->b≠C:=fun b o e q=>by rw [q,nC] at e;cases e
  exact ⟨fun b o e m1 m2 m3=>(S.2 b (CH b o e)).trans (R.keep b o e m1 m2 m3),fun b o e m1 m2 m3=>by
   obtain ⟨sl,e'⟩:=R.slot b o e m1 m2 m3
   exact ⟨sl,(S.2 b (CH b o e)).trans e'⟩,fun b e=>by
   by_cases q:b=C
   ·rw [q];exact nC
   ·exact R.live b ((S.2 b q).symm.trans e)⟩
 sw:=fun x p l env=>⟨_,rfl⟩
 us:=fun A α ps s Cx I0 ns {u Q E} hE fin=>by
  show wpAny W.m A (do let _ <- comprehension (.ListComp elt [⟨.Name x px,iter,ifs,0⟩] scope pos) scope fm.env iter.pos (newList []) false (eval iter fm.env) (some u)) Q E s
  refine wpAny_bind (wpAny_mono (G0 hh ci hx hi hc he hs K (Q:=fun U s'=>Q () s') Cx I0 ns hE fun β ps' i D C s' e nC hm J g R hi=>?_) (fun U U q=>wpAny_pure q) fun U U q=>q)
  exact fin β ps' i D C s' e nC hm J g R hi
private theorem D8 {y:Str}{k:NameKind}{i:Nat}{p pos:Pos}{v:Expr}{m:M PV}(hm:(y,k,i)∈fm.sc)(hk:k = .local\/k = .cell)(hv:SimU W n fm v m) :
  SimT W n fm (.Assign [.Name y p] v pos) (M.bind m fun a=>M.bind (M.setL i a) fun U=>M.ret .next):=.mk fun A α ps s Cx I ns=>by
 obtain ⟨b,hb⟩:=hv.sw y p pos.line fm.env
 cases b with
 | false=>
  refine wpAny_Assign_Name (Aj.seq (hv.toE A α ps s Cx I (Ab ns)) (fun a va α₁ o0 c0 s0 d0 l0 ra u0=>?_) fun x c0 q=>q.toS.bind) hb
  rw [Aa u0]
  refine B6 Cx s0 hm hk ra fun s' I' R'=>?_
  exact OkS.after ⟨.next,_,α₁,rfl,I',.refl ..,R',.next⟩ d0 l0.up
 | true=>
  rw [exec_Assign_Name_used _ _ _ _ hb]
  refine wpAny_bind (wpAny_standAt (wpAny_bind (hv.us A α ps s Cx I (Ab ns) (fun x s' q=>q.toS.bind) fun β ps' i' D C s' e nC hns J g R hi=>?_)))
  obtain ⟨mm,hns⟩:=hns
  have nav:C∉fm.av:=AR I nC
  refine wpAny_assign_Name (B6 (fm:=fm.more C) (Cx.more (I.none _ nC)) J hm hk (.lst hi) fun s'' I' R'=>?_)
  obtain ⟨oc,es,ep,n1,n2,n3⟩:=hns
  have kc:s''.heap.get? C=some oc:=R'.keep C oc n1 (fun z=>nav (Cx.fm.frsAv _ z)) (fun z=>nav (Cx.fm.ownAv _ z)) fun z=>J.inv.lists.apart C z (List.mem_cons_self ..)
  have hns':s''.heap.Ns C mm:=⟨oc,es,ep,kc,n2,n3⟩
  obtain ⟨f1,f2⟩:=IV hns'
  refine ⟨mm,hns',fun h' S=>wpAny_pure ?_⟩
  rw [Aa e]
  exact ⟨.next,_,β,rfl,I'.shed Cx.fm (I.none _ nC) nav f1 f2 S,g,Qf (R.up.trans R' g.new) nC S,.next⟩
end
end Mi
end
section
open PySem PySem.W PyProof.Rows
set_option maxRecDepth 100000
set_option maxHeartbeats 2000000
namespace Mi
open PySem.Challenge
noncomputable def nth (i:Nat):Stmt:=pw_kp0046_01.main.body.getD i (.Pass default)
noncomputable def BU:Fi:={ scope:=A2 (nth 25),body:=AW (nth 25),params:=["script"],sc:=[(("script":Str),.local,0),(("pieces":Str),.local,1),(("parts":Str),.local,2),(("x":Str),.local,3),(("n":Str),.local,4),(("going":Str),.local,5),(("c":Str),.local,6),(("chr":Str),.globalImplicit,7),(("abs":Str),.globalImplicit,8),(("len":Str),.globalImplicit,9)] }
private theorem IW:BU.Ok:=.of (by decide +kernel)
noncomputable def Gx:Fi:={ scope:=A2 (nth 16),body:=AW (nth 16),params:=["src", "pos", "chars"],sc:=[(("src":Str),.local,0),(("pos":Str),.local,1),(("chars":Str),.local,2),(("IndexError":Str),.globalImplicit,3)] }
noncomputable def Ay:Fi:={ scope:=A2 (nth 23),body:=AW (nth 23),params:=["codepoint"],sc:=[(("codepoint":Str),.local,0)] }
private theorem B8:Ay.Ok:=.of (by decide +kernel)
noncomputable def A5:Fi:={ scope:=A2 (nth 20),body:=AW (nth 20),params:=["src", "pos", "hex_len"],sc:=[(("src":Str),.local,0),(("pos":Str),.local,1),(("hex_len":Str),.local,2),(("hex_str":Str),.local,3),(("hex_int":Str),.local,4),(("len":Str),.globalImplicit,5),(("HEXDIGIT_CHARS":Str),.globalImplicit,6),(("suffixed_err":Str),.globalImplicit,7),(("int":Str),.globalImplicit,8),(("is_unicode_scalar_value":Str),.globalImplicit,9),(("chr":Str),.globalImplicit,10)] }
private theorem Ck:A5.Ok:=.of (by decide +kernel)
noncomputable def Ar:Fi:={ scope:=A2 (nth 18),body:=AW (nth 18),params:=["src", "pos", "multiline"],sc:=[(("src":Str),.local,0),(("pos":Str),.local,1),(("multiline":Str),.local,2),(("escape_id":Str),.local,3),(("char":Str),.local,4),(("skip_chars":Str),.globalImplicit,5),(("TOML_WS":Str),.globalImplicit,6),(("IndexError":Str),.globalImplicit,7),(("suffixed_err":Str),.globalImplicit,8),(("TOML_WS_AND_NEWLINE":Str),.globalImplicit,9),(("parse_hex_char":Str),.globalImplicit,10),(("BASIC_STR_ESCAPE_REPLACEMENTS":Str),.globalImplicit,11),(("KeyError":Str),.globalImplicit,12)] }
private theorem Cd:Ar.Ok:=.of (by decide +kernel)
noncomputable def AZ:Fi:={ scope:=A2 (nth 21),body:=AW (nth 21),params:=["src", "pos", "multiline"],sc:=[(("src":Str),.local,0),(("pos":Str),.local,1),(("multiline":Str),.local,2),(("error_on":Str),.local,3),(("parse_escapes":Str),.local,4),(("result":Str),.local,5),(("start_pos":Str),.local,6),(("char":Str),.local,7),(("parsed_escape":Str),.local,8),(("ILLEGAL_MULTILINE_BASIC_STR_CHARS":Str),.globalImplicit,9),(("parse_basic_str_escape_multiline":Str),.globalImplicit,10),(("ILLEGAL_BASIC_STR_CHARS":Str),.globalImplicit,11),(("parse_basic_str_escape":Str),.globalImplicit,12),(("IndexError":Str),.globalImplicit,13),(("suffixed_err":Str),.globalImplicit,14)] }
private theorem DJ:AZ.Ok:=.of (by decide +kernel)
noncomputable def Aw:Fi:={ scope:=A2 (nth 17),body:=AW (nth 17),params:=["src", "pos"],sc:=[(("src":Str),.local,0),(("pos":Str),.local,1),(("parse_basic_str":Str),.globalImplicit,2)] }
private theorem B1:Aw.Ok:=.of (by decide +kernel)
noncomputable def Bv:Fi:={ scope:=A2 (nth 28),body:=AW (nth 28),params:=["src", "place"],sc:=[(("src":Str),.local,0),(("place":Str),.local,1),(("parse_one_line_basic_str":Str),.globalImplicit,2),(("TOMLDecodeError":Str),.globalImplicit,3),(("str":Str),.globalImplicit,4)] }
private theorem Cq:Bv.Ok:=.of (by decide +kernel)
noncomputable def BF:Fi:={ scope:=A2 (nth 26),body:=AW (nth 26),params:=["t", "i"],sc:=[(("t":Str),.local,0),(("i":Str),.local,1),(("names":Str),.local,2),(("name":Str),.local,3),(("size":Str),.cell,4),(("figures":Str),.cell,5),(("number":Str),.local,6),(("chr":Str),.globalImplicit,7),(("len":Str),.globalImplicit,8),(("sum":Str),.globalImplicit,9),(("range":Str),.globalImplicit,10)] }
private theorem HR:BF.Ok:=.of (by decide +kernel)
noncomputable def BV:Fi:={ scope:=A2 (nth 27),body:=AW (nth 27),params:=["src", "place", "words"],sc:=[(("src":Str),.local,0),(("place":Str),.local,1),(("words":Str),.local,2),(("rows":Str),.local,3),(("len":Str),.globalImplicit,4),(("str":Str),.globalImplicit,5)] }
private theorem IX:BV.Ok:=.of (by decide +kernel)
noncomputable def F4:Fi:={ scope:=A2 (nth 29),body:=AW (nth 29),params:=["script"],sc:=[(("script":Str),.local,0),(("t":Str),.cell,1),(("marks":Str),.local,2),(("end":Str),.local,3),(("head":Str),.local,4),(("done":Str),.local,5),(("text":Str),.local,6),(("until":Str),.local,7),(("i":Str),.local,8),(("words":Str),.local,9),(("offset":Str),.local,10),(("meaning":Str),.local,11),(("span":Str),.local,12),(("number":Str),.local,13),(("figures":Str),.local,14),(("mended":Str),.local,15),(("src":Str),.local,16),(("_law_text":Str),.globalImplicit,17),(("range":Str),.globalImplicit,18),(("len":Str),.globalImplicit,19),(("ord":Str),.globalImplicit,20),(("_law_named":Str),.globalImplicit,21),(("_law_answer":Str),.globalImplicit,22),(("_law_told":Str),.globalImplicit,23)] }
private theorem RD:F4.Ok:=.of (by decide +kernel)
noncomputable def Bg:Fi:={ scope:=A2 (nth 22),body:=AW (nth 22),params:=["src", "pos", "msg"],sc:=EQ }
private theorem E4:Bg.Ok:=.of (by decide +kernel)
noncomputable def D9:Fi:={ scope:=A2 ((AW (nth 22)).getD 0 (.Pass default)),body:=AW ((AW (nth 22)).getD 0 (.Pass default)),params:=["src", "pos"],sc:=[(("src":Str),.local,0),(("pos":Str),.local,1),(("line":Str),.local,2),(("column":Str),.local,3),(("len":Str),.globalImplicit,4)] }
private theorem OB:D9.Ok:=.of (by decide +kernel)
structure Mod (W:Wd):Prop where
 f_law_text:EC W "_law_text" BU 1 [] []
 f_skip_chars:EC W "skip_chars" Gx 3 [] []
 f_is_unicode_scalar_value:EC W "is_unicode_scalar_value" Ay 1 [] []
 f_parse_hex_char:EC W "parse_hex_char" A5 3 [] []
 f_parse_basic_str:EC W "parse_basic_str" AZ 2 ["multiline"] []
 f_parse_one_line_basic_str:EC W "parse_one_line_basic_str" Aw 2 [] []
 f_law_answer:EC W "_law_answer" Bv 2 [] []
 f_law_named:EC W "_law_named" BF 2 [] []
 f_law_told:EC W "_law_told" BV 3 [] []
 s_ILLEGAL_BASIC_STR_CHARS:∃ a,W.H.mg "ILLEGAL_BASIC_STR_CHARS" = some (.ref a)/\W.H.setv 0=some a
 s_ILLEGAL_MULTILINE_BASIC_STR_CHARS:∃ a,W.H.mg "ILLEGAL_MULTILINE_BASIC_STR_CHARS" = some (.ref a)/\W.H.setv 1=some a
 s_TOML_WS:∃ a,W.H.mg "TOML_WS" = some (.ref a)/\W.H.setv 2=some a
 s_TOML_WS_AND_NEWLINE:∃ a,W.H.mg "TOML_WS_AND_NEWLINE" = some (.ref a)/\W.H.setv 3=some a
 s_HEXDIGIT_CHARS:∃ a,W.H.mg "HEXDIGIT_CHARS" = some (.ref a)/\W.H.setv 4=some a
 mp:W.H.mg "BASIC_STR_ESCAPE_REPLACEMENTS" = some (.ref W.H.mpv)
 v_parse_basic_str_escape:W.H.mg "parse_basic_str_escape" = some (.ref (W.H.fnv 0))
 v_parse_basic_str_escape_multiline:W.H.mg "parse_basic_str_escape_multiline" = some (.ref (W.H.fnv 1))
 c_parse_basic_str_escape:∃ fd,FnAt W.h₀ (W.H.fnv 0) fd Ar/\Du W fd Ar 2 [] [.bool false]
 suf:QZ W Bg D9
 tabPos:W.H.tabPos=Lh ((AW (nth 22)).getD 0 (.Pass default))
noncomputable def BO:M PFlow:=
  (M.thenS (M.bind ((M.bind (M.getL 1) fun x1=>M.bind ((M.bind (M.seq [M.getL 0]) BC)) fun x2=>M.bind (AA .GtE x1 x2) tst)) fun c=>if c then (M.bind (M.ret (.str [101,110,100,32,111,102,32,100,111,99,117,109,101,110,116])) fun x3=>M.ret (.ret x3)) else (M.ret .next))
  (M.thenS (M.bind ((M.bind ((M.bind (M.getL 0) fun x4=>M.orStuck (Ba x4) (M.bind (M.seq [M.ret (.str [10]),M.ret (.int 0),M.getL 1]) (FV x4)))) fun x5=>M.bind (M.ret (.int 1)) fun x6=>Ap .Add x5 x6)) fun x7=>M.bind (M.setL 2 x7) fun U=>M.ret .next)
  (M.thenS (M.bind ((M.bind (M.getL 2) fun x8=>M.bind (M.ret (.int 1)) fun x9=>M.bind (AA .Eq x8 x9) tst)) fun c=>if c then (M.bind ((M.bind (M.getL 1) fun x10=>M.bind (M.ret (.int 1)) fun x11=>Ap .Add x10 x11)) fun x12=>M.bind (M.setL 3 x12) fun U=>M.ret .next) else (M.bind ((M.bind (M.getL 1) fun x14=>M.bind ((M.bind (M.getL 0) fun x13=>M.orStuck (Ba x13) (M.bind (M.seq [M.ret (.str [10]),M.ret (.int 0),M.getL 1]) (D4 x13)))) fun x15=>Ap .Sub x14 x15)) fun x16=>M.bind (M.setL 3 x16) fun U=>M.ret .next))
  (M.bind ((M.joinF [M.ret (.str [108,105,110,101,32]),(M.bind (M.getL 2) Dt),M.ret (.str [44,32,99,111,108,117,109,110,32]),(M.bind (M.getL 3) Dt)] [])) fun x17=>M.ret (.ret x17)))))
private theorem Qg {W:Wd}{n:Nat}{fm:Fm}(hsc:fm.sc=D9.sc):SimS W n fm D9.body BO:=
  Ac (AG (cm rfl (sv hsc 1 rfl) (cb hsc 4 rfl (sl rfl (sv hsc 0 rfl) .nil) AO)) (Ah (AC ss)) AD)
  (Ac (sa hsc 2 rfl rfl (Ag (me rfl rfl (sv hsc 0 rfl) (sl rfl ss (sl rfl Ad (sl rfl (sv hsc 1 rfl) .nil))) J7 B7 (Of)) Ad))
  (Ac (AG (cm rfl (sv hsc 2 rfl) Ad) (Ah (sa hsc 3 rfl rfl (Ag (sv hsc 1 rfl) Ad))) (Ah (sa hsc 3 rfl rfl (Ag (sv hsc 1 rfl) (me rfl rfl (sv hsc 0 rfl) (sl rfl ss (sl rfl Ad (sl rfl (sv hsc 1 rfl) .nil))) IM B7 (Mf))))))
  (Ah (AC (FN (All2.cons ss (All2.cons (HC (sv hsc 2 rfl)) (All2.cons ss (All2.cons (HC (sv hsc 3 rfl)) (All2.nil))))))))))
private theorem B9 {W:Wd}{n i:Nat}{fm:Fm}{np pos:Pos}{es:List Expr}{m1 m2 m3:M PV}(Mo:Mod W)(hm:(("suffixed_err":Str),.globalImplicit,i)∈fm.sc)(q:SimL W (n+2) fm es [m1,m2,m3]) :
  SimXc W (n+2) fm (.Call (.Name "suffixed_err" np) es [] pos) (M.bind (M.seq [m1,m2,m3]) (M.callX (EB BO))):=
 IP (params:=FY ((AW (nth 22)).getD 0 (.Pass default))) (dp:=Lh ((AW (nth 22)).getD 0 (.Pass default))) Mo.suf E4 OB rfl (by decide +kernel) rfl Mo.tabPos.symm rfl rfl (fun U=>rfl) (by decide +kernel) rfl (fun U U U U U U U=>rfl) hm q fun fm' hs he hd=>Qg hs
noncomputable def Bw (K:Nat):M PFlow:=
  ((M.thenS (M.bind ((M.bind ((M.bind (M.getL 4) fun x7=>M.bind (M.ret (.int 32)) fun x8=>Ap .FloorDiv x7 x8)) fun x9=>M.bind (M.ret (.int 1112064)) fun x10=>Ap .Mod x9 x10)) fun x11=>M.bind (M.setL 6 x11) fun U=>M.ret .next)
  (M.thenS (M.bind ((M.bind (M.getL 2) fun x24=>M.orStuck (HE x24) (M.bind (M.seq [(M.bind ((M.bind ((M.bind (M.getL 4) fun x12=>M.bind (M.ret (.int 32)) fun x13=>Ap .Mod x12 x13)) fun x14=>M.bind (M.ret (.int 31)) fun x15=>M.bind (AA .Lt x14 x15) tst)) fun c=>if c then (M.bind (M.getL 1) fun x18=>M.bind ((M.bind (M.getL 4) fun x16=>M.bind (M.ret (.int 32)) fun x17=>Ap .Mod x16 x17)) fun x19=>Ax false x18 x19) else (M.bind (M.seq [(M.bind ((M.bind (M.getL 6) fun x20=>M.bind (M.ret (.int 55296)) fun x21=>M.bind (AA .Lt x20 x21) tst)) fun c=>if c then M.getL 6 else (M.bind (M.getL 6) fun x22=>M.bind (M.ret (.int 2048)) fun x23=>Ap .Add x22 x23))]) DU))]) (D3 x24)))) fun U=>M.ret .next)
  (M.thenS (M.bind (M.getL 4) fun x25=>M.bind (M.ret (.int 35586048)) fun x26=>M.bind (CO .FloorDiv x25 x26) fun x27=>M.bind (M.setL 4 x27) fun U=>M.ret .next)
  (M.bind ((M.bind (M.getL 4) fun x28=>M.bind (M.ret (.int 0)) fun x29=>AA .Gt x28 x29)) fun x30=>M.bind (M.setL 5 x30) fun U=>M.ret .next)))))
noncomputable def C0 (K:Nat):M PFlow:=
  ((M.thenS (M.bind ((M.bind (M.seq [M.getL 3]) Rl)) fun x3=>M.bind (M.setL 4 x3) fun U=>M.ret .next)
  (M.thenS (M.bind (M.ret (.bool true)) fun x4=>M.bind (M.setL 5 x4) fun U=>M.ret .next)
  (M.whileN ((AB .And [(M.bind (M.getL 5) tst),(M.bind ((M.bind (M.seq [M.getL 2]) BC)) fun x5=>M.bind (M.ret (.int 100)) fun x6=>M.bind (AA .Lt x5 x6) tst)])) (Bw K) K))))
noncomputable def CW (K:Nat):M PFlow:=
  (M.thenS (M.bind ((M.bind (M.seq [M.ret (.str [92]),M.ret (.str [34]),M.ret (.str [10]),M.ret (.str [117]),M.ret (.str [85]),M.ret (.str [48,48,52,49]),M.ret (.str [68,56,48,48]),M.ret (.str [100,102,102,102]),M.ret (.str [100,55,70,70]),M.ret (.str [101,48,48,48]),M.ret (.str [48,48,49,48,70,70,70,70]),M.ret (.str [48,48,49,49,48,48,48,48]),M.ret (.str [48,48,48,48]),M.ret (.str [49,50]),M.ret (.str [110]),M.ret (.str [92,92]),M.ret (.str [92,34]),M.ret (.str [92,117]),M.ret (.str [92,85]),M.ret (.str [92,120,52,49]),M.ret (.str [92,47]),M.ret (.str [43,48,52,49]),M.ret (.str [49,95,50,51]),(M.bind (M.seq [M.ret (.int 0)]) DU),(M.bind (M.seq [M.ret (.int 127)]) DU),M.ret (.str [9]),M.ret (.str [13]),M.ret (.str [32,48,120,52]),M.ret (.str [39]),M.ret (.str [1632,1632,1636,1633]),M.ret (.str [92,114])]) M.newLst)) fun x1=>M.bind (M.setL 1 x1) fun U=>M.ret .next)
  (M.thenS (M.bind ((M.bind (M.seq []) M.newLst)) fun x2=>M.bind (M.setL 2 x2) fun U=>M.ret .next)
  (M.thenS (M.bind (M.bind (M.getL 0) No) fun x31=>M.forT x31 (M.setL 3) (C0 K) K 0)
  (M.bind ((M.bind (M.ret (.str [])) fun x32=>M.orStuck (Ba x32) (M.bind (M.seq [M.getL 2]) (Ld x32)))) fun x33=>M.ret (.ret x33)))))
private theorem Kl (K:Nat){W:Wd}(Mo:Mod W){fm:Fm}(hsc:fm.sc=BU.sc)(hen:fm.env.scope=BU.scope)(hh:fm.hdl=none):SimS W 0 fm BU.body (CW K):=
  Ac (sa hsc 1 rfl rfl (CD (sl rfl ss (sl rfl ss (sl rfl ss (sl rfl ss (sl rfl ss (sl rfl ss (sl rfl ss (sl rfl ss (sl rfl ss (sl rfl ss (sl rfl ss (sl rfl ss (sl rfl ss (sl rfl ss (sl rfl ss (sl rfl ss (sl rfl ss (sl rfl ss (sl rfl ss (sl rfl ss (sl rfl ss (sl rfl ss (sl rfl ss (sl rfl (cb hsc 7 rfl (sl rfl Ad .nil) (Bt)) (sl rfl (cb hsc 7 rfl (sl rfl Ad .nil) (Bt)) (sl rfl ss (sl rfl ss (sl rfl ss (sl rfl ss (sl rfl ss (sl rfl ss .nil)))))))))))))))))))))))))))))))))
  (Ac (sa hsc 2 rfl rfl (CD .nil))
  (Ac (Ix hh (Iv (sv hsc 0 rfl)) (gn hsc 3 rfl rfl) (Ac (sa hsc 4 rfl rfl (cb hsc 8 rfl (sl rfl (sv hsc 3 rfl) .nil) (NK)))
  (Ac (sa hsc 5 rfl rfl C6)
  (Ah (FE (Bp (All2.cons (B5 (sv hsc 5 rfl) (CU rfl)) (All2.cons (cm rfl (cb hsc 9 rfl (sl rfl (sv hsc 2 rfl) .nil) AO) Ad) (All2.nil)))) (Ac (sa hsc 6 rfl rfl (Ag (Ag (sv hsc 4 rfl) Ad) Ad))
  (Ac (LR (me rfl rfl (sv hsc 2 rfl) (sl rfl (CQ (cm rfl (Ag (sv hsc 4 rfl) Ad) Ad) (it hh (sv hsc 1 rfl) (Ag (sv hsc 4 rfl) Ad)) (cb hsc 7 rfl (sl rfl (CQ (cm rfl (sv hsc 6 rfl) Ad) (sv hsc 6 rfl) (Ag (sv hsc 6 rfl) Ad)) .nil) (Bt))) .nil) II NZ (L8)) Os (HK rfl))
  (Ac (sg hsc 4 rfl Ad)
  (Ah (sa hsc 5 rfl rfl (ce rfl (sv hsc 4 rfl) Ad)))))) K)))) (D6 rfl) K)
  (Ah (AC (me rfl rfl ss (sl rfl (sv hsc 2 rfl) .nil) L9 B7 (P6))))))
noncomputable def As (K:Nat):M PFlow:=
  (M.bind ((BS .Or [(M.bind (M.ret (.int 0)) fun x1=>M.bind (M.getL 0) fun x2=>Ew .LtE .LtE x1 x2 (M.ret (.int 55295))),(M.bind (M.ret (.int 57344)) fun x3=>M.bind (M.getL 0) fun x4=>Ew .LtE .LtE x3 x4 (M.ret (.int 1114111)))])) fun x5=>M.ret (.ret x5))
private theorem Ce (K:Nat){W:Wd}(Mo:Mod W){fm:Fm}(hsc:fm.sc=Ay.sc)(hen:fm.env.scope=Ay.scope)(hh:fm.hdl=none):SimS W 0 fm Ay.body (As K):=
  Ah (AC (LM (All2.cons (GR Ad (sv hsc 0 rfl) Ad (HM rfl)) (All2.cons (GR Ad (sv hsc 0 rfl) Ad (HM rfl)) (All2.nil)))))
noncomputable def Aq (K:Nat):M PFlow:=
  (M.thenS (M.bind ((M.bind (M.getL 0) fun x3=>M.bind (AP (some (M.getL 1))) fun x4=>M.bind (AP (some ((M.bind (M.getL 1) fun x1=>M.bind (M.getL 2) fun x2=>Ap .Add x1 x2)))) fun x5=>A6 x4 x5 x3)) fun x6=>M.bind (M.setL 3 x6) fun U=>M.ret .next)
  (M.thenS (M.bind ((AB .Or [(M.bind ((M.bind (M.seq [M.getL 3]) BC)) fun x7=>M.bind (M.getL 2) fun x8=>M.bind (AA .NotEq x7 x8) tst),(M.bind ((M.bind ((M.bind (M.ret (.fset 4)) fun x9=>M.orStuck (IG x9) (M.bind (M.seq [M.getL 3]) (Mc x9)))) tst)) fun c=>M.ret !c)])) fun c=>if c then (M.bind ((M.bind (M.seq [M.getL 0,M.getL 1,M.ret (.str [73,110,118,97,108,105,100,32,104,101,120,32,118,97,108,117,101])]) (M.callX (EB BO)))) fun t=>M.raise (.toml t)) else (M.ret .next))
  (M.thenS (M.bind (M.getL 1) fun x10=>M.bind (M.getL 2) fun x11=>M.bind (CO .Add x10 x11) fun x12=>M.bind (M.setL 1 x12) fun U=>M.ret .next)
  (M.thenS (M.bind ((M.bind (M.seq [M.getL 3,M.ret (.int 16)]) P9)) fun x13=>M.bind (M.setL 4 x13) fun U=>M.ret .next)
  (M.thenS (M.bind ((M.bind ((M.bind ((M.bind (M.seq [M.getL 4]) (M.call (As K)))) tst)) fun c=>M.ret !c)) fun c=>if c then (M.bind ((M.bind (M.seq [M.getL 0,M.getL 1,M.ret (.str [69,115,99,97,112,101,100,32,99,104,97,114,97,99,116,101,114,32,105,115,32,110,111,116,32,97,32,85,110,105,99,111,100,101,32,115,99,97,108,97,114,32,118,97,108,117,101])]) (M.callX (EB BO)))) fun t=>M.raise (.toml t)) else (M.ret .next))
  (M.bind ((M.bind (M.seq [M.getL 1,(M.bind (M.seq [M.getL 4]) DU)]) EU)) fun x14=>M.ret (.ret x14)))))))
private theorem CE (K:Nat){W:Wd}(Mo:Mod W){fm:Fm}(hsc:fm.sc=A5.sc)(hen:fm.env.scope=A5.scope)(hh:fm.hdl=none):SimS W 2 fm A5.body (Aq K):=
  Ac (sa hsc 3 rfl rfl (A8 (sv hsc 0 rfl) (SimO.some (sv hsc 1 rfl)) (SimO.some (Ag (sv hsc 1 rfl) (sv hsc 2 rfl)))))
  (Ac (AG (Bp (All2.cons (cm rfl (cb hsc 5 rfl (sl rfl (sv hsc 3 rfl) .nil) AO) (sv hsc 2 rfl)) (All2.cons (Fx (B5 (me rfl rfl (HN Mo.s_HEXDIGIT_CHARS (scm hsc 6 rfl) (by decide +kernel)) (sl rfl (sv hsc 3 rfl) .nil) E1 P4 (Gr hh)) (CU rfl))) (All2.nil)))) (Ah (C8 hh (B9 Mo (scm hsc 7 rfl) (sl rfl (sv hsc 0 rfl) (sl rfl (sv hsc 1 rfl) (sl rfl ss .nil)))))) AD)
  (Ac (sg hsc 1 rfl (sv hsc 2 rfl))
  (Ac (sa hsc 4 rfl rfl (ct hsc 8 rfl (sl rfl (sv hsc 3 rfl) (sl rfl Ad .nil)) (J1)))
  (Ac (AG (Fx (B5 (fc Mo.f_is_unicode_scalar_value B8 hsc 9 rfl (sl rfl (sv hsc 4 rfl) .nil) hh (Ce K Mo)) (CU rfl))) (Ah (C8 hh (B9 Mo (scm hsc 7 rfl) (sl rfl (sv hsc 0 rfl) (sl rfl (sv hsc 1 rfl) (sl rfl ss .nil)))))) AD)
  (Ah (AC (Bh (sl rfl (sv hsc 1 rfl) (sl rfl (cb hsc 10 rfl (sl rfl (sv hsc 4 rfl) .nil) (Bt)) .nil)))))))))
noncomputable def An (K:Nat):M PFlow:=
  (M.thenS (M.bind ((M.bind (M.getL 0) fun x3=>M.bind (AP (some (M.getL 1))) fun x4=>M.bind (AP (some ((M.bind (M.getL 1) fun x1=>M.bind (M.ret (.int 2)) fun x2=>Ap .Add x1 x2)))) fun x5=>A6 x4 x5 x3)) fun x6=>M.bind (M.setL 3 x6) fun U=>M.ret .next)
  (M.thenS (M.bind (M.getL 1) fun x7=>M.bind (M.ret (.int 2)) fun x8=>M.bind (CO .Add x7 x8) fun x9=>M.bind (M.setL 1 x9) fun U=>M.ret .next)
  (M.thenS (M.bind ((AB .And [(M.bind (M.getL 2) tst),M.stuck])) fun c=>if c then M.stuck else (M.ret .next))
  (M.thenS (M.bind ((M.bind (M.getL 3) fun x10=>M.bind (M.ret (.str [92,117])) fun x11=>M.bind (AA .Eq x10 x11) tst)) fun c=>if c then (M.bind ((M.bind (M.seq [M.getL 0,M.getL 1,M.ret (.int 4)]) (M.call (Aq K)))) fun x12=>M.ret (.ret x12)) else (M.ret .next))
  (M.thenS (M.bind ((M.bind (M.getL 3) fun x13=>M.bind (M.ret (.str [92,85])) fun x14=>M.bind (AA .Eq x13 x14) tst)) fun c=>if c then (M.bind ((M.bind (M.seq [M.getL 0,M.getL 1,M.ret (.int 8)]) (M.call (Aq K)))) fun x15=>M.ret (.ret x15)) else (M.ret .next))
  (M.tryN (Ig "KeyError" (M.bind ((M.bind (M.seq [M.getL 0,M.getL 1,M.ret (.str [85,110,101,115,99,97,112,101,100,32,39,92,39,32,105,110,32,97,32,115,116,114,105,110,103])]) (M.callX (EB BO)))) fun t=>M.raise (.toml t))) ((M.bind ((M.bind (M.seq [M.getL 1,(M.bind (M.ret .mp) fun x16=>M.bind (M.getL 3) fun x17=>Ax false x16 x17)]) EU)) fun x18=>M.ret (.ret x18)))))))))
private theorem Cr (K:Nat){W:Wd}(Mo:Mod W){fm:Fm}(hsc:fm.sc=Ar.sc)(hen:fm.env.scope=Ar.scope)(hh:fm.hdl=none):SimS W 3 fm Ar.body (An K):=
  Ac (sa hsc 3 rfl rfl (A8 (sv hsc 0 rfl) (SimO.some (sv hsc 1 rfl)) (SimO.some (Ag (sv hsc 1 rfl) Ad))))
  (Ac (sg hsc 1 rfl Ad)
  (Ac (AG (Bp (All2.cons (B5 (sv hsc 2 rfl) (CU rfl)) (All2.cons (J8) (All2.nil)))) Ka AD)
  (Ac (AG (cm rfl (sv hsc 3 rfl) ss) (Ah (AC (fc Mo.f_parse_hex_char Ck hsc 10 rfl (sl rfl (sv hsc 0 rfl) (sl rfl (sv hsc 1 rfl) (sl rfl Ad .nil))) hh (CE K Mo)))) AD)
  (Ac (AG (cm rfl (sv hsc 3 rfl) ss) (Ah (AC (fc Mo.f_parse_hex_char Ck hsc 10 rfl (sl rfl (sv hsc 0 rfl) (sl rfl (sv hsc 1 rfl) (sl rfl Ad .nil))) hh (CE K Mo)))) AD)
  (Ah (GP NP (scm hsc 12 rfl) (by decide +kernel) (by decide +kernel) (by decide +kernel) (by kernel_rfl) (Ah (AC (Bh (sl rfl (sv hsc 1 rfl) (sl rfl (it hh (Qc Mo.mp (scm hsc 11 rfl) (by decide +kernel)) (sv hsc 3 rfl)) .nil))))) (fun y=>have hsc:(fm.mark y).sc=_:=hsc;FL (B9 Mo (scm hsc 8 rfl) (sl rfl (sv hsc 0 rfl) (sl rfl (sv hsc 1 rfl) (sl rfl ss .nil)))))))))))
noncomputable def RE (K:Nat):Nat->Option (M PFlow × List PV)
 | 0=>some (An K,[.bool false])
 | _=>none
private theorem Qh (K:Nat){W:Wd}{n:Nat}(Mo:Mod W){fm:Fm}(hh:fm.hdl=none):∀ k m ext,RE K k=some (m,ext)->∃ fd fi extv,FnAt W.h₀ (W.H.fnv k) fd fi/\fi.Ok/\Du W fd fi 2 [] extv/\(∀ av α h,RepL W.H W.h₀ av α h ext extv)/\∀ fm':Fm,fm'.sc=fi.sc->fm'.env.scope=fi.scope->fm'.hdl=fm.hdl->SimS W (n+3) fm' fi.body m:=by
 intro k m ext h
 obtain ⟨fd,a,b⟩:=Mo.c_parse_basic_str_escape
 cases k with
 | succ=>injection h
 | zero=>
  cases h
  exact ⟨fd,_,_,a,Cd,b,fun U U U=>.cons (.bool false) .nil,fun fm' hs he hd=>(Cr K Mo hs he (hd.trans hh)).up (by exact Mi.la [_] [] ([7],[2,7,0]) rfl)⟩
noncomputable def Ak (K:Nat):M PFlow:=
  ((M.thenS (M.tryN (Ig "IndexError" (M.bind ((M.bind (M.seq [M.getL 0,M.getL 1,M.ret (.str [85,110,116,101,114,109,105,110,97,116,101,100,32,115,116,114,105,110,103])]) (M.callX (EB BO)))) fun t=>M.raise (.toml t))) ((M.bind ((M.bind (M.getL 0) fun x7=>M.bind (M.getL 1) fun x8=>Ax false x7 x8)) fun x9=>M.bind (M.setL 7 x9) fun U=>M.ret .next)))
  (M.thenS (M.bind ((M.bind (M.getL 7) fun x10=>M.bind (M.ret (.str [34])) fun x11=>M.bind (AA .Eq x10 x11) tst)) fun c=>if c then (M.thenS (M.bind ((M.bind ((M.bind (M.getL 2) tst)) fun c=>M.ret !c)) fun c=>if c then (M.bind ((M.bind (M.seq [(M.bind (M.getL 1) fun x12=>M.bind (M.ret (.int 1)) fun x13=>Ap .Add x12 x13),(M.bind (M.getL 5) fun x17=>M.bind ((M.bind (M.getL 0) fun x14=>M.bind (AP (some (M.getL 6))) fun x15=>M.bind (AP (some (M.getL 1))) fun x16=>A6 x15 x16 x14)) fun x18=>Ap .Add x17 x18)]) EU)) fun x19=>M.ret (.ret x19)) else (M.ret .next))
  (M.thenS M.stuck
  (M.thenS (M.bind (M.getL 1) fun x20=>M.bind (M.ret (.int 1)) fun x21=>M.bind (CO .Add x20 x21) fun x22=>M.bind (M.setL 1 x22) fun U=>M.ret .next)
  (M.ret .cont)))) else (M.ret .next))
  (M.thenS (M.bind ((M.bind (M.getL 7) fun x23=>M.bind (M.ret (.str [92])) fun x24=>M.bind (AA .Eq x23 x24) tst)) fun c=>if c then (M.thenS (M.bind (M.getL 5) fun x28=>M.bind ((M.bind (M.getL 0) fun x25=>M.bind (AP (some (M.getL 6))) fun x26=>M.bind (AP (some (M.getL 1))) fun x27=>A6 x26 x27 x25)) fun x29=>M.bind (CO .Add x28 x29) fun x30=>M.bind (M.setL 5 x30) fun U=>M.ret .next)
  (M.thenS (M.bind ((M.bind (M.getL 4) (M.viaFn (RE K) [M.getL 0,M.getL 1]))) fun x31=>M.bind (M.unpack [M.setL 1,M.setL 8] x31) fun U=>M.ret .next)
  (M.thenS (M.bind (M.getL 5) fun x32=>M.bind (M.getL 8) fun x33=>M.bind (CO .Add x32 x33) fun x34=>M.bind (M.setL 5 x34) fun U=>M.ret .next)
  (M.thenS (M.bind (M.getL 1) fun x35=>M.bind (M.setL 6 x35) fun U=>M.ret .next)
  (M.ret .cont))))) else (M.ret .next))
  (M.thenS (M.bind ((M.bind (M.getL 7) fun x36=>M.bind (M.getL 3) fun x37=>M.bind (AA .In x36 x37) tst)) fun c=>if c then (M.bind ((M.bind (M.seq [M.getL 0,M.getL 1,(M.joinF [M.ret (.str [73,108,108,101,103,97,108,32,99,104,97,114,97,99,116,101,114,32]),(M.bind (M.getL 7) Ih)] [])]) (M.callX (EB BO)))) fun t=>M.raise (.toml t)) else (M.ret .next))
  (M.bind (M.getL 1) fun x38=>M.bind (M.ret (.int 1)) fun x39=>M.bind (CO .Add x38 x39) fun x40=>M.bind (M.setL 1 x40) fun U=>M.ret .next))))))
noncomputable def Bj (K:Nat):M PFlow:=
  (M.thenS (M.bind ((M.bind (M.getL 2) tst)) fun c=>if c then (M.thenS (M.bind (M.ret (.fset 1)) fun x1=>M.bind (M.setL 3 x1) fun U=>M.ret .next)
  (M.bind (M.ret (.fn 1)) fun x2=>M.bind (M.setL 4 x2) fun U=>M.ret .next)) else (M.thenS (M.bind (M.ret (.fset 0)) fun x3=>M.bind (M.setL 3 x3) fun U=>M.ret .next)
  (M.bind (M.ret (.fn 0)) fun x4=>M.bind (M.setL 4 x4) fun U=>M.ret .next)))
  (M.thenS (M.bind (M.ret (.str [])) fun x5=>M.bind (M.setL 5 x5) fun U=>M.ret .next)
  (M.thenS (M.bind (M.getL 1) fun x6=>M.bind (M.setL 6 x6) fun U=>M.ret .next)
  (M.whileN ((M.bind (M.ret (.bool true)) tst)) (Ak K) K))))
private theorem Ea (K:Nat){W:Wd}(Mo:Mod W){fm:Fm}(hsc:fm.sc=AZ.sc)(hen:fm.env.scope=AZ.scope)(hh:fm.hdl=none):SimS W 4 fm AZ.body (Bj K):=
  Ac (AG (B5 (sv hsc 2 rfl) (CU rfl)) (Ac (sa hsc 3 rfl rfl (HN Mo.s_ILLEGAL_MULTILINE_BASIC_STR_CHARS (scm hsc 9 rfl) (by decide +kernel)))
  (Ah (sa hsc 4 rfl rfl (Lk Mo.v_parse_basic_str_escape_multiline (scm hsc 10 rfl) (by decide +kernel))))) (Ac (sa hsc 3 rfl rfl (HN Mo.s_ILLEGAL_BASIC_STR_CHARS (scm hsc 11 rfl) (by decide +kernel)))
  (Ah (sa hsc 4 rfl rfl (Lk Mo.v_parse_basic_str_escape (scm hsc 12 rfl) (by decide +kernel))))))
  (Ac (sa hsc 5 rfl rfl ss)
  (Ac (sa hsc 6 rfl rfl (sv hsc 1 rfl))
  (Ah (FE (B5 C6 (CU rfl)) (Ac (GP JS (scm hsc 13 rfl) (by decide +kernel) (by decide +kernel) (by decide +kernel) (by kernel_rfl) (Ah (sa hsc 7 rfl rfl (it hh (sv hsc 0 rfl) (sv hsc 1 rfl)))) (fun y=>have hsc:(fm.mark y).sc=_:=hsc;FL (B9 Mo (scm hsc 14 rfl) (sl rfl (sv hsc 0 rfl) (sl rfl (sv hsc 1 rfl) (sl rfl ss .nil))))))
  (Ac (AG (cm rfl (sv hsc 7 rfl) ss) (Ac (AG (Fx (B5 (sv hsc 2 rfl) (CU rfl))) (Ah (AC (Bh (sl rfl (Ag (sv hsc 1 rfl) Ad) (sl rfl (Ag (sv hsc 5 rfl) (A8 (sv hsc 0 rfl) (SimO.some (sv hsc 6 rfl)) (SimO.some (sv hsc 1 rfl)))) .nil))))) AD)
  (Ac (J9)
  (Ac (sg hsc 1 rfl Ad)
  (Ah Es)))) AD)
  (Ac (AG (cm rfl (sv hsc 7 rfl) ss) (Ac (sg hsc 5 rfl (A8 (sv hsc 0 rfl) (SimO.some (sv hsc 6 rfl)) (SimO.some (sv hsc 1 rfl))))
  (Ac (C7 hh (gs rfl (gn hsc 1 rfl rfl) (gs rfl (gn hsc 8 rfl rfl) .nil)) (Ml (scm hsc 4 rfl) (Or.inl rfl) (by decide +kernel) (by decide +kernel) (sl rfl (sv hsc 0 rfl) (sl rfl (sv hsc 1 rfl) .nil)) (Qh K Mo hh)) (HL rfl) (Lj rfl))
  (Ac (sg hsc 5 rfl (sv hsc 8 rfl))
  (Ac (sa hsc 6 rfl rfl (sv hsc 1 rfl))
  (Ah Es))))) AD)
  (Ac (AG (cm rfl (sv hsc 7 rfl) (sv hsc 3 rfl)) (Ah (C8 hh (B9 Mo (scm hsc 14 rfl) (sl rfl (sv hsc 0 rfl) (sl rfl (sv hsc 1 rfl) (sl rfl (FN (All2.cons ss (All2.cons (NS (sv hsc 7 rfl)) (All2.nil)))) .nil)))))) AD)
  (Ah (sg hsc 1 rfl Ad)))))) K))))
noncomputable def Ae (K:Nat):M PFlow:=
  (M.thenS (M.bind (M.getL 1) fun x1=>M.bind (M.ret (.int 1)) fun x2=>M.bind (CO .Add x1 x2) fun x3=>M.bind (M.setL 1 x3) fun U=>M.ret .next)
  (M.bind ((M.bind (M.seq [M.getL 0,M.getL 1]) fun x4=>M.bind (M.seq [M.ret (.bool false)]) fun x5=>M.call (Bj K) (x4++x5))) fun x6=>M.ret (.ret x6)))
private theorem Ca (K:Nat){W:Wd}(Mo:Mod W){fm:Fm}(hsc:fm.sc=Aw.sc)(hen:fm.env.scope=Aw.scope)(hh:fm.hdl=none):SimS W 5 fm Aw.body (Ae K):=
  Ac (sg hsc 1 rfl Ad)
  (Ah (AC (Gv Mo.f_parse_basic_str DJ (scm hsc 2 rfl) (by decide +kernel) (sl rfl (sv hsc 0 rfl) (sl rfl (sv hsc 1 rfl) .nil)) (SimKw.cons C6 (SimKw.nil)) (fun fm' hs he hd=>(Ea K Mo hs he (hd.trans hh)).up (by decide)))))
noncomputable def AL (K:Nat):M PFlow:=
  (M.tryN (Nr fun t=>M.calm (M.bind (M.bind (M.seq [M.ret (.str t)]) M.newLst) fun a=>M.ret (.ret a))) ((M.bind ((M.bind (M.seq [M.getL 0,M.getL 1]) (M.call (Ae K)))) fun x1=>M.ret (.ret x1))))
private theorem CX (K:Nat){W:Wd}(Mo:Mod W){fm:Fm}(hsc:fm.sc=Bv.sc)(hen:fm.env.scope=Bv.scope)(hh:fm.hdl=none):SimS W 6 fm Bv.body (AL K):=
  Ah (JW (scm hsc 3 rfl) (fun k i q=>absurd q (by rw [hsc];exact Rw (by decide +kernel))) (by show fm.env.scope.names.lookup _=_;rw [hen];decide +kernel) (Ah (AC (fc Mo.f_parse_one_line_basic_str B1 hsc 2 rfl (sl rfl (sv hsc 0 rfl) (sl rfl (sv hsc 1 rfl) .nil)) hh (Ca K Mo)))) (fun y t=>L3 (Ki (NR (i:=4) (by show fm.env.scope.names.lookup _=_;rw [hen];decide +kernel) (by decide +kernel) (show _∈fm.sc from (scm hsc 4 rfl))) (fun U U=>rfl))))
noncomputable def E5:List (Str × NameKind × Nat):=[(("sign":Str),.local,11)]
noncomputable def E6:List (Str × NameKind × Nat):=[(("k":Str),.local,12),(("figures":Str),.free,5),(("size":Str),.free,4)]
noncomputable def BW (K:Nat):M PFlow:=
  (M.thenS (M.bind ((M.bind (M.seq [(M.bind (M.seq [M.ret (.int 8)]) DU),(M.bind (M.seq [M.ret (.int 9)]) DU),(M.bind (M.seq [M.ret (.int 10)]) DU),(M.bind (M.seq [M.ret (.int 12)]) DU),(M.bind (M.seq [M.ret (.int 13)]) DU),M.ret (.str [34]),M.ret (.str [92])]) (HD P0 ["b", "t", "n", "f", "r", "\"", "\\"]))) fun x1=>M.bind (M.setL 2 x1) fun U=>M.ret .next)
  (M.thenS (M.bind ((M.bind (M.getL 0) fun x6=>M.bind (AP (some ((M.bind (M.getL 1) fun x2=>M.bind (M.ret (.int 1)) fun x3=>Ap .Add x2 x3)))) fun x7=>M.bind (AP (some ((M.bind (M.getL 1) fun x4=>M.bind (M.ret (.int 2)) fun x5=>Ap .Add x4 x5)))) fun x8=>A6 x7 x8 x6)) fun x9=>M.bind (M.setL 3 x9) fun U=>M.ret .next)
  (M.thenS (M.bind ((M.bind (M.getL 3) fun x10=>M.bind (M.getL 2) fun x11=>M.bind (AA .In x10 x11) tst)) fun c=>if c then (M.bind ((M.bind (M.seq [M.ret (.str []),M.ret (.int 0),(M.bind (M.getL 2) fun x12=>M.bind (M.getL 3) fun x13=>Ax false x12 x13),M.ret (.int 2)]) EU)) fun x14=>M.ret (.ret x14)) else (M.ret .next))
  (M.thenS (M.bind ((AB .And [(M.bind (M.getL 3) fun x15=>M.bind (M.ret (.str [117])) fun x16=>M.bind (AA .NotEq x15 x16) tst),(M.bind (M.getL 3) fun x17=>M.bind (M.ret (.str [85])) fun x18=>M.bind (AA .NotEq x17 x18) tst)])) fun c=>if c then (M.bind ((M.bind (M.seq [M.ret (.str [85,110,101,115,99,97,112,101,100,32,39,92,39,32,105,110,32,97,32,115,116,114,105,110,103]),M.ret (.int 2),M.ret (.str [92]),M.ret (.int 1)]) EU)) fun x19=>M.ret (.ret x19)) else (M.ret .next))
  (M.thenS (M.bind ((M.bind ((M.bind (M.getL 3) fun x20=>M.bind (M.ret (.str [117])) fun x21=>M.bind (AA .Eq x20 x21) tst)) fun c=>if c then M.ret (.int 4) else M.ret (.int 8))) fun x22=>M.bind (M.setL 4 x22) fun U=>M.ret .next)
  (M.thenS (M.bind ((M.bind (M.bind ((M.bind (M.getL 0) fun x29=>M.bind (AP (some ((M.bind (M.getL 1) fun x23=>M.bind (M.ret (.int 2)) fun x24=>Ap .Add x23 x24)))) fun x30=>M.bind (AP (some ((M.bind ((M.bind (M.getL 1) fun x25=>M.bind (M.ret (.int 2)) fun x26=>Ap .Add x25 x26)) fun x27=>M.bind (M.getL 4) fun x28=>Ap .Add x27 x28)))) fun x31=>A6 x30 x31 x29)) No) fun x34=>M.scope [11] (M.compN x34 11 (AB .And [(M.bind (M.getL 11) fun x32=>M.bind (M.ret (.str [48,49,50,51,52,53,54,55,56,57,97,98,99,100,101,102,65,66,67,68,69,70])) fun x33=>M.bind (AA .In x32 x33) tst)]) (M.getL 11) K 0 []))) fun x35=>M.bind (M.setL 5 x35) fun U=>M.ret .next)
  (M.thenS (M.bind ((M.bind ((M.bind (M.seq [M.getL 5]) BC)) fun x36=>M.bind (M.getL 4) fun x37=>M.bind (AA .Lt x36 x37) tst)) fun c=>if c then (M.bind ((M.bind (M.seq [M.ret (.str [73,110,118,97,108,105,100,32,104,101,120,32,118,97,108,117,101]),M.ret (.int 2),M.ret (.str [92]),M.ret (.int 1)]) EU)) fun x38=>M.ret (.ret x38)) else (M.ret .next))
  (M.thenS (M.bind ((M.bind (M.seq [(M.bind (M.bind (M.seq [M.getL 4]) BX) fun x51=>M.scope [12] (M.compN x51 12 (AB .And []) ((M.bind ((M.bind (M.ret (.str [48,49,50,51,52,53,54,55,56,57,97,98,99,100,101,102])) fun x42=>M.orStuck (Ba x42) (M.bind (M.seq [(M.bind ((M.bind (M.getL 5) fun x39=>M.bind (M.getL 12) fun x40=>Ax false x39 x40)) fun x41=>M.orStuck (Ba x41) (M.bind (M.seq []) (F3 x41)))]) (Ex false x42)))) fun x49=>M.bind ((M.bind (M.ret (.int 16)) fun x47=>M.bind ((M.bind ((M.bind (M.getL 4) fun x43=>M.bind (M.ret (.int 1)) fun x44=>Ap .Sub x43 x44)) fun x45=>M.bind (M.getL 12) fun x46=>Ap .Sub x45 x46)) fun x48=>Ap .Pow x47 x48)) fun x50=>Ap .Mult x49 x50)) K 0 []))]) Oy)) fun x52=>M.bind (M.setL 6 x52) fun U=>M.ret .next)
  (M.thenS (M.bind ((AB .Or [(M.bind (M.ret (.int 55296)) fun x53=>M.bind (M.getL 6) fun x54=>F2 .LtE .Lt x53 x54 (M.ret (.int 57344))),(M.bind (M.getL 6) fun x55=>M.bind (M.ret (.int 1114111)) fun x56=>M.bind (AA .Gt x55 x56) tst)])) fun c=>if c then (M.bind ((M.bind (M.seq [M.ret (.str [69,115,99,97,112,101,100,32,99,104,97,114,97,99,116,101,114,32,105,115,32,110,111,116,32,97,32,85,110,105,99,111,100,101,32,115,99,97,108,97,114,32,118,97,108,117,101]),(M.bind (M.ret (.int 2)) fun x57=>M.bind (M.getL 4) fun x58=>Ap .Add x57 x58),M.ret (.str [92]),M.ret (.int 1)]) EU)) fun x59=>M.ret (.ret x59)) else (M.ret .next))
  (M.bind ((M.bind (M.seq [M.ret (.str []),M.ret (.int 0),(M.bind (M.seq [M.getL 6]) DU),(M.bind (M.ret (.int 2)) fun x60=>M.bind (M.getL 4) fun x61=>Ap .Add x60 x61)]) EU)) fun x62=>M.ret (.ret x62)))))))))))
private theorem IY (K:Nat){W:Wd}(Mo:Mod W){fm:Fm}(hsc:fm.sc=BF.sc)(hen:fm.env.scope=BF.scope)(hh:fm.hdl=none):SimS W 0 fm BF.body (BW K):=
  Ac (sa hsc 2 rfl rfl (L6 (SimD.cons (fun U=>keyS) (fun U=>cb hsc 7 rfl (sl rfl Ad .nil) (Bt)) (SimD.cons (fun U=>keyS) (fun U=>cb hsc 7 rfl (sl rfl Ad .nil) (Bt)) (SimD.cons (fun U=>keyS) (fun U=>cb hsc 7 rfl (sl rfl Ad .nil) (Bt)) (SimD.cons (fun U=>keyS) (fun U=>cb hsc 7 rfl (sl rfl Ad .nil) (Bt)) (SimD.cons (fun U=>keyS) (fun U=>cb hsc 7 rfl (sl rfl Ad .nil) (Bt)) (SimD.cons (fun U=>keyS) (fun U=>ss) (SimD.cons (fun U=>keyS) (fun U=>ss) (SimD.nil)))))))) (by decide +kernel) (List.cons_ne_nil _ _) (Nat.le_of_ble_eq_true rfl)))
  (Ac (sa hsc 3 rfl rfl (A8 (sv hsc 0 rfl) (SimO.some (Ag (sv hsc 1 rfl) Ad)) (SimO.some (Ag (sv hsc 1 rfl) Ad))))
  (Ac (AG (cm rfl (sv hsc 3 rfl) (sv hsc 2 rfl)) (Ah (AC (Bh (sl rfl ss (sl rfl Ad (sl rfl (it hh (sv hsc 2 rfl) (sv hsc 3 rfl)) (sl rfl Ad .nil))))))) AD)
  (Ac (AG (Bp (All2.cons (cm rfl (sv hsc 3 rfl) ss) (All2.cons (cm rfl (sv hsc 3 rfl) ss) (All2.nil)))) (Ah (AC (Bh (sl rfl ss (sl rfl Ad (sl rfl ss (sl rfl Ad .nil))))))) AD)
  (Ac (sa hsc 4 rfl rfl (CQ (cm rfl (sv hsc 3 rfl) ss) Ad Ad))
  (Ac (D8 (scm hsc 5 rfl) (Or.inr rfl) (G1 (sc:=E5) hh (Ci.of (by rw [hsc];decide +kernel)) (List.mem_of_getElem? (i:=0) rfl) (Iv (A8 (sv hsc 0 rfl) (SimO.some (Ag (sv hsc 1 rfl) Ad)) (SimO.some (Ag (Ag (sv hsc 1 rfl) Ad) (sv hsc 4 rfl))))) (fun fm' hsc hh=>All2.cons (cm rfl (sv hsc 0 rfl) ss) (All2.nil)) (fun fm' hsc hh=>sv hsc 0 rfl) (D6 rfl) K))
  (Ac (AG (cm rfl (cb hsc 8 rfl (sl rfl (sv hsc 5 rfl) .nil) AO) (sv hsc 4 rfl)) (Ah (AC (Bh (sl rfl ss (sl rfl Ad (sl rfl ss (sl rfl Ad .nil))))))) AD)
  (Ac (sa hsc 6 rfl rfl (cb hsc 9 rfl (sl rfl (L7 (sc:=E6) hh (Ci.of (by rw [hsc];decide +kernel)) (List.mem_of_getElem? (i:=0) rfl) (DE (scm hsc 10 rfl) (by decide +kernel) (by decide +kernel) (by decide +kernel) (by kernel_rfl) (sl rfl (sv hsc 4 rfl) .nil)) (fun fm' hsc hh=>All2.nil) (fun fm' hsc hh=>Ag (me rfl rfl ss (sl rfl (me rfl rfl (it hh (sv hsc 1 rfl) (sv hsc 0 rfl)) .nil Kk B7 (Ox)) .nil) J0 B7 (Mm hh)) (Ag Ad (Ag (Ag (sv hsc 2 rfl) Ad) (sv hsc 0 rfl)))) (D6 rfl) K) .nil) (Oz hh)))
  (Ac (AG (Bp (All2.cons (Kj Ad (sv hsc 6 rfl) Ad (HM rfl)) (All2.cons (cm rfl (sv hsc 6 rfl) Ad) (All2.nil)))) (Ah (AC (Bh (sl rfl ss (sl rfl (Ag Ad (sv hsc 4 rfl)) (sl rfl ss (sl rfl Ad .nil))))))) AD)
  (Ah (AC (Bh (sl rfl ss (sl rfl Ad (sl rfl (cb hsc 7 rfl (sl rfl (sv hsc 6 rfl) .nil) (Bt)) (sl rfl (Ag Ad (sv hsc 4 rfl)) .nil)))))))))))))))
noncomputable def BL (K:Nat):M PFlow:=
  (M.thenS (M.bind ((M.bind (M.getL 1) fun x1=>M.bind ((M.bind (M.seq [M.getL 0]) BC)) fun x2=>M.bind (AA .GtE x1 x2) tst)) fun c=>if c then (M.bind ((M.bind (M.seq [(M.bind (M.getL 2) fun x3=>M.bind (M.ret (.str [32,40,97,116,32,101,110,100,32,111,102,32,100,111,99,117,109,101,110,116,41])) fun x4=>Ap .Add x3 x4)]) M.newLst)) fun x5=>M.ret (.ret x5)) else (M.ret .next))
  (M.thenS (M.bind ((M.bind ((M.bind (M.getL 0) fun x6=>M.bind (AP none) fun x7=>M.bind (AP (some (M.getL 1))) fun x8=>A6 x7 x8 x6)) fun x9=>M.orStuck (Ba x9) (M.bind (M.seq [M.ret (.str [10])]) (HP x9)))) fun x10=>M.bind (M.setL 3 x10) fun U=>M.ret .next)
  (M.bind ((M.bind (M.seq [(M.bind ((M.bind ((M.bind ((M.bind ((M.bind (M.getL 2) fun x11=>M.bind (M.ret (.str [32,40,97,116,32,108,105,110,101,32])) fun x12=>Ap .Add x11 x12)) fun x13=>M.bind ((M.bind (M.seq [(M.bind (M.seq [M.getL 3]) BC)]) Np)) fun x14=>Ap .Add x13 x14)) fun x15=>M.bind (M.ret (.str [44,32,99,111,108,117,109,110,32])) fun x16=>Ap .Add x15 x16)) fun x21=>M.bind ((M.bind (M.seq [(M.bind ((M.bind (M.seq [(M.bind (M.getL 3) fun x17=>M.bind ((M.bind (M.ret (.int 1)) Ru)) fun x18=>Ax false x17 x18)]) BC)) fun x19=>M.bind (M.ret (.int 1)) fun x20=>Ap .Add x19 x20)]) Np)) fun x22=>Ap .Add x21 x22)) fun x23=>M.bind (M.ret (.str [41])) fun x24=>Ap .Add x23 x24)]) M.newLst)) fun x25=>M.ret (.ret x25))))
private theorem Km (K:Nat){W:Wd}(Mo:Mod W){fm:Fm}(hsc:fm.sc=BV.sc)(hen:fm.env.scope=BV.scope)(hh:fm.hdl=none):SimS W 0 fm BV.body (BL K):=
  Ac (AG (cm rfl (sv hsc 1 rfl) (cb hsc 4 rfl (sl rfl (sv hsc 0 rfl) .nil) AO)) (Ah (AC (CD (sl rfl (Ag (sv hsc 2 rfl) ss) .nil)))) AD)
  (Ac (sa hsc 3 rfl rfl (me rfl rfl (A8 (sv hsc 0 rfl) SimO.none (SimO.some (sv hsc 1 rfl))) (sl rfl ss .nil) Kh B7 (Ow)))
  (Ah (AC (CD (sl rfl (Ag (Ag (Ag (Ag (Ag (sv hsc 2 rfl) ss) (ct hsc 5 rfl (sl rfl (cb hsc 4 rfl (sl rfl (sv hsc 3 rfl) .nil) AO) .nil) Io)) ss) (ct hsc 5 rfl (sl rfl (Ag (cb hsc 4 rfl (sl rfl (it hh (sv hsc 3 rfl) (P1 Ad)) .nil) AO) Ad) .nil) Io)) ss) .nil)))))
noncomputable def Mw:List (Str × NameKind × Nat):=[(("i":Str),.local,24),(("t":Str),.free,1),(("len":Str),.globalImplicit,25)]
noncomputable def DK (K:Nat):M PFlow:=
  ((M.thenS (M.bind ((M.bind (M.getL 8) fun x35=>M.bind (M.getL 7) fun x36=>M.bind (AA .Lt x35 x36) tst)) fun c=>if c then (M.ret .cont) else (M.ret .next))
  (M.thenS (M.bind ((M.bind (M.seq [M.ret (.str []),M.ret (.int 0),(M.bind (M.getL 1) fun x37=>M.bind (M.getL 8) fun x38=>Ax false x37 x38),M.ret (.int 1)]) EU)) fun x39=>M.bind (M.unpack [M.setL 9,M.setL 10,M.setL 11,M.setL 12] x39) fun U=>M.ret .next)
  (M.thenS (M.bind ((M.bind (M.seq [(M.bind (M.getL 1) fun x40=>M.bind (M.getL 8) fun x41=>Ax false x40 x41)]) Rk)) fun x42=>M.bind (M.setL 13 x42) fun U=>M.ret .next)
  (M.thenS (M.bind ((M.bind ((M.bind (M.ret (.str [48,49,50,51,52,53,54,55,56,57,97,98,99,100,101,102])) fun x47=>M.bind ((M.bind ((M.bind (M.getL 13) fun x43=>M.bind (M.ret (.int 16)) fun x44=>Ap .FloorDiv x43 x44)) fun x45=>M.bind (M.ret (.int 16)) fun x46=>Ap .Mod x45 x46)) fun x48=>Ax false x47 x48)) fun x53=>M.bind ((M.bind (M.ret (.str [48,49,50,51,52,53,54,55,56,57,97,98,99,100,101,102])) fun x51=>M.bind ((M.bind (M.getL 13) fun x49=>M.bind (M.ret (.int 16)) fun x50=>Ap .Mod x49 x50)) fun x52=>Ax false x51 x52)) fun x54=>Ap .Add x53 x54)) fun x55=>M.bind (M.setL 14 x55) fun U=>M.ret .next)
  (M.thenS (M.bind ((M.bind ((M.bind (M.getL 1) fun x56=>M.bind (M.getL 8) fun x57=>Ax false x56 x57)) fun x58=>M.bind (M.ret (.str [92])) fun x59=>M.bind (AA .Eq x58 x59) tst)) fun c=>if c then (M.bind ((M.bind (M.seq [M.getL 1,M.getL 8]) (M.call (BW K)))) fun x60=>M.bind (M.unpack [M.setL 9,M.setL 10,M.setL 11,M.setL 12] x60) fun U=>M.ret .next) else (M.bind ((AB .Or [(AB .And [(M.bind (M.getL 13) fun x61=>M.bind (M.ret (.int 32)) fun x62=>M.bind (AA .Lt x61 x62) tst),(M.bind (M.getL 13) fun x63=>M.bind (M.ret (.int 9)) fun x64=>M.bind (AA .NotEq x63 x64) tst)]),(M.bind (M.getL 13) fun x65=>M.bind (M.ret (.int 127)) fun x66=>M.bind (AA .Eq x65 x66) tst)])) fun c=>if c then (M.bind ((M.bind ((M.bind (M.ret (.str [73,108,108,101,103,97,108,32,99,104,97,114,97,99,116,101,114,32,39,92])) fun x70=>M.bind ((M.bind ((HD .int [10,13] [.str [110],.str [114]])) fun x69=>M.orStuck (HQ x69) (M.bind (M.seq [M.getL 13,(M.bind (M.ret (.str [120])) fun x67=>M.bind (M.getL 14) fun x68=>Ap .Add x67 x68)]) (Mq x69)))) fun x71=>Ap .Add x70 x71)) fun x72=>M.bind (M.ret (.str [39])) fun x73=>Ap .Add x72 x73)) fun x74=>M.bind (M.setL 9 x74) fun U=>M.ret .next) else (M.ret .next)))
  (M.thenS (M.bind ((M.bind (M.getL 1) fun x77=>M.bind (AP (some (M.getL 8))) fun x78=>M.bind (AP (some ((M.bind (M.getL 8) fun x75=>M.bind (M.getL 12) fun x76=>Ap .Add x75 x76)))) fun x79=>A6 x78 x79 x77)) fun x80=>M.bind (M.setL 15 x80) fun U=>M.ret .next)
  (M.thenS (M.bind ((M.bind (M.getL 9) fun x81=>M.bind (M.ret (.str [])) fun x82=>M.bind (AA .NotEq x81 x82) tst)) fun c=>if c then (M.thenS (M.bind ((M.bind (M.getL 5) fun x86=>M.bind ((M.bind (M.getL 1) fun x83=>M.bind (AP (some (M.getL 8))) fun x84=>M.bind (AP none) fun x85=>A6 x84 x85 x83)) fun x87=>Ap .Add x86 x87)) fun x88=>M.bind (M.setL 16 x88) fun U=>M.ret .next)
  (M.thenS (M.bind ((M.bind ((M.bind (M.seq [M.getL 16,(M.bind (M.seq [M.getL 4]) BC)]) (M.call (AL K)))) fun x91=>M.bind ((M.bind (M.seq [M.getL 16,(M.bind ((M.bind (M.seq [M.getL 5]) BC)) fun x89=>M.bind (M.getL 10) fun x90=>Ap .Add x89 x90),M.getL 9]) (M.call (BL K)))) fun x92=>M.bind (AA .NotEq x91 x92) tst)) fun c=>if c then (M.bind (M.ret (.bool false)) fun x93=>M.ret (.ret x93)) else (M.ret .next))
  (M.bind ((M.bind ((M.bind ((M.bind (M.getL 1) fun x94=>M.bind (M.getL 8) fun x95=>Ax false x94 x95)) fun x96=>M.bind (M.ret (.str [92])) fun x97=>M.bind (AA .Eq x96 x97) tst)) fun c=>if c then M.ret (.str [92,92]) else (M.bind (M.ret (.str [92,117,48,48])) fun x98=>M.bind (M.getL 14) fun x99=>Ap .Add x98 x99))) fun x100=>M.bind (M.setL 15 x100) fun U=>M.ret .next))) else (M.ret .next))
  (M.thenS (M.bind (M.getL 5) fun x101=>M.bind (M.getL 15) fun x102=>M.bind (CO .Add x101 x102) fun x103=>M.bind (M.setL 5 x103) fun U=>M.ret .next)
  (M.thenS (M.bind (M.getL 6) fun x104=>M.bind (M.getL 11) fun x105=>M.bind (CO .Add x104 x105) fun x106=>M.bind (M.setL 6 x106) fun U=>M.ret .next)
  (M.bind ((M.bind (M.getL 8) fun x107=>M.bind (M.getL 12) fun x108=>Ap .Add x107 x108)) fun x109=>M.bind (M.setL 7 x109) fun U=>M.ret .next)))))))))))
noncomputable def G2 (K:Nat):M PFlow:=
  (M.thenS (M.bind ((M.bind (M.seq [M.getL 0]) (M.call (CW K)))) fun x1=>M.bind (M.setL 1 x1) fun U=>M.ret .next)
  (M.thenS (M.bind ((M.bind (M.bind (M.seq [(M.bind (M.seq [M.getL 1]) BC)]) BX) fun x16=>M.scope [24] (M.compN x16 24 (AB .And [(AB .And [(M.bind ((M.bind (M.getL 1) fun x2=>M.bind (M.getL 24) fun x3=>Ax false x2 x3)) fun x4=>M.bind (M.ret (.str [34])) fun x5=>M.bind (AA .Eq x4 x5) tst),(M.bind ((M.bind ((M.bind (M.getL 24) fun x10=>M.bind ((M.bind (M.seq [(M.bind ((M.bind (M.getL 1) fun x6=>M.bind (AP none) fun x7=>M.bind (AP (some (M.getL 24))) fun x8=>A6 x7 x8 x6)) fun x9=>M.orStuck (Ba x9) (M.bind (M.seq [M.ret (.str [92])]) (D7 x9)))]) BC)) fun x11=>Ap .Sub x10 x11)) fun x12=>M.bind (M.ret (.int 2)) fun x13=>Ap .Mod x12 x13)) fun x14=>M.bind (M.ret (.int 0)) fun x15=>M.bind (AA .Eq x14 x15) tst)])]) (M.getL 24) K 0 []))) fun x17=>M.bind (M.setL 2 x17) fun U=>M.ret .next)
  (M.thenS (M.bind ((M.bind ((M.bind (M.getL 2) fun x18=>M.bind ((M.bind (M.seq [(M.bind (M.seq [M.getL 1]) BC)]) M.newLst)) fun x19=>Ap .Add x18 x19)) fun x20=>M.bind (M.ret (.int 0)) fun x21=>Ax false x20 x21)) fun x22=>M.bind (M.setL 3 x22) fun U=>M.ret .next)
  (M.thenS (M.bind ((M.bind ((M.bind (M.ret (.str [34,39,13,32,61,32,49,10])) fun x25=>M.bind ((M.bind ((M.bind (M.seq [M.getL 0]) BC)) fun x23=>M.bind (M.ret (.int 3)) fun x24=>Ap .Mod x23 x24)) fun x26=>Ap .Mult x25 x26)) fun x27=>M.bind (M.ret (.str [34,107,39,32,61,32])) fun x28=>Ap .Add x27 x28)) fun x29=>M.bind (M.setL 4 x29) fun U=>M.ret .next)
  (M.thenS (M.bind ((M.bind (M.getL 4) fun x30=>M.bind (M.ret (.str [34])) fun x31=>Ap .Add x30 x31)) fun x32=>M.bind (M.setL 5 x32) fun U=>M.ret .next)
  (M.thenS (M.bind (M.ret (.str [])) fun x33=>M.bind (M.setL 6 x33) fun U=>M.ret .next)
  (M.thenS (M.bind (M.ret (.int 0)) fun x34=>M.bind (M.setL 7 x34) fun U=>M.ret .next)
  (M.thenS (M.bind (M.bind (M.seq [M.getL 3]) BX) fun x110=>M.forT x110 (M.setL 8) (DK K) K 0)
  (M.thenS (M.bind ((AB .And [(M.bind (M.getL 3) fun x111=>M.bind ((M.bind (M.seq [M.getL 1]) BC)) fun x112=>M.bind (AA .Eq x111 x112) tst),(M.bind ((M.bind (M.seq [M.getL 5,(M.bind (M.seq [M.getL 4]) BC)]) (M.call (AL K)))) fun x113=>M.bind ((M.newLst [.str [85,110,116,101,114,109,105,110,97,116,101,100,32,115,116,114,105,110,103,32,40,97,116,32,101,110,100,32,111,102,32,100,111,99,117,109,101,110,116,41]])) fun x114=>M.bind (AA .NotEq x113 x114) tst)])) fun c=>if c then (M.bind (M.ret (.bool false)) fun x115=>M.ret (.ret x115)) else (M.ret .next))
  (M.bind ((M.bind ((M.bind (M.seq [(M.bind ((M.bind (M.getL 5) fun x116=>M.bind (M.ret (.str [34])) fun x117=>Ap .Add x116 x117)) fun x123=>M.bind ((M.bind (M.getL 1) fun x120=>M.bind (AP (some ((M.bind (M.getL 3) fun x118=>M.bind (M.ret (.int 1)) fun x119=>Ap .Add x118 x119)))) fun x121=>M.bind (AP none) fun x122=>A6 x121 x122 x120)) fun x124=>Ap .Add x123 x124),(M.bind (M.seq [M.getL 4]) BC)]) (M.call (AL K)))) fun x127=>M.bind ((M.bind (M.seq [(M.bind ((M.bind (M.seq [M.getL 5]) BC)) fun x125=>M.bind (M.ret (.int 1)) fun x126=>Ap .Add x125 x126),M.getL 6]) EU)) fun x128=>AA .Eq x127 x128)) fun x129=>M.ret (.ret x129)))))))))))
private theorem Sl (K:Nat){W:Wd}(Mo:Mod W){fm:Fm}(hsc:fm.sc=F4.sc)(hen:fm.env.scope=F4.scope)(hh:fm.hdl=none):SimS W 7 fm F4.body (G2 K):=
  Ac (sa hsc 1 rfl rfl (fc Mo.f_law_text IW hsc 17 rfl (sl rfl (sv hsc 0 rfl) .nil) hh (Kl K Mo)))
  (Ac (D8 (scm hsc 2 rfl) (Or.inl rfl) (G1 (sc:=Mw) hh (Ci.of (by rw [hsc];decide +kernel)) (List.mem_of_getElem? (i:=0) rfl) (DE (scm hsc 18 rfl) (by decide +kernel) (by decide +kernel) (by decide +kernel) (by kernel_rfl) (sl rfl (cb hsc 19 rfl (sl rfl (sv hsc 1 rfl) .nil) AO) .nil)) (fun fm' hsc hh=>All2.cons (Bp (All2.cons (cm rfl (it hh (sv hsc 1 rfl) (sv hsc 0 rfl)) ss) (All2.cons (cm rfl (Ag (Ag (sv hsc 0 rfl) (cb hsc 2 rfl (sl rfl (me rfl rfl (A8 (sv hsc 1 rfl) SimO.none (SimO.some (sv hsc 0 rfl))) (sl rfl ss .nil) IT B7 (Mu)) .nil) AO)) Ad) Ad) (All2.nil)))) (All2.nil)) (fun fm' hsc hh=>sv hsc 0 rfl) (D6 rfl) K))
  (Ac (sa hsc 3 rfl rfl (it hh (Ag (sv hsc 2 rfl) (CD (sl rfl (cb hsc 19 rfl (sl rfl (sv hsc 1 rfl) .nil) AO) .nil))) Ad))
  (Ac (sa hsc 4 rfl rfl (Ag (Ag ss (Ag (cb hsc 19 rfl (sl rfl (sv hsc 0 rfl) .nil) AO) Ad)) ss))
  (Ac (sa hsc 5 rfl rfl (Ag (sv hsc 4 rfl) ss))
  (Ac (sa hsc 6 rfl rfl ss)
  (Ac (sa hsc 7 rfl rfl Ad)
  (Ac (Ix hh (DE (scm hsc 18 rfl) (by decide +kernel) (by decide +kernel) (by decide +kernel) (by kernel_rfl) (sl rfl (sv hsc 3 rfl) .nil)) (gn hsc 8 rfl rfl) (Ac (AG (cm rfl (sv hsc 8 rfl) (sv hsc 7 rfl)) (Ah Es) AD)
  (Ac (C7 hh (gs rfl (gn hsc 9 rfl rfl) (gs rfl (gn hsc 10 rfl rfl) (gs rfl (gn hsc 11 rfl rfl) (gs rfl (gn hsc 12 rfl rfl) .nil)))) (Bh (sl rfl ss (sl rfl Ad (sl rfl (it hh (sv hsc 1 rfl) (sv hsc 8 rfl)) (sl rfl Ad .nil))))) (HL rfl) (OA rfl))
  (Ac (sa hsc 13 rfl rfl (cb hsc 20 rfl (sl rfl (it hh (sv hsc 1 rfl) (sv hsc 8 rfl)) .nil) (NJ)))
  (Ac (sa hsc 14 rfl rfl (Ag (it hh ss (Ag (Ag (sv hsc 13 rfl) Ad) Ad)) (it hh ss (Ag (sv hsc 13 rfl) Ad))))
  (Ac (AG (cm rfl (it hh (sv hsc 1 rfl) (sv hsc 8 rfl)) ss) (Ah (C7 hh (gs rfl (gn hsc 9 rfl rfl) (gs rfl (gn hsc 10 rfl rfl) (gs rfl (gn hsc 11 rfl rfl) (gs rfl (gn hsc 12 rfl rfl) .nil)))) (fc Mo.f_law_named HR hsc 21 rfl (sl rfl (sv hsc 1 rfl) (sl rfl (sv hsc 8 rfl) .nil)) hh (IY K Mo)) (HL rfl) (Lj rfl))) (Ah (AG (Bp (All2.cons (Bp (All2.cons (cm rfl (sv hsc 13 rfl) Ad) (All2.cons (cm rfl (sv hsc 13 rfl) Ad) (All2.nil)))) (All2.cons (cm rfl (sv hsc 13 rfl) Ad) (All2.nil)))) (Ah (sa hsc 9 rfl rfl (Ag (Ag ss (me rfl rfl (Mp (by kernel_rfl) (by kernel_rfl) rfl (by decide) (List.cons_ne_nil _ _) (Nat.le_of_ble_eq_true rfl)) (sl rfl (sv hsc 13 rfl) (sl rfl (Ag ss (sv hsc 14 rfl)) .nil)) Ov Ou (RC))) ss))) AD)))
  (Ac (sa hsc 15 rfl rfl (A8 (sv hsc 1 rfl) (SimO.some (sv hsc 8 rfl)) (SimO.some (Ag (sv hsc 8 rfl) (sv hsc 12 rfl)))))
  (Ac (AG (cm rfl (sv hsc 9 rfl) ss) (Ac (sa hsc 16 rfl rfl (Ag (sv hsc 5 rfl) (A8 (sv hsc 1 rfl) (SimO.some (sv hsc 8 rfl)) SimO.none)))
  (Ac (AG (cm rfl (fc Mo.f_law_answer Cq hsc 22 rfl (sl rfl (sv hsc 16 rfl) (sl rfl (cb hsc 19 rfl (sl rfl (sv hsc 4 rfl) .nil) AO) .nil)) hh (CX K Mo)) (fc Mo.f_law_told IX hsc 23 rfl (sl rfl (sv hsc 16 rfl) (sl rfl (Ag (cb hsc 19 rfl (sl rfl (sv hsc 5 rfl) .nil) AO) (sv hsc 10 rfl)) (sl rfl (sv hsc 9 rfl) .nil))) hh (Km K Mo))) (Ah (AC C6)) AD)
  (Ah (sa hsc 15 rfl rfl (CQ (cm rfl (it hh (sv hsc 1 rfl) (sv hsc 8 rfl)) ss) ss (Ag ss (sv hsc 14 rfl))))))) AD)
  (Ac (sg hsc 5 rfl (sv hsc 15 rfl))
  (Ac (sg hsc 6 rfl (sv hsc 11 rfl))
  (Ah (sa hsc 7 rfl rfl (Ag (sv hsc 8 rfl) (sv hsc 12 rfl))))))))))))) (D6 rfl) K)
  (Ac (AG (Bp (All2.cons (cm rfl (sv hsc 3 rfl) (cb hsc 19 rfl (sl rfl (sv hsc 1 rfl) .nil) AO)) (All2.cons (cm rfl (fc Mo.f_law_answer Cq hsc 22 rfl (sl rfl (sv hsc 5 rfl) (sl rfl (cb hsc 19 rfl (sl rfl (sv hsc 4 rfl) .nil) AO) .nil)) hh (CX K Mo)) (Mn (by kernel_rfl))) (All2.nil)))) (Ah (AC C6)) AD)
  (Ah (AC (ce rfl (fc Mo.f_law_answer Cq hsc 22 rfl (sl rfl (Ag (Ag (sv hsc 5 rfl) ss) (A8 (sv hsc 1 rfl) (SimO.some (Ag (sv hsc 3 rfl) Ad)) SimO.none)) (sl rfl (cb hsc 19 rfl (sl rfl (sv hsc 4 rfl) .nil) AO) .nil)) hh (CX K Mo)) (Bh (sl rfl (Ag (cb hsc 19 rfl (sl rfl (sv hsc 5 rfl) .nil) AO) Ad) (sl rfl (sv hsc 6 rfl) .nil))))))))))))))
end Mi
end
section
open PySem PySem.W PySem.Calls PyProof.Rows
open PySem.Sem (wp)
set_option maxRecDepth 10000
namespace Mh
private theorem Q1 {c:ClaimW}{W1 c0 s':Shared}{args:List WData}{vs:List Value}{as:List Addr}{r:Result}(hsame:c.same=none)(hwi:c.within=[])(hi:∀ a b,c.ident a b=true)
  (hrd:ReadsAllW c.records (classAt W1.heap) c0.heap vs args as) (hold:∀ a∈as,∃ o,c0.heap.get? a=some o) (v7:c0.os=W1.os)
  (g:GoodWG c (classAt W1.heap) (ExcName.means W1.heap) args { c0 with gens:=#[] } r s') (hg:s'.gens = #[]):c.Ends W1 args vs c0 r s'/\s'.os=W1.os/\s'.gens = #[]:=by
 obtain ⟨hcase,hK,hos,hg'⟩:=g
 refine ⟨?_,hos.trans v7,hg⟩
 rcases hcase with ⟨v,d,bs,rfl,hnr,hrv,hpost,hun⟩ | ⟨e,ob,cls,rfl,he,hcls,hpr,hnew⟩
 ·exact .inl ⟨v,rfl,hnr,⟨d,args,bs,as,hrv,hrd.keepsK fun b o e hc=>hK.get_of_cls e hc,hpost,fun hu=>⟨(hun hu).1,(hun hu).2,fun a ha hb'=>by
   obtain ⟨o,ho⟩:=hold a hb'
   have:=(hun hu).2 a ha
   rw [show c0.heap.get? a=none from this] at ho;cases ho⟩,fun U U=>hi _ _⟩,(fun i hi'=>by rw [hsame] at hi';cases hi'),(fun b o hb' U U=>hK.old b o hb'),fun i hi'=>by rw [hwi] at hi';cases hi'⟩
 ·exact .inr ⟨e,ob,cls,rfl,he,hcls,hpr,hnew,fun b o hb'=>hK.old b o hb'⟩
noncomputable abbrev OC (q:Program)(loose:List Str)(XP:(Str->Option Value)->Heap->Prop)(YP:World->Heap->Prop)(r:RowW)(d:DefRec)(kwd:List (Str × Expr))(run:Value->List Value->Sem Value):Prop:=
 ∀ (w:World) (W1 c0:Shared) (mg mb:Str->Option Value),Ground q loose r.records XP w W1 mg mb c0.heap->YP w c0.heap->∀ (a:Addr) (o:Obj) (pm cd doc dV kV:Value),c0.heap.get? a=some o ->
  o.data = .func { docDef d.name d.params d.body d.scope pm cd doc with defaults:=dV,kwdefaults:=kV }->c0.heap.CodeRec cd d.name->Dflts mg c0.heap d.params kwd dV kV->mg d.name=some (.ref a)->c0.gens = #[] ->
  ∀ (args:List WData) (vals:List Value) (as:List Addr),r.claim.pre args=true->WData.layableAll args=true->ReadsAllW r.records (classAt W1.heap) c0.heap vals args as->WellAll w.params c0.heap vals args->(∀ a∈as,(a==sysModules)=false) ->
   wpAny (model r.prog w) callerA (run (.ref a) vals) (fun v s'=>GoodWG r.claim (classAt W1.heap) (ExcName.means W1.heap) args c0 (.ok (.ret v)) s'/\s'.gens = #[])
    (fun e s'=>GoodWG r.claim (classAt W1.heap) (ExcName.means W1.heap) args c0 (.error e) s'/\s'.gens = #[]) c0
private theorem Ko {α:Type}{r:OpenRow}{q:Program}{loose:List Str}{Yf:Shared->α}{Ya:World->α}{g:List (Addr × List Str)->Bool}{YP:World->Heap->Prop}{d:DefRec}{kwd:List (Str × Expr)}
  (left:∀ w,KW r.prog q loose Yf Ya g w) (hY:∀ w (S:SX),Inv w S->g S.gh=true->Yf S.sh.abs=Ya w->YP w S.sh.abs.heap) (hYk:∀ w h h',YP w h->(∀ b o,h.get? b=some o->h'.get? b=some o)->YP w h')
  (hdef:defOf q r.name=some (d,kwd)) (hp:r.prog.theDef r.name=some (d.params,d.body,d.scope)) (hk:kwWritten? d.params.kwonlyargs d.params.kw_defaults=some kwd) (hR:r.records=[]) (hw0:r.writes=false)
  (k1:r.wellSaid=true) (ok:(chainsOk q&&opensWell r.prog&&(frees r.toRowW&&r.within.isEmpty))=true) (hb:r.prog.bare) (hw:r.toRowW.promised)
  (call:OC q loose (fun U U=>True) YP r.toRowW d kwd fun f vs=>PySem.call f vs):r.Holds:=by
 obtain ⟨ok,k5⟩:=Bool.and_eq_true_iff.mp ok
 obtain ⟨hch,o1⟩:=Bool.and_eq_true_iff.mp ok
 obtain ⟨k5,k6⟩:=Bool.and_eq_true_iff.mp k5
 obtain ⟨hsame,hu,ha,hap,hm⟩:=frees_parts k5
 refine ⟨k1,hw,⟨hb,o1,by show r.makers.map _=[];rw [hm];rfl⟩,hw.witness,fun w=>⟨(left w).1,fun s' hs'=>?_⟩⟩
 obtain ⟨W1,hf,hg0,S,hI,hgh,hYf,hT,hz,hgens,hg,G00⟩:=(left w).2 s' hs'
 have RF:RecFacts r.records S.sh.abs.heap:=recFacts_nil hR
 have Y:=hY w S hI hgh hYf
 refine ⟨W1,hf,hg0,S.sh.abs,hT,fun n hn=>?_,RF.1,RF.2.1,?_⟩
 ·obtain rfl:n=r.name:=by split at hn <;> simp_all
  exact pinned_of_view hg G00 hdef hp hk
 ·have G:Ground q loose r.records (fun U U=>True) w S.sh.abs _ _ S.sh.abs.heap:=RF.ground G00
  refine ClaimW.callFrom_of_specN (c:=r.toRowW.claim) (tree:=fun vs=>do match <- nsGet mainNs r.name with
   | some f=>do ret (<- PySem.call f vs)
   | none=>unsupported "claim.caller:no-such-global") hz hgens fun args hpre hlay ord hord=>?_
  obtain ⟨⟨vs,c0⟩,hlaid⟩:=Option.isSome_iff_exists.mp (layAllW_isSome (P:=w.params) (ord:=ord) G.has args r.args S.sh.abs (pre_splitW hpre).1)
  have keeps:=layAllW_keeps _ _ _ hlaid
  have hal:=layAllW_rest _ _ _ hlaid
  obtain ⟨as,hrd,hin,hold⟩:=reads_layAllW hord _ _ _ hlaid hlay c0.heap (fun U U e=>e)
  have v6:=G.keeps (fun U U U U U=>trivial) keeps
  obtain ⟨a,o,pm,cd,doc,dV,kV,h1,h2,h3,h4,h5⟩:=v6.fn hdef
  have h:=call w S.sh.abs { c0 with gens:=#[] } _ _ v6 (hYk _ _ _ Y keeps) a o pm cd doc dV kV h2 h3 h4 h5 (defOf_name hdef▸h1) rfl args vs as hpre hlay hrd (well_layAllW hord args S.sh.abs (vs,c0) hlaid _ fun U U e=>e)
   (fun a ha=>beq_eq_false_iff_ne.mpr fun e=>by have:=(hin.2.2 a ha).1;subst e;exact absurd G.low (Nat.not_lt.mpr this))
  have hi:=ident_freeW hu ha hap
  have hwi:r.toRowW.claim.within=[]:=List.isEmpty_iff.mp k6
  have noW:∀ h':Heap,r.writes=true->namesKept r.prog r.keeps S.sh.abs.heap h'/\∀ x∈r.toRowW.claim.records,∀ a,classAt S.sh.abs.heap x.1=some a->recordClass h' a x.1 (x.2.map (·.1))=true:=fun h' q=>by rw [hw0] at q;cases q
  have ht:∀ (s:Shared) (mg:Str->Option Value) (f:Value) (Q:PySem.Fin->Shared->Prop) (E:Value->Shared->Prop),s.heap.Ns mainGlobals mg->mg r.name=some f->wpAny (model r.prog w) callerA (PySem.call f vs) (fun v s'=>Q (.done (.ret v)) s') E s ->
    wpAny (model r.prog w) callerA (do match <- nsGet mainNs r.name with
     | some f=>do ret (<- PySem.call f vs)
     | none=>unsupported "claim.caller:no-such-global") Q E s:=
   fun s mg f Q E hg hf h=>wpAny_bind (wpAny_nsGet hg (by rw [hf];exact wpAny_bind (wpAny_mono h (fun U U x=>wpAny_pure x) fun U U x=>x)))
  exact ⟨vs,c0,hlaid,ht { c0 with gens:=#[] } _ _ _ _ v6.T.g (defOf_name hdef▸h1) (wpAny_mono h (fun v s' g=>⟨_,rfl,have z:=Q1 (c:=r.toRowW.claim) hsame hwi hi hrd hold hal.2.2.1 g.1 g.2;⟨z.1,z.2.1,z.2.2,noW _⟩⟩)
   fun e s' g=>have z:=Q1 (c:=r.toRowW.claim) hsame hwi hi hrd hold hal.2.2.1 g.1 g.2;⟨z.1,z.2.1,z.2.2,noW _⟩)⟩
end Mh
end
section
open PySem PySem.W PyProof.Rows
set_option maxRecDepth 10000
namespace Mi
section
variable {W:Wd}{n:Nat}{s:Shared}{fd:FuncData}{fi:Fi}{a P:Addr}{vs:List Value}{l:List PV}
noncomputable def fm0 (P:Addr):Fm:={ env:={ (default:Env) with locals:=mainGlobals },stk:=[],av:=[P],own0:=[],tab:=[P],sc:=[],hdl:=none }
private theorem Qi (hb:∀ b o,W.h₀.get? b=some o->s.heap.get? b=some o)(hg:s.gens=W.gens)(ho:s.os=W.os)(hd:W.H.At W.h₀)(hP:BR W.H s.heap P):InvS W (fm0 P) [] ⟨fun U=>none,[]⟩ s:=by
 refine ⟨⟨hb,⟨_,hd.g.keeps hb,fun x i h=>(by cases h)⟩,fun x k i h=>(by cases h),⟨rfl,fun i l e=>by simp at e,List.nodup_nil,fun a h=>(by cases h),fun a h=>(by cases h)⟩,fun a h=>?_,trivial,fun Q h=>?_⟩,hg,ho⟩
 ·have h:=List.mem_singleton.mp h
  subst h
  obtain ⟨ps,e,_⟩:=hP
  rw [e];rfl
 ·have h:=List.mem_singleton.mp h
  subst h
  exact hP
private theorem OD {m:M PFlow}{ps':PS}{p:PV}(hb0:∀ b o,W.h₀.get? b=some o->s.heap.get? b=some o)(hg:s.gens=W.gens)(hos:s.os=W.os)(hd:W.H.At W.h₀)(hP:BR W.H s.heap P)(hP0:W.h₀.get? P=none)(hPt:P=W.H.tabP)
  (Fa:FnAt W.h₀ a fd fi) (ok:fi.Ok) (hb:BindsTo s fd ⟨vs,[]⟩ (fi.params.zip vs)) (hl:fi.params.length=vs.length)
  (rl:RepL W.H W.h₀ [P] [] s.heap l vs) (hn:n<=12) (body:∀ fm':Fm,fm'.sc=fi.sc->fm'.env.scope=fi.scope->fm'.hdl=none->SimS W n fm' fi.body m) (res:m ⟨fun i=>l[i]?,[]⟩ = .ok (.ret p) ps') :
  wpAny W.m callerA (call (.ref a) vs) (fun v s'=>(∃ av α,RepV W.H W.h₀ av α s'.heap p v)/\(∀ b o,W.h₀.get? b=some o->s'.heap.get? b=some o)/\BR W.H s'.heap P/\s'.gens=W.gens/\s'.os=W.os) (fun U U=>False) s:=by
 have Fa':=Fa.keeps hb0
 have I:=Qi hb0 hg hos hd hP
 obtain ⟨⟨o,ho,hd'⟩,hscope,hbody,hclo,hglob,hbi,hcode⟩:=Fa'
 have lim:s.heap.NoLimit:=hd.lim.keeps hb0
 have hdep:callerA.depth+n<900:=by
  have:callerA.depth<500:=by decide +kernel
  lia
 refine wpAny_call (codeAny_call_function (by show callerA.depth<1000;lia) ho hd' (by rw [hscope];exact ok.co) (by rw [hscope];exact ok.gen) hbody hcode (hb _ _ _ _ ?_))
 rw [hscope,hglob,hclo,hbi]
 refine wpAny_newFunctionEnv_cells ok.kind (fun p hp=>?_) fun env he c0 X=>?_
 ·have hm:p.1∈fi.params:=(List.of_mem_zip (show (p.1,p.2)∈fi.params.zip vs from hp)).1
  rcases ok.parK p.1 hm with q | q
  ·exact .inl q
  ·exact .inr ⟨q,Bi _ _ _ (.inl q)⟩
 ·have he':env=A9 fd fi s.heap.objs.size a:=he
  subst he'
  refine ⟨lim.keeps X.toInCall.keep,codeAny_func ?_⟩
  have F':FmOk W.h₀ (AH (fm0 P) fd fi s.heap.objs.size a):=FH (fun b m=>m) (fun b m=>(by cases m)) (fun b m=>by
   have m:=List.mem_singleton.mp m
   rw [m];exact hP0) I ok X
  have I':=DF (fd:=fd) (a:=a) I ok hl rl X
  have C':Ctx W (AH (fm0 P) fd fi s.heap.objs.size a) n (callerA.deeper (A9 fd fi s.heap.objs.size a)):=by
   refine ⟨Around.frames_deeper (A:=callerA) (outer:=[]) rfl,?_,?_,rfl,?_,F',hd⟩
   ·show callerA.depth+1+n<990;lia
   ·have:callerA.units=4:=rfl
    show callerA.units+3+20*n+1000<cLine
    have:1500<cLine:=by decide +kernel
    lia
   ·show [P]=[W.H.tabP];rw [hPt]
  refine wpAny_mono (body (AH (fm0 P) fd fi s.heap.objs.size a) rfl rfl rfl _ [] _ c0 C' I' (by rw [res];nofun)) (fun f s' z=>?_) fun x s' z=>?_
  ·obtain ⟨p',o0,α₁,u0,s0,d0,U2,rf⟩:=z
   have u0:m ⟨fun i=>l[i]?,[]⟩ = .ok p' o0:=u0
   rw [res] at u0;cases u0
   cases rf with
   | ret r=>exact ⟨⟨_,_,r⟩,s0.inv.base,s0.inv.tabs P (List.mem_singleton.mpr rfl),s0.gens,s0.os⟩
  ·obtain ⟨e,o0,α₁,u0,_⟩:=z
   have u0:m ⟨fun i=>l[i]?,[]⟩ = .ex e o0:=u0
   rw [res] at u0;cases u0
end
noncomputable def Sm (x y:Txt):Bool:=x==y
private theorem Qj {x y:Txt}(h:Sm x y=true):x=y:=eq_of_beq h
noncomputable def DL {β:Type}(o:Option β)(f:β->Bool):Bool:=match o with
 | some x=>f x
 | none=>false
private theorem Bk {β:Type}{o:Option β}{f:β->Bool}(h:DL o f=true):∃ x,o=some x/\f x=true:=by
 cases o with
 | none=>cases h
 | some x=>exact ⟨x,rfl,h⟩
noncomputable def gIs (h:Heap)(x:Str)(a:Nat):Bool:=DL (h.nsMap mainGlobals x) fun v=>DL (Mh.Hb v) fun b=>Nat.beq b a
private theorem De {h:Heap}{x:Str}{a:Nat}(q:gIs h x a=true):h.nsMap mainGlobals x=some (.ref a):=by
 obtain ⟨v,e,q⟩:=Bk q
 obtain ⟨b,f,q⟩:=Bk q
 rw [e,Mh.B2 f,Nat.eq_of_beq_eq_true q]
noncomputable def Kp (x:Str):Option Nat:=one x.cps.toList
noncomputable def RG (c:Nat)(l:List Str):Bool:=l.any fun x=>DL (Kp x) (Nat.beq c)
noncomputable def Q2 (l:List Str):Bool:=l.all fun x=>DL (Kp x) (Nat.blt · 128)
noncomputable def OE (k:Nat)(l:List Str):Bool:=Q2 l&&(List.range 128).all fun c=>(RG c l==AM k c)
private theorem Mx {k c:Nat}(h:128<=c):AM k c=false:=by
 rcases k with _ | _ | _ | _ | _ | k
 ·show (ctl c&&c != 9)=false
  simp [ctl];lia
 ·show (ctl c&&c != 9&&c != 10)=false
  simp [ctl];lia
 ·show (c==32||c==9)=false
  simp;lia
 ·show (c==32||c==9||c==10)=false
  simp;lia
 ·show hexd c=false
  simp [hexd];lia
 ·show ((48<=c&&c<=57)||(97<=c&&c<=122)||(65<=c&&c<=90)||c==45||c==95)=false
  simp;lia
private theorem ES {x:Str}{c:Nat}(h:Kp x=some c):x=txt [c]:=by
 rw [<- Bc x,DT h]
private theorem IZ {l:List Str}{c:Nat}:RG c l=true↔txt [c]∈l:=by
 refine List.any_eq_true.trans ⟨fun ⟨x,m,h⟩=>?_,fun m=>⟨_,m,Nat.beq_refl c⟩⟩
 obtain ⟨d,e,h⟩:=Bk h
 rw [Nat.eq_of_beq_eq_true h,<- ES e]
 exact m
private theorem G3 {l:List Str}(h:Q2 l=true)(x:Str)(m:x∈l):∃ c,x=txt [c]/\c<128:=by
 obtain ⟨d,e,h⟩:=Bk (List.all_eq_true.mp h x m)
 exact ⟨d,ES e,by simpa [Nat.blt_eq] using h⟩
private theorem OF {k:Nat}{l:List Str}(h:OE k l=true):(fun x=>decide (x∈l))=Ek k:=by
 obtain ⟨h1,h2⟩:=Bool.and_eq_true_iff.mp h
 have key:∀ c,decide (txt [c]∈l)=AM k c:=fun c=>by
  by_cases q:c<128
  ·have:=List.all_eq_true.mp h2 c (List.mem_range.mpr q)
   rw [<- beq_iff_eq.mp this]
   cases z:RG c l with
   | true=>exact decide_eq_true (IZ.mp z)
   | false=>exact decide_eq_false fun m=>by rw [IZ.mpr m] at z;cases z
  ·rw [Mx (by exact Mi.la [_] [([257],[2])] ([257],[2]) rfl (Nat.not_lt.mp q))]
   refine decide_eq_false fun m=>?_
   obtain ⟨d,e,lt⟩:=G3 h1 _ m
   have:=(List.cons.inj (Hn e)).1
   exact q (this▸lt)
 funext x
 have no:(∀ c,x.cps.toList≠[c])->decide (x∈l)=false:=fun n=>decide_eq_false fun m=>by
  obtain ⟨c,e,_⟩:=G3 h1 _ m
  exact n c (by rw [e];rfl)
 show _=Nk k x.cps.toList
 cases e:x.cps.toList with
 | nil=>exact no fun c z=>by rw [e] at z;cases z
 | cons c r=>
  cases r with
  | nil=>exact (by rw [<- e,Bc]:txt [c]=x)▸key c
  | cons d r=>exact no fun c z=>by rw [e] at z;cases z
private theorem RH {w:World}{S:Mh.SX}(I:Mh.Inv w S){a k:Nat}{l:List Str}(e:Mh.Ds a S.gh=some l)(h:OE k l=true)(prog:Program):∃ n,FrozAt (strKind prog w) S.sh.abs.heap a (Ek k) n/\n<4096:=by
 obtain ⟨hn,es,ep,t,e1,Si⟩:=I a l e
 refine ⟨l.length,?_,by have:=Si.lt;exact Mi.la [_] [([2,3,0],[2001])] ([2,3,0],[8193]) rfl this⟩
 rw [<- OF h]
 exact Si.froz (Mh.Cy hn e1)
private theorem Kq {prog:Program}{w:World}{K:Type}[DecidableEq K]{knd:KeyKind prog w K}{h h':Heap}{a:Addr}{S:K->Bool}{n:Nat}(x:FrozAt knd h a S n)(k:∀ o,h.get? a=some o->h'.get? a=some o):FrozAt knd h' a S n:=by
 obtain ⟨es,ep,t,e,r⟩:=x
 exact ⟨es,ep,t,k _ e,r⟩
noncomputable def Qk:Value->Option Str
 | .str k _=>some k
 | _=>none
private theorem Ll {v:Value}{k:Str}(h:Qk v=some k):∃ t,v = .str k t:=by
 cases v with
 | str k t=>cases h;exact ⟨t,rfl⟩
 | _=>cases h
noncomputable def My (v:Value)(x:Txt):Bool:=match Qk v with
 | some k=>Sm k.cps.toList x
 | none=>false
private theorem Lm {v:Value}{x:Txt}(h:My v x=true):∃ t,v = .str (txt x) t:=by
 unfold My at h
 cases e:Qk v with
 | none=>rw [e] at h;cases h
 | some k=>
  rw [e] at h
  obtain ⟨t,rfl⟩:=Ll e
  exact ⟨t,by rw [<- Qj h,Bc]⟩
noncomputable def Ql:List DictEntry->List (Txt × Txt)->Bool
 | [],l=>l.isEmpty
 | e::es,l=>match l with
  | []=>false
  | p::l=>My e.key p.1&&(My e.val p.2&&Ql es l)
inductive EsAt:List DictEntry->List (Txt × Txt)->Prop
 | nil:EsAt [] []
 | cons {hs:Int} {a b:Txt} {tk tv:Tok} {es:List DictEntry} {l:List (Txt × Txt)} (r:EsAt es l):EsAt (⟨hs,.str (txt a) tk,.str (txt b) tv⟩::es) ((a,b)::l)
private theorem Qm {es:List DictEntry}:∀ {l:List (Txt × Txt)},Ql es l=true->EsAt es l:=by
 induction es with
 | nil=>
  intro l h
  cases l with
  | nil=>exact .nil
  | cons=>cases h
 | cons e es ih=>
  intro l h
  cases l with
  | nil=>cases h
  | cons p l=>
   obtain ⟨h1,h2⟩:=Bool.and_eq_true_iff.mp (show (My e.key p.1&&(My e.val p.2&&Ql es l))=true from h)
   obtain ⟨h2,h3⟩:=Bool.and_eq_true_iff.mp h2
   obtain ⟨hs,ke,va⟩:=e
   obtain ⟨tk,rfl⟩:=Lm h1
   obtain ⟨tv,rfl⟩:=Lm h2
   exact .cons (ih h3)
noncomputable def RI (c:String):Value->Bool
 | .type d=>decide (d=c)
 | _=>false
private theorem Ln {c:String}{v:Value}(h:RI c v=true):v = .type c:=by
 cases v with
 | type d=>rw [of_decide_eq_true h]
 | _=>cases h
noncomputable def RJ:List Value->Option Addr
 | [v]=>Mh.Hb v
 | _=>none
noncomputable def OG:Data->Option Addr
 | .fields vs=>RJ vs.toList
 | _=>none
private theorem Mz {d:Data}{a:Addr}(h:OG d=some a):d = .fields #[.ref a]:=by
 cases d with
 | fields vs=>
  obtain ⟨l⟩:=vs
  cases l with
  | nil=>cases h
  | cons v r=>
   cases r with
   | nil=>rw [Mh.B2 h]
   | cons=>cases h
 | _=>cases h
noncomputable def OH:Data->Option (List DictEntry)
 | .dict es _=>some es.toList
 | _=>none
private theorem MA {d:Data}{es:List DictEntry}(h:OH d=some es):∃ ep,d = .dict es.toArray ep:=by
 cases d with
 | dict es ep=>cases h;exact ⟨ep,rfl⟩
 | _=>cases h
noncomputable def RK (o:Obj):Bool:=RI "dict" o.cls&&(o.dict.isNone&&o.slots.toList.isEmpty)
noncomputable def Lo (h:Heap)(a:Addr):Option (Addr × List DictEntry):=
 (h.get? a).bind fun o=>cond (RI "mappingproxy" o.cls) ((OG o.data).bind fun d=>cond (Nat.beq d sysModules) none ((h.get? d).bind fun od=>cond (RK od) ((OH od.data).bind fun es=>some (d,es)) none)) none
private theorem Ku {h:Heap}{a d:Addr}{es:List DictEntry}(q:Lo h a=some (d,es)):∃ o od ep,h.get? a=some o/\o.cls = .type "mappingproxy"/\o.data = .fields #[.ref d]/\(d==sysModules)=false/\h.get? d=some od/\od.ExactDict/\od.data = .dict es.toArray ep:=by
 refine Mh.AX q fun o e q=>Mh.BG q fun c q=>Mh.AX q fun d' e1 q=>Mh.M0 q fun n q=>Mh.AX q fun od e2 q=>Mh.BG q fun x q=>Mh.AX q fun es' e3 q=>?_
 obtain ⟨ep,e4⟩:=MA e3
 have q1:d'=d:=(Prod.mk.inj (Option.some.inj q)).1
 have q2:es'=es:=(Prod.mk.inj (Option.some.inj q)).2
 rw [q1] at e1 e2 n
 rw [q2] at e4
 obtain ⟨x1,x2⟩:=Bool.and_eq_true_iff.mp x
 obtain ⟨x2,x3⟩:=Bool.and_eq_true_iff.mp x2
 refine ⟨o,od,ep,e,Ln c,Mz e1,?_,e2,?_,e4⟩
 ·exact beq_eq_false_iff_ne.mpr fun z=>by rw [z,Nat.beq_refl] at n;cases n
 ·exact ⟨Ln x1,Option.isNone_iff_eq_none.mp x2,Array.ext' (List.isEmpty_iff.mp x3)⟩
private theorem MB {prog:Program}{w:World}{es:List DictEntry}{l:List (Txt × Txt)}(h:EsAt es l)(x:Txt):(l.lookup x=none->findBy (strKind prog w).is es.toArray (txt x)=none)/\∀ t,l.lookup x=some t->∃ tk,findBy (strKind prog w).is es.toArray (txt x)=some (.str (txt t) tk):=by
 induction h with
 | nil=>exact ⟨fun U=>rfl,fun t e=>(by cases e)⟩
 | @cons hs a b tk tv es l r ih=>
  unfold findBy at ih ⊢
  rw [List.find?_toArray] at ih ⊢
  rw [List.find?_cons,List.lookup_cons]
  by_cases q:x=a
  ·subst q
   rw [strKind_is,beq_self_eq_true]
   exact ⟨fun e=>(by cases e),fun t e=>⟨tv,by cases e;rfl⟩⟩
  ·have n1:(x==a)=false:=beq_eq_false_iff_ne.mpr q
   have n2:(strKind prog w).is (txt x) (.str (txt a) tk)=false:=by
    cases z:(strKind prog w).is (txt x) (.str (txt a) tk) with
    | false=>rfl
    | true=>exact absurd (Hn ((strKind prog w).inj _ _ _ z (strKind_is prog w _ tk))) q
   rw [n1,n2]
   exact ih
private theorem MC {prog:Program}{w:World}{es:List DictEntry}{l:List (Txt × Txt)}(h:EsAt es l)(hh:es.map (·.hash)=l.map (fun e=>hashStr w (txt e.1))):∀ e∈es,∃ k,(strKind prog w).is k e.key=true/\e.hash=(strKind prog w).hash k:=by
 induction h with
 | nil=>intro e m;cases m
 | @cons hs a b tk tv es l r ih=>
  intro e m
  have hh:=List.cons.inj hh
  cases m with
  | head=>exact ⟨txt a,strKind_is _ _ _ _,hh.1⟩
  | tail _ z=>exact ih hh.2 e z
private theorem I4 (x:Txt):escT x=Dk.lookup x:=rfl
noncomputable def MD (prog:Program)(w:World)(h:Heap)(a:Addr):Prop:=∃ o d f,h.get? a=some o/\o.cls = .type "mappingproxy"/\o.data = .fields #[.ref d]/\(d==sysModules)=false/\h.MapOf (strKind prog w) d f /\
  ∀ x:Txt,(escT x=none->f (txt x)=none)/\∀ t,escT x=some t->∃ tk,f (txt x)=some (.str (txt t) tk)
noncomputable def Sn (h:Heap)(a:Addr):Option (List Int):=(Lo h a).bind fun r=>cond (Ql r.2 Dk) (some (r.2.map (·.hash))) none
private theorem So {prog:Program}{w:World}{h:Heap}{a:Addr}(q:Sn h a=some (Dk.map fun e=>hashStr w (txt e.1))):MD prog w h a:=by
 refine Mh.AX q fun r e q=>Mh.BG q fun ho q=>?_
 obtain ⟨d,es⟩:=r
 obtain ⟨o,od,ep,h1,h2,h3,h4,h5,h6,h7⟩:=Ku e
 have E:=Qm ho
 refine ⟨o,d,fun k=>findBy (strKind prog w).is es.toArray k,h1,h2,h3,h4,⟨od,es.toArray,ep,h5,h6,h7,fun e m=>MC E (Option.some.inj q) e (Array.mem_toList_iff.mpr m),fun U=>rfl⟩,fun x=>?_⟩
 rw [I4]
 exact MB E x
private theorem MD.keeps {prog:Program}{w:World}{h h':Heap}{a:Addr}(x:MD prog w h a)(k:∀ b o,h.get? b=some o->o.cls≠.none->h'.get? b=some o):MD prog w h' a:=by
 obtain ⟨o,d,f,h1,h2,h3,h4,⟨od,es,ep,m1,m2,m3⟩,h6⟩:=x
 exact ⟨o,d,f,k _ _ h1 (by rw [h2];nofun),h2,h3,h4,⟨od,es,ep,k _ _ m1 (by rw [m2.1];nofun),m2,m3⟩,h6⟩
noncomputable def OI (h:Heap):Bool:=h.ownExcOk "TOMLDecodeError" [] LK "ValueError.__new__"&&match h.clsAt mainGlobals "TOMLDecodeError" with
 | some (_,_,cd)=>(["__init__", "__getattribute__", "__getattr__", "args", "__str__", "__repr__", "__new__"]:List Str).all fun x=>(h.nsMap cd.ns x).isNone
 | none=>false
set_option tactic.hygienic true in
private theorem RL {h:Heap}(q:OI h=true):∃ C,h.nsMap mainGlobals "TOMLDecodeError" = some (.ref C)/\ClsAt C h:=by
 unfold OI at q
 obtain ⟨q1,q2⟩:=Bool.and_eq_true_iff.mp q
 obtain ⟨C,N,nm,qn,bs,hdct,sn,sub,ab,col,dd,k0,k1,k2,k3,k5,g1,g2,g3,g4⟩:=Heap.ownExc_of_ok q1
 refine ⟨C,g1,⟨nm,qn,N,bs,hdct,sn,sub,ab,col,dd,k0,k1,k2,k3,k5,_,g2,g3,fun x m=>?_⟩⟩
 split at q2
 ·rename_i C' o cd e
  obtain ⟨f1,f2,f3⟩:=Heap.clsAt_spec e
  rw [g1] at f1;cases f1
  rw [g2] at f2;cases f2
  cases f3
  have:=List.all_eq_true.mp q2 x m
  simpa using this
 ·cases q2
private theorem ClsAt.keepsC {C:Addr}{h h':Heap}(x:ClsAt C h)(k:∀ b o,h.get? b=some o->o.cls≠.none\/(∀ vs,o.data≠.fields vs)->h'.get? b=some o):ClsAt C h':=by
 obtain ⟨nm,q,N,bs,hdct,sn,sub,ab,col,dd,k0,k1,k2,k3,k5,mN,h1,⟨o,es,ep,n1,n2,n3⟩,h3⟩:=x.at_
 exact ⟨nm,q,N,bs,hdct,sn,sub,ab,col,dd,k0,k1,k2,k3,k5,mN,k _ _ h1 (.inl (by nofun)),⟨o,es,ep,k _ _ n1 (.inr fun vs z=>by rw [n2] at z;cases z),n2,n3⟩,h3⟩
end Mi
end
section
open PySem PySem.W PySem.Calls PyProof.Rows
set_option maxRecDepth 100000
namespace Mi
open PySem.Challenge
noncomputable def G4 (fd:FuncData)(ps:List Str)(np:Nat)(kws:List Str):Prop:=∀ vs ks:List Value,vs.length=np->ks.length=kws.length->bindArgs fd ⟨vs,kws.zip ks⟩=pure (ps.zip (vs++(ks++[])))
private theorem F5 {vs:List Value}{n:Nat}(h:vs.length=n+1):∃ a r,vs=a::r/\r.length=n:=by
 cases vs with
 | nil=>cases h
 | cons a r=>exact ⟨a,r,rfl,Nat.succ.inj h⟩
private theorem Sq {fd:FuncData}{ps:List Str}(h:∀ a,bindArgs fd ⟨[a],[]⟩=pure (ps.zip [a])):G4 fd ps 1 []:=by
 intro vs ks q1 q2
 obtain ⟨a,r1,rfl,p1⟩:=F5 q1
 cases List.eq_nil_of_length_eq_zero p1
 cases List.eq_nil_of_length_eq_zero q2
 exact h a
private theorem RM {fd:FuncData}{ps:List Str}(h:∀ a b,bindArgs fd ⟨[a,b],[]⟩=pure (ps.zip [a,b])):G4 fd ps 2 []:=by
 intro vs ks q1 q2
 obtain ⟨a,r1,rfl,p1⟩:=F5 q1
 obtain ⟨b,r2,rfl,p2⟩:=F5 p1
 cases List.eq_nil_of_length_eq_zero p2
 cases List.eq_nil_of_length_eq_zero q2
 exact h a b
private theorem Qn {fd:FuncData}{ps:List Str}(h:∀ a b c,bindArgs fd ⟨[a,b,c],[]⟩=pure (ps.zip [a,b,c])):G4 fd ps 3 []:=by
 intro vs ks q1 q2
 obtain ⟨a,r1,rfl,p1⟩:=F5 q1
 obtain ⟨b,r2,rfl,p2⟩:=F5 p1
 obtain ⟨c,r3,rfl,p3⟩:=F5 p2
 cases List.eq_nil_of_length_eq_zero p3
 cases List.eq_nil_of_length_eq_zero q2
 exact h a b c
private theorem Sr {fd:FuncData}{ps:List Str}{x:Str}(h:∀ a b c,bindArgs fd ⟨[a,b],[(x,c)]⟩=pure (ps.zip [a,b,c])):G4 fd ps 2 [x]:=by
 intro vs ks q1 q2
 obtain ⟨a,r1,rfl,p1⟩:=F5 q1
 obtain ⟨b,r2,rfl,p2⟩:=F5 p1
 obtain ⟨c,r3,rfl,p3⟩:=F5 q2
 cases List.eq_nil_of_length_eq_zero p2
 cases List.eq_nil_of_length_eq_zero p3
 exact h a b c
private theorem OJ {s:Shared}{fd:FuncData}{x:Str}{u:Value}{d:Addr}{m:Str->Option Value}{vs:List Value}{L:List (Str × Value)}{α₁ z0:Type}{Z6:Option Value->Sem α₁}{b7:α₁->Sem z0}{e7:z0->Sem (List (Str × Value))}(hn:s.heap.Ns d m)(hm:m x=some u)
  (h:bindArgs fd ⟨vs,[]⟩=((nsGet d x >>= Z6) >>= b7) >>= e7) (hF:(Z6 (some u) >>= b7) >>= e7=pure L):BindsTo s fd ⟨vs,[]⟩ L:=by
 intro M A E Q hq
 rw [h,bind_assoc,bind_assoc]
 refine wpAny_bind (wpAny_nsGet hn ?_)
 rw [hm,<- bind_assoc,hF]
 exact wpAny_pure hq
section
variable {p:Program}{loose:List Str}{mean:ExcName->Option Value}{mg mb:Str->Option Value}{h:Heap}{W:Wd}
private theorem Q3 {d:DefRec}{fi:Fi}(T:Top p loose mean mg mb h)(K:∀ b o,h.get? b=some o->o≠tabObj #[]->W.h₀.get? b=some o){j:Nat}(hj:(recsOf p)[j]? = some d)(h1:d.scope=fi.scope)(h2:d.body=fi.body) :
  ∃ a pm cd doc,mg d.name=some (.ref a)/\FnAt W.h₀ a (docDef d.name d.params d.body d.scope pm cd doc) fi:=by
 obtain ⟨a,o,pm,cd,doc,e1,e2,e3,e4⟩:=T.fn d (List.mem_of_getElem? hj)
 obtain ⟨c,oc,vs,t,f1,f2,f3,f4⟩:=e4
 refine ⟨a,pm,cd,doc,e1,⟨o,K _ _ e2 (fun z=>by rw [z] at e3;cases e3),e3⟩,h1,by show FuncBody.stmts d.body=_;rw [h2],rfl,rfl,rfl,⟨c,oc,vs,t,f1,K _ _ f2 fun z=>?_,f3,f4⟩⟩
 rw [z] at f3
 cases f3
 simp at f4
private theorem Eb {d:DefRec}{fi:Fi}{x:Str}{np:Nat}{kws:List Str}(hH:W.H.mg=mg)(T:Top p loose mean mg mb h)(K:∀ b o,h.get? b=some o->o≠tabObj #[]->W.h₀.get? b=some o){j:Nat}(hj:(recsOf p)[j]? = some d)(hx:d.name=x)
  (h1:d.scope=fi.scope) (h2:d.body=fi.body) (hl:fi.params.length=np+kws.length+0) (hb:∀ pm cd doc,G4 (docDef d.name d.params d.body d.scope pm cd doc) fi.params np kws):EC W x fi np kws []:=by
 obtain ⟨a,pm,cd,doc,e1,F⟩:=Q3 T K hj h1 h2
 exact ⟨a,_,by rw [hH,<- hx];exact e1,F,hl,fun s vs ks U q1 q2=>.of_eq (hb pm cd doc vs ks q1 q2)⟩
end
noncomputable def q01:Program:=view pw_kp0046_01 [0,1,3,4,5,6,7,8,9,10,12,14,15,16,17,19,20,21,22,23,25,26,27,28,29]
noncomputable def Be:List Str:=["_WallAttr", "ASCII_CTRL", "ILLEGAL_BASIC_STR_CHARS", "ILLEGAL_MULTILINE_BASIC_STR_CHARS", "TOML_WS", "TOML_WS_AND_NEWLINE", "hexdigits", "HEXDIGIT_CHARS", "MappingProxyType", "BASIC_STR_ESCAPE_REPLACEMENTS", "parse_basic_str_escape"]
noncomputable def OK (k:Nat):Option Addr:=[72,77,78,86,87][k]?
noncomputable def ME (k a:Nat)(gh:List (Addr × List Str)):Bool:=DL (Mh.Ds a gh) (OE k)
noncomputable def g01 (gh:List (Addr × List Str)):Bool:=ME 0 72 gh&&(ME 1 77 gh&&(ME 2 78 gh&&(ME 3 86 gh&&ME 4 87 gh)))
private theorem Ec {k a:Nat}{w:World}{S:Mh.SX}(I:Mh.Inv w S)(h:ME k a S.gh=true)(prog:Program):∃ n,FrozAt (strKind prog w) S.sh.abs.heap a (Ek k) n/\n<4096:=by
 obtain ⟨l,e,h⟩:=Bk h
 exact RH I e h prog
noncomputable def Kv:Data->Option FuncData
 | .func fd=>some fd
 | _=>none
noncomputable def I5:Data->Option (Array Value)
 | .fields vs=>some vs
 | _=>none
noncomputable def Ss:Value->Bool
 | .type _=>true
 | _=>false
private theorem I6 {d:Data}{fd:FuncData}(h:Kv d=some fd):d = .func fd:=by cases d <;> cases h <;> rfl
private theorem fieldsOf_some {d:Data}{vs:Array Value}(h:I5 d=some vs):d = .fields vs:=by cases d <;> cases h <;> rfl
noncomputable def HS (h:Heap)(a:Addr):Option (Str × Arguments × FuncBody × Scope × Addr × List (Str × Addr) × Value × Addr):=(h.get? a).bind fun o=>(Kv o.data).bind fun fd=>some (fd.qualname,fd.params,fd.body,fd.scope,fd.globals,fd.closure,fd.defaults,fd.builtins)
noncomputable def Lp (h:Heap)(a:Addr)(q x:Str):Bool:=DL (h.get? a) fun o=>DL (Kv o.data) fun fd=>DL (Mh.Hb fd.kwdefaults) fun d=>h.isNs d&&(decide (h.nsMap d x=some (.bool false))&&DL (Mh.Hb fd.code) fun c=>DL (h.get? c) fun oc=>Ss oc.cls&&DL (I5 oc.data) fun vs=>DL vs[1]? fun v=>DL (Qk v) fun q'=>decide (q'=q))
noncomputable def I7 (h:Heap)(a:Addr)(q x:Str)(st:Stmt):Prop:=∃ o fd d m,h.get? a=some o/\o.data = .func fd/\fd.qualname=q/\fd.params=FY st/\fd.body = .stmts (AW st)/\fd.scope=A2 st/\fd.globals=mainGlobals/\fd.closure=[]/\fd.defaults = .none/\fd.builtins=builtinsNs /\
 fd.kwdefaults = .ref d/\h.Ns d m/\m x=some (.bool false)/\∃ c oc vs t,fd.code = .ref c/\h.get? c=some oc/\oc.cls≠.none/\oc.data = .fields vs/\vs[1]? = some (.str q t)
private theorem RN {h:Heap}{a:Addr}{q x:Str}{st:Stmt}(h1:HS h a=some (q,FY st,.stmts (AW st),A2 st,mainGlobals,[],.none,builtinsNs))(h2:Lp h a q x=true):I7 h a q x st:=by
 obtain ⟨o,e,h2⟩:=Bk h2
 obtain ⟨fd,f,h2⟩:=Bk h2
 obtain ⟨d,ed,h2⟩:=Bk h2
 obtain ⟨n1,h2⟩:=Bool.and_eq_true_iff.mp h2
 obtain ⟨n2,h2⟩:=Bool.and_eq_true_iff.mp h2
 obtain ⟨c,ec,h2⟩:=Bk h2
 obtain ⟨oc,eo,h2⟩:=Bk h2
 obtain ⟨et,h2⟩:=Bool.and_eq_true_iff.mp h2
 obtain ⟨vs,ev,h2⟩:=Bk h2
 obtain ⟨v,v1,h2⟩:=Bk h2
 obtain ⟨q',v2,h2⟩:=Bk h2
 obtain ⟨t,rfl⟩:=Ll v2
 rw [HS,e,Option.bind_some,f,Option.bind_some] at h1
 have h1:=Option.some.inj h1
 exact ⟨o,fd,d,_,e,I6 f,congrArg (·.1) h1,congrArg (·.2.1) h1,congrArg (·.2.2.1) h1,congrArg (·.2.2.2.1) h1,congrArg (·.2.2.2.2.1) h1,congrArg (·.2.2.2.2.2.1) h1,congrArg (·.2.2.2.2.2.2.1) h1,congrArg (·.2.2.2.2.2.2.2) h1,
  Mh.B2 ed,.of_isNs n1,of_decide_eq_true n2,c,oc,vs,t,Mh.B2 ec,eo,fun z=>by (rw [z] at et;cases et),fieldsOf_some ev,of_decide_eq_true h2▸v1⟩
private theorem I7.keeps {h h':Heap}{a:Addr}{q x:Str}{st:Stmt}(X:I7 h a q x st)(k:∀ b o,h.get? b=some o->o≠tabObj #[]->h'.get? b=some o):I7 h' a q x st:=by
 obtain ⟨o,fd,d,m,h1,h2,h3,h4,h5,h6,h7,h8,h9,h10,h11,⟨o',es,ep,n1,n2,n3⟩,h13,c,oc,vs,t,c1,c2,c3,c4⟩:=X
 exact ⟨o,fd,d,m,k _ _ h1 (fun z=>by rw [z] at h2;cases h2),h2,h3,h4,h5,h6,h7,h8,h9,h10,h11,⟨o',es,ep,k _ _ n1 (fun z=>by rw [z] at n2;cases n2),n2,n3⟩,h13,c,oc,vs,t,c1,k _ _ c2 (fun z=>by rw [z] at c3;exact c3 rfl),c3,c4⟩
noncomputable def Su:Data->Bool
 | .dict _ _=>true
 | _=>false
noncomputable def Q4 (h:Heap):Bool:=DL (h.get? sysModules) fun o=>Su o.data
noncomputable def OL (h:Heap):Prop:=∃ o es ep,h.get? sysModules=some o/\o.data = .dict es ep
private theorem RO {h:Heap}(q:Q4 h=true):OL h:=by
 obtain ⟨o,e,q⟩:=Bk q
 cases z:o.data <;> rw [z] at q <;> cases q
 exact ⟨o,_,_,e,z⟩
noncomputable def Lq (h:Heap):Bool:=gIs h "ILLEGAL_BASIC_STR_CHARS" 72&&(gIs h "ILLEGAL_BASIC_STR_CHARS" 72&&(gIs h "ILLEGAL_MULTILINE_BASIC_STR_CHARS" 77&&(gIs h "TOML_WS" 78&&(gIs h "TOML_WS_AND_NEWLINE" 86&&(gIs h "HEXDIGIT_CHARS" 87 &&
 (gIs h "BASIC_STR_ESCAPE_REPLACEMENTS" 93&&(gIs h "parse_basic_str_escape" 128&&(OI h&&(Q4 h&&(h.isNs mainGlobals&&Lp h 128 "parse_basic_str_escape" "multiline"))))))))))
noncomputable abbrev Y01:Type:=Bool × Option (List Int) × Option (Str × Arguments × FuncBody × Scope × Addr × List (Str × Addr) × Value × Addr)
noncomputable def Kw (s:Shared):Y01:=(Lq s.heap,Sn s.heap 93,HS s.heap 128)
noncomputable def Ky (w:World):Y01:=(true,some (Dk.map fun e=>hashStr w (txt e.1)),some ("parse_basic_str_escape",FY (nth 18),.stmts (AW (nth 18)),A2 (nth 18),mainGlobals,[],.none,builtinsNs))
structure Head01 (w:World)(h:Heap)(m:Str->Option Value):Prop where
 ns:h.Ns mainGlobals m
 n0:m "ILLEGAL_BASIC_STR_CHARS" = some (.ref 72)
 n1:m "ILLEGAL_BASIC_STR_CHARS" = some (.ref 72)
 n2:m "ILLEGAL_MULTILINE_BASIC_STR_CHARS" = some (.ref 77)
 n3:m "TOML_WS" = some (.ref 78)
 n4:m "TOML_WS_AND_NEWLINE" = some (.ref 86)
 n5:m "HEXDIGIT_CHARS" = some (.ref 87)
 n6:m "BASIC_STR_ESCAPE_REPLACEMENTS" = some (.ref 93)
 n7:m "parse_basic_str_escape" = some (.ref 128)
 cls:∃ C,m "TOMLDecodeError" = some (.ref C)/\ClsAt C h
 sys:OL h
 mp:MD pw_kp0046_01 w h 93
 sets:∀ k a,OK k=some a->∃ n,FrozAt (strKind pw_kp0046_01 w) h a (Ek k) n/\n<4096
 esc:I7 h 128 "parse_basic_str_escape" "multiline" (nth 18)
private theorem Head01.keeps {w:World}{h h':Heap}{m:Str->Option Value}(x:Head01 w h m)(k:∀ b o,h.get? b=some o->o≠tabObj #[]->h'.get? b=some o):Head01 w h' m where
 ns:=by
  obtain ⟨o,es,ep,e,hd,r⟩:=x.ns
  exact ⟨o,es,ep,k _ _ e (fun z=>by rw [z] at hd;cases hd),hd,r⟩
 n0:=x.n0
 n1:=x.n1
 n2:=x.n2
 n3:=x.n3
 n4:=x.n4
 n5:=x.n5
 n6:=x.n6
 n7:=x.n7
 cls:=by
  obtain ⟨C,e,X⟩:=x.cls
  exact ⟨C,e,X.keepsC fun b o e q=>k b o e fun z=>by
  subst z
  rcases q with q | q
  ·exact q rfl
  ·exact q #[] rfl⟩
 sys:=by
  obtain ⟨o,es,ep,e,hd⟩:=x.sys
  exact ⟨o,es,ep,k _ _ e (fun z=>by rw [z] at hd;cases hd),hd⟩
 mp:=x.mp.keeps fun b o e n=>k b o e fun z=>by rw [z] at n;exact n rfl
 sets:=fun i a e=>by
  obtain ⟨n,F,lt⟩:=x.sets i a e
  exact ⟨n,Kq F (fun o e=>k _ _ e fun z=>(by
  obtain ⟨es,ep,t,e',_⟩:=F
  rw [e] at e'
  rw [z] at e'
  cases e')),lt⟩
 esc:=x.esc.keeps k
noncomputable def Qo (w:World)(h:Heap):Prop:=∃ m,Head01 w h m
private theorem Kz (w:World)(h h':Heap):Qo w h->(∀ b o,h.get? b=some o->h'.get? b=some o)->Qo w h':=fun ⟨m,x⟩ k=>⟨m,x.keeps fun b o e U=>k b o e⟩
private theorem Qp (w:World)(S:Mh.SX)(I:Mh.Inv w S)(hg:g01 S.gh=true)(hy:Kw S.sh.abs=Ky w):Qo w S.sh.abs.heap:=by
 simp only [Kw,Ky,Prod.mk.injEq] at hy
 obtain ⟨y1,y2,y3⟩:=hy
 simp only [Lq,Bool.and_eq_true] at y1
 obtain ⟨a0,a1,a2,a3,a4,a5,a6,a7,a8,a9,a10,a11⟩:=y1
 simp only [g01,Bool.and_eq_true] at hg
 obtain ⟨g0,g1,g2,g3,g4⟩:=hg
 refine ⟨_,.of_isNs a10,De a0,De a1,De a2,De a3,De a4,De a5,De a6,De a7,RL a8,RO a9,So y2,fun k a e=>?_,RN y3 a11⟩
 rcases k with _ | _ | _ | _ | _ | k <;> cases e
 ·exact Ec I g0 _
 ·exact Ec I g1 _
 ·exact Ec I g2 _
 ·exact Ec I g3 _
 ·exact Ec I g4 _
private theorem OM (w:World)(os:OsState):Mh.CM (Mh.DA pw_kp0046_01 ((w.withFollow "comprehension-iter-twice" true).withFollow "special-get-raises" true) os)
  (Mh.look pw_kp0046_01 q01 Be ((w.withFollow "comprehension-iter-twice" true).withFollow "special-get-raises" true) Kw) g01 =
  some (Mh.Ju q01 Be ((w.withFollow "comprehension-iter-twice" true).withFollow "special-get-raises" true) os (Ky ((w.withFollow "comprehension-iter-twice" true).withFollow "special-get-raises" true))):=by kernel_rfl
private theorem ON (w:World)(os:OsState):Mh.CM (Mh.DA pw_kp0046_01 ((w.withFollow "comprehension-iter-twice" true).withFollow "special-get-raises" false) os)
  (Mh.look pw_kp0046_01 q01 Be ((w.withFollow "comprehension-iter-twice" true).withFollow "special-get-raises" false) Kw) g01 =
  some (Mh.Ju q01 Be ((w.withFollow "comprehension-iter-twice" true).withFollow "special-get-raises" false) os (Ky ((w.withFollow "comprehension-iter-twice" true).withFollow "special-get-raises" false))):=by kernel_rfl
private theorem OO (w:World)(os:OsState):Mh.CM (Mh.DA pw_kp0046_01 ((w.withFollow "comprehension-iter-twice" false).withFollow "special-get-raises" true) os)
  (Mh.look pw_kp0046_01 q01 Be ((w.withFollow "comprehension-iter-twice" false).withFollow "special-get-raises" true) Kw) g01 =
  some (Mh.Ju q01 Be ((w.withFollow "comprehension-iter-twice" false).withFollow "special-get-raises" true) os (Ky ((w.withFollow "comprehension-iter-twice" false).withFollow "special-get-raises" true))):=by kernel_rfl
private theorem OP (w:World)(os:OsState):Mh.CM (Mh.DA pw_kp0046_01 ((w.withFollow "comprehension-iter-twice" false).withFollow "special-get-raises" false) os)
  (Mh.look pw_kp0046_01 q01 Be ((w.withFollow "comprehension-iter-twice" false).withFollow "special-get-raises" false) Kw) g01 =
  some (Mh.Ju q01 Be ((w.withFollow "comprehension-iter-twice" false).withFollow "special-get-raises" false) os (Ky ((w.withFollow "comprehension-iter-twice" false).withFollow "special-get-raises" false))):=by kernel_rfl
private theorem Sv (b1 b2:Bool)(w:World)(os:OsState):Mh.CM (Mh.DA pw_kp0046_01 ((w.withFollow "comprehension-iter-twice" b1).withFollow "special-get-raises" b2) os)
  (Mh.look pw_kp0046_01 q01 Be ((w.withFollow "comprehension-iter-twice" b1).withFollow "special-get-raises" b2) Kw) g01 =
  some (Mh.Ju q01 Be ((w.withFollow "comprehension-iter-twice" b1).withFollow "special-get-raises" b2) os (Ky ((w.withFollow "comprehension-iter-twice" b1).withFollow "special-get-raises" b2))):=by
 cases b1 <;> cases b2
 ·exact OP w os
 ·exact OO w os
 ·exact ON w os
 ·exact OM w os
private theorem KA {R:WRecords}{cl:Str->Option Addr}{h:Heap}:∀ {xs:List WData} {vs:List Value} {as:List Addr},WShape.hasItems R xs .int=true->ReadsAllW R cl h vs xs as->∃ l:List Int,xs=l.map .int/\IntsAre vs l:=by
 intro xs
 induction xs with
 | nil=>
  intro vs as _ r
  obtain ⟨rfl,_⟩:=readsAllW_nil_inv r
  exact ⟨[],rfl,.nil⟩
 | cons x xs ih=>
  intro vs as hx r
  obtain ⟨h1,h2⟩:=Bool.and_eq_true_iff.mp hx
  obtain ⟨i,rfl⟩:=hasW_int h1
  obtain ⟨v,vs,_,_,rfl,_,a,b⟩:=readsAllW_cons_inv r
  obtain ⟨t,rfl,_⟩:=readsW_int_inv a
  obtain ⟨l,rfl,q⟩:=ih h2 b
  exact ⟨i::l,rfl,.cons i t q⟩
private theorem MF {R:WRecords}{cl:Str->Option Addr}{h:Heap}{args:List WData}{vals:List Value}{as:List Addr}(h1:WShape.hasAll R args [.list .int]=true)(rd:ReadsAllW R cl h vals args as) :
  ∃ L vs l,vals=[.ref L]/\args=[.list (l.map .int)]/\h.IsList L vs/\IntsAre vs.toList l:=by
 obtain ⟨d,r,rfl,hd,hr⟩:=hasAllW_cons h1
 obtain rfl:=hasAllW_nil hr
 obtain ⟨xs,rfl,hi⟩:=hasW_list hd
 obtain ⟨v,vs,_,_,rfl,_,a,b⟩:=readsAllW_cons_inv rd
 obtain ⟨rfl,_⟩:=readsAllW_nil_inv b
 obtain ⟨L,o,its,n,ai,rfl,e1,e2,e3,e4,_⟩:=readsW_list_open a
 obtain ⟨l,rfl,q⟩:=KA hi e4
 exact ⟨L,its,l,rfl,rfl,⟨o,e1,e2,n,e3⟩,q⟩
private theorem Qq {R:WRecords}{n:Nat}{l:List Int}{b:WTm}(h:(WTm.and (.not (.lt (.lit (.int n)) (.len (.arg 0)))) b).holds R { args:=[.list (l.map .int)] } = true):l.length<=n:=by
 have h:=condW_of (X:=!decide ((n:Int)<((l.map WData.int).length:Int))) (holds_andW h).1 rfl
 rw [List.length_map] at h
 refine Nat.le_of_not_lt fun q=>?_
 rw [decide_eq_true (Int.ofNat_lt.mpr q)] at h
 injection h
section
variable {p:Program}{loose:List Str}{mean:ExcName->Option Value}{mg mb:Str->Option Value}{h:Heap}
private theorem Sw {H:Hd}{c P:Addr}(hT:TabsAt [(c,P)] h)(T:Top p loose mean mg mb h)(hg:H.mg=mg)(hb:H.mb=mb)(hfree:(Bo.all fun x=>!startupNames.contains x&&(!loose.contains x&&(!((recsOf p).map (·.name)).contains x&&(!((litsOf p).map (·.1)).contains x&&!((clssOf p loose).map (·.name)).contains x))))=true)
  (toml:mg "TOMLDecodeError" = some (.ref H.toml)) (tomlC:ClsAt H.toml (ghostOf h [(c,P)])) (sys:OL h)
  (sets:∀ k a,H.setv k=some a->∃ n,FrozAt (strKind H.prog H.w) (ghostOf h [(c,P)]) a (Ek k) n/\n<4096) (mp:MD H.prog H.w (ghostOf h [(c,P)]) H.mpv):H.At (ghostOf h [(c,P)]) where
 g:=by rw [hg];exact ghost_ns hT T.g
 b:=by rw [hb];exact ghost_ns hT T.b
 lim:=let ⟨mc,a,r⟩:=T.nolimit;⟨mc,ghost_ns hT a,r⟩
 sysm:=by
  obtain ⟨o,es,ep,e,hd⟩:=sys
  rw [ghost_get hT e (fun z=>by rw [z] at hd;cases hd)];rfl
 bu:=by rw [hb];exact T.builtins
 free:=fun x m=>by
  rw [hg]
  have:=List.all_eq_true.mp hfree x m
  simp only [Bool.and_eq_true,Bool.not_eq_true',List.contains_eq_mem,decide_eq_false_iff_not] at this
  exact T.free x this.1 this.2.1 this.2.2.1 this.2.2.2.1 this.2.2.2.2
 toml:=by rw [hg];exact toml
 tomlC:=tomlC
 bmain:=by
  rw [hg]
  obtain ⟨bm,ob,a1,a2,a3,a4,a5,a6⟩:=T.bmain
  exact ⟨bm,ob,a1,a2,ghost_get hT a3 (fun q=>by rw [q] at a4;cases a4),a4,a5,a6⟩
 sets:=sets
 mp:=mp
end
noncomputable def Lr:Prop:=∀ l:List Int,l.length<=63->∃ K ps',G2 K ⟨fun i=>([PV.ints l])[i]?,[]⟩ = .ok (.ret (.bool true)) ps'
noncomputable def dOf (x:Str)(i:Nat):DefRec:=⟨x,FY (nth i),AW (nth i),A2 (nth i),Lh (nth i)⟩
noncomputable def I8 (w:World)(mg mb:Str->Option Value)(C P:Addr):Hd:={ prog:=pw_kp0046_01,w:=w,mg:=mg,mb:=mb,fnv:=fun k=>if k=0 then 128 else match mg "parse_basic_str_escape_multiline" with | some (.ref a)=>a | _=>0,setv:=OK,mpv:=93,toml:=C,tabPos:=Lh ((AW (nth 22)).getD 0 (.Pass default)),tabQ:=("suffixed_err":Str)++(".<locals>.":Str)++("coord_repr":Str),tabP:=P }
private theorem RP:(Bo.all fun x=>!startupNames.contains x&&(!(looseW q01 Be).contains x&&(!((recsOf q01).map (·.name)).contains x&&(!((litsOf q01).map (·.1)).contains x&&!((clssOf q01 (looseW q01 Be)).map (·.name)).contains x))))=true:=by kernel_rfl
private theorem Sx {os:OsState}{w:World}{mean:ExcName->Option Value}{mg mb:Str->Option Value}{h:Heap}{c P C:Addr}(T:Top q01 (looseW q01 Be) mean mg mb h)(hT:TabsAt [(c,P)] h)(Y:Head01 w h mg)
  (hs:∃ a pm doc,mg "suffixed_err" = some (.ref a)/\FnAt (ghostOf h [(c,P)]) a (docDef (dOf "suffixed_err" 22).name (dOf "suffixed_err" 22).params (dOf "suffixed_err" 22).body (dOf "suffixed_err" 22).scope pm (.ref c) doc) Bg) :
  Mod { H:=I8 w mg mb C P,h₀:=ghostOf h [(c,P)],gens:=#[],os:=os }:=by
 have K:∀ b o,h.get? b=some o->o≠tabObj #[]->(ghostOf h [(c,P)]).get? b=some o:=fun b o e n=>ghost_get hT e n
 refine {
  f_law_text:=Eb (d:=dOf "_law_text" 25) rfl T K (j:=8) (by kernel_rfl) rfl rfl rfl rfl fun U U U=>Sq fun U=>rfl
  f_skip_chars:=Eb (d:=dOf "skip_chars" 16) rfl T K (j:=1) (by kernel_rfl) rfl rfl rfl rfl fun U U U=>Qn fun U U U=>rfl
  f_is_unicode_scalar_value:=Eb (d:=dOf "is_unicode_scalar_value" 23) rfl T K (j:=7) (by kernel_rfl) rfl rfl rfl rfl fun U U U=>Sq fun U=>rfl
  f_parse_hex_char:=Eb (d:=dOf "parse_hex_char" 20) rfl T K (j:=4) (by kernel_rfl) rfl rfl rfl rfl fun U U U=>Qn fun U U U=>rfl
  f_parse_basic_str:=Eb (d:=dOf "parse_basic_str" 21) rfl T K (j:=5) (by kernel_rfl) rfl rfl rfl rfl fun U U U=>Sr fun U U U=>rfl
  f_parse_one_line_basic_str:=Eb (d:=dOf "parse_one_line_basic_str" 17) rfl T K (j:=2) (by kernel_rfl) rfl rfl rfl rfl fun U U U=>RM fun U U=>rfl
  f_law_answer:=Eb (d:=dOf "_law_answer" 28) rfl T K (j:=11) (by kernel_rfl) rfl rfl rfl rfl fun U U U=>RM fun U U=>rfl
  f_law_named:=Eb (d:=dOf "_law_named" 26) rfl T K (j:=9) (by kernel_rfl) rfl rfl rfl rfl fun U U U=>RM fun U U=>rfl
  f_law_told:=Eb (d:=dOf "_law_told" 27) rfl T K (j:=10) (by kernel_rfl) rfl rfl rfl rfl fun U U U=>Qn fun U U U=>rfl
  s_ILLEGAL_BASIC_STR_CHARS:=⟨72,Y.n0,rfl⟩
  s_ILLEGAL_MULTILINE_BASIC_STR_CHARS:=⟨77,Y.n2,rfl⟩
  s_TOML_WS:=⟨78,Y.n3,rfl⟩
  s_TOML_WS_AND_NEWLINE:=⟨86,Y.n4,rfl⟩
  s_HEXDIGIT_CHARS:=⟨87,Y.n5,rfl⟩
  mp:=Y.n6
  v_parse_basic_str_escape:=Y.n7
  v_parse_basic_str_escape_multiline:=?_
  c_parse_basic_str_escape:=?_
  suf:=?_
  tabPos:=rfl }
 ·obtain ⟨a,pm,cd,doc,e1,F⟩:=Q3 (W:={ H:=I8 w mg mb C P,h₀:=ghostOf h [(c,P)],gens:=#[],os:=os }) (d:=dOf "parse_basic_str_escape_multiline" 19) (fi:={ scope:=A2 (nth 19),body:=AW (nth 19),params:=[],sc:=[] }) T K (j:=3) (by kernel_rfl) rfl rfl
  have e1:mg "parse_basic_str_escape_multiline" = some (.ref a):=e1
  show mg "parse_basic_str_escape_multiline" = some (.ref (if (1:Nat)=0 then 128 else match mg "parse_basic_str_escape_multiline" with | some (.ref a)=>a | _=>0))
  rw [e1];rfl
 ·obtain ⟨o,fd,d,m,h1,h2,h3,h4,h5,h6,h7,h8,h9,h10,h11,h12,h13,c',oc,vs,t,c1,c2,c3,c4,c5⟩:=Y.esc.keeps K
  refine ⟨fd,⟨⟨o,h1,h2⟩,h6,h5,h8,h7,h10,by rw [h3];exact ⟨c',oc,vs,t,c1,c2,c4,c5⟩⟩,rfl,fun s ws ks k q1 q2=>?_⟩
  obtain ⟨nm,qn,pr,bd,sc,gl,clo,df,kd,dc,pm,an,co,ct,bu⟩:=fd
  dsimp only at h3 h4 h5 h6 h7 h8 h9 h10 h11 c1
  subst h3 h4 h5 h6 h7 h8 h9 h10 h11 c1
  obtain ⟨x,r1,rfl,p1⟩:=F5 (n:=1) q1
  obtain ⟨y,r2,rfl,p2⟩:=F5 (n:=0) p1
  cases List.eq_nil_of_length_eq_zero p2
  cases List.eq_nil_of_length_eq_zero q2
  exact OJ (x:="multiline") (h12.keeps k) h13 rfl rfl
 ·obtain ⟨a,pm,doc,e1,F⟩:=hs
  obtain ⟨X,_⟩:=hT _ (.head _)
  refine ⟨a,_,c,e1,F,⟨rfl,fun s ws ks U q1 q2=>.of_eq ((Qn (ps:=Bg.params) fun U U U=>rfl:G4 (docDef (dOf "suffixed_err" 22).name (dOf "suffixed_err" 22).params (dOf "suffixed_err" 22).body (dOf "suffixed_err" 22).scope pm (.ref c) doc) Bg.params 3 []) ws ks q1 q2)⟩,rfl,?_,rfl⟩
  exact (ghost_code hT).1
private theorem Ls {W:Wd}{h:Heap}{a:Addr}{o:Obj}{fd:FuncData}{fi:Fi}(K:∀ b o,h.get? b=some o->o≠tabObj #[]->W.h₀.get? b=some o)(e2:h.get? a=some o)(e3:o.data = .func fd)(h1:fd.scope=fi.scope)(h2:fd.body = .stmts fi.body)(h3:fd.closure=[])
  (h4:fd.globals=mainGlobals) (h5:fd.builtins=builtinsNs) (e4:h.CodeRec fd.code fd.qualname):FnAt W.h₀ a fd fi:=by
 obtain ⟨c,oc,vs,t,f1,f2,f3,f4⟩:=e4
 refine ⟨⟨o,K _ _ e2 (fun z=>by rw [z] at e3;cases e3),e3⟩,h1,h2,h3,h4,h5,⟨c,oc,vs,t,f1,K _ _ f2 fun z=>?_,f3,f4⟩⟩
 rw [z] at f3
 cases f3
 simp at f4
private theorem Qr {cw:ClaimW}{cl:Str->Option Addr}{mean:ExcName->Option Value}{args:List WData}{c0 s':Shared}{H:Hd}{c P:Addr}(hT:TabsAt [(c,P)] c0.heap)(hr:∀ cls,cw.raises args cls=false)(hp:cw.post args (.bool true) args=true)
  (hb:∀ b o,(ghostOf c0.heap [(c,P)]).get? b=some o->s'.heap.get? b=some o) (hP:BR H s'.heap P) (hg:s'.gens = #[]) (hos:s'.os=c0.os):GoodWG cw cl mean args c0 (.ok (.ret (.bool true))) s':=by
 obtain ⟨ps,eP,_⟩:=hP
 have tP:=(hT _ (.head _)).2
 have keep:∀ b o,b≠P->c0.heap.get? b=some o->s'.heap.get? b=some o:=fun b o n e=>hb b o (ghost_ne e (fun m=>n (List.mem_singleton.mp m)))
 refine ⟨.inl ⟨_,.bool true,[],rfl,hr,.bool true,hp,fun U=>⟨List.nodup_nil,fun a m=>(by cases m)⟩⟩,⟨fun b o e=>?_,fun b o e=>?_⟩,hos,by rw [hg];exact .of_eq rfl⟩
 ·by_cases q:b=P
  ·subst q
   have e':c0.heap.get? b=some (tabObj #[]):=tP
   rw [e] at e'
   cases e'
   exact .inr (.inl ⟨((hT _ (.head _)).1.tab tP).isCodeTable,rfl,#[],ps,rfl,by rw [Array.empty_append];exact eP⟩)
  ·exact .inl (keep b o q e)
 ·by_cases q:b=P
  ·exact ⟨_,by rw [q];exact eP⟩
  ·exact ⟨o,keep b o q e⟩
private theorem MG (R:WRecords)(x:WCtx):(WShape.has R (.bool true) .bool&&(WTm.eq .res (.lit (.bool true))).holds R { x with res:=some (.bool true) })=true:=
 Bool.and_eq_true_iff.mpr ⟨rfl,holdsW_of_value (w_eq_bool (k:=true) (l:=true) rfl rfl)⟩
private theorem RQ (plain:Lr):Mh.OC q01 Be (fun U U=>True) Qo rw_kp0046_01.row.toRowW (dOf "law" 29) [] fun f vs=>PySem.call f vs:=by
 intro w W1 c0 mg mb G Y a o pm cd doc dV kV ho hd hcd hdf hmg hgens args vals as hpre hlay hrd hwell hsys
 obtain ⟨m,Y⟩:=Y
 obtain rfl:m=mg:=Y.ns.eq_nsMap.trans G.T.g.eq_nsMap.symm
 obtain ⟨p1,p2⟩:=pre_splitW hpre
 obtain ⟨L,vs,l,rfl,rfl,hL,hI⟩:=MF p1 hrd
 have hlen:l.length<=63:=Qq p2
 obtain ⟨K,ps',res⟩:=plain l hlen
 have hmem:dOf "suffixed_err" 22∈recsOf q01:=List.mem_of_getElem? (i:=6) (by kernel_rfl)
 obtain ⟨as,oS,fdS,c,P,t1,t2,t3,t4,t5,t6⟩:=G.T.tab _ hmem
 obtain ⟨a',o',pm',cd',doc',e1,e2,e3,e4⟩:=G.T.fn _ hmem
 rw [t1] at e1;cases e1
 rw [t2] at e2;cases e2
 rw [t3] at e3;cases e3
 have t4:cd' = .ref c:=t4
 subst t4
 have hT:TabsAt [(c,P)] c0.heap:=fun q hq=>by
  obtain rfl:=List.mem_singleton.mp hq
  exact ⟨CodeHd.of t5 t6,t6.2⟩
 have K':∀ b o,c0.heap.get? b=some o->o≠tabObj #[]->(ghostOf c0.heap [(c,P)]).get? b=some o:=fun b o e n=>ghost_get hT e n
 have Yg:=Y.keeps K'
 obtain ⟨C,k1,k2⟩:=Yg.cls
 have At:(I8 w m mb C P).At (ghostOf c0.heap [(c,P)]):=Sw hT G.T rfl rfl RP k1 k2 Y.sys Yg.sets Yg.mp
 have Mo:Mod { H:=I8 w m mb C P,h₀:=ghostOf c0.heap [(c,P)],gens:=#[],os:=c0.os }:=
  Sx G.T hT Y ⟨as,pm',doc',t1,Ls (W:={ H:=I8 w m mb C P,h₀:=ghostOf c0.heap [(c,P)],gens:=#[],os:=c0.os }) K' t2 t3 rfl rfl rfl rfl rfl e4⟩
 obtain ⟨d1,d2⟩:=hdf
 have dN:dV = .none:=by
  rcases d1 with q | q
  ·exact q.2
  ·exact absurd rfl q.1
 have kN:kV = .none:=by
  rcases d2 with q | q
  ·exact q.2
  ·exact absurd rfl q.1
 subst dN kN
 have F:=Ls (W:={ H:=I8 w m mb C P,h₀:=ghostOf c0.heap [(c,P)],gens:=#[],os:=c0.os }) (fi:=F4) K' ho hd rfl rfl rfl rfl rfl hcd
 refine wpAny_mono (OD (W:={ H:=I8 w m mb C P,h₀:=ghostOf c0.heap [(c,P)],gens:=#[],os:=c0.os }) (P:=P) (n:=7) (l:=[.ints l]) (vs:=[.ref L]) (fun b o e=>of_hideAll _ e) hgens rfl At ⟨#[],t6.2,.inl rfl⟩ (hideAll_none _ (List.mem_singleton.mpr rfl)) rfl F RD (.of_eq rfl) rfl
  (.cons (.ints (ghost_list hT hL) hI) .nil) (by decide) (fun fm' hs he hh=>Sl K Mo hs he hh) res) (fun v s' z=>?_) fun e s' z=>z.elim
 obtain ⟨⟨av,α,r⟩,z1,z2,z3,z4⟩:=z
 cases r
 exact ⟨Qr (H:=I8 w m mb C P) hT (fun U=>rfl) (MG [] { args:=[.list (l.map .int)],after:=[.list (l.map .int)] }) z1 z2 z3 z4,z3⟩
private theorem holds01 (plain:Lr):rw_kp0046_01.Holds:=by
 refine holds_law (by kernel_rfl) fun hw=>?_
 exact Mh.Ko (q:=q01) (loose:=Be) (g:=g01) (Mh.Jv "comprehension-iter-twice" "special-get-raises" fun b1 b2 w=>Mh.Ri (by kernel_rfl) (fun s=>rfl) (by kernel_rfl) (Sv b1 b2 w)) Qp Kz (d:=dOf "law" 29) (kwd:=[]) (by kernel_rfl) (by kernel_rfl) (by kernel_rfl) rfl rfl hw (by kernel_rfl) ⟨rfl,rfl,rfl,rfl,rfl,by kernel_rfl⟩ (RowW.promised_of_found (by kernel_rfl)) (RQ plain)
end Mi
end
section
open PySem PySem.W
set_option maxRecDepth 10000
namespace Mi
noncomputable def Kx:Nat:=Classical.choose (show ∃ K,100000<K from ⟨100001,by decide⟩)
private theorem CY:100000<Kx:=Classical.choose_spec (show ∃ K,100000<K from ⟨100001,by decide⟩)
noncomputable def wp {α:Type}(m:M α)(s:PS)(Q:α->PS->Prop)(E:PX->PS->Prop):Prop:=match m s with
 | .ok a s'=>Q a s'
 | .ex e s'=>E e s'
 | .stuck=>False
section
variable {α β:Type}{s:PS}{loc:Nat->Option PV}{st:List (List PV)}
theorem wp_mono {m:M α}{Q Q':α->PS->Prop}{E E':PX->PS->Prop}(h:wp m s Q E)(hq:∀ a s',Q a s'->Q' a s')(he:∀ e s',E e s'->E' e s'):wp m s Q' E':=by
 unfold wp at h ⊢
 cases q:m s with
 | ok a s'=>rw [q] at h;exact hq _ _ h
 | ex e s'=>rw [q] at h;exact he _ _ h
 | stuck=>rw [q] at h;exact h
theorem wp_bind {m:M α}{f:α->M β}{Q:β->PS->Prop}{E:PX->PS->Prop}:wp (M.bind m f) s Q E=wp m s (fun a s'=>wp (f a) s' Q E) E:=by
 unfold wp M.bind
 cases m s <;> rfl
theorem wp_ret {a:α}{Q:α->PS->Prop}{E:PX->PS->Prop}:wp (M.ret a) s Q E=Q a s:=rfl
noncomputable def upd (loc:Nat->Option PV)(i:Nat)(v:PV):Nat->Option PV:=fun j=>if j=i then some v else loc j
noncomputable def loc0 (l:List PV):Nat->Option PV:=fun i=>l[i]?
private theorem upd_eq {i:Nat}{v:PV}:upd loc i v i=some v:=by simp [upd]
private theorem HT {i j:Nat}{v:PV}(h:(j==i)=false):upd loc i v j=loc j:=by simp at h;simp [upd,h]
theorem wp_getL {i:Nat}{Q:PV->PS->Prop}{E:PX->PS->Prop}:wp (M.getL i) ⟨loc,st⟩ Q E=match loc i with | some v=>Q v ⟨loc,st⟩ | none=>False:=by
 unfold wp M.getL
 dsimp only
 cases loc i <;> rfl
theorem wp_orStuck {c:Bool}{m:M α}{Q:α->PS->Prop}{E:PX->PS->Prop}:wp (M.orStuck c m) s Q E=(c=true/\wp m s Q E):=by
 unfold wp M.orStuck
 cases c <;> simp
theorem wp_ofO {o:Option α}{Q:α->PS->Prop}{E:PX->PS->Prop}:wp (M.ofO o) s Q E=match o with | some a=>Q a s | none=>False:=by
 unfold wp M.ofO
 cases o <;> rfl
theorem wp_str {t:Txt}{Q:PV->PS->Prop}{E:PX->PS->Prop}:wp (M.str t) s Q E=(t.length<=big/\Q (.str t) s):=by
 unfold wp M.str
 by_cases h:t.length<=big <;> simp [h]
theorem wp_newLst {l:List PV}{Q:PV->PS->Prop}{E:PX->PS->Prop}:wp (M.newLst l) ⟨loc,st⟩ Q E=(l.length<=big/\Q (.lst st.length) ⟨loc,st++[l]⟩):=by
 unfold wp M.newLst
 by_cases h:l.length<=big <;> simp [h]
theorem wp_getLst {i:Nat}{Q:List PV->PS->Prop}{E:PX->PS->Prop}:wp (M.getLst i) ⟨loc,st⟩ Q E=match st[i]? with | some l=>Q l ⟨loc,st⟩ | none=>False:=by
 unfold wp M.getLst
 dsimp only
 cases st[i]? <;> rfl
theorem wp_tst_bool {b:Bool}{Q:Bool->PS->Prop}{E:PX->PS->Prop}:wp (tst (.bool b)) s Q E=Q b s:=rfl
theorem wp_thenS {m r:M PFlow}{Q:PFlow->PS->Prop}{E:PX->PS->Prop}:wp (M.thenS m r) s Q E=wp m s (fun f s'=>match f with | .next=>wp r s' Q E | .brk=>Q .brk s' | .cont=>Q .cont s' | .ret v=>Q (.ret v) s') E:=by
 unfold M.thenS
 rw [wp_bind]
 congr 1
 funext f s'
 cases f <;> rfl
theorem wp_call {m:M PFlow}{l:List PV}{Q:PV->PS->Prop}{E:PX->PS->Prop}:wp (M.call m l) ⟨loc,st⟩ Q E=wp m ⟨loc0 l,st⟩ (fun f s'=>Q (Nq f) ⟨loc,s'.st⟩) (fun e s'=>E e ⟨loc,s'.st⟩):=by
 unfold wp M.call loc0
 dsimp only
 cases m ⟨fun i=>l[i]?,st⟩ <;> rfl
theorem wp_callX {m:M Txt}{l:List PV}{Q:Txt->PS->Prop}{E:PX->PS->Prop}:wp (M.callX m l) ⟨loc,st⟩ Q E=wp m ⟨loc0 l,st⟩ (fun t s'=>Q t ⟨loc,s'.st⟩) (fun e s'=>E e ⟨loc,s'.st⟩):=by
 unfold wp M.callX loc0
 dsimp only
 cases m ⟨fun i=>l[i]?,st⟩ <;> rfl
theorem wp_try {X:PX->Option (M PFlow)}{m:M PFlow}{Q:PFlow->PS->Prop}{E:PX->PS->Prop}:wp (M.tryN X m) s Q E=wp m s Q (fun e s'=>match X e with | some h=>wp h s' Q E | none=>False):=by
 unfold wp M.tryN
 cases m s with
 | ok a s'=>rfl
 | stuck=>rfl
 | ex e s'=>
  dsimp only
  cases X e <;> rfl
theorem wp_calm {m:M PFlow}{Q:PFlow->PS->Prop}{E:PX->PS->Prop}:wp (M.calm m) s Q E=wp m s Q (fun U U=>False):=by
 unfold wp M.calm
 cases m s <;> rfl
theorem wp_seq_cons {m:M PV}{r:List (M PV)}{Q:List PV->PS->Prop}{E:PX->PS->Prop}:wp (M.seq (m::r)) s Q E=wp m s (fun v s'=>wp (M.seq r) s' (fun vs s''=>Q (v::vs) s'') E) E:=by
 show wp (M.bind m fun v=>M.bind (M.seq r) fun vs=>M.ret (v::vs)) s Q E=_
 rw [wp_bind]
 congr 1
 funext v s'
 rw [wp_bind]
 rfl
theorem wp_allB_nil {op:BoolOp}{Q:Bool->PS->Prop}{E:PX->PS->Prop}:wp (AB op []) s Q E=Q (op==.And) s:=rfl
theorem wp_and_cons {m:M Bool}{r:List (M Bool)}{Q:Bool->PS->Prop}{E:PX->PS->Prop}:wp (AB .And (m::r)) s Q E=wp m s (fun b s'=>if b=true then wp (AB .And r) s' Q E else Q false s') E:=by
 show wp (M.bind m fun b=>if Fy .And b then M.ret b else AB .And r) s Q E=_
 rw [wp_bind]
 congr 1
 funext b s'
 cases b <;> rfl
theorem wp_or_cons {m:M Bool}{r:List (M Bool)}{Q:Bool->PS->Prop}{E:PX->PS->Prop}:wp (AB .Or (m::r)) s Q E=wp m s (fun b s'=>if b=true then Q true s' else wp (AB .Or r) s' Q E) E:=by
 show wp (M.bind m fun b=>if Fy .Or b then M.ret b else AB .Or r) s Q E=_
 rw [wp_bind]
 congr 1
 funext b s'
 cases b <;> rfl
theorem wp_partS {m:M PV}{Q:Option Int->PS->Prop}{E:PX->PS->Prop}:wp (AP (some m)) s Q E=wp m s (fun v s'=>match v with | .int i=>Q (some i) s' | _=>False) E:=by
 show wp (M.bind m fun v=>match v with | .int i=>M.ret (some i) | _=>M.stuck) s Q E=_
 rw [wp_bind]
 congr 1
 funext v s'
 cases v <;> rfl
variable {a b:Int}{x y:Txt}{Q:PV->PS->Prop}{E:PX->PS->Prop}
theorem wp_addS:wp (Ap .Add (.str x) (.str y)) s Q E=((x++y).length<=big/\Q (.str (x++y)) s):=wp_str
theorem wp_mulI:wp (Ap .Mult (.int a) (.int b)) s Q E=((Ai a||Ai b)=true/\Q (.int (a*b)) s):=wp_orStuck
theorem wp_divI:wp (Ap .FloorDiv (.int a) (.int b)) s Q E=((b != 0&&Ai b)=true/\Q (.int (a.fdiv b)) s):=wp_orStuck
theorem wp_modI:wp (Ap .Mod (.int a) (.int b)) s Q E=((b != 0&&Ai b)=true/\Q (.int (a.fmod b)) s):=wp_orStuck
theorem wp_powI:wp (Ap .Pow (.int a) (.int b)) s Q E=((2<=a&&a<=16&&0<=b&&b<=16)=true/\Q (.int (a ^ b.toNat)) s):=wp_orStuck
theorem wp_aaddS:wp (CO .Add (.str x) (.str y)) s Q E=((x++y).length<=big/\Q (.str (x++y)) s):=wp_str
theorem wp_adivI:wp (CO .FloorDiv (.int a) (.int b)) s Q E=((b != 0&&Ai b)=true/\Q (.int (a.fdiv b)) s):=wp_orStuck
theorem wp_itemS:wp (Ax false (.str x) (.int a)) s Q E=(Ai a=true/\match idx a x.length with | some j=>Q (.str [x.getD j 0]) s | none=>E (.std "IndexError") s):=by
 show wp (M.orStuck (Ai a) _) s Q E=_
 rw [wp_orStuck]
 congr 1
 cases idx a x.length <;> rfl
theorem wp_sliceS {i j:Option Int}:wp (A6 i j (.str x)) s Q E=((slc x i j).length<=big/\Q (.str (slc x i j)) s):=wp_str
theorem wp_lenS:wp (BC [.str x]) s Q E=(decide (x.length<=big)=true/\Q (.int x.length) s):=wp_orStuck
theorem wp_chr:wp (DU [.int a]) s Q E=((0<=a&&a<=1114111)=true/\Q (.str [a.toNat]) s):=wp_orStuck
theorem wp_strI:wp (Np [.int a]) s Q E=(Ai a=true/\Q (.str (Bq a)) s):=wp_orStuck
end
section
variable {α β:Type}{s:PS}{loc:Nat->Option PV}{st:List (List PV)}{a b:Int}{x y:Txt}{Q:PV->PS->Prop}{E:PX->PS->Prop}{QL:List PV->PS->Prop}{QA:α->PS->Prop}{QO:Option Int->PS->Prop}{QB:Bool->PS->Prop}
noncomputable abbrev Kt (f:α->M β)(Q:β->PS->Prop)(E:PX->PS->Prop)(a:α)(s:PS):Prop:=wp (f a) s Q E
theorem KtI {f:α->M β}{a:α}{Q:β->PS->Prop}(h:wp (f a) s Q E):Kt f Q E a s:=h
theorem wpB {m:M α}{f:α->M β}{Q:β->PS->Prop}(h:wp m s (Kt f Q E) E):wp (M.bind m f) s Q E:=wp_bind▸h
theorem wpR {a:α}(h:QA a s):wp (M.ret a) s QA E:=h
theorem wpG {i:Nat}{v:PV}(g:loc i=some v)(h:Q v ⟨loc,st⟩):wp (M.getL i) ⟨loc,st⟩ Q E:=by rw [wp_getL,g];exact h
theorem wpSet {i:Nat}{v:PV}{Q:Unit->PS->Prop}(h:Q () ⟨upd loc i v,st⟩):wp (M.setL i v) ⟨loc,st⟩ Q E:=h
theorem wpO {c:Bool}{m:M α}(hc:c=true)(h:wp m s QA E):wp (M.orStuck c m) s QA E:=by rw [wp_orStuck];exact ⟨hc,h⟩
theorem wpSN (h:QL [] s):wp (M.seq []) s QL E:=h
noncomputable abbrev Kc (Q:List PV->PS->Prop)(v:PV)(l:List PV)(s:PS):Prop:=Q (v::l) s
noncomputable abbrev Ks (r:List (M PV))(Q:List PV->PS->Prop)(E:PX->PS->Prop)(v:PV)(s:PS):Prop:=wp (M.seq r) s (Kc Q v) E
theorem wpSC {m:M PV}{r:List (M PV)}(h:wp m s (Ks r QL E) E):wp (M.seq (m::r)) s QL E:=wp_seq_cons▸h
theorem wpTb {c:Bool}(h:QB c s):wp (tst (.bool c)) s QB E:=h
theorem wpPN (h:QO none s):wp (AP none) s QO E:=h
theorem wpPI {m:M PV}(h:wp m s (fun v s'=>∃ i,v = .int i/\QO (some i) s') E):wp (AP (some m)) s QO E:=by
 rw [wp_partS]
 refine wp_mono h (fun v s' z=>?_) fun U U z=>z
 obtain ⟨i,rfl,z⟩:=z
 exact z
theorem wpAI (h:Q (.int (a+b)) s):wp (Ap .Add (.int a) (.int b)) s Q E:=h
theorem wpSI (h:Q (.int (a - b)) s):wp (Ap .Sub (.int a) (.int b)) s Q E:=h
theorem wpAS (l:(x++y).length<=big)(h:Q (.str (x++y)) s):wp (Ap .Add (.str x) (.str y)) s Q E:=by rw [wp_addS];exact ⟨l,h⟩
theorem wpDI (c:(b != 0&&Ai b)=true)(h:Q (.int (a.fdiv b)) s):wp (Ap .FloorDiv (.int a) (.int b)) s Q E:=by rw [wp_divI];exact ⟨c,h⟩
theorem wpModI (c:(b != 0&&Ai b)=true)(h:Q (.int (a.fmod b)) s):wp (Ap .Mod (.int a) (.int b)) s Q E:=by rw [wp_modI];exact ⟨c,h⟩
theorem wpgAI (h:Q (.int (a+b)) s):wp (CO .Add (.int a) (.int b)) s Q E:=h
theorem wpgAS (l:(x++y).length<=big)(h:Q (.str (x++y)) s):wp (CO .Add (.str x) (.str y)) s Q E:=by rw [wp_aaddS];exact ⟨l,h⟩
theorem wpEqI (h:Q (.bool (a==b)) s):wp (AA .Eq (.int a) (.int b)) s Q E:=h
theorem wpEqS (h:Q (.bool (x==y)) s):wp (AA .Eq (.str x) (.str y)) s Q E:=h
theorem wpNeI (h:Q (.bool (!(a==b))) s):wp (AA .NotEq (.int a) (.int b)) s Q E:=h
theorem wpLtI (h:Q (.bool (decide (a<b))) s):wp (AA .Lt (.int a) (.int b)) s Q E:=h
theorem wpLeI (h:Q (.bool (decide (a<=b))) s):wp (AA .LtE (.int a) (.int b)) s Q E:=h
theorem wpGtI (h:Q (.bool (decide (a>b))) s):wp (AA .Gt (.int a) (.int b)) s Q E:=h
theorem wpGeI (h:Q (.bool (decide (a≥b))) s):wp (AA .GtE (.int a) (.int b)) s Q E:=h
theorem wpInSS (h:Q (.bool (Hl x y)) s):wp (AA .In (.str x) (.str y)) s Q E:=h
theorem wpInF {k:Nat}(h:Q (.bool (Nk k x)) s):wp (AA .In (.str x) (.fset k)) s Q E:=h
theorem wpIt {j:Nat}(c:Ai a=true)(e:idx a x.length=some j)(h:Q (.str [x.getD j 0]) s):wp (Ax false (.str x) (.int a)) s Q E:=by rw [wp_itemS,e];exact ⟨c,h⟩
theorem wpSl {i j:Option Int}{t:Txt}(e:slc x i j=t)(l:t.length<=big)(h:Q (.str t) s):wp (A6 i j (.str x)) s Q E:=by subst e;rw [wp_sliceS];exact ⟨l,h⟩
theorem wpLS (l:x.length<=big)(h:Q (.int x.length) s):wp (BC [.str x]) s Q E:=by rw [wp_lenS];exact ⟨decide_eq_true l,h⟩
theorem wpOrd {c:Nat}(h:Q (.int c) s):wp (Rk [.str [c]]) s Q E:=h
theorem wpChr (c:(0<=a&&a<=1114111)=true)(h:Q (.str [a.toNat]) s):wp (DU [.int a]) s Q E:=by rw [wp_chr];exact ⟨c,h⟩
theorem wpStr (c:Ai a=true)(h:Q (.str (Bq a)) s):wp (Np [.int a]) s Q E:=by rw [wp_strI];exact ⟨c,h⟩
theorem wpNeg (h:Q (.int (-a)) s):wp (Ru (.int a)) s Q E:=h
theorem wpNL {l:List PV}(c:l.length<=big)(h:Q (.lst st.length) ⟨loc,st++[l]⟩):wp (M.newLst l) ⟨loc,st⟩ Q E:=by rw [wp_newLst];exact ⟨c,h⟩
theorem wpTup {l:List PV}(c:l.length<=big)(h:Q (.tup l) s):wp (EU l) s Q E:=by
 show wp (M.orStuck _ _) s Q E
 rw [wp_orStuck];exact ⟨decide_eq_true c,h⟩
noncomputable def Kn (r:M PFlow)(Q:PFlow->PS->Prop)(E:PX->PS->Prop)(f:PFlow)(s:PS):Prop:=match f with
 | .next=>wp r s Q E
 | .brk=>Q .brk s
 | .cont=>Q .cont s
 | .ret v=>Q (.ret v) s
theorem KnI {r:M PFlow}{Q:PFlow->PS->Prop}(h:wp r s Q E):Kn r Q E .next s:=h
theorem wpTh {m r:M PFlow}{Q:PFlow->PS->Prop}(h:wp m s (Kn r Q E) E):wp (M.thenS m r) s Q E:=by
 rw [wp_thenS]
 refine wp_mono h (fun f s' z=>?_) fun U U z=>z
 cases f <;> exact z
theorem wpN {m r:M PFlow}{Q:PFlow->PS->Prop}(P:PS->Prop)(h1:wp m s (fun f s'=>f = .next/\P s') fun U U=>False)(h2:∀ s',P s'->wp r s' Q E):wp (M.thenS m r) s Q E:=by
 rw [wp_thenS]
 refine wp_mono h1 (fun f s' z=>?_) fun U U z=>z.elim
 obtain ⟨rfl,z⟩:=z
 exact h2 s' z
end
noncomputable abbrev Tb:=List (Option PV)
noncomputable def Loc (t:Tb)(L:Nat->Option PV):Prop:=∀ i v,t[i]? = some (some v)->L i=some v
inductive At (st:List (List PV))(t:Tb)(s:PS):Prop
 | mk (L:Nat->Option PV) (e:s=⟨L,st⟩) (h:Loc t L):At st t s
section
variable {α β:Type}{s:PS}{loc:Nat->Option PV}{st:List (List PV)}{t:Tb}{Q:PV->PS->Prop}{E:PX->PS->Prop}
set_option tactic.hygienic true in
private theorem Loc.set (h:Loc t loc)(i:Nat)(v:PV):Loc (t.set i (some v)) (upd loc i v):=fun j w e=>by
 by_cases q:i=j
 ·subst q
  rw [List.getElem?_set] at e
  split at e
  ·split at e
   ·cases e;exact upd_eq
   ·cases e
  ·rename_i n;exact absurd rfl n
 ·rw [List.getElem?_set_ne q] at e
  rw [HT (beq_eq_false_iff_ne.mpr fun z=>q z.symm)];exact h j w e
set_option tactic.hygienic true in
private theorem Loc.drop (h:Loc t loc)(i:Nat):Loc (t.set i none) loc:=fun j w e=>by
 by_cases q:i=j
 ·subst q
  rw [List.getElem?_set] at e
  split at e
  ·split at e <;> cases e
  ·rename_i n;exact absurd rfl n
 ·rw [List.getElem?_set_ne q] at e;exact h j w e
private theorem Loc.init (l:List PV)(n:Nat):Loc (l.map some++List.replicate n none) (loc0 l):=fun i v e=>by
 unfold loc0
 by_cases q:i<l.length
 ·rw [List.getElem?_append_left (by simpa using q),List.getElem?_map] at e
  cases z:l[i]? with
  | none=>rw [z] at e;cases e
  | some w=>rw [z] at e;cases e;rfl
 ·rw [List.getElem?_append_right (by simpa using Nat.le_of_not_lt q),List.getElem?_replicate] at e
  split at e <;> cases e
theorem wpL {i:Nat}{v:PV}(h:Loc t loc)(e:t[i]? = some (some v))(k:Q v ⟨loc,st⟩):wp (M.getL i) ⟨loc,st⟩ Q E:=wpG (h i v e) k
noncomputable abbrev Kr (loc:Nat->Option PV)(Q:PV->PS->Prop)(f:PFlow)(s:PS):Prop:=Q (Nq f) ⟨loc,s.st⟩
noncomputable abbrev Ke (loc:Nat->Option PV)(E:PX->PS->Prop)(e:PX)(s:PS):Prop:=E e ⟨loc,s.st⟩
theorem wpCall {m:M PFlow}{l:List PV}(n:Nat)(h:∀ L,Loc (l.map some++List.replicate n none) L->wp m ⟨L,st⟩ (Kr loc Q) (Ke loc E)):wp (M.call m l) ⟨loc,st⟩ Q E:=by
 rw [wp_call];exact h _ (Loc.init l n)
end
theorem wpA {m r:M PFlow}{s:PS}{Q:PFlow->PS->Prop}{E:PX->PS->Prop}(st:List (List PV))(t:Tb)(h1:wp m s (fun f s'=>f = .next/\At st t s') fun U U=>False)(h2:∀ L,Loc t L->wp r ⟨L,st⟩ Q E):wp (M.thenS m r) s Q E:=
 wpN (At st t) h1 fun U a=>by
  obtain ⟨L,e,B⟩:=a
  exact e▸h2 L B
private theorem Cs {x y:Txt}{a b:Nat}(hx:x.length<=a)(hy:y.length<=b)(h:a+b<=big):(x++y).length<=big:=by
 rw [List.length_append];exact Nat.le_trans (Nat.add_le_add hx hy) h
private theorem Bz {x y:Txt}{a b:Nat}(hx:x.length<=a)(hy:y.length<=b):(x++y).length<=a+b:=by
 rw [List.length_append];exact Nat.add_le_add hx hy
private theorem fuel {n k f:Nat}(h:n - k<f+1)(lt:k<n):n - (k+1)<f:=by exact Mi.la [_,_,_,_,_] [([2,3,0],[4,3,0]),([6,8,3,0,0],[10]),([10],[2,8,0])] ([6,3,0],[4]) rfl h (Mi.lcC (Mi.la [_,_] [([2,3,0],[4])] ([2,3,0],[4]) rfl lt)) (Mi.lcS _ _)
private theorem Q5 {n f p q:Nat}(h:n<f+1+p)(l:p<q):n<f+q:=by exact Mi.la [_,_,_,_] [([2,3,0],[4,3,0,6,0]),([6,3,0],[8])] ([2,3,0],[4,8,0]) rfl h l
private theorem Az {n:Nat}(h:n<=1000000):n<=big:=Nat.le_trans h (by decide)
private theorem isZ {a b:Nat}:((a:Int)==(b:Int))=decide (a=b):=by
 by_cases q:a=b
 ·subst q;simp
 ·rw [decide_eq_false q];exact beq_eq_false_iff_ne.mpr fun z=>q (Int.ofNat.inj z)
private theorem A7 {α:Type}{t:M Bool}{s:PS}{c:Bool}{m r:M α}{Q:α->PS->Prop}{E:PX->PS->Prop}(h:wp t s (fun b s'=>b=c/\s'=s) fun U U=>False)(h1:c=true->wp m s Q E)(h2:c=false->wp r s Q E):wp (M.bind t fun b=>if b then m else r) s Q E:=by
 refine wpB (wp_mono h (fun b s' z=>?_) fun U U z=>z.elim)
 obtain ⟨rfl,rfl⟩:=z
 cases b
 ·exact h2 rfl
 ·exact h1 rfl
end Mi
end
section
open PySem PySem.W
set_option maxRecDepth 10000
set_option maxHeartbeats 1000000
namespace Mi
noncomputable def F6 (c:Nat):Bool:=c != 127&&(c==9||decide (32<=c))
theorem wp_and2 {m:M PV}{r:List (M PV)}{s:PS}{Q:PV->PS->Prop}{E:PX->PS->Prop}(h:r≠[]):wp (BS .And (m::r)) s Q E=wp m s (fun v s'=>match truP v with | some true=>wp (BS .And r) s' Q E | some false=>Q v s' | none=>False) E:=by
 match r,h with
 | m'::r',_=>
  show wp (M.bind m fun v=>M.bind (tst v) fun b=>if Fy .And b then M.ret v else BS .And (m'::r')) s Q E=_
  rw [wp_bind]
  congr 1
  funext v s'
  rw [wp_bind]
  unfold tst
  rw [wp_ofO]
  cases truP v with
  | none=>rfl
  | some b=>cases b <;> rfl
theorem wp_or2 {m:M PV}{r:List (M PV)}{s:PS}{Q:PV->PS->Prop}{E:PX->PS->Prop}(h:r≠[]):wp (BS .Or (m::r)) s Q E=wp m s (fun v s'=>match truP v with | some true=>Q v s' | some false=>wp (BS .Or r) s' Q E | none=>False) E:=by
 match r,h with
 | m'::r',_=>
  show wp (M.bind m fun v=>M.bind (tst v) fun b=>if Fy .Or b then M.ret v else BS .Or (m'::r')) s Q E=_
  rw [wp_bind]
  congr 1
  funext v s'
  rw [wp_bind]
  unfold tst
  rw [wp_ofO]
  cases truP v with
  | none=>rfl
  | some b=>cases b <;> rfl
inductive UnitOf (c:Nat):Txt->Prop
 | raw:F6 c=true->c≠34->c≠92->UnitOf c [c]
 | short {d:Nat}:escT [92,d]=some [c]->d≠117->d≠85->UnitOf c [92,d]
 | four {h:Txt}:h.length=4->h.all hexd=true->hexval h=c->UnitOf c (92::117::h)
 | eight {h:Txt}:h.length=8->h.all hexd=true->hexval h=c->UnitOf c (92::85::h)
private theorem I9 (d:Nat)(h:Txt):hexval (d::h)=hexdig d*16 ^ h.length+hexval h:=by
 have go:∀ (h:Txt) (a:Nat),h.foldl (fun a c=>a*16+hexdig c) a=a*16 ^ h.length+h.foldl (fun a c=>a*16+hexdig c) 0:=by
  intro h
  induction h with
  | nil=>intro a;simp
  | cons x h ih=>
   intro a
   rw [List.foldl_cons,List.foldl_cons,ih,ih (0*16+hexdig x),List.length_cons,Nat.pow_succ]
   generalize List.foldl (fun a c=>a*16+hexdig c) 0 h=z
   generalize 16 ^ h.length=y
   rw [Nat.add_mul,Nat.add_mul,Nat.mul_assoc,Nat.mul_comm 16 y]
   lia
 unfold hexval
 rw [List.foldl_cons,go]
 simp
theorem wp_forT {get:Nat->M (Option PV)}{t:PV->M Unit}{b:M PFlow}{Q:PFlow->PS->Prop}{E:PX->PS->Prop}(I:Nat->PS->Prop)(n:Nat)(p:Nat->PV)
  (hget:∀ k s,I k s->k<n->get k s = .ok (some (p k)) s) (hend:∀ s,I n s->get n s = .ok none s)
  (step:∀ k s,I k s->k<n->wp (t (p k)) s (fun U s'=>wp b s' (fun fl s''=>match fl with | .next=>I (k+1) s'' | .cont=>I (k+1) s'' | .brk=>Q .next s'' | .ret v=>Q (.ret v) s'') E) E)
  (fin:∀ s,I n s->Q .next s):∀ (f k:Nat) (s:PS),I k s->k<=n->n - k<f->wp (M.forT get t b f k) s Q E:=by
 intro f
 induction f with
 | zero=>exact fun U U U U h=>absurd h (Nat.not_lt_zero _)
 | succ f ih=>
  intro k s i hk h
  show wp (M.bind (get k) fun o=>match o with
   | none=>M.ret .next
   | some p=>M.bind (t p) fun U=>M.bind b fun fl=>match fl with
    | .next=>M.forT get t b f (k+1)
    | .cont=>M.forT get t b f (k+1)
    | .brk=>M.ret .next
    | .ret v=>M.ret (.ret v)) s Q E
  rw [wp_bind]
  by_cases q:k=n
  ·subst q
   unfold wp
   rw [hend s i]
   exact fin s i
  ·have lt:k<n:=Nat.lt_of_le_of_ne hk q
   unfold wp
   rw [hget k s i lt]
   show wp _ s Q E
   dsimp only
   rw [wp_bind]
   refine wp_mono (step k s i lt) (fun U s' z=>?_) fun U U z=>z
   rw [wp_bind]
   refine wp_mono z (fun fl s'' z=>?_) fun U U z=>z
   cases fl with
   | next=>exact ih (k+1) s'' z lt (fuel h lt)
   | cont=>exact ih (k+1) s'' z lt (fuel h lt)
   | brk=>exact z
   | ret v=>exact z
private theorem HU {n k:Nat}{s:PS}(h:k<n):BI 0 (n:Int) k s = .ok (some (.int k)) s:=by
 unfold BI M.ret
 rw [if_pos (by lia)]
 simp
private theorem HV {n:Nat}{s:PS}:BI 0 (n:Int) n s = .ok none s:=by
 unfold BI M.ret
 rw [if_neg (by lia)]
theorem wp_range {n:Nat}{s:PS}{Q:(Nat->M (Option PV))->PS->Prop}{E:PX->PS->Prop}(h:n<1073741824):wp (BX [.int n]) s Q E=Q (BI 0 n) s:=by
 show wp (M.orStuck (Ai n) (M.ret (BI 0 n))) s Q E=_
 rw [wp_orStuck]
 have:Ai (n:Int)=true:=by unfold Ai;simp;lia
 simp [this,wp_ret]
local macro_rules | `(tactic| walk_at "wp") => do
 let a <- ("B SC SN R Set PN PI Tb AI SI AS gAS gAI gSI Neg EqI EqS NeI LtI LeI GtI GeI InSS InF Str LS NL Tup Ord".splitOn " ").toArray.mapM fun s=>`(Lean.Parser.Tactic.tacticSeq| apply $(Lean.mkIdent (.str `Mi ("wp"++s))))
 `(tactic| (repeat' first
  | (with_reducible first $[| $a]* | refine KnI ?_ | refine wpO rfl ?_ | refine ⟨_,rfl,?_⟩ | refine wpDI rfl ?_ | refine wpModI rfl ?_ | refine wpModI ?_ ?_)
  | refine wpL (by assumption) rfl ?_) <;> try with_reducible refine KtI ?_)
section
variable {α β:Type}{s S:PS}{E:PX->PS->Prop}
end
private theorem AU {i:Int}(h:i.natAbs<1073741824):Ai i=true:=by unfold Ai;simpa using h
private theorem Gy {i n:Nat}(h:i<n):idx (i:Int) n=some i:=by
 unfold idx
 rw [if_pos (by lia)]
 simp [h]
private theorem Cb (a b:Nat):Int.fmod (a:Int) (b:Int)=((a % b:Nat):Int):=by
 rw [Int.fmod_eq_emod_of_nonneg _ (by lia)];rfl
private theorem F7 (a b:Nat):Int.fdiv (a:Int) (b:Int)=((a / b:Nat):Int):=by
 rw [Int.fdiv_eq_ediv_of_nonneg _ (by lia)];rfl
theorem wpPow {a b:Int}{s:PS}{Q:PV->PS->Prop}{E:PX->PS->Prop}(c:(2<=a&&a<=16&&0<=b&&b<=16)=true)(h:Q (.int (a ^ b.toNat)) s):wp (Ap .Pow (.int a) (.int b)) s Q E:=by rw [wp_powI];exact ⟨c,h⟩
theorem wpgDI {a b:Int}{s:PS}{Q:PV->PS->Prop}{E:PX->PS->Prop}(c:(b != 0&&Ai b)=true)(h:Q (.int (a.fdiv b)) s):wp (CO .FloorDiv (.int a) (.int b)) s Q E:=by rw [wp_adivI];exact ⟨c,h⟩
private theorem CF {n:Nat}(h:n<10 ^ 10):(Bq (n:Int)).length<=10:=by
 have:(Nat.toDigits 10 n).length<=10:=(Nat.length_toDigits_le_iff (by decide) (by decide)).mpr h
 unfold Bq
 rw [Str.ofString_eq_toList]
 show ((Nat.repr n).toList.map Char.toNat).length<=10
 rw [List.length_map]
 simpa [Nat.repr] using this
section
variable {s:PS}{x:Txt}{Q:PV->PS->Prop}{E:PX->PS->Prop}
theorem wp_fmtS:wp (Dt (.str x)) s Q E=(x.length<=big/\Q (.str x) s):=wp_str
theorem wp_fmtI {i:Int}:wp (Dt (.int i)) s Q E=(Ai i=true/\Q (.str (Bq i)) s):=wp_orStuck
theorem wp_repr:wp (Ih (.str x)) s Q E=((A3 x).length<=big/\Q (.str (A3 x)) s):=wp_str
theorem wp_join_nil {acc:Txt}:wp (M.joinF [] acc) s Q E=(acc.length<=big/\Q (.str acc) s):=wp_str
theorem wp_join_cons {m:M PV}{r:List (M PV)}{acc:Txt}:wp (M.joinF (m::r) acc) s Q E=wp m s (fun v s'=>match v with | .str t=>(acc++t).length<=big/\wp (M.joinF r (acc++t)) s' Q E | _=>False) E:=by
 show wp (M.bind m fun v=>match v with
  | .str t=>M.orStuck ((acc++t).length<=big) (M.joinF r (acc++t))
  | _=>M.stuck) s Q E=_
 rw [wp_bind]
 congr 1
 funext v s'
 cases v <;> first | rfl | skip
 dsimp only
 rw [wp_orStuck]
 simp
theorem wp_count {c:Nat}{b:Int}:wp (FV (.str x) [.str [c],.int 0,.int b]) s Q E=(((0:Int)==0&&0<=b&&Ai b)=true/\Q (.int (posns c x (min b.toNat x.length)).length) s):=wp_orStuck
theorem wp_rindex {c:Nat}{b:Int}:wp (D4 (.str x) [.str [c],.int 0,.int b]) s Q E=(((0:Int)==0&&0<=b&&Ai b)=true/\match (posns c x (min b.toNat x.length)).getLast? with | some i=>Q (.int i) s | none=>False):=by
 show wp (M.orStuck _ _) s Q E=_
 rw [wp_orStuck]
 congr 1
 cases (posns c x (min b.toNat x.length)).getLast? <;> rfl
theorem wp_toTxt {Q:Txt->PS->Prop}:wp (QY (.str x)) s Q E=Q x s:=rfl
end
noncomputable def lineOf (x:Txt)(p:Nat):Nat:=1+(posns 10 x (min p x.length)).length
noncomputable def CG (x:Txt)(p:Nat):Int:=match (posns 10 x (min p x.length)).getLast? with
 | none=>(p:Int)+1
 | some i=>(p:Int) - i
noncomputable def Sy:Txt:=[101,110,100,32,111,102,32,100,111,99,117,109,101,110,116]
noncomputable def OQ:Txt:=[108,105,110,101,32]
noncomputable def HW:Txt:=[44,32,99,111,108,117,109,110,32]
noncomputable def Ct (x:Txt)(p:Nat):Txt:=if x.length<=p then Sy else OQ++Bq (lineOf x p)++HW++Bq (CG x p)
noncomputable def Cc (x:Txt)(p:Nat)(msg:Txt):Txt:=msg++[32,40,97,116,32]++Ct x p++[41]
private theorem Ja {c:Nat}{x:Txt}{hi i:Nat}(h:i∈posns c x hi):i<hi:=by
 unfold posns at h
 simp at h
 exact h.1
private theorem EF {c:Nat}{x:Txt}{hi:Nat}:(posns c x hi).length<=hi:=by
 unfold posns
 refine Nat.le_trans (List.length_filter_le _ _) ?_
 simp
set_option tactic.hygienic true in
private theorem G5 {x:Txt}{p:Nat}:∃ n:Nat,CG x p=n/\n<=p+1:=by
 unfold CG
 split
 ·exact ⟨p+1,by exact rfl,Nat.le_refl _⟩
 ·rename_i i e
  have:=Ja (List.mem_of_getLast? e)
  exact ⟨p - i,by lia,by exact Mi.la [_,_] [([2],[4])] ([2],[4,3,0]) rfl (Nat.sub_le _ _)⟩
private theorem MH {x:Txt}{p:Nat}(hp:p<1000000000):(Ct x p).length<=40:=by
 unfold Ct
 split
 ·decide
 ·obtain ⟨n,e,hn⟩:=G5 (x:=x) (p:=p)
  have h1:(Bq (lineOf x p)).length<=10:=CF (by
   have:=EF (c:=10) (x:=x) (hi:=min p x.length)
   unfold lineOf;lia)
  have h2:(Bq (CG x p)).length<=10:=by rw [e];exact CF (by lia)
  simp [OQ,HW]
  exact Mi.la [_,_] [([2],[21]),([4],[21])] ([2,4,3,0,3,0,3,0,3,0,3,0,3,0,3,0,3,0,3,0,0],[71]) rfl h1 h2
theorem wpCount {x:Txt}{c:Nat}{b:Int}{s:PS}{Q:PV->PS->Prop}{E:PX->PS->Prop}(k:((0:Int)==0&&0<=b&&Ai b)=true)(h:Q (.int (posns c x (min b.toNat x.length)).length) s):wp (FV (.str x) [.str [c],.int 0,.int b]) s Q E:=by rw [wp_count];exact ⟨k,h⟩
theorem wpRind {x:Txt}{c i:Nat}{b:Int}{s:PS}{Q:PV->PS->Prop}{E:PX->PS->Prop}(k:((0:Int)==0&&0<=b&&Ai b)=true)(e:(posns c x (min b.toNat x.length)).getLast? = some i)(h:Q (.int i) s):wp (D4 (.str x) [.str [c],.int 0,.int b]) s Q E:=by rw [wp_rindex,e];exact ⟨k,h⟩
theorem wpJN {acc:Txt}{s:PS}{Q:PV->PS->Prop}{E:PX->PS->Prop}(l:acc.length<=big)(h:Q (.str acc) s):wp (M.joinF [] acc) s Q E:=by rw [wp_join_nil];exact ⟨l,h⟩
theorem wpJC {m:M PV}{r:List (M PV)}{acc t:Txt}{s:PS}{Q:PV->PS->Prop}{E:PX->PS->Prop}(e:wp m s (fun v s'=>v = .str t/\s'=s) fun U U=>False)(l:(acc++t).length<=big)(h:wp (M.joinF r (acc++t)) s Q E):wp (M.joinF (m::r) acc) s Q E:=by
 rw [wp_join_cons]
 refine wp_mono e (fun v s' z=>?_) fun U U z=>z.elim
 obtain ⟨rfl,rfl⟩:=z
 exact ⟨l,h⟩
theorem wpFI {i:Int}{s:PS}{Q:PV->PS->Prop}{E:PX->PS->Prop}(c:Ai i=true)(h:Q (.str (Bq i)) s):wp (Dt (.int i)) s Q E:=by rw [wp_fmtI];exact ⟨c,h⟩
theorem wpFS {x:Txt}{s:PS}{Q:PV->PS->Prop}{E:PX->PS->Prop}(c:x.length<=big)(h:Q (.str x) s):wp (Dt (.str x)) s Q E:=by rw [wp_fmtS];exact ⟨c,h⟩
private theorem KB {x:Txt}{p:Nat}{loc:Nat->Option PV}{st:List (List PV)}{Q:PV->PS->Prop}{E:PX->PS->Prop}(hx:x.length<=big)(hp:p<1000000000)(hQ:Q (.str (Ct x p)) ⟨loc,st⟩):wp (M.call BO [.str x,.int p]) ⟨loc,st⟩ Q E:=by
 have sp:Ai (p:Int)=true:=AU (Nat.lt_trans hp (by decide))
 have cnt:((0:Int)==0&&decide (0<=(p:Int))&&Ai p)=true:=by rw [sp,decide_eq_true (Int.natCast_nonneg p)];rfl
 have hn:(posns 10 x (min p x.length)).length<=p:=Nat.le_trans EF (Nat.min_le_left ..)
 have lo:lineOf x p<=1000000000:=by unfold lineOf;rw [Nat.add_comm];exact Nat.lt_of_le_of_lt hn hp
 refine wpCall 2 fun L B=>?_
 unfold BO
 unfold Ct at hQ
 refine wpTh ?_
 refine A7 (c:=decide (x.length<=p)) ?_ (fun h=>?_) (fun h=>?_)
 ·walk_at "wp"
  ·exact hx
  refine ⟨?_,rfl⟩
  exact decide_eq_decide.mpr Int.ofNat_le
 ·rw [if_pos (of_decide_eq_true h)] at hQ
  walk_at "wp"
  exact hQ
 rw [if_neg (of_decide_eq_false h)] at hQ
 refine wpR ?_
 refine wpA st [some (.str x),some (.int p),some (.int (lineOf x p:Nat)),none] ?_ fun L B=>?_
 ·walk_at "wp"
  refine wpCount cnt ?_
  walk_at "wp"
  rw [Int.toNat_natCast,show (((posns 10 x (min p x.length)).length:Nat):Int)+1=(lineOf x p:Nat) by unfold lineOf;rw [Int.natCast_add,Int.add_comm];rfl]
  exact ⟨rfl,(B.set 2 _ |> At.mk _ rfl)⟩
 refine wpA st [some (.str x),some (.int p),some (.int (lineOf x p:Nat)),some (.int (CG x p))] ?_ fun L B=>?_
 ·refine A7 (c:=decide (lineOf x p=1)) (by walk_at "wp";exact ⟨isZ (b:=1),rfl⟩) (fun q=>?_) (fun q=>?_)
  ·have q:=of_decide_eq_true q
   have e:posns 10 x (min p x.length)=[]:=List.length_eq_zero_iff.mp (by unfold lineOf at q;exact Nat.add_left_cancel q)
   have ec:CG x p=(p:Int)+1:=by unfold CG;rw [e];rfl
   walk_at "wp"
   rw [ec]
   exact ⟨rfl,(B.set 3 _ |> At.mk _ rfl)⟩
  ·have q:=of_decide_eq_false q
   have e:(posns 10 x (min p x.length))≠[]:=fun z=>q (by unfold lineOf;rw [z];rfl)
   have ec:CG x p=(p:Int) - ((posns 10 x (min p x.length)).getLast e:Nat):=by unfold CG;rw [List.getLast?_eq_some_getLast e]
   walk_at "wp"
   refine wpRind cnt (by rw [Int.toNat_natCast];exact List.getLast?_eq_some_getLast e) ?_
   walk_at "wp"
   rw [ec]
   exact ⟨rfl,(B.set 3 _ |> At.mk _ rfl)⟩
 obtain ⟨n,ec,hc⟩:=G5 (x:=x) (p:=p)
 have nl:n<=1000000000:=Nat.le_trans hc hp
 have l1:(Bq (lineOf x p:Nat)).length<=10:=CF (Nat.lt_of_le_of_lt lo (by decide))
 have l2:(Bq (CG x p)).length<=10:=by rw [ec];exact CF (Nat.lt_of_le_of_lt nl (by decide))
 refine wpB (wpJC (wpR ⟨rfl,rfl⟩) (by decide) (wpJC (t:=Bq (lineOf x p:Nat)) (by walk_at "wp";exact wpFI (AU (Nat.lt_of_le_of_lt lo (by decide))) ⟨rfl,rfl⟩) (Cs (show _<=5 by decide) l1 (by decide)) (wpJC (wpR ⟨rfl,rfl⟩) (Cs (Bz (show _<=5 by decide) l1) (show _<=9 by decide) (by decide))
  (wpJC (t:=Bq (CG x p)) (by walk_at "wp";exact wpFI (by rw [ec];exact AU (Nat.lt_of_le_of_lt nl (by decide))) ⟨rfl,rfl⟩) (Cs (Bz (Bz (show _<=5 by decide) l1) (show _<=9 by decide)) l2 (by decide)) (wpJN (Cs (Bz (Bz (show _<=5 by decide) l1) (show _<=9 by decide)) l2 (by decide)) ?_)))))
 walk_at "wp"
 exact hQ
private theorem Df {x msg:Txt}{p:Nat}{loc:Nat->Option PV}{st:List (List PV)}{Q:Txt->PS->Prop}{E:PX->PS->Prop}(hx:x.length<=big)(hp:p<1000000000)(hm:msg.length<=1000)(hQ:Q (Cc x p msg) ⟨loc,st⟩):wp (M.callX (EB BO) [.str x,.int p,.str msg]) ⟨loc,st⟩ Q E:=by
 have cl:=MH (x:=x) hp
 rw [wp_callX]
 have B:=Loc.init [.str x,.int p,.str msg] 0
 generalize loc0 [PV.str x,.int p,.str msg]=L at B
 unfold EB
 have e1:((" (at ":Str).cps.toList:Txt)=[32,40,97,116,32]:=by kernel_rfl
 have e2:((")":Str).cps.toList:Txt)=[41]:=by kernel_rfl
 rw [e1,e2]
 refine wpB (wpJC (t:=msg) (by walk_at "wp";exact wpFS (Az (Nat.le_trans hm (by decide))) ⟨rfl,rfl⟩) (Az (Nat.le_trans hm (by decide))) (wpJC (wpR ⟨rfl,rfl⟩) (Cs (a:=1000) hm (show _<=5 by decide) (by decide)) (wpJC (t:=Ct x p) ?_ (Cs (Bz (a:=1000) hm (show _<=5 by decide)) cl (by decide))
  (wpJC (wpR ⟨rfl,rfl⟩) (Cs (Bz (Bz (a:=1000) hm (show _<=5 by decide)) cl) (show _<=1 by decide) (by decide)) (wpJN (Cs (Bz (Bz (a:=1000) hm (show _<=5 by decide)) cl) (show _<=1 by decide) (by decide)) ?_)))))
 ·walk_at "wp"
  refine KB hx hp ?_
  exact wpFS (Az (Nat.le_trans cl (by decide))) ⟨rfl,rfl⟩
 ·refine KtI ?_
  rw [wp_toTxt]
  exact hQ
theorem wp_whileN {t:M Bool}{b:M PFlow}{Q:PFlow->PS->Prop}{E:PX->PS->Prop}(I:Nat->PS->Prop)(n:Nat)
  (step:∀ k s,I k s->k<=n->wp t s (fun c s'=>if c=true then wp b s' (fun fl s''=>match fl with | .next=>k<n/\I (k+1) s'' | .cont=>k<n/\I (k+1) s'' | .brk=>Q .next s'' | .ret v=>Q (.ret v) s'') E else Q .next s') E) :
  ∀ (f k:Nat) (s:PS),I k s->k<=n->n - k<f->wp (M.whileN t b f) s Q E:=by
 intro f
 induction f with
 | zero=>exact fun U U U U h=>absurd h (Nat.not_lt_zero _)
 | succ f ih=>
  intro k s i hk h
  show wp (M.bind t fun c=>if c then M.bind b fun fl=>match fl with
    | .next=>M.whileN t b f
    | .cont=>M.whileN t b f
    | .brk=>M.ret .next
    | .ret v=>M.ret (.ret v)
   else M.ret .next) s Q E
  rw [wp_bind]
  refine wp_mono (step k s i hk) (fun c s' z=>?_) fun U U z=>z
  cases c with
  | false=>exact z
  | true=>
   rw [if_pos rfl] at z
   rw [if_pos rfl,wp_bind]
   refine wp_mono z (fun fl s'' z=>?_) fun U U z=>z
   cases fl with
   | next=>exact ih (k+1) s'' z.2 z.1 (fuel h z.1)
   | cont=>exact ih (k+1) s'' z.2 z.1 (fuel h z.1)
   | brk=>exact z
   | ret v=>exact z
section
variable {s:PS}{x y:Txt}{Q:PV->PS->Prop}{E:PX->PS->Prop}
end
private theorem Ed (x:Txt)(a b:Nat):slc x (some (a:Int)) (some (b:Int))=(x.take (min b x.length)).drop (min a x.length):=by
 unfold slc bnd
 simp only [Int.natCast_nonneg,if_true,Int.toNat_natCast]
private theorem Fh {x:Txt}{a b:Option Int}:(slc x a b).length<=x.length:=by
 unfold slc
 exact Nat.le_trans (by rw [List.length_drop];exact Nat.sub_le ..) (by rw [List.length_take];exact Nat.min_le_right ..)
private theorem G6 {n:String}{h:M PFlow}:Ig n h (.std n)=some h:=by unfold Ig;simp
section
variable {p:Nat}{x:Txt}{loc:Nat->Option PV}{st:List (List PV)}{Q:PV->PS->Prop}{E:PX->PS->Prop}
theorem wpRep {s:PS}(l:(A3 x).length<=big)(h:Q (.str (A3 x)) s):wp (Ih (.str x)) s Q E:=by rw [wp_repr];exact ⟨l,h⟩
private theorem Qs {c i:Nat}(h:x[i]? = some c):x.getD i 0=c:=by rw [List.getD_eq_getElem?_getD,h];rfl
private theorem Lu {a b:Option Int}(hx:x.length<=1000000):(slc x a b).length<=big:=Az (Nat.le_trans Fh hx)
end
noncomputable def RS:Txt:=[73,110,118,97,108,105,100,32,104,101,120,32,118,97,108,117,101]
noncomputable def Q6:Txt:=[85,110,101,115,99,97,112,101,100,32,39,92,39,32,105,110,32,97,32,115,116,114,105,110,103]
noncomputable def AT (c:Nat):Prop:=c<=55295\/(57344<=c/\c<=1114111)
section
variable {p:Nat}{x:Txt}{loc:Nat->Option PV}{st:List (List PV)}{Q:PV->PS->Prop}{E:PX->PS->Prop}
theorem wpInt16 {s:PS}(c:(!x.isEmpty&&x.all hexd&&decide (x.length<=640))=true)(h:Q (.int (hexval x)) s):wp (P9 [.str x,.int 16]) s Q E:=by
 rw [show wp (P9 [.str x,.int 16]) s Q E=(((16:Int)==16&&!x.isEmpty&&x.all hexd&&decide (x.length<=640))=true/\Q (.int (hexval x)) s) from wp_orStuck]
 exact ⟨c,h⟩
theorem wpChain {s:PS}{a b c:Int}(h:Q (.bool (decide (a<=b)&&decide (b<=c))) s):wp (Ew .LtE .LtE (.int a) (.int b) (M.ret (.int c))) s Q E:=by
 unfold Ew
 refine wpB (wpLeI (wpB (wpTb ?_)))
 cases q:decide (a<=b)
 ·rw [q] at h;exact h
 ·rw [q] at h;exact h
theorem wpOrV {m m':M PV}{s:PS}(h:wp m s (fun v s'=>∃ b,v = .bool b/\(if b=true then Q v s' else wp m' s' Q E)) E):wp (BS .Or [m,m']) s Q E:=by
 rw [wp_or2 (by exact nofun)]
 refine wp_mono h (fun v s' z=>?_) fun U U z=>z
 obtain ⟨b,rfl,z⟩:=z
 cases b <;> exact z
theorem wpOrC {m:M Bool}{r:List (M Bool)}{s:PS}{Q:Bool->PS->Prop}(h:wp m s (fun b s'=>if b=true then Q true s' else wp (AB .Or r) s' Q E) E):wp (AB .Or (m::r)) s Q E:=wp_or_cons▸h
private theorem Qt {b:Bool}(h:(!b)=false):b=true:=by cases b <;> first | rfl | cases h
theorem wpSup {k:Nat}{s:PS}(h:Q (.bool (x.all fun c=>AM k c)) s):wp (Mc (.fset k) [.str x]) s Q E:=h
set_option tactic.hygienic true in
private theorem Jb {c:Nat}(h:AT c)(hQ:Q (.bool true) ⟨loc,st⟩):wp (M.call (As Kx) [.int c]) ⟨loc,st⟩ Q E:=by
 refine wpCall 0 fun L B=>?_
 unfold As
 refine wpB (wpOrV ?_)
 walk_at "wp"
 refine wpChain ⟨_,rfl,?_⟩
 rw [decide_eq_true (Int.natCast_nonneg c),Bool.true_and]
 rcases h with h | h
 ·rw [decide_eq_true (show (c:Int)<=55295 from Int.ofNat_le.mpr h),if_pos rfl]
  exact hQ
 ·split
  ·rename_i z
   rw [z]
   exact hQ
  walk_at "wp"
  refine wpChain ?_
  rw [decide_eq_true (show (57344:Int)<=c from Int.ofNat_le.mpr h.1),decide_eq_true (show (c:Int)<=1114111 from Int.ofNat_le.mpr h.2)]
  exact hQ
noncomputable abbrev tH (x:Txt)(p n:Nat)(h v:Option PV):Tb:=[some (.str x),some (.int p),some (.int n),h,v]
private theorem hex_go {n:Nat}{h:Txt}(hx:x.length<=1000000)(hp:p<=1000000)(hn:n=4\/n=8)(hs:slc x (some (p:Int)) (some ((p+n:Nat):Int))=h)(B:Bool)(hB:B=(!decide (h.length=n)||!h.all hexd))
  (k1:B=false->AT (hexval h)/\Q (.tup [.int ((p+n:Nat):Int),.str [hexval h]]) ⟨loc,st⟩) (k2:B=true->E (.toml (Cc x p RS)) ⟨loc,st⟩):wp (M.call (Aq Kx) [.str x,.int p,.int n]) ⟨loc,st⟩ Q E:=by
 have hl:h.length<=1000000:=hs▸Nat.le_trans Fh hx
 refine wpCall 2 fun L V=>?_
 unfold Aq
 refine wpA st (tH x p n (some (.str h)) none) ?_ fun L V=>?_
 ·walk_at "wp"
  refine wpSl hs (Az hl) ?_
  walk_at "wp"
  exact ⟨rfl,(V.set 3 _ |> At.mk _ rfl)⟩
 refine wpTh ?_
 refine A7 (c:=B) ?_ (fun hb=>?_) (fun hb=>?_)
 ·refine wpOrC ?_
  walk_at "wp"
  ·exact Az hl
  walk_at "wp"
  rw [isZ]
  cases q:decide (h.length=n)
  ·rw [q] at hB;exact ⟨hB.symm,rfl⟩
  ·rw [q] at hB
   rw [Bool.not_true,if_neg (by decide)]
   refine wpOrC ?_
   walk_at "wp"
   refine wpSup ?_
   walk_at "wp"
   rw [show (h.all fun c=>AM 4 c)=h.all hexd from rfl]
   rw [Bool.not_true,Bool.false_or] at hB
   subst hB
   cases h.all hexd
   ·exact ⟨rfl,rfl⟩
   ·exact ⟨rfl,rfl⟩
 ·walk_at "wp"
  exact Df (Az hx) (Nat.lt_of_le_of_lt hp (by decide)) (by decide) (k2 hb)
 obtain ⟨s1,s2⟩:=k1 hb
 rw [hb] at hB
 have hB:=Bool.or_eq_false_iff.mp hB.symm
 have h1:h.length=n:=of_decide_eq_true (Qt hB.1)
 have h2:h.all hexd=true:=Qt hB.2
 refine wpR ?_
 refine wpA st (tH x (p+n) n (some (.str h)) none) ?_ fun L V=>?_
 ·walk_at "wp"
  exact ⟨rfl,(V.set 1 _ |> At.mk _ rfl)⟩
 refine wpA st (tH x (p+n) n (some (.str h)) (some (.int (hexval h)))) ?_ fun L V=>?_
 ·walk_at "wp"
  refine wpInt16 ?_ ?_
  ·have ne:h.isEmpty=false:=by cases h with
    | nil=>rcases hn with rfl | rfl <;> cases h1
    | cons=>rfl
   rw [ne,h2,h1,decide_eq_true (show n<=640 by lia)];rfl
  walk_at "wp"
  exact ⟨rfl,(V.set 4 _ |> At.mk _ rfl)⟩
 refine wpTh ?_
 refine A7 (c:=false) ?_ (fun h=>(by cases h)) (fun U=>?_)
 ·walk_at "wp"
  refine Jb s1 ?_
  walk_at "wp"
  exact ⟨rfl,rfl⟩
 refine wpR ?_
 have sc:hexval h<=1114111:=s1.elim (fun h=>Nat.le_trans h (by decide)) fun h=>h.2
 walk_at "wp"
 refine wpChr (by rw [decide_eq_true (Int.natCast_nonneg _),decide_eq_true (show (hexval h:Int)<=1114111 from Int.ofNat_le.mpr sc)];rfl) ?_
 walk_at "wp"
 ·exact (show 2<=big by decide)
 exact s2
private theorem Ee {n:Nat}{h:Txt}(hx:x.length<=1000000)(hp:p<=1000000)(hn:n=4\/n=8)(hs:slc x (some (p:Int)) (some ((p+n:Nat):Int))=h) :
  ((h.length=n/\h.all hexd=true)->AT (hexval h)->Q (.tup [.int ((p+n:Nat):Int),.str [hexval h]]) ⟨loc,st⟩->wp (M.call (Aq Kx) [.str x,.int p,.int n]) ⟨loc,st⟩ Q E) /\
  (¬ (h.length=n/\h.all hexd=true)->E (.toml (Cc x p RS)) ⟨loc,st⟩->wp (M.call (Aq Kx) [.str x,.int p,.int n]) ⟨loc,st⟩ Q E):=by
 refine ⟨fun q sc hQ=>hex_go hx hp hn hs false (by rw [q.2,decide_eq_true q.1];rfl) (fun U=>⟨sc,hQ⟩) (fun h=>(by cases h)),fun q hE=>hex_go hx hp hn hs true ?_ (fun h=>(by cases h)) fun U=>hE⟩
 by_cases q1:h.length=n
 ·cases q2:h.all hexd with
  | true=>exact absurd ⟨q1,q2⟩ q
  | false=>rw [Bool.not_false,Bool.or_true]
 ·rw [decide_eq_false q1];rfl
theorem wp_itemM {s:PS}:wp (Ax false .mp (.str x)) s Q E=match escT x with | some t=>Q (.str t) s | none=>E (.std "KeyError") s:=by
 show wp (match escT x with
  | some t=>M.ret (PV.str t)
  | none=>M.raiseB false "KeyError") s Q E=_
 cases escT x <;> rfl
theorem wpAndC {m:M Bool}{r:List (M Bool)}{s:PS}{Q:Bool->PS->Prop}(h:wp m s (fun b s'=>if b=true then wp (AB .And r) s' Q E else Q false s') E):wp (AB .And (m::r)) s Q E:=wp_and_cons▸h
noncomputable abbrev tEs (x:Txt)(p:Nat)(e:Option PV):Tb:=[some (.str x),some (.int p),some (.bool false),e]
private theorem Ef {e:Txt}(hx:x.length<=1000000)(hp:p<=1000000)(he:slc x (some (p:Int)) (some ((p+2:Nat):Int))=e)
  (h4:e=[92,117]->∀ L,wp (M.call (Aq Kx) [.str x,.int ((p+2:Nat):Int),.int (4:Nat)]) ⟨L,st⟩ (fun v s'=>Q v ⟨loc,s'.st⟩) (fun e s'=>E e ⟨loc,s'.st⟩))
  (h8:e=[92,85]->∀ L,wp (M.call (Aq Kx) [.str x,.int ((p+2:Nat):Int),.int (8:Nat)]) ⟨L,st⟩ (fun v s'=>Q v ⟨loc,s'.st⟩) (fun e s'=>E e ⟨loc,s'.st⟩))
  (hk:e≠[92,117]->e≠[92,85]->match escT e with | some t=>Q (.tup [.int ((p+2:Nat):Int),.str t]) ⟨loc,st⟩ | none=>E (.toml (Cc x (p+2) Q6)) ⟨loc,st⟩) :
  wp (M.call (An Kx) [.str x,.int p,.bool false]) ⟨loc,st⟩ Q E:=by
 have hl:e.length<=1000000:=he▸Nat.le_trans Fh hx
 refine wpCall 1 fun L B=>?_
 unfold An
 refine wpA st (tEs x p (some (.str e))) ?_ fun L B=>?_
 ·walk_at "wp"
  refine wpSl he (Az hl) ?_
  walk_at "wp"
  exact ⟨rfl,(B.set 3 _ |> At.mk _ rfl)⟩
 refine wpA st (tEs x (p+2) (some (.str e))) ?_ fun L B=>?_
 ·walk_at "wp"
  exact ⟨rfl,(B.set 1 _ |> At.mk _ rfl)⟩
 refine wpTh ?_
 refine A7 (c:=false) (wpAndC (by walk_at "wp";exact ⟨rfl,rfl⟩)) (fun h=>(by cases h)) (fun U=>wpR ?_)
 refine wpTh ?_
 refine A7 (c:=(e==[92,117])) (by walk_at "wp";exact ⟨rfl,rfl⟩) (fun h=>?_) (fun n4=>wpR ?_)
 ·walk_at "wp"
  exact h4 (eq_of_beq h) L
 refine wpTh ?_
 refine A7 (c:=(e==[92,85])) (by walk_at "wp";exact ⟨rfl,rfl⟩) (fun h=>?_) (fun n8=>wpR ?_)
 ·walk_at "wp"
  exact h8 (eq_of_beq h) L
 have hk:=hk (ne_of_beq_false n4) (ne_of_beq_false n8)
 refine KnI ?_
 rw [wp_try]
 walk_at "wp"
 rw [wp_itemM]
 cases q:escT e with
 | some t=>
  rw [q] at hk
  dsimp only
  walk_at "wp"
  ·exact (show 2<=big by decide)
  exact hk
 | none=>
  rw [q] at hk
  dsimp only
  rw [G6]
  dsimp only
  walk_at "wp"
  exact Df (Az hx) (Nat.lt_of_le_of_lt (Nat.add_le_add_right hp 2) (by decide)) (by decide) hk
end
noncomputable def MI:Txt:=[85,110,116,101,114,109,105,110,97,116,101,100,32,115,116,114,105,110,103]
noncomputable def Eg:Txt:=[73,108,108,101,103,97,108,32,99,104,97,114,97,99,116,101,114,32]
noncomputable def Q7 (x:Txt)(p p':Nat)(t:Txt):Prop:=∀ (loc:Nat->Option PV) (st:List (List PV)) (Q:PV->PS->Prop) (E:PX->PS->Prop),Q (.tup [.int p',.str t]) ⟨loc,st⟩->wp (M.call (An Kx) [.str x,.int p,.bool false]) ⟨loc,st⟩ Q E
noncomputable def KC (x:Txt)(p:Nat)(t:Txt):Prop:=∀ (loc:Nat->Option PV) (st:List (List PV)) (Q:PV->PS->Prop) (E:PX->PS->Prop),E (.toml t) ⟨loc,st⟩->wp (M.call (An Kx) [.str x,.int p,.bool false]) ⟨loc,st⟩ Q E
inductive BOut where
 | ok (i:Nat) (D:Txt)
 | err (t:Txt)
inductive Bas (x:Txt):Nat->Txt->BOut->Prop
 | eof {D:Txt}:Bas x x.length D (.err (Cc x x.length MI))
 | quote {p:Nat} {D:Txt}:x[p]? = some 34->Bas x p D (.ok (p+1) D)
 | esc {p p':Nat} {D t:Txt} {o:BOut}:x[p]? = some 92->Q7 x p p' t->t.length=1->p<p'->p'<=x.length->Bas x p' (D++t) o->Bas x p D o
 | escBad {p:Nat} {D t:Txt}:x[p]? = some 92->KC x p t->Bas x p D (.err t)
 | bad {p c:Nat} {D:Txt}:x[p]? = some c->c≠34->c≠92->AM 0 c=true->(A3 [c]).length<=100->Bas x p D (.err (Cc x p (Eg++A3 [c])))
 | raw {p c:Nat} {D:Txt} {o:BOut}:x[p]? = some c->c≠34->c≠92->AM 0 c=false->Bas x (p+1) (D++[c]) o->Bas x p D o
private theorem RT (Kx:Nat):Bj Kx=M.thenS (M.bind ((M.bind (M.getL 2) tst)) fun c=>if c then (M.thenS (M.bind (M.ret (.fset 1)) fun x1=>M.bind (M.setL 3 x1) fun U=>M.ret .next)
  (M.bind (M.ret (.fn 1)) fun x2=>M.bind (M.setL 4 x2) fun U=>M.ret .next)) else (M.thenS (M.bind (M.ret (.fset 0)) fun x3=>M.bind (M.setL 3 x3) fun U=>M.ret .next)
  (M.bind (M.ret (.fn 0)) fun x4=>M.bind (M.setL 4 x4) fun U=>M.ret .next)))
  (M.thenS (M.bind (M.ret (.str [])) fun x5=>M.bind (M.setL 5 x5) fun U=>M.ret .next)
  (M.thenS (M.bind (M.getL 1) fun x6=>M.bind (M.setL 6 x6) fun U=>M.ret .next)
  (M.whileN ((M.bind (M.ret (.bool true)) tst)) (Ak Kx) Kx))):=rfl
private theorem Jc (x:Txt)(p:Nat):slc x (some (p:Int)) (some (p:Int))=[]:=by
 rw [Ed]
 apply List.eq_nil_of_length_eq_zero
 simp only [List.length_drop,List.length_take]
 lia
private theorem OR {x:Txt}{sp p c:Nat}(h:sp<=p)(hc:x[p]? = some c):slc x (some (sp:Int)) (some ((p+1:Nat):Int))=slc x (some (sp:Int)) (some (p:Int))++[c]:=by
 have lt:=(List.getElem?_eq_some_iff.mp hc).1
 rw [Ed,Ed,Nat.min_eq_left (by exact Mi.la [_,_] [([2,3,0],[4])] ([2,3,0],[4]) rfl lt:p+1<=x.length),Nat.min_eq_left (by exact Mi.la [_,_] [([2,3,0],[4])] ([2],[4]) rfl lt:p<=x.length),Nat.min_eq_left (by exact Mi.la [_,_,_] [([2],[4]),([4,3,0],[6])] ([2],[6]) rfl h lt:sp<=x.length),List.take_succ,hc]
 rw [List.drop_append_of_le_length (by simp;lia)]
 rfl
theorem wp_turn {b:M PFlow}{f:Nat}{s:PS}{Q:PFlow->PS->Prop}{E:PX->PS->Prop} (h:wp b s (fun fl s'=>match fl with
  | .next=>wp (M.whileN ((M.bind (M.ret (.bool true)) tst)) b f) s' Q E
  | .cont=>wp (M.whileN ((M.bind (M.ret (.bool true)) tst)) b f) s' Q E
  | .brk=>Q .next s'
  | .ret v=>Q (.ret v) s') E):wp (M.whileN ((M.bind (M.ret (.bool true)) tst)) b (f+1)) s Q E:=by
 show wp (M.bind (M.bind (M.ret (.bool true)) tst) fun c=>if c then M.bind b fun fl=>match fl with
    | .next=>M.whileN ((M.bind (M.ret (.bool true)) tst)) b f
    | .cont=>M.whileN ((M.bind (M.ret (.bool true)) tst)) b f
    | .brk=>M.ret .next
    | .ret v=>M.ret (.ret v)
   else M.ret .next) s Q E
 rw [wp_bind,wp_bind,wp_ret,wp_tst_bool,if_pos rfl,wp_bind]
 refine wp_mono h (fun fl s' z=>?_) fun U U z=>z
 cases fl <;> exact z
theorem wp_via {m1 m2:M PV}{s:PS}{Q:PV->PS->Prop}{E:PX->PS->Prop}:wp (M.viaFn (RE Kx) [m1,m2] (.fn 0)) s Q E=wp (M.bind (M.seq [m1,m2]) fun l=>M.call (An Kx) (l++[.bool false])) s Q E:=rfl
theorem wp_unpack2 {f g:PV->M Unit}{a b:PV}{s:PS}{Q:Unit->PS->Prop}{E:PX->PS->Prop}:wp (M.unpack [f,g] (.tup [a,b])) s Q E=wp (f a) s (fun U s'=>wp (g b) s' (fun U s''=>Q () s'') E) E:=by
 show wp (M.orStuck true (M.bind (f a) fun U=>M.bind (g b) fun U=>M.ret ())) s Q E=_
 rw [wp_orStuck,wp_bind]
 simp only [true_and,wp_bind,wp_ret]
noncomputable abbrev tBs (x:Txt)(p:Nat)(R:Txt)(sp:Nat)(c t:Option PV):Tb:=[some (.str x),some (.int p),some (.bool false),some (.fset 0),some (.fn 0),some (.str R),some (.int sp),c,t]
section
variable {p sp c:Nat}{x R D:Txt}{L:Nat->Option PV}{st:List (List PV)}{Q:PFlow->PS->Prop}{E:PX->PS->Prop}
private theorem OS (hx:x.length<=1000000)(hc:x[p]? = some c):p<1000000000:=Nat.lt_of_lt_of_le (List.getElem?_eq_some_iff.mp hc).1 (Nat.le_trans hx (by decide))
private theorem EG {X:PX->Option (M PFlow)}{r:M PFlow}(hx:x.length<=1000000)(hc:x[p]? = some c)(B:Loc (tBs x p R sp none none) L)(h:∀ L,Loc (tBs x p R sp (some (.str [c])) none) L->wp r ⟨L,st⟩ Q E) :
  wp (M.thenS (M.tryN X ((M.bind ((M.bind (M.getL 0) fun x7=>M.bind (M.getL 1) fun x8=>Ax false x7 x8)) fun x9=>M.bind (M.setL 7 x9) fun U=>M.ret .next))) r) ⟨L,st⟩ Q E:=by
 refine wpTh ?_
 rw [wp_try]
 walk_at "wp"
 refine wpIt (AU (Nat.lt_trans (OS hx hc) (by decide))) (Gy (List.getElem?_eq_some_iff.mp hc).1) ?_
 rw [Qs hc]
 walk_at "wp"
 exact h _ (B.set 7 _)
private theorem OT (hx:x.length<=1000000)(B:Loc (tBs x x.length R sp none none) L)(hE:E (.toml (Cc x x.length MI)) ⟨L,st⟩):wp (Ak Kx) ⟨L,st⟩ Q E:=by
 unfold Ak
 have lt:x.length<1000000000:=Nat.lt_of_le_of_lt hx (by decide)
 have ix:idx (x.length:Int) x.length=none:=by unfold idx;rw [if_pos (Int.natCast_nonneg _),if_neg (by rw [Int.toNat_natCast];exact Nat.lt_irrefl _)]
 refine wpTh ?_
 rw [wp_try]
 walk_at "wp"
 rw [wp_itemS,ix]
 refine ⟨AU (Nat.lt_trans lt (by decide)),?_⟩
 dsimp only
 rw [G6]
 dsimp only
 walk_at "wp"
 exact Df (Az hx) lt (by decide) hE
private theorem OU (hx:x.length<=1000000)(hp:p<=x.length){l:Nat}(hl:l<=p):l<=big:=Az (Nat.le_trans hl (Nat.le_trans hp hx))
private theorem KD (hx:x.length<=1000000)(hp:p<=x.length)(hc:x[p]? = some 34)(B:Loc (tBs x p R sp none none) L)(hD:R++slc x (some (sp:Int)) (some (p:Int))=D)(hl:D.length<=p)(hQ:∀ L',Q (.ret (.tup [.int ((p+1:Nat):Int),.str D])) ⟨L',st⟩) :
  wp (Ak Kx) ⟨L,st⟩ Q E:=by
 unfold Ak
 refine EG hx hc B fun L B=>?_
 refine wpTh ?_
 refine A7 (c:=true) (by walk_at "wp";exact ⟨rfl,rfl⟩) (fun U=>?_) (fun h=>(by cases h))
 refine wpTh ?_
 refine A7 (c:=true) (by walk_at "wp";exact ⟨rfl,rfl⟩) (fun U=>?_) (fun h=>(by cases h))
 walk_at "wp"
 refine wpSl rfl (Lu hx) ?_
 walk_at "wp"
 ·rw [hD];exact OU hx hp hl
 ·exact (show 2<=big by decide)
 rw [hD]
 exact hQ _
private theorem Jd (hx:x.length<=1000000)(hc:x[p]? = some 92)(B:Loc (tBs x p R sp none none) L)(hD:R++slc x (some (sp:Int)) (some (p:Int))=D)(hl:D.length<=p)
  (h:∀ L,wp (M.call (An Kx) [.str x,.int p,.bool false]) ⟨L,st⟩ (fun v s'=>∃ (p':Nat) (t:Txt),v = .tup [.int p',.str t]/\s'=⟨L,st⟩/\t.length=1/\∀ L',Loc (tBs x p' (D++t) p' none none) L'->Q .cont ⟨L',st⟩) E) :
  wp (Ak Kx) ⟨L,st⟩ Q E:=by
 unfold Ak
 have hp:=Nat.le_of_lt (List.getElem?_eq_some_iff.mp hc).1
 refine EG hx hc B fun L B=>?_
 refine wpTh ?_
 refine A7 (c:=false) (by walk_at "wp";exact ⟨rfl,rfl⟩) (fun h=>(by cases h)) (fun U=>wpR ?_)
 refine wpTh ?_
 refine A7 (c:=true) (by walk_at "wp";exact ⟨rfl,rfl⟩) (fun U=>?_) (fun h=>(by cases h))
 refine wpA st (tBs x p D sp none none) ?_ fun L B=>?_
 ·walk_at "wp"
  refine wpSl rfl (Lu hx) ?_
  walk_at "wp"
  ·rw [hD];exact OU hx hp hl
  rw [hD]
  exact ⟨rfl,((B.set 5 _).drop 7 |> At.mk _ rfl)⟩
 refine wpTh ?_
 walk_at "wp"
 rw [wp_via]
 walk_at "wp"
 refine wp_mono (h L) (fun v s' z=>?_) fun U U z=>z
 obtain ⟨p',t,rfl,rfl,ht,k⟩:=z
 refine wpB ?_
 rw [wp_unpack2]
 have B:=((B.set 1 (.int p')).set 8 (.str t))
 walk_at "wp"
 refine wpTh ?_
 walk_at "wp"
 ·rw [List.length_append,ht];exact Az (Nat.lt_of_le_of_lt hl (Nat.lt_of_lt_of_le (List.getElem?_eq_some_iff.mp hc).1 hx))
 have B:=B.set 5 (.str (D++t))
 refine wpTh ?_
 walk_at "wp"
 exact k _ ((B.set 6 _).drop 8)
private theorem F8 (hx:x.length<=1000000)(hc:x[p]? = some c)(n1:c≠34)(n2:c≠92)(B:Loc (tBs x p R sp none none) L)(h1:AM 0 c=true->(A3 [c]).length<=100/\∀ L',E (.toml (Cc x p (Eg++A3 [c]))) ⟨L',st⟩)
  (h2:AM 0 c=false->∀ L',Loc (tBs x (p+1) R sp none none) L'->Q .next ⟨L',st⟩):wp (Ak Kx) ⟨L,st⟩ Q E:=by
 unfold Ak
 refine EG hx hc B fun L B=>?_
 have ne:∀ d,c≠d->([c]==[d])=false:=fun d h=>beq_eq_false_iff_ne.mpr fun e=>h (List.cons.inj e).1
 refine wpTh ?_
 refine A7 (c:=false) (by walk_at "wp";exact ⟨ne 34 n1,rfl⟩) (fun h=>(by cases h)) (fun U=>wpR ?_)
 refine wpTh ?_
 refine A7 (c:=false) (by walk_at "wp";exact ⟨ne 92 n2,rfl⟩) (fun h=>(by cases h)) (fun U=>wpR ?_)
 refine wpTh ?_
 refine A7 (c:=AM 0 c) (by walk_at "wp";exact ⟨rfl,rfl⟩) (fun e=>?_) (fun e=>wpR ?_)
 ·obtain ⟨hr,hE⟩:=h1 e
  walk_at "wp"
  refine wpJC (wpR ⟨rfl,rfl⟩) (by decide) (wpJC (t:=A3 [c]) ?_ (Cs (show _<=18 by decide) hr (by decide)) (wpJN (Cs (show _<=18 by decide) hr (by decide)) ?_))
  ·walk_at "wp"
   exact wpRep (Az (Nat.le_trans hr (by decide))) ⟨rfl,rfl⟩
  walk_at "wp"
  exact Df (Az hx) (OS hx hc) (by rw [List.length_append];exact Nat.le_trans (Nat.add_le_add (show _<=18 by decide) hr) (by decide)) (hE _)
 ·walk_at "wp"
  exact h2 e _ ((B.set 1 _).drop 7)
end
private theorem OV {x:Txt}(hx:x.length<=1000000){st:List (List PV)}{Q:PFlow->PS->Prop}{E:PX->PS->Prop}:∀ {p:Nat} {D:Txt} {o:BOut},Bas x p D o->(match o with | .ok i D'=>∀ L',Q (.ret (.tup [.int i,.str D'])) ⟨L',st⟩ | .err t=>∀ L',E (.toml t) ⟨L',st⟩) ->
  ∀ {f:Nat} {L:Nat->Option PV} {R:Txt} {sp:Nat},p<=x.length->x.length+1<f+p->Loc (tBs x p R sp none none) L->sp<=p->R++slc x (some (sp:Int)) (some (p:Int))=D->D.length<=p ->
   wp (M.whileN ((M.bind (M.ret (.bool true)) tst)) (Ak Kx) f) ⟨L,st⟩ Q E:=by
 have pos:∀ {f p:Nat},p<=x.length->x.length+1<f+p->∃ g,f=g+1:=fun {f p} h1 h2=>by
  cases f with
  | zero=>lia
  | succ g=>exact ⟨g,rfl⟩
 intro p D o b
 induction b with
 | @eof D=>
  intro hQ f L R sp hp hf B hsp hD hl
  obtain ⟨f,rfl⟩:=pos hp hf
  exact wp_turn (OT hx B (hQ _))
 | @quote p D hc=>
  intro hQ f L R sp hp hf B hsp hD hl
  obtain ⟨f,rfl⟩:=pos hp hf
  exact wp_turn (KD hx hp hc B hD hl hQ)
 | @esc p p' D t o hc he ht lt' le' b ih=>
  intro hQ f L R sp hp hf B hsp hD hl
  obtain ⟨f,rfl⟩:=pos hp hf
  refine wp_turn (Jd hx hc B hD hl fun L=>he L st _ _ ⟨p',t,rfl,rfl,ht,fun L' B=>?_⟩)
  exact ih hQ le' (Q5 hf lt') B (Nat.le_refl _) (by rw [Jc,List.append_nil]) (by rw [List.length_append,ht];exact Nat.lt_of_le_of_lt hl lt')
 | @escBad p D t hc he=>
  intro hQ f L R sp hp hf B hsp hD hl
  obtain ⟨f,rfl⟩:=pos hp hf
  exact wp_turn (Jd hx hc B hD hl fun L=>he L st _ _ (hQ _))
 | @bad p c D hc n1 n2 hs hr=>
  intro hQ f L R sp hp hf B hsp hD hl
  obtain ⟨f,rfl⟩:=pos hp hf
  exact wp_turn (F8 hx hc n1 n2 B (fun U=>⟨hr,hQ⟩) fun e=>nomatch hs.symm.trans e)
 | @raw p c D o hc n1 n2 hs b ih=>
  intro hQ f L R sp hp hf B hsp hD hl
  obtain ⟨f,rfl⟩:=pos hp hf
  refine wp_turn (F8 hx hc n1 n2 B (fun e=>nomatch hs.symm.trans e) fun U L' B=>?_)
  refine ih hQ (List.getElem?_eq_some_iff.mp hc).1 (Q5 hf (Nat.lt_succ_self p)) B (Nat.le_succ_of_le hsp) ?_ (by rw [List.length_append];exact Nat.succ_le_succ hl)
  rw [OR hsp hc,<- List.append_assoc,hD]
section
variable {p:Nat}{x:Txt}{loc:Nat->Option PV}{st:List (List PV)}{Q:PV->PS->Prop}{E:PX->PS->Prop}
private theorem OW {o:BOut}(hx:x.length<=1000000)(hp:p<=x.length)(hK:x.length+1<Kx)(b:Bas x p [] o)(hQ:match o with | .ok i D=>Q (.tup [.int i,.str D]) ⟨loc,st⟩ | .err t=>E (.toml t) ⟨loc,st⟩) :
  wp (M.call (Bj Kx) [.str x,.int p,.bool false]) ⟨loc,st⟩ Q E:=by
 refine wpCall 6 fun L B=>?_
 rw [RT]
 refine wpTh ?_
 refine A7 (c:=false) (by walk_at "wp";exact ⟨rfl,rfl⟩) (fun h=>(by cases h)) (fun U=>?_)
 refine wpTh ?_
 walk_at "wp"
 have B:=(B.set 3 (.fset 0)).set 4 (.fn 0)
 refine wpA st [some (.str x),some (.int p),some (.bool false),some (.fset 0),some (.fn 0),some (.str []),none,none,none] (by walk_at "wp";exact ⟨rfl,(B.set 5 _ |> At.mk _ rfl)⟩) fun L B=>?_
 refine wpA st (tBs x p [] p none none) (by walk_at "wp";exact ⟨rfl,(B.set 6 _ |> At.mk _ rfl)⟩) fun L B=>?_
 refine OV hx b ?_ (R:=[]) (sp:=p) hp (Nat.lt_of_lt_of_le hK (Nat.le_add_right ..)) B (Nat.le_refl _) (by rw [Jc];rfl) (Nat.zero_le _)
 cases o with
 | ok i D=>exact fun L'=>hQ
 | err t=>exact fun L'=>hQ
private theorem BP {o:BOut}(hx:x.length<=1000000)(hp:p+1<=x.length)(hK:x.length+1<Kx)(b:Bas x (p+1) [] o)(hQ:match o with | .ok i D=>Q (.tup [.int i,.str D]) ⟨loc,st⟩ | .err t=>E (.toml t) ⟨loc,st⟩) :
  wp (M.call (Ae Kx) [.str x,.int p]) ⟨loc,st⟩ Q E:=by
 refine wpCall 0 fun L B=>?_
 unfold Ae
 refine wpA st [some (.str x),some (.int ((p+1:Nat):Int))] (by walk_at "wp";exact ⟨rfl,(B.set 1 _ |> At.mk _ rfl)⟩) fun L B=>?_
 walk_at "wp"
 refine OW hx hp hK b ?_
 cases o with
 | ok i D=>exact hQ
 | err t=>exact hQ
end
private theorem CJ {x y z:Txt}{p n:Nat}(h:x.drop p=y++z)(hp:p<=x.length)(hn:y.length=n):slc x (some (p:Int)) (some ((p+n:Nat):Int))=y:=by
 have hl:(x.drop p).length=y.length+z.length:=by rw [h,List.length_append]
 rw [List.length_drop] at hl
 rw [Ed,Nat.min_eq_left (by exact Mi.la [_,_,_,_,_,_] [([2],[4]),([4,6,0],[8]),([8,10,0],[12])] ([10,2,0],[12]) rfl (Nat.le_of_eq hn.symm) (Nat.le_of_eq hl.symm) (Mi.lcC (Mi.la [_,_] [([2],[4])] ([2],[4]) rfl hp)):p+n<=x.length),Nat.min_eq_left hp,List.drop_take]
 rw [h,show p+n - p=n by exact Nat.le_antisymm (Mi.la [_,_,_] [([2,4,0],[4,6,0])] ([2],[6]) rfl (Mi.lcC (Mi.la [_,_] [] ([2],[2,4,0]) rfl))) (Mi.la [_,_,_] [([2,4,0],[6,2,0])] ([4],[6]) rfl (Mi.lcS _ _)),<- hn]
 simp
private theorem Bx {x z:Txt}{p c:Nat}(h:x.drop p=c::z):x[p]? = some c:=by
 have:(x.drop p)[0]? = some c:=by rw [h];rfl
 simpa using this
private theorem Bb {x y z:Txt}{p:Nat}(h:x.drop p=y++z):x.drop (p+y.length)=z:=by
 rw [<- List.drop_drop,h];simp
private theorem Bf {x z:Txt}{p c:Nat}(h:x.drop p=c::z):p<x.length:=(List.getElem?_eq_some_iff.mp (Bx h)).1
section
variable {x:Txt}{p c:Nat}{t rest:Txt}
private theorem OX (hx:x.length<=1000000)(hc:AT c)(u:UnitOf c t)(h:x.drop p=t++rest)(h0:x[p]? = some 92)(n92:c=92->t≠[92]):Q7 x p (p+t.length) [c]:=by
 have lt:=(List.getElem?_eq_some_iff.mp h0).1
 intro loc st Q E hQ
 cases u with
 | raw h1 h2 h3=>
  have:=Bx (x:=x) (p:=p) (c:=c) (z:=rest) h
  rw [h0] at this
  cases this
  exact absurd rfl h3
 | @short d h1 h2 h3=>
  refine Ef hx (by exact Mi.la [_,_] [([2],[2000001]),([4,3,0],[2])] ([4],[2000001]) rfl hx lt) (CJ (n:=2) h (by exact Mi.la [_,_] [([2,3,0],[4])] ([2],[4]) rfl lt) rfl) (fun e=>?_) (fun e=>?_) (fun U U=>?_)
  ·simp at e;exact absurd e h2
  ·simp at e;exact absurd e h3
  ·rw [h1];exact hQ
 | @four hh h1 h2 h3=>
  have hd:x.drop p=[92,117]++(hh++rest):=h
  have hd2:x.drop (p+2)=hh++rest:=Bb hd
  have hl:(x.drop p).length=2+(hh.length+rest.length):=by rw [hd];simp;exact Nat.le_antisymm (Mi.la [_,_] [] ([2,4,0,3,0,3,0],[5,2,4,0,0]) rfl) (Mi.la [_,_] [] ([5,2,4,0,0],[2,4,0,3,0,3,0]) rfl)
  rw [List.length_drop] at hl
  refine Ef hx (by exact Mi.la [_,_,_] [([2],[2000001]),([4,6,0],[2])] ([6],[2000001]) rfl hx (Mi.lcC (Mi.la [_,_] [([2,3,0],[4])] ([2],[4]) rfl lt))) (CJ (n:=2) hd (by exact Mi.la [_,_,_] [([2,4,0],[6])] ([4],[6]) rfl (Mi.lcC (Mi.la [_,_] [([2,3,0],[4])] ([2],[4]) rfl lt))) rfl) (fun e L=>?_) (fun e=>?_) (fun e=>absurd rfl e)
  ·refine (Ee (h:=hh) (n:=4) hx (by exact Mi.la [_,_,_,_,_] [([2],[2000001]),([5,4,6,0,0],[8]),([8,10,0],[2])] ([10,5,0],[2000001]) rfl hx (Nat.le_of_eq hl.symm) (Mi.lcC (Mi.la [_,_] [([2,3,0],[4])] ([2],[4]) rfl lt))) (.inl rfl) (CJ (n:=4) hd2 (by exact Mi.la [_,_,_,_,_] [([5,2,4,0,0],[6]),([6,8,0],[10])] ([8,5,0],[10]) rfl (Nat.le_of_eq hl.symm) (Mi.lcC (Mi.la [_,_] [([2,3,0],[4])] ([2],[4]) rfl lt))) h1)).1 ⟨h1,h2⟩ (h3▸hc) ?_
   rw [h3]
   have e:p+2+4=p+(92::117::hh).length:=by simp [h1]
   rw [e]
   exact hQ
  ·simp at e
 | @eight hh h1 h2 h3=>
  have hd:x.drop p=[92,85]++(hh++rest):=h
  have hd2:x.drop (p+2)=hh++rest:=Bb hd
  have hl:(x.drop p).length=2+(hh.length+rest.length):=by rw [hd];simp;exact Nat.le_antisymm (Mi.la [_,_] [] ([2,4,0,3,0,3,0],[5,2,4,0,0]) rfl) (Mi.la [_,_] [] ([5,2,4,0,0],[2,4,0,3,0,3,0]) rfl)
  rw [List.length_drop] at hl
  refine Ef hx (by exact Mi.la [_,_,_] [([2],[2000001]),([4,6,0],[2])] ([6],[2000001]) rfl hx (Mi.lcC (Mi.la [_,_] [([2,3,0],[4])] ([2],[4]) rfl lt))) (CJ (n:=2) hd (by exact Mi.la [_,_,_] [([2,4,0],[6])] ([4],[6]) rfl (Mi.lcC (Mi.la [_,_] [([2,3,0],[4])] ([2],[4]) rfl lt))) rfl) (fun e=>?_) (fun e L=>?_) (fun U e=>absurd rfl e)
  ·simp at e
  ·refine (Ee (h:=hh) (n:=8) hx (by exact Mi.la [_,_,_,_,_] [([2],[2000001]),([5,4,6,0,0],[8]),([8,10,0],[2])] ([10,5,0],[2000001]) rfl hx (Nat.le_of_eq hl.symm) (Mi.lcC (Mi.la [_,_] [([2,3,0],[4])] ([2],[4]) rfl lt))) (.inr rfl) (CJ (n:=8) hd2 (by exact Mi.la [_,_,_,_,_] [([5,2,4,0,0],[6]),([6,8,0],[10])] ([8,5,0],[10]) rfl (Nat.le_of_eq hl.symm) (Mi.lcC (Mi.la [_,_] [([2,3,0],[4])] ([2],[4]) rfl lt))) h1)).1 ⟨h1,h2⟩ (h3▸hc) ?_
   rw [h3]
   have e:p+2+8=p+(92::85::hh).length:=by simp [h1]
   rw [e]
   exact hQ
end
inductive Units:Txt->List Txt->Prop
 | nil:Units [] []
 | cons {c:Nat} {t cs:Txt} {ts:List Txt} (hc:AT c) (u:UnitOf c t) (r:Units cs ts):Units (c::cs) (t::ts)
private theorem Je {c:Nat}(h:F6 c=true):AM 0 c=false:=by
 unfold F6 at h
 simp only [Bool.and_eq_true,bne_iff_ne,ne_eq,Bool.or_eq_true,beq_iff_eq,decide_eq_true_eq] at h
 show (ctl c&&c != 9)=false
 unfold ctl
 by_cases q:c=9
 ·subst q;rfl
 ·have h1:¬ c<32:=by lia
  simp [h1,h.1]
private theorem G7 {c:Nat}{t:Txt}(u:UnitOf c t):(t=[c]/\F6 c=true/\c≠34/\c≠92)\/∃ r,t=92::r/\r≠[]:=by
 cases u with
 | raw h1 h2 h3=>exact .inl ⟨rfl,h1,h2,h3⟩
 | short h1 h2 h3=>exact .inr ⟨_,rfl,List.cons_ne_nil _ _⟩
 | four h1 h2 h3=>exact .inr ⟨_,rfl,List.cons_ne_nil _ _⟩
 | eight h1 h2 h3=>exact .inr ⟨_,rfl,List.cons_ne_nil _ _⟩
section
variable {x:Txt}
private theorem MJ (hx:x.length<=1000000){o:BOut}{rest:Txt}:∀ {cs:Txt} {ts:List Txt},Units cs ts->∀ {p:Nat} {D:Txt},p<=x.length->x.drop p=ts.flatten++rest->Bas x (p+ts.flatten.length) (D++cs) o->Bas x p D o:=by
 intro cs ts u
 induction u with
 | nil=>intro p D _ _ b;simpa using b
 | @cons c t cs ts hc u r ih=>
  intro p D hp h b
  rw [List.flatten_cons,List.append_assoc] at h
  have hl:(x.drop p).length=t.length+(ts.flatten++rest).length:=by rw [h,List.length_append]
  rw [List.length_drop] at hl
  have hd:=Bb h
  rcases G7 u with ⟨rfl,h1,h2,h3⟩ | ⟨r',rfl,hr'⟩
  ·refine .raw (Bx h) h2 h3 (Je h1) ?_
   refine ih (by simp at hl;exact Mi.la [_,_,_,_,_] [([3,2,4,0,0],[6]),([6,8,0],[10])] ([8,3,0],[10]) rfl (Nat.le_of_eq hl.symm) (Mi.lcC (Mi.la [_,_] [([2],[4])] ([2],[4]) rfl hp))) hd ?_
   rw [List.append_assoc]
   rw [List.flatten_cons,List.length_append,<- Nat.add_assoc] at b
   exact b
  ·have h0:=Bx h
   refine .esc h0 (OX hx hc u h h0 (fun U e=>hr' (List.cons.inj e).2)) rfl (by simp) (by exact Mi.la [_,_,_,_,_] [([2,4,0],[6]),([6,8,0],[10])] ([8,2,0],[10]) rfl (Nat.le_of_eq hl.symm) (Mi.lcC (Mi.la [_,_] [([2],[4])] ([2],[4]) rfl hp))) ?_
   refine ih (by exact Mi.la [_,_,_,_,_] [([2,4,0],[6]),([6,8,0],[10])] ([8,2,0],[10]) rfl (Nat.le_of_eq hl.symm) (Mi.lcC (Mi.la [_,_] [([2],[4])] ([2],[4]) rfl hp))) hd ?_
   rw [List.append_assoc]
   rw [List.flatten_cons,List.length_append,<- Nat.add_assoc] at b
   exact b
end
section
variable {loc:Nat->Option PV}{st:List (List PV)}{Q:PV->PS->Prop}{E:PX->PS->Prop}
theorem wp_itemL {a:Nat}{i:Int}:wp (Ax false (.lst a) (.int i)) ⟨loc,st⟩ Q E=(Ai i=true/\match st[a]? with | some l=>(match (idx i l.length).bind (l[·]?) with | some v=>Q v ⟨loc,st⟩ | none=>False) | none=>False):=by
 show wp (M.orStuck (Ai i) (M.bind (M.getLst a) fun l=>M.ofO ((idx i l.length).bind (l[·]?)))) _ Q E=_
 rw [wp_orStuck,wp_bind,wp_getLst]
 congr 1
 cases st[a]? with
 | none=>rfl
 | some l=>
  dsimp only
  rw [wp_ofO]
  cases (idx i l.length).bind (l[·]?) <;> rfl
private theorem Bn {l:List PV}:(st++[l])[st.length]? = some l:=by simp
theorem wpItL {loc:Nat->Option PV}{st:List (List PV)}{Q:PV->PS->Prop}{E:PX->PS->Prop}{a j:Nat}{i:Int}{l:List PV}{v:PV}(c:Ai i=true)(hl:st[a]? = some l)(hi:idx i l.length=some j)(hv:l[j]? = some v)(h:Q v ⟨loc,st⟩):wp (Ax false (.lst a) (.int i)) ⟨loc,st⟩ Q E:=by
 rw [wp_itemL,hl]
 refine ⟨c,?_⟩
 dsimp only
 rw [hi,Option.bind_some,hv]
 exact h
private theorem RU {c:Nat}(h:AT c):(0<=(c:Int)&&(c:Int)<=1114111)=true:=by
 have:c<=1114111:=h.elim (fun h=>Nat.le_trans h (by decide)) fun h=>h.2
 rw [decide_eq_true (Int.natCast_nonneg c),decide_eq_true (show (c:Int)<=1114111 from Int.ofNat_le.mpr this)];rfl
theorem wpChrN {c:Nat}{i:Int}{s:PS}(e:i=(c:Nat))(hc:AT c)(h:Q (.str [c]) s):wp (DU [.int i]) s Q E:=by subst e;exact wpChr (RU hc) h
end
theorem wp_compN {get:Nat->M (Option PV)}{j:Nat}{mc:M Bool}{me:M PV}{Q:PV->PS->Prop}{E:PX->PS->Prop}(I:Nat->List PV->PS->Prop)(n:Nat)(p:Nat->PV)
  (hget:∀ k acc s,I k acc s->k<n->get k s = .ok (some (p k)) s) (hend:∀ acc s,I n acc s->get n s = .ok none s)
  (step:∀ k acc s,I k acc s->k<n->wp (M.setL j (p k)) s (fun U s'=>wp mc s' (fun c s''=>if c=true then wp me s'' (fun v s3=>acc.length+1<=big/\I (k+1) (acc++[v]) s3) E else I (k+1) acc s'') E) E)
  (fin:∀ acc s,I n acc s->wp (M.newLst acc) s Q E):∀ (f k:Nat) (acc:List PV) (s:PS),I k acc s->k<=n->n - k<f->wp (M.compN get j mc me f k acc) s Q E:=by
 intro f
 induction f with
 | zero=>exact fun U U U U U h=>absurd h (Nat.not_lt_zero _)
 | succ f ih=>
  intro k acc s i hk h
  show wp (M.bind (get k) fun o=>match o with
   | none=>M.newLst acc
   | some p=>M.bind (M.setL j p) fun U=>M.bind mc fun c=>if c then M.bind me fun v=>M.orStuck (acc.length+1<=big) (M.compN get j mc me f (k+1) (acc++[v])) else M.compN get j mc me f (k+1) acc) s Q E
  rw [wp_bind]
  by_cases q:k=n
  ·subst q
   unfold wp
   rw [hend acc s i]
   exact fin acc s i
  ·have lt:k<n:=Nat.lt_of_le_of_ne hk q
   unfold wp
   rw [hget k acc s i lt]
   show wp _ s Q E
   dsimp only
   rw [wp_bind]
   refine wp_mono (step k acc s i lt) (fun U s' z=>?_) fun U U z=>z
   rw [wp_bind]
   refine wp_mono z (fun c s'' z=>?_) fun U U z=>z
   cases c with
   | false=>
    rw [if_neg (by simp)] at z ⊢
    exact ih (k+1) acc s'' z lt (fuel h lt)
   | true=>
    rw [if_pos rfl] at z ⊢
    rw [wp_bind]
    refine wp_mono z (fun v s3 z=>?_) fun U U z=>z
    rw [wp_orStuck]
    exact ⟨decide_eq_true z.1,ih (k+1) (acc++[v]) s3 z.2 lt (fuel h lt)⟩
theorem wp_scope {js:List Nat}{m:M PV}{loc:Nat->Option PV}{st:List (List PV)}{Q:PV->PS->Prop}{E:PX->PS->Prop}(h:wp m ⟨fun i=>if i∈js then none else loc i,st⟩ (fun v s'=>Q v ⟨loc,s'.st⟩) fun U U=>False):wp (M.scope js m) ⟨loc,st⟩ Q E:=by
 unfold wp M.scope
 dsimp only
 unfold wp at h
 revert h
 cases m ⟨fun i=>if i∈js then none else loc i,st⟩ with
 | ok v s'=>exact id
 | ex e s'=>exact False.elim
 | stuck=>exact False.elim
section
variable {loc:Nat->Option PV}{st:List (List PV)}{Q:PV->PS->Prop}{E:PX->PS->Prop}
private theorem Qu {text:Txt}{k:Nat}{s:PS}(h:k<text.length):BB (.str text) k s = .ok (some (.str [text.getD k 0])) s:=by
 show R.ok ((text[k]?).map fun c=>PV.str [c]) s=_
 rw [List.getElem?_eq_getElem h,List.getD_eq_getElem?_getD,List.getElem?_eq_getElem h]
 rfl
private theorem Qv {text:Txt}{s:PS}:BB (.str text) text.length s = .ok none s:=by
 show R.ok ((text[text.length]?).map fun c=>PV.str [c]) s=_
 rw [List.getElem?_eq_none (Nat.le_refl _)]
 rfl
end
noncomputable def okT (t:Txt):Prop:=∀ c∈t,c<=1114111
private theorem Lv {st:List (List PV)}{n i:Nat}{l:List PV}{ds:List PyData}(h1:st[i]? = some l)(h2:Em st n l=some ds):toD st (n+1) (.lst i)=some (.list ds):=by
 show (match st[i]? with
  | some l=>(Em st n l).map PyData.list
  | none=>none)=_
 rw [h1]
 show (Em st n l).map _=_
 rw [h2];rfl
private theorem OY {a b:PV}{x y:PyData}{s:PS}{r:Bool}(h:eqT a b=none)(d1:toD s.st 64 a=some x)(d2:toD s.st 64 b=some y)(s1:SeqAt.shaped x=true)(s2:SeqAt.shaped y=true)(e:PyData.eqv x y=r):eqP a b s = .ok r s:=by
 unfold eqP
 rw [h,d1,d2]
 show (if (SeqAt.shaped x&&SeqAt.shaped y)=true then R.ok (PyData.eqv x y) s else .stuck)=_
 rw [s1,s2,e];rfl
private theorem Q8 {t:Txt}(h:okT t):PyData.strOk (txt t)=true:=by
 unfold PyData.strOk
 simp [txt]
 exact fun c m=>by have:=h c m;exact Mi.la [_] [([2],[2228223])] ([2,3,0],[2228225]) rfl this
section
variable {loc:Nat->Option PV}{st:List (List PV)}{Q:PV->PS->Prop}{E:PX->PS->Prop}
theorem wp_addL {a b:Nat}{x y:List PV}(ha:st[a]? = some x)(hb:st[b]? = some y)(h:(x++y).length<=big)(hQ:Q (.lst st.length) ⟨loc,st++[x++y]⟩):wp (Ap .Add (.lst a) (.lst b)) ⟨loc,st⟩ Q E:=by
 show wp (M.bind (M.getLst a) fun x=>M.bind (M.getLst b) fun y=>M.newLst (x++y)) _ Q E
 rw [wp_bind,wp_getLst,ha]
 dsimp only
 rw [wp_bind,wp_getLst,hb]
 dsimp only
 rw [wp_newLst]
 exact ⟨h,hQ⟩
private theorem Units.snoc {cs:Txt}{ts:List Txt}{c:Nat}{t:Txt}(h:Units cs ts)(hc:AT c)(u:UnitOf c t):Units (cs++[c]) (ts++[t]):=by
 induction h with
 | nil=>exact .cons hc u .nil
 | cons hc' u' r ih=>exact .cons hc' u' ih
theorem wp_ok {α:Type}{m:M α}{s s':PS}{a:α}{Q:α->PS->Prop}{E:PX->PS->Prop}(h:m s = .ok a s'):wp m s Q E=Q a s':=by unfold wp;rw [h]
theorem wpOk {α:Type}{m:M α}{s s':PS}{a:α}{Q:α->PS->Prop}{E:PX->PS->Prop}(h:m s = .ok a s')(k:Q a s'):wp m s Q E:=by rw [wp_ok h];exact k
theorem wpEqP {a b:PV}{r:Bool}{s:PS}(h:eqP a b s = .ok r s)(k:Q (.bool r) s):wp (AA .Eq a b) s Q E:=wpB (f:=fun r=>M.ret (PV.bool r)) (wpOk h k)
private theorem HX (l:List PV):st <+: st++[l]:=List.prefix_append _ _
end

section
variable {p:Nat}{x:Txt}{loc:Nat->Option PV}{st:List (List PV)}{Q:PV->PS->Prop}{E:PX->PS->Prop}
private theorem Dp {ts:List Txt}{cs rest:Txt}{o:BOut}(hx:x.length<=1000000)(u:Units cs ts)(h:x.drop p=34::(ts.flatten++rest))(b:Bas x (p+1+ts.flatten.length) cs o):Bas x (p+1) [] o:=by
 have h1:x.drop (p+1)=ts.flatten++rest:=Bb (y:=[34]) h
 have lt:=Bf h
 exact MJ hx u (by exact Mi.la [_,_] [([2,3,0],[4])] ([2,3,0],[4]) rfl lt) h1 (by simpa using b)
end
private theorem Qw {c:Nat}{b:Txt}:Hl [c] b=true↔c∈b:=by
 unfold Hl
 rw [List.any_eq_true]
 constructor
 ·rintro ⟨i,_,h⟩
  have h:(b.drop i).take 1=[c]:=by simpa using h
  cases q:b.drop i with
  | nil=>rw [q] at h;cases h
  | cons d r=>
   rw [q] at h
   have:d=c:=by simpa using h
   subst this
   exact List.mem_of_mem_drop (i:=i) (by rw [q];exact List.mem_cons_self)
 ·intro m
  obtain ⟨i,lt,e⟩:=List.getElem_of_mem m
  refine ⟨i,List.mem_range.mpr (by lia),?_⟩
  rw [List.drop_eq_getElem_cons lt,e]
  simp
section
variable {k:Nat}{x:Txt}{r:Row}{loc:Nat->Option PV}{st:List (List PV)}{Q:PV->PS->Prop}{E:PX->PS->Prop}
end
private theorem RV {x:Txt}{n:Nat}(h:n<=x.length):slc x none (some (n:Int))=x.take n:=by
 unfold slc bnd
 simp only [Int.natCast_nonneg,if_true,Int.toNat_natCast,Nat.min_eq_left h,List.drop_zero]
private theorem Jf {x:Txt}{n:Nat}:slc x (some (n:Int)) none=x.drop n:=by
 unfold slc bnd
 simp only [Int.natCast_nonneg,if_true,Int.toNat_natCast,List.take_length]
 by_cases h:n<=x.length
 ·rw [Nat.min_eq_left h]
 ·rw [Nat.min_eq_right (by exact Mi.la [_,_] [([2,3,0],[4])] ([2],[4]) rfl (Nat.not_le.mp h)),List.drop_length,List.drop_eq_nil_of_le (by exact Mi.la [_,_] [([2,3,0],[4])] ([2],[4]) rfl (Nat.not_le.mp h))]
section
variable {p:Nat}{x text:Txt}{us:List Txt}{loc:Nat->Option PV}{st:List (List PV)}{Q:PV->PS->Prop}{E:PX->PS->Prop}
end
private theorem Qx {st:List (List PV)}{loc:Nat->Option PV}{i:Int}{t:Txt}(h:okT t):eqP (.tup [.int i,.str t]) (.tup [.int i,.str t]) ⟨loc,st⟩ = .ok true ⟨loc,st⟩:=by
 have s1:SeqAt.shaped (.tuple [.int i,.str (txt t)])=true:=by
  unfold SeqAt.shaped
  simp [PyData.canLay0,PyData.canLayAll0,Q8 h,PyData.depth,PyData.depthAll]
 exact OY rfl rfl rfl s1 s1 (by simp [PyData.eqv,PyData.eqvAll])
theorem wp_ne {a b:PV}{s:PS}{Q:PV->PS->Prop}{E:PX->PS->Prop}(h:eqP a b s = .ok true s)(hQ:Q (.bool false) s):wp (AA .NotEq a b) s Q E:=by
 show wp (M.bind (eqP a b) fun r=>M.ret (.bool !r)) s Q E
 rw [wp_bind,wp_ok h]
 exact hQ
section
variable {α:Type}{loc:Nat->Option PV}{st:List (List PV)}{E:PX->PS->Prop}
theorem wp_each_cons {f:PV->M Unit}{fs:List (PV->M Unit)}{v:PV}{vs:List PV}{s:PS}{Q:Unit->PS->Prop}:wp (M.each (f::fs) (v::vs)) s Q E=wp (f v) s (fun U s'=>wp (M.each fs vs) s' Q E) E:=by
 show wp (M.bind (f v) fun U=>M.each fs vs) s Q E=_
 rw [wp_bind]
end
theorem wpEC {f:PV->M Unit}{fs:List (PV->M Unit)}{v:PV}{vs:List PV}{s:PS}{Q:Unit->PS->Prop}{E:PX->PS->Prop}(k:wp (f v) s (fun U s'=>wp (M.each fs vs) s' Q E) E):wp (M.each (f::fs) (v::vs)) s Q E:=by rw [wp_each_cons];exact k
theorem wpEN {s:PS}{Q:Unit->PS->Prop}{E:PX->PS->Prop}(k:Q () s):wp (M.each [] []) s Q E:=k
private theorem HY {st st':List (List PV)}{i:Nat}{l:List PV}(p:st <+: st')(h:st[i]? = some l):st'[i]? = some l:=by
 obtain ⟨t,rfl⟩:=p
 rw [List.getElem?_append_left (List.getElem?_eq_some_iff.mp h).1];exact h
section
variable {loc:Nat->Option PV}{st:List (List PV)}{Q:PV->PS->Prop}{E:PX->PS->Prop}
private theorem F9:∀ ts:List Txt,CT (ts.map .str)=some ts
 | []=>rfl
 | t::ts=>congrArg (Option.map (t::·)) (F9 ts)
private theorem MK (ts:List Txt):FR [] ts=ts.flatten:=by
 cases ts with
 | nil=>rfl
 | cons t ts=>
  have go:∀ (r:List Txt) (acc:Txt),r.foldl (fun acc p=>acc++[]++p) acc=acc++r.flatten:=by
   intro r
   induction r with
   | nil=>intro acc;simp
   | cons u r ih=>intro acc;rw [List.foldl_cons,ih];simp
  exact go ts t
private theorem ML (ts:List Txt):Da ts=ts.flatten.length:=by
 unfold Da;rw [List.length_flatten]
theorem wp_join {i:Nat}{ts:List Txt}(h:st[i]? = some (ts.map .str)):wp (Ld (.str []) [.lst i]) ⟨loc,st⟩ Q E=(ts.flatten.length<=big/\Q (.str ts.flatten) ⟨loc,st⟩):=by
 show wp (M.bind (M.getLst i) fun l=>M.bind (M.ofO (CT l)) fun ts=>M.orStuck (Da ts+ts.length*0<=big) (M.ret (.str (FR [] ts)))) _ Q E=_
 rw [wp_bind,wp_getLst,h]
 dsimp only
 rw [wp_bind,wp_ofO,F9]
 dsimp only
 rw [wp_orStuck,wp_ret,MK,ML]
 simp
theorem wp_append {i:Nat}{v:PV}{l:List PV}(h:st[i]? = some l):wp (D3 (.lst i) [v]) ⟨loc,st⟩ Q E=(l.length+1<=big/\Q .none ⟨loc,st.set i (l++[v])⟩):=by
 show wp (M.bind (M.getLst i) fun l=>M.orStuck (l.length+1<=big) (M.bind (M.setLst i (l++[v])) fun U=>M.ret .none)) _ Q E=_
 rw [wp_bind,wp_getLst,h]
 dsimp only
 rw [wp_orStuck,wp_bind]
 unfold wp M.setLst
 by_cases q:l.length+1<=big
 ·rw [if_pos (by simpa using q)]
  simp [q,M.ret]
 ·simp [q]
theorem wp_lenL {i:Nat}{l:List PV}(h:st[i]? = some l):wp (BC [.lst i]) ⟨loc,st⟩ Q E=(l.length<=big/\Q (.int l.length) ⟨loc,st⟩):=by
 show wp (M.bind (M.getLst i) fun l=>M.orStuck (l.length<=big) (M.ret (.int l.length))) _ Q E=_
 rw [wp_bind,wp_getLst,h]
 dsimp only
 rw [wp_orStuck,wp_ret]
 simp
end

section
variable {s:PS}{loc:Nat->Option PV}{st:List (List PV)}{Q:PV->PS->Prop}{E:PX->PS->Prop}
theorem wp_lenI {l:List Int}:wp (BC [.ints l]) s Q E=(decide (l.length<=big)=true/\Q (.int l.length) s):=wp_orStuck
end
theorem wpFor {get:Nat->M (Option PV)}{i:Nat}{b:M PFlow}{P:Nat->PS->Prop}{R:PS->Prop}{E:PX->PS->Prop}{f n:Nat}{s:PS}(p:Nat->PV)(h0:P 0 s)(hf:n<f)(hget:∀ k s,P k s->k<n->get k s = .ok (some (p k)) s)(hend:∀ s,P n s->get n s = .ok none s)
  (step:∀ k L st,P k ⟨L,st⟩->k<n->wp b ⟨upd L i (p k),st⟩ (fun fl s'=>(fl = .next\/fl = .cont)/\P (k+1) s') fun U U=>False) (fin:∀ s,P n s->R s):wp (M.forT get (M.setL i) b f 0) s (fun f s'=>f = .next/\R s') E:=
 wp_forT (E:=E) P n p hget hend (fun k s z lt=>by
  obtain ⟨L,st⟩:=s
  refine wpSet (wp_mono (step k L st z lt) (fun fl s' y=>?_) fun U U y=>y.elim)
  obtain ⟨rfl | rfl,y⟩:=y
  ·exact y
  ·exact y) (fun s z=>⟨rfl,fin s z⟩) f 0 s h0 (Nat.zero_le _) (by rw [Nat.sub_zero];exact hf)
private theorem Qy {x:Txt}{p:Nat}:slc x none (some (p:Int))=x.take (min p x.length):=by
 show (x.take (bnd (p:Int) x.length)).drop 0=_
 rw [show bnd (p:Int) x.length=min p x.length from if_pos (Int.natCast_nonneg p)]
 rfl
private theorem Ga {c p:Nat}{x:Txt}:posns c (x.take p) p=posns c x p:=by
 unfold posns
 refine List.filter_congr fun i hi=>?_
 rw [List.getElem?_take_of_lt (List.mem_range.mp hi)]
noncomputable def OZ (k:Nat):Option Nat->Nat
 | none=>k
 | some i=>i+1
private theorem Gb (x:Txt):∀ (l:List Nat) (k:Nat),(Bu x k l)[l.length]? = some (x.drop (OZ k l.getLast?))
 | [],k=>rfl
 | i::l,k=>by
  rw [Bu,List.length_cons,List.getElem?_cons_succ,Gb x l (i+1)]
  cases l with
  | nil=>rfl
  | cons a r=>rw [List.getLast?_cons_cons,List.getLast?_eq_some_getLast (List.cons_ne_nil a r)];rfl
noncomputable abbrev Dg (x:Txt)(p:Nat):List Txt:=BZ 10 (x.take (min p x.length))
private theorem MM (x:Txt)(p:Nat):(Dg x p).length=lineOf x p:=by
 have l:(x.take (min p x.length)).length=min p x.length:=by rw [List.length_take];exact Nat.min_eq_left (Nat.min_le_right ..)
 unfold Dg lineOf
 rw [CV,GY,l,Ga,Nat.add_comm]
noncomputable def Dx (x:Txt)(p:Nat):Txt:=(x.take (min p x.length)).drop (OZ 0 (posns 10 x (min p x.length)).getLast?)
private theorem KF (x:Txt)(p:Nat):∃ m,lineOf x p=m+1/\(Dg x p)[m]? = some (Dx x p):=by
 have l:(x.take (min p x.length)).length=min p x.length:=by rw [List.length_take];exact Nat.min_eq_left (Nat.min_le_right ..)
 refine ⟨_,Nat.add_comm ..,?_⟩
 have:=Gb (x.take (min p x.length)) (posns 10 x (min p x.length)) 0
 unfold Dg Dx
 rw [CV,l,Ga]
 exact this
private theorem O0 (x:Txt)(p:Nat):(Dx x p).length<=x.length:=by
 unfold Dx
 rw [List.length_drop]
 exact Nat.le_trans (Nat.sub_le ..) (by rw [List.length_take];exact Nat.min_le_right ..)
private theorem O1 {x:Txt}{p:Nat}(h:p<x.length):(((Dx x p).length:Nat):Int)+1=CG x p:=by
 have e:min p x.length=p:=Nat.min_eq_left (Nat.le_of_lt h)
 unfold Dx CG
 rw [e,List.length_drop,List.length_take,e]
 cases q:(posns 10 x p).getLast? with
 | none=>rfl
 | some i=>
  have:i<p:=Ja (List.mem_of_getLast? q)
  show ((p - (i+1):Nat):Int)+1=(p:Int) - i
  lia
private theorem O2 (m:Nat):idx (-1) (m+1)=some m:=by
 unfold idx
 rw [if_neg (by decide),if_pos (by lia)]
 exact congrArg some (by lia)
section
variable {loc:Nat->Option PV}{st:List (List PV)}{Q:PV->PS->Prop}{E:PX->PS->Prop}
theorem wpSpl {x:Txt}{c:Nat}(hc:c<256)(hx:x.length<=big)(hs:(BZ c x).length<=big)(h:Q (.lst st.length) ⟨loc,st++[(BZ c x).map .str]⟩):wp (HP (.str x) [.str [c]]) ⟨loc,st⟩ Q E:=by
 refine wpO (by rw [decide_eq_true hc,decide_eq_true hx];rfl) ?_
 exact wpNL (by rw [List.length_map];exact hs) h
private theorem MN {x msg:Txt}{p:Nat}(hx:x.length<=1000000)(hm:msg.length<=1000)(hQ:∀ st' i,st <+: st'->st'[i]? = some [.str (Cc x p msg)]->Q (.lst i) ⟨loc,st'⟩):wp (M.call (BL Kx) [.str x,.int p,.str msg]) ⟨loc,st⟩ Q E:=by
 have q0:(posns 10 x (min p x.length)).length<=1000000:=Nat.le_trans EF (Nat.le_trans (Nat.min_le_right ..) hx)
 have lo:lineOf x p<=1000001:=by unfold lineOf;rw [Nat.add_comm];exact Nat.succ_le_succ q0
 have ln:=MM x p
 obtain ⟨m,em,hl⟩:=KF x p
 have ll:(Dx x p).length<=1000000:=Nat.le_trans (O0 x p) hx
 have tk:(x.take (min p x.length)).length<=big:=Az (Nat.le_trans (by rw [List.length_take];exact Nat.min_le_right ..) hx)
 have g:(st++[(Dg x p).map PV.str])[st.length]? = some ((Dg x p).map PV.str):=Bn
 have lm:((Dg x p).map PV.str).length=lineOf x p:=by rw [List.length_map,ln]
 refine wpCall 1 fun L B=>?_
 unfold BL
 refine wpTh (A7 (c:=decide ((p:Int)≥(x.length:Int))) (by walk_at "wp";exact Az hx;exact ⟨rfl,rfl⟩) (fun h=>?_) fun h=>?_)
 ·have h:x.length<=p:=Int.ofNat_le.mp (of_decide_eq_true h)
  walk_at "wp"
  ·exact Cs hm (show _<=21 by decide) (by decide)
  ·exact (by decide:1<=big)
  refine hQ _ _ (HX _) ?_
  rw [Bn]
  unfold Cc
  rw [show Ct x p=Sy from if_pos h,List.append_assoc,List.append_assoc]
  rfl
 ·have h:¬ x.length<=p:=fun z=>of_decide_eq_false h (Int.ofNat_le.mpr z)
  have hlt:p<x.length:=Nat.lt_of_not_le h
  refine wpR ?_
  generalize hst:st++[(Dg x p).map PV.str]=st' at g
  have pst:st <+: st':=hst▸HX _
  refine wpA st' [some (.str x),some (.int p),some (.str msg),some (.lst st.length)] ?_ fun L B=>?_
  ·walk_at "wp"
   refine wpSl Qy tk ?_
   refine KtI ?_
   refine wpO rfl ?_
   walk_at "wp"
   refine wpSpl (by decide) tk (by rw [show (BZ 10 (x.take (min p x.length))).length=_ from ln];exact Nat.le_trans lo (by decide)) ?_
   rw [hst]
   walk_at "wp"
   exact ⟨rfl,(B.set 3 _ |> At.mk _ rfl)⟩
  have l1:(Bq (lineOf x p:Nat)).length<=10:=CF (Nat.lt_of_le_of_lt lo (by decide))
  have l2:(Bq (((Dx x p).length:Nat)+1:Int)).length<=10:=CF (n:=(Dx x p).length+1) (Nat.lt_of_le_of_lt (Nat.succ_le_succ ll) (by decide))
  walk_at "wp"
  ·exact Cs hm (show _<=10 by decide) (by decide)
  rw [wp_lenL g,lm]
  refine ⟨Nat.le_trans lo (by decide),?_⟩
  walk_at "wp"
  ·exact AU (Nat.lt_of_le_of_lt lo (by decide))
  ·exact Cs (Bz hm (show _<=10 by decide)) l1 (by decide)
  ·exact Cs (Bz (Bz hm (show _<=10 by decide)) l1) (show _<=9 by decide) (by decide)
  refine wpItL rfl g (by rw [lm,em];exact O2 m) (by rw [List.getElem?_map,hl];rfl) ?_
  walk_at "wp"
  ·exact Az ll
  ·exact AU (i:=((Dx x p).length+1:Nat)) (Nat.lt_of_le_of_lt (Nat.succ_le_succ ll) (by decide))
  ·exact Cs (Bz (Bz (Bz hm (show _<=10 by decide)) l1) (show _<=9 by decide)) l2 (by decide)
  ·exact Cs (Bz (Bz (Bz (Bz hm (show _<=10 by decide)) l1) (show _<=9 by decide)) l2) (show _<=1 by decide) (by decide)
  ·exact (by decide:1<=big)
  refine hQ _ _ (pst.trans (HX _)) ?_
  rw [Bn]
  unfold Cc Ct
  rw [if_neg h,<- O1 hlt]
  unfold OQ HW
  simp only [List.append_assoc,List.cons_append,List.nil_append]
end
section
variable {x:Txt}{p:Nat}{loc:Nat->Option PV}{st:List (List PV)}{Q:PV->PS->Prop}{E:PX->PS->Prop}
private theorem MO {v:PV}(rd:∀ (L:Nat->Option PV) (Q':PV->PS->Prop) (E':PX->PS->Prop),Q' v ⟨L,st⟩->wp (M.call (Ae Kx) [.str x,.int p]) ⟨L,st⟩ Q' E')(hQ:Q v ⟨loc,st⟩):wp (M.call (AL Kx) [.str x,.int p]) ⟨loc,st⟩ Q E:=by
 refine wpCall 0 fun L B=>?_
 unfold AL
 rw [wp_try]
 walk_at "wp"
 refine rd _ _ _ ?_
 walk_at "wp"
 exact hQ
private theorem Gc {t:Txt}(rd:∀ (L:Nat->Option PV) (Q':PV->PS->Prop) (E':PX->PS->Prop),E' (.toml t) ⟨L,st⟩->wp (M.call (Ae Kx) [.str x,.int p]) ⟨L,st⟩ Q' E')(hQ:∀ st' i,st <+: st'->st'[i]? = some [.str t]->Q (.lst i) ⟨loc,st'⟩):wp (M.call (AL Kx) [.str x,.int p]) ⟨loc,st⟩ Q E:=by
 refine wpCall 0 fun L B=>?_
 unfold AL
 rw [wp_try]
 walk_at "wp"
 refine rd _ _ _ ?_
 show wp (M.calm _) _ _ _
 rw [wp_calm]
 walk_at "wp"
 ·exact (by decide:1<=big)
 exact hQ _ _ (HX _) Bn
end
noncomputable def Sz:Txt:=[69,115,99,97,112,101,100,32,99,104,97,114,97,99,116,101,114,32,105,115,32,110,111,116,32,97,32,85,110,105,99,111,100,101,32,115,99,97,108,97,114,32,118,97,108,117,101]
section
variable {p:Nat}{x:Txt}{loc:Nat->Option PV}{st:List (List PV)}{Q:PV->PS->Prop}{E:PX->PS->Prop}
private theorem MP {c:Nat}(h:¬ AT c)(hQ:Q (.bool false) ⟨loc,st⟩):wp (M.call (As Kx) [.int c]) ⟨loc,st⟩ Q E:=by
 refine wpCall 0 fun L B=>?_
 unfold As
 refine wpB (wpOrV ?_)
 walk_at "wp"
 refine wpChain ⟨_,rfl,?_⟩
 have h1:decide ((c:Int)<=55295)=false:=decide_eq_false fun z=>h (.inl (Int.ofNat_le.mp z))
 rw [h1,Bool.and_false,if_neg Bool.false_ne_true]
 walk_at "wp"
 refine wpChain ?_
 have h2:(decide ((57344:Int)<=c)&&decide ((c:Int)<=1114111))=false:=by
  cases q:decide ((57344:Int)<=c) with
  | false=>rfl
  | true=>exact decide_eq_false fun z=>h (.inr ⟨Int.ofNat_le.mp (of_decide_eq_true q),Int.ofNat_le.mp z⟩)
 rw [h2]
 exact hQ
private theorem Lw {n:Nat}{h:Txt}(hx:x.length<=1000000)(hp:p+n<=1000000)(hn:n=4\/n=8)(hs:slc x (some (p:Int)) (some ((p+n:Nat):Int))=h)(h1:h.length=n)(h2:h.all hexd=true)(hb:¬ AT (hexval h))
  (hE:E (.toml (Cc x (p+n) Sz)) ⟨loc,st⟩):wp (M.call (Aq Kx) [.str x,.int p,.int n]) ⟨loc,st⟩ Q E:=by
 have hl:h.length<=1000000:=hs▸Nat.le_trans Fh hx
 refine wpCall 2 fun L V=>?_
 unfold Aq
 refine wpA st (tH x p n (some (.str h)) none) ?_ fun L V=>?_
 ·walk_at "wp"
  refine wpSl hs (Az hl) ?_
  walk_at "wp"
  exact ⟨rfl,(V.set 3 _ |> At.mk _ rfl)⟩
 refine wpTh ?_
 refine A7 (c:=false) ?_ (fun hb=>(by cases hb)) (fun U=>?_)
 ·refine wpOrC ?_
  walk_at "wp"
  ·exact Az hl
  walk_at "wp"
  rw [isZ,decide_eq_true h1,Bool.not_true,if_neg (by decide)]
  refine wpOrC ?_
  walk_at "wp"
  refine wpSup ?_
  walk_at "wp"
  rw [show (h.all fun c=>AM 4 c)=h.all hexd from rfl,h2]
  exact ⟨rfl,rfl⟩
 refine wpR ?_
 refine wpA st (tH x (p+n) n (some (.str h)) none) ?_ fun L V=>?_
 ·walk_at "wp"
  exact ⟨rfl,(V.set 1 _ |> At.mk _ rfl)⟩
 refine wpA st (tH x (p+n) n (some (.str h)) (some (.int (hexval h)))) ?_ fun L V=>?_
 ·walk_at "wp"
  refine wpInt16 ?_ ?_
  ·have ne:h.isEmpty=false:=by cases h with
    | nil=>rcases hn with rfl | rfl <;> cases h1
    | cons=>rfl
   rw [ne,h2,h1,decide_eq_true (show n<=640 by lia)];rfl
  walk_at "wp"
  exact ⟨rfl,(V.set 4 _ |> At.mk _ rfl)⟩
 refine wpTh ?_
 refine A7 (c:=true) ?_ (fun U=>?_) (fun h=>(by cases h))
 ·walk_at "wp"
  refine MP hb ?_
  walk_at "wp"
  exact ⟨rfl,rfl⟩
 walk_at "wp"
 exact Df (Az hx) (Nat.lt_of_le_of_lt hp (by decide)) (by decide) hE
private theorem Qz {a b:Nat}(ha:a<=x.length)(hb:x.length<=b):slc x (some (a:Int)) (some (b:Int))=x.drop a:=by
 rw [Ed,Nat.min_eq_right hb,Nat.min_eq_left ha,List.take_length]
private theorem KG {ts:List Txt}{cs rest:Txt}(hx:x.length<=1000000)(hK:x.length+1<Kx)(u:Units cs ts)(h:x.drop p=34::(ts.flatten++34::rest))(hQ:Q (.tup [.int ((p+(ts.flatten.length+2):Nat):Int),.str cs]) ⟨loc,st⟩):wp (M.call (Ae Kx) [.str x,.int p]) ⟨loc,st⟩ Q E:=by
 have h1:x.drop (p+1)=ts.flatten++34::rest:=Bb (y:=[34]) h
 refine BP hx (Bf h) hK (Dp hx u h (.quote (Bx (Bb h1)))) ?_
 dsimp only
 rw [show p+1+ts.flatten.length+1=p+(ts.flatten.length+2) by exact Nat.le_antisymm (Mi.la [_,_] [] ([2,3,0,4,0,3,0],[2,4,5,0,0]) rfl) (Mi.la [_,_] [] ([2,4,5,0,0],[2,3,0,4,0,3,0]) rfl)]
 exact hQ
private theorem O3 {ts:List Txt}{cs:Txt}(hx:x.length<=1000000)(hK:x.length+1<Kx)(u:Units cs ts)(h:x.drop p=34::ts.flatten)(hE:E (.toml (Cc x x.length MI)) ⟨loc,st⟩):wp (M.call (Ae Kx) [.str x,.int p]) ⟨loc,st⟩ Q E:=by
 have lt:=Bf h
 have hl:(x.drop p).length=ts.flatten.length+1:=by rw [h];rfl
 rw [List.length_drop] at hl
 refine BP hx lt hK (Dp hx u (rest:=[]) (by rw [List.append_nil];exact h) ?_) (o:=.err (Cc x x.length MI)) hE
 rw [show p+1+ts.flatten.length=x.length by exact Nat.le_antisymm (Mi.la [_,_,_,_] [([2,3,0],[4]),([4,6,0],[8])] ([6,3,0,2,0],[8]) rfl (Nat.le_of_eq hl.symm) (Mi.lcC (Mi.la [_,_] [([2,3,0],[4])] ([2],[4]) rfl lt))) (Mi.la [_,_,_,_] [([2],[4,3,0]),([6],[2,8,0])] ([6],[8,3,0,4,0]) rfl (Nat.le_of_eq hl) (Mi.lcS _ _))]
 exact .eof
private theorem O4 {ts:List Txt}{cs t rest:Txt}(hx:x.length<=1000000)(hK:x.length+1<Kx)(u:Units cs ts)(h:x.drop p=34::(ts.flatten++92::rest))(f:KC x (p+1+ts.flatten.length) t)(hE:E (.toml t) ⟨loc,st⟩):wp (M.call (Ae Kx) [.str x,.int p]) ⟨loc,st⟩ Q E:=by
 have h1:x.drop (p+1)=ts.flatten++92::rest:=Bb (y:=[34]) h
 exact BP hx (Bf h) hK (Dp hx u h (.escBad (Bx (Bb h1)) f)) hE
private theorem O5 {ts:List Txt}{cs rest:Txt}{c:Nat}(hx:x.length<=1000000)(hK:x.length+1<Kx)(u:Units cs ts)(h:x.drop p=34::(ts.flatten++c::rest))(h1:AM 0 c=true)(h2:c≠34)(h3:c≠92)(h5:(A3 [c]).length<=100)
  (hE:E (.toml (Cc x (p+1+ts.flatten.length) (Eg++A3 [c]))) ⟨loc,st⟩):wp (M.call (Ae Kx) [.str x,.int p]) ⟨loc,st⟩ Q E:=by
 have q1:x.drop (p+1)=ts.flatten++c::rest:=Bb (y:=[34]) h
 exact BP hx (Bf h) hK (Dp hx u h (.bad (Bx (Bb q1)) h2 h3 h1 h5)) hE
end
noncomputable def namOf (nm:Txt):Option Nat:=if nm=[98] then some 8 else if nm=[116] then some 9 else if nm=[110] then some 10 else if nm=[102] then some 12 else if nm=[114] then some 13 else if nm=[34] then some 34 else if nm=[92] then some 92 else none
noncomputable abbrev nmK:List PV:=[.str [98],.str [116],.str [110],.str [102],.str [114],.str [34],.str [92]]
noncomputable abbrev nmV:List PV:=[.str [8],.str [9],.str [10],.str [12],.str [13],.str [34],.str [92]]
private theorem Jg (nm:Txt):CA nmK nmV (.str nm)=some ((namOf nm).map fun c=>.str [c]):=by
 unfold namOf
 by_cases h1:nm=[98]
 ·subst h1;rfl
 by_cases h2:nm=[116]
 ·subst h2;rfl
 by_cases h3:nm=[110]
 ·subst h3;rfl
 by_cases h4:nm=[102]
 ·subst h4;rfl
 by_cases h5:nm=[114]
 ·subst h5;rfl
 by_cases h6:nm=[34]
 ·subst h6;rfl
 by_cases h7:nm=[92]
 ·subst h7;rfl
 have go:∀ (k:Txt) ks v vs,nm≠k->Cg (.str k::ks) (v::vs) (.str nm)=Cg ks vs (.str nm):=fun k ks v vs h=>by
  show (match some (k==nm) with
   | some true=>some (some v)
   | some false=>Cg ks vs (.str nm)
   | none=>none)=_
  rw [show (k==nm)=false from beq_eq_false_iff_ne.mpr fun z=>h z.symm]
 rw [if_neg h1,if_neg h2,if_neg h3,if_neg h4,if_neg h5,if_neg h6,if_neg h7]
 exact (go _ _ _ _ h1).trans ((go _ _ _ _ h2).trans ((go _ _ _ _ h3).trans ((go _ _ _ _ h4).trans ((go _ _ _ _ h5).trans ((go _ _ _ _ h6).trans (go _ _ _ _ h7))))))
private theorem O6 {nm:Txt}{c:Nat}(h:namOf nm=some c):∃ d,nm=[d]/\escT [92,d]=some [c]/\d≠117/\d≠85/\AT c/\(d=92->c=92):=by
 unfold namOf at h
 by_cases h1:nm=[98]
 ·subst h1;cases h;exact ⟨98,rfl,by decide,by decide,by decide,.inl (by decide),by decide⟩
 by_cases h2:nm=[116]
 ·subst h2;cases h;exact ⟨116,rfl,by decide,by decide,by decide,.inl (by decide),by decide⟩
 by_cases h3:nm=[110]
 ·subst h3;cases h;exact ⟨110,rfl,by decide,by decide,by decide,.inl (by decide),by decide⟩
 by_cases h4:nm=[102]
 ·subst h4;cases h;exact ⟨102,rfl,by decide,by decide,by decide,.inl (by decide),by decide⟩
 by_cases h5:nm=[114]
 ·subst h5;cases h;exact ⟨114,rfl,by decide,by decide,by decide,.inl (by decide),by decide⟩
 by_cases h6:nm=[34]
 ·subst h6;cases h;exact ⟨34,rfl,by decide,by decide,by decide,.inl (by decide),by decide⟩
 by_cases h7:nm=[92]
 ·subst h7;cases h;exact ⟨92,rfl,by decide,by decide,by decide,.inl (by decide),by decide⟩
 rw [if_neg h1,if_neg h2,if_neg h3,if_neg h4,if_neg h5,if_neg h6,if_neg h7] at h
 cases h
private theorem O7 {nm:Txt}(h:namOf nm=none):escT (92::nm)=none/\nm≠[34]/\nm≠[92]:=by
 unfold namOf at h
 have n1:nm≠[98]:=fun e=>by subst e;cases h
 have n2:nm≠[116]:=fun e=>by subst e;cases h
 have n3:nm≠[110]:=fun e=>by subst e;cases h
 have n4:nm≠[102]:=fun e=>by subst e;cases h
 have n5:nm≠[114]:=fun e=>by subst e;cases h
 have n6:nm≠[34]:=fun e=>by subst e;cases h
 have n7:nm≠[92]:=fun e=>by subst e;cases h
 refine ⟨?_,n6,n7⟩
 have ne:∀ k:Txt,nm≠k->((92::nm)==(92::k))=false:=fun k z=>beq_eq_false_iff_ne.mpr fun e=>z (List.cons.inj e).2
 unfold escT Dk
 simp only [List.lookup_cons,ne _ n1,ne _ n2,ne _ n3,ne _ n4,ne _ n5,ne _ n6,ne _ n7,List.lookup_nil]
theorem wp_inNam {nm:Txt}{s:PS}{Q:PV->PS->Prop}{E:PX->PS->Prop}(h:Q (.bool (namOf nm).isSome) s):wp (AA .In (.str nm) (.dct nmK nmV)) s Q E:=by
 unfold wp
 have:AA .In (.str nm) (.dct nmK nmV) s=R.ok (PV.bool (namOf nm).isSome) s:=by
  show (M.bind (M.ofO ((CA _ _ (.str nm)).map (·.isSome))) fun r=>M.ret (PV.bool r)) s=_
  rw [Jg]
  cases namOf nm <;> rfl
 rw [this];exact h
theorem wp_itemNam {nm:Txt}{c:Nat}(h:namOf nm=some c){s:PS}{Q:PV->PS->Prop}{E:PX->PS->Prop}(k:Q (.str [c]) s):wp (Ax false (.dct nmK nmV) (.str nm)) s Q E:=by
 unfold wp
 have:Ax false (.dct nmK nmV) (.str nm) s=R.ok (PV.str [c]) s:=by
  show M.ofO ((CA _ _ (.str nm)).bind id) s=_
  rw [Jg,h]
  rfl
 rw [this];exact k
private theorem Dh {x:Txt}{p n:Nat}(hp:p<=x.length):slc x (some (p:Int)) (some ((p+n:Nat):Int))=(x.drop p).take n:=by
 by_cases h:p+n<=x.length
 ·exact CJ (y:=(x.drop p).take n) (z:=(x.drop p).drop n) (List.take_append_drop ..).symm hp (by rw [List.length_take,List.length_drop];lia)
 ·rw [Qz hp (by lia),List.take_of_length_le (by rw [List.length_drop];lia)]
noncomputable def UD (d n:Nat):Prop:=(d=117/\n=4)\/(d=85/\n=8)
inductive EscF (r:Txt):Txt->Nat->Prop
 | name:escT (92::r.take 1)=none->r.take 1≠[117]->r.take 1≠[85]->EscF r Q6 2
 | hex {d n:Nat}:r.take 1=[d]->UD d n->¬ (((r.drop 1).take n).length=n/\((r.drop 1).take n).all hexd=true)->EscF r RS 2
 | uni {d n:Nat} {h:Txt}:r.take 1=[d]->UD d n->(r.drop 1).take n=h->h.length=n->h.all hexd=true->¬ AT (hexval h)->EscF r Sz (2+n)
private theorem O8 {x r w:Txt}{q k:Nat}(f:EscF r w k)(hx:x.length<=900000)(h:x.drop q=92::r):KC x q (Cc x (q+k) w):=by
 have lt:=Bf h
 have hx':x.length<=1000000:=by lia
 have he:slc x (some (q:Int)) (some ((q+2:Nat):Int))=92::r.take 1:=by rw [Dh (Nat.le_of_lt lt),h];rfl
 have two:∀ {d:Nat},r.take 1=[d]->q+2<=x.length:=fun {d} e=>by
  have a:(x.drop q).length=r.length+1:=by rw [h];rfl
  have b:1<=r.length:=by cases r with
   | nil=>cases e
   | cons=>exact Nat.succ_le_succ (Nat.zero_le _)
  rw [List.length_drop] at a
  lia
 have more:∀ {d n:Nat},r.take 1=[d]->slc x (some ((q+2:Nat):Int)) (some ((q+2+n:Nat):Int))=(r.drop 1).take n:=fun {d n} e=>by
  rw [Dh (two e),show x.drop (q+2)=(x.drop q).drop 2 by rw [List.drop_drop],h];rfl
 intro loc st Q E hE
 refine Ef hx' (by lia) he (fun e L=>?_) (fun e L=>?_) (fun e1 e2=>?_)
 ·have e:r.take 1=[117]:=(List.cons.inj e).2
  cases f with
  | name _ a _=>exact absurd e a
  | @hex d n a b c=>
   have hn:n=4:=by
    rcases b with ⟨_,z⟩ | ⟨z,_⟩
    ·exact z
    ·rw [a,z] at e;cases e
   subst hn
   exact (Ee (n:=4) hx' (by lia) (.inl rfl) (more a)).2 c hE
  | @uni d n hh a b c l1 l2 l3=>
   have hn:n=4:=by
    rcases b with ⟨_,z⟩ | ⟨z,_⟩
    ·exact z
    ·rw [a,z] at e;cases e
   subst hn
   exact Lw hx' (by lia) (.inl rfl) (c▸more a) l1 l2 l3 (by rw [Nat.add_assoc];exact hE)
 ·have e:r.take 1=[85]:=(List.cons.inj e).2
  cases f with
  | name _ _ a=>exact absurd e a
  | @hex d n a b c=>
   have hn:n=8:=by
    rcases b with ⟨z,_⟩ | ⟨_,z⟩
    ·rw [a,z] at e;cases e
    ·exact z
   subst hn
   exact (Ee (n:=8) hx' (by lia) (.inr rfl) (more a)).2 c hE
  | @uni d n hh a b c l1 l2 l3=>
   have hn:n=8:=by
    rcases b with ⟨z,_⟩ | ⟨_,z⟩
    ·rw [a,z] at e;cases e
    ·exact z
   subst hn
   exact Lw hx' (by lia) (.inr rfl) (c▸more a) l1 l2 l3 (by rw [Nat.add_assoc];exact hE)
 ·have nu:∀ {d n:Nat},r.take 1=[d]->¬ UD d n:=fun {d n} a b=>by
   rcases b with ⟨z,_⟩ | ⟨z,_⟩
   ·subst z;exact e1 (congrArg _ a)
   ·subst z;exact e2 (congrArg _ a)
  cases f with
  | name a _ _=>rw [a];exact hE
  | hex a b _=>exact absurd b (nu a)
  | uni a b _ _ _ _=>exact absurd b (nu a)
end Mi
end
section
open PySem PySem.W PyProof.Rows
set_option maxRecDepth 10000
set_option maxHeartbeats 1000000
namespace Mi
local macro_rules | `(tactic| walk_at "wp") => do
 let a <- ("B SC SN R Set PN PI Tb AI SI AS gAS gAI gSI Neg EqI EqS NeI LtI LeI GtI GeI InSS InF Str LS NL Tup Ord".splitOn " ").toArray.mapM fun s=>`(Lean.Parser.Tactic.tacticSeq| apply $(Lean.mkIdent (.str `Mi ("wp"++s))))
 `(tactic| (repeat' first
  | (with_reducible first $[| $a]* | refine KnI ?_ | refine wpO rfl ?_ | refine ⟨_,rfl,?_⟩ | refine wpDI rfl ?_ | refine wpModI rfl ?_ | refine wpModI ?_ ?_)
  | refine wpL (by assumption) rfl ?_) <;> try with_reducible refine KtI ?_)
noncomputable abbrev QC:Txt:=[48,49,50,51,52,53,54,55,56,57,97,98,99,100,101,102,65,66,67,68,69,70]
noncomputable abbrev G8:Txt:=[48,49,50,51,52,53,54,55,56,57,97,98,99,100,101,102]
private theorem QD (c:Nat):Hl [c] QC=hexd c:=by
 by_cases h:c<128
 ·exact (by decide +kernel:∀ c<128,Hl [c] QC=hexd c) c h
 ·cases q:hexd c with
  | true=>exact absurd (HG q) h
  | false=>
   cases z:Hl [c] QC with
   | false=>rfl
   | true=>exact absurd ((by decide:∀ c∈QC,c<128) c (Qw.mp z)) h
private theorem MQ {h:Txt}{k:Nat}(p:Nat->Bool)(lt:k<h.length):(h.take (k+1)).filter p=(h.take k).filter p++(if p (h.getD k 0)=true then [h.getD k 0] else []):=by
 rw [List.take_succ,List.getElem?_eq_getElem lt,List.filter_append,List.getD_eq_getElem?_getD,List.getElem?_eq_getElem lt]
 congr 1
 show List.filter p [h[k]]=if p h[k]=true then [h[k]] else []
 rw [List.filter_cons,List.filter_nil]
inductive FigI (st:List (List PV))(h:Txt)(k:Nat)(acc:List PV)(s:PS):Prop
 | mk (L:Nat->Option PV) (e:s=⟨L,st⟩) (a:acc=((h.take k).filter hexd).map fun c=>.str [c]):FigI st h k acc s
noncomputable def C1:Txt->List Nat
 | []=>[]
 | d::r=>hexdig d*16 ^ r.length::C1 r
private theorem Dq:∀ h:Txt,(C1 h).length=h.length
 | []=>rfl
 | _::r=>congrArg (·+1) (Dq r)
private theorem G9:∀ h:Txt,((C1 h).map fun n:Nat=>(n:Int)).sum=((hexval h:Nat):Int)
 | []=>rfl
 | d::r=>by
  show (((hexdig d*16 ^ r.length:Nat):Int)::(C1 r).map fun n:Nat=>(n:Int)).sum=_
  rw [I9,List.sum_cons,G9 r];exact (Int.natCast_add ..).symm
private theorem Ha:∀ {h:Txt} {k:Nat},k<h.length->(C1 h)[k]? = some (hexdig (h.getD k 0)*16 ^ (h.length - 1 - k))
 | d::r,0,_=>rfl
 | d::r,k+1,lt=>by
  have lt:k<r.length:=Nat.lt_of_succ_lt_succ lt
  show (C1 r)[k]? = _
  rw [Ha lt,show (d::r).length - 1 - (k+1)=r.length - 1 - k by rw [List.length_cons];lia]
  rfl
private theorem ET:∀ {h:Txt},h.all hexd=true->h.length<=8->∀ n∈C1 h,n<=1099511627776
 | d::r,a,l,n,m=>by
  rw [List.all_cons,Bool.and_eq_true] at a
  have l':r.length<=7:=Nat.le_of_succ_le_succ l
  rcases List.mem_cons.mp m with rfl | m
  ·exact Nat.le_trans (Nat.mul_le_mul (Nat.le_of_lt (Bm a.1).2.1) (Nat.pow_le_pow_right (by decide) l')) (by decide)
  ·exact ET a.2 (Nat.le_succ_of_le l') n m
private theorem RW {c:Nat}(h:hexd c=true):AJ G8 [lo1 c] 0=some (hexdig c)/\decide (c<128)=true:=(by decide +kernel:∀ c<128,hexd c=true->AJ G8 [lo1 c] 0=some (hexdig c)/\decide (c<128)=true) c (HG h) h
private theorem Gd:∀ l:List Int,Dd (l.map .int)=some l
 | []=>rfl
 | i::l=>by
  show ((Dd (l.map .int)).map (i::·))=_
  rw [Gd l];rfl
section
variable {loc:Nat->Option PV}{st:List (List PV)}{Q:PV->PS->Prop}{E:PX->PS->Prop}
theorem wpLow {x:Txt}{s:PS}(h:x.all (fun c=>decide (c<128))=true)(hl:x.length<=1000000)(k:Q (.str (x.map lo1)) s):wp (F3 (.str x) []) s Q E:=wpO (by rw [h,decide_eq_true hl];rfl) k
theorem wpIdx1 {x y:Txt}{s:PS}{i:Nat}(h:AJ x y 0=some i)(k:Q (.int i) s):wp (Ex false (.str x) [.str y]) s Q E:=by
 show wp (match AJ x y 0 with
  | some i=>M.ret (PV.int i)
  | none=>M.stuck) s Q E
 rw [h];exact k
theorem wpSum {i:Nat}{l:List Int}(h:st[i]? = some (l.map .int))(c:(l.all (fun i=>decide (i.natAbs<=1099511627776))&&decide (l.length<=1000000))=true)(k:Q (.int l.sum) ⟨loc,st⟩):wp (Oy [.lst i]) ⟨loc,st⟩ Q E:=by
 show wp (M.bind (M.getLst i) fun l=>M.bind (M.ofO (Dd l)) fun is=>M.orStuck (is.all (fun i=>decide (i.natAbs<=1099511627776))&&decide (is.length<=1000000)) (M.ret (.int is.sum))) _ Q E
 rw [wp_bind,wp_getLst,h]
 dsimp only
 rw [wp_bind,wp_ofO,Gd]
 exact wpO c k
private theorem O9:∀ k:Nat,k<8->(2<=(16:Int)&&(16:Int)<=16&&0<=(k:Int)&&(k:Int)<=16)=true:=by decide
private theorem MR {h:Txt}(hl:h.length<=100000)(hQ:Q (.lst st.length) ⟨loc,st++[(h.filter hexd).map fun c=>.str [c]]⟩) :
  wp (M.scope [11] (M.compN (BB (.str h)) 11 (AB .And [(M.bind (M.getL 11) fun x32=>M.bind (M.ret (.str [48,49,50,51,52,53,54,55,56,57,97,98,99,100,101,102,65,66,67,68,69,70])) fun x33=>M.bind (AA .In x32 x33) tst)]) (M.getL 11) Kx 0 [])) ⟨loc,st⟩ Q E:=by
 refine wp_scope (wp_compN (FigI st h) h.length (fun k=>.str [h.getD k 0]) (fun k acc s U lt=>Qu lt) (fun acc s U=>Qv) (fun k acc s z lt=>?_) (fun acc s z=>?_) Kx 0 [] _ ⟨_,rfl,rfl⟩ (Nat.zero_le _) (Nat.lt_of_le_of_lt hl CY))
 ·obtain ⟨L',rfl,rfl⟩:=z
  refine wpSet ?_
  have g:upd L' 11 (.str [h.getD k 0]) 11=some (.str [h.getD k 0]):=if_pos rfl
  have nx:=MQ hexd lt
  refine wpAndC ?_
  refine wpB (wpG g (wpB (wpR (wpB (wpInSS (wpTb ?_))))))
  rw [QD]
  cases q:hexd (h.getD k 0) with
  | false=>
   rw [q,if_neg Bool.false_ne_true,List.append_nil] at nx
   rw [if_neg Bool.false_ne_true,if_neg Bool.false_ne_true]
   exact ⟨_,rfl,by rw [nx]⟩
  | true=>
   rw [q,if_pos rfl] at nx
   rw [if_pos rfl,wp_allB_nil,if_pos (by rfl)]
   refine wpG g ⟨?_,⟨_,rfl,by rw [nx,List.map_append];rfl⟩⟩
   rw [List.length_map]
   exact Nat.le_trans (Nat.succ_le_succ (Nat.le_trans (List.length_filter_le ..) (by rw [List.length_take];exact Nat.min_le_right ..))) (Az (Nat.le_trans (Nat.succ_le_succ hl) (by decide)))
 ·obtain ⟨L',rfl,rfl⟩:=z
  rw [List.take_length]
  refine wpNL ?_ hQ
  rw [List.length_map]
  exact Az (Nat.le_trans (List.length_filter_le ..) (Nat.le_trans hl (by decide)))
inductive SumI (st:List (List PV))(h:Txt)(a:Nat)(k:Nat)(acc:List PV)(s:PS):Prop
 | mk (L:Nat->Option PV) (e:s=⟨L,st⟩) (g4:L 4=some (.int h.length)) (g5:L 5=some (.lst a)) (e2:acc=((C1 h).take k).map fun n=>.int n):SumI st h a k acc s
private theorem Pa {h:Txt}{a:Nat}(hl:h.length<=8)(hh:h.all hexd=true)(g4:loc 4=some (.int h.length))(g5:loc 5=some (.lst a))(ga:st[a]? = some (h.map fun c=>.str [c]))
  (hQ:Q (.int (hexval h)) ⟨loc,st++[(C1 h).map fun n=>.int n]⟩) :
  wp (M.bind (M.seq [(M.bind (M.bind (M.seq [M.getL 4]) BX) fun x51=>M.scope [12] (M.compN x51 12 (AB .And []) ((M.bind ((M.bind (M.ret (.str [48,49,50,51,52,53,54,55,56,57,97,98,99,100,101,102])) fun x42=>M.orStuck (Ba x42) (M.bind (M.seq [(M.bind ((M.bind (M.getL 5) fun x39=>M.bind (M.getL 12) fun x40=>Ax false x39 x40)) fun x41=>M.orStuck (Ba x41) (M.bind (M.seq []) (F3 x41)))]) (Ex false x42)))) fun x49=>M.bind ((M.bind (M.ret (.int 16)) fun x47=>M.bind ((M.bind ((M.bind (M.getL 4) fun x43=>M.bind (M.ret (.int 1)) fun x44=>Ap .Sub x43 x44)) fun x45=>M.bind (M.getL 12) fun x46=>Ap .Sub x45 x46)) fun x48=>Ap .Pow x47 x48)) fun x50=>Ap .Mult x49 x50)) Kx 0 []))]) Oy) ⟨loc,st⟩ Q E:=by
 refine wpB (wpSC (wpB (wpB (wpSC (wpG g4 (wpSN ?_))))))
 refine KtI ?_
 rw [wp_range (Nat.lt_of_le_of_lt hl (by decide))]
 refine KtI ?_
 refine wp_scope (wp_compN (SumI st h a) h.length (fun k=>.int k) (fun k acc s U lt=>HU lt) (fun acc s U=>HV) (fun k acc s z lt=>?_) (fun acc s z=>?_) Kx 0 [] _ ⟨_,rfl,(if_neg (by decide)).trans g4,(if_neg (by decide)).trans g5,rfl⟩ (Nat.zero_le _) (Nat.lt_of_le_of_lt hl (Nat.lt_trans (by decide) CY)))
 ·obtain ⟨L',rfl,k4,k5,rfl⟩:=z
  refine wpSet ?_
  have g12:upd L' 12 (.int k) 12=some (.int k):=if_pos rfl
  have g4:upd L' 12 (.int k) 4=some (.int h.length):=(HT rfl).trans k4
  have g5:upd L' 12 (.int k) 5=some (.lst a):=(HT rfl).trans k5
  rw [wp_allB_nil,if_pos (by rfl)]
  have hd:hexd (h.getD k 0)=true:=by
   rw [List.getD_eq_getElem?_getD,List.getElem?_eq_getElem lt]
   exact List.all_eq_true.mp hh _ (List.getElem_mem lt)
  obtain ⟨f1,f2⟩:=RW hd
  refine wpB (wpB (wpR (wpO rfl (wpB (wpSC (wpB (wpB (wpG g5 (wpB (wpG g12 ?_))))))))))
  refine wpItL (j:=k) (v:=.str [h.getD k 0]) (AU (Nat.lt_of_lt_of_le lt (Nat.le_trans hl (by decide)))) ga (Gy (by rw [List.length_map];exact lt)) (by rw [List.getElem?_map,List.getD_eq_getElem?_getD,List.getElem?_eq_getElem lt];rfl) ?_
  refine KtI (wpO rfl ?_)
  walk_at "wp"
  refine wpLow (by rw [List.all_cons,f2];rfl) (show 1<=1000000 by decide) ?_
  walk_at "wp"
  refine wpIdx1 f1 ?_
  walk_at "wp"
  refine wpG g4 ?_
  walk_at "wp"
  refine wpG g12 ?_
  walk_at "wp"
  rw [show (h.length:Int) - 1 - k=((h.length - 1 - k:Nat):Int) by lia]
  refine wpPow (O9 _ (by lia)) ?_
  walk_at "wp"
  rw [wp_mulI]
  refine ⟨by rw [AU (i:=hexdig (h.getD k 0)) (Nat.lt_trans (Bm hd).2.1 (by decide))];rfl,?_⟩
  refine ⟨?_,⟨_,rfl,g4,g5,?_⟩⟩
  ·rw [List.length_map,List.length_take]
   exact Nat.le_trans (Nat.succ_le_succ (Nat.min_le_left ..)) (Az (by lia))
  ·rw [List.take_succ,Ha lt,List.map_append,Int.toNat_natCast]
   show _++[PV.int _]=_++[PV.int _]
   rw [Int.natCast_mul,Int.natCast_pow]
   rfl
 ·obtain ⟨L',rfl,k4,k5,rfl⟩:=z
  rw [<- Dq,List.take_length]
  refine wpNL (by rw [List.length_map,Dq];exact Nat.le_trans hl (by decide)) ?_
  refine wpSN (KtI ?_)
  refine wpSum (l:=(C1 h).map fun n:Nat=>(n:Int)) (Bn.trans (by rw [List.map_map];rfl)) ?_ (by rw [G9];exact hQ)
  rw [List.length_map,Dq,decide_eq_true (Nat.le_trans hl (by decide)),Bool.and_true,List.all_map,List.all_eq_true]
  exact fun n m=>decide_eq_true (ET hh hl n m)
end
end Mi
end
section
open PySem PySem.W
set_option maxRecDepth 10000
set_option maxHeartbeats 1000000
namespace Mi
local macro_rules | `(tactic| walk_at "wp") => do
 let a <- ("B SC SN R Set PN PI Tb AI SI AS gAS gAI gSI Neg EqI EqS NeI LtI LeI GtI GeI InSS InF Str LS NL Tup Ord".splitOn " ").toArray.mapM fun s=>`(Lean.Parser.Tactic.tacticSeq| apply $(Lean.mkIdent (.str `Mi ("wp"++s))))
 `(tactic| (repeat' first
  | (with_reducible first $[| $a]* | refine KnI ?_ | refine wpO rfl ?_ | refine ⟨_,rfl,?_⟩ | refine wpDI rfl ?_ | refine wpModI rfl ?_ | refine wpModI ?_ ?_)
  | refine wpL (by assumption) rfl ?_) <;> try with_reducible refine KtI ?_)
inductive NamedR (r:Txt):Txt->Nat->Nat->Nat->Prop
 | ok {unit rest:Txt} {c:Nat}:92::r=unit++rest->UnitOf c unit->AT c->unit.length<=10->NamedR r [] 0 c unit.length
 | bad {w:Txt} {k:Nat}:EscF r w k->w≠[]->w.length<=200->k<=10->NamedR r w k 92 1
noncomputable abbrev tN (t:Txt)(i:Nat)(nm:Txt)(size figs num:Option PV):Tb:=[some (.str t),some (.int i),some (.dct nmK nmV),some (.str nm),size,figs,num]
private theorem notT {b:Bool}(h:(!b)=true):b=false:=by cases b <;> first | rfl | cases h
private theorem Jh {r:Txt}{d:Nat}(h:r.take 1=[d]):∃ r',r=d::r':=by
 cases r with
 | nil=>cases h
 | cons e r'=>exact ⟨r',by rw [(List.cons.inj h).1]⟩
private theorem Ge {h:Txt}{n:Nat}(l:h.length<=n):(h.filter hexd).length<n↔¬ (h.length=n/\h.all hexd=true):=by
 have a:=List.length_filter_le hexd h
 constructor
 ·rintro q ⟨e,z⟩
  rw [List.filter_eq_self.mpr fun c m=>List.all_eq_true.mp z c m] at q
  lia
 ·intro q
  refine Nat.lt_of_not_le fun z=>q ⟨by lia,List.all_eq_true.mpr fun c m=>?_⟩
  have e:(h.filter hexd).length=h.length:=by lia
  exact (List.filter_eq_self.mp (List.filter_sublist.eq_of_length e)) c m
section
variable {loc:Nat->Option PV}{st:List (List PV)}{Q:PV->PS->Prop}{E:PX->PS->Prop}
theorem wpChainLt {s:PS}{a b c:Int}{Q:Bool->PS->Prop}(h:Q (decide (a<=b)&&decide (b<c)) s):wp (F2 .LtE .Lt (.int a) (.int b) (M.ret (.int c))) s Q E:=by
 unfold F2
 refine wpB (wpLeI (KtI (wpB (wpTb ?_))))
 cases q:decide (a<=b)
 ·rw [q] at h;exact h
 ·rw [q] at h;exact wpB (wpR (KtI (wpB (wpLtI (KtI (wpTb h))))))
theorem wpDS {s:PS}(h:Q (.dct nmK nmV) s):wp (HD P0 ["b", "t", "n", "f", "r", "\"", "\\"] [.str [8],.str [9],.str [10],.str [12],.str [13],.str [34],.str [92]]) s Q E:=h
theorem wpNeS {s:PS}{x y:Txt}(h:Q (.bool (!(x==y))) s):wp (AA .NotEq (.str x) (.str y)) s Q E:=h
private theorem Lx {v:Nat}:((decide ((55296:Int)<=v)&&decide ((v:Int)<57344))||decide ((v:Int)>1114111))=false↔AT v:=by
 unfold AT
 rw [Bool.or_eq_false_iff,Bool.and_eq_false_iff,decide_eq_false_iff_not,decide_eq_false_iff_not,decide_eq_false_iff_not]
 lia
private theorem KH {t r:Txt}{i:Nat}(ht:t.length<=100000)(h:t.drop i=92::r)(hQ:∀ w k c sp st',st <+: st'->NamedR r w k c sp->Q (.tup [.str w,.int k,.str [c],.int sp]) ⟨loc,st'⟩):wp (M.call (BW Kx) [.str t,.int i]) ⟨loc,st⟩ Q E:=by
 have lt:=Bf h
 have four:∀ {a b c d:PV},[a,b,c,d].length<=big:=fun {_ _ _ _}=>(by decide:4<=big)
 have hn:slc t (some ((i+1:Nat):Int)) (some ((i+1+1:Nat):Int))=r.take 1:=by
  rw [Dh lt,show t.drop (i+1)=(t.drop i).drop 1 by rw [List.drop_drop],h];rfl
 refine wpCall 5 fun L B=>?_
 unfold BW
 refine wpA st [some (.str t),some (.int i),some (.dct nmK nmV),none,none,none,none] ?_ fun L B=>?_
 ·walk_at "wp"
  refine wpChr rfl ?_
  walk_at "wp"
  refine wpChr rfl ?_
  walk_at "wp"
  refine wpChr rfl ?_
  walk_at "wp"
  refine wpChr rfl ?_
  walk_at "wp"
  refine wpChr rfl ?_
  walk_at "wp"
  refine wpDS ?_
  walk_at "wp"
  exact ⟨rfl,(B.set 2 _ |> At.mk _ rfl)⟩
 refine wpA st (tN t i (r.take 1) none none none) ?_ fun L B=>?_
 ·walk_at "wp"
  refine wpSl hn (Az (Nat.le_trans (by rw [List.length_take];exact Nat.min_le_left ..) (show 1<=1000000 by decide))) ?_
  walk_at "wp"
  exact ⟨rfl,(B.set 3 _ |> At.mk _ rfl)⟩
 refine wpTh (A7 (c:=(namOf (r.take 1)).isSome) (by walk_at "wp";refine wp_inNam ?_;walk_at "wp";exact ⟨rfl,rfl⟩) (fun q=>?_) fun q=>wpR ?_)
 ·obtain ⟨c,q⟩:=Option.isSome_iff_exists.mp q
  obtain ⟨d,e1,e2,e3,e4,e5,_⟩:=O6 q
  obtain ⟨r',rfl⟩:=Jh e1
  walk_at "wp"
  refine wp_itemNam q ?_
  walk_at "wp"
  ·exact four
  exact hQ _ _ _ _ _ (List.prefix_refl _) (.ok (unit:=[92,d]) (rest:=r') rfl (.short e2 e3 e4) e5 (show 2<=10 by decide))
 have q:namOf (r.take 1)=none:=by
  cases z:namOf (r.take 1) with
  | none=>rfl
  | some=>rw [z] at q;cases q
 obtain ⟨n1,n2,n3⟩:=O7 q
 refine wpTh (A7 (c:=(!(r.take 1==[117])&&!(r.take 1==[85]))) ?_ (fun q=>?_) fun q=>wpR ?_)
 ·refine wpAndC ?_
  walk_at "wp"
  refine wpNeS ?_
  walk_at "wp"
  cases r.take 1==[117]
  ·rw [if_pos (by rfl)]
   refine wpAndC ?_
   walk_at "wp"
   refine wpNeS ?_
   walk_at "wp"
   cases r.take 1==[85]
   ·rw [if_pos (by rfl)];exact ⟨rfl,rfl⟩
   ·rw [if_neg (by decide)];exact ⟨rfl,rfl⟩
  ·rw [if_neg (by decide)];exact ⟨rfl,rfl⟩
 ·rw [Bool.and_eq_true] at q
  walk_at "wp"
  ·exact four
  exact hQ _ _ _ _ _ (List.prefix_refl _) (.bad (.name n1 (ne_of_beq_false (notT q.1)) (ne_of_beq_false (notT q.2))) (by decide) (by decide) (by decide))
 obtain ⟨d,n,e1,ud⟩:∃ d n,r.take 1=[d]/\UD d n:=by
  rcases Bool.and_eq_false_iff.mp q with q | q
  ·exact ⟨117,4,eq_of_beq (Qt q),.inl ⟨rfl,rfl⟩⟩
  ·exact ⟨85,8,eq_of_beq (Qt q),.inr ⟨rfl,rfl⟩⟩
 obtain ⟨r',rfl⟩:=Jh e1
 have n8:n<=8:=by rcases ud with ⟨_,z⟩ | ⟨_,z⟩ <;> lia
 refine wpA st (tN t i [d] (some (.int n)) none none) ?_ fun L B=>?_
 ·rcases ud with ⟨rfl,rfl⟩ | ⟨rfl,rfl⟩
  ·walk_at "wp"
   rw [if_pos (show (List.take 1 (117::r')==[117])=true from rfl)]
   walk_at "wp"
   exact ⟨rfl,(B.set 4 _ |> At.mk _ rfl)⟩
  ·walk_at "wp"
   rw [if_neg (show ¬ (List.take 1 (85::r')==[117])=true from (by decide:¬ ([85]==[117])=true))]
   walk_at "wp"
   exact ⟨rfl,(B.set 4 _ |> At.mk _ rfl)⟩
 obtain ⟨hh,eh⟩:∃ hh,hh=r'.take n:=⟨_,rfl⟩
 have lh:hh.length<=n:=by rw [eh,List.length_take];exact Nat.min_le_left ..
 have hs:slc t (some ((i+2:Nat):Int)) (some ((i+2+n:Nat):Int))=hh:=by
  have two:i+2<=t.length:=by
   have:=congrArg List.length h
   rw [List.length_drop] at this
   simp at this
   lia
  rw [Dh two,show t.drop (i+2)=(t.drop i).drop 2 by rw [List.drop_drop],h,eh];rfl
 have lb:((hh.filter hexd).map fun c=>PV.str [c]).length<=big:=by
  rw [List.length_map];exact Az (Nat.le_trans (List.length_filter_le ..) (Nat.le_trans lh (Nat.le_trans n8 (by decide))))
 refine wpA (st++[(hh.filter hexd).map fun c=>.str [c]]) (tN t i [d] (some (.int n)) (some (.lst st.length)) none) ?_ fun L B=>?_
 ·walk_at "wp"
  refine wpSl hs (Az (Nat.le_trans lh (Nat.le_trans n8 (by decide)))) ?_
  walk_at "wp"
  refine wpR (KtI ?_)
  refine MR (Nat.le_trans lh (Nat.le_trans n8 (by decide))) ?_
  walk_at "wp"
  exact ⟨rfl,(B.set 5 _ |> At.mk _ rfl)⟩
 refine wpTh (A7 (c:=decide (((hh.filter hexd).length:Int)<n)) ?_ (fun q=>?_) fun q=>wpR ?_)
 ·walk_at "wp"
  rw [wp_lenL Bn,List.length_map]
  rw [List.length_map] at lb
  refine ⟨lb,?_⟩
  walk_at "wp"
  exact ⟨rfl,rfl⟩
 ·walk_at "wp"
  ·exact four
  exact hQ _ _ _ _ _ (HX _) (.bad (.hex e1 ud (eh▸(Ge lh).mp (Int.ofNat_lt.mp (of_decide_eq_true q)))) (by decide) (by decide) (by decide))
 have q:=fun z=>of_decide_eq_false q (Int.ofNat_lt.mpr z)
 have hl:hh.length=n:=Classical.byContradiction fun z=>q ((Ge lh).mpr fun y=>z y.1)
 have ha:hh.all hexd=true:=Classical.byContradiction fun z=>q ((Ge lh).mpr fun y=>z y.2)
 have hf:hh.filter hexd=hh:=List.filter_eq_self.mpr fun c m=>List.all_eq_true.mp ha c m
 rw [hf]
 refine wpA (st++[hh.map fun c=>.str [c]]++[(C1 hh).map fun n=>.int n]) (tN t i [d] (some (.int n)) (some (.lst st.length)) (some (.int (hexval hh)))) ?_ fun L B=>?_
 ·refine wpB ?_
  refine Pa (hl▸n8) ha (hl▸B 4 _ rfl) (B 5 _ rfl) Bn ?_
  walk_at "wp"
  exact ⟨rfl,(B.set 6 _ |> At.mk _ rfl)⟩
 have pp:st <+: st++[hh.map fun c=>.str [c]]++[(C1 hh).map fun n=>.int n]:=(HX _).trans (HX _)
 refine wpTh (A7 (c:=((decide ((55296:Int)<=hexval hh)&&decide ((hexval hh:Int)<57344))||decide ((hexval hh:Int)>1114111))) ?_ (fun q=>?_) fun q=>wpR ?_)
 ·refine wpOrC ?_
  walk_at "wp"
  refine wpChainLt ?_
  cases decide ((55296:Int)<=hexval hh)&&decide ((hexval hh:Int)<57344)
  ·rw [if_neg (by decide)]
   refine wpOrC ?_
   walk_at "wp"
   cases decide ((hexval hh:Int)>1114111)
   ·rw [if_neg (by decide)];exact ⟨rfl,rfl⟩
   ·rw [if_pos rfl];exact ⟨rfl,rfl⟩
  ·rw [if_pos rfl];exact ⟨rfl,rfl⟩
 ·walk_at "wp"
  ·exact four
  refine hQ _ (2+n) _ 1 _ pp (.bad (.uni e1 ud eh.symm hl ha fun z=>?_) (by decide) (by decide) (by lia))
  rw [Lx.mpr z] at q
  cases q
 have sc:AT (hexval hh):=Lx.mp q
 walk_at "wp"
 refine wpChrN rfl sc ?_
 walk_at "wp"
 ·exact four
 have eu:92::d::r'=(92::d::hh)++r'.drop n:=by rw [eh];simp
 rcases ud with ⟨rfl,rfl⟩ | ⟨rfl,rfl⟩
 ·have:=NamedR.ok eu (.four hl ha rfl) sc (by simp;lia)
  rw [show (92::117::hh).length=2+4 by simp [hl]] at this
  exact hQ _ _ _ _ _ pp this
 ·have:=NamedR.ok eu (.eight hl ha rfl) sc (by simp;lia)
  rw [show (92::85::hh).length=2+8 by simp [hl]] at this
  exact hQ _ _ _ _ _ pp this
end
end Mi
end
section
open PySem PySem.W
set_option maxRecDepth 100000
set_option maxHeartbeats 1000000
namespace Mi
local macro_rules | `(tactic| walk_at "wp") => do
 let a <- ("B SC SN R Set PN PI Tb AI SI AS gAS gAI gSI Neg EqI EqS NeI LtI LeI GtI GeI InSS InF Str LS NL Tup Ord".splitOn " ").toArray.mapM fun s=>`(Lean.Parser.Tactic.tacticSeq| apply $(Lean.mkIdent (.str `Mi ("wp"++s))))
 `(tactic| (repeat' first
  | (with_reducible first $[| $a]* | refine KnI ?_ | refine wpO rfl ?_ | refine ⟨_,rfl,?_⟩ | refine wpDI rfl ?_ | refine wpModI rfl ?_ | refine wpModI ?_ ?_)
  | refine wpL (by assumption) rfl ?_) <;> try with_reducible refine KtI ?_)
noncomputable abbrev pcs31:List Txt:=[[92],[34],[10],[117],[85],[48,48,52,49],[68,56,48,48],[100,102,102,102],[100,55,70,70],[101,48,48,48],[48,48,49,48,70,70,70,70],[48,48,49,49,48,48,48,48],[48,48,48,48],[49,50],[110],[92,92],[92,34],[92,117],[92,85],[92,120,52,49],[92,47],[43,48,52,49],[49,95,50,51],[0],[127],[9],[13],[32,48,120,52],[39],[1632,1632,1636,1633],[92,114]]
noncomputable def BQ (t:Txt):Prop:=(∀ c∈t,AT c)/\t.length<=8
private theorem Pb:∀ t∈pcs31,BQ t:=by
 have:∀ t∈pcs31,(∀ c∈t,c<=55295)/\t.length<=8:=by decide +kernel
 exact fun t m=>⟨fun c k=>.inl ((this t m).1 c k),(this t m).2⟩
private theorem Gf:∀ {ts:List Txt},(∀ t∈ts,BQ t)->ts.flatten.length<=8*ts.length
 | [],_=>Nat.le_refl _
 | t::ts,h=>by
  have a:=Gf fun u m=>h u (List.mem_cons_of_mem t m)
  have b:=(h t List.mem_cons_self).2
  rw [List.flatten_cons,List.length_append,List.length_cons]
  lia
noncomputable abbrev tTx (l:List Int)(n:Nat)(x m g c:Option PV):Tb:=[some (.ints l),some (.lst n),some (.lst (n+1)),x,m,g,c]
section
private theorem QE {L:Nat->Option PV}{st:List (List PV)}{c:Nat}{Q:PV->PS->Prop}{E:PX->PS->Prop}(g:L 6=some (.int c))(lc:c<1112064)(h:∀ d:Nat,AT d->Q (.int d) ⟨L,st⟩) :
  wp (M.bind ((M.bind (M.getL 6) fun x20=>M.bind (M.ret (.int 55296)) fun x21=>M.bind (AA .Lt x20 x21) tst)) fun c=>if c then M.getL 6 else (M.bind (M.getL 6) fun x22=>M.bind (M.ret (.int 2048)) fun x23=>Ap .Add x22 x23)) ⟨L,st⟩ Q E:=by
 refine A7 (c:=decide ((c:Int)<55296)) (wpB (wpG g (KtI (wpB (wpR (KtI (wpB (wpLtI (KtI (wpTb ⟨rfl,rfl⟩)))))))))) (fun q=>?_) fun q=>?_
 ·have q:c<55296:=Int.ofNat_lt.mp (of_decide_eq_true q)
  exact wpG g (h c (.inl (by lia)))
 ·have q:¬ c<55296:=fun z=>of_decide_eq_false q (Int.ofNat_lt.mpr z)
  rw [wp_bind,wp_getL,g]
  have e:((c+2048:Nat):Int)=(c:Int)+2048:=Int.natCast_add c 2048
  have z:=h (c+2048) (.inr (by lia))
  rw [e] at z
  exact z
end
section
variable {loc:Nat->Option PV}{st:List (List PV)}{Q:PV->PS->Prop}{E:PX->PS->Prop}
private theorem QF {a b c:List PV}:(st++[a,b]).set (st.length+1) c=st++[a,c]:=by
 rw [List.set_append_right _ _ (by lia:st.length<=st.length+1),show st.length+1 - st.length=1 by lia];rfl
private theorem QG {a b:List PV}:(st++[a,b])[st.length]? = some a:=by simp
private theorem HZ {a b:List PV}:(st++[a,b])[st.length+1]? = some b:=by
 rw [List.getElem?_append_right (by lia:st.length<=st.length+1),show st.length+1 - st.length=1 by lia];rfl
inductive TxO (st:List (List PV))(l:List Int)(s:PS):Prop
 | mk (ts:List Txt) (ok:∀ t∈ts,BQ t) (le:ts.length<=100) (a:At (st++[pcs31.map .str,ts.map .str]) (tTx l st.length none none none none) s):TxO st l s
inductive TxW (st:List (List PV))(l:List Int)(p k:Nat)(s:PS):Prop
 | mk (ts:List Txt) (m:Nat) (g:Bool) (e:ts.length=p+k) (ok:∀ t∈ts,BQ t) (a:At (st++[pcs31.map .str,ts.map .str]) (tTx l st.length none (some (.int m)) (some (.bool g)) none) s):TxW st l p k s
private theorem MS {l:List Int}{L:Nat->Option PV}{ts:List Txt}{m:Nat}(lt:ts.length<100)(ok:∀ t∈ts,BQ t)(B:Loc (tTx l st.length none (some (.int m)) (some (.bool true)) none) L) :
  wp (Bw Kx) ⟨L,st++[pcs31.map .str,ts.map .str]⟩ (fun f s'=>f = .next/\∃ (t:Txt) (m':Nat) (g:Bool),BQ t/\At (st++[pcs31.map .str,(ts++[t]).map .str]) (tTx l st.length none (some (.int m')) (some (.bool g)) none) s') fun U U=>False:=by
 unfold Bw
 refine wpA (st++[pcs31.map .str,ts.map .str]) (tTx l st.length none (some (.int m)) (some (.bool true)) (some (.int (m / 32 % 1112064:Nat)))) ?_ fun L B=>?_
 ·walk_at "wp"
  rw [show (m:Int).fdiv 32=((m / 32:Nat):Int) from F7 m 32,show ((m / 32:Nat):Int).fmod 1112064=((m / 32 % 1112064:Nat):Int) from Cb (m / 32) 1112064]
  exact ⟨rfl,(B.set 6 _ |> At.mk _ rfl)⟩
 obtain ⟨c,hc,lc⟩:∃ c,c=m / 32 % 1112064/\c<1112064:=⟨_,rfl,Nat.mod_lt _ (by decide)⟩
 rw [<- hc] at B
 refine wpN (fun s'=>∃ t:Txt,BQ t/\At (st++[pcs31.map .str,(ts++[t]).map .str]) (tTx l st.length none (some (.int m)) (some (.bool true)) (some (.int c))) s') ?_ ?_
 ·have push:∀ t:Txt,BQ t->wp (D3 (.lst (st.length+1)) [.str t]) ⟨L,st++[pcs31.map .str,ts.map .str]⟩ (Kt (fun U=>M.ret PFlow.next) (fun f s'=>f = .next/\∃ t:Txt,BQ t/\At (st++[pcs31.map .str,(ts++[t]).map .str]) (tTx l st.length none (some (.int m)) (some (.bool true)) (some (.int c))) s') fun U U=>False) fun U U=>False:=fun t ht=>by
   rw [wp_append HZ,QF]
   refine ⟨by rw [List.length_map];exact Az (by lia),KtI (wpR ⟨rfl,t,ht,?_⟩)⟩
   rw [List.map_append]
   exact .mk _ rfl B
  walk_at "wp"
  rw [show (m:Int).fmod 32=((m % 32:Nat):Int) from Cb m 32]
  cases q:decide (((m % 32:Nat):Int)<31) with
  | true=>
   have q:m % 32<31:=Int.ofNat_lt.mp (of_decide_eq_true q)
   rw [if_pos rfl]
   walk_at "wp"
   rw [show (m:Int).fmod 32=((m % 32:Nat):Int) from Cb m 32]
   obtain ⟨t,et⟩:∃ t,pcs31[m % 32]? = some t:=⟨_,List.getElem?_eq_getElem q⟩
   refine wpItL (AU (Nat.lt_trans q (by decide))) QG (Gy (by rw [List.length_map];exact q)) (by rw [List.getElem?_map,et];rfl) ?_
   walk_at "wp"
   exact push t (Pb t (List.mem_of_getElem? et))
  | false=>
   rw [if_neg (by decide)]
   refine wpB (wpSC (QE (B 6 _ rfl) lc fun d sc=>?_))
   walk_at "wp"
   refine wpChrN rfl sc ?_
   walk_at "wp"
   exact push [d] ⟨fun e m=>by rw [List.mem_singleton.mp m];exact sc,show 1<=8 by decide⟩
 ·rintro s' ⟨t,ht,⟨L,rfl,B⟩⟩
  refine wpA (st++[pcs31.map .str,(ts++[t]).map .str]) (tTx l st.length none (some (.int (m / 35586048:Nat))) (some (.bool true)) (some (.int c))) ?_ fun L B=>?_
  ·walk_at "wp"
   refine wpgDI rfl ?_
   walk_at "wp"
   rw [show (m:Int).fdiv 35586048=((m / 35586048:Nat):Int) from F7 m 35586048]
   exact ⟨rfl,(B.set 4 _ |> At.mk _ rfl)⟩
  walk_at "wp"
  exact ⟨rfl,t,_,_,ht,((B.set 5 _).drop 6 |> At.mk _ rfl)⟩
end
end Mi
end
section
open PySem PySem.W
set_option maxRecDepth 10000
set_option maxHeartbeats 1000000
namespace Mi
local macro_rules | `(tactic| walk_at "wp") => do
 let a <- ("B SC SN R Set PN PI Tb AI SI AS gAS gAI gSI Neg EqI EqS NeI LtI LeI GtI GeI InSS InF Str LS NL Tup Ord".splitOn " ").toArray.mapM fun s=>`(Lean.Parser.Tactic.tacticSeq| apply $(Lean.mkIdent (.str `Mi ("wp"++s))))
 `(tactic| (repeat' first
  | (with_reducible first $[| $a]* | refine KnI ?_ | refine wpO rfl ?_ | refine ⟨_,rfl,?_⟩ | refine wpDI rfl ?_ | refine wpModI rfl ?_ | refine wpModI ?_ ?_)
  | refine wpL (by assumption) rfl ?_) <;> try with_reducible refine KtI ?_)
section
variable {loc:Nat->Option PV}{st:List (List PV)}{Q:PV->PS->Prop}{E:PX->PS->Prop}
private theorem MT {l:List Int}{k:Nat}{s:PS}(h:k<l.length):BB (.ints l) k s = .ok (some (.int (l.getD k 0))) s:=by
 show R.ok ((l[k]?).map PV.int) s=_
 rw [List.getElem?_eq_getElem h,List.getD_eq_getElem?_getD,List.getElem?_eq_getElem h]
 rfl
private theorem Pc {l:List Int}{s:PS}:BB (.ints l) l.length s = .ok none s:=by
 show R.ok ((l[l.length]?).map PV.int) s=_
 rw [List.getElem?_eq_none (Nat.le_refl _)]
 rfl
theorem wpAbs {i:Int}{s:PS}(h:∀ m:Nat,Q (.int m) s):wp (Rl [.int i]) s Q E:=by
 show Q (.int (if i<0 then -i else i)) s
 have:(if i<0 then -i else i)=(i.natAbs:Int):=by split <;> lia
 rw [this];exact h _
private theorem KI {l:List Int}{L:Nat->Option PV}{ts:List Txt}{m:Nat}(le:ts.length<=100)(ok:∀ t∈ts,BQ t)(B:Loc (tTx l st.length none (some (.int m)) (some (.bool true)) none) L) :
  wp (M.whileN ((AB .And [(M.bind (M.getL 5) tst),(M.bind ((M.bind (M.seq [M.getL 2]) BC)) fun x5=>M.bind (M.ret (.int 100)) fun x6=>M.bind (AA .Lt x5 x6) tst)])) (Bw Kx) Kx) ⟨L,st++[pcs31.map .str,ts.map .str]⟩ (fun f s'=>f = .next/\TxO st l s') fun U U=>False:=by
 refine wp_whileN (TxW st l ts.length) (100 - ts.length) (fun k s i hk=>?_) Kx 0 _ (.mk ts m true rfl ok (.mk _ rfl B)) (Nat.zero_le _) (Nat.lt_of_le_of_lt (Nat.le_trans (Nat.sub_le ..) (Nat.sub_le ..)) (Nat.lt_trans (by decide:100<100000) CY))
 obtain ⟨us,m,g,e,ok,⟨L,rfl,B⟩⟩:=i
 have go:TxO st l ⟨L,st++[pcs31.map .str,us.map .str]⟩:=.mk us ok (by lia) (.mk _ rfl ((B.drop 4).drop 5))
 refine wpAndC ?_
 refine wpB (wpL B rfl (KtI (wpTb ?_)))
 cases g with
 | false=>rw [if_neg (by decide),if_neg (by decide)];exact ⟨rfl,go⟩
 | true=>
  rw [if_pos rfl]
  refine wpAndC ?_
  refine wpB (wpB (wpSC (wpL B rfl (wpSN (KtI ?_)))))
  rw [wp_lenL HZ]
  refine ⟨by rw [List.length_map];exact Az (by lia),KtI (wpB (wpR (KtI (wpB (wpLtI (KtI (wpTb ?_)))))))⟩
  rw [List.length_map]
  cases q:decide ((us.length:Int)<100) with
  | false=>rw [if_neg (by decide),if_neg (by decide)];exact ⟨rfl,go⟩
  | true=>
   have lt:us.length<100:=Int.ofNat_lt.mp (of_decide_eq_true q)
   rw [if_pos rfl,wp_allB_nil,if_pos (by rfl)]
   refine wp_mono (MS lt ok B) (fun f s' z=>?_) fun U U z=>z
   obtain ⟨rfl,t,m',g',ht,a⟩:=z
   exact ⟨by lia,.mk (us++[t]) m' g' (by rw [List.length_append,e];rfl) (fun u mu=>by
    rcases List.mem_append.mp mu with mu | mu
    ·exact ok u mu
    ·rw [List.mem_singleton.mp mu];exact ht) a⟩
private theorem Ji {l:List Int}(hl:l.length<=63)(hQ:∀ t st',st <+: st'->(∀ c∈t,AT c)->t.length<=800->Q (.str t) ⟨loc,st'⟩):wp (M.call (CW Kx) [.ints l]) ⟨loc,st⟩ Q E:=by
 refine wpCall 6 fun L B=>?_
 unfold CW
 refine wpA (st++[pcs31.map .str]) [some (.ints l),some (.lst st.length),none,none,none,none,none] ?_ fun L B=>?_
 ·walk_at "wp"
  refine wpChr rfl ?_
  walk_at "wp"
  refine wpChr rfl ?_
  walk_at "wp"
  ·exact (by decide:31<=big)
  exact ⟨rfl,(B.set 1 _ |> At.mk _ rfl)⟩
 refine wpA (st++[pcs31.map .str,[]]) (tTx l st.length none none none none) ?_ fun L B=>?_
 ·walk_at "wp"
  ·exact (by decide:0<=big)
  refine ⟨rfl,?_⟩
  rw [List.append_assoc,List.length_append]
  exact (B.set 2 _ |> At.mk _ rfl)
 refine wpN (TxO st l) ?_ ?_
 ·walk_at "wp"
  refine wpR (KtI ?_)
  refine wp_forT (fun U=>TxO st l) l.length (fun k=>.int (l.getD k 0)) (fun k s U lt=>MT lt) (fun s U=>Pc) (fun k s i lt=>?_) (fun s i=>⟨rfl,i⟩) Kx 0 _ (.mk [] (fun U m=>(by cases m)) (Nat.zero_le _) (.mk _ rfl B)) (Nat.zero_le _) (Nat.lt_of_le_of_lt hl (Nat.lt_trans (by decide) CY))
  obtain ⟨ts,ok,le,⟨L,rfl,B⟩⟩:=i
  refine wpSet ?_
  have B:=B.set 3 (.int (l.getD k 0))
  unfold C0
  refine wpN (fun s'=>∃ m:Nat,At (st++[pcs31.map .str,ts.map .str]) (tTx l st.length none (some (.int m)) none none) s') ?_ ?_
  ·walk_at "wp"
   refine wpAbs fun m=>?_
   walk_at "wp"
   exact ⟨rfl,m,((B.set 4 _).drop 3 |> At.mk _ rfl)⟩
  rintro s' ⟨m,⟨L,rfl,B⟩⟩
  refine wpA (st++[pcs31.map .str,ts.map .str]) (tTx l st.length none (some (.int m)) (some (.bool true)) none) ?_ fun L B=>?_
  ·walk_at "wp"
   exact ⟨rfl,(B.set 5 _ |> At.mk _ rfl)⟩
  refine wp_mono (KI le ok B) (fun f s' z=>?_) fun U U z=>z.elim
  obtain ⟨rfl,z⟩:=z
  exact z
 ·rintro s' ⟨ts,ok,le,⟨L,rfl,B⟩⟩
  have hl:=Gf ok
  walk_at "wp"
  rw [wp_join HZ]
  refine ⟨Az (by lia),?_⟩
  walk_at "wp"
  refine hQ _ _ (List.prefix_append _ _) (fun c m=>?_) (by lia)
  obtain ⟨t,mt,mc⟩:=List.mem_flatten.mp m
  exact (ok t mt).1 c mc
end
noncomputable def run (x:Txt)(i:Nat):Nat:=((x.take i).reverse.takeWhile fun c=>[92].contains c).length
noncomputable def H0 (x:Txt)(i:Nat):Prop:=x[i]? = some 34/\run x i % 2=0
private theorem Pd {x:Txt}{i:Nat}(h:x[i]? = some 92):run x (i+1)=run x i+1:=by
 unfold run
 rw [List.take_succ,h,List.reverse_append]
 rfl
private theorem KJ {x:Txt}{i c:Nat}(h:x[i]? = some c)(n:c≠92):run x (i+1)=0:=by
 unfold run
 rw [List.take_succ,h,List.reverse_append]
 show (List.takeWhile _ (c::(x.take i).reverse)).length=0
 rw [List.takeWhile_cons,show [92].contains c=false by simp [n]]
 rfl
private theorem RX (x:Txt)(i:Nat):run x i<=(x.take i).length:=by
 unfold run
 refine Nat.le_trans (List.takeWhile_sublist _).length_le ?_
 rw [List.length_reverse]
 exact Nat.le_refl _
private theorem QH {x:Txt}{i:Nat}(h:i<=x.length):(IS [92] (x.take i)).length+run x i=i:=by
 have a:=RX x i
 unfold IS
 have e:(x.take i).length=i:=by rw [List.length_take];exact Nat.min_eq_left h
 rw [e] at a ⊢
 rw [List.length_take,e]
 show min (i - run x i) i+run x i=i
 lia
private theorem Gg {x y z:Txt}{p k c:Nat}(h:x.drop p=y++z)(e:y[k]? = some c):x[p+k]? = some c:=by
 have:(x.drop p)[k]? = (y++z)[k]?:=by rw [h]
 rw [List.getElem?_drop,List.getElem?_append_left (List.getElem?_eq_some_iff.mp e).1,e] at this
 exact this
private theorem QI {h:Txt}{k c:Nat}(a:h.all hexd=true)(e:h[k]? = some c):c≠34/\c≠92:=by
 have:=List.all_eq_true.mp a c (List.mem_of_getElem? e)
 exact ⟨fun z=>by subst z;exact absurd this (by decide),fun z=>by subst z;exact absurd this (by decide)⟩
private theorem MU {x unit rest:Txt}{u c:Nat}(h:x.drop u=92::(unit++rest))(un:UnitOf c (92::unit))(ev:run x u % 2=0) :
  (∀ j,u<=j->j<u+(92::unit).length->¬ H0 x j)/\run x (u+(92::unit).length) % 2=0:=by
 have h0:x[u]? = some 92:=Bx h
 have r1:run x (u+1) % 2=1:=by rw [Pd h0];lia
 have n0:¬ H0 x u:=fun z=>by have a:=z.1;rw [h0] at a;cases a
 have hx:∀ {d:Nat} {hh:Txt},unit=d::hh->hh.all hexd=true->hh≠[]->d≠34->d≠92->(∀ j,u<=j->j<u+(92::unit).length->¬ H0 x j)/\run x (u+(92::unit).length) % 2=0:=by
  intro d hh e a ne d1 d2
  subst e
  have g:∀ k c,(d::hh)[k]? = some c->x[u+1+k]? = some c:=fun k c e=>Gg (Bb (y:=[92]) h) e
  have no:∀ (k c:Nat),(d::hh)[k]? = some c->c≠34/\c≠92:=fun k c e=>by
   cases k with
   | zero=>rw [<- Option.some.inj e];exact ⟨d1,d2⟩
   | succ k=>exact QI a e
  constructor
  ·intro j h1 h2 z
   by_cases q:j=u
   ·exact n0 (q▸z)
   ·obtain ⟨k,rfl⟩:∃ k,j=u+1+k:=⟨j - (u+1),by lia⟩
    have lk:k<(d::hh).length:=by simp at h2 ⊢;lia
    have e:=List.getElem?_eq_getElem lk
    exact (no k _ e).1 (Option.some.inj ((g k _ e).symm.trans z.1))
  ·have lk:hh.length<(d::hh).length:=Nat.lt_succ_self _
   have e:=List.getElem?_eq_getElem lk
   have:=KJ (g _ _ e) (no _ _ e).2
   rw [show u+(92::d::hh).length=u+1+hh.length+1 by simp;lia,this]
 generalize e:92::unit=w at un
 cases un with
 | raw _ _ z=>exact absurd (List.cons.inj e).1.symm z
 | @short d e1 _ _=>
  obtain ⟨_,rfl⟩:=List.cons.inj e
  have h1:x[u+1]? = some d:=Gg (y:=[92,d]) h rfl
  constructor
  ·intro j a b z
   have b:j<u+2:=b
   rcases (by lia:j=u\/j=u+1) with rfl | rfl
   ·exact n0 z
   ·have:=z.2;lia
  ·show run x (u+1+1) % 2=0
   by_cases q:d=92
   ·subst q;rw [Pd h1];lia
   ·rw [KJ h1 q]
 | @four hh l a _=>
  obtain ⟨_,rfl⟩:=List.cons.inj e
  exact hx rfl a (by rintro rfl;cases l) (by decide) (by decide)
 | @eight hh l a _=>
  obtain ⟨_,rfl⟩:=List.cons.inj e
  exact hx rfl a (by rintro rfl;cases l) (by decide) (by decide)
noncomputable def Di (x:Txt)(i:Nat):Bool:=(x.getD i 0==34)&&decide (run x i % 2=0)
private theorem Jj {x:Txt}{i:Nat}(h:i<x.length):Di x i=true↔H0 x i:=by
 unfold Di H0
 rw [Bool.and_eq_true,beq_iff_eq,decide_eq_true_eq,List.getD_eq_getElem?_getD,List.getElem?_eq_getElem h]
 exact ⟨fun z=>⟨congrArg some z.1,z.2⟩,fun z=>⟨Option.some.inj z.1,z.2⟩⟩
private theorem KK (p:Nat->Bool)(n:Nat):∃ e,(((List.range n).filter p)++[n])[0]? = some e/\e<=n/\(∀ j,j<e->p j=false)/\(e=n\/p e=true):=by
 have pw:((List.range n).filter p).Pairwise (· < ·):=List.pairwise_lt_range.filter _
 have mem:∀ j,j∈(List.range n).filter p↔j<n/\p j=true:=fun j=>by rw [List.mem_filter,List.mem_range]
 revert pw mem
 cases (List.range n).filter p with
 | nil=>
  intro _ mem
  exact ⟨n,rfl,Nat.le_refl _,fun j lt=>by
   cases q:p j with
   | false=>rfl
   | true=>exact absurd ((mem j).mpr ⟨lt,q⟩) List.not_mem_nil,.inl rfl⟩
 | cons a r=>
  intro pw mem
  have ⟨la,pa⟩:=(mem a).mp List.mem_cons_self
  refine ⟨a,rfl,Nat.le_of_lt la,fun j lt=>?_,.inr pa⟩
  cases q:p j with
  | false=>rfl
  | true=>
   rcases List.mem_cons.mp ((mem j).mpr ⟨Nat.lt_trans lt la,q⟩) with rfl | m
   ·exact absurd lt (Nat.lt_irrefl _)
   ·exact absurd ((List.pairwise_cons.mp pw).1 j m) (by lia)
private theorem KL {n:Nat}(p:Nat->Bool):(List.range (n+1)).filter p=(List.range n).filter p++(if p n=true then [n] else []):=by
 rw [List.range_succ,List.filter_append,List.filter_cons,List.filter_nil]
section
variable {loc:Nat->Option PV}{st:List (List PV)}{Q:PV->PS->Prop}{E:PX->PS->Prop}
theorem wpRst {x y:Txt}{s:PS}(h:x.length<=1000000)(k:Q (.str (IS y x)) s):wp (D7 (.str x) [.str y]) s Q E:=wpO (decide_eq_true h) k
inductive MkI (st:List (List PV))(t:Txt)(k:Nat)(acc:List PV)(s:PS):Prop
 | mk (L:Nat->Option PV) (e:s=⟨L,st⟩) (g1:L 1=some (.str t)) (a:acc=((List.range k).filter (Di t)).map fun i=>.int (i:Nat)):MkI st t k acc s
private theorem KM {t:Txt}(ht:t.length<=800)(g1:loc 1=some (.str t))(hQ:Q (.lst st.length) ⟨loc,st++[((List.range t.length).filter (Di t)).map fun i=>.int (i:Nat)]⟩) :
  wp (M.bind (M.bind (M.seq [(M.bind (M.seq [M.getL 1]) BC)]) BX) fun x16=>M.scope [24] (M.compN x16 24 (AB .And [(AB .And [(M.bind ((M.bind (M.getL 1) fun x2=>M.bind (M.getL 24) fun x3=>Ax false x2 x3)) fun x4=>M.bind (M.ret (.str [34])) fun x5=>M.bind (AA .Eq x4 x5) tst),(M.bind ((M.bind ((M.bind (M.getL 24) fun x10=>M.bind ((M.bind (M.seq [(M.bind ((M.bind (M.getL 1) fun x6=>M.bind (AP none) fun x7=>M.bind (AP (some (M.getL 24))) fun x8=>A6 x7 x8 x6)) fun x9=>M.orStuck (Ba x9) (M.bind (M.seq [M.ret (.str [92])]) (D7 x9)))]) BC)) fun x11=>Ap .Sub x10 x11)) fun x12=>M.bind (M.ret (.int 2)) fun x13=>Ap .Mod x12 x13)) fun x14=>M.bind (M.ret (.int 0)) fun x15=>M.bind (AA .Eq x14 x15) tst)])]) (M.getL 24) Kx 0 [])) ⟨loc,st⟩ Q E:=by
 have tb:t.length<=big:=Az (Nat.le_trans ht (by decide))
 refine wpB (wpB (wpSC (wpB (wpSC (wpG g1 (wpSN ?_))))))
 refine KtI (wpLS tb (wpSN (KtI ?_)))
 rw [wp_range (Nat.lt_of_le_of_lt ht (by decide))]
 refine KtI ?_
 have lf:∀ k,((List.range k).filter (Di t)).length<=k:=fun k=>Nat.le_trans (List.length_filter_le ..) (by rw [List.length_range];exact Nat.le_refl _)
 refine wp_scope (wp_compN (MkI st t) t.length (fun k=>.int k) (fun k acc s U lt=>HU lt) (fun acc s U=>HV) (fun k acc s z lt=>?_) (fun acc s z=>?_) Kx 0 [] _ ⟨_,rfl,(if_neg (by decide)).trans g1,rfl⟩ (Nat.zero_le _) (Nat.lt_of_le_of_lt ht (Nat.lt_trans (by decide) CY)))
 ·obtain ⟨L',rfl,k1,rfl⟩:=z
  refine wpSet ?_
  have g24:upd L' 24 (.int k) 24=some (.int k):=if_pos rfl
  have g1:upd L' 24 (.int k) 1=some (.str t):=(HT rfl).trans k1
  have nx:=KL (n:=k) (Di t)
  refine wp_mono (Q:=fun c s'=>c=Di t k/\s'=⟨upd L' 24 (.int k),st⟩) (E:=fun U U=>False) ?_ (fun c s' z=>?_) fun U U z=>z.elim
  ·refine wpAndC (wpAndC ?_)
   refine wpB (wpB (wpG g1 (wpB (wpG g24 ?_))))
   refine wpIt (AU (Nat.lt_of_lt_of_le lt (Nat.le_trans ht (by decide)))) (Gy lt) ?_
   walk_at "wp"
   rw [show ([t.getD k 0]==[34])=(t.getD k 0==34) by
    cases h:(t.getD k 0==34) with
    | true=>rw [eq_of_beq h];rfl
    | false=>exact beq_eq_false_iff_ne.mpr fun z=>ne_of_beq_false h (List.cons.inj z).1]
   unfold Di
   cases t.getD k 0==34 with
   | false=>rw [if_neg (by decide),if_neg (by decide)];exact ⟨rfl,rfl⟩
   | true=>
    rw [if_pos rfl,Bool.true_and]
    have hs:slc t none (some (k:Int))=t.take k:=RV (Nat.le_of_lt lt)
    have lt1:(t.take k).length<=1000000:=by rw [List.length_take];lia
    have rr:=QH (x:=t) (Nat.le_of_lt lt)
    refine wpAndC (wpB (wpB (wpB (wpG g24 (wpB (wpB (wpSC (wpB (wpB (wpG g1 (wpB ?_)))))))))))
    walk_at "wp"
    refine wpG g24 ⟨_,rfl,?_⟩
    refine KtI (wpSl hs (Az lt1) (KtI (wpO rfl (wpB (wpSC (wpR (wpSN (KtI ?_))))))))
    refine wpRst lt1 (wpSN (KtI (wpLS (Az (by lia)) ?_)))
    walk_at "wp"
    rw [show (k:Int) - ((IS [92] (t.take k)).length:Int)=(run t k:Int) by lia,show ((run t k:Nat):Int).fmod 2=((run t k % 2:Nat):Int) from Cb _ 2,show (((run t k % 2:Nat):Int)==0)=decide (run t k % 2=0) from isZ (b:=0)]
    cases decide (run t k % 2=0) with
    | false=>rw [if_neg (by decide),if_neg (by decide)];exact ⟨rfl,rfl⟩
    | true=>rw [if_pos rfl,wp_allB_nil,if_pos (by rfl)];exact ⟨rfl,rfl⟩
  ·obtain ⟨rfl,rfl⟩:=z
   cases q:Di t k with
   | false=>
    rw [q,if_neg Bool.false_ne_true,List.append_nil] at nx
    rw [if_neg Bool.false_ne_true]
    exact ⟨_,rfl,g1,by rw [nx]⟩
   | true=>
    rw [q,if_pos rfl] at nx
    rw [if_pos rfl]
    refine wpG g24 ⟨?_,⟨_,rfl,g1,by rw [nx,List.map_append];rfl⟩⟩
    rw [List.length_map]
    exact Nat.le_trans (Nat.succ_le_succ (lf k)) (Nat.le_trans lt tb)
 ·obtain ⟨L',rfl,_,rfl⟩:=z
  exact wpNL (by rw [List.length_map];exact Nat.le_trans (lf _) tb) hQ
end
noncomputable def C4 (c:Nat):Txt:=[G8.getD (c / 16 % 16) 0,G8.getD (c % 16) 0]
noncomputable def SA (c:Nat):Txt:=if c=10 then [110] else if c=13 then [114] else [120]++C4 c
private theorem Pe {c:Nat}(h:AM 0 c=true):c<128:=by
 unfold AM ctl at h
 simp at h
 lia
private theorem Gh {c:Nat}(h:AM 0 c=true):[73,108,108,101,103,97,108,32,99,104,97,114,97,99,116,101,114,32,39,92]++SA c++[39]=Eg++A3 [c]/\(Eg++A3 [c]).length<=200/\(A3 [c]).length<=100/\hexval ([48,48]++C4 c)=c/\([48,48]++C4 c).all hexd=true:=(by decide +kernel:∀ c<128,AM 0 c=true->[73,108,108,101,103,97,108,32,99,104,97,114,97,99,116,101,114,32,39,92]++SA c++[39]=Eg++A3 [c]/\(Eg++A3 [c]).length<=200/\(A3 [c]).length<=100/\hexval ([48,48]++C4 c)=c/\([48,48]++C4 c).all hexd=true) c (Pe h) h
private theorem Pf {c:Nat}:((decide ((c:Int)<32)&&!((c:Int)==9))||((c:Int)==127))=AM 0 c:=by
 rw [show AM 0 c=((decide (c<32)||c==127)&&c != 9) from rfl,show ((c:Int)==9)=decide (c=9) from isZ (b:=9),show ((c:Int)==127)=decide (c=127) from isZ (b:=127),show decide ((c:Int)<32)=decide (c<32) from decide_eq_decide.mpr Int.ofNat_lt]
 by_cases h1:c=9
 ·subst h1;rfl
 ·rw [decide_eq_false h1,Bool.not_false,Bool.and_true,show (c != 9)=true from bne_iff_ne.mpr h1,Bool.and_true]
  congr 1
inductive StepR (c:Nat)(r:Txt):Txt->Nat->Nat->Nat->Prop
 | esc {w:Txt} {k d sp:Nat}:c=92->NamedR r w k d sp->StepR c r w k d sp
 | ctl:c≠92->AM 0 c=true->StepR c r (Eg++A3 [c]) 0 c 1
 | raw:c≠92->AM 0 c=false->StepR c r [] 0 c 1
noncomputable abbrev tLw (t:Txt)(e:Nat)(hd dn tx:Txt)(u:Nat)(i w k m sp nu fi me:Option PV):Tb:=[none,some (.str t),none,some (.int e),some (.str hd),some (.str dn),some (.str tx),some (.int u),i,w,k,m,sp,nu,fi,me,none]
section
variable {loc:Nat->Option PV}{st:List (List PV)}{Q:PV->PS->Prop}{E:PX->PS->Prop}
private theorem MV (c:Nat)(d:Txt)(s:PS):Mq (.dct [.int 10,.int 13] [.str [110],.str [114]]) [.int c,.str d] s = .ok (.str (if c=10 then [110] else if c=13 then [114] else d)) s:=by
 by_cases h1:c=10
 ·subst h1;rfl
 by_cases h2:c=13
 ·subst h2;rfl
 have go:∀ (k:Nat) ks v vs,c≠k->Cg (.int k::ks) (v::vs) (.int c)=Cg ks vs (.int c):=fun k ks v vs h=>by
  show (match some ((k:Int)==(c:Int)) with
   | some true=>some (some v)
   | some false=>Cg ks vs (.int c)
   | none=>none)=_
  rw [show ((k:Int)==(c:Int))=false from beq_eq_false_iff_ne.mpr fun z=>h (Int.ofNat.inj z).symm]
 have e:CA [.int 10,.int 13] [.str [110],.str [114]] (.int c)=some none:=(go 10 _ _ _ h1).trans (go 13 _ _ _ h2)
 show M.ofO ((CA [.int 10,.int 13] [.str [110],.str [114]] (.int c)).map fun r=>r.getD (.str d)) s=_
 rw [e,if_neg h1,if_neg h2]
 rfl
theorem wpGetC {c:Nat}{d:Txt}{s:PS}(h:Q (.str (if c=10 then [110] else if c=13 then [114] else d)) s):wp (Mq (.dct [.int 10,.int 13] [.str [110],.str [114]]) [.int c,.str d]) s Q E:=by
 unfold wp;rw [MV];exact h
theorem wpUT {fs:List (PV->M Unit)}{vs:List PV}{s:PS}{Q:Unit->PS->Prop}(hl:(vs.length==fs.length)=true)(k:wp (M.each fs vs) s Q E):wp (M.unpack fs (.tup vs)) s Q E:=wpO hl k
theorem wpU4 {i j k l:Nat}{a b c d:PV}{L:Nat->Option PV}{Q:Unit->PS->Prop}(h:Q () ⟨upd (upd (upd (upd L i a) j b) k c) l d,st⟩):wp (M.unpack [M.setL i,M.setL j,M.setL k,M.setL l] (.tup [a,b,c,d])) ⟨L,st⟩ Q E:=wpUT rfl (wpEC (wpSet (wpEC (wpSet (wpEC (wpSet (wpEC (wpSet (wpEN h)))))))))
theorem wpDC {s:PS}(h:Q (.dct [.int 10,.int 13] [.str [110],.str [114]]) s):wp (HD PV.int [10,13] [PV.str [110],PV.str [114]]) s Q E:=h
private theorem SD {t r hd dn tx:Txt}{c i e u:Nat}{L:Nat->Option PV}(ht:t.length<=800)(h:t.drop i=c::r)(B:Loc (tLw t e hd dn tx u (some (.int i)) (some (.str [])) (some (.int (0:Nat))) (some (.str [c])) (some (.int (1:Nat))) (some (.int c)) (some (.str (C4 c))) none) L) :
  wp (M.bind ((M.bind ((M.bind (M.getL 1) fun x56=>M.bind (M.getL 8) fun x57=>Ax false x56 x57)) fun x58=>M.bind (M.ret (.str [92])) fun x59=>M.bind (AA .Eq x58 x59) tst)) fun c=>if c then (M.bind ((M.bind (M.seq [M.getL 1,M.getL 8]) (M.call (BW Kx)))) fun x60=>M.bind (M.unpack [M.setL 9,M.setL 10,M.setL 11,M.setL 12] x60) fun U=>M.ret PFlow.next) else (M.bind ((AB .Or [(AB .And [(M.bind (M.getL 13) fun x61=>M.bind (M.ret (.int 32)) fun x62=>M.bind (AA .Lt x61 x62) tst),(M.bind (M.getL 13) fun x63=>M.bind (M.ret (.int 9)) fun x64=>M.bind (AA .NotEq x63 x64) tst)]),(M.bind (M.getL 13) fun x65=>M.bind (M.ret (.int 127)) fun x66=>M.bind (AA .Eq x65 x66) tst)])) fun c=>if c then (M.bind ((M.bind ((M.bind (M.ret (.str [73,108,108,101,103,97,108,32,99,104,97,114,97,99,116,101,114,32,39,92])) fun x70=>M.bind ((M.bind ((HD .int [10,13] [.str [110],.str [114]])) fun x69=>M.orStuck (HQ x69) (M.bind (M.seq [M.getL 13,(M.bind (M.ret (.str [120])) fun x67=>M.bind (M.getL 14) fun x68=>Ap .Add x67 x68)]) (Mq x69)))) fun x71=>Ap .Add x70 x71)) fun x72=>M.bind (M.ret (.str [39])) fun x73=>Ap .Add x72 x73)) fun x74=>M.bind (M.setL 9 x74) fun U=>M.ret PFlow.next) else (M.ret PFlow.next))) ⟨L,st⟩
   (fun f s'=>f=PFlow.next/\∃ w k d sp st',st <+: st'/\StepR c r w k d sp/\At st' (tLw t e hd dn tx u (some (.int i)) (some (.str w)) (some (.int (k:Nat))) (some (.str [d])) (some (.int (sp:Nat))) (some (.int c)) (some (.str (C4 c))) none) s') fun U U=>False:=by
 have lt:=Bf h
 have hc:t.getD i 0=c:=by rw [List.getD_eq_getElem?_getD,Bx h];rfl
 refine A7 (c:=(c==92)) ?_ (fun q=>?_) fun q=>?_
 ·refine wpB (wpB (wpL B rfl (KtI (wpB (wpL B rfl (KtI (wpIt (AU (Nat.lt_of_lt_of_le lt (Nat.le_trans ht (by decide)))) (Gy lt) ?_)))))))
  rw [hc]
  walk_at "wp"
  refine ⟨?_,rfl⟩
  cases z:(c==92) with
  | true=>rw [eq_of_beq z];rfl
  | false=>exact beq_eq_false_iff_ne.mpr fun y=>ne_of_beq_false z (List.cons.inj y).1
 ·obtain rfl:c=92:=eq_of_beq q
  walk_at "wp"
  refine KH (Nat.le_trans ht (by decide)) h fun w k d sp st' p n=>?_
  refine KtI (wpB (wpU4 (KtI (wpR ⟨rfl,w,k,d,sp,st',p,.esc rfl n,?_⟩))))
  exact ((((B.set 9 _).set 10 _).set 11 _).set 12 _ |> At.mk _ rfl)
 have c92:c≠92:=ne_of_beq_false q
 refine A7 (c:=AM 0 c) ?_ (fun q=>?_) fun q=>?_
 ·rw [<- Pf]
  have last:∀ b:Bool,b=false->wp (AB .Or [(M.bind (M.getL 13) fun x65=>M.bind (M.ret (.int 127)) fun x66=>M.bind (AA .Eq x65 x66) tst)]) ⟨L,st⟩ (fun d s'=>d=(b||((c:Int)==127))/\s'=⟨L,st⟩) fun U U=>False:=fun b hb=>by
   refine wpOrC (wpB (wpL B rfl (KtI (wpB (wpR (KtI (wpB (wpEqI (KtI (wpTb ?_)))))))))) 
   rw [hb,Bool.false_or]
   cases z:((c:Int)==127) with
   | true=>rw [if_pos rfl];exact ⟨rfl,rfl⟩
   | false=>rw [if_neg Bool.false_ne_true,wp_allB_nil];exact ⟨rfl,rfl⟩
  refine wpOrC (wpAndC (wpB (wpL B rfl (KtI (wpB (wpR (KtI (wpB (wpLtI (KtI (wpTb ?_)))))))))))
  cases decide ((c:Int)<32) with
  | false=>rw [if_neg Bool.false_ne_true,if_neg Bool.false_ne_true];exact last _ rfl
  | true=>
   rw [if_pos rfl]
   refine wpAndC (wpB (wpL B rfl (KtI (wpB (wpR (KtI (wpB (wpNeI (KtI (wpTb ?_)))))))))) 
   cases z:((c:Int)==9) with
   | true=>rw [Bool.not_true,if_neg Bool.false_ne_true,if_neg Bool.false_ne_true];exact last _ rfl
   | false=>rw [Bool.not_false,if_pos rfl,wp_allB_nil,if_pos (by rfl)];exact ⟨rfl,rfl⟩
 ·obtain ⟨e1,e2,_⟩:=Gh q
  refine wpB (wpB (wpB (wpR (KtI (wpB (wpB (wpDC (KtI (wpO rfl ?_))))))))) 
  walk_at "wp"
  ·exact (by decide:3<=big)
  refine wpGetC ?_
  walk_at "wp"
  ·have:_<=200:=e1▸e2
   rw [List.length_append] at this
   exact Az (Nat.le_trans (Nat.le_trans (Nat.le_add_right _ _) this) (by decide))
  ·have:_<=200:=e1▸e2
   exact Az (Nat.le_trans this (by decide))
  refine ⟨rfl,Eg++A3 [c],0,c,1,st,List.prefix_refl _,.ctl c92 q,?_⟩
  rw [<- e1]
  exact (B.set 9 _ |> At.mk _ rfl)
 ·exact wpR ⟨rfl,[],0,c,1,st,List.prefix_refl _,.raw c92 q,.mk _ rfl B⟩
end
private theorem Dr {a b:Txt}(h:okT a)(k:okT b):okT (a++b):=fun c m=>(List.mem_append.mp m).elim (h c) (k c)
private theorem okT_of {a:Txt}(h:a.all (fun c=>decide (c<=1114111))=true):okT a:=fun c m=>of_decide_eq_true (List.all_eq_true.mp h c m)
private theorem Ly (i:Int):okT (Bq i):=by
 unfold Bq
 rw [Str.ofString_eq_toList]
 intro c m
 obtain ⟨d,_,rfl⟩:=List.mem_map.mp (show c∈(toString i).toList.map Char.toNat from m)
 have:=d.valid
 unfold UInt32.isValidChar Nat.isValidChar at this
 show d.val.toNat<=_
 lia
private theorem QJ {x w:Txt}{p:Nat}(h:okT w):okT (Cc x p w):=by
 unfold Cc
 refine Dr (Dr (Dr h (okT_of (by decide))) ?_) (okT_of (by decide))
 unfold Ct
 split
 ·exact okT_of (by decide)
 ·exact Dr (Dr (Dr (okT_of (by decide)) (Ly _)) (okT_of (by decide))) (Ly _)
private theorem Lz {st:List (List PV)}{loc:Nat->Option PV}{a b:Nat}{w:Txt}(ha:st[a]? = some [.str w])(hb:st[b]? = some [.str w])(hw:okT w):eqP (.lst a) (.lst b) ⟨loc,st⟩ = .ok true ⟨loc,st⟩:=by
 have s1:SeqAt.shaped (.list [.str (txt w)])=true:=by
  unfold SeqAt.shaped
  simp [PyData.canLay0,PyData.canLayAll0,Q8 hw,PyData.depth,PyData.depthAll]
 exact OY rfl (Lv ha rfl) (Lv hb rfl) s1 s1 (by simp [PyData.eqv,PyData.eqvAll])
noncomputable def Bd (t:Txt)(u:Nat):Prop:=∀ c,t[u]? = some c->run t u % 2=0\/(c≠34/\c≠92)
noncomputable def Jk (c:Nat):Txt:=if c=92 then [92,92] else [92,117,48,48]++C4 c
noncomputable def Cf (c:Nat)(r w:Txt)(sp:Nat):Txt:=if w=[] then (c::r).take sp else Jk c
inductive FaultR (c:Nat)(r w:Txt)(k:Nat):Prop
 | esc:c=92->EscF r w k->FaultR c r w k
 | ctl:c≠92->AM 0 c=true->w=Eg++A3 [c]->k=0->FaultR c r w k
structure Fix (t:Txt)(e i c:Nat)(r w:Txt)(k d sp:Nat):Prop where
 sd:AT d
 un:UnitOf d (Cf c r w sp)
 ul:(Cf c r w sp).length<=10
 lt:i<i+sp
 le:i+sp<=e
 bd:Bd t (i+sp)
 wl:w.length<=200
 kl:k<=10
 n34:c≠34
 bad:w≠[]->FaultR c r w k/\okT w
private theorem Pg {r w:Txt}{k:Nat}(f:EscF r w k):okT w:=by
 cases f <;> exact okT_of (by decide)
private theorem MW {r w:Txt}{k d:Nat}(f:EscF r w k)(h:r.take 1=[d]):d≠34/\d≠92:=by
 have ud:∀ {a n:Nat},r.take 1=[a]->UD a n->d≠34/\d≠92:=fun {a n} e z=>by
  obtain rfl:a=d:=(List.cons.inj (e.symm.trans h)).1
  rcases z with ⟨rfl,_⟩ | ⟨rfl,_⟩ <;> decide
 cases f with
 | name a _ _=>
  rw [h] at a
  exact ⟨fun z=>by subst z;exact absurd a (by decide),fun z=>by subst z;exact absurd a (by decide)⟩
 | hex a b _=>exact ud a b
 | uni a b _ _ _ _=>exact ud a b
private theorem Ph {t r w:Txt}{e i c k d sp:Nat}(sc:∀ c∈t,AT c)(h:t.drop i=c::r)(lt:i<e)(le:e<=t.length)(nm:∀ j<e,¬ H0 t j)(em:e=t.length\/H0 t e)(bd:Bd t i)(s:StepR c r w k d sp):Fix t e i c r w k d sp:=by
 have h0:t[i]? = some c:=Bx h
 have scc:AT c:=sc c (List.mem_of_getElem? h0)
 have c34:c≠34:=fun z=>by
  subst z
  rcases bd _ h0 with q | q
  ·exact nm i lt ⟨h0,q⟩
  ·exact q.1 rfl
 have one:c≠92->Bd t (i+1):=fun z a U=>.inl (by rw [KJ h0 z])
 cases s with
 | @esc w k d sp e92 n=>
  subst e92
  have ev:run t i % 2=0:=by
   rcases bd _ h0 with q | q
   ·exact q
   ·exact absurd rfl q.2
  cases n with
  | @ok unit rest d hu un hs ul=>
   have fx:Cf 92 r [] unit.length=unit:=by unfold Cf;rw [if_pos rfl,hu,List.take_left]
   obtain ⟨v,rfl⟩:∃ v,unit=92::v:=by
    rcases G7 un with ⟨rfl,_,_,z⟩ | ⟨v,e,_⟩
    ·exact absurd (List.cons.inj hu).1.symm z
    ·exact ⟨v,e⟩
   have h':t.drop i=92::(v++rest):=h.trans hu
   have ⟨no,ev'⟩:=MU h' un ev
   have ll:(t.drop i).length=((92::v)++rest).length:=by rw [h'];rfl
   rw [List.length_drop,List.length_append] at ll
   refine ⟨hs,by rw [fx];exact un,by rw [fx];exact ul,Nat.lt_add_of_pos_right (Nat.succ_pos _),Nat.le_of_not_lt fun z=>?_,fun U U=>.inl ev',by decide,by decide,c34,fun z=>absurd rfl z⟩
   rcases em with q | q
   ·lia
   ·exact no e (Nat.le_of_lt lt) z q
  | bad f wn wl kl=>
   have fx:Cf 92 r w 1=[92,92]:=by unfold Cf Jk;rw [if_neg wn,if_pos rfl]
   refine ⟨scc,by rw [fx];exact .short (by decide) (by decide) (by decide),by rw [fx];decide,Nat.lt_succ_self _,lt,fun a q=>?_,wl,kl,c34,fun U=>⟨.esc rfl f,Pg f⟩⟩
   have:r.take 1=[a]:=by
    have q:(t.drop i)[1]? = some a:=by rw [List.getElem?_drop];exact q
    rw [h] at q
    cases r with
    | nil=>cases q
    | cons b r=>exact congrArg (fun z=>[z]) (Option.some.inj q)
   exact .inr (MW f this)
 | ctl c92 q=>
  have ⟨e1,e2,e3,e4,e5⟩:=Gh q
  have wn:Eg++A3 [c]≠[]:=fun z=>by cases z
  have fx:Cf c r (Eg++A3 [c]) 1=92::117::([48,48]++C4 c):=by unfold Cf Jk;rw [if_neg wn,if_neg c92];rfl
  have ok:okT (Eg++A3 [c]):=okT_of ((by decide +kernel:∀ c<128,AM 0 c=true->(Eg++A3 [c]).all (fun c=>decide (c<=1114111))=true) c (Pe q) q)
  exact ⟨scc,by rw [fx];exact .four rfl e5 e4,by rw [fx];exact (by decide:6<=10),Nat.lt_succ_self _,lt,one c92,e2,by decide,c34,fun U=>⟨.ctl c92 q rfl rfl,ok⟩⟩
 | raw c92 q=>
  have fx:Cf c r [] 1=[c]:=if_pos rfl
  refine ⟨scc,?_,by rw [fx];exact (by decide:1<=10),Nat.lt_succ_self _,lt,one c92,by decide,by decide,c34,fun z=>absurd rfl z⟩
  rw [fx]
  refine .raw ?_ c34 c92
  unfold F6
  have q:((decide (c<32)||c==127)&&c != 9)=false:=q
  by_cases h1:c=9
  ·subst h1;rfl
  ·rw [show (c != 9)=true from bne_iff_ne.mpr h1,Bool.and_true,Bool.or_eq_false_iff] at q
   have a:=of_decide_eq_false q.1
   rw [show (c != 127)=true by rw [bne,q.2];rfl,decide_eq_true (by lia:32<=c),Bool.or_true];rfl
section
variable {loc:Nat->Option PV}{st:List (List PV)}{Q:PV->PS->Prop}{E:PX->PS->Prop}
noncomputable abbrev tLs (t:Txt)(e:Nat)(hd dn tx:Txt)(u:Nat)(i w k m sp nu fi me:Option PV)(src:Txt):Tb:=[none,some (.str t),none,some (.int e),some (.str hd),some (.str dn),some (.str tx),some (.int u),i,w,k,m,sp,nu,fi,me,some (.str src)]
private theorem SE {t hd dn tx w d src fg me:Txt}{c i e u k sp:Nat}{L:Nat->Option PV}(rd:∀ (st:List (List PV)) (L:Nat->Option PV) (Q':PV->PS->Prop) (E':PX->PS->Prop),E' (.toml (Cc src (dn.length+k) w)) ⟨L,st⟩->wp (M.call (Ae Kx) [.str src,.int (hd.length:Nat)]) ⟨L,st⟩ Q' E')
  (hs:src.length<=900000) (hw:w.length<=200) (ok:okT w) (l1:hd.length<=1000) (l2:dn.length<=900000) (B:Loc (tLs t e hd dn tx u (some (.int i)) (some (.str w)) (some (.int (k:Nat))) (some (.str d)) (some (.int (sp:Nat))) (some (.int c)) (some (.str fg)) (some (.str me)) src) L) :
  wp (M.bind ((M.bind ((M.bind (M.seq [M.getL 16,(M.bind (M.seq [M.getL 4]) BC)]) (M.call (AL Kx)))) fun x91=>M.bind ((M.bind (M.seq [M.getL 16,(M.bind ((M.bind (M.seq [M.getL 5]) BC)) fun x89=>M.bind (M.getL 10) fun x90=>Ap .Add x89 x90),M.getL 9]) (M.call (BL Kx)))) fun x92=>M.bind (AA .NotEq x91 x92) tst)) fun c=>if c then (M.bind (M.ret (.bool false)) fun x93=>M.ret (.ret x93)) else (M.ret PFlow.next)) ⟨L,st⟩
   (fun f s'=>f=PFlow.next/\∃ st',At st' (tLs t e hd dn tx u (some (.int i)) (some (.str w)) (some (.int (k:Nat))) (some (.str d)) (some (.int (sp:Nat))) (some (.int c)) (some (.str fg)) (some (.str me)) src) s') fun U U=>False:=by
 walk_at "wp"
 ·exact Az (Nat.le_trans l1 (by decide))
 refine Gc (fun L Q' E'=>rd _ L Q' E') fun st1 a p1 h1=>?_
 walk_at "wp"
 ·exact Az (Nat.le_trans l2 (by decide))
 refine MN (p:=dn.length+k) (Nat.le_trans hs (by decide)) (Nat.le_trans hw (by decide)) fun st2 b p2 h2=>?_
 walk_at "wp"
 refine wp_ne (Lz (HY p2 h1) h2 (QJ ok)) ?_
 exact KtI (wpTb (KtI (wpR ⟨rfl,st2,.mk _ rfl B⟩)))
private theorem Pi {hd dn tx w r src:Txt}{ts:List Txt}{c k:Nat}(hs:src=dn++c::r)(hl:src.length<=90000)(hdn:dn=hd++34::ts.flatten)(un:Units tx ts)(n34:c≠34)(F:FaultR c r w k)
  (st:List (List PV)) (L:Nat->Option PV) (Q':PV->PS->Prop) (E':PX->PS->Prop) (hE:E' (.toml (Cc src (dn.length+k) w)) ⟨L,st⟩):wp (M.call (Ae Kx) [.str src,.int (hd.length:Nat)]) ⟨L,st⟩ Q' E':=by
 have h1:src.drop hd.length=34::(ts.flatten++c::r):=by rw [hs,hdn,List.append_assoc,List.drop_left];rfl
 have h2:src.drop dn.length=c::r:=by rw [hs,List.drop_left]
 have e:hd.length+1+ts.flatten.length=dn.length:=by rw [hdn];simp;lia
 have hK:src.length+1<Kx:=Nat.lt_of_le_of_lt (Nat.succ_le_succ hl) (Nat.lt_trans (by decide) CY)
 cases F with
 | esc c92 f=>
  subst c92
  exact O4 (Nat.le_trans hl (by decide)) hK un h1 (by rw [e];exact O8 f (Nat.le_trans hl (by decide)) h2) hE
 | ctl c92 q ew ek=>
  subst ew ek
  have ⟨_,_,e3,_⟩:=Gh q
  exact O5 (Nat.le_trans hl (by decide)) hK un h1 q n34 c92 e3 (by rw [e];exact hE)
private theorem RY {t hd dn tx w d r:Txt}{ts:List Txt}{c i e u k sp:Nat}{L:Nat->Option PV}(h:t.drop i=c::r)(ht:t.length<=800)(l1:hd.length<=1000)(l2:dn.length<=10000)(hdn:dn=hd++34::ts.flatten)(un:Units tx ts)(wl:w.length<=200)(kl:k<=10)(n34:c≠34)(bad:w≠[]->FaultR c r w k/\okT w)
  (B:Loc (tLw t e hd dn tx u (some (.int i)) (some (.str w)) (some (.int (k:Nat))) (some (.str d)) (some (.int (sp:Nat))) (some (.int c)) (some (.str (C4 c))) (some (.str ((c::r).take sp)))) L) :
  wp (M.bind ((M.bind (M.getL 9) fun x81=>M.bind (M.ret (.str [])) fun x82=>M.bind (AA .NotEq x81 x82) tst)) fun c=>if c then (M.thenS (M.bind ((M.bind (M.getL 5) fun x86=>M.bind ((M.bind (M.getL 1) fun x83=>M.bind (AP (some (M.getL 8))) fun x84=>M.bind (AP none) fun x85=>A6 x84 x85 x83)) fun x87=>Ap .Add x86 x87)) fun x88=>M.bind (M.setL 16 x88) fun U=>M.ret PFlow.next)
  (M.thenS (M.bind ((M.bind ((M.bind (M.seq [M.getL 16,(M.bind (M.seq [M.getL 4]) BC)]) (M.call (AL Kx)))) fun x91=>M.bind ((M.bind (M.seq [M.getL 16,(M.bind ((M.bind (M.seq [M.getL 5]) BC)) fun x89=>M.bind (M.getL 10) fun x90=>Ap .Add x89 x90),M.getL 9]) (M.call (BL Kx)))) fun x92=>M.bind (AA .NotEq x91 x92) tst)) fun c=>if c then (M.bind (M.ret (.bool false)) fun x93=>M.ret (.ret x93)) else (M.ret PFlow.next))
  (M.bind ((M.bind ((M.bind ((M.bind (M.getL 1) fun x94=>M.bind (M.getL 8) fun x95=>Ax false x94 x95)) fun x96=>M.bind (M.ret (.str [92])) fun x97=>M.bind (AA .Eq x96 x97) tst)) fun c=>if c then M.ret (.str [92,92]) else (M.bind (M.ret (.str [92,117,48,48])) fun x98=>M.bind (M.getL 14) fun x99=>Ap .Add x98 x99))) fun x100=>M.bind (M.setL 15 x100) fun U=>M.ret PFlow.next))) else (M.ret PFlow.next)) ⟨L,st⟩
   (fun f s'=>f=PFlow.next/\∃ st',At st' (tLw t e hd dn tx u (some (.int i)) (some (.str w)) (some (.int (k:Nat))) (some (.str d)) (some (.int (sp:Nat))) (some (.int c)) (some (.str (C4 c))) (some (.str (Cf c r w sp)))) s') fun U U=>False:=by
 have lt:=Bf h
 have hc:t.getD i 0=c:=by rw [List.getD_eq_getElem?_getD,Bx h];rfl
 refine A7 (c:=!(w==[])) (wpB (wpL B rfl (KtI (wpB (wpR (KtI (wpB (wpNeS (KtI (wpTb ⟨rfl,rfl⟩)))))))))) (fun q=>?_) fun q=>?_
 ·have wn:w≠[]:=ne_of_beq_false (notT q)
  obtain ⟨F,ok⟩:=bad wn
  have ld:(t.drop i).length<=800:=Nat.le_trans (by rw [List.length_drop];exact Nat.sub_le ..) ht
  have ls:(dn++t.drop i).length<=10800:=by rw [List.length_append];exact Nat.add_le_add l2 ld
  refine wpA st (tLs t e hd dn tx u (some (.int i)) (some (.str w)) (some (.int (k:Nat))) (some (.str d)) (some (.int (sp:Nat))) (some (.int c)) (some (.str (C4 c))) (some (.str ((c::r).take sp))) (dn++t.drop i)) ?_ fun L B=>?_
  ·walk_at "wp"
   refine wpSl Jf (Az (Nat.le_trans ld (by decide))) ?_
   walk_at "wp"
   ·exact Az (Nat.le_trans ls (by decide))
   exact ⟨rfl,(B.set 16 _ |> At.mk _ rfl)⟩
  refine wpN (fun s'=>∃ st',At st' (tLs t e hd dn tx u (some (.int i)) (some (.str w)) (some (.int (k:Nat))) (some (.str d)) (some (.int (sp:Nat))) (some (.int c)) (some (.str (C4 c))) (some (.str ((c::r).take sp))) (dn++t.drop i)) s') (SE (Pi (by rw [h]) (Nat.le_trans ls (by decide)) hdn un n34 F) (Nat.le_trans ls (by decide)) wl ok l1 (Nat.le_trans l2 (by decide)) B) ?_
  rintro s' ⟨st',⟨L,rfl,B⟩⟩
  refine wpB (A7 (c:=(c==92)) ?_ (fun z=>?_) fun z=>?_)
  ·refine wpB (wpB (wpL B rfl (KtI (wpB (wpL B rfl (KtI (wpIt (AU (Nat.lt_of_lt_of_le lt (Nat.le_trans ht (by decide)))) (Gy lt) ?_)))))))
   rw [hc]
   walk_at "wp"
   refine ⟨?_,rfl⟩
   cases z:(c==92) with
   | true=>rw [eq_of_beq z];rfl
   | false=>exact beq_eq_false_iff_ne.mpr fun y=>ne_of_beq_false z (List.cons.inj y).1
  ·have:Cf c r w sp=[92,92]:=by unfold Cf Jk;rw [if_neg wn,if_pos (eq_of_beq z)]
   rw [this]
   walk_at "wp"
   exact ⟨rfl,st',((B.set 15 _).drop 16 |> At.mk _ rfl)⟩
  ·have:Cf c r w sp=[92,117,48,48]++C4 c:=by unfold Cf Jk;rw [if_neg wn,if_neg (ne_of_beq_false z)]
   rw [this]
   walk_at "wp"
   ·exact (by decide:6<=big)
   exact ⟨rfl,st',((B.set 15 _).drop 16 |> At.mk _ rfl)⟩
 ·have w0:w=[]:=by
   cases z:(w==[]) with
   | true=>exact eq_of_beq z
   | false=>rw [z] at q;cases q
  have:Cf c r w sp=(c::r).take sp:=if_pos w0
  rw [this]
  exact wpR ⟨rfl,st,.mk _ rfl B⟩
end
section
variable {st:List (List PV)}
theorem wpDig {n:Nat}{s:PS}{Q:PV->PS->Prop}{E:PX->PS->Prop}(h:n<16)(k:Q (.str [G8.getD n 0]) s):wp (Ax false (.str G8) (.int n)) s Q E:=wpIt (AU (Nat.lt_trans h (by decide))) (Gy h) k
private theorem SF {t hd dn tx:Txt}{e u c:Nat}{i w k m sp:Option PV}{L:Nat->Option PV}(B:Loc (tLw t e hd dn tx u i w k m sp (some (.int c)) none none) L) :
  wp (M.bind ((M.bind ((M.bind (M.ret (.str [48,49,50,51,52,53,54,55,56,57,97,98,99,100,101,102])) fun x47=>M.bind ((M.bind ((M.bind (M.getL 13) fun x43=>M.bind (M.ret (.int 16)) fun x44=>Ap .FloorDiv x43 x44)) fun x45=>M.bind (M.ret (.int 16)) fun x46=>Ap .Mod x45 x46)) fun x48=>Ax false x47 x48)) fun x53=>M.bind ((M.bind (M.ret (.str [48,49,50,51,52,53,54,55,56,57,97,98,99,100,101,102])) fun x51=>M.bind ((M.bind (M.getL 13) fun x49=>M.bind (M.ret (.int 16)) fun x50=>Ap .Mod x49 x50)) fun x52=>Ax false x51 x52)) fun x54=>Ap .Add x53 x54)) fun x55=>M.bind (M.setL 14 x55) fun U=>M.ret PFlow.next) ⟨L,st⟩ (fun f s'=>f=PFlow.next/\At st (tLw t e hd dn tx u i w k m sp (some (.int c)) (some (.str (C4 c))) none) s') fun U U=>False:=by
 have h1:c / 16 % 16<16:=Nat.mod_lt _ (by decide)
 have h2:c % 16<16:=Nat.mod_lt _ (by decide)
 walk_at "wp"
 rw [show (c:Int).fdiv 16=((c / 16:Nat):Int) from F7 c 16,show ((c / 16:Nat):Int).fmod 16=((c / 16 % 16:Nat):Int) from Cb (c / 16) 16]
 refine wpDig h1 ?_
 walk_at "wp"
 rw [show (c:Int).fmod 16=((c % 16:Nat):Int) from Cb c 16]
 refine wpDig h2 ?_
 walk_at "wp"
 ·exact (by decide:2<=big)
 exact ⟨rfl,(B.set 14 _ |> At.mk _ rfl)⟩
inductive Go (t hd:Txt)(e k:Nat)(s:PS):Prop
 | mk (st':List (List PV)) (dn tx:Txt) (ts:List Txt) (u:Nat) (hdn:dn=hd++34::ts.flatten) (un:Units tx ts) (ku:k<=u) (ue:u<=e) (bd:Bd t u) (tl:ts.flatten.length<=10*u) (xl:tx.length<=u) (a:At st' (tLw t e hd dn tx u none none none none none none none none) s):Go t hd e k s
structure Law1 (t hd:Txt)(e:Nat):Prop where
 sc:∀ c∈t,AT c
 tl:t.length<=800
 hl:hd.length<=30
 le:e<=t.length
 nm:∀ j,j<e->¬ H0 t j
 em:e=t.length\/H0 t e
private theorem RZ {t hd:Txt}{e k:Nat}{s:PS}(W:Law1 t hd e)(g:Go t hd e k s)(lt:k<e):wp (M.setL 8 (.int k)) s (fun U s'=>wp (DK Kx) s' (fun f s''=>(f = .next\/f = .cont)/\Go t hd e (k+1) s'') fun U U=>False) fun U U=>False:=by
 obtain ⟨st,dn,tx,ts,u,hdn,un,ku,ue,bd,tl,xl,⟨L,rfl,B⟩⟩:=g
 have lk:k<t.length:=Nat.lt_of_lt_of_le lt W.le
 refine wpSet ?_
 have B0:=B.set 8 (.int k)
 unfold DK
 refine wpTh (A7 (c:=decide (k<u)) ?_ (fun q=>?_) fun q=>?_)
 ·walk_at "wp"
  exact ⟨decide_eq_decide.mpr Int.ofNat_lt,rfl⟩
 ·have q:=of_decide_eq_true q
  refine wpR (show (PFlow.cont=PFlow.next\/PFlow.cont=PFlow.cont)/\Go t hd e (k+1) _ from ⟨.inr rfl,?_⟩)
  exact Go.mk st dn tx ts u hdn un q ue bd tl xl (.mk _ rfl (B0.drop 8))
 obtain rfl:k=u:=Nat.le_antisymm ku (Nat.le_of_not_lt (of_decide_eq_false q))
 refine wpR (KnI ?_)
 obtain ⟨c,r,h⟩:∃ c r,t.drop k=c::r:=⟨_,_,List.drop_eq_getElem_cons lk⟩
 have hc:t.getD k 0=c:=by rw [List.getD_eq_getElem?_getD,Bx h];rfl
 have sk:=AU (i:=(k:Int)) (Nat.lt_of_lt_of_le lk (Nat.le_trans W.tl (by decide)))
 refine wpA st (tLw t e hd dn tx k (some (.int k)) (some (.str [])) (some (.int (0:Nat))) (some (.str [c])) (some (.int (1:Nat))) none none none) ?_ fun L B=>?_
 ·walk_at "wp"
  refine wpIt sk (Gy lk) ?_
  rw [hc]
  walk_at "wp"
  ·exact (by decide:4<=big)
  refine wpU4 (KtI (wpR ⟨rfl,?_⟩))
  exact ((((B0.set 9 _).set 10 _).set 11 _).set 12 _ |> At.mk _ rfl)
 refine wpA st (tLw t e hd dn tx k (some (.int k)) (some (.str [])) (some (.int (0:Nat))) (some (.str [c])) (some (.int (1:Nat))) (some (.int c)) none none) ?_ fun L B=>?_
 ·walk_at "wp"
  refine wpIt sk (Gy lk) ?_
  rw [hc]
  walk_at "wp"
  exact ⟨rfl,(B.set 13 _ |> At.mk _ rfl)⟩
 refine wpA st _ (SF B) fun L B=>?_
 refine wpN _ (SD W.tl h B) ?_
 rintro s' ⟨w,n,d,sp,st',_,S,⟨L,rfl,B⟩⟩
 have F:=Ph W.sc h lt W.le W.nm W.em bd S
 have hr:(c::r).length<=800:=by rw [<- h,List.length_drop];exact Nat.le_trans (Nat.sub_le ..) W.tl
 refine wpA st' (tLw t e hd dn tx k (some (.int k)) (some (.str w)) (some (.int (n:Nat))) (some (.str [d])) (some (.int (sp:Nat))) (some (.int c)) (some (.str (C4 c))) (some (.str ((c::r).take sp)))) ?_ fun L B=>?_
 ·walk_at "wp"
  refine wpSl (Dh (n:=sp) (Nat.le_of_lt lk)) ?_ ?_
  ·exact Az (Nat.le_trans (Nat.le_trans (by rw [List.length_take];exact Nat.min_le_right ..) (h▸hr)) (by decide))
  rw [h]
  walk_at "wp"
  exact ⟨rfl,(B.set 15 _ |> At.mk _ rfl)⟩
 have dl:dn.length=hd.length+1+ts.flatten.length:=by rw [hdn];simp;lia
 have hl:=W.hl
 have wtl:=W.tl
 refine wpN _ (RY h W.tl (Nat.le_trans W.hl (by decide)) (by lia) hdn un F.wl F.kl F.n34 F.bad B) ?_
 rintro s' ⟨st',⟨L,rfl,B⟩⟩
 have fl:=F.ul
 have kl:k<800:=Nat.lt_of_lt_of_le lk wtl
 refine wpA st' (tLw t e hd (dn++Cf c r w sp) tx k (some (.int k)) (some (.str w)) (some (.int (n:Nat))) (some (.str [d])) (some (.int (sp:Nat))) (some (.int c)) (some (.str (C4 c))) (some (.str (Cf c r w sp)))) ?_ fun L B=>?_
 ·walk_at "wp"
  ·exact Cs (a:=9000) (b:=10) (by lia) fl (by decide)
  exact ⟨rfl,(B.set 5 _ |> At.mk _ rfl)⟩
 refine wpA st' (tLw t e hd (dn++Cf c r w sp) (tx++[d]) k (some (.int k)) (some (.str w)) (some (.int (n:Nat))) (some (.str [d])) (some (.int (sp:Nat))) (some (.int c)) (some (.str (C4 c))) (some (.str (Cf c r w sp)))) ?_ fun L B=>?_
 ·walk_at "wp"
  ·exact Cs (a:=9000) (b:=10) (by lia) (show 1<=10 by decide) (by decide)
  exact ⟨rfl,(B.set 6 _ |> At.mk _ rfl)⟩
 walk_at "wp"
 refine ⟨.inl rfl,.mk st' (dn++Cf c r w sp) (tx++[d]) (ts++[Cf c r w sp]) (k+sp) ?_ (un.snoc F.sd F.un) F.lt F.le F.bd ?_ ?_ ?_⟩
 ·rw [hdn];simp
 ·rw [List.flatten_append,List.length_append]
  have:[Cf c r w sp].flatten.length<=10:=by rw [List.flatten_cons,List.flatten_nil,List.append_nil];exact fl
  have:=F.lt
  lia
 ·rw [List.length_append]
  have:=F.lt
  show tx.length+1<=_
  lia
 ·exact ((B.set 7 (.int ((k+sp:Nat):Int))) |>.drop 8 |>.drop 9 |>.drop 10 |>.drop 11 |>.drop 12 |>.drop 13 |>.drop 14 |>.drop 15 |> At.mk _ rfl)
theorem wpMS {a:Txt}{k:Int}{s:PS}{Q:PV->PS->Prop}{E:PX->PS->Prop}(c:Ai k=true)(l:((List.replicate k.toNat a).flatten).length<=big)(h:Q (.str (List.replicate k.toNat a).flatten) s):wp (Ap .Mult (.str a) (.int k)) s Q E:=by
 show wp (M.orStuck (Ai k) (M.str (List.replicate k.toNat a).flatten)) s Q E
 exact wpO c (wp_str▸⟨l,h⟩)
private theorem Units.okT {cs:Txt}{ts:List Txt}(h:Units cs ts):okT cs:=by
 induction h with
 | nil=>exact fun U m=>(by cases m)
 | cons hc _ _ ih=>
  intro c m
  rcases List.mem_cons.mp m with rfl | m
  ·unfold AT at hc;lia
  ·exact ih c m
noncomputable abbrev tZ1 (t:Txt)(m e hd dn tx u:Option PV):Tb:=[none,some (.str t),m,e,hd,dn,tx,u,none,none,none,none,none,none,none,none,none]
private theorem KN {l:List Int}(hl:l.length<=63):wp (G2 Kx) ⟨loc0 [.ints l],[]⟩ (fun f U=>f = .ret (.bool true)) fun U U=>False:=by
 unfold G2
 have B:=Loc.init [.ints l] 16
 generalize loc0 [PV.ints l]=L at B
 have lb:l.length<=big:=Az (Nat.le_trans hl (by decide))
 refine wpN (fun s=>∃ t st,(∀ c∈t,AT c)/\t.length<=800/\At st [some (.ints l),some (.str t),none,none,none,none,none,none,none,none,none,none,none,none,none,none,none] s) ?_ ?_
 ·walk_at "wp"
  refine Ji hl fun t st' U sc tl=>?_
  walk_at "wp"
  exact ⟨rfl,t,st',sc,tl,(B.set 1 _ |> At.mk _ rfl)⟩
 clear B
 rintro _ ⟨t,st,sc,tl,⟨L,rfl,B⟩⟩
 have tb:t.length<=big:=Az (Nat.le_trans tl (by decide))
 obtain ⟨ms,em⟩:∃ ms,ms=(List.range t.length).filter (Di t):=⟨_,rfl⟩
 have ml:ms.length<=800:=by rw [em];exact Nat.le_trans (List.length_filter_le ..) (by rw [List.length_range];exact tl)
 refine wpA (st++[ms.map fun i=>.int (i:Nat)]) [some (.ints l),some (.str t),some (.lst st.length),none,none,none,none,none,none,none,none,none,none,none,none,none,none] ?_ fun L B=>?_
 ·refine wpB (KM tl (B 1 _ rfl) ?_)
  walk_at "wp"
  rw [em]
  exact ⟨rfl,(B.set 2 _ |> At.mk _ rfl)⟩
 obtain ⟨e,he,le,nm,ee⟩:=KK (Di t) t.length
 rw [<- em] at he
 refine wpN (fun s=>∃ st,At st [some (.ints l),some (.str t),none,some (.int (e:Nat)),none,none,none,none,none,none,none,none,none,none,none,none,none] s) ?_ ?_
 ·walk_at "wp"
  ·exact tb
  ·exact (by decide:1<=big)
  refine wp_addL (x:=ms.map fun i=>.int (i:Nat)) (y:=[.int (t.length:Nat)]) (HY (HX _) Bn) Bn (by rw [List.length_append,List.length_map];exact Nat.le_trans (Nat.add_le_add_right ml 1) (by decide)) ?_
  walk_at "wp"
  have hv:((ms.map fun i=>PV.int (i:Nat))++[.int (t.length:Nat)])[0]? = some (.int (e:Nat)):=by
   have:(ms++[t.length]).map (fun i=>PV.int (i:Nat))=(ms.map fun i=>PV.int (i:Nat))++[.int (t.length:Nat)]:=by rw [List.map_append];rfl
   rw [<- this,List.getElem?_map,he];rfl
  refine wpItL (j:=0) rfl (Bn (l:=(ms.map fun i=>PV.int (i:Nat))++[.int (t.length:Nat)])) (Gy (List.getElem?_eq_some_iff.mp hv).1) hv ?_
  walk_at "wp"
  exact ⟨rfl,_,((B.set 3 _).drop 2 |> At.mk _ rfl)⟩
 clear B
 rintro _ ⟨st,⟨L,rfl,B⟩⟩
 refine wpN (fun s=>∃ hd:Txt,hd.length<=30/\At st (tZ1 t none (some (.int (e:Nat))) (some (.str hd)) none none none) s) ?_ ?_
 ·walk_at "wp"
  rw [wp_lenI]
  refine ⟨decide_eq_true lb,?_⟩
  walk_at "wp"
  rw [show (l.length:Int).fmod 3=((l.length % 3:Nat):Int) from Cb l.length 3]
  have m3:l.length % 3<3:=Nat.mod_lt _ (by decide)
  generalize l.length % 3=n at m3
  have rl:(List.replicate (n:Int).toNat [34,39,13,32,61,32,49,10]).flatten.length<=16:=by
   exact (by decide:∀ n<3,(List.replicate n ([34,39,13,32,61,32,49,10]:Txt)).flatten.length<=16) n m3
  refine wpMS (AU (Nat.lt_trans m3 (by decide))) (Az (Nat.le_trans rl (by decide))) ?_
  walk_at "wp"
  ·exact Cs rl (show _<=6 by decide) (by decide)
  refine ⟨rfl,_,?_,((B.set 4 _).drop 0 |> At.mk _ rfl)⟩
  rw [List.length_append]
  exact Nat.add_le_add rl (by decide:6<=14)
 clear B
 rintro _ ⟨hd,hl,⟨L,rfl,B⟩⟩
 refine wpA st (tZ1 t none (some (.int (e:Nat))) (some (.str hd)) (some (.str (hd++[34]))) none none) ?_ fun L B=>?_
 ·walk_at "wp"
  ·exact Cs hl (show _<=1 by decide) (by decide)
  exact ⟨rfl,(B.set 5 _ |> At.mk _ rfl)⟩
 refine wpA st (tZ1 t none (some (.int (e:Nat))) (some (.str hd)) (some (.str (hd++[34]))) (some (.str [])) none) ?_ fun L B=>?_
 ·walk_at "wp"
  exact ⟨rfl,(B.set 6 _ |> At.mk _ rfl)⟩
 refine wpA st (tZ1 t none (some (.int (e:Nat))) (some (.str hd)) (some (.str (hd++[34]))) (some (.str [])) (some (.int (0:Nat)))) ?_ fun L B=>?_
 ·walk_at "wp"
  exact ⟨rfl,(B.set 7 _ |> At.mk _ rfl)⟩
 have W:Law1 t hd e:=⟨sc,tl,hl,le,fun j lt z=>Bool.false_ne_true ((nm j lt).symm.trans ((Jj (Nat.lt_of_lt_of_le lt le)).mpr z)),ee.elim .inl fun z=>by
  by_cases q:e=t.length
  ·exact .inl q
  ·exact .inr ((Jj (Nat.lt_of_le_of_ne le q)).mp z)⟩
 refine wpN (Go t hd e e) ?_ ?_
 ·walk_at "wp"
  rw [wp_range (Nat.lt_of_le_of_lt (Nat.le_trans le tl) (by decide))]
  refine KtI (wpFor (P:=Go t hd e) (n:=e) (fun k=>.int k) ⟨st,hd++[34],[],[],0,by simp,.nil,Nat.le_refl _,Nat.zero_le _,fun U U=>.inl rfl,Nat.zero_le _,Nat.zero_le _,.mk _ rfl B⟩ (Nat.lt_of_le_of_lt (Nat.le_trans le tl) (Nat.lt_trans (by decide) CY)) (fun k s U lt=>HU lt) (fun s U=>HV) (fun k L st z lt=>RZ W z lt) fun U z=>z)
 clear B
 rintro s ⟨st,dn,tx,ts,u,hdn,un,ku,ue,bd,tsl,xl,⟨L,rfl,B⟩⟩
 obtain rfl:e=u:=Nat.le_antisymm ku ue
 have dl:dn.length=hd.length+1+ts.flatten.length:=by rw [hdn];simp;lia
 have dB:dn.length<=9000:=by lia
 refine wpN (fun s=>∃ st,At st (tLw t e hd dn tx e none none none none none none none none) s) ?_ ?_
 ·refine wpB (wpAndC ?_)
  walk_at "wp"
  ·exact tb
  rw [show ((e:Int)==(t.length:Int))=decide (e=t.length) from isZ]
  by_cases q:e=t.length
  ·rw [decide_eq_true q,if_pos rfl]
   refine wpAndC ?_
   walk_at "wp"
   ·exact Az (Nat.le_trans hl (by decide))
   refine Gc (t:=Cc dn dn.length MI) (fun L Q' E' hE=>O3 (Nat.le_trans dB (by decide)) (Nat.lt_of_le_of_lt (Nat.succ_le_succ dB) (Nat.lt_trans (by decide) CY)) un (by rw [hdn,List.drop_left]) hE) fun st1 a p1 h1=>?_
   have ee:Cc dn dn.length MI=[85,110,116,101,114,109,105,110,97,116,101,100,32,115,116,114,105,110,103,32,40,97,116,32,101,110,100,32,111,102,32,100,111,99,117,109,101,110,116,41]:=by
    unfold Cc Ct
    rw [if_pos (Nat.le_refl _)]
    rfl
   rw [ee] at h1
   walk_at "wp"
   ·exact (by decide:1<=big)
   refine wp_ne (Lz (HY (HX _) h1) Bn (okT_of (by decide))) ?_
   refine KtI (wpTb ?_)
   rw [if_neg Bool.false_ne_true]
   exact KtI (wpR ⟨rfl,_,.mk _ rfl B⟩)
  ·rw [decide_eq_false q,if_neg Bool.false_ne_true]
   exact KtI (wpR ⟨rfl,st,.mk _ rfl B⟩)
 clear B
 rintro _ ⟨st,⟨L,rfl,B⟩⟩
 have rl:(t.drop (e+1)).length<=800:=Nat.le_trans (by rw [List.length_drop];exact Nat.sub_le ..) tl
 have xl:(dn++[34]++t.drop (e+1)).length<=10000:=by rw [List.length_append,List.length_append];exact Nat.le_trans (Nat.add_le_add (Nat.add_le_add_right dB 1) rl) (by decide)
 walk_at "wp"
 ·exact Cs dB (show _<=1 by decide) (by decide)
 refine wpSl (show slc t (some ((e:Int)+1)) none=t.drop (e+1) from Jf (n:=e+1)) (Az (Nat.le_trans rl (by decide))) ?_
 walk_at "wp"
 ·exact Az (Nat.le_trans xl (by decide))
 ·exact Az (Nat.le_trans hl (by decide))
 refine MO (v:=.tup [.int ((hd.length+(ts.flatten.length+2):Nat):Int),.str tx]) (fun L Q' E' hQ=>KG (rest:=t.drop (e+1)) (Nat.le_trans xl (by decide)) (Nat.lt_of_le_of_lt (Nat.succ_le_succ xl) (Nat.lt_trans (by decide) CY)) un ?_ hQ) ?_
 ·rw [hdn];simp
 walk_at "wp"
 ·exact Az (Nat.le_trans dB (by decide))
 ·exact (by decide:2<=big)
 rw [show ((hd.length+(ts.flatten.length+2):Nat):Int)=(dn.length:Int)+1 by rw [dl];lia]
 exact wpEqP (Qx un.okT) (KtI (wpR rfl))
end
private theorem plain_law01 (l:List Int)(hl:l.length<=63):∃ K ps',G2 K ⟨fun i=>([PV.ints l])[i]?,[]⟩ = .ok (.ret (.bool true)) ps':=by
 have h:=KN hl
 unfold wp loc0 at h
 refine ⟨Kx,?_⟩
 cases q:G2 Kx ⟨fun i=>([PV.ints l])[i]?,[]⟩ with
 | ok f s=>rw [q] at h;exact ⟨s,by rw [show f = .ret (.bool true) from h]⟩
 | ex e s=>rw [q] at h;exact h.elim
 | stuck=>rw [q] at h;exact h.elim
end Mi
end
theorem PySem.Challenge.cw_kp0046_01_holds : PySem.Challenge.rw_kp0046_01.Holds := by
  exact Mi.holds01 Mi.plain_law01
