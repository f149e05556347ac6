import PyProof.Rows.All
import Wide.All
import OpenK.AllK
import Wide.FinOn
import PySem.Challenge.RW_wa0036_01
set_option autoImplicit false
set_option Elab.async false
set_option maxRecDepth 100000
set_option linter.unusedVariables false
section
open PySem PySem.W PySem.W.X PyProof.Rows
namespace Mine

structure Vw where
  prog:Program
  w:World
  pt:Params
  pf:Params
  h0:Heap
  kt:KT
  B:List Frame
  bw:List (Code × Pos)
  d:Drawn
  os:OsState

structure Vw.Ok (V:Vw):Prop where
  kt:V.kt.Holds V.h0 1 0
  bw:V.B.map Frame.where_ = V.bw
  hn:∀ b,topHandled.go b V.B = none
  row:V.w.params = V.pt ∨ V.w.params = V.pf

noncomputable def bR {α β:Type} (m:Sem α) (f:α→Sem β):Sem β:=@bind Sem (@Monad.toBind Sem PySem.W.Fast.tw12456147031677567982) α β m f
noncomputable def pR {α:Type} (a:α):Sem α:=@pure Sem (@Applicative.toPure Sem (@Monad.toApplicative Sem PySem.W.Fast.tw12456147031677567982)) α a
noncomputable def forRest (target:PySem.Expr) (it v:Value) (body orelse:List Stmt) (env:Env):Sem PySem.Fin :=
  bR (PySem.W.Fast.tw17772580674575903948 target env v) fun _ =>
  bR (PySem.W.Fast.tw12563942051412417395 body env) fun f =>
  match f with
  | .next=>PySem.W.Fast.tw12377390311714414960 (.forLoop target it body orelse env)
  | .cont=>PySem.W.Fast.tw12377390311714414960 (.forLoop target it body orelse env)
  | .brk=>pR (.done .next)
  | .ret v=>pR (.done (.ret v))
noncomputable def ownNames (n:String):Bool:=W.Fast.tw3471404346716756564 [W.SL.s14340494229221121180x9,W.SL.s14339709457334898076x3,W.SL.s2783514499706994809x17,W.SL.s2223374115958298951x24,W.SL.s4428606184754087035x14,W.SL.s14092991718984965784x21,W.SL.s5947345187589116515x18] n
noncomputable def forHd (env:Env) (x:Value):Sem Unit:=bR (W.Fast.tw17872113653443481271 x env) fun _=>W.Fast.tw1623429502029203251 x
noncomputable def ownDo (r:Addr):Sem Unit:=bR (rule "for.unpacks-the-owned-tuple") fun _=>PySem.W.Fast.tw12367529300394763782 r 0 Value.none
noncomputable def forOwn (target:PySem.Expr) (r:Addr) (v:Value) (body orelse:List Stmt) (env:Env):Sem PySem.Fin :=
  W.R.onRaiseR (bR (ownDo r) fun _=>forRest target (.ref r) v body orelse env) (forHd env)
noncomputable def forLoad (es:List PySem.Expr) (kk:Nat) (p:Pos) (r a:Addr) (body orelse:List Stmt) (env:Env):Sem PySem.Fin :=
  W.R.onRaiseR (bR (PySem.W.Fast.tw1578499551869305889 (.Tuple es kk p) (.ref r) (.ref a)) fun _=>forRest (.Tuple es kk p) (.ref r) (.ref a) body orelse env) (forHd env)
noncomputable def cTgt (e:PySem.Expr):PySem.Expr:=match e with | .ListComp _ (g::_) _ _=>g.target | _=>e
noncomputable def cElt (e:PySem.Expr):PySem.Expr:=match e with | .ListComp x _ _ _=>x | _=>e
noncomputable def compRest (e:PySem.Expr) (depth:Nat) (it v acc:Value) (env:Env):Sem PySem.Fin :=
  bR (PySem.W.Fast.tw17772580674575903948 (cTgt e) env v) fun _ =>
  bR (bR (PySem.W.Fast.tw14044960220447912780 (cElt e) env) fun x=>bR (PySem.W.Fast.tw11478286150595567475 (.builtin PySem.W.SL.s2931692696383300276x11) [acc,x]) fun _=>pR ()) fun _ =>
  PySem.W.Fast.tw12377390311714414960 (.compLoop e depth it acc env)
noncomputable def compL (L:Sem Unit) (e:PySem.Expr) (depth:Nat) (r a:Addr) (acc:Value) (env:Env):Sem PySem.Fin :=
  W.R.onRaiseR (bR L fun _=>compRest e depth (.ref r) (.ref a) acc env) (forHd env)
noncomputable def compLoad (e:PySem.Expr) (depth:Nat) (r a:Addr) (acc:Value) (env:Env):Sem PySem.Fin:=compL (PySem.W.Fast.tw1578499551869305889 (cTgt e) (.ref r) (.ref a)) e depth r a acc env
noncomputable def compOwn (e:PySem.Expr) (depth:Nat) (r a:Addr) (acc:Value) (env:Env):Sem PySem.Fin:=compL (ownDo r) e depth r a acc env
noncomputable def ownB (o:Obj):Option Nat:=match o with
  | ⟨c,_,d,_⟩=>match c with
    | .type nm=>match ownNames nm with
      | false=>none
      | true=>match d with
        | .fields vs=>match vs.toList with
          | x::_=>match x with
            | .int i t=>match t with
              | 0=>match i with
                | .ofNat n=>some n
                | .negSucc _=>none
              | _+1=>none
            | _=>none
          | []=>none
        | _=>none
    | _=>none
def OwnP (r a:Addr) (x y:Sem PySem.Fin):Prop:=∃ k,x = .load r none k ∧ ∀ o,ownB o = some a→k o = y
structure Out where
  ro:Option (List Obj)
  ext:List (Addr × Obj)
  f:Result
inductive En where
  | ev (t:Sem Fin)
  | own (es:List PySem.Expr) (kk:Nat) (p:Pos) (r a:Addr) (body orelse:List Stmt) (env:Env)
  | ownC (r a:Addr) (x y:Sem Fin)
  | call (rd rg:List Nat) (g:(Nat→Nat)→Out) (more:(Nat→Nat)→List (Nat × En))

structure St where
  cur:Sem Fin
  code:Code
  pos:Pos
  fs:List Frame
  M:List (Addr × Obj)
  sz:Nat
  tk:Nat
  G:List (Nat × GenState)
  gn:Nat
  it:List Nat
  en:List (Nat × En)
  ob:List (Nat × Nat)
  tr:List (Sem Fin × Sem Fin)
  sd:List Prop

noncomputable def AllEq {α:Type}:List (α × α)→Prop
  | []=>True
  | p::l=>p.1 = p.2 ∧ AllEq l
noncomputable def AllP:List Prop→Prop
  | []=>True
  | p::l=>p ∧ AllP l
theorem AllP.cons {p:Prop} {l:List Prop} (h:p) (t:AllP l):AllP (p::l):=⟨h,t⟩
theorem AllP.nil:AllP []:=trivial

noncomputable def St.thr (V:Vw) (x:St):Thread:=⟨x.cur,x.code,x.pos,x.fs ++ V.B⟩

structure Rep (V:Vw) (x:St) (s:Shared):Prop where
  keep:∀ b o,V.h0.get? b = some o→s.heap.get? b = some o
  low:V.h0.objs.size ≤ x.sz
  size:s.heap.objs.size = x.sz
  mem:∀ p ∈ x.M,V.h0.objs.size ≤ p.1 ∧ s.heap.get? p.1 = some p.2
  nd:(x.M.map Prod.fst).Nodup
  gsz:s.gens.size = x.gn
  gmem:∀ p ∈ x.G,s.gens[p.1]? = some p.2
  gnd:(x.G.map Prod.fst).Nodup
  bare:AllBare s.gens
  tk:s.toks = x.tk
  d:s.drawn = V.d
  os:s.os = V.os

noncomputable def freedB (o:Obj):Bool:=match o with
  | ⟨_,_,.freed,_⟩=>true
  | _=>false
theorem freedB_eq (o:Obj):freedB o = o.isFreed:=rfl

noncomputable def quietB (c:Code):Bool:=match c with
  | .builtin id _=>!id.startsWith "lifetime."
  | _=>true
theorem quiet_of {c:Code} (h:quietB c = true):c.quiet = true:=by
  cases c with
  | builtin id args =>
    have:id.startsWith "lifetime." = false:=by simpa [quietB] using h
    exact Code.quiet_builtin args this
  | _=>rfl

noncomputable def noTok (v:Value):Value:=match v with
  | .int i _=>.int i 0
  | .str x _=>.str x 0
  | v=>v
def EvP (id:String) (as:List Value) (t:Sem Fin):Prop:=∀ args':List Value,args'.map noTok = as→denote table (.builtin id ⟨args',[]⟩) = t

noncomputable def takeAt {α:Type}:Nat→List α→List α × Option α × List α
  | 0,M=>match M with
    | []=>([],none,[])
    | p::M=>([],some p,M)
  | n+1,M=>match M with
    | []=>([],none,[])
    | q::M=>match takeAt n M with
      | (b,p,a)=>(q::b,p,a)
noncomputable def spR {α:Type}:List Nat→List α→Nat→List α × List α
  | [],M,_=>([],M)
  | j::r,M,i=>match takeAt (j - i) M with
    | (b,p,a)=>match p with
      | none=>([],M)
      | some p=>match spR r a (j+1) with
        | (x,y)=>(p::x,b ++ y)
noncomputable def sp {α:Type} (M:List α) (i:Nat) (rd:List Nat):List α × List α:=spR rd M i

noncomputable def unheld (fs:List Frame):Bool:=match fs with
  | []=>true
  | f::r=>match f with
    | .ret _ h _ _ _ _ _=>match h with
      | none=>unheld r
      | some _=>false
    | .gen ..=>unheld r

noncomputable def zipO:List (Addr × Obj)→List Obj→List (Addr × Obj)
  | p::R,o::ro=>(p.1,o)::zipO R ro
  | _,_=>[]

noncomputable abbrev mk (cur:Sem Fin) (code:Code) (pos:Pos) (fs:List Frame) (M:List (Addr × Obj)) (sz tk:Nat) (G:List (Nat × GenState)) (gn:Nat):St:=⟨cur,code,pos,fs,M,sz,tk,G,gn,[],[],[],[],[]⟩

def Reach (V:Vw) (s:Shared) (t:Thread) (s':Shared) (t':Thread):Prop :=
  ∃ n,∀ m,runNI (denote table) V.prog V.w (n+m) s t = runNI (denote table) V.prog V.w m s' t'
def Goes (V:Vw) (x:St) (P:St→Prop):Prop:=∀ s,Rep V x s→∃ y s',Reach V s (x.thr V) s' (y.thr V) ∧ Rep V y s' ∧ P y
def Vw.under (V:Vw) (bw:List (Code × Pos)) (pos:Pos) (V':Vw):Prop :=
  V'.prog = V.prog ∧ V'.w = V.w ∧ V'.pt = V.pt ∧ V'.pf = V.pf ∧ V'.h0 = V.h0 ∧ V'.kt = V.kt ∧ V'.bw = bw ∧ V'.d = V.d ∧ V'.os = V.os ∧ V'.Ok ∧ ∃ k g l c B,V'.B = .ret k none g l c pos []::B ∧ ∀ b,topHandled.go b B = none
noncomputable def putO (R:List (Addr × Obj)) (ro:Option (List Obj)):List (Addr × Obj):=match ro with
  | none=>R
  | some l=>zipO R l
noncomputable def endT (f:Result):Sem Fin:=match f with
  | .ok fl=>.pure (.done fl)
  | .error e=>.raise e
def CallOK (V:Vw) (bw:List (Code × Pos)) (c:Code) (R:List (Addr × Obj)) (RG:List (Nat × GenState)) (sz tk gn:Nat) (g:(Nat→Nat)→Out):Prop :=
  ∀ (pos:Pos) (V':Vw),V.under bw pos V'→∀ (M:List (Addr × Obj)) (G:List (Nat × GenState)),
    Goes V' (mk (denote table c) c pos [] (R ++ M) sz tk (RG ++ G) gn) (fun y=>∃ (v:Nat→Nat) (c':Code) (p':Pos),y = mk (endT (g v).f) c' p' [] ((g v).ext ++ (putO R (g v).ro ++ M)) (v 0) (v 1) G (v 2))
noncomputable def shp (c:Code):Nat:=match c with
  | .func ..=>1
  | .forLoop ..=>2
  | .whileLoop ..=>3
  | .compLoop e _ _ _ _=>match e with
    | .ListComp ..=>4
    | _=>0
  | .compStart e _ _ _ _=>match e with
    | .ListComp ..=>5
    | _=>0
  | .call ..=>6
  | .builtin id _=>match PySem.W.Fast.strDec id "claim.caller" with
    | .isTrue _=>7
    | .isFalse _=>match PySem.W.Fast.strDec id "generator.__next__" with
      | .isTrue _=>8
      | .isFalse _=>0
  | _=>0
noncomputable def exactF (f:Value):Bool:=match f with
  | .type _=>true
  | .builtin id=>match PySem.W.Fast.strDec id "str.__iter__" with
    | .isTrue _=>true
    | .isFalse _=>false
  | _=>false
noncomputable def normC (c:Code):Code:=match c with
  | .call f args=>match args.kw with
    | []=>match exactF f with
      | true=>c
      | false=>.call f ⟨args.pos.map noTok,[]⟩
    | _::_=>c
  | c=>c
noncomputable def normO (o:Obj):Obj:=match o with
  | ⟨c,d,.seq xs n,s⟩=>⟨c,d,.seq ⟨xs.toList.map noTok⟩ n,s⟩
  | o=>o
noncomputable def normM (p:Addr × Obj):Addr × Obj:=(p.1,normO p.2)
def CallN (V:Vw) (ks:List Nat) (nc:Code) (nR:List (Addr × Obj)) (RG:List (Nat × GenState)) (g:(Nat→Nat)→Out):Prop :=
  ∀ (bw:List (Code × Pos)) (c:Code) (R:List (Addr × Obj)) (sz tk gn:Nat),bw.map (fun x=>shp x.1) = ks→normC c = nc→R.map normM = nR→CallOK V bw c R RG sz tk gn g

noncomputable def isForC (c:Code):Bool:=match c with
  | .forLoop ..=>true
  | _=>false
noncomputable def isCompC (c:Code):Bool:=match c with
  | .compLoop ..=>true
  | _=>false
noncomputable def callS (V:Vw):St→Option ((Nat→Nat)→St)
  | ⟨cur,code,pos,fs,M,sz,tk,G,gn,it,en,ob,tr,sd⟩=>match en with
    | []=>none
    | (n,e)::en'=>match n with
      | _+1=>none
      | 0=>match e with
        | .ev _=>none
        | .own es kk p r a body orelse env=>match isForC code with
          | false=>none
          | true=>match cur with
          | .load r' _ _=>match it with
            | []=>none
            | i::it'=>match i with
              | 0=>none
              | i+1=>match M[i]? with
                | none=>none
                | some (a',o)=>match ownB o with
                  | none=>none
                  | some n=>some fun _=>⟨forOwn (.Tuple es kk p) r (.ref a) body orelse env,code,pos,fs,M,sz,tk,G,gn,it',en',(r',a')::(n,a)::ob,(cur,forLoad es kk p r a body orelse env)::tr,sd⟩
          | _=>none
        | .ownC r a x y=>match isCompC code with
          | false=>none
          | true=>match cur with
          | .load r' _ _=>match it with
            | []=>none
            | i::it'=>match i with
              | 0=>none
              | i+1=>match M[i]? with
                | none=>none
                | some (a',o)=>match ownB o with
                  | none=>none
                  | some n=>some fun _=>⟨y,code,pos,fs,M,sz,tk,G,gn,it',en',(r',a')::(n,a)::ob,(cur,x)::tr,OwnP r a x y::sd⟩
          | _=>none
        | .call rd rg g more=>match cur with
          | .call c h _ _ k=>match h with
            | some _=>none
            | none=>match unheld fs with
              | false=>none
              | true=>match sp M 0 rd with
                | (R,Mo)=>match sp G 0 rg with
                  | (RG,Go)=>some fun v=>⟨k (g v).f,code,pos,fs,(g v).ext ++ (putO R (g v).ro ++ Mo),v 0,v 1,Go,v 2,it,more v,ob,tr,CallN V (((code,pos)::(fs.map Frame.where_ ++ V.bw)).map fun x=>shp x.1) (normC c) (R.map normM) RG g::sd⟩
          | _=>none

noncomputable def stepS (V:Vw) (den:Code→Sem Fin):St→Option St
  | ⟨cur,code,pos,fs,M,sz,tk,G,gn,it,en,ob,tr,sd⟩ =>
  match cur with
  | .pure fin=>match fin with
    | .again c=>match quietB c with
      | true=>match en with
        | []=>some ⟨den c,c,pos,fs,M,sz,tk,G,gn,it,[],ob,tr,sd⟩
        | (n,e)::en'=>match n with
          | 0=>match e with
            | .ev t=>match c with
              | .builtin id args=>match args.kw with
                | []=>some ⟨t,c,pos,fs,M,sz,tk,G,gn,it,en',ob,tr,EvP id (args.pos.map noTok) t::sd⟩
                | _::_=>none
              | _=>none
            | _=>none
          | n+1=>some ⟨den c,c,pos,fs,M,sz,tk,G,gn,it,(n,e)::en',ob,tr,sd⟩
      | false=>none
    | .done f=>match fs with
      | []=>none
      | f₀::fs'=>match f₀ with
        | .ret k _ _ _ c p _=>some ⟨k (.ok f),c,p,fs',M,sz,tk,G,gn,it,en,ob,tr,sd⟩
        | .gen g k _ c p=>match it with
          | []=>none
          | i::it'=>match G[i]? with
            | none=>none
            | some (g',_)=>some ⟨k (.returned (match f with | .ret v=>v | _=>.none)),c,p,fs',M,sz,tk,G.set i (g',.finished),gn,it',en,(g,g')::ob,tr,sd⟩
  | .raise e=>match fs with
      | []=>none
      | f₀::fs'=>match f₀ with
        | .ret k _ _ _ c p _=>some ⟨k (.error e),c,p,fs',M,sz,tk,G,gn,it,en,ob,tr,sd⟩
        | .gen g k _ c p=>match it with
          | []=>none
          | i::it'=>match G[i]? with
            | none=>none
            | some (g',_)=>some ⟨k (.raised e),c,p,fs',M,sz,tk,G.set i (g',.finished),gn,it',en,(g,g')::ob,tr,sd⟩
  | .rule _ k=>some ⟨k (),code,pos,fs,M,sz,tk,G,gn,it,en,ob,tr,sd⟩
  | .at p k=>some ⟨k (),code,p,fs,M,sz,tk,G,gn,it,en,ob,tr,sd⟩
  | .point _ k=>some ⟨k (),code,pos,fs,M,sz,tk,G,gn,it,en,ob,tr,sd⟩
  | .ask k=>some ⟨k ⟨V.prog,V.pf⟩,code,pos,fs,M,sz,tk,G,gn,it,en,ob,(k ⟨V.prog,V.pt⟩,k ⟨V.prog,V.pf⟩)::tr,sd⟩
  | .fresh k=>some ⟨k tk,code,pos,fs,M,sz,tk+1,G,gn,it,en,ob,tr,sd⟩
  | .load a _ k=>match it with
    | []=>none
    | i::it'=>match i with
      | 0=>match V.kt.get a with
        | none=>none
        | some o=>some ⟨k o,code,pos,fs,M,sz,tk,G,gn,it',en,ob,tr,sd⟩
      | i+1=>match M[i]? with
        | none=>none
        | some (a',o)=>some ⟨k o,code,pos,fs,M,sz,tk,G,gn,it',en,(a,a')::ob,tr,sd⟩
  | .loadIfAlive a k=>match it with
    | []=>none
    | i::it'=>match i with
      | 0=>match V.kt.get a with
        | none=>none
        | some o=>some ⟨k (some o),code,pos,fs,M,sz,tk,G,gn,it',en,ob,tr,sd⟩
      | i+1=>match M[i]? with
        | none=>none
        | some (a',o)=>some ⟨k (some o),code,pos,fs,M,sz,tk,G,gn,it',en,(a,a')::ob,tr,sd⟩
  | .update a _ f k=>match it with
    | []=>none
    | i::it'=>match i with
      | 0=>none
      | i+1=>match M[i]? with
        | none=>none
        | some (a',o)=>match freedB (f o) with
          | true=>none
          | false=>some ⟨k (),code,pos,fs,M.set i (a',f o),sz,tk,G,gn,it',en,(a,a')::ob,tr,sd⟩
  | .alloc o k=>match freedB o with
    | true=>none
    | false=>some ⟨k sz,code,pos,fs,(sz,o)::M,sz+1,tk,G,gn,it,en,ob,tr,sd⟩
  | .call c h g l k=>match en with
    | []=>some ⟨den c,c,pos,.ret k h g l code pos []::fs,M,sz,tk,G,gn,it,[],ob,tr,sd⟩
    | (n,e)::en'=>match n with
      | 0=>match e with
        | .ev t=>match c with
          | .builtin id args=>match args.kw with
            | []=>some ⟨t,c,pos,.ret k h g l code pos []::fs,M,sz,tk,G,gn,it,en',ob,tr,EvP id (args.pos.map noTok) t::sd⟩
            | _::_=>none
          | _=>none
        | _=>none
      | n+1=>some ⟨den c,c,pos,.ret k h g l code pos []::fs,M,sz,tk,G,gn,it,(n,e)::en',ob,tr,sd⟩
  | .handled own k=>match own with
    | true=>none
    | false=>some ⟨k (topHandled fs),code,pos,fs,M,sz,tk,G,gn,it,en,ob,tr,sd⟩
  | .genState g k=>match it with
    | []=>none
    | i::it'=>match G[i]? with
      | none=>none
      | some (g',gs)=>some ⟨k gs.seen,code,pos,fs,M,sz,tk,G,gn,it',en,(g,g')::ob,tr,sd⟩
  | .stack k=>some ⟨k ((code,pos)::(fs.map Frame.where_ ++ V.bw)),code,pos,fs,M,sz,tk,G,gn,it,en,ob,tr,sd⟩
  | .newGen c k=>some ⟨k gn,code,pos,fs,M,sz,tk,(gn,.fresh c)::G,gn+1,it,en,ob,tr,sd⟩
  | .resume g r l k=>match it with
    | []=>none
    | i::it'=>match G[i]? with
      | none=>none
      | some (g',gs)=>match gs with
        | .fresh c=>match r with
          | .send v=>match v with
            | .none=>some ⟨den c,c,pos,.gen g k l code pos::fs,M,sz,tk,G.set i (g',.running),gn,it',en,(g,g')::ob,tr,sd⟩
            | _=>none
          | .throw _=>none
        | .suspended kk _ c p frames _=>some ⟨kk r,c,p,frames ++ .gen g k l code pos::fs,M,sz,tk,G.set i (g',.running),gn,it',en,(g,g')::ob,tr,sd⟩
        | .running=>none
        | .finished=>some ⟨k .finished,code,pos,fs,M,sz,tk,G,gn,it',en,(g,g')::ob,tr,sd⟩
  | .yield v g0 l kk=>match g0 with
    | true=>none
    | false=>match splitAtGen fs with
      | none=>none
      | some (frames,(g,k,c,p),rest)=>match frames.any Frame.guarded with
        | true=>none
        | false=>match it with
          | []=>none
          | i::it'=>match G[i]? with
            | none=>none
            | some (g',_)=>some ⟨k (.yielded v),c,p,rest,M,sz,tk,G.set i (g',.suspended kk l code pos frames false),gn,it',en,(g,g')::ob,tr,sd⟩
  | _=>none

noncomputable def runS (V:Vw) (den:Code→Sem Fin):Nat→List (Nat→Nat)→St→Option St
  | 0,vs,x=>match vs with
    | []=>some x
    | _::_=>none
  | n+1,vs,x=>match callS V x with
    | some F=>match vs with
      | []=>none
      | v::vs'=>runS V den n vs' (F v)
    | none=>match stepS V den x with
      | some y=>runS V den n vs y
      | none=>none

end Mine
end
section
open PySem PySem.W PySem.W.X PyProof.Rows
namespace Mine

theorem Reach.refl {V:Vw} {s:Shared} {t:Thread}:Reach V s t s t:=⟨0,fun m=>by rw [Nat.zero_add]⟩
theorem Reach.trans {V:Vw} {s s' s'':Shared} {t t' t'':Thread} (x:Reach V s t s' t') (y:Reach V s' t' s'' t''):Reach V s t s'' t'':=by
  obtain ⟨n,hn⟩:=x
  obtain ⟨k,hk⟩:=y
  exact ⟨n+k,fun m=>by rw [Nat.add_assoc,hn,hk]⟩
theorem Reach.one {V:Vw} {s s':Shared} {t t':Thread} (h:stepI (denote table) V.prog V.w s t = .go s' t'):Reach V s t s' t' :=
  ⟨1,fun m=>by rw [Nat.add_comm]; simp only [runNI]; rw [h]⟩

theorem topHandled_base {B:List Frame} (hn:∀ b,topHandled.go b B = none):∀ (fs:List Frame) (b:Bool),topHandled.go b (fs ++ B) = topHandled.go b fs
  | [],b=>by rw [List.nil_append,hn b]; cases b <;> rfl
  | f::fs,b=>by
    have ih:=topHandled_base hn fs
    cases f with
    | gen g k l c p=>cases b <;> exact ih false
    | ret k h g l c p kept =>
      cases b with
      | true=>exact ih true
      | false =>
        cases h with
        | none=>exact ih false
        | some e =>
          show (if e == byPass then topHandled.go true (fs ++ B) else some e) = if e == byPass then topHandled.go true fs else some e
          rw [ih true]
theorem splitAtGen_base {B:List Frame} {fs fr rest:List Frame} {x:Nat × (GenResult→Sem Fin) × Code × Pos} (h:splitAtGen fs = some (fr,x,rest)):splitAtGen (fs ++ B) = some (fr,x,rest ++ B):=by
  induction fs generalizing fr with
  | nil=>cases h
  | cons f fs ih =>
    cases f with
    | gen g k l c p=>cases h; rfl
    | ret k hd g l c p kept =>
      simp only [List.cons_append,splitAtGen] at h ⊢
      cases e:splitAtGen fs with
      | none=>rw [e] at h; cases h
      | some y =>
        obtain ⟨a,b,r⟩:=y
        rw [e] at h
        cases h
        rw [ih e]; rfl

section
variable {V:Vw}
noncomputable abbrev stepR (V:Vw):=stepI (denote table) V.prog V.w

theorem nd_mem {α:Type} {M:List (Addr × α)} (nd:(M.map Prod.fst).Nodup) {i:Nat} {a:Addr} {o o':α} (hi:M[i]? = some (a,o)) {p:Addr × α} (hp:p ∈ M.set i (a,o')):p = (a,o') ∨ (p ∈ M ∧ p.1 ≠ a):=by
  obtain ⟨hl,he⟩:=List.getElem?_eq_some_iff.mp hi
  obtain ⟨j,hj,rfl⟩:=List.mem_iff_getElem.mp hp
  rw [List.getElem_set]
  by_cases h:i = j
  · rw [if_pos h]; exact .inl rfl
  · rw [if_neg h]
    refine .inr ⟨List.getElem_mem _,fun e=>?_⟩
    have hj':j < M.length:=by simpa using hj
    have h1:(M.map Prod.fst)[j]'(by simpa using hj') = (M.map Prod.fst)[i]'(by simpa using hl):=by simp [e,he]
    exact h ((List.getElem_inj nd).mp h1).symm
theorem map_set_fst {α:Type} {M:List (Addr × α)} {i:Nat} {a:Addr} {o o':α} (hi:M[i]? = some (a,o)):(M.set i (a,o')).map Prod.fst = M.map Prod.fst:=by
  obtain ⟨hl,he⟩:=List.getElem?_eq_some_iff.mp hi
  apply List.ext_getElem
  · simp
  · intro n h1 h2
    simp only [List.getElem_map,List.getElem_set]
    split
    · rename_i h; subst h; rw [he]
    · rfl

structure Same (x y:St):Prop where
  M:y.M = x.M
  sz:y.sz = x.sz
  tk:y.tk = x.tk
  G:y.G = x.G
  gn:y.gn = x.gn
theorem Rep.same {x y:St} {s:Shared} (r:Rep V x s) (e:Same x y):Rep V y s :=
  ⟨r.keep,e.sz ▸ r.low,e.sz ▸ r.size,e.M ▸ r.mem,e.M ▸ r.nd,e.gn ▸ r.gsz,e.G ▸ r.gmem,e.G ▸ r.gnd,r.bare,e.tk ▸ r.tk,r.d,r.os⟩

theorem Rep.alloc {x y:St} {s:Shared} {o:Obj} (r:Rep V x s) (hf:freedB o = false) (hM:y.M = (x.sz,o)::x.M) (hs:y.sz = x.sz+1) (ht:y.tk = x.tk) (hG:y.G = x.G) (hg:y.gn = x.gn) :
    Rep V y { s with heap:=s.heap.push o } where
  keep:=fun b o' e=>Heap.get?_push_of_some _ (r.keep b o' e)
  low:=by rw [hs]; exact Nat.le_succ_of_le r.low
  size:=by rw [Heap.size_push,r.size,hs]
  mem:=fun p hp=>by
    rw [hM] at hp
    rcases List.mem_cons.mp hp with rfl | hp
    · exact ⟨r.low,by have:=Heap.get?_push_size s.heap (o:=o) hf; rw [r.size] at this; exact this⟩
    · exact ⟨(r.mem p hp).1,Heap.get?_push_of_some _ (r.mem p hp).2⟩
  nd:=by
    rw [hM,List.map_cons,List.nodup_cons]
    refine ⟨fun hm=>?_,r.nd⟩
    obtain ⟨p,hp,e⟩:=List.mem_map.mp hm
    have:=Heap.lt_size (r.mem p hp).2
    rw [r.size,e] at this
    exact Nat.lt_irrefl _ this
  gsz:=hg ▸ r.gsz
  gmem:=hG ▸ r.gmem
  gnd:=hG ▸ r.gnd
  bare:=r.bare
  tk:=ht ▸ r.tk
  d:=r.d
  os:=r.os

theorem Rep.update {x y:St} {s:Shared} {i:Nat} {a:Addr} {o:Obj} {f:Obj→Obj} (r:Rep V x s) (hi:x.M[i]? = some (a,o)) (hf:freedB (f o) = false) (hM:y.M = x.M.set i (a,f o)) (hs:y.sz = x.sz) (ht:y.tk = x.tk) (hG:y.G = x.G) (hg:y.gn = x.gn) :
    Rep V y { s with heap:=s.heap.update a f }:=by
  have hm:=r.mem (a,o) (List.mem_of_getElem? hi)
  have sb:=Heap.SameBut.update s.heap a f
  refine ⟨fun b o' e=>?_,hs ▸ r.low,?_,fun p hp=>?_,?_,hg ▸ r.gsz,hG ▸ r.gmem,hG ▸ r.gnd,r.bare,ht ▸ r.tk,r.d,r.os⟩
  · refine (sb.2 b ?_).trans (r.keep b o' e)
    intro q
    have:=Heap.lt_size e
    rw [q] at this
    exact absurd hm.1 (Nat.not_le.mpr this)
  · rw [sb.1,r.size,hs]
  · rw [hM] at hp
    rcases nd_mem r.nd hi hp with rfl | ⟨hp,hne⟩
    · exact ⟨hm.1,Heap.get?_update_self f hm.2 hf⟩
    · exact ⟨(r.mem p hp).1,(sb.2 p.1 hne).trans (r.mem p hp).2⟩
  · rw [hM,map_set_fst hi]; exact r.nd

theorem Rep.fresh {x y:St} {s:Shared} (r:Rep V x s) (hM:y.M = x.M) (hs:y.sz = x.sz) (ht:y.tk = x.tk+1) (hG:y.G = x.G) (hg:y.gn = x.gn):Rep V y { s with toks:=s.toks+1 } :=
  ⟨r.keep,hs ▸ r.low,hs ▸ r.size,hM ▸ r.mem,hM ▸ r.nd,hg ▸ r.gsz,hG ▸ r.gmem,hG ▸ r.gnd,r.bare,by rw [ht]; exact congrArg (·+1) r.tk,r.d,r.os⟩

theorem Rep.setGen {x y:St} {s:Shared} {i:Nat} {g:Nat} {gs gs':GenState} (r:Rep V x s) (hi:x.G[i]? = some (g,gs)) (hb:gs'.bare = true) (hM:y.M = x.M) (hs:y.sz = x.sz) (ht:y.tk = x.tk) (hG:y.G = x.G.set i (g,gs')) (hg:y.gn = x.gn) :
    Rep V y { s with gens:=s.gens.setIfInBounds g gs' }:=by
  have hm:=r.gmem (g,gs) (List.mem_of_getElem? hi)
  refine ⟨r.keep,hs ▸ r.low,hs ▸ r.size,hM ▸ r.mem,hM ▸ r.nd,?_,fun p hp=>?_,?_,?_,ht ▸ r.tk,r.d,r.os⟩
  · show (s.gens.setIfInBounds g gs').size = y.gn
    rw [Array.size_setIfInBounds,r.gsz,hg]
  · rw [hG] at hp
    have hlt:g < s.gens.size:=(Array.getElem?_eq_some_iff.mp hm).1
    rcases nd_mem r.gnd hi hp with rfl | ⟨hp,hne⟩
    · show (s.gens.setIfInBounds g gs')[g]? = some gs'
      rw [Array.getElem?_setIfInBounds_self_of_lt hlt]
    · show (s.gens.setIfInBounds g gs')[p.1]? = some p.2
      rw [Array.getElem?_setIfInBounds_ne (Ne.symm hne)]; exact r.gmem p hp
  · rw [hG,map_set_fst hi]; exact r.gnd
  · intro z hz
    obtain ⟨j,hj,rfl⟩:=Array.mem_iff_getElem.mp hz
    have hj':j < s.gens.size:=by simpa using hj
    by_cases e:g = j
    · rw [Array.getElem_setIfInBounds hj',if_pos e]; exact hb
    · rw [Array.getElem_setIfInBounds hj',if_neg e]; exact r.bare _ (Array.getElem_mem hj')

theorem Rep.newGen {x y:St} {s:Shared} {c:Code} (r:Rep V x s) (hM:y.M = x.M) (hs:y.sz = x.sz) (ht:y.tk = x.tk) (hG:y.G = (x.gn,.fresh c)::x.G) (hg:y.gn = x.gn+1):Rep V y { s with gens:=s.gens.push (.fresh c) }:=by
  refine ⟨r.keep,hs ▸ r.low,hs ▸ r.size,hM ▸ r.mem,hM ▸ r.nd,?_,fun p hp=>?_,?_,?_,ht ▸ r.tk,r.d,r.os⟩
  · show (s.gens.push _).size = y.gn
    rw [Array.size_push,r.gsz,hg]
  · rw [hG] at hp
    rcases List.mem_cons.mp hp with rfl | hp
    · show (s.gens.push _)[x.gn]? = _
      rw [← r.gsz,Array.getElem?_push_size]
    · have:=r.gmem p hp
      have hlt:p.1 < s.gens.size:=(Array.getElem?_eq_some_iff.mp this).1
      show (s.gens.push _)[p.1]? = _
      rw [Array.getElem?_push,if_neg (Nat.ne_of_lt hlt)]; exact this
  · rw [hG,List.map_cons,List.nodup_cons]
    refine ⟨fun hm=>?_,r.gnd⟩
    obtain ⟨p,hp,e⟩:=List.mem_map.mp hm
    have:=(Array.getElem?_eq_some_iff.mp (r.gmem p hp)).1
    rw [r.gsz,e] at this
    exact Nat.lt_irrefl _ this
  · intro z hz
    rcases Array.mem_push.mp hz with hz | rfl
    · exact r.bare z hz
    · rfl

theorem Rep.perm {x y:St} {s:Shared} (r:Rep V x s) (hM:y.M.Perm x.M) (hs:y.sz = x.sz) (ht:y.tk = x.tk) (hG:y.G = x.G) (hg:y.gn = x.gn):Rep V y s :=
  ⟨r.keep,hs ▸ r.low,hs ▸ r.size,fun p hp=>r.mem p (hM.mem_iff.mp hp),((hM.map Prod.fst).nodup_iff).mpr r.nd,hg ▸ r.gsz,hG ▸ r.gmem,hG ▸ r.gnd,r.bare,ht ▸ r.tk,r.d,r.os⟩
theorem takeAt_eq {α:Type}:∀ (n:Nat) {M b a:List α} {p:α},takeAt n M = (b,some p,a)→M = b ++ p::a
  | 0,[],_,_,_,h=>by cases h
  | 0,_::_,_,_,_,h=>by cases h; rfl
  | n+1,[],_,_,_,h=>by cases h
  | n+1,q::M,b,a,p,h=>by
    simp only [takeAt] at h
    cases hq:takeAt n M with
    | mk b' t =>
      obtain ⟨p',a'⟩:=t
      rw [hq] at h
      cases h
      rw [takeAt_eq n hq]
      rfl
theorem spR_perm {α:Type}:∀ (rd:List Nat) (M:List α) (i:Nat),M.Perm ((spR rd M i).1 ++ (spR rd M i).2)
  | [],M,_=>.refl _
  | j::r,M,i=>by
    unfold spR
    cases hq:takeAt (j - i) M with
    | mk b t =>
      obtain ⟨p,a⟩:=t
      cases p with
      | none=>exact .refl _
      | some p =>
        have e:=takeAt_eq _ hq
        have ih:=spR_perm r a (j+1)
        simp only
        rw [e]
        refine List.perm_middle.trans (.cons p ?_)
        refine (List.Perm.append_left b ih).trans ?_
        generalize (spR r a (j+1)).1 = x
        generalize (spR r a (j+1)).2 = y
        show (b ++ (x ++ y)).Perm (x ++ (b ++ y))
        rw [← List.append_assoc,← List.append_assoc]
        exact List.Perm.append_right _ List.perm_append_comm
theorem sp_perm {α:Type} (M:List α) (i:Nat) (rd:List Nat):M.Perm ((sp M i rd).1 ++ (sp M i rd).2):=spR_perm rd M i
theorem spR_sub {α:Type}:∀ (rd:List Nat) (M:List α) (i:Nat),(spR rd M i).1.Sublist M
  | [],M,_=>List.nil_sublist _
  | j::r,M,i=>by
    unfold spR
    cases hq:takeAt (j - i) M with
    | mk b t =>
      obtain ⟨p,a⟩:=t
      cases p with
      | none=>exact List.nil_sublist _
      | some p =>
        rw [takeAt_eq _ hq]
        exact ((spR_sub r a (j+1)).cons_cons p).trans (List.sublist_append_right b _)
theorem sp_sub {α:Type} (M:List α) (i:Nat) (rd:List Nat):(sp M i rd).1.Sublist M:=spR_sub rd M i
theorem Rep.sublist {x y:St} {s:Shared} (r:Rep V x s) (hM:y.M.Sublist x.M) (hs:y.sz = x.sz) (ht:y.tk = x.tk) (hG:y.G.Sublist x.G) (hg:y.gn = x.gn):Rep V y s :=
  ⟨r.keep,hs ▸ r.low,hs ▸ r.size,fun p hp=>r.mem p (hM.subset hp),(hM.map Prod.fst).nodup r.nd,hg ▸ r.gsz,fun p hp=>r.gmem p (hG.subset hp),(hG.map Prod.fst).nodup r.gnd,r.bare,ht ▸ r.tk,r.d,r.os⟩
theorem unheld_top:∀ {fs:List Frame},unheld fs = true→∀ b,topHandled.go b fs = none
  | [],_,b=>by cases b <;> rfl
  | f::r,h,b=>by
    cases f with
    | gen=>cases b <;> exact unheld_top (fs:=r) h false
    | ret k hd g l c p kept =>
      cases hd with
      | some e=>cases h
      | none =>
        cases b with
        | true=>exact unheld_top (fs:=r) h true
        | false=>exact unheld_top (fs:=r) h false
end
end Mine
end
section
open PySem PySem.W PySem.W.X PyProof.Rows
namespace Mine
section
variable {V:Vw}

theorem allEq_cons {α:Type} {a b:α} {l:List (α × α)} (h:AllEq ((a,b)::l)):a = b ∧ AllEq l:=h
theorem stepR_eq {s:Shared} {t:Thread} (h:t.loud = false):stepR V s t = stepK (denote table) V.prog V.w s t:=stepI_quiet _ _ _ h

def StepOK (V:Vw) (x y:St):Prop:=AllEq y.ob→AllEq y.tr→AllP y.sd→AllEq x.ob ∧ AllEq x.tr ∧ AllP x.sd ∧ ∀ s,Rep V x s→∃ s',Reach V s (x.thr V) s' (y.thr V) ∧ Rep V y s'
theorem stepOK_of {x y:St} (h:AllEq y.ob→AllEq y.tr→AllP y.sd→AllEq x.ob ∧ AllEq x.tr ∧ AllP x.sd ∧ ∀ s,Rep V x s→∃ s',stepR V s (x.thr V) = .go s' (y.thr V) ∧ Rep V y s'):StepOK V x y:=fun ho hq hp=>by
  obtain ⟨a,a',b,c⟩:=h ho hq hp
  exact ⟨a,a',b,fun s r=>let ⟨s',h1,r1⟩:=c s r; ⟨s',.one h1,r1⟩⟩

theorem ev_of {id:String} {args:Args} {t:Sem Fin} (h:EvP id (args.pos.map noTok) t) (hk:args.kw = []):denote table (.builtin id args) = t:=by
  obtain ⟨pos,kw⟩:=args
  subst hk
  exact h pos rfl
theorem call_sound (O:V.Ok) {c:Code} {gd:Bool} {l:List Value} {k:Result→Sem Fin} {code:Code} {pos:Pos} {fs:List Frame} {M R Mo:List (Addr × Obj)} {rd rg:List Nat} {RG Go:List (Nat × GenState)} {g:(Nat→Nat)→Out} {sz tk gn:Nat} {G:List (Nat × GenState)}
    {it:List Nat} {en:List (Nat × En)} {en':(Nat→Nat)→List (Nat × En)} {ob:List (Nat × Nat)} {tr:List (Sem Fin × Sem Fin)} {sd sd':List Prop} (hu:unheld fs = true) (hs:sp M 0 rd = (R,Mo)) (hg:sp G 0 rg = (RG,Go))
    (hc:CallOK V ((code,pos)::(fs.map Frame.where_ ++ V.bw)) c R RG sz tk gn g) (s:Shared)
    (r:Rep V ⟨.call c none gd l k,code,pos,fs,M,sz,tk,G,gn,it,en,ob,tr,sd⟩ s) :
    ∃ v s',Reach V s (St.thr V ⟨.call c none gd l k,code,pos,fs,M,sz,tk,G,gn,it,en,ob,tr,sd⟩) s' (St.thr V ⟨k (g v).f,code,pos,fs,(g v).ext ++ (putO R (g v).ro ++ Mo),v 0,v 1,Go,v 2,it,en' v,ob,tr,sd'⟩) ∧
      Rep V ⟨k (g v).f,code,pos,fs,(g v).ext ++ (putO R (g v).ro ++ Mo),v 0,v 1,Go,v 2,it,en' v,ob,tr,sd'⟩ s':=by
  have q:∀ b,topHandled.go b (fs ++ V.B) = none:=fun b=>by rw [topHandled_base O.hn,unheld_top hu]
  let V':Vw:={ V with B:=.ret k none gd l code pos []::(fs ++ V.B),bw:=(code,pos)::(fs.map Frame.where_ ++ V.bw) }
  have O':V'.Ok:=⟨O.kt,by show (code,pos)::(fs ++ V.B).map Frame.where_ = _; rw [List.map_append,O.bw],fun b=>by
    cases b
    · exact q false
    · exact q true,O.row⟩
  have hp:M.Perm (R ++ Mo):=by
    have:=sp_perm M 0 rd
    rw [hs] at this; exact this
  have hpg:G.Perm (RG ++ Go):=by
    have:=sp_perm G 0 rg
    rw [hg] at this; exact this
  have r':Rep V' (mk (denote table c) c pos [] (R ++ Mo) sz tk (RG ++ Go) gn) s :=
    ⟨r.keep,r.low,r.size,fun p q=>r.mem p (hp.mem_iff.mpr q),((hp.map Prod.fst).nodup_iff).mp r.nd,r.gsz,fun p q=>r.gmem p (hpg.mem_iff.mpr q),((hpg.map Prod.fst).nodup_iff).mp r.gnd,r.bare,r.tk,r.d,r.os⟩
  obtain ⟨y,s₁,h1,r1,v,c',p',rfl⟩:=hc pos V' ⟨rfl,rfl,rfl,rfl,rfl,rfl,rfl,rfl,rfl,O',_,_,_,_,_,rfl,q⟩ Mo Go s r'
  refine ⟨v,s₁,?_,⟨r1.keep,r1.low,r1.size,r1.mem,r1.nd,r1.gsz,r1.gmem,r1.gnd,r1.bare,r1.tk,r1.d,r1.os⟩⟩
  refine Reach.trans (.one (stepR_eq (t:=⟨.call c none gd l k,code,pos,fs ++ V.B⟩) rfl)) (.trans (t':=⟨endT (g v).f,c',p',.ret k none gd l code pos []::(fs ++ V.B)⟩) h1 ?_)
  cases (g v).f with
  | ok f=>exact .one (stepR_eq (V:=V) (t:=⟨.pure (.done f),c',p',.ret k none gd l code pos []::(fs ++ V.B)⟩) rfl)
  | error e=>exact .one (stepR_eq (V:=V) (t:=⟨.raise e,c',p',.ret k none gd l code pos []::(fs ++ V.B)⟩) rfl)

theorem own_load (es:List PySem.Expr) (kk:Nat) (p:Pos) (r a:Addr):∃ K,PySem.W.Fast.tw1578499551869305889 (.Tuple es kk p) (.ref r) (.ref a) = .load r none K ∧
    ∀ o,ownB o = some a→K o = ownDo r:=by
  unfold ownDo bR
  rw [← PySem.W.Fast.te1578499551869305889,← PySem.W.Fast.te12367529300394763782,← PySem.W.Fast.te12456147031677567982]
  refine ⟨_,rfl,fun o ho=>?_⟩
  obtain ⟨c,di,d,sl⟩:=o
  cases c <;> simp only [ownB,reduceCtorEq] at ho
  rename_i nm
  cases hn:ownNames nm <;> rw [hn] at ho <;> simp only [reduceCtorEq] at ho
  cases d <;> simp only [reduceCtorEq] at ho
  rename_i vs
  obtain ⟨l⟩:=vs
  cases l with
  | nil=>simp only [reduceCtorEq] at ho
  | cons x l =>
    cases x <;> simp only [reduceCtorEq] at ho
    rename_i i t
    cases t <;> simp only [reduceCtorEq] at ho
    cases i <;> simp only [reduceCtorEq,Option.some.injEq] at ho
    subst ho
    rename_i n
    unfold ownNames at hn
    rw [← PySem.W.Fast.te3471404346716756564] at hn
    refine if_pos ?_
    rw [Bool.and_eq_true]
    exact ⟨hn,beq_self_eq_true _⟩
theorem own_sound (es:List PySem.Expr) (kk:Nat) (p:Pos) (r a:Addr) (body orelse:List Stmt) (env:Env):∃ k,forLoad es kk p r a body orelse env = .load r none k ∧ ∀ o,ownB o = some a→k o = forOwn (.Tuple es kk p) r (.ref a) body orelse env:=by
  obtain ⟨K,h1,h2⟩:=own_load es kk p r a
  refine ⟨fun o=>W.R.onRaiseR (bR (K o) fun _=>forRest (.Tuple es kk p) (.ref r) (.ref a) body orelse env) (forHd env),?_,fun o ho=>?_⟩
  · unfold forLoad
    rw [h1]
    rfl
  · simp only [h2 o ho]
    rfl
theorem comp_own {e:PySem.Expr} {es:List PySem.Expr} {kk:Nat} {p:Pos} (he:cTgt e = .Tuple es kk p) (depth:Nat) (r a:Addr) (acc:Value) (env:Env):OwnP r a (compLoad e depth r a acc env) (compOwn e depth r a acc env):=by
  obtain ⟨K,h1,h2⟩:=own_load es kk p r a
  refine ⟨fun o=>compL (K o) e depth r a acc env,?_,fun o ho=>?_⟩
  · unfold compLoad
    rw [he,h1]
    rfl
  · simp only [h2 o ho]
    rfl
theorem callS_sound (O:V.Ok) {x:St} {F:(Nat→Nat)→St} (h:callS V x = some F):(∀ v,AllEq (F v).ob→AllEq x.ob) ∧ (∀ v,AllEq (F v).tr→AllEq x.tr) ∧ (∀ v,AllP (F v).sd→AllP x.sd) ∧
    ((∃ v,AllEq (F v).ob ∧ AllEq (F v).tr ∧ AllP (F v).sd)→∀ s,Rep V x s→∃ v s',Reach V s (x.thr V) s' ((F v).thr V) ∧ Rep V (F v) s'):=by
  obtain ⟨cur,code,pos,fs,M,sz,tk,G,gn,it,en,ob,tr,sd⟩:=x
  (delta callS at h; dsimp only at h)
  split at h
  · cases h
  · split at h
    · cases h
    · split at h
      · cases h
      · split at h
        · cases h
        split at h
        · rename_i cur' r' _ k
          split at h
          · cases h
          · split at h
            · cases h
            · split at h
              · cases h
              · rename_i hM
                split at h
                · cases h
                · rename_i ho
                  cases h
                  refine ⟨fun _ q=>(allEq_cons (allEq_cons q).2).2,fun _ q=>(allEq_cons q).2,fun _ q=>q,fun ⟨_,q1,q2,_⟩ s r=>?_⟩
                  obtain ⟨e1,q1⟩:=allEq_cons q1
                  obtain ⟨e2,_⟩:=allEq_cons q1
                  obtain ⟨e3,_⟩:=allEq_cons q2
                  subst e1 e2
                  obtain ⟨k',h1,h2⟩:=own_sound _ _ _ _ _ _ _ _
                  rw [h1] at e3
                  injection e3 with e4 e5 e6
                  subst e4 e5 e6
                  refine ⟨fun _=>0,s,.one ((stepR_eq rfl).trans ?_),r.same ⟨rfl,rfl,rfl,rfl,rfl⟩⟩
                  have e:=(r.mem _ (List.mem_of_getElem? hM)).2
                  show (match s.heap.get? _ with | some o=>_ | none=>_) = _
                  rw [e]
                  show Step.go s ⟨k _,code,pos,fs ++ V.B⟩ = _
                  rw [h2 _ ho]
                  rfl
        · cases h
      · split at h
        · cases h
        split at h
        · rename_i cur' r' _ k
          split at h
          · cases h
          · split at h
            · cases h
            · split at h
              · cases h
              · rename_i hM
                split at h
                · cases h
                · rename_i ho
                  cases h
                  refine ⟨fun _ q=>(allEq_cons (allEq_cons q).2).2,fun _ q=>(allEq_cons q).2,fun _ q=>q.2,fun ⟨_,q1,q2,q3⟩ s r=>?_⟩
                  obtain ⟨e1,q1⟩:=allEq_cons q1
                  obtain ⟨e2,_⟩:=allEq_cons q1
                  obtain ⟨e3,_⟩:=allEq_cons q2
                  subst e1 e2
                  obtain ⟨k',h1,h2⟩:=q3.1
                  rw [h1] at e3
                  injection e3 with e4 e5 e6
                  subst e4 e5 e6
                  refine ⟨fun _=>0,s,.one ((stepR_eq rfl).trans ?_),r.same ⟨rfl,rfl,rfl,rfl,rfl⟩⟩
                  have e:=(r.mem _ (List.mem_of_getElem? hM)).2
                  show (match s.heap.get? _ with | some o=>_ | none=>_) = _
                  rw [e]
                  show Step.go s ⟨k _,code,pos,fs ++ V.B⟩ = _
                  rw [h2 _ ho]
                  rfl
        · cases h
      · split at h
        · split at h
          · cases h
          · split at h
            · cases h
            · rename_i hu
              cases h
              exact ⟨fun _ a=>a,fun _ a=>a,fun _ a=>a.2,fun ⟨v,a⟩ s r=>call_sound O hu rfl rfl (a.2.2.1 _ _ _ _ _ _ rfl rfl rfl) s r⟩
        · cases h

set_option maxHeartbeats 1000000 in
theorem stepS_rest (O:V.Ok) {x y:St} (h:stepS V (denote table) x = some y) (hn:∀ c hd g l k,x.cur ≠ .call c hd g l k) (ho:AllEq y.ob) (hq:AllEq y.tr) (hp:AllP y.sd) :
    AllEq x.ob ∧ AllEq x.tr ∧ AllP x.sd ∧ ∀ s,Rep V x s→∃ s',stepR V s (x.thr V) = .go s' (y.thr V) ∧ Rep V y s':=by
  obtain ⟨cur,code,pos,fs,M,sz,tk,G,gn,it,en,ob,tr,sd⟩:=x
  cases cur with
  | pure fin =>
    cases fin with
    | again c =>
      (delta stepS at h; dsimp only at h)
      split at h
      case h_2=>cases h
      rename_i hqt
      have hloud:Thread.loud ⟨.pure (.again c),code,pos,fs ++ V.B⟩ = false:=by
        rw [Thread.loud_again,quiet_of hqt]; rfl
      split at h
      · cases h
        exact ⟨ho,hq,hp,fun s r=>⟨s,stepR_eq hloud,r.same ⟨rfl,rfl,rfl,rfl,rfl⟩⟩⟩
      · split at h
        · split at h
          · split at h
            · split at h
              · rename_i id args _ hk
                cases h
                refine ⟨ho,hq,hp.2,fun s r=>⟨s,(stepR_eq hloud).trans ?_,r.same ⟨rfl,rfl,rfl,rfl,rfl⟩⟩⟩
                show Step.go s ⟨denote table (.builtin id args),.builtin id args,pos,fs ++ V.B⟩ = _
                rw [ev_of hp.1 hk]; rfl
              · cases h
            · cases h
          · cases h
        · cases h
          exact ⟨ho,hq,hp,fun s r=>⟨s,stepR_eq hloud,r.same ⟨rfl,rfl,rfl,rfl,rfl⟩⟩⟩
    | done f =>
      (delta stepS at h; dsimp only at h)
      split at h
      · cases h
      · split at h
        · cases h
          exact ⟨ho,hq,hp,fun s r=>⟨s,stepR_eq rfl,r.same ⟨rfl,rfl,rfl,rfl,rfl⟩⟩⟩
        · split at h
          · cases h
          · split at h
            · cases h
            · rename_i hG
              cases h
              (have ho2:=allEq_cons ho; clear ho; obtain ⟨rfl,ho⟩:=ho2)
              exact ⟨ho,hq,hp,fun s r=>⟨_,stepR_eq rfl,r.setGen hG rfl rfl rfl rfl rfl rfl⟩⟩
  | raise e =>
      (delta stepS at h; dsimp only at h)
      split at h
      · cases h
      · split at h
        · cases h
          exact ⟨ho,hq,hp,fun s r=>⟨s,stepR_eq rfl,r.same ⟨rfl,rfl,rfl,rfl,rfl⟩⟩⟩
        · split at h
          · cases h
          · split at h
            · cases h
            · rename_i hG
              cases h
              (have ho2:=allEq_cons ho; clear ho; obtain ⟨rfl,ho⟩:=ho2)
              exact ⟨ho,hq,hp,fun s r=>⟨_,stepR_eq rfl,r.setGen hG rfl rfl rfl rfl rfl rfl⟩⟩
  | rule t k=>cases h; exact ⟨ho,hq,hp,fun s r=>⟨s,stepR_eq rfl,r.same ⟨rfl,rfl,rfl,rfl,rfl⟩⟩⟩
  | «at» p k=>cases h; exact ⟨ho,hq,hp,fun s r=>⟨s,stepR_eq rfl,r.same ⟨rfl,rfl,rfl,rfl,rfl⟩⟩⟩
  | point l k=>cases h; exact ⟨ho,hq,hp,fun s r=>⟨s,stepR_eq rfl,r.same ⟨rfl,rfl,rfl,rfl,rfl⟩⟩⟩
  | ask k =>
    cases h
    obtain ⟨e,hq⟩:=allEq_cons hq
    refine ⟨ho,hq,hp,fun s r=>⟨s,stepR_eq rfl |>.trans ?_,r.same ⟨rfl,rfl,rfl,rfl,rfl⟩⟩⟩
    show Step.go s ⟨k ⟨V.prog,V.w.params⟩,code,pos,fs ++ V.B⟩ = Step.go s ⟨k ⟨V.prog,V.pf⟩,code,pos,fs ++ V.B⟩
    rcases O.row with q | q
    · rw [q,e]
    · rw [q]
  | fresh k =>
    cases h
    refine ⟨ho,hq,hp,fun s r=>⟨_,stepR_eq rfl |>.trans ?_,r.fresh rfl rfl rfl rfl rfl⟩⟩
    have:s.toks = tk:=r.tk
    subst this
    rfl
  | load a q k =>
    (delta stepS at h; dsimp only at h)
    split at h
    · cases h
    · split at h
      · split at h
        · cases h
        · rename_i o hk
          cases h
          refine ⟨ho,hq,hp,fun s r=>⟨s,stepR_eq rfl |>.trans ?_,r.same ⟨rfl,rfl,rfl,rfl,rfl⟩⟩⟩
          have z:=KT.Holds.get O.kt hk
          rw [Nat.one_mul,Nat.add_zero] at z
          have e:=r.keep _ _ z
          show (match s.heap.get? a with | some o=>_ | none=>_) = _
          rw [e]; rfl
      · split at h
        · cases h
        · rename_i a' o hM
          cases h
          (have ho2:=allEq_cons ho; clear ho; obtain ⟨rfl,ho⟩:=ho2)
          refine ⟨ho,hq,hp,fun s r=>⟨s,stepR_eq rfl |>.trans ?_,r.same ⟨rfl,rfl,rfl,rfl,rfl⟩⟩⟩
          have e:=(r.mem _ (List.mem_of_getElem? hM)).2
          show (match s.heap.get? _ with | some o=>_ | none=>_) = _
          rw [e]; rfl
  | loadIfAlive a k =>
    (delta stepS at h; dsimp only at h)
    split at h
    · cases h
    · split at h
      · split at h
        · cases h
        · rename_i o hk
          cases h
          refine ⟨ho,hq,hp,fun s r=>⟨s,stepR_eq rfl |>.trans ?_,r.same ⟨rfl,rfl,rfl,rfl,rfl⟩⟩⟩
          have z:=KT.Holds.get O.kt hk
          rw [Nat.one_mul,Nat.add_zero] at z
          have e:=r.keep _ _ z
          show Step.go s ⟨k (s.heap.get? a),code,pos,fs ++ V.B⟩ = _
          rw [e]; rfl
      · split at h
        · cases h
        · rename_i a' o hM
          cases h
          (have ho2:=allEq_cons ho; clear ho; obtain ⟨rfl,ho⟩:=ho2)
          refine ⟨ho,hq,hp,fun s r=>⟨s,stepR_eq rfl |>.trans ?_,r.same ⟨rfl,rfl,rfl,rfl,rfl⟩⟩⟩
          have e:=(r.mem _ (List.mem_of_getElem? hM)).2
          show Step.go s ⟨k (s.heap.get? _),code,pos,fs ++ V.B⟩ = _
          rw [e]; rfl
  | update a q f k =>
    (delta stepS at h; dsimp only at h)
    split at h
    · cases h
    · split at h
      · cases h
      · split at h
        · cases h
        · rename_i a' o hM
          split at h
          · cases h
          · rename_i hf
            cases h
            (have ho2:=allEq_cons ho; clear ho; obtain ⟨rfl,ho⟩:=ho2)
            refine ⟨ho,hq,hp,fun s r=>⟨_,stepR_eq rfl |>.trans ?_,r.update hM hf rfl rfl rfl rfl rfl⟩⟩
            have e:=(r.mem _ (List.mem_of_getElem? hM)).2
            show (if (s.heap.get? _).isSome then _ else _) = _
            rw [e]; rfl
  | alloc o k =>
    (delta stepS at h; dsimp only at h)
    split at h
    · cases h
    · rename_i hf
      cases h
      refine ⟨ho,hq,hp,fun s r=>⟨_,stepR_eq rfl |>.trans ?_,r.alloc hf rfl rfl rfl rfl rfl⟩⟩
      have:s.heap.objs.size = sz:=r.size
      subst this
      rfl
  | call c hd g l k=>exact absurd rfl (hn c hd g l k)
  | handled own k =>
    (delta stepS at h; dsimp only at h)
    split at h
    · cases h
    · cases h
      refine ⟨ho,hq,hp,fun s r=>⟨s,stepR_eq rfl |>.trans ?_,r.same ⟨rfl,rfl,rfl,rfl,rfl⟩⟩⟩
      show Step.go s ⟨k (topHandled (fs ++ V.B)),code,pos,fs ++ V.B⟩ = _
      rw [show topHandled (fs ++ V.B) = topHandled fs from topHandled_base O.hn fs false]; rfl
  | stack k =>
    cases h
    refine ⟨ho,hq,hp,fun s r=>⟨s,stepR_eq rfl |>.trans ?_,r.same ⟨rfl,rfl,rfl,rfl,rfl⟩⟩⟩
    show Step.go s ⟨k ((code,pos)::(fs ++ V.B).map Frame.where_),code,pos,fs ++ V.B⟩ = _
    rw [List.map_append,O.bw]; rfl
  | newGen c k =>
    cases h
    refine ⟨ho,hq,hp,fun s r=>⟨_,stepR_eq rfl |>.trans ?_,r.newGen rfl rfl rfl rfl rfl⟩⟩
    have:s.gens.size = gn:=r.gsz
    subst this
    rfl
  | genState g k =>
    (delta stepS at h; dsimp only at h)
    split at h
    · cases h
    · split at h
      · cases h
      · rename_i g' gs hG
        cases h
        (have ho2:=allEq_cons ho; clear ho; obtain ⟨rfl,ho⟩:=ho2)
        refine ⟨ho,hq,hp,fun s r=>⟨s,stepR_eq rfl |>.trans ?_,r.same ⟨rfl,rfl,rfl,rfl,rfl⟩⟩⟩
        have e:=r.gmem _ (List.mem_of_getElem? hG)
        obtain ⟨heap,gens,drawn,toks,os⟩:=s
        simp only at e
        simp only [St.thr,stepK,step,e]
        cases gs <;> rfl
  | resume g q l k =>
    (delta stepS at h; dsimp only at h)
    split at h
    · cases h
    · split at h
      · cases h
      · rename_i g' gs hG
        cases gs with
        | fresh c =>
          cases q with
          | throw e=>simp only at h; cases h
          | send v =>
            simp only at h
            split at h
            · cases h
              (have ho2:=allEq_cons ho; clear ho; obtain ⟨rfl,ho⟩:=ho2)
              refine ⟨ho,hq,hp,fun s r=>⟨_,stepR_eq rfl |>.trans ?_,r.setGen hG rfl rfl rfl rfl rfl rfl⟩⟩
              have e:=r.gmem _ (List.mem_of_getElem? hG)
              obtain ⟨heap,gens,drawn,toks,os⟩:=s
              simp only at e
              simp only [St.thr,stepK,step,e]
              rfl
            · cases h
        | suspended kk lv c p frames cl =>
          simp only at h
          cases h
          (have ho2:=allEq_cons ho; clear ho; obtain ⟨rfl,ho⟩:=ho2)
          refine ⟨ho,hq,hp,fun s r=>⟨_,stepR_eq rfl |>.trans ?_,r.setGen hG rfl rfl rfl rfl rfl rfl⟩⟩
          have e:=r.gmem _ (List.mem_of_getElem? hG)
          obtain ⟨heap,gens,drawn,toks,os⟩:=s
          simp only at e
          simp only [St.thr,stepK,step,e,List.append_assoc,List.cons_append]
        | running=>simp only at h; cases h
        | finished =>
          simp only at h
          cases h
          (have ho2:=allEq_cons ho; clear ho; obtain ⟨rfl,ho⟩:=ho2)
          refine ⟨ho,hq,hp,fun s r=>⟨s,stepR_eq rfl |>.trans ?_,r.same ⟨rfl,rfl,rfl,rfl,rfl⟩⟩⟩
          have e:=r.gmem _ (List.mem_of_getElem? hG)
          obtain ⟨heap,gens,drawn,toks,os⟩:=s
          simp only at e
          simp only [St.thr,stepK,step,e]
  | «yield» v g0 l kk =>
    (delta stepS at h; dsimp only at h)
    split at h
    · cases h
    · split at h
      · cases h
      · rename_i frames g k c p rest hs
        split at h
        · cases h
        · rename_i hg
          split at h
          · cases h
          · split at h
            · cases h
            · rename_i g' gs hG
              cases h
              (have ho2:=allEq_cons ho; clear ho; obtain ⟨rfl,ho⟩:=ho2)
              have hs':=splitAtGen_base (B:=V.B) hs
              have hloud:Thread.loud ⟨.yield v false l kk,code,pos,fs ++ V.B⟩ = false:=by
                rw [Thread.loud_yield v false l kk code pos hs',hg]; rfl
              refine ⟨ho,hq,hp,fun s r=>⟨_,stepR_eq hloud |>.trans ?_,r.setGen hG rfl rfl rfl rfl rfl rfl⟩⟩
              show (match splitAtGen (fs ++ V.B) with | some (frames,(g,k,c,p),rest)=>_ | none=>_) = _
              rw [hs']
              simp only [hg]
              rfl
  | unsupported=>cases h
  | finish=>cases h
  | register=>cases h
  | choose=>cases h
  | os=>cases h
  | fork=>cases h
  | thread=>cases h
  | await=>cases h

set_option maxHeartbeats 1000000 in
theorem stepS_sound (O:V.Ok) {x y:St} (h:stepS V (denote table) x = some y):StepOK V x y:=by
  obtain ⟨cur,code,pos,fs,M,sz,tk,G,gn,it,en,ob,tr,sd⟩:=x
  cases cur with
  | call c hd g l k =>
    (delta stepS at h; dsimp only at h)
    split at h
    · refine stepOK_of fun ho hq hp=>?_
      cases h
      exact ⟨ho,hq,hp,fun s r=>⟨s,stepR_eq rfl,r.same ⟨rfl,rfl,rfl,rfl,rfl⟩⟩⟩
    · split at h
      · split at h
        · split at h
          · split at h
            · refine stepOK_of fun ho hq hp=>?_
              rename_i id args _ hk
              cases h
              refine ⟨ho,hq,hp.2,fun s r=>⟨s,(stepR_eq rfl).trans ?_,r.same ⟨rfl,rfl,rfl,rfl,rfl⟩⟩⟩
              show Step.go s ⟨denote table (.builtin id args),.builtin id args,pos,.ret k hd g l code pos []::(fs ++ V.B)⟩ = _
              rw [ev_of hp.1 hk]; rfl
            · cases h
          · cases h
        · cases h
      · refine stepOK_of fun ho hq hp=>?_
        cases h
        exact ⟨ho,hq,hp,fun s r=>⟨s,stepR_eq rfl,r.same ⟨rfl,rfl,rfl,rfl,rfl⟩⟩⟩
  | _=>exact stepOK_of (stepS_rest O h (fun _ _ _ _ _ e=>by cases e))

end
end Mine
end
section
open PySem PySem.W PySem.W.X PyProof.Rows
namespace Mine

theorem runS_ok {V:Vw} (O:V.Ok):∀ (n m:Nat) (x:St) (Z:List (Nat→Nat)→St→Prop),(∀ vs:List (Nat→Nat),vs.length = m→∃ y,runS V (denote table) n vs x = some y ∧ AllEq y.ob ∧ AllEq y.tr ∧ AllP y.sd ∧ Z vs y) →
    AllEq x.ob ∧ AllEq x.tr ∧ AllP x.sd ∧ ∀ s,Rep V x s→∃ vs y s',vs.length = m ∧ Z vs y ∧ Reach V s (x.thr V) s' (y.thr V) ∧ Rep V y s'
  | 0,m,x,Z,H=>by
    obtain ⟨y,h,a,b,c,z⟩:=H (List.replicate m fun _=>0) List.length_replicate
    cases m with
    | zero =>
      cases h
      exact ⟨a,b,c,fun s r=>⟨[],x,s,rfl,z,.refl,r⟩⟩
    | succ m=>cases h
  | n+1,m,x,Z,H=>by
    cases e:callS V x with
    | some F =>
      obtain ⟨c1,c2,c3,c4⟩:=callS_sound O e
      cases m with
      | zero =>
        obtain ⟨y,h,_⟩:=H [] rfl
        simp only [runS,e] at h
        cases h
      | succ m =>
        have key:∀ v,AllEq (F v).ob ∧ AllEq (F v).tr ∧ AllP (F v).sd ∧ ∀ s,Rep V (F v) s→∃ vs y s',vs.length = m ∧ Z (v::vs) y ∧ Reach V s ((F v).thr V) s' (y.thr V) ∧ Rep V y s':=fun v =>
          runS_ok O n m (F v) (fun vs y=>Z (v::vs) y) fun vs hl=>by
            obtain ⟨y,h,a,b,c,z⟩:=H (v::vs) (by rw [List.length_cons,hl])
            simp only [runS,e] at h
            exact ⟨y,h,a,b,c,z⟩
        have k0:=key fun _=>0
        refine ⟨c1 _ k0.1,c2 _ k0.2.1,c3 _ k0.2.2.1,fun s r=>?_⟩
        obtain ⟨v,s₁,h1,r1⟩:=c4 ⟨_,k0.1,k0.2.1,k0.2.2.1⟩ s r
        obtain ⟨vs,y,s₂,hl,z,h2,r2⟩:=(key v).2.2.2 s₁ r1
        exact ⟨v::vs,y,s₂,by rw [List.length_cons,hl],z,h1.trans h2,r2⟩
    | none =>
      obtain ⟨y0,h0,_⟩:=H (List.replicate m fun _=>0) List.length_replicate
      simp only [runS,e] at h0
      cases hz:stepS V (denote table) x with
      | none=>rw [hz] at h0; cases h0
      | some z =>
        have key:=runS_ok O n m z Z fun vs hl=>by
          obtain ⟨y,h,r⟩:=H vs hl
          simp only [runS,e,hz] at h
          exact ⟨y,h,r⟩
        obtain ⟨a',a1',b',c'⟩:=stepS_sound O hz key.1 key.2.1 key.2.2.1
        refine ⟨a',a1',b',fun s r=>?_⟩
        obtain ⟨s₁,h1,r1⟩:=c' s r
        obtain ⟨vs,y,s₂,hl,q,h2,r2⟩:=key.2.2.2 s₁ r1
        exact ⟨vs,y,s₂,hl,q,h1.trans h2,r2⟩

theorem Goes.here {V:Vw} {x:St} {P:St→Prop} (h:P x):Goes V x P:=fun s r=>⟨x,s,.refl,r,h⟩
theorem Goes.trans {V:Vw} {x:St} {P Q:St→Prop} (h:Goes V x P) (k:∀ y,P y→Goes V y Q):Goes V x Q:=fun s r=>by
  obtain ⟨y,s₁,h1,r1,p⟩:=h s r
  obtain ⟨z,s₂,h2,r2,q⟩:=k y p s₁ r1
  exact ⟨z,s₂,h1.trans h2,r2,q⟩
theorem Goes.mono {V:Vw} {x:St} {P Q:St→Prop} (h:Goes V x P) (k:∀ y,P y→Q y):Goes V x Q:=h.trans fun _ p=>.here (k _ p)
theorem Goes.monoE {V:Vw} {x:St} {Z:(Nat→Nat→Nat)→St} {Q:St→Prop} (h:Goes V x (fun y=>∃ v,y = Z v)) (k:∀ v,Q (Z v)):Goes V x Q:=h.mono fun y ⟨v,e⟩=>e ▸ k v
theorem Goes.then {V:Vw} {x z:St} {Q:St→Prop} (h:Goes V x (· = z)) (k:Goes V z Q):Goes V x Q:=h.trans fun y p=>p ▸ k

noncomputable def lay (x:St) (it:List Nat) (en:List (Nat × En)):St:=⟨x.cur,x.code,x.pos,x.fs,x.M,x.sz,x.tk,x.G,x.gn,it,en,[],[],[]⟩
theorem Rep.lay {V:Vw} {x:St} {s:Shared} {it:List Nat} {en:List (Nat × En)} (r:Rep V x s):Rep V (lay x it en) s:=r.same ⟨rfl,rfl,rfl,rfl,rfl⟩
noncomputable def pick {α:Type} (M:List α) (d:Nat) (ms:List Nat):List α:=(sp (M.take d) 0 ms).1 ++ M.drop d
theorem pick_sub {α:Type} (M:List α) (d:Nat) (ms:List Nat):(pick M d ms).Sublist M:=by
  have:=(sp_sub (M.take d) 0 ms).append (List.Sublist.refl (M.drop d))
  rw [List.take_append_drop] at this
  exact this
noncomputable def reord {α:Type}:List Nat→List α→List α
  | [],M=>M
  | k::r,M=>match sp M 0 [k] with
    | (a,b)=>reord r (a ++ b)
theorem reord_perm {α:Type}:∀ (ks:List Nat) (M:List α),(reord ks M).Perm M
  | [],_=>.refl _
  | k::r,M=>(reord_perm r _).trans (sp_perm M 0 [k]).symm
noncomputable def told (y:St) (d:Nat) (ms:List Nat) (e:Nat) (gs:List Nat) (mv:List Nat):St:=mk y.cur y.code y.pos y.fs (reord mv (pick y.M d ms)) y.sz y.tk (pick y.G e gs) y.gn
theorem Rep.told {V:Vw} {y:St} {s:Shared} {d e:Nat} {ms gs mv:List Nat} (r:Rep V y s):Rep V (told y d ms e gs mv) s :=
  have q:Rep V (Mine.mk y.cur y.code y.pos y.fs (pick y.M d ms) y.sz y.tk (pick y.G e gs) y.gn) s:=r.sublist (pick_sub ..) rfl rfl (pick_sub ..) rfl
  q.perm (reord_perm ..) rfl rfl rfl rfl

noncomputable def toldO (o:Option St) (d:Nat) (ms:List Nat) (e:Nat) (gs:List Nat) (mv:List Nat):Option St:=o.map fun y=>told y d ms e gs mv
noncomputable def obL (o:Option St):Option (List Nat):=o.map fun y=>y.ob.map Prod.fst
noncomputable def obR (o:Option St):Option (List Nat):=o.map fun y=>y.ob.map Prod.snd
noncomputable def trL (o:Option St):Option (List (Sem Fin)):=o.map fun y=>y.tr.map Prod.fst
noncomputable def trR (o:Option St):Option (List (Sem Fin)):=o.map fun y=>y.tr.map Prod.snd
noncomputable def sdO (o:Option St):Option (List Prop):=o.map fun y=>y.sd
theorem allEq_of {α:Type}:∀ {l:List (α × α)},l.map Prod.fst = l.map Prod.snd→AllEq l
  | [],_=>trivial
  | p::l,h=>by
    simp only [List.map_cons,List.cons.injEq] at h
    exact ⟨h.1,allEq_of h.2⟩

theorem list_map_range {α:Type} (vs:List α) (d:α):(List.range vs.length).map (fun i=>vs.getD i d) = vs:=by
  apply List.ext_getElem
  · simp
  · intro n h1 h2
    simp [List.getElem?_eq_getElem h2]

theorem goes_run {V:Vw} (O:V.Ok) {den:Code→Sem Fin} (hd:den = denote table) {x:St} {z:(Nat→Nat→Nat)→St} {it:List Nat} {en:List (Nat × En)} {d e:Nat} {ms gs mv:List Nat} {sd:(Nat→Nat→Nat)→List Prop} (n m:Nat)
    (H:∀ v:Nat→Nat→Nat,toldO (runS V den n ((List.range m).map v) (lay x it en)) d ms e gs mv = some (z v) ∧ obL (runS V den n ((List.range m).map v) (lay x it en)) = obR (runS V den n ((List.range m).map v) (lay x it en)) ∧
      trL (runS V den n ((List.range m).map v) (lay x it en)) = trR (runS V den n ((List.range m).map v) (lay x it en)) ∧ sdO (runS V den n ((List.range m).map v) (lay x it en)) = some (sd v))
    (hp:∀ v,AllP (sd v)):Goes V x (fun y=>∃ v,y = z v):=by
  subst hd
  intro s r
  obtain ⟨vs,y,s',hl,hz,hr,r'⟩:=(runS_ok O n m (lay x it en) (fun vs y=>told y d ms e gs mv = z (fun i=>vs.getD i fun _=>0)) fun vs hl=>by
    obtain ⟨h1,h2,h4,h3⟩:=H fun i=>vs.getD i fun _=>0
    rw [← hl,list_map_range] at h1 h2 h3 h4
    cases q:runS V (denote table) n vs (lay x it en) with
    | none=>rw [q] at h1; cases h1
    | some y =>
      rw [q] at h1 h2 h3 h4
      have h1:told y d ms e gs mv = _:=Option.some.inj h1
      have h2:y.ob.map Prod.fst = y.ob.map Prod.snd:=Option.some.inj h2
      have h3:y.sd = _:=Option.some.inj h3
      have h4:y.tr.map Prod.fst = y.tr.map Prod.snd:=Option.some.inj h4
      exact ⟨y,rfl,allEq_of h2,allEq_of h4,h3 ▸ hp _,h1⟩).2.2.2 s r.lay
  refine ⟨_,s',?_,r'.told (d:=d) (ms:=ms) (e:=e) (gs:=gs) (mv:=mv),_,hz⟩
  exact hr
end Mine
end
section
open PySem PySem.W PySem.W.X PyProof.Rows
namespace Mine
theorem noTok_int {v:Value} {i:Int} (h:noTok v = .int i 0):∃ t,v = .int i t:=by
  cases v <;> simp_all [noTok]
theorem noTok_str {v:Value} {x:Str} (h:noTok v = .str x 0):∃ t,v = .str x t:=by
  cases v <;> simp_all [noTok]
theorem noTok_ref {v:Value} {a:Addr} (h:noTok v = .ref a):v = .ref a:=by
  cases v <;> simp_all [noTok]
theorem map_c {a:Value} {l r:List Value} (h:l.map noTok = a::r):∃ v t,l = v::t ∧ noTok v = a ∧ t.map noTok = r:=List.map_eq_cons_iff.mp h
theorem map_n {l:List Value} (h:l.map noTok = []):l = []:=List.map_eq_nil_iff.mp h
theorem map1 {a:Value} {l:List Value} (h:l.map noTok = [a]):∃ v,l = [v] ∧ noTok v = a:=by
  obtain ⟨v,t,rfl,h1,h⟩:=map_c h
  obtain rfl:=map_n h
  exact ⟨v,rfl,h1⟩
theorem map2 {a b:Value} {l:List Value} (h:l.map noTok = [a,b]):∃ v u,l = [v,u] ∧ noTok v = a ∧ noTok u = b:=by
  obtain ⟨v,t,rfl,h1,h⟩:=map_c h
  obtain ⟨u,rfl,h2⟩:=map1 h
  exact ⟨v,u,rfl,h1,h2⟩
theorem evI {id:String} {i:Int} {t:Sem Fin} (h:∀ k,denote table (.builtin id ⟨[.int i k],[]⟩) = t):EvP id [.int i 0] t:=fun l e=>by
  obtain ⟨v,rfl,e1⟩:=map1 e
  obtain ⟨k,rfl⟩:=noTok_int e1
  exact h k
theorem evII {id:String} {i j:Int} {t:Sem Fin} (h:∀ k m,denote table (.builtin id ⟨[.int i k,.int j m],[]⟩) = t):EvP id [.int i 0,.int j 0] t:=fun l e=>by
  obtain ⟨v,u,rfl,e1,e2⟩:=map2 e
  obtain ⟨k,rfl⟩:=noTok_int e1
  obtain ⟨m,rfl⟩:=noTok_int e2
  exact h k m
theorem evSI {id:String} {x:Str} {j:Int} {t:Sem Fin} (h:∀ k m,denote table (.builtin id ⟨[.str x k,.int j m],[]⟩) = t):EvP id [.str x 0,.int j 0] t:=fun l e=>by
  obtain ⟨v,u,rfl,e1,e2⟩:=map2 e
  obtain ⟨k,rfl⟩:=noTok_str e1
  obtain ⟨m,rfl⟩:=noTok_int e2
  exact h k m
theorem evSS {id:String} {x y:Str} {t:Sem Fin} (h:∀ k m,denote table (.builtin id ⟨[.str x k,.str y m],[]⟩) = t):EvP id [.str x 0,.str y 0] t:=fun l e=>by
  obtain ⟨v,u,rfl,e1,e2⟩:=map2 e
  obtain ⟨k,rfl⟩:=noTok_str e1
  obtain ⟨m,rfl⟩:=noTok_str e2
  exact h k m
theorem den_builtin {id:String} {b:Builtin} {args:Args} (e:entryFor table id = some b):denote table (.builtin id args) = b args:=by
  show (match entryFor table id with | some b=>b args | none=>_) = _
  rw [e]
noncomputable abbrev retB (b:Bool):Sem Fin:=.pure (.done (.ret (.bool b)))
noncomputable abbrev retI (i:Int):Sem Fin:=.fresh fun t=>.pure (.done (.ret (.int i t)))
noncomputable abbrev retS (x:Str):Sem Fin:=.fresh fun t=>.pure (.done (.ret (.str x t)))
theorem ev_bool {x:Int} {b:Bool} (h:(x != 0) = b):EvP "int.__bool__" [.int x 0] (retB b):=evI fun k=>by
  rw [den_builtin PySem.F.entry_int_bool,← h]; rfl
theorem ev_ieq {x y:Int} {b:Bool} (h:(x == y) = b):EvP "int.__eq__" [.int x 0,.int y 0] (retB b):=evII fun k m=>by
  rw [den_builtin PySem.F.entry_int_eq,← h]; rfl
theorem ev_seq {x y:Str} {b:Bool} (h:(x.cps.toList == y.cps.toList) = b):EvP "str.__eq__" [.str x 0,.str y 0] (retB b):=evSS fun k m=>by
  rw [den_builtin PySem.F.entry_str_eq,← h]; rfl
theorem ev_getitem {x:Str} {i:Int} {c:Nat} (h0:0 ≤ i) (h1:i < 2 ^ 63) (hc:x.cps[i.toNat]? = some c):EvP "str.__getitem__" [.str x 0,.int i 0] (retS ⟨⟨[c]⟩⟩):=evSI fun k m=>by
  rw [den_builtin PySem.F.entry_str_getitem]
  have hl:i.toNat < x.cps.size:=(Array.getElem?_eq_some_iff.mp hc).1
  have hr:(decide (i < -(2 ^ 63:Int)) || decide (i ≥ 2 ^ 63)) = false:=by simp; omega
  have hx:(seqIndex? i x.length).bind (x.cps[·]?) = some c:=by
    have:seqIndex? i x.length = some i.toNat:=by
      have hn:¬ i < 0:=by omega
      have hk:i < (x.length:Int):=by show i < (x.cps.size:Int); omega
      simp only [seqIndex?,if_neg hn]
      simp [h0,hk]
    rw [this]; exact hc
  show (if (decide (i < -(2 ^ 63:Int)) || decide (i ≥ 2 ^ 63)) = true then _ else
          match (seqIndex? i x.length).bind (x.cps[·]?) with
          | some c=>retStr ⟨#[c]⟩
          | none=>_) = _
  rw [hr,hx]
  rfl
end Mine
end
section
open PySem PySem.W PySem.W.X PyProof.Rows
namespace Mine

theorem stepI_size {den:Code→Sem Fin} {p:Program} {w:World} {s s':Shared} {t t':Thread} (h:stepI den p w s t = .go s' t'):s.heap.objs.size ≤ s'.heap.objs.size:=by
  unfold stepI at h
  split at h
  · cases h
  · have key:step den p w s t = .go s' t'→s.heap.objs.size ≤ s'.heap.objs.size:=fun h=>by
      rw [step_heap den p w s s' t t' h]
      split
      · rw [Heap.size_after_update]; exact Nat.le_refl _
      · rw [Heap.size_push]; exact Nat.le_succ _
      · exact Nat.le_refl _
    unfold stepK at h
    split at h
    · cases h; exact Nat.le_refl _
    · cases h; exact Nat.le_refl _
    · exact key h
theorem runNI_size {den:Code→Sem Fin} {p:Program} {w:World}:∀ (n:Nat) {s s':Shared} {t t':Thread},runNI den p w n s t = .running s' t'→s.heap.objs.size ≤ s'.heap.objs.size
  | 0,s,s',t,t',h=>by cases h; exact Nat.le_refl _
  | n+1,s,s',t,t',h=>by
    simp only [runNI] at h
    split at h
    · rename_i e; exact Nat.le_trans (stepI_size e) (runNI_size n h)
    · cases h
theorem runNI_add {den:Code→Sem Fin} {p:Program} {w:World}:∀ (n m:Nat) {s s':Shared} {t t':Thread},runNI den p w n s t = .running s' t'→runNI den p w (n+m) s t = runNI den p w m s' t'
  | 0,m,s,s',t,t',h=>by cases h; rw [Nat.zero_add]
  | n+1,m,s,s',t,t',h=>by
    rw [Nat.add_right_comm]
    simp only [runNI] at h ⊢
    split at h
    · exact runNI_add n m h
    · cases h

theorem goes_call {V V':Vw} {bw:List (Code × Pos)} {pos:Pos} (u:V.under bw pos V') {f:Value} {args:List Value} {M:List (Addr × Obj)} {sz tk gn:Nat} {G:List (Nat × GenState)} {res:Nat→Value}
    (h:∀ A:Around,A.handled = none→∀ s,Rep V' (mk (denote table (.call f ⟨args,[]⟩)) (.call f ⟨args,[]⟩) pos [] M sz tk G gn) s →
      wpAny (model V.prog V.w) A (call f args) (fun v s'=>∃ t,v = res t ∧ (∀ b o,s.heap.get? b = some o→s'.heap.get? b = some o) ∧ s'.gens = s.gens ∧ s'.drawn = s.drawn ∧ s'.os = s.os) (fun _ _=>False) s) :
    Goes V' (mk (denote table (.call f ⟨args,[]⟩)) (.call f ⟨args,[]⟩) pos [] M sz tk G gn)
      (fun y=>∃ (v:Nat→Nat) (c':Code) (p':Pos),y = mk (.pure (.done (.ret (res (v 3))))) c' p' [] M (v 0) (v 1) G (v 2)):=by
  obtain ⟨e1,e2,_,_,_,_,_,_,_,O',k,g,l,c,B,hB,hn⟩:=u
  intro s r
  let Γ:Ctx:=Ctx.of c B
  have hΓ:Γ.Fits B:=Ctx.fits_of c B
  have hA:Γ.In ⟨none,frameCount Γ.below+Γ.code.weight,none,none,Γ.units⟩:=⟨hn false,Nat.le_refl _,(fun _ q=>nomatch q),(fun _ q=>nomatch q),Nat.le_refl _⟩
  have q:=h _ rfl s r Γ pos hA
  unfold PySem.call at q
  rw [Sem.wp_runValue] at q
  obtain ⟨rr,s',hr,hpost⟩:=q
  obtain ⟨t',c',p',pre',hc,hx⟩:=(runs_reach hr _ (hΓ.enter (.call f ⟨args,[]⟩) k none g l pos [])).comes
  obtain ⟨rfl,rfl⟩:=hx
  obtain ⟨n,hrun⟩:=hc
  cases rr with
  | error e=>exact hpost.elim
  | ok fl =>
    cases fl with
    | ret v =>
      obtain ⟨t,rfl,hk,hg,hd,ho⟩:=hpost
      have hrun:runNI (denote table) V'.prog V'.w n s ⟨denote table (.call f ⟨args,[]⟩),.call f ⟨args,[]⟩,pos,V'.B⟩ = .running s' ⟨.pure (.done (.ret (res t))),c',p',V'.B⟩:=by
        rw [hB,e1,e2]; exact hrun
      have hsz:=runNI_size n hrun
      refine ⟨mk (.pure (.done (.ret (res t)))) c' p' [] M s'.heap.objs.size s'.toks G gn,s',⟨n,fun m=>runNI_add n m hrun⟩,?_,fun i=>match i with | 0=>s'.heap.objs.size | 1=>s'.toks | 2=>gn | _=>t,c',p',rfl⟩
      exact ⟨fun b o e=>hk b o (r.keep b o e),Nat.le_trans (Nat.le_trans r.low (Nat.le_of_eq r.size.symm)) hsz,rfl,fun p hp=>⟨(r.mem p hp).1,hk _ _ (r.mem p hp).2⟩,r.nd,by rw [hg]; exact r.gsz,
        fun p hp=>by rw [hg]; exact r.gmem p hp,r.gnd,by rw [hg]; exact r.bare,rfl,hd.trans r.d,ho.trans r.os⟩
    | _=>exact hpost.elim

noncomputable def intsV (xs:List (Int × Nat)):List Value:=match xs with
  | []=>[]
  | x::r=>.int x.1 x.2::intsV r
noncomputable def listO (vs:List Value) (n:Nat):Obj:=⟨.type "list",none,.seq ⟨vs⟩ n,⟨[]⟩⟩
theorem intsV_items (xs:List (Int × Nat)):(⟨intsV xs⟩:Array Value) = intItems ⟨xs⟩:=by
  apply Array.ext'
  induction xs with
  | nil=>simp [intItems,intsV]
  | cons x r ih =>
    simp only [intItems,List.map_toArray,List.map_cons] at ih ⊢
    simp only [intsV]
    exact congrArg _ ih
theorem isList_of {V:Vw} {x:St} {s:Shared} (r:Rep V x s) {l:Addr} {vs:List Value} {n:Nat} (h:(l,listO vs n) ∈ x.M):s.heap.IsList l ⟨vs⟩ :=
  ⟨_,(r.mem _ h).2,rfl,n,rfl⟩

theorem intsV_norm:∀ {vs:List Value} {ns:List Int},vs.map noTok = ns.map (fun i=>Value.int i 0)→∃ xs,vs = intsV xs ∧ xs.map Prod.fst = ns
  | [],[],_=>⟨[],rfl,rfl⟩
  | [],_::_,h=>by cases h
  | _::_,[],h=>by cases h
  | v::vs,n::ns,h=>by
    simp only [List.map_cons,List.cons.injEq] at h
    obtain ⟨t,rfl⟩:=noTok_int h.1
    obtain ⟨xs,rfl,e⟩:=intsV_norm h.2
    exact ⟨(n,t)::xs,rfl,by rw [List.map_cons,e]⟩
theorem norm_list {l:Addr} {o:Obj} {ws:List Value} {n:Nat} (h:normM (l,o) = (l,listO ws n)):∃ vs,o = listO vs n ∧ vs.map noTok = ws:=by
  obtain ⟨c,d,dt,sl⟩:=o
  cases dt <;> simp only [normM,normO,listO,Prod.mk.injEq,Obj.mk.injEq,Data.seq.injEq,reduceCtorEq,and_false,false_and,true_and] at h
  rename_i xs ep
  obtain ⟨rfl,rfl,⟨h1,rfl⟩,rfl⟩:=h
  exact ⟨xs.toList,rfl,by simpa using h1⟩
theorem norm_callA {c:Code} {f:Value} {as:List Value} (h:normC c = .call f ⟨as,[]⟩) (hf:exactF f = false):∃ vs,c = .call f ⟨vs,[]⟩ ∧ vs.map noTok = as:=by
  cases c <;> simp only [normC,reduceCtorEq] at h
  rename_i g args
  obtain ⟨pos,kw⟩:=args
  cases kw with
  | nil =>
    simp only at h
    split at h
    · rename_i he
      cases h
      rw [he] at hf; cases hf
    · cases h
      exact ⟨pos,rfl,rfl⟩
  | cons=>simp at h
theorem norm_callX {c:Code} {f:Value} {as:List Value} (h:normC c = .call f ⟨as,[]⟩) (hf:exactF f = true):c = .call f ⟨as,[]⟩:=by
  cases c <;> simp only [normC,reduceCtorEq] at h
  rename_i g args
  obtain ⟨pos,kw⟩:=args
  cases kw with
  | nil =>
    simp only at h
    split at h
    · exact h
    · rename_i he
      cases h
      rw [he] at hf; cases hf
  | cons=>simp at h
theorem norm_call1 {c:Code} {f:Value} {a:Value} (h:normC c = .call f ⟨[a],[]⟩) (hf:exactF f = false:=by first | rfl | kernel_rfl):∃ v,c = .call f ⟨[v],[]⟩ ∧ noTok v = a:=by
  obtain ⟨vs,rfl,e⟩:=norm_callA h hf
  obtain ⟨v,rfl,e'⟩:=map1 e
  exact ⟨v,rfl,e'⟩
theorem norm_call2 {c:Code} {f:Value} {a b:Value} (h:normC c = .call f ⟨[a,b],[]⟩) (hf:exactF f = false:=by first | rfl | kernel_rfl):∃ v u,c = .call f ⟨[v,u],[]⟩ ∧ noTok v = a ∧ noTok u = b:=by
  obtain ⟨vs,rfl,e⟩:=norm_callA h hf
  obtain ⟨v,u,rfl,e1,e2⟩:=map2 e
  exact ⟨v,u,rfl,e1,e2⟩
theorem norm_one {R:List (Addr × Obj)} {p:Addr × Obj} (h:R.map normM = [p]):∃ o,R = [(p.1,o)] ∧ normM (p.1,o) = p:=by
  cases R with
  | nil=>exact absurd h (by simp)
  | cons q R =>
    rw [List.map_cons] at h
    have h1:normM q = p:=(List.cons.inj h).1
    have h2:R.map normM = []:=(List.cons.inj h).2
    have h2:R = []:=List.map_eq_nil_iff.mp h2
    subst h2
    have e:(normM q).1 = p.1:=by rw [h1]
    have e:q.1 = p.1:=e
    have e2:(p.1,q.2) = q:=by rw [← e]
    exact ⟨q.2,by rw [e2],by rw [e2]; exact h1⟩
theorem norm_none {R:List (Addr × Obj)} (h:R.map normM = []):R = []:=by simpa using h

theorem sum_ok {V:Vw} {ks:List Nat} {l:Addr} {ns:List Int} {ep:Nat} :
    CallN V ks (.call (.builtin "sum") ⟨[.ref l],[]⟩) [(l,listO (ns.map fun i=>Value.int i 0) ep)] [] (fun v=>⟨none,[],.ok (.ret (.int ns.sum (v 3)))⟩):=by
  intro bw c R sz tk gn _ hc hR pos V' u M G
  obtain ⟨v,rfl,hv⟩:=norm_call1 hc
  obtain rfl:=noTok_ref hv
  obtain ⟨o,rfl,ho⟩:=norm_one hR
  obtain ⟨vs,rfl,hvs⟩:=norm_list ho
  obtain ⟨xs,rfl,rfl⟩:=intsV_norm hvs
  refine goes_call u (res:=fun t=>.int (xs.map Prod.fst).sum t) fun A hh s r=>?_
  have hl:=isList_of r (l:=l) (.head _)
  rw [intsV_items] at hl
  refine sum_intListG hh hl fun h' tk' t' hk=>?_
  refine ⟨t',?_,hk,rfl,rfl,rfl⟩
  rw [preSum_eq,List.take_of_length_le (by simp)]

theorem min_ok {V:Vw} {ks:List Nat} {l:Addr} {ns:List Int} {ep:Nat} {m:Int} (hm:m ∈ ns) (hle:∀ a ∈ ns,m ≤ a) :
    CallN V ks (.call (.builtin "min") ⟨[.ref l],[]⟩) [(l,listO (ns.map fun i=>Value.int i 0) ep)] [] (fun v=>⟨none,[],.ok (.ret (.int m (v 3)))⟩):=by
  intro bw c R sz tk gn _ hc hR pos V' u M G
  obtain ⟨v,rfl,hv⟩:=norm_call1 hc
  obtain rfl:=noTok_ref hv
  obtain ⟨o,rfl,ho⟩:=norm_one hR
  obtain ⟨vs,rfl,hvs⟩:=norm_list ho
  obtain ⟨xs,rfl,rfl⟩:=intsV_norm hvs
  cases xs with
  | nil=>cases hm
  | cons x0 xs =>
  refine goes_call u (res:=fun t=>.int m t) fun A hh s r=>?_
  have hl:=isList_of r (l:=l) (.head _)
  rw [intsV_items] at hl
  refine min_intList hh hl (by simp) fun v h' tk' hv hk=>?_
  obtain ⟨t,rfl⟩:=intItems_at hv
  obtain ⟨h1,h2⟩:=argBest_lt (numAt ⟨x0::xs⟩) ((⟨x0::xs⟩:Array (Int × Nat)).size - 1)
  refine ⟨t,?_,hk,rfl,rfl,rfl⟩
  congr 1
  apply Int.le_antisymm
  · obtain ⟨j,hj,e⟩:=mem_getD hm
    rw [List.length_map] at hj
    have hs:(⟨x0::xs⟩:Array (Int × Nat)).size = xs.length+1:=rfl
    rw [List.length_cons] at hj
    have:=h2 j (by rw [hs]; omega)
    rw [numAt_eq,numAt_eq] at this
    rw [numAt_eq]
    simp only at this ⊢
    first | (rw [← e]; exact this) | (rw [e] at this; exact this)
  · apply hle
    rw [numAt_eq]
    have hs:(⟨x0::xs⟩:Array (Int × Nat)).size = xs.length+1:=rfl
    rw [hs] at h1
    rw [hs]
    exact getD_mem (by rw [List.length_map,List.length_cons]; omega)
end Mine
end
noncomputable section
open PySem PySem.W PySem.W.X PyProof.Rows
namespace Mine
noncomputable abbrev pw:Program:=PySem.Challenge.pw_wa0036_01
noncomputable def dO (es:List DictEntry) (n:Nat):Obj:=⟨.type "dict",none,.dict ⟨es⟩ n,⟨[]⟩⟩
noncomputable def ents (t:Nat):List (Int × Str)→List DictEntry
  | []=>[]
  | x::r=>⟨hashInt x.1,.int x.1 t,.str x.2 (t+1)⟩::ents (t+3) r
noncomputable def ents2 (t:Nat):List (Int × Str)→List DictEntry
  | []=>[]
  | x::r=>⟨hashInt x.1,.int x.1 t,.str x.2 (t+1)⟩::ents2 (t+2) r
noncomputable def subs (t:Nat):List (List (Int × Str))→List Obj
  | []=>[]
  | x::r=>dO (ents t x) x.length::subs (t+3 * x.length) r
noncomputable def mainE (t:Nat) (x0:List (Int × Str)) (chs:List (List (Int × Str))) (last:List (Int × Str)):List DictEntry :=
  ents t x0 ++ ents (t+3 * 17) chs.flatten ++ ents2 (t+3 * 17+3 * (17 * chs.length)) last
noncomputable def mainR (t:Nat) (chs:List (List (Int × Str))) (last:List (Int × Str)):List Obj :=
  subs (t+3 * 17) chs ++ [dO (ents2 (t+3 * 17+3 * (17 * chs.length)) last) last.length]
noncomputable def stmtAt (i:Nat):Stmt:=match pw.main.body.drop i with
  | s::_=>s
  | []=>.Pass ⟨0,0,0,0⟩
noncomputable def nthS (l:List Stmt) (i:Nat):Stmt:=match l.drop i with
  | s::_=>s
  | []=>.Pass ⟨0,0,0,0⟩
noncomputable def nthE (l:List PySem.Expr) (i:Nat):PySem.Expr:=match l.drop i with
  | s::_=>s
  | []=>.Constant .none 0 ⟨0,0,0,0⟩
noncomputable def sBody (s:Stmt):List Stmt:=match s with
  | .FunctionDef _ _ b _ _ _ _ _ _ _=>b
  | .If _ b _ _=>b
  | .While _ b _ _=>b
  | .For _ _ b _ _=>b
  | _=>[]
noncomputable def sElse (s:Stmt):List Stmt:=match s with
  | .If _ _ o _=>o
  | _=>[]
noncomputable def sExp (s:Stmt):PySem.Expr:=match s with
  | .Assign _ v _=>v
  | .Return (some v) _=>v
  | .While t _ _ _=>t
  | .For t _ _ _ _=>t
  | _=>.Constant .none 0 ⟨0,0,0,0⟩
noncomputable def sArgs (s:Stmt):Arguments:=match s with
  | .FunctionDef _ a _ _ _ _ _ _ _ _=>a
  | _=>default
noncomputable def sScope (s:Stmt):Scope:=match s with
  | .FunctionDef _ _ _ _ _ _ sc _ _ _=>sc
  | _=>default
noncomputable def eElt (e:PySem.Expr):PySem.Expr:=match e with
  | .ListComp x _ _ _=>x
  | _=>e
noncomputable def eArg (e:PySem.Expr) (i:Nat):PySem.Expr:=match e with
  | .Call _ as _ _=>nthE as i
  | _=>e
noncomputable def eCmp (e:PySem.Expr) (i:Nat):PySem.Expr:=match e with
  | .Compare _ _ cs _=>nthE cs i
  | _=>e
noncomputable def b3T:List PySem.Expr:=match stmtAt 10 with | .Assign ts _ _=>ts | _=>[]
noncomputable def b3P:Pos:=match stmtAt 10 with | .Assign _ _ p=>p | _=>⟨0,0,0,0⟩
noncomputable def b3Ks:List (Option PySem.Expr):=match stmtAt 10 with | .Assign _ (.Dict ks _ _) _=>ks | _=>[]
noncomputable def b3Vs:List PySem.Expr:=match stmtAt 10 with | .Assign _ (.Dict _ vs _) _=>vs | _=>[]
noncomputable def b3Q:Pos:=match stmtAt 10 with | .Assign _ (.Dict _ _ p) _=>p | _=>⟨0,0,0,0⟩
noncomputable def itemOf (k:Option PySem.Expr) (v:PySem.Expr):Option (Int × Str):=match k,v with
  | some (.Constant (.int i) _ _),.Constant (.str x) _ _=>some (i,x)
  | _,_=>none
noncomputable def itemsOf:List (Option PySem.Expr)→List PySem.Expr→List (Int × Str)
  | k::ks,v::vs=>match itemOf k v with
    | some x=>x::itemsOf ks vs
    | none=>[]
  | _,_=>[]
noncomputable def okItems:List (Option PySem.Expr)→List PySem.Expr→Bool
  | k::ks,v::vs=>match itemOf k v with
    | some _=>okItems ks vs
    | none=>false
  | [],[]=>true
  | _,_=>false
noncomputable def b3I:List (Int × Str):=itemsOf b3Ks b3Vs
noncomputable def chop (n:Nat):Nat→List (Int × Str)→List (List (Int × Str))
  | 0,_=>[]
  | k+1,l=>l.take n::chop n k (l.drop n)
noncomputable def b3x:List (Int × Str):=b3I.take 17
noncomputable def b3c:List (List (Int × Str)):=chop 17 37 (b3I.drop 17)
noncomputable def b3l:List (Int × Str):=b3I.drop 646
noncomputable def b3E:List DictEntry:=mainE 303 b3x b3c b3l
noncomputable def b3O:Obj:=dO b3E 650
noncomputable def subO (i:Nat):Obj:=(mainR 303 b3c b3l).getD i default
noncomputable def bltEs (P:Params):List (List Nat)→Nat→List DictEntry→List DictEntry
  | [],_,_=>[]
  | c::cs,t,es=>match es with
    | []=>[]
    | e::es=>⟨PyData.keyHash P ⟨⟨c⟩⟩,.str ⟨⟨c⟩⟩ t,e.val⟩::bltEs P cs (t+1) es
noncomputable def bltO (P:Params):Obj:=match PySem.W.boot_o_0 P with
  | ⟨c,d,x,sl⟩=>match x with
    | .dict es n=>⟨c,d,.dict ⟨bltEs P PySem.W.Fast.bltCps 1 es.toList⟩ n,sl⟩
    | x=>⟨c,d,x,sl⟩
end Mine
end
noncomputable section
open PySem PySem.W PySem.W.X PyProof.Rows
namespace Mine
noncomputable def z0:Str:=Str.mk (Array.mk [nat_lit 103,nat_lit 114,nat_lit 111,nat_lit 117,nat_lit 112,nat_lit 105,nat_lit 110,nat_lit 103])
noncomputable def z1:Str:=Str.mk (Array.mk [nat_lit 108,nat_lit 97,nat_lit 115,nat_lit 116,nat_lit 95,nat_lit 105,nat_lit 110,nat_lit 116,nat_lit 101,nat_lit 114,nat_lit 118,nat_lit 97,nat_lit 108])
noncomputable def z2:Str:=Str.mk (Array.mk [nat_lit 105,nat_lit 110,nat_lit 116,nat_lit 101,nat_lit 114,nat_lit 118,nat_lit 97,nat_lit 108])
noncomputable def z3:Str:=Str.mk (Array.mk [nat_lit 67,nat_lit 72,nat_lit 65,nat_lit 82,nat_lit 95,nat_lit 77,nat_lit 65,nat_lit 88])
noncomputable def z4:Str:=Str.mk (Array.mk [nat_lit 86,nat_lit 97,nat_lit 108,nat_lit 117,nat_lit 101,nat_lit 69,nat_lit 114,nat_lit 114,nat_lit 111,nat_lit 114])
noncomputable def z5:Str:=Str.mk (Array.mk [nat_lit 105,nat_lit 110,nat_lit 118,nat_lit 97,nat_lit 108,nat_lit 105,nat_lit 100,nat_lit 32,nat_lit 103,nat_lit 114,nat_lit 111,nat_lit 117,nat_lit 112,nat_lit 105,nat_lit 110,nat_lit 103])
noncomputable def z6:Str:=Str.mk (Array.mk [nat_lit 95,nat_lit 103,nat_lit 114,nat_lit 111,nat_lit 117,nat_lit 112,nat_lit 105,nat_lit 110,nat_lit 103,nat_lit 95,nat_lit 105,nat_lit 110,nat_lit 116,nat_lit 101,nat_lit 114,nat_lit 118,nat_lit 97,nat_lit 108,nat_lit 115])
noncomputable def z7:Str:=Str.mk (Array.mk [nat_lit 115])
noncomputable def z8:Str:=Str.mk (Array.mk [nat_lit 97,nat_lit 109,nat_lit 111,nat_lit 117,nat_lit 110,nat_lit 116])
noncomputable def z9:Str:=Str.mk (Array.mk [nat_lit 108,nat_lit 112,nat_lit 111,nat_lit 115])
noncomputable def z10:Str:=Str.mk (Array.mk [nat_lit 32])
noncomputable def z11:Str:=Str.mk (Array.mk [nat_lit 114,nat_lit 112,nat_lit 111,nat_lit 115])
noncomputable def z12:Str:=Str.mk (Array.mk [nat_lit 108,nat_lit 101,nat_lit 110])
noncomputable def z13:Str:=Str.mk (Array.mk [nat_lit 95,nat_lit 115,nat_lit 116,nat_lit 114,nat_lit 105,nat_lit 112,nat_lit 95,nat_lit 112,nat_lit 97,nat_lit 100,nat_lit 100,nat_lit 105,nat_lit 110,nat_lit 103])
noncomputable def z14:Str:=Str.mk (Array.mk [nat_lit 97,nat_lit 100,nat_lit 100,nat_lit 114])
noncomputable def z15:Str:=Str.mk (Array.mk [nat_lit 112,nat_lit 111,nat_lit 115])
noncomputable def z16:Str:=Str.mk (Array.mk [nat_lit 101,nat_lit 115,nat_lit 99,nat_lit 97,nat_lit 112,nat_lit 101])
noncomputable def z17:Str:=Str.mk (Array.mk [nat_lit 92])
noncomputable def z18:Str:=Str.mk (Array.mk [nat_lit 99,nat_lit 104])
noncomputable def z19:Str:=Str.mk (Array.mk [nat_lit 101,nat_lit 110,nat_lit 117,nat_lit 109,nat_lit 101,nat_lit 114,nat_lit 97,nat_lit 116,nat_lit 101])
noncomputable def z20:Str:=Str.mk (Array.mk [nat_lit 95,nat_lit 105,nat_lit 116,nat_lit 101,nat_lit 114,nat_lit 95,nat_lit 101,nat_lit 115,nat_lit 99,nat_lit 97,nat_lit 112,nat_lit 101,nat_lit 100,nat_lit 95,nat_lit 99,nat_lit 104,nat_lit 97,nat_lit 114,nat_lit 115])
noncomputable def z21:Str:=Str.mk (Array.mk [nat_lit 34])
noncomputable def z22:Str:=Str.mk (Array.mk [nat_lit 115,nat_lit 116,nat_lit 97,nat_lit 114,nat_lit 116])
noncomputable def z23:Str:=Str.mk (Array.mk [nat_lit 111,nat_lit 112,nat_lit 101,nat_lit 110,nat_lit 95,nat_lit 112,nat_lit 111,nat_lit 115])
noncomputable def z24:Str:=Str.mk (Array.mk [nat_lit 114,nat_lit 101,nat_lit 115,nat_lit 117,nat_lit 108,nat_lit 116])
noncomputable def z25:Str:=Str.mk (Array.mk [nat_lit 97,nat_lit 112,nat_lit 112,nat_lit 101,nat_lit 110,nat_lit 100])
noncomputable def z26:Str:=Str.mk (Array.mk [])
noncomputable def z27:Str:=Str.mk (Array.mk [nat_lit 106,nat_lit 111,nat_lit 105,nat_lit 110])
noncomputable def z28:Str:=Str.mk (Array.mk [nat_lit 95,nat_lit 115,nat_lit 116,nat_lit 114,nat_lit 105,nat_lit 112,nat_lit 95,nat_lit 113,nat_lit 117,nat_lit 111,nat_lit 116,nat_lit 101,nat_lit 100,nat_lit 95,nat_lit 114,nat_lit 101,nat_lit 97,nat_lit 108,nat_lit 110,nat_lit 97,nat_lit 109,nat_lit 101,nat_lit 115])
noncomputable def z29:Str:=Str.mk (Array.mk [nat_lit 99,nat_lit 111,nat_lit 100,nat_lit 101])
noncomputable def z30:Str:=Str.mk (Array.mk [nat_lit 111,nat_lit 114,nat_lit 100])
noncomputable def z31:Str:=Str.mk (Array.mk [nat_lit 98,nat_lit 49,nat_lit 95,nat_lit 115,nat_lit 101,nat_lit 116])
noncomputable def z32:Str:=Str.mk (Array.mk [nat_lit 105,nat_lit 110,nat_lit 95,nat_lit 116,nat_lit 97,nat_lit 98,nat_lit 108,nat_lit 101,nat_lit 95,nat_lit 98,nat_lit 49])
noncomputable def z33:Str:=Str.mk (Array.mk [nat_lit 114])
noncomputable def z34:Str:=Str.mk (Array.mk [nat_lit 98,nat_lit 51,nat_lit 95,nat_lit 101,nat_lit 120,nat_lit 99,nat_lit 101,nat_lit 112,nat_lit 116,nat_lit 105,nat_lit 111,nat_lit 110,nat_lit 115])
noncomputable def z35:Str:=Str.mk (Array.mk [nat_lit 103,nat_lit 101,nat_lit 116])
noncomputable def z36:Str:=Str.mk (Array.mk [nat_lit 108,nat_lit 111,nat_lit 119,nat_lit 101,nat_lit 114])
noncomputable def z37:Str:=Str.mk (Array.mk [nat_lit 109,nat_lit 97,nat_lit 112,nat_lit 95,nat_lit 116,nat_lit 97,nat_lit 98,nat_lit 108,nat_lit 101,nat_lit 95,nat_lit 98,nat_lit 51])
noncomputable def z38:Str:=Str.mk (Array.mk [nat_lit 116,nat_lit 101,nat_lit 120,nat_lit 116])
noncomputable def z39:Str:=Str.mk (Array.mk [nat_lit 103,nat_lit 117,nat_lit 101,nat_lit 115,nat_lit 116,nat_lit 115])
noncomputable def z40:Str:=Str.mk (Array.mk [nat_lit 117,nat_lit 110,nat_lit 105,nat_lit 116])
noncomputable def z41:Str:=Str.mk (Array.mk [nat_lit 112,nat_lit 108,nat_lit 97,nat_lit 99,nat_lit 101])
noncomputable def z42:Str:=Str.mk (Array.mk [nat_lit 95,nat_lit 108,nat_lit 97,nat_lit 119,nat_lit 95,nat_lit 103,nat_lit 117,nat_lit 101,nat_lit 115,nat_lit 116,nat_lit 115])
noncomputable def z43:Str:=Str.mk (Array.mk [nat_lit 99,nat_lit 97,nat_lit 109,nat_lit 101])
noncomputable def z44:Str:=Str.mk (Array.mk [nat_lit 115,nat_lit 101,nat_lit 114,nat_lit 118,nat_lit 101,nat_lit 115])
noncomputable def z45:Str:=Str.mk (Array.mk [nat_lit 116])
noncomputable def z46:Str:=Str.mk (Array.mk [nat_lit 114,nat_lit 97,nat_lit 110,nat_lit 103,nat_lit 101])
noncomputable def z47:Str:=Str.mk (Array.mk [nat_lit 109,nat_lit 105,nat_lit 110])
noncomputable def z48:Str:=Str.mk (Array.mk [nat_lit 117])
noncomputable def z49:Str:=Str.mk (Array.mk [nat_lit 115,nat_lit 117,nat_lit 109])
noncomputable def z50:Str:=Str.mk (Array.mk [nat_lit 46,nat_lit 48])
noncomputable def z51:Str:=Str.mk (Array.mk [nat_lit 102,nat_lit 97,nat_lit 115,nat_lit 116])
noncomputable def z52:Str:=Str.mk (Array.mk [nat_lit 95,nat_lit 108,nat_lit 97,nat_lit 119,nat_lit 95,nat_lit 111,nat_lit 117,nat_lit 116])
noncomputable def z53:Str:=Str.mk (Array.mk [nat_lit 115,nat_lit 99,nat_lit 114,nat_lit 105,nat_lit 112,nat_lit 116])
noncomputable def z54:Str:=Str.mk (Array.mk [nat_lit 114,nat_lit 111,nat_lit 119])
noncomputable def z55:Str:=Str.mk (Array.mk [nat_lit 119])
noncomputable def z56:Str:=Str.mk (Array.mk [nat_lit 102,nat_lit 105,nat_lit 114,nat_lit 115,nat_lit 116])
noncomputable def z57:Str:=Str.mk (Array.mk [nat_lit 115,nat_lit 101,nat_lit 99,nat_lit 111,nat_lit 110,nat_lit 100])
noncomputable def z58:Str:=Str.mk (Array.mk [nat_lit 116,nat_lit 101,nat_lit 120,nat_lit 116,nat_lit 115])
noncomputable def z59:Str:=Str.mk (Array.mk [nat_lit 104,nat_lit 117,nat_lit 114,nat_lit 114,nat_lit 105,nat_lit 101,nat_lit 100])
noncomputable def z60:Str:=Str.mk (Array.mk [nat_lit 118])
noncomputable def z61:Str:=Str.mk (Array.mk [nat_lit 107])
noncomputable def z62:Str:=Str.mk (Array.mk [nat_lit 107,nat_lit 105,nat_lit 110,nat_lit 100])
noncomputable def z63:Str:=Str.mk (Array.mk [nat_lit 111,nat_lit 110,nat_lit 101])
noncomputable def z64:Str:=Str.mk (Array.mk [nat_lit 110])
noncomputable def z65:Str:=Str.mk (Array.mk [nat_lit 107,nat_lit 223,nat_lit 64259,nat_lit 173,nat_lit 13254,nat_lit 34])
noncomputable def z66:Str:=Str.mk (Array.mk [nat_lit 108,nat_lit 101,nat_lit 102,nat_lit 116])
noncomputable def z67:Str:=Str.mk (Array.mk [nat_lit 120])
noncomputable def z68:Str:=Str.mk (Array.mk [nat_lit 114,nat_lit 105,nat_lit 103,nat_lit 104,nat_lit 116])
noncomputable def z69:Str:=Str.mk (Array.mk [nat_lit 108,nat_lit 105,nat_lit 110,nat_lit 101,nat_lit 115])
noncomputable def z70:Str:=Str.mk (Array.mk [nat_lit 108,nat_lit 105,nat_lit 110,nat_lit 101])
noncomputable def z71:Str:=Str.mk (Array.mk [nat_lit 103,nat_lit 111,nat_lit 101,nat_lit 115])
noncomputable def z72:Str:=Str.mk (Array.mk [nat_lit 122,nat_lit 105,nat_lit 112])
noncomputable def z73:Str:=Str.mk (Array.mk [nat_lit 104,nat_lit 111,nat_lit 117,nat_lit 114,nat_lit 115])
noncomputable def z74:Str:=Str.mk (Array.mk [nat_lit 112,nat_lit 97,nat_lit 115,nat_lit 115,nat_lit 101,nat_lit 100])
noncomputable def z75:Str:=Str.mk (Array.mk [nat_lit 111,nat_lit 117,nat_lit 116])
noncomputable def z76:Str:=Str.mk (Array.mk [nat_lit 121])
noncomputable def z77:Str:=Str.mk (Array.mk [nat_lit 113,nat_lit 117,nat_lit 105,nat_lit 99,nat_lit 107])
noncomputable def z78:Str:=Str.mk (Array.mk [nat_lit 108,nat_lit 97,nat_lit 119])
noncomputable def z79:Str:=Str.mk (Array.mk [nat_lit 95,nat_lit 95,nat_lit 110,nat_lit 97,nat_lit 109,nat_lit 101,nat_lit 95,nat_lit 95])
noncomputable def z80:Str:=Str.mk (Array.mk [nat_lit 108,nat_lit 97,nat_lit 119,nat_lit 95,nat_lit 119,nat_lit 97,nat_lit 48,nat_lit 48,nat_lit 51,nat_lit 54,nat_lit 95,nat_lit 48,nat_lit 49])
noncomputable def z81:Str:=Str.mk (Array.mk [nat_lit 95,nat_lit 95,nat_lit 100,nat_lit 111,nat_lit 99,nat_lit 95,nat_lit 95])
noncomputable def z82:Str:=Str.mk (Array.mk [nat_lit 95,nat_lit 95,nat_lit 112,nat_lit 97,nat_lit 99,nat_lit 107,nat_lit 97,nat_lit 103,nat_lit 101,nat_lit 95,nat_lit 95])
noncomputable def z83:Str:=Str.mk (Array.mk [nat_lit 95,nat_lit 95,nat_lit 108,nat_lit 111,nat_lit 97,nat_lit 100,nat_lit 101,nat_lit 114,nat_lit 95,nat_lit 95])
noncomputable def z84:Str:=Str.mk (Array.mk [nat_lit 95,nat_lit 95,nat_lit 115,nat_lit 112,nat_lit 101,nat_lit 99,nat_lit 95,nat_lit 95])
noncomputable def z85:Str:=Str.mk (Array.mk [nat_lit 95,nat_lit 95,nat_lit 97,nat_lit 110,nat_lit 110,nat_lit 111,nat_lit 116,nat_lit 97,nat_lit 116,nat_lit 105,nat_lit 111,nat_lit 110,nat_lit 115,nat_lit 95,nat_lit 95])
noncomputable def z86:Str:=Str.mk (Array.mk [nat_lit 95,nat_lit 95,nat_lit 98,nat_lit 117,nat_lit 105,nat_lit 108,nat_lit 116,nat_lit 105,nat_lit 110,nat_lit 115,nat_lit 95,nat_lit 95])
noncomputable def z87:Str:=Str.mk (Array.mk [nat_lit 95,nat_lit 95,nat_lit 102,nat_lit 105,nat_lit 108,nat_lit 101,nat_lit 95,nat_lit 95])
noncomputable def z88:Str:=Str.mk (Array.mk [nat_lit 47,nat_lit 99,nat_lit 108,nat_lit 97,nat_lit 105,nat_lit 109,nat_lit 47,nat_lit 99,nat_lit 117,nat_lit 116,nat_lit 46,nat_lit 112,nat_lit 121])
noncomputable def z89:Str:=Str.mk (Array.mk [nat_lit 95,nat_lit 95,nat_lit 99,nat_lit 97,nat_lit 99,nat_lit 104,nat_lit 101,nat_lit 100,nat_lit 95,nat_lit 95])
noncomputable def z90:Str:=Str.mk (Array.mk [nat_lit 99,nat_lit 112,nat_lit 121,nat_lit 51,nat_lit 49,nat_lit 51,nat_lit 46,nat_lit 108,nat_lit 111,nat_lit 99,nat_lit 97,nat_lit 108,nat_lit 101])
noncomputable def z91:Str:=Str.mk (Array.mk [nat_lit 99,nat_lit 112,nat_lit 121,nat_lit 51,nat_lit 49,nat_lit 51,nat_lit 46,nat_lit 101,nat_lit 109,nat_lit 97,nat_lit 105,nat_lit 108,nat_lit 46,nat_lit 117,nat_lit 116,nat_lit 105,nat_lit 108,nat_lit 115])
noncomputable def z92:Str:=Str.mk (Array.mk [nat_lit 99,nat_lit 112,nat_lit 121,nat_lit 51,nat_lit 49,nat_lit 51,nat_lit 46,nat_lit 115,nat_lit 116,nat_lit 114,nat_lit 105,nat_lit 110,nat_lit 103,nat_lit 112,nat_lit 114,nat_lit 101,nat_lit 112])
noncomputable def z93:Str:=Str.mk (Array.mk [nat_lit 95,nat_lit 103,nat_lit 114,nat_lit 111,nat_lit 117,nat_lit 112,nat_lit 105,nat_lit 110,nat_lit 103,nat_lit 95,nat_lit 105,nat_lit 110,nat_lit 116,nat_lit 101,nat_lit 114,nat_lit 118,nat_lit 97,nat_lit 108,nat_lit 115,nat_lit 46,nat_lit 60,nat_lit 108,nat_lit 111,nat_lit 99,nat_lit 97,nat_lit 108,nat_lit 115,nat_lit 62,nat_lit 46])
noncomputable def z94:Str:=Str.mk (Array.mk [nat_lit 95,nat_lit 115,nat_lit 116,nat_lit 114,nat_lit 105,nat_lit 112,nat_lit 95,nat_lit 112,nat_lit 97,nat_lit 100,nat_lit 100,nat_lit 105,nat_lit 110,nat_lit 103,nat_lit 46,nat_lit 60,nat_lit 108,nat_lit 111,nat_lit 99,nat_lit 97,nat_lit 108,nat_lit 115,nat_lit 62,nat_lit 46])
noncomputable def z95:Str:=Str.mk (Array.mk [nat_lit 95,nat_lit 105,nat_lit 116,nat_lit 101,nat_lit 114,nat_lit 95,nat_lit 101,nat_lit 115,nat_lit 99,nat_lit 97,nat_lit 112,nat_lit 101,nat_lit 100,nat_lit 95,nat_lit 99,nat_lit 104,nat_lit 97,nat_lit 114,nat_lit 115,nat_lit 46,nat_lit 60,nat_lit 108,nat_lit 111,nat_lit 99,nat_lit 97,nat_lit 108,nat_lit 115,nat_lit 62,nat_lit 46])
noncomputable def z96:Str:=Str.mk (Array.mk [nat_lit 95,nat_lit 115,nat_lit 116,nat_lit 114,nat_lit 105,nat_lit 112,nat_lit 95,nat_lit 113,nat_lit 117,nat_lit 111,nat_lit 116,nat_lit 101,nat_lit 100,nat_lit 95,nat_lit 114,nat_lit 101,nat_lit 97,nat_lit 108,nat_lit 110,nat_lit 97,nat_lit 109,nat_lit 101,nat_lit 115,nat_lit 46,nat_lit 60,nat_lit 108,nat_lit 111,nat_lit 99,nat_lit 97,nat_lit 108,nat_lit 115,nat_lit 62,nat_lit 46])
noncomputable def z97:Str:=Str.mk (Array.mk [nat_lit 105,nat_lit 110,nat_lit 95,nat_lit 116,nat_lit 97,nat_lit 98,nat_lit 108,nat_lit 101,nat_lit 95,nat_lit 98,nat_lit 49,nat_lit 46,nat_lit 60,nat_lit 108,nat_lit 111,nat_lit 99,nat_lit 97,nat_lit 108,nat_lit 115,nat_lit 62,nat_lit 46])
noncomputable def z98:Str:=Str.mk (Array.mk [nat_lit 109,nat_lit 97,nat_lit 112,nat_lit 95,nat_lit 116,nat_lit 97,nat_lit 98,nat_lit 108,nat_lit 101,nat_lit 95,nat_lit 98,nat_lit 51,nat_lit 46,nat_lit 60,nat_lit 108,nat_lit 111,nat_lit 99,nat_lit 97,nat_lit 108,nat_lit 115,nat_lit 62,nat_lit 46])
noncomputable def z99:Str:=Str.mk (Array.mk [nat_lit 95,nat_lit 108,nat_lit 97,nat_lit 119,nat_lit 95,nat_lit 103,nat_lit 117,nat_lit 101,nat_lit 115,nat_lit 116,nat_lit 115,nat_lit 46,nat_lit 60,nat_lit 108,nat_lit 111,nat_lit 99,nat_lit 97,nat_lit 108,nat_lit 115,nat_lit 62,nat_lit 46])
noncomputable def z100:Str:=Str.mk (Array.mk [nat_lit 95,nat_lit 108,nat_lit 97,nat_lit 119,nat_lit 95,nat_lit 111,nat_lit 117,nat_lit 116,nat_lit 46,nat_lit 60,nat_lit 108,nat_lit 111,nat_lit 99,nat_lit 97,nat_lit 108,nat_lit 115,nat_lit 62,nat_lit 46])
noncomputable def z101:Str:=Str.mk (Array.mk [nat_lit 108,nat_lit 97,nat_lit 119,nat_lit 46,nat_lit 60,nat_lit 108,nat_lit 111,nat_lit 99,nat_lit 97,nat_lit 108,nat_lit 115,nat_lit 62,nat_lit 46])
noncomputable def fGi:Stmt:=stmtAt 2
noncomputable def fGia:Arguments:=sArgs fGi
noncomputable def fGis:Scope:=sScope fGi
noncomputable def fGi_:List Stmt:=sBody fGi
noncomputable def fGi_t5:Expr:=sExp (nthS fGi_ 1)
noncomputable def fGi_b5:List Stmt:=sBody (nthS fGi_ 1)
noncomputable def fGi_c11:Expr:=sExp (nthS (sBody (nthS fGi_b5 1)) 1)
noncomputable def fGi_b11:List Stmt:=sBody (nthS (sBody (nthS fGi_b5 1)) 1)
noncomputable def fSp:Stmt:=stmtAt 3
noncomputable def fSpa:Arguments:=sArgs fSp
noncomputable def fSps:Scope:=sScope fSp
noncomputable def fSp_:List Stmt:=sBody fSp
noncomputable def fSp_c17:Expr:=sExp (nthS fSp_ 1)
noncomputable def fSp_b17:List Stmt:=sBody (nthS fSp_ 1)
noncomputable def fSp_c21:Expr:=sExp (nthS fSp_ 3)
noncomputable def fSp_b21:List Stmt:=sBody (nthS fSp_ 3)
noncomputable def fIe:Stmt:=stmtAt 5
noncomputable def fIea:Arguments:=sArgs fIe
noncomputable def fIes:Scope:=sScope fIe
noncomputable def fIe_:List Stmt:=sBody fIe
noncomputable def fIe_t29:Expr:=sExp (nthS fIe_ 2)
noncomputable def fIe_b29:List Stmt:=sBody (nthS fIe_ 2)
noncomputable def fSq:Stmt:=stmtAt 6
noncomputable def fSqa:Arguments:=sArgs fSq
noncomputable def fSqs:Scope:=sScope fSq
noncomputable def fSq_:List Stmt:=sBody fSq
noncomputable def fSq_t45:Expr:=sExp (nthS fSq_ 4)
noncomputable def fSq_b45:List Stmt:=sBody (nthS fSq_ 4)
noncomputable def fB1:Stmt:=stmtAt 9
noncomputable def fB1a:Arguments:=sArgs fB1
noncomputable def fB1s:Scope:=sScope fB1
noncomputable def fB1_:List Stmt:=sBody fB1
noncomputable def fB3:Stmt:=stmtAt 11
noncomputable def fB3a:Arguments:=sArgs fB3
noncomputable def fB3s:Scope:=sScope fB3
noncomputable def fB3_:List Stmt:=sBody fB3
noncomputable def fLg:Stmt:=stmtAt 13
noncomputable def fLga:Arguments:=sArgs fLg
noncomputable def fLgs:Scope:=sScope fLg
noncomputable def fLg_:List Stmt:=sBody fLg
noncomputable def fLg_t70:Expr:=sExp (nthS fLg_ 1)
noncomputable def fLg_b70:List Stmt:=sBody (nthS fLg_ 1)
noncomputable def fLo:Stmt:=stmtAt 14
noncomputable def fLoa:Arguments:=sArgs fLo
noncomputable def fLos:Scope:=sScope fLo
noncomputable def fLo_:List Stmt:=sBody fLo
noncomputable def lc75_11:Expr:=(sExp (nthS fLo_ 0))
noncomputable def lc75_16:Expr:=(eArg (eElt lc75_11) 0)
noncomputable def fLaw:Stmt:=stmtAt 15
noncomputable def fLawa:Arguments:=sArgs fLaw
noncomputable def fLaws:Scope:=sScope fLaw
noncomputable def fLaw_:List Stmt:=sBody fLaw
noncomputable def fLaw_t84:Expr:=sExp (nthS fLaw_ 7)
noncomputable def fLaw_b84:List Stmt:=sBody (nthS fLaw_ 7)
noncomputable def fLaw_t88:Expr:=sExp (nthS fLaw_b84 3)
noncomputable def fLaw_b88:List Stmt:=sBody (nthS fLaw_b84 3)
noncomputable def fLaw_t100:Expr:=sExp (nthS fLaw_ 11)
noncomputable def fLaw_b100:List Stmt:=sBody (nthS fLaw_ 11)
noncomputable def lc109_19:Expr:=(eArg (sExp (nthS fLaw_ 15)) 0)
noncomputable def lc111_20:Expr:=(eCmp (sExp (nthS fLaw_ 17)) 0)
noncomputable def o0 (P:Params):Obj:=bltO P
noncomputable def o2 (P:Params):Obj:=⟨.none,none,(.dict ⟨[]⟩ 0),⟨[]⟩⟩
noncomputable def o3 (P:Params):Obj:=⟨(.type "dict"),none,(.dict ⟨[⟨PyData.keyHash P z79,.str z79 165,(.str z80 2262)⟩,⟨PyData.keyHash P z81,.str z81 166,.none⟩,⟨PyData.keyHash P z82,.str z82 167,.none⟩,⟨PyData.keyHash P z83,.str z83 168,(.builtin "__main__.__loader__#opaque")⟩,⟨PyData.keyHash P z84,.str z84 169,.none⟩,⟨PyData.keyHash P z85,.str z85 170,(.ref 6)⟩,⟨PyData.keyHash P z86,.str z86 171,(.ref 4)⟩,⟨PyData.keyHash P z87,.str z87 173,(.str z88 172)⟩,⟨PyData.keyHash P z89,.str z89 174,.none⟩,⟨PyData.keyHash P z3,.str z3 190,(.int 127 189)⟩,⟨PyData.keyHash P z6,.str z6 199,(.ref 21)⟩,⟨PyData.keyHash P z13,.str z13 209,(.ref 28)⟩,⟨PyData.keyHash P z20,.str z20 221,(.ref 35)⟩,⟨PyData.keyHash P z28,.str z28 233,(.ref 42)⟩,⟨PyData.keyHash P z31,.str z31 295,(.ref 50)⟩,⟨PyData.keyHash P z32,.str z32 302,(.ref 60)⟩,⟨PyData.keyHash P z34,.str z34 2253,(.ref 61)⟩,⟨PyData.keyHash P z37,.str z37 2261,(.ref 106)⟩,⟨PyData.keyHash P z42,.str z42 2273,(.ref 113)⟩,⟨PyData.keyHash P z52,.str z52 2279,(.ref 118)⟩,⟨PyData.keyHash P z78,.str z78 2285,(.ref 123)⟩]⟩ 21),⟨[]⟩⟩
noncomputable def o20 (P:Params):Obj:=⟨(.type "code"),none,(.fields ⟨[(.str z6 191),(.str z6 192),(.str z88 193),(.int 3 0),(.int 1 0),(.int 0 0),(.int 0 0),(.int 35 0),(.ref 15),(.bool true),(.int 181 0),(.ref 16),.none,(.ref 17),(.ref 18),(.ref 19),(.int 197 0),(.int 3 0),(.str z88 198)]⟩),⟨[]⟩⟩
noncomputable def o21 (P:Params):Obj:=⟨(.type "function"),none,(.func (FuncData.mk z6 z6 fGia (.stmts fGi_) fGis 3 [] .none .none .none (.str z90 187) none (.ref 20) .none 0)),⟨[]⟩⟩
noncomputable def o27 (P:Params):Obj:=⟨(.type "code"),none,(.fields ⟨[(.str z13 200),(.str z13 201),(.str z88 202),(.int 15 0),(.int 2 0),(.int 0 0),(.int 0 0),(.int 3 0),(.ref 22),(.bool true),(.int 181 0),(.ref 23),.none,(.ref 24),(.ref 25),(.ref 26),(.int 207 0),(.int 15 0),(.str z88 208)]⟩),⟨[]⟩⟩
noncomputable def o28 (P:Params):Obj:=⟨(.type "function"),none,(.func (FuncData.mk z13 z13 fSpa (.stmts fSp_) fSps 3 [] .none .none .none (.str z90 187) none (.ref 27) .none 0)),⟨[]⟩⟩
noncomputable def o34 (P:Params):Obj:=⟨(.type "code"),none,(.fields ⟨[(.str z20 212),(.str z20 213),(.str z88 214),(.int 26 0),(.int 1 0),(.int 0 0),(.int 0 0),(.int 35 0),(.ref 29),(.bool true),(.int 181 0),(.ref 30),.none,(.ref 31),(.ref 32),(.ref 33),(.int 219 0),(.int 26 0),(.str z88 220)]⟩),⟨[]⟩⟩
noncomputable def o35 (P:Params):Obj:=⟨(.type "function"),none,(.func (FuncData.mk z20 z20 fIea (.stmts fIe_) fIes 3 [] .none .none .none (.str z91 210) none (.ref 34) .none 0)),⟨[]⟩⟩
noncomputable def o41 (P:Params):Obj:=⟨(.type "code"),none,(.fields ⟨[(.str z28 222),(.str z28 223),(.str z88 224),(.int 39 0),(.int 1 0),(.int 0 0),(.int 0 0),(.int 3 0),(.ref 36),(.bool true),(.int 181 0),(.ref 37),.none,(.ref 38),(.ref 39),(.ref 40),(.int 231 0),(.int 39 0),(.str z88 232)]⟩),⟨[]⟩⟩
noncomputable def o42 (P:Params):Obj:=⟨(.type "function"),none,(.func (FuncData.mk z28 z28 fSqa (.stmts fSq_) fSqs 3 [] .none .none .none (.str z91 210) none (.ref 41) .none 0)),⟨[]⟩⟩
noncomputable def o50 (P:Params):Obj:=⟨(.type "set"),none,(.set ⟨[(65024,(.int 65024 252)),(65025,(.int 65025 253)),(65026,(.int 65026 254)),(65027,(.int 65027 255)),(65028,(.int 65028 256)),(65029,(.int 65029 257)),(6150,(.int 6150 238)),(65030,(.int 65030 258)),(65031,(.int 65031 259)),(65032,(.int 65032 260)),(65033,(.int 65033 261)),(6155,(.int 6155 239)),(6156,(.int 6156 240)),(6157,(.int 6157 241)),(8203,(.int 8203 242)),(8204,(.int 8204 243)),(8205,(.int 8205 244)),(65034,(.int 65034 262)),(65035,(.int 65035 263)),(65036,(.int 65036 264)),(65037,(.int 65037 265)),(65038,(.int 65038 266)),(65039,(.int 65039 267)),(173,(.int 173 236)),(847,(.int 847 237)),(8288,(.int 8288 245)),(65279,(.int 65279 246))]⟩ 29 (SetTable.mk 127 ⟨[0,1,2,3,4,5,6,7,8,9,10,11,12,13,14,15,16,17,18,19,20,21,22,45,79,96,127]⟩ ⟨[]⟩ 0 (!P.followText "set-order") 2 true)),⟨[]⟩⟩
noncomputable def o59 (P:Params):Obj:=⟨(.type "code"),none,(.fields ⟨[(.str z32 296),(.str z32 297),(.str z88 298),(.int 59 0),(.int 1 0),(.int 0 0),(.int 0 0),(.int 3 0),(.ref 54),(.bool true),(.int 181 0),(.ref 55),.none,(.ref 56),(.ref 57),(.ref 58),(.int 300 0),(.int 59 0),(.str z88 301)]⟩),⟨[]⟩⟩
noncomputable def o60 (P:Params):Obj:=⟨(.type "function"),none,(.func (FuncData.mk z32 z32 fB1a (.stmts fB1_) fB1s 3 [] .none .none .none (.str z92 234) none (.ref 59) .none 0)),⟨[]⟩⟩
noncomputable def o61 (P:Params):Obj:=b3O
noncomputable def o105 (P:Params):Obj:=⟨(.type "code"),none,(.fields ⟨[(.str z37 2254),(.str z37 2255),(.str z88 2256),(.int 62 0),(.int 1 0),(.int 0 0),(.int 0 0),(.int 3 0),(.ref 100),(.bool true),(.int 181 0),(.ref 101),.none,(.ref 102),(.ref 103),(.ref 104),(.int 2259 0),(.int 62 0),(.str z88 2260)]⟩),⟨[]⟩⟩
noncomputable def o106 (P:Params):Obj:=⟨(.type "function"),none,(.func (FuncData.mk z37 z37 fB3a (.stmts fB3_) fB3s 3 [] .none .none .none (.str z92 234) none (.ref 105) .none 0)),⟨[]⟩⟩
noncomputable def o112 (P:Params):Obj:=⟨(.type "code"),none,(.fields ⟨[(.str z42 2264),(.str z42 2265),(.str z88 2266),(.int 68 0),(.int 1 0),(.int 0 0),(.int 0 0),(.int 3 0),(.ref 107),(.bool true),(.int 181 0),(.ref 108),.none,(.ref 109),(.ref 110),(.ref 111),(.int 2271 0),(.int 68 0),(.str z88 2272)]⟩),⟨[]⟩⟩
noncomputable def o113 (P:Params):Obj:=⟨(.type "function"),none,(.func (FuncData.mk z42 z42 fLga (.stmts fLg_) fLgs 3 [] .none .none .none (.str z80 2262) none (.ref 112) .none 0)),⟨[]⟩⟩
noncomputable def o117 (P:Params):Obj:=⟨(.type "code"),none,(.fields ⟨[(.str z52 2274),(.str z52 2275),(.str z88 2276),(.int 74 0),(.int 2 0),(.int 0 0),(.int 0 0),(.int 3 0),(.ref 114),(.bool true),(.int 181 0),(.ref 115),.none,.none,.none,(.ref 116),(.int 2277 0),(.int 74 0),(.str z88 2278)]⟩),⟨[]⟩⟩
noncomputable def o118 (P:Params):Obj:=⟨(.type "function"),none,(.func (FuncData.mk z52 z52 fLoa (.stmts fLo_) fLos 3 [] .none .none .none (.str z80 2262) none (.ref 117) .none 0)),⟨[]⟩⟩
noncomputable def o122 (P:Params):Obj:=⟨(.type "code"),none,(.fields ⟨[(.str z78 2280),(.str z78 2281),(.str z88 2282),(.int 76 0),(.int 1 0),(.int 0 0),(.int 0 0),(.int 3 0),(.ref 119),(.bool true),(.int 181 0),(.ref 120),.none,.none,.none,(.ref 121),(.int 2283 0),(.int 76 0),(.str z88 2284)]⟩),⟨[]⟩⟩
noncomputable def o123 (P:Params):Obj:=⟨(.type "function"),none,(.func (FuncData.mk z78 z78 fLawa (.stmts fLaw_) fLaws 3 [] .none .none .none (.str z80 2262) none (.ref 122) .none 0)),⟨[]⟩⟩
noncomputable def fGiq:Str:=z93
noncomputable def fSpq:Str:=z94
noncomputable def fIeq:Str:=z95
noncomputable def fSqq:Str:=z96
noncomputable def fB1q:Str:=z97
noncomputable def fB3q:Str:=z98
noncomputable def fLgq:Str:=z99
noncomputable def fLoq:Str:=z100
noncomputable def fLawq:Str:=z101
noncomputable def kt (P:Params):KT:=(.node (some (o0 P)) (.node none (.node (some (o3 P)) .nil (.node none (.node none (.node (some (o35 P)) .nil .nil) .nil) (.node (some (o27 P)) .nil (.node (some (o59 P)) .nil (.node (some (o123 P)) .nil .nil))))) (.node none (.node none (.node none .nil (.node none .nil (.node (some (o113 P)) .nil .nil))) (.node none (.node (some (o41 P)) .nil (.node (some (o105 P)) .nil .nil)) .nil)) (.node none (.node (some (o21 P)) .nil (.node none .nil (.node (some (o117 P)) .nil .nil))) (.node none .nil (.node (some (o61 P)) .nil .nil))))) (.node (some (o2 P)) (.node none (.node none (.node none .nil (.node none .nil (.node (some (o112 P)) .nil .nil))) .nil) (.node none (.node (some (o20 P)) .nil .nil) (.node (some (o28 P)) .nil (.node (some (o60 P)) .nil .nil)))) (.node none (.node none (.node none (.node (some (o34 P)) .nil .nil) (.node (some (o50 P)) .nil .nil)) (.node none (.node (some (o42 P)) .nil (.node (some (o106 P)) .nil .nil)) (.node none .nil (.node (some (o122 P)) .nil .nil)))) (.node none (.node none .nil (.node none .nil (.node (some (o118 P)) .nil .nil))) .nil))))
end Mine
end
section
open PySem PySem.W PySem.W.X PyProof.Rows
namespace Mine
noncomputable def den:Code→Sem Fin:=PySem.W.Fast.tw11892475500146522536 PySem.W.Fast.tw14364793385576792824
theorem den_eq:den = denote table:=by
  unfold den
  rw [← PySem.W.Fast.te11892475500146522536,← PySem.W.Fast.te14364793385576792824,← table_eq_tree]
noncomputable def rowF (b1 b2:Bool) (f:String→Bool) (r:String):Bool:=match PySem.W.Fast.strDec r "special-get-raises" with
  | .isTrue _=>b1
  | .isFalse _=>match PySem.W.Fast.strDec r "comprehension-iter-twice" with
    | .isTrue _=>b2
    | .isFalse _=>f r
noncomputable def rowP (b1 b2:Bool) (P:Params):Params:={ P with followText:=rowF b1 b2 P.followText }
noncomputable abbrev view (w:World) (b2:Bool) (h0:Heap) (B:List Frame) (bw:List (Code × Pos)) (d:Drawn) (os:OsState):Vw:=⟨PySem.Challenge.pw_wa0036_01,w,rowP true b2 w.params,rowP false b2 w.params,h0,kt w.params,B,bw,d,os⟩
noncomputable def ent (P:Params) (n:Str) (t:Nat) (v:Value):DictEntry:=⟨PyData.keyHash P n,.str n t,v⟩
noncomputable def nsO (es:List DictEntry) (n:Nat):Obj:=⟨.type "frame",none,.dict ⟨es⟩ n,⟨[]⟩⟩
noncomputable def envF (sc:Scope) (q:Str) (f:Nat) (cells:List (Str × Addr)) (L:Nat):Env:={ scope:=sc,locals:=L,globals:=3,cells:=cells,qual:=q,func:=some f,code:=.ref (f - 1),frame:=some L,builtins:=0 }

noncomputable def lcScope (e:PySem.Expr):Scope:=match e with | .ListComp _ _ s _=>s | _=>default
noncomputable def envC (e:PySem.Expr) (q:Str) (cells:List (Str × Addr)) (L:Nat) (fn:Option Addr) (code:Value) (fr:Option Addr):Env:={ scope:=lcScope e,locals:=L,globals:=3,cells:=cells,qual:=q,func:=fn,code:=code,frame:=fr,builtins:=0 }
noncomputable def tupE (e:PySem.Expr):List PySem.Expr:=match e with | .Tuple es _ _=>es | _=>[]
noncomputable def tupK (e:PySem.Expr):Nat:=match e with | .Tuple _ k _=>k | _=>0
noncomputable def tupP (e:PySem.Expr):Pos:=match e with | .Tuple _ _ p=>p | _=>⟨0,0,0,0⟩
noncomputable def sAt (x:Str) (i:Int):Str:=⟨⟨[x.cps.toList.getD i.toNat 0]⟩⟩
noncomputable def lmin (l:List Int):Int:=match l with | []=>0 | x::r=>r.foldl min x
noncomputable def sLen (x:Str):Int:=(x.cps.toList.length:Int)
noncomputable def sAdd (x y:Str):Str:=⟨⟨x.cps.toList ++ y.cps.toList⟩⟩
noncomputable def sMul (x:Str) (n:Int):Str:=⟨⟨(List.replicate n.toNat x.cps.toList).flatten⟩⟩

abbrev N2:=Nat→Nat→Nat
noncomputable abbrev fO (t:String) (l:List Value):Obj:=⟨.type t,none,.fields ⟨l⟩,⟨[]⟩⟩
noncomputable abbrev tO (l:List Value):Obj:=⟨.type "tuple",none,.seq ⟨l⟩ 0,⟨[]⟩⟩
noncomputable abbrev cB (i:String) (l:List Value):Code:=.call (.builtin i) ⟨l,[]⟩
noncomputable abbrev cR (f:Nat) (l:List Value):Code:=.call (.ref f) ⟨l,[]⟩
noncomputable abbrev oV (v:Value):Out:=⟨none,[],.ok (.ret v)⟩
noncomputable abbrev mkD (c:Code) (p:Pos) (f:List Frame) (M:List (Addr × Obj)) (s t:Nat) (G:List (Nat × GenState)) (g:Nat):St:=mk (den c) c p f M s t G g

theorem Vw.eq_of {V V':Vw} (e1:V'.prog = V.prog) (e2:V'.w = V.w) (e3:V'.pt = V.pt) (e4:V'.pf = V.pf) (e5:V'.h0 = V.h0) (e6:V'.kt = V.kt) (e7:V'.B = V.B) (e8:V'.bw = V.bw) (e9:V'.d = V.d) (e10:V'.os = V.os):V' = V:=by
  cases V
  cases V'
  cases e1; cases e2; cases e3; cases e4; cases e5; cases e6; cases e7; cases e8; cases e9; cases e10
  rfl
theorem under_view {w:World} {b2:Bool} {h0:Heap} {B:List Frame} {bw bw':List (Code × Pos)} {d:Drawn} {os:OsState} {pos:Pos} {V':Vw} (u:(view w b2 h0 B bw d os).under bw' pos V') :
    ∃ B',V' = view w b2 h0 B' bw' d os ∧ (view w b2 h0 B' bw' d os).Ok:=by
  have h:V' = view w b2 h0 V'.B bw' d os:=Vw.eq_of u.1 u.2.1 u.2.2.1 u.2.2.2.1 u.2.2.2.2.1 u.2.2.2.2.2.1 rfl u.2.2.2.2.2.2.1 u.2.2.2.2.2.2.2.1 u.2.2.2.2.2.2.2.2.1
  have O:=u.2.2.2.2.2.2.2.2.2.1
  exact ⟨V'.B,h,h ▸ O⟩
end Mine
end
section
open PySem PySem.W PySem.W.X PyProof.Rows
namespace Mine

structure IsC {α:Type} (C:Sem α→Sem PySem.Fin):Prop where
  load:∀ a p k,C (.load a p k) = .load a p fun o=>C (k o)
  upd:∀ a p f k,C (.update a p f k) = .update a p f fun o=>C (k o)
  alloc:∀ o k,C (.alloc o k) = .alloc o fun x=>C (k x)
  fresh:∀ k,C (.fresh k) = .fresh fun x=>C (k x)
  ask:∀ k,C (.ask k) = .ask fun x=>C (k x)
  rule:∀ t k,C (.rule t k) = .rule t fun x=>C (k x)
  pos:∀ p k,C (.at p k) = .at p fun x=>C (k x)
  call:∀ c m g l k,∃ m' g' l',C (.call c m g l k) = .call c m' g' l' fun r=>C (k r)

section
variable {α β:Type}
theorem IsC.bind {C:Sem β→Sem PySem.Fin} (h:IsC C) (f:α→Sem β):IsC fun x:Sem α=>C (x.bind f) :=
  ⟨fun _ _ _=>h.load _ _ _,fun _ _ _ _=>h.upd _ _ _ _,fun _ _=>h.alloc _ _,fun _=>h.fresh _,fun _=>h.ask _,fun _ _=>h.rule _ _,fun _ _=>h.pos _ _,fun _ _ _ _ _=>h.call _ _ _ _ _⟩
theorem IsC.keep {C:Sem α→Sem PySem.Fin} (h:IsC C) (vs:List Value):IsC fun x:Sem α=>C (x.keep vs) :=
  ⟨fun _ _ _=>h.load _ _ _,fun _ _ _ _=>h.upd _ _ _ _,fun _ _=>h.alloc _ _,fun _=>h.fresh _,fun _=>h.ask _,fun _ _=>h.rule _ _,fun _ _=>h.pos _ _,fun _ _ _ _ _=>h.call _ _ _ _ _⟩
theorem IsC.onRaise {C:Sem α→Sem PySem.Fin} (h:IsC C) (g:Value→Sem Unit):IsC fun x:Sem α=>C (x.onRaise g) :=
  ⟨fun _ _ _=>h.load _ _ _,fun _ _ _ _=>h.upd _ _ _ _,fun _ _=>h.alloc _ _,fun _=>h.fresh _,fun _=>h.ask _,fun _ _=>h.rule _ _,fun _ _=>h.pos _ _,fun _ _ _ _ _=>h.call _ _ _ _ _⟩
theorem IsC.holding {C:Sem α→Sem PySem.Fin} (h:IsC C) (vs:List Value):IsC fun x:Sem α=>C (holding vs x):=by
  unfold PySem.holding
  split
  · exact h
  · exact h.keep _
theorem IsC.wrap (K:α→Sem PySem.Fin) (H:Value→Sem PySem.Fin):IsC fun x:Sem α=>x.wrap K H id id :=
  ⟨fun _ _ _=>rfl,fun _ _ _ _=>rfl,fun _ _=>rfl,fun _=>rfl,fun _=>rfl,fun _ _=>rfl,fun _ _=>rfl,fun c m g l k=>⟨m,g,l,rfl⟩⟩
end

section
variable {w:World} {n₀:Nat} {ann:Option Value} {q:Pos} {c:Code}

theorem segGo_add {tb:String→Option Builtin} {p:Program} {b:Nat}:∀ {n m:Nat} {s s':Shared} {t t':Thread} {r:Shared × Thread},segGo tb p w n₀ ann b n s t = some (s',t')→segGo tb p w n₀ ann b m s' t' = some r→segGo tb p w n₀ ann b (n+m) s t = some r
  | 0,m,s,s',t,t',r,h,k=>by
    obtain ⟨rfl,rfl⟩:s = s' ∧ t = t':=by simpa [segGo] using h
    rw [Nat.zero_add]; exact k
  | n+1,m,s,s',t,t',r,h,k=>by
    rw [show n+1+m = n+m+1 by omega]
    unfold segGo at h ⊢
    cases he:endAt b t with
    | some f=>rw [he] at h; cases h
    | none =>
      rw [he] at h
      cases hk:stepOk n₀ ann t with
      | false=>rw [hk] at h; cases h
      | true =>
        rw [hk] at h
        cases hs:step (denote tb) p w s t with
        | halt o s₂=>rw [hs] at h; cases h
        | go s₂ t₂=>rw [hs] at h; exact segGo_add h k

def G (w:World) (n₀:Nat) (ann:Option Value) (b:Nat) (s:Shared) (t:Thread) (s':Shared) (t':Thread):Prop:=∃ n,n ≤ b ∧ segGo treeTable pw w n₀ ann 1 n s t = some (s',t')
theorem G.refl {s:Shared} {t:Thread}:G w n₀ ann 0 s t s t:=⟨0,Nat.le_refl _,rfl⟩
theorem G.trans {b b':Nat} {s s' s'':Shared} {t t' t'':Thread} (h:G w n₀ ann b s t s' t') (k:G w n₀ ann b' s' t' s'' t''):G w n₀ ann (b+b') s t s'' t'':=by
  obtain ⟨n,h1,h2⟩:=h
  obtain ⟨m,k1,k2⟩:=k
  exact ⟨n+m,Nat.add_le_add h1 k1,segGo_add h2 k2⟩
theorem G.le {b b':Nat} {s s':Shared} {t t':Thread} (h:G w n₀ ann b s t s' t') (k:b ≤ b'):G w n₀ ann b' s t s' t' :=
  let ⟨n,h1,h2⟩:=h; ⟨n,Nat.le_trans h1 k,h2⟩
theorem G.one {s s':Shared} {t t':Thread} (h0:endAt 1 t = none) (h1:stepOk n₀ ann t = true) (h2:step (denote treeTable) pw w s t = .go s' t'):G w n₀ ann 1 s t s' t' :=
  ⟨1,Nat.le_refl _,by
    unfold segGo
    rw [h0,h1,h2]
    rfl⟩

noncomputable abbrev th (q:Pos) (c:Code) (p:Pos) (cur:Sem PySem.Fin):Thread:=⟨cur,c,p,[topFrame q]⟩
variable {α:Type} {C:Sem α→Sem PySem.Fin} {s:Shared} {p:Pos}

theorem g_load (hC:IsC C) {a:Addr} {v:Option Value} {k:Obj→Sem α} {o:Obj} (h:s.heap.get? a = some o):G w n₀ ann 1 s (th q c p (C (.load a v k))) s (th q c p (C (k o))):=by
  rw [hC.load]
  refine .one rfl rfl ?_
  show (match s.heap.get? a with | some o=>_ | none=>_) = _
  rw [h]
theorem g_update (hC:IsC C) {a:Addr} {v:Option Value} {f:Obj→Obj} {k:Unit→Sem α} {o:Obj} (h:s.heap.get? a = some o) (ha:Nat.ble n₀ a = true):G w n₀ ann 1 s (th q c p (C (.update a v f k))) { s with heap:=s.heap.update a f } (th q c p (C (k ()))):=by
  rw [hC.upd]
  refine .one rfl ?_ ?_
  · show (true && (Nat.ble n₀ a || _ || _ || _)) = true
    rw [ha]; rfl
  · show (if (s.heap.get? a).isSome then _ else _) = _
    rw [h]; rfl
theorem g_alloc (hC:IsC C) {o:Obj} {k:Addr→Sem α}:G w n₀ ann 1 s (th q c p (C (.alloc o k))) { s with heap:=s.heap.push o } (th q c p (C (k s.heap.objs.size))):=by
  rw [hC.alloc]
  exact .one rfl rfl rfl
theorem g_fresh (hC:IsC C) {k:Tok→Sem α}:G w n₀ ann 1 s (th q c p (C (.fresh k))) { s with toks:=s.toks+1 } (th q c p (C (k s.toks))):=by
  rw [hC.fresh]
  exact .one rfl rfl rfl
theorem g_ask (hC:IsC C) {k:Setting→Sem α}:G w n₀ ann 1 s (th q c p (C (.ask k))) s (th q c p (C (k ⟨pw,w.params⟩))):=by
  rw [hC.ask]
  exact .one rfl rfl rfl
theorem g_rule (hC:IsC C) {t:String} {k:Unit→Sem α}:G w n₀ ann 1 s (th q c p (C (.rule t k))) s (th q c p (C (k ()))):=by
  rw [hC.rule]
  exact .one rfl rfl rfl
theorem g_at (hC:IsC C) {p':Pos} {k:Unit→Sem α}:G w n₀ ann 1 s (th q c p (C (.at p' k))) s (th q c p' (C (k ()))):=by
  rw [hC.pos]
  exact .one rfl rfl rfl

theorem den_hash_call (i:Int) (t:Nat):denote treeTable (.call (.builtin "int.__hash__") ⟨[.int i t],[]⟩) = .pure (.again (.builtin "int.__hash__" ⟨[.int i t],[]⟩)):=by
  rw [← table_eq_tree,← den_eq]
  kernel_rfl
theorem den_hash (i:Int) (t:Nat):denote treeTable (.builtin "int.__hash__" ⟨[.int i t],[]⟩) = .fresh fun t'=>.pure (.done (.ret (.int (rawHash i) t'))):=by
  rw [← table_eq_tree,den_builtin PySem.F.entry_int_hash]
  kernel_rfl
theorem hash_calm (t:Int × Nat) (cd:Code) (fs:List Frame) (ps:Pos):stepOk n₀ ann ⟨.pure (.again (.builtin "int.__hash__" ⟨[.int t.1 t.2],[]⟩)),cd,ps,fs⟩ = true:=by
  have h:String.startsWith "int.__hash__" "lifetime." = false:=by decide +kernel
  show ((!String.startsWith "int.__hash__" "lifetime." || _) && true && true && true) = true
  rw [h]; rfl
theorem g_hash_call (hC:IsC C) {i:Int} {t:Nat} {m:Option Value} {g:Bool} {l:List Value} {k:Result→Sem α} :
    G w n₀ ann 4 s (th q c p (C (.call (.call (.builtin "int.__hash__") ⟨[.int i t],[]⟩) m g l k))) { s with toks:=s.toks+1 } (th q c p (C (k (.ok (.ret (.int (rawHash i) s.toks)))))):=by
  obtain ⟨m',g',l',e⟩:=hC.call (.call (.builtin "int.__hash__") ⟨[.int i t],[]⟩) m g l k
  rw [e]
  have h1:∃ kp,step (denote treeTable) pw w s (th q c p (.call (.call (.builtin "int.__hash__") ⟨[.int i t],[]⟩) m' g' l' fun r=>C (k r))) =
      .go s ⟨.pure (.again (.builtin "int.__hash__" ⟨[.int i t],[]⟩)),.call (.builtin "int.__hash__") ⟨[.int i t],[]⟩,p,[.ret (fun r=>C (k r)) m' g' l' c p kp,topFrame q]⟩:=⟨_,by
    show Step.go s ⟨denote treeTable _,_,_,_⟩ = _
    rw [den_hash_call]⟩
  obtain ⟨kp,h1⟩:=h1
  refine (G.one rfl rfl h1).trans (b':=3) ?_
  refine (G.one rfl (hash_calm (i,t) _ _ _) (PySem.W.step_again ..)).trans (b':=2) ?_
  rw [den_hash]
  exact (G.one rfl rfl rfl).trans (b':=1) (G.one rfl rfl rfl)

noncomputable def askK {α:Type} (x:Sem α):Setting→Sem α:=match x with
  | .ask k=>k
  | _=>fun _=>.raise .none
noncomputable def callK {α:Type} (x:Sem α):Result→Sem α:=match x with
  | .call _ _ _ _ k=>k
  | _=>fun _=>.raise .none
noncomputable def callL {α:Type} (x:Sem α):List Value:=match x with
  | .call _ _ _ l _=>l
  | _=>[]
noncomputable def loadK {α:Type} (x:Sem α):Obj→Sem α:=match x with
  | .load _ _ k=>k
  | _=>fun _=>.raise .none
noncomputable def loadV {α:Type} (x:Sem α):Option Value:=match x with
  | .load _ p _=>p
  | _=>none
theorem hash_ask (i:Int) (t:Nat):pyHash (.int i t) = .ask (askK (pyHash (.int i t))):=by
  rw [PySem.W.Fast.te10540108854288196387]
  kernel_rfl
noncomputable abbrev hashA (i:Int) (t:Nat) (P:Params):Sem Int:=askK (pyHash (.int i t)) ⟨pw,P⟩
theorem hash_call (i:Int) (t:Nat):∀ w:World,hashA i t w.params = .call (.call (.builtin "int.__hash__") ⟨[.int i t],[]⟩) none false (callL (hashA i t w.params)) (callK (hashA i t w.params)):=by
  refine byRow2 "special-get-raises" (fun w=>?_) (fun w=>?_) <;> (unfold hashA; rw [PySem.W.Fast.te10540108854288196387]; kernel_rfl)
theorem hash_end (i j:Int) (t t':Nat):∀ w:World,callK (hashA i t w.params) (.ok (.ret (.int j t'))) = pyHashByItsType.reduced j:=by
  refine byRow2 "special-get-raises" (fun w=>?_) (fun w=>?_) <;> (unfold hashA; rw [PySem.W.Fast.te10540108854288196387]; kernel_rfl)
theorem reduced_raw (i:Int):pyHashByItsType.reduced (rawHash i) = .pure (hashInt i):=by
  have hr:=rawHash_range i
  show (if (decide (-(2:Int) ^ 63 ≤ rawHash i) && decide (rawHash i < 2 ^ 63)) = true then _ else _) = _
  rw [if_pos (by rw [decide_eq_true hr.1,decide_eq_true hr.2]; rfl)]
  rfl
theorem g_hash {D:Sem Int→Sem α} {i:Int} {t:Nat} (hD:IsC fun x=>C (D x)):G w n₀ ann 5 s (th q c p (C (D (pyHash (.int i t))))) { s with toks:=s.toks+1 } (th q c p (C (D (.pure (hashInt i))))):=by
  rw [hash_ask]
  refine (g_ask (C:=fun x=>C (D x)) hD).trans (b':=4) ?_
  show G w n₀ ann 4 s (th q c p (C (D (hashA i t w.params)))) _ _
  rw [hash_call]
  have:=g_hash_call (w:=w) (n₀:=n₀) (ann:=ann) (q:=q) (c:=c) (s:=s) (p:=p) (C:=fun x=>C (D x)) hD (i:=i) (t:=t) (m:=none) (g:=false) (l:=callL (hashA i t w.params)) (k:=callK (hashA i t w.params))
  rw [hash_end,reduced_raw] at this
  exact this
end
end Mine
end
section
open PySem PySem.W PySem.W.X PyProof.Rows
namespace Mine
section
variable {w:World} {n₀:Nat} {ann:Option Value} {q:Pos} {c:Code} {α:Type} {C:Sem α→Sem PySem.Fin} {s:Shared} {p:Pos}

def Fresh (es:List DictEntry) (h:Int):Prop:=∀ e ∈ es,e.hash ≠ h
theorem places_nil {es:List DictEntry} {h:Int} (f:Fresh es h):placesWithHash (⟨es⟩:Array DictEntry).size (fun i=>(⟨es⟩:Array DictEntry)[i]?.map (·.hash)) h = []:=by
  unfold placesWithHash
  rw [List.filter_eq_nil_iff]
  intro i hi
  rw [List.mem_range] at hi
  have hl:i < es.length:=hi
  show ¬ ((((⟨es⟩:Array DictEntry)[i]?).map (·.hash)) == some h) = true
  rw [show (⟨es⟩:Array DictEntry)[i]? = some es[i] from by simp [hl]]
  have:=f es[i] (List.getElem_mem hl)
  simpa using this

theorem g_find {D:Sem (Option Nat)→Sem α} (hD:IsC fun x=>C (D x)) {d:Addr} {es:List DictEntry} {n:Nat} {i:Int} {t:Nat} {h:Int} (ho:s.heap.get? d = some (dO es n)) (f:Fresh es h) :
    G w n₀ ann 1 s (th q c p (C (D (dictFind d (.int i t) h)))) s (th q c p (C (D (.pure none)))):=by
  unfold dictFind
  show G w n₀ ann 1 s (th q c p (C (D (.load d (some (.int i 0)) _)))) _ _
  refine (g_load (C:=fun x=>C (D x)) hD ho).trans (b':=0) ?_
  have e:∀ x:Sem (Option Nat),x = .pure none→G w n₀ ann 0 s (th q c p (C (D x))) s (th q c p (C (D (.pure none)))):=fun x e=>by rw [e]; exact .refl
  refine e _ ?_
  show (if ((Value.int i t::(placesWithHash (⟨es⟩:Array DictEntry).size (fun i=>(⟨es⟩:Array DictEntry)[i]?.map (·.hash)) h).filterMap fun i=>(⟨es⟩:Array DictEntry)[i]?.map (·.key)).all carriedByValue) = true then dictWalkPlain d (.int i t) h ⟨es⟩ (placesWithHash (⟨es⟩:Array DictEntry).size (fun i=>(⟨es⟩:Array DictEntry)[i]?.map (·.hash)) h) else _) = _
  rw [places_nil f]
  rfl

theorem g_eq {D:Sem α} {D':Sem α} (e:D = D'):G w n₀ ann 0 s (th q c p (C D)) s (th q c p (C D')):=by rw [e]; exact .refl
theorem g_keys {D:Sem Unit→Sem α} (hD:IsC fun x=>C (D x)) {d:Addr} {es:List DictEntry} {n:Nat} {e:DictEntry} {v:Option Value} (ho:s.heap.get? d = some (dO es n)) (hn:Nat.ble n₀ d = true) (hl:es.length ≤ 65536) :
    G w n₀ ann 3 s (th q c p (C (D (updateDictKeys d (·.push e) v)))) { s with heap:=s.heap.update d (fun _=>dO (es ++ [e]) (n+1)) } (th q c p (C (D (.pure ())))):=by
  have hu:s.heap.update d (Obj.mapDictKeys (·.push e)) = s.heap.update d (fun _=>dO (es ++ [e]) (n+1)):=by
    obtain ⟨⟨objs,life⟩,gens,drawn,toks,os⟩:=s
    show Heap.mk _ _ = Heap.mk _ _
    congr 1
    have hg:(Heap.mk objs life).get? d = some (dO es n):=ho
    have hd:objs[d]? = some (dO es n):=by
      unfold Heap.get? at hg
      simp only at hg
      split at hg
      · cases hg
      · exact hg
    apply Array.ext_getElem?
    intro i
    rw [Array.getElem?_modify,Array.getElem?_modify]
    by_cases q:d = i
    · subst q
      rw [if_pos rfl,if_pos rfl,hd]
      show some (Obj.mapDictKeys _ (dO es n)) = some _
      unfold dO Obj.mapDictKeys
      simp
    · rw [if_neg q,if_neg q]
  unfold updateDictKeys
  show G w n₀ ann 3 s (th q c p (C (D (.load d v _)))) _ _
  refine (g_load (C:=fun x=>C (D x)) hD ho).trans (b':=2) ?_
  show G w n₀ ann 2 s (th q c p (C (D (.update d v _ _)))) _ _
  refine (g_update (C:=fun x=>C (D x)) hD ho hn).trans (b':=1) ?_
  show G w n₀ ann 1 _ (th q c p (C (D (.load d v _)))) _ _
  have h2:(s.heap.update d (Obj.mapDictKeys (·.push e))).get? d = some (dO (es ++ [e]) (n+1)):=by
    rw [hu]
    exact Heap.get?_update_self _ ho rfl
  refine (g_load (C:=fun x=>C (D x)) hD h2).trans (b':=0) ?_
  rw [← hu]
  refine g_eq ?_
  congr 1
  have hp:Data.pastItsLine (dO (es ++ [e]) (n+1)).data = none:=by
    show (if (⟨es ++ [e]⟩:Array DictEntry).size > sizeLine+1 then some "dict:memory" else none) = none
    rw [if_neg]
    rw [sizeLine_eq]; show ¬ (es ++ [e]).length > _; rw [List.length_append,List.length_singleton]; omega
  show (match Data.pastItsLine (dO (es ++ [e]) (n+1)).data with | some what=>(unsupported what:Sem Unit) | _=>pure ()) = _
  rw [hp]
  rfl
theorem g_set {D:Sem Unit→Sem α} (hD:IsC fun x=>C (D x)) {d:Addr} {es:List DictEntry} {n:Nat} {i:Int} {t:Nat} {x:Str} {u:Nat} (ho:s.heap.get? d = some (dO es n)) (hn:Nat.ble n₀ d = true) (hl:es.length ≤ 65536) (f:Fresh es (hashInt i)) :
    G w n₀ ann 10 s (th q c p (C (D (dictSet d (.int i t) (.str x u))))) { s with heap:=s.heap.update d (fun _=>dO (es ++ [⟨hashInt i,.int i t,.str x u⟩]) (n+1)),toks:=s.toks+1 } (th q c p (C (D (.pure ())))):=by
  show G w n₀ ann 10 s (th q c p (C (D ((pyHash (.int i t)).bind fun h=>dictSetHashed d (.int i t) h (.str x u))))) _ _
  refine (g_hash (D:=fun y=>D (y.bind fun h=>dictSetHashed d (.int i t) h (.str x u))) (hD.bind _)).trans (b':=5) ?_
  show G w n₀ ann 5 _ (th q c p (C (D ((dictFind d (.int i t) (hashInt i)).bind _)))) _ _
  refine (g_find (s:={ s with toks:=s.toks+1 }) (D:=fun y=>D (y.bind _)) (hD.bind _) (show s.heap.get? d = _ from ho) f).trans (b':=4) ?_
  show G w n₀ ann 4 _ (th q c p (C (D (.rule _ _)))) _ _
  refine (g_rule (C:=fun x=>C (D x)) hD).trans (b':=3) ?_
  exact g_keys (s:={ s with toks:=s.toks+1 }) hD ho hn hl
end
end Mine
end
section
open PySem PySem.W PySem.W.X PyProof.Rows
namespace Mine
theorem upd_upd (h:Heap) (a:Addr) (o o':Obj):(h.update a fun _=>o).update a (fun _=>o') = h.update a fun _=>o':=by
  obtain ⟨objs,life⟩:=h
  show Heap.mk _ _ = Heap.mk _ _
  congr 1
  apply Array.ext_getElem?
  intro i
  rw [Array.getElem?_modify,Array.getElem?_modify,Array.getElem?_modify]
  by_cases q:a = i
  · subst q; simp only [if_true,Option.map_map]; rfl
  · rw [if_neg q,if_neg q,if_neg q]
noncomputable def hs (its:List (Int × Str)):List Int:=its.map fun x=>hashInt x.1
theorem ents_hash:∀ (its:List (Int × Str)) (t:Nat),(ents t its).map (·.hash) = hs its
  | [],_=>rfl
  | x::r,t=>by show _::_ = _::_; rw [ents_hash r]; rfl
theorem ents2_hash:∀ (its:List (Int × Str)) (t:Nat),(ents2 t its).map (·.hash) = hs its
  | [],_=>rfl
  | x::r,t=>by show _::_ = _::_; rw [ents2_hash r]; rfl
theorem ents_len:∀ (its:List (Int × Str)) (t:Nat),(ents t its).length = its.length
  | [],_=>rfl
  | x::r,t=>by show _+1 = _+1; rw [ents_len r]
theorem ents2_len:∀ (its:List (Int × Str)) (t:Nat),(ents2 t its).length = its.length
  | [],_=>rfl
  | x::r,t=>by show _+1 = _+1; rw [ents2_len r]
theorem fresh_of {es:List DictEntry} {l:List Int} {i:Int} (nd:(es.map (·.hash) ++ i::l).Nodup):Fresh es i:=by
  intro e he q
  rw [List.nodup_append] at nd
  exact nd.2.2 _ (List.mem_map_of_mem he) _ (.head _) q
theorem nodup_step {es:List DictEntry} {l:List Int} {i:Int} {e:DictEntry} (he:e.hash = i) (nd:(es.map (·.hash) ++ i::l).Nodup):((es ++ [e]).map (·.hash) ++ l).Nodup:=by
  rw [List.map_append,List.append_assoc]
  simpa [he] using nd

section
variable {w:World} {n₀:Nat} {ann:Option Value} {q:Pos} {c:Code} {α:Type} {C:Sem α→Sem PySem.Fin} {s:Shared} {p:Pos}
noncomputable abbrev kT (x:Int × Str):Sem Value:=mkInt x.1
noncomputable abbrev vT (p:Pos) (x:Int × Str):Sem Value:=(do let v ← mkText x.2; standAt p; pure v)
noncomputable abbrev pT (p:Pos) (x:Int × Str):Sem Value × Sem Value:=(kT x,vT p x)

noncomputable abbrev longF (d:Addr):Sem Value × Sem Value→PUnit→Sem (ForInStep PUnit):=fun x _=>match x with
  | (k,v)=>do
    let kv ← k
    let vv ← holding [kv] v
    holding [kv,vv] (dictSet d kv vv)
    pure (ForInStep.yield PUnit.unit)
noncomputable abbrev sh (b:Shared) (h:Heap) (t:Nat):Shared:=⟨h,b.gens,b.drawn,t,b.os⟩
theorem upd_self {h:Heap} {d:Addr} {o:Obj} (ho:h.get? d = some o):h.update d (fun _=>o) = h:=by
  obtain ⟨objs,life⟩:=h
  show Heap.mk _ _ = Heap.mk _ _
  congr 1
  have hd:objs[d]? = some o:=by
    unfold Heap.get? at ho
    simp only at ho
    split at ho
    · cases ho
    · exact ho
  apply Array.ext_getElem?
  intro i
  rw [Array.getElem?_modify]
  by_cases q:d = i
  · subst q
    rw [if_pos rfl,hd]
    rfl
  · rw [if_neg q]
theorem g_long {d:Addr} (hn:Nat.ble n₀ d = true) (b:Shared) {D:Sem PUnit→Sem α} (hD:IsC fun x=>C (D x)):∀ (its:List (Int × Str)) {h:Heap} {t:Nat} {es:List DictEntry} {n:Nat},
    h.get? d = some (dO es n)→es.length+its.length ≤ 65536→(es.map (·.hash) ++ hs its).Nodup →
    G w n₀ ann (13 * its.length) (sh b h t) (th q c p (C (D (forIn (its.map (pT p)) PUnit.unit (longF d)))))
      (sh b (h.update d (fun _=>dO (es ++ ents t its) (n+its.length))) (t+3 * its.length)) (th q c p (C (D (.pure PUnit.unit))))
  | [],h,t,es,n,ho,hl,nd=>by
    rw [List.length_nil,show es ++ ents t [] = es from List.append_nil es,upd_self (show h.get? d = some (dO es (n+0)) from ho)]
    exact .refl
  | x::its,h,t,es,n,ho,hl,nd=>by
    rw [List.length_cons] at hl
    have f:Fresh es (hashInt x.1):=fresh_of (l:=hs its) nd
    let e1:DictEntry:=⟨hashInt x.1,.int x.1 t,.str x.2 (t+1)⟩
    have ho3:(h.update d fun _=>dO (es ++ [e1]) (n+1)).get? d = some (dO (es ++ [e1]) (n+1)):=Heap.get?_update_self _ ho rfl
    have ih:=g_long hn b hD its (h:=h.update d (fun _=>dO (es ++ [e1]) (n+1))) (t:=t+3) ho3
      (by rw [List.length_append,List.length_singleton]; omega) (nodup_step (i:=hashInt x.1) rfl nd)
    have e2:(h.update d fun _=>dO (es ++ [e1]) (n+1)).update d (fun _=>dO ((es ++ [e1]) ++ ents (t+3) its) (n+1+its.length)) = h.update d (fun _=>dO (es ++ ents t (x::its)) (n+(its.length+1))):=by
      rw [upd_upd,List.append_assoc,show n+1+its.length = n+(its.length+1) by omega]
      rfl
    have e3:t+3+3 * its.length = t+3 * (its.length+1):=by omega
    rw [e2,e3] at ih
    rw [List.length_cons]
    refine G.le (b:=13+13 * its.length) (.trans ?_ ih) (by omega)
    rw [List.map_cons,List.forIn_cons]
    show G w n₀ ann 13 _ (th q c p (C (D (.fresh _)))) _ _
    refine (g_fresh (C:=fun x=>C (D x)) hD).trans (b':=12) ?_
    show G w n₀ ann 12 _ (th q c p (C (D (.fresh _)))) _ _
    refine (g_fresh (C:=fun x=>C (D x)) hD).trans (b':=11) ?_
    show G w n₀ ann 11 _ (th q c p (C (D (.at _ _)))) _ _
    refine (g_at (C:=fun x=>C (D x)) hD).trans (b':=10) ?_
    refine (g_set (s:=sh b h (t+2)) (D:=fun y=>D ((y.bind fun _=>(pure (ForInStep.yield PUnit.unit):Sem (ForInStep PUnit))).bind _)) ((hD.bind _).bind _) ho hn (by omega) f).trans (b':=0) ?_
    exact .refl
end
end Mine
end
section
open PySem PySem.W PySem.W.X PyProof.Rows
namespace Mine
theorem inst_load (a:Nat):isInstance (.ref a) (.type "dict") = .load a (loadV (isInstance (.ref a) (.type "dict"))) (loadK (isInstance (.ref a) (.type "dict"))):=by
  rw [PySem.W.Fast.te6571733998842723752]
  kernel_rfl
theorem inst_end (a:Nat) (es:List DictEntry) (n:Nat):loadK (isInstance (.ref a) (.type "dict")) (dO es n) = .pure true:=by
  rw [PySem.W.Fast.te6571733998842723752]
  kernel_rfl
theorem iter_load (a:Nat):specialOf (.ref a) (Str.ofString "__iter__") = .load a (loadV (specialOf (.ref a) (Str.ofString "__iter__"))) (loadK (specialOf (.ref a) (Str.ofString "__iter__"))):=by
  rw [PySem.W.Fast.te4214721358667687652]
  kernel_rfl
theorem iter_end (a:Nat) (es:List DictEntry) (n:Nat):loadK (specialOf (.ref a) (Str.ofString "__iter__")) (dO es n) = .pure (some (.builtin "dict.__iter__")):=by
  rw [PySem.W.Fast.te4214721358667687652]
  kernel_rfl
section
variable {w:World} {n₀:Nat} {ann:Option Value} {q:Pos} {c:Code} {α:Type} {C:Sem α→Sem PySem.Fin} {p:Pos}

theorem g_inst {D:Sem Bool→Sem α} (hD:IsC fun x=>C (D x)) {s:Shared} {a:Addr} {es:List DictEntry} {n:Nat} (ho:s.heap.get? a = some (dO es n)) :
    G w n₀ ann 1 s (th q c p (C (D (isInstance (.ref a) (.type "dict"))))) s (th q c p (C (D (.pure true)))):=by
  rw [inst_load]
  have:=g_load (w:=w) (n₀:=n₀) (ann:=ann) (q:=q) (c:=c) (p:=p) (C:=fun x=>C (D x)) hD (v:=loadV (isInstance (.ref a) (.type "dict"))) (k:=loadK (isInstance (.ref a) (.type "dict"))) ho
  rw [inst_end] at this
  exact this
theorem g_spec {D:Sem (Option Value)→Sem α} (hD:IsC fun x=>C (D x)) {s:Shared} {a:Addr} {es:List DictEntry} {n:Nat} (ho:s.heap.get? a = some (dO es n)) :
    G w n₀ ann 1 s (th q c p (C (D (specialOf (.ref a) (Str.ofString "__iter__"))))) s (th q c p (C (D (.pure (some (.builtin "dict.__iter__")))))):=by
  rw [iter_load]
  have:=g_load (w:=w) (n₀:=n₀) (ann:=ann) (q:=q) (c:=c) (p:=p) (C:=fun x=>C (D x)) hD (v:=loadV (specialOf (.ref a) (Str.ofString "__iter__"))) (k:=loadK (specialOf (.ref a) (Str.ofString "__iter__"))) ho
  rw [iter_end] at this
  exact this

noncomputable abbrev mergeF (d a:Addr) (epoch:Nat):Nat→PUnit→Sem (ForInStep PUnit):=fun i _=>do
  let es ← dictEntries a
  match es[i]? with
  | some e=>do
    holding [e.key,e.val] (dictPut d e.hash e.key e.val)
    let x ← dictEpoch a
    if (x != epoch) = true then do
      unsupported "dict.changed-during-merge"
      pure (ForInStep.yield PUnit.unit)
    else pure (ForInStep.yield PUnit.unit)
  | _=>do
    unsupported "dict.changed-during-merge"
    pure (ForInStep.yield PUnit.unit)
def Plain (e:DictEntry):Prop:=∃ i t x u,e = ⟨hashInt i,.int i t,.str x u⟩
theorem ents_plain:∀ (its:List (Int × Str)) (t:Nat),∀ e ∈ ents t its,Plain e
  | [],_,_,h=>by cases h
  | x::r,t,e,h=>by
    rcases List.mem_cons.mp h with rfl | h
    · exact ⟨_,_,_,_,rfl⟩
    · exact ents_plain r _ e h
theorem ents2_plain:∀ (its:List (Int × Str)) (t:Nat),∀ e ∈ ents2 t its,Plain e
  | [],_,_,h=>by cases h
  | x::r,t,e,h=>by
    rcases List.mem_cons.mp h with rfl | h
    · exact ⟨_,_,_,_,rfl⟩
    · exact ents2_plain r _ e h
theorem g_mergeLoop {d a:Addr} (hn:Nat.ble n₀ d = true) (hda:a ≠ d) (b:Shared) {D:Sem PUnit→Sem α} (hD:IsC fun x=>C (D x)) (epoch t:Nat):∀ (rest pre:List DictEntry) {h:Heap} {es:List DictEntry} {n:Nat},
    h.get? d = some (dO es n)→h.get? a = some (dO (pre ++ rest) epoch)→(∀ e ∈ rest,Plain e)→es.length+rest.length ≤ 65536→(es.map (·.hash) ++ rest.map (·.hash)).Nodup →
    G w n₀ ann (6 * rest.length) (sh b h t) (th q c p (C (D (forIn (List.range' pre.length rest.length) PUnit.unit (mergeF d a epoch)))))
      (sh b (h.update d (fun _=>dO (es ++ rest) (n+rest.length))) t) (th q c p (C (D (.pure PUnit.unit))))
  | [],pre,h,es,n,ho,ha,hp,hl,nd=>by
    rw [List.length_nil,List.append_nil,upd_self (show h.get? d = some (dO es (n+0)) from ho)]
    exact .refl
  | e::rest,pre,h,es,n,ho,ha,hp,hl,nd=>by
    obtain ⟨i,tk,x,u,rfl⟩:=hp e (.head _)
    rw [List.length_cons] at hl
    rw [List.map_cons] at nd
    let e1:DictEntry:=⟨hashInt i,.int i tk,.str x u⟩
    have f:Fresh es (hashInt i):=fresh_of (l:=rest.map (·.hash)) nd
    have ho3:(h.update d fun _=>dO (es ++ [e1]) (n+1)).get? d = some (dO (es ++ [e1]) (n+1)):=Heap.get?_update_self _ ho rfl
    have ha3:(h.update d fun _=>dO (es ++ [e1]) (n+1)).get? a = some (dO (pre ++ e1::rest) epoch):=(Heap.get?_update_ne _ _ _ _ hda).trans ha
    have ih:=g_mergeLoop hn hda b hD epoch t rest (pre ++ [e1]) (h:=h.update d (fun _=>dO (es ++ [e1]) (n+1))) ho3 (by rw [List.append_assoc]; exact ha3) (fun e he=>hp e (.tail _ he))
      (by rw [List.length_append,List.length_singleton]; omega) (nodup_step (i:=hashInt i) rfl nd)
    have e2:(h.update d fun _=>dO (es ++ [e1]) (n+1)).update d (fun _=>dO ((es ++ [e1]) ++ rest) (n+1+rest.length)) = h.update d (fun _=>dO (es ++ e1::rest) (n+(rest.length+1))):=by
      rw [upd_upd,List.append_assoc,show n+1+rest.length = n+(rest.length+1) by omega]
      rfl
    rw [e2,List.length_append,List.length_singleton] at ih
    rw [List.length_cons]
    refine G.le (b:=6+6 * rest.length) (.trans ?_ ih) (by omega)
    rw [List.range'_succ,List.forIn_cons]
    show G w n₀ ann 6 _ (th q c p (C (D (.load a none _)))) _ _
    refine (g_load (C:=fun x=>C (D x)) hD ha).trans (b':=5) ?_
    have hg:((⟨pre ++ e1::rest⟩:Array DictEntry)[pre.length]?) = some e1:=by simp
    change G w n₀ ann 5 _ (th q c p (C (D (Sem.bind (Sem.bind (Sem.pure (⟨pre ++ e1::rest⟩:Array DictEntry)) _) _)))) _ _
    dsimp only [Sem.bind]
    rw [hg]
    show G w n₀ ann 5 _ (th q c p (C (D ((((dictFind d (.int i tk) (hashInt i)).bind _).bind _).bind _)))) _ _
    refine (g_find (s:=sh b h t) (D:=fun y=>D (((y.bind _).bind _).bind _)) (((hD.bind _).bind _).bind _) ho f).trans (b':=4) ?_
    refine (g_keys (s:=sh b h t) (e:=e1) (D:=fun y=>D ((y.bind _).bind _)) ((hD.bind _).bind _) ho hn (by omega)).trans (b':=1) ?_
    show G w n₀ ann 1 _ (th q c p (C (D (.load a none _)))) _ _
    refine (g_load (C:=fun x=>C (D x)) hD ha3).trans (b':=0) ?_
    show G w n₀ ann 0 _ (th q c p (C (D (Sem.bind (if (epoch != epoch) = true then (unsupported "dict.changed-during-merge" : Sem Unit).bind fun _=>pure (ForInStep.yield PUnit.unit) else pure (ForInStep.yield PUnit.unit)) _)))) _ _
    rw [if_neg (by simp)]
    exact .refl
end
end Mine
end
section
open PySem PySem.W PySem.W.X PyProof.Rows
namespace Mine
section
variable {w:World} {n₀:Nat} {ann:Option Value} {q:Pos} {c:Code} {α:Type} {C:Sem α→Sem PySem.Fin} {p:Pos}

theorem push_upd (h:Heap) (o o':Obj):(h.push o).update h.objs.size (fun _=>o') = h.push o':=by
  obtain ⟨objs,life⟩:=h
  show Heap.mk _ _ = Heap.mk _ _
  congr 1
  apply Array.ext_getElem?
  intro i
  show ((objs.push o).modify objs.size fun _=>o')[i]? = (objs.push o')[i]?
  rw [Array.getElem?_modify,Array.getElem?_push,Array.getElem?_push]
  by_cases q:objs.size = i
  · subst q; simp
  · rw [if_neg q]
    have:¬ i = objs.size:=fun e=>q e.symm
    simp [this]
theorem nodup_nil {l:List Int} (h:l.Nodup):(([]:List DictEntry).map (·.hash) ++ l).Nodup:=h

theorem g_sub (b:Shared) {D:Sem Addr→Sem α} (hD:IsC fun x=>C (D x)) {its:List (Int × Str)} {h:Heap} {t:Nat} (hn:Nat.ble n₀ h.objs.size = true) (h1:15 < its.length) (h2:its.length ≤ 65536) (nd:(hs its).Nodup) :
    G w n₀ ann (2+13 * its.length) (sh b h t) (th q c p (C (D (subDict (its.map (pT p)))))) (sh b (h.push (dO (ents t its) its.length)) (t+3 * its.length)) (th q c p (C (D (.pure h.objs.size)))):=by
  show G w n₀ ann _ (sh b h t) (th q c p (C (D (.alloc (dO [] 0) _)))) _ _
  refine G.le (b:=1+(1+13 * its.length)) (.trans (g_alloc (C:=fun x=>C (D x)) hD) ?_) (by omega)
  show G w n₀ ann _ (sh b (h.push (dO [] 0)) t) (th q c p (C (D (Sem.bind (Sem.keep [.ref h.objs.size] (if (its.map (pT p)).length ≤ 15 then _ else _)) _)))) _ _
  rw [if_neg (by rw [List.length_map]; omega)]
  refine (g_rule (C:=fun x=>C (D (Sem.bind (Sem.keep [.ref h.objs.size] x) _))) ((hD.bind _).keep _)).trans ?_
  have hg:(h.push (dO [] 0)).get? h.objs.size = some (dO [] 0):=Heap.get?_push_size _ rfl
  have:=g_long (w:=w) (n₀:=n₀) (ann:=ann) (q:=q) (c:=c) (p:=p) (C:=C) (d:=h.objs.size) hn b (D:=fun y=>D (Sem.bind (Sem.keep [.ref h.objs.size] (Sem.bind y fun _=>pure ())) fun _=>pure h.objs.size)) (((hD.bind _).keep _).bind _) its (h:=h.push (dO [] 0)) (t:=t) (es:=[]) (n:=0) hg (by simpa using h2) (nodup_nil nd)
  rw [push_upd,List.nil_append,Nat.zero_add] at this
  exact this

noncomputable def vals (t:Nat):List (Int × Str)→List (Value × Value)
  | []=>[]
  | x::r=>(.int x.1 t,.str x.2 (t+1))::vals (t+2) r
theorem g_pairs (b:Shared) {h:Heap}:∀ (its:List (Int × Str)) {D:Sem (List (Value × Value))→Sem α} (_:IsC fun x=>C (D x)) {t:Nat},
    G w n₀ ann (3 * its.length) (sh b h t) (th q c p (C (D (evalPairs (its.map (pT p)))))) (sh b h (t+2 * its.length)) (th q c p (C (D (.pure (vals t its)))))
  | [],D,hD,t=>.refl
  | x::its,D,hD,t=>by
    rw [List.length_cons]
    refine G.le (b:=3+3 * its.length) ?_ (by omega)
    rw [show t+2 * (its.length+1) = t+2+2 * its.length by omega]
    refine .trans ?_ (g_pairs b its (D:=fun y=>D (y.bind fun r=>pure ((.int x.1 t,.str x.2 (t+1))::r))) (hD.bind _) (t:=t+2))
    show G w n₀ ann 3 _ (th q c p (C (D (.fresh _)))) _ _
    refine (g_fresh (C:=fun x=>C (D x)) hD).trans (b':=2) ?_
    show G w n₀ ann 2 _ (th q c p (C (D (.fresh _)))) _ _
    refine (g_fresh (C:=fun x=>C (D x)) hD).trans (b':=1) ?_
    show G w n₀ ann 1 _ (th q c p (C (D (.at _ _)))) _ _
    exact g_at (C:=fun x=>C (D x)) hD

noncomputable abbrev storeF (d:Addr):Value × Value→PUnit→Sem (ForInStep PUnit):=fun x _=>match x with
  | (k,v)=>do
    dictSet d k v
    pure (ForInStep.yield PUnit.unit)
theorem g_store {d:Addr} (hn:Nat.ble n₀ d = true) (b:Shared) {D:Sem PUnit→Sem α} (hD:IsC fun x=>C (D x)):∀ (its:List (Int × Str)) {h:Heap} {t u:Nat} {es:List DictEntry} {n:Nat},
    h.get? d = some (dO es n)→es.length+its.length ≤ 65536→(es.map (·.hash) ++ hs its).Nodup →
    G w n₀ ann (10 * its.length) (sh b h t) (th q c p (C (D (forIn (vals u its) PUnit.unit (storeF d)))))
      (sh b (h.update d (fun _=>dO (es ++ ents2 u its) (n+its.length))) (t+its.length)) (th q c p (C (D (.pure PUnit.unit))))
  | [],h,t,u,es,n,ho,hl,nd=>by
    rw [List.length_nil,show es ++ ents2 u [] = es from List.append_nil es,upd_self (show h.get? d = some (dO es (n+0)) from ho)]
    exact .refl
  | x::its,h,t,u,es,n,ho,hl,nd=>by
    rw [List.length_cons] at hl
    have f:Fresh es (hashInt x.1):=fresh_of (l:=hs its) nd
    let e1:DictEntry:=⟨hashInt x.1,.int x.1 u,.str x.2 (u+1)⟩
    have ho3:(h.update d fun _=>dO (es ++ [e1]) (n+1)).get? d = some (dO (es ++ [e1]) (n+1)):=Heap.get?_update_self _ ho rfl
    have ih:=g_store hn b hD its (h:=h.update d (fun _=>dO (es ++ [e1]) (n+1))) (t:=t+1) (u:=u+2) ho3
      (by rw [List.length_append,List.length_singleton]; omega) (nodup_step (i:=hashInt x.1) rfl nd)
    have e2:(h.update d fun _=>dO (es ++ [e1]) (n+1)).update d (fun _=>dO ((es ++ [e1]) ++ ents2 (u+2) its) (n+1+its.length)) = h.update d (fun _=>dO (es ++ ents2 u (x::its)) (n+(its.length+1))):=by
      rw [upd_upd,List.append_assoc,show n+1+its.length = n+(its.length+1) by omega]
      rfl
    have e3:t+1+its.length = t+(its.length+1):=by omega
    rw [e2,e3] at ih
    rw [List.length_cons]
    refine G.le (b:=10+10 * its.length) (.trans ?_ ih) (by omega)
    show G w n₀ ann _ _ (th q c p (C (D (forIn ((Value.int x.1 u,Value.str x.2 (u+1))::vals (u+2) its) PUnit.unit (storeF d))))) _ _
    rw [List.forIn_cons]
    refine (g_set (s:=sh b h t) (D:=fun y=>D ((y.bind fun _=>(pure (ForInStep.yield PUnit.unit):Sem (ForInStep PUnit))).bind _)) ((hD.bind _).bind _) ho hn (by omega) f).trans (b':=0) ?_
    exact .refl
theorem holding_none {β:Type} (vs:List Value) (m:Sem β) (h:∀ v ∈ vs,∀ a,v ≠ .ref a):holding vs m = m:=by
  unfold holding
  split
  · rfl
  · rename_i hne
    refine absurd ?_ hne
    rw [List.filter_eq_nil_iff]
    intro v hv
    have:=h v hv
    cases v <;> simp_all
theorem vals_no:∀ (its:List (Int × Str)) (t:Nat),∀ v ∈ (vals t its).flatMap fun (x:Value × Value)=>match x with | (k,v)=>[k,v],∀ a,v ≠ .ref a
  | [],_,v,h,a=>by cases h
  | x::r,t,v,h,a=>by
    rw [show vals t (x::r) = (.int x.1 t,.str x.2 (t+1))::vals (t+2) r from rfl,List.flatMap_cons,List.mem_append] at h
    rcases h with h | h
    · intro e
      subst e
      simp at h
    · exact vals_no r (t+2) v h a
theorem g_sub2 (b:Shared) {D:Sem Addr→Sem α} (hD:IsC fun x=>C (D x)) {its:List (Int × Str)} {h:Heap} {t:Nat} (hn:Nat.ble n₀ h.objs.size = true) (h1:its.length ≤ 15) (nd:(hs its).Nodup) :
    G w n₀ ann (1+13 * its.length) (sh b h t) (th q c p (C (D (subDict (its.map (pT p)))))) (sh b (h.push (dO (ents2 t its) its.length)) (t+3 * its.length)) (th q c p (C (D (.pure h.objs.size)))):=by
  show G w n₀ ann _ (sh b h t) (th q c p (C (D (.alloc (dO [] 0) _)))) _ _
  refine G.le (b:=1+(3 * its.length+10 * its.length)) (.trans (g_alloc (C:=fun x=>C (D x)) hD) ?_) (by omega)
  show G w n₀ ann _ (sh b (h.push (dO [] 0)) t) (th q c p (C (D (Sem.bind (Sem.keep [.ref h.objs.size] (if (its.map (pT p)).length ≤ 15 then _ else _)) _)))) _ _
  rw [if_pos (by rw [List.length_map]; omega)]
  refine (g_pairs b its (D:=fun y=>D (Sem.bind (Sem.keep [.ref h.objs.size] (y.bind _)) _)) (((hD.bind _).keep _).bind _) (t:=t)).trans ?_
  have hg:(h.push (dO [] 0)).get? h.objs.size = some (dO [] 0):=Heap.get?_push_size _ rfl
  have:=g_store (w:=w) (n₀:=n₀) (ann:=ann) (q:=q) (c:=c) (p:=p) (C:=C) (d:=h.objs.size) hn b (D:=fun y=>D (Sem.bind (Sem.keep [.ref h.objs.size] (Sem.bind y fun _=>pure ())) fun _=>pure h.objs.size)) (((hD.bind _).keep _).bind _) its (h:=h.push (dO [] 0)) (t:=t+2 * its.length) (u:=t) (es:=[]) (n:=0) hg (by simp; omega) (nodup_nil nd)
  rw [push_upd,List.nil_append,Nat.zero_add,show t+2 * its.length+its.length = t+3 * its.length by omega] at this
  refine G.trans (b:=0) (b':=10 * its.length) ?_ this |>.le (by omega)
  refine g_eq (C:=C) ?_
  show D (Sem.bind (Sem.keep [.ref h.objs.size] (holding ((vals t its).flatMap fun (x:Value × Value)=>match x with | (k,v)=>[k,v]) (Sem.bind (forIn (vals t its) PUnit.unit (storeF h.objs.size)) fun _=>pure ()))) fun _=>pure h.objs.size) = _
  rw [holding_none _ _ (vals_no its t)]
end
end Mine
end
section
open PySem PySem.W PySem.W.X PyProof.Rows
namespace Mine
noncomputable def HH (A:Heap) (m:Obj) (R:List Obj):Heap:=⟨A.objs ++ (m::R).toArray,A.life⟩
theorem HH_first (A:Heap) (m:Obj):A.push m = HH A m []:=by
  obtain ⟨objs,life⟩:=A
  show Heap.mk _ _ = Heap.mk _ _
  congr 1
theorem HH_push (A:Heap) (m o:Obj) (R:List Obj):(HH A m R).push o = HH A m (R ++ [o]):=by
  obtain ⟨objs,life⟩:=A
  show Heap.mk _ _ = Heap.mk _ _
  congr 1
  show (objs ++ (m::R).toArray).push o = objs ++ (m::(R ++ [o])).toArray
  rw [Array.push_eq_append,Array.append_assoc]
  congr 1
  simp
theorem HH_size (A:Heap) (m:Obj) (R:List Obj):(HH A m R).objs.size = A.objs.size+1+R.length:=by
  show (A.objs ++ (m::R).toArray).size = _
  rw [Array.size_append]
  show _+(R.length+1) = _
  omega
theorem HH_get (A:Heap) (es:List DictEntry) (n:Nat) (R:List Obj):(HH A (dO es n) R).get? A.objs.size = some (dO es n):=by
  have:(HH A (dO es n) R).objs[A.objs.size]? = some (dO es n):=by
    show (A.objs ++ (dO es n::R).toArray)[A.objs.size]? = _
    rw [Array.getElem?_append_right (Nat.le_refl _),Nat.sub_self]; rfl
  unfold Heap.get?
  rw [this]
  rfl
theorem HH_upd (A:Heap) (m m':Obj) (R:List Obj):(HH A m R).update A.objs.size (fun _=>m') = HH A m' R:=by
  show Heap.mk _ _ = Heap.mk _ _
  congr 1
  apply Array.ext_getElem?
  intro i
  rw [Array.getElem?_modify]
  by_cases q:A.objs.size = i
  · subst q
    rw [if_pos rfl,Array.getElem?_append_right (Nat.le_refl _),Nat.sub_self]
    show some _ = (A.objs ++ (m'::R).toArray)[A.objs.size]?
    rw [Array.getElem?_append_right (Nat.le_refl _),Nat.sub_self]; rfl
  · rw [if_neg q]
    show (A.objs ++ (m::R).toArray)[i]? = (A.objs ++ (m'::R).toArray)[i]?
    rw [Array.getElem?_append,Array.getElem?_append]
    split
    · rfl
    · obtain ⟨k,hk⟩:∃ k,i - A.objs.size = k+1:=⟨i - A.objs.size - 1,by omega⟩
      rw [hk]; rfl
section
variable {w:World} {n₀:Nat} {ann:Option Value} {q:Pos} {c:Code} {α:Type} {C:Sem α→Sem PySem.Fin} {p:Pos}

theorem g_merge {d a:Addr} (hn:Nat.ble n₀ d = true) (hda:a ≠ d) (hs:(a == sysModules) = false) (b:Shared) {D:Sem Unit→Sem α} (hD:IsC fun x=>C (D x)) {h:Heap} {t:Nat} {es es':List DictEntry} {n n':Nat} (hne:es ≠ [])
    (ho:h.get? d = some (dO es n)) (ha:h.get? a = some (dO es' n')) (hp:∀ e ∈ es',Plain e) (hl:es.length+es'.length ≤ 65536) (nd:(es.map (·.hash) ++ es'.map (·.hash)).Nodup) :
    G w n₀ ann (5+6 * es'.length) (sh b h t) (th q c p (C (D (mergeMapping d (.ref a) false)))) (sh b (h.update d (fun _=>dO (es ++ es') (n+es'.length))) t) (th q c p (C (D (.pure ())))):=by
  have L:=g_mergeLoop (w:=w) (n₀:=n₀) (ann:=ann) (q:=q) (c:=c) (p:=p) (C:=C) hn hda b (D:=fun y=>D (Sem.bind y fun _=>pure ())) (hD.bind _) n' t es' [] (h:=h) (es:=es) (n:=n) ho ha hp hl nd
  refine G.le (b:=1+(1+(1+(1+(1+(0+6 * es'.length)))))) ?_ (by omega)
  refine (g_inst (s:=sh b h t) (D:=fun y=>D (y.bind _)) (hD.bind _) ha).trans ?_
  refine (g_spec (s:=sh b h t) (D:=fun y=>D (Sem.bind y _)) (hD.bind _) ha).trans ?_
  show G w n₀ ann _ _ (th q c p (C (D (if (a == sysModules) = true then _ else _)))) _ _
  rw [if_neg (by rw [hs]; exact Bool.false_ne_true)]
  show G w n₀ ann _ _ (th q c p (C (D (.load d none _)))) _ _
  refine (g_load (C:=fun x=>C (D x)) hD ho).trans ?_
  show G w n₀ ann _ _ (th q c p (C (D (if (⟨es⟩:Array DictEntry).isEmpty = true then _ else _)))) _ _
  rw [if_neg (by cases es <;> simp_all)]
  show G w n₀ ann _ _ (th q c p (C (D (.load a none _)))) _ _
  refine (g_load (C:=fun x=>C (D x)) hD ha).trans ?_
  show G w n₀ ann _ _ (th q c p (C (D (.load a none _)))) _ _
  refine (g_load (C:=fun x=>C (D x)) hD ha).trans (b':=0+6 * es'.length) ?_
  refine G.trans ?_ L
  refine g_eq (C:=C) ?_
  show D (Sem.bind (forIn (List.range es'.length) PUnit.unit (mergeF d a n')) fun _=>pure ()) = _
  rw [List.range_eq_range']
  rfl

noncomputable abbrev letGoH (d:Addr):Value→Sem Unit:=fun x=>do
            let _ ← holding [Value.ref d,x] (runValue (Code.builtin "proto.let_go" { }))
            pure ()
noncomputable abbrev flushT (run:List (Sem Value × Sem Value)) (main:Option Addr):Sem (Option Addr) :=
  if run.isEmpty = true then pure main
    else
      match main with
      | none=>do
        let d ← subDict run
        pure (some d)
      | some d=>do
        let sub ← holding [Value.ref d] (subDict run)
        (holding [Value.ref d,Value.ref sub] (mergeMapping d (Value.ref sub) false)).onRaise fun x=>do
            let _ ← holding [Value.ref d,x] (runValue (Code.builtin "proto.let_go" { }))
            pure ()
        pure (some d)
noncomputable abbrev oT (x:Sem Value × Sem Value):Option (Sem Value) × Sem Value:=(some x.1,x.2)
theorem gather17 (f:(Option (Sem Value) × Sem Value)→(Option Addr × List (Sem Value × Sem Value))→Sem (ForInStep (Option Addr × List (Sem Value × Sem Value))))
    (hf:∀ (x:Sem Value × Sem Value) main run,f (oT x) (main,run) = if ((run ++ [x]).length == 17) = true then (flushT (run ++ [x]) main).bind fun m=>pure (.yield (m,[])) else pure (.yield (main,run ++ [x])))
    (main:Option Addr) (rest:List (Option (Sem Value) × Sem Value)):∀ (items run:List (Sem Value × Sem Value)),items ≠ []→run.length+items.length = 17 →
    forIn (items.map oT ++ rest) (main,run) f = (flushT (run ++ items) main).bind fun m=>forIn rest (m,[]) f
  | [],_,h,_=>absurd rfl h
  | [x],run,_,h=>by
    rw [List.map_cons,List.map_nil,List.singleton_append,List.forIn_cons,hf,if_pos (by rw [List.length_append]; simpa using h)]
    show Sem.bind (Sem.bind _ _) _ = _
    rw [Sem.bind_assoc]
    rfl
  | x::y::r,run,_,h=>by
    rw [List.map_cons,List.cons_append,List.forIn_cons,hf,if_neg (by simp at h ⊢; omega)]
    show forIn ((y::r).map oT ++ rest) (main,run ++ [x]) f = _
    rw [gather17 f hf main rest (y::r) (run ++ [x]) (by simp) (by simp at h ⊢; omega),List.append_assoc]
    rfl
theorem gatherS (f:(Option (Sem Value) × Sem Value)→(Option Addr × List (Sem Value × Sem Value))→Sem (ForInStep (Option Addr × List (Sem Value × Sem Value))))
    (hf:∀ (x:Sem Value × Sem Value) main run,f (oT x) (main,run) = if ((run ++ [x]).length == 17) = true then (flushT (run ++ [x]) main).bind fun m=>pure (.yield (m,[])) else pure (.yield (main,run ++ [x])))
    (main:Option Addr):∀ (items run:List (Sem Value × Sem Value)),run.length+items.length < 17 →
    forIn (items.map oT) (main,run) f = pure (main,run ++ items)
  | [],run,_=>by simp
  | x::r,run,h=>by
    rw [List.map_cons,List.forIn_cons,hf,if_neg (by simp at h ⊢; omega)]
    show forIn (r.map oT) (main,run ++ [x]) f = _
    rw [gatherS f hf main r (run ++ [x]) (by simp at h ⊢; omega),List.append_assoc]
    rfl

theorem ents_app:∀ (a b:List (Int × Str)) (t:Nat),ents t (a ++ b) = ents t a ++ ents (t+3 * a.length) b
  | [],b,t=>rfl
  | x::a,b,t=>by
    show _::ents (t+3) (a ++ b) = _::(ents (t+3) a ++ ents (t+3 * (a.length+1)) b)
    rw [ents_app a b,show t+3+3 * a.length = t+3 * (a.length+1) by omega]
theorem hs_app (a b:List (Int × Str)):hs (a ++ b) = hs a ++ hs b:=by unfold hs; rw [List.map_append]

theorem g_flush (b:Shared) {A:Heap} (hn:Nat.ble n₀ A.objs.size = true) (hsys:sysModules < A.objs.size) {D:Sem (Option Addr)→Sem α} (hD:IsC fun x=>C (D x)) {run:List (Sem Value × Sem Value)} (hr:run.isEmpty = false) {es es':List DictEntry} (hne:es ≠ []) {n t t' cost:Nat} {R:List Obj}
    (hl:es.length+es'.length ≤ 65536) (nd:(es.map (·.hash) ++ es'.map (·.hash)).Nodup) (hp:∀ e ∈ es',Plain e)
    (Hs:∀ {D:Sem Addr→Sem α} (_:IsC fun x=>C (D x)),G w n₀ ann cost (sh b (HH A (dO es n) R) t) (th q c p (C (D (subDict run)))) (sh b ((HH A (dO es n) R).push (dO es' es'.length)) t') (th q c p (C (D (.pure (HH A (dO es n) R).objs.size))))) :
    G w n₀ ann (cost+(5+6 * es'.length)) (sh b (HH A (dO es n) R) t) (th q c p (C (D (flushT run (some A.objs.size))))) (sh b (HH A (dO (es ++ es') (n+es'.length)) (R ++ [dO es' es'.length])) t') (th q c p (C (D (.pure (some A.objs.size))))):=by
  have ne:(HH A (dO es n) R).objs.size ≠ A.objs.size:=by rw [HH_size]; omega
  have hs3:((HH A (dO es n) R).objs.size == sysModules) = false:=beq_eq_false_iff_ne.mpr (Nat.ne_of_gt (Nat.lt_of_lt_of_le hsys (by rw [HH_size]; omega)))
  show G w n₀ ann _ _ (th q c p (C (D (if run.isEmpty = true then _ else _)))) _ _
  rw [if_neg (by rw [hr]; exact Bool.false_ne_true)]
  refine .trans (s':=sh b ((HH A (dO es n) R).push (dO es' es'.length)) t') (t':=th q c p (C (D (Sem.bind (Sem.keep [.ref A.objs.size] (.pure (HH A (dO es n) R).objs.size)) fun sub =>
    Sem.bind (Sem.onRaise (Sem.keep [Value.ref A.objs.size,Value.ref sub] (mergeMapping A.objs.size (Value.ref sub) false)) (letGoH A.objs.size)) fun _=>pure (some A.objs.size))))) ?_ ?_
  · exact Hs (D:=fun y=>D (Sem.bind (Sem.keep [.ref A.objs.size] y) _)) ((hD.bind _).keep _)
  · have:=g_merge (w:=w) (n₀:=n₀) (ann:=ann) (q:=q) (c:=c) (p:=p) (C:=C) (d:=A.objs.size) (a:=(HH A (dO es n) R).objs.size) hn ne hs3 b
      (D:=fun y=>D (Sem.bind (Sem.onRaise (Sem.keep [.ref A.objs.size,.ref (HH A (dO es n) R).objs.size] y) (letGoH A.objs.size)) fun _=>pure (some A.objs.size))) (((hD.bind _).onRaise _).keep _) (h:=(HH A (dO es n) R).push (dO es' es'.length)) (t:=t') (es:=es) (es':=es') (n:=n) (n':=es'.length) hne
      (by rw [HH_push]; exact HH_get ..) (Heap.get?_push_size _ rfl) hp hl nd
    rw [HH_push,HH_upd] at this
    rw [HH_push]
    exact this
theorem ble_HH {A:Heap} {m:Obj} {R:List Obj} (hn:Nat.ble n₀ A.objs.size = true):Nat.ble n₀ (HH A m R).objs.size = true:=by
  rw [HH_size]
  exact Nat.ble_eq_true_of_le (Nat.le_trans (Nat.le_of_ble_eq_true hn) (by omega))
theorem g_flush17 (b:Shared) {A:Heap} (hn:Nat.ble n₀ A.objs.size = true) (hsys:sysModules < A.objs.size) {D:Sem (Option Addr)→Sem α} (hD:IsC fun x=>C (D x)) {its:List (Int × Str)} (h1:its.length = 17) {es:List DictEntry} (hne:es ≠ []) {n t:Nat} {R:List Obj}
    (hl:es.length+17 ≤ 65536) (nd:(es.map (·.hash) ++ hs its).Nodup) :
    G w n₀ ann 400 (sh b (HH A (dO es n) R) t) (th q c p (C (D (flushT (its.map (pT p)) (some A.objs.size))))) (sh b (HH A (dO (es ++ ents t its) (n+17)) (R ++ [dO (ents t its) 17])) (t+3 * 17)) (th q c p (C (D (.pure (some A.objs.size))))):=by
  have e:(ents t its).length = 17:=by rw [ents_len,h1]
  have:=g_flush (w:=w) (n₀:=n₀) (ann:=ann) (q:=q) (c:=c) (p:=p) b hn hsys hD (run:=its.map (pT p)) (by cases its <;> simp_all) (es:=es) (es':=ents t its) hne (n:=n) (t:=t) (t':=t+3 * its.length) (R:=R) (cost:=2+13 * its.length)
    (by rw [ents_len]; omega) (by rw [ents_hash]; exact nd) (ents_plain its t) (fun hD=>by rw [ents_len]; exact g_sub b hD (ble_HH hn) (by omega) (by omega) (List.nodup_append.mp nd).2.1)
  rw [e,h1] at this
  exact this.le (by omega)
theorem g_flushS (b:Shared) {A:Heap} (hn:Nat.ble n₀ A.objs.size = true) (hsys:sysModules < A.objs.size) {D:Sem (Option Addr)→Sem α} (hD:IsC fun x=>C (D x)) {its:List (Int × Str)} (h0:its ≠ []) (h1:its.length ≤ 15) {es:List DictEntry} (hne:es ≠ []) {n t:Nat} {R:List Obj}
    (hl:es.length+17 ≤ 65536) (nd:(es.map (·.hash) ++ hs its).Nodup) :
    G w n₀ ann 400 (sh b (HH A (dO es n) R) t) (th q c p (C (D (flushT (its.map (pT p)) (some A.objs.size))))) (sh b (HH A (dO (es ++ ents2 t its) (n+its.length)) (R ++ [dO (ents2 t its) its.length])) (t+3 * its.length)) (th q c p (C (D (.pure (some A.objs.size))))):=by
  have e:(ents2 t its).length = its.length:=by rw [ents2_len]
  have:=g_flush (w:=w) (n₀:=n₀) (ann:=ann) (q:=q) (c:=c) (p:=p) b hn hsys hD (run:=its.map (pT p)) (by cases its <;> simp_all) (es:=es) (es':=ents2 t its) hne (n:=n) (t:=t) (t':=t+3 * its.length) (R:=R) (cost:=1+13 * its.length)
    (by rw [ents2_len]; omega) (by rw [ents2_hash]; exact nd) (ents2_plain its t) (fun hD=>by rw [ents2_len]; exact g_sub2 b hD (ble_HH hn) h1 (List.nodup_append.mp nd).2.1)
  rw [e] at this
  exact this.le (by omega)

section
variable (f:(Option (Sem Value) × Sem Value)→(Option Addr × List (Sem Value × Sem Value))→Sem (ForInStep (Option Addr × List (Sem Value × Sem Value))))
  (hf:∀ (x:Sem Value × Sem Value) main run,f (oT x) (main,run) = if ((run ++ [x]).length == 17) = true then (flushT (run ++ [x]) main).bind fun m=>pure (.yield (m,[])) else pure (.yield (main,run ++ [x])))
include hf
theorem g_chunks (b:Shared) {A:Heap} (hn:Nat.ble n₀ A.objs.size = true) (hsys:sysModules < A.objs.size) {D:Sem (Option Addr × List (Sem Value × Sem Value))→Sem α} (hD:IsC fun x=>C (D x)) (rest:List (Option (Sem Value) × Sem Value)):∀ (chs:List (List (Int × Str))) {es:List DictEntry} {n t:Nat} {R:List Obj},
    (∀ x ∈ chs,x.length = 17)→es ≠ []→es.length+17 * chs.length ≤ 65536→(es.map (·.hash) ++ hs chs.flatten).Nodup →
    G w n₀ ann (400 * chs.length) (sh b (HH A (dO es n) R) t) (th q c p (C (D (forIn ((chs.flatten.map (pT p)).map oT ++ rest) (some A.objs.size,[]) f))))
      (sh b (HH A (dO (es ++ ents t chs.flatten) (n+17 * chs.length)) (R ++ subs t chs)) (t+3 * (17 * chs.length))) (th q c p (C (D (forIn rest (some A.objs.size,[]) f))))
  | [],es,n,t,R,h1,hne,hl,nd=>by
    show G w n₀ ann 0 _ _ (sh b (HH A (dO (es ++ []) n) (R ++ [])) t) _
    rw [List.append_nil,List.append_nil]
    exact .refl
  | x::chs,es,n,t,R,h1,hne,hl,nd=>by
    have hx:x.length = 17:=h1 x (.head _)
    rw [List.length_cons] at hl
    rw [List.flatten_cons,hs_app,← List.append_assoc] at nd
    have nd1:(es.map (·.hash) ++ hs x).Nodup:=(List.nodup_append.mp nd).1
    have nd2:((es ++ ents t x).map (·.hash) ++ hs chs.flatten).Nodup:=by rw [List.map_append,ents_hash]; exact nd
    have ih:=g_chunks b hn hsys hD rest chs (es:=es ++ ents t x) (n:=n+17) (t:=t+3 * 17) (R:=R ++ [dO (ents t x) 17]) (fun y hy=>h1 y (.tail _ hy)) (by simp [hne]) (by rw [List.length_append,ents_len,hx]; omega) nd2
    rw [List.flatten_cons,List.map_append,List.map_append,List.append_assoc,gather17 f hf _ _ (x.map (pT p)) [] (by cases x <;> simp_all) (by simp [hx]),List.length_cons,ents_app,hx]
    show G w n₀ ann _ _ _ (sh b (HH A _ (R ++ (dO (ents t x) x.length::subs (t+3 * x.length) chs))) _) _
    rw [hx]
    refine G.le (b:=400+400 * chs.length) ?_ (by omega)
    refine (g_flush17 b hn hsys (D:=fun y=>D (Sem.bind y _)) (hD.bind _) hx hne (R:=R) (by omega) nd1).trans ?_
    rw [List.append_assoc,List.append_assoc] at ih
    rw [show n+17+17 * chs.length = n+17 * (chs.length+1) by omega,show t+3 * 17+3 * (17 * chs.length) = t+3 * (17 * (chs.length+1)) by omega] at ih
    exact ih
end
end
end Mine
end
section
open PySem PySem.W PySem.W.X PyProof.Rows
namespace Mine
section
variable {w:World} {n₀:Nat} {ann:Option Value} {q:Pos} {c:Code} {α:Type} {C:Sem α→Sem PySem.Fin} {p:Pos}
theorem g_disp (b:Shared) {A:Heap} (hn:Nat.ble n₀ A.objs.size = true) (hsys:sysModules < A.objs.size) {D:Sem Value→Sem α} (hD:IsC fun x=>C (D x)) {x0:List (Int × Str)} {chs:List (List (Int × Str))} {last:List (Int × Str)} {t:Nat}
    (h0:x0.length = 17) (h1:∀ x ∈ chs,x.length = 17) (hl0:last ≠ []) (hl1:last.length ≤ 15) (hl:chs.length ≤ 100) (nd:(hs (x0 ++ (chs.flatten ++ last))).Nodup) :
    G w n₀ ann (800+400 * chs.length) (sh b A t) (th q c p (C (D (dictDisplay (((x0 ++ (chs.flatten ++ last)).map (pT p)).map oT)))))
      (sh b (HH A (dO (mainE t x0 chs last) (17+17 * chs.length+last.length)) (mainR t chs last)) (t+3 * 17+3 * (17 * chs.length)+3 * last.length)) (th q c p (C (D (.pure (.ref A.objs.size))))):=by
  have lf:chs.flatten.length = 17 * chs.length:=by
    clear hl nd
    induction chs with
    | nil=>rfl
    | cons x r ih=>rw [List.flatten_cons,List.length_append,ih fun y hy=>h1 y (.tail _ hy),h1 x (.head _),List.length_cons]; omega
  rw [hs_app,hs_app] at nd
  have nd0:(hs x0).Nodup:=(List.nodup_append.mp nd).1
  have nd1:((ents t x0).map (·.hash) ++ hs chs.flatten).Nodup:=by
    rw [ents_hash]
    rw [← List.append_assoc] at nd
    exact (List.nodup_append.mp nd).1
  have nd2:((ents t x0 ++ ents (t+3 * 17) chs.flatten).map (·.hash) ++ hs last).Nodup:=by
    rw [List.map_append,ents_hash,ents_hash,List.append_assoc]
    exact nd
  unfold dictDisplay
  dsimp only
  generalize hf:(fun (x:Option (Sem Value) × Sem Value) (__s:Option Addr × List (Sem Value × Sem Value))=>_) = f
  have hf':∀ (x:Sem Value × Sem Value) main run,f (oT x) (main,run) = if ((run ++ [x]).length == 17) = true then (flushT (run ++ [x]) main).bind fun m=>pure (.yield (m,[])) else pure (.yield (main,run ++ [x])):=fun x main run=>by
    rw [← hf]
    rfl
  clear hf
  rw [List.map_append,List.map_append,gather17 f hf' _ _ (x0.map (pT p)) [] (by cases x0 <;> simp_all) (by simp [h0]),List.nil_append]
  have hr0:(x0.map (pT p)).isEmpty = false:=by cases x0 <;> simp_all
  refine G.le (b:=(2+13 * x0.length)+(400 * chs.length+400)) ?_ (by omega)
  show G w n₀ ann _ _ (th q c p (C (D (Sem.bind (Sem.bind (if (x0.map (pT p)).isEmpty = true then _ else _) _) _)))) _ _
  rw [if_neg (by rw [hr0]; exact Bool.false_ne_true)]
  refine (g_sub (w:=w) (n₀:=n₀) (ann:=ann) (q:=q) (c:=c) (C:=C) b (D:=fun y=>D (Sem.bind (Sem.bind (Sem.bind y fun d=>pure (some d)) _) _)) (((hD.bind _).bind _).bind _) (its:=x0) (h:=A) (t:=t) hn (by omega) (by omega) nd0).trans ?_
  rw [h0,HH_first]
  rw [List.map_append,List.map_append]
  show G w n₀ ann _ _ (th q c p (C (D (Sem.bind (forIn ((chs.flatten.map (pT p)).map oT ++ (last.map (pT p)).map oT) (some A.objs.size,[]) f) _)))) _ _
  have ne0:ents t x0 ≠ []:=by cases x0 <;> simp_all [ents]
  refine (g_chunks (w:=w) (n₀:=n₀) (ann:=ann) (q:=q) (c:=c) (C:=C) f hf' b hn hsys (D:=fun y=>D (Sem.bind y _)) (hD.bind _) ((last.map (pT p)).map oT) chs (es:=ents t x0) (n:=17) (t:=t+3 * 17) (R:=[]) h1 ne0 (by rw [ents_len]; omega) nd1).trans ?_
  rw [gatherS f hf' _ (last.map (pT p)) [] (by simp; omega),List.nil_append]
  have:=g_flushS (w:=w) (n₀:=n₀) (ann:=ann) (q:=q) (c:=c) (p:=p) (C:=C) b hn hsys (D:=fun y=>D (Sem.bind y fun m=>match m with
    | some d=>pure (.ref d)
    | none=>newDict)) (hD.bind _) hl0 hl1 (es:=ents t x0 ++ ents (t+3 * 17) chs.flatten) (by simp [ne0]) (n:=17+17 * chs.length) (t:=t+3 * 17+3 * (17 * chs.length)) (R:=[] ++ subs (t+3 * 17) chs) (by rw [List.length_append,ents_len,ents_len,lf]; omega) nd2
  exact this
end
end Mine
end
noncomputable section
open PySem PySem.W PySem.W.X PyProof.Rows
namespace Mine
noncomputable def y0:Str:=Str.mk (Array.mk [nat_lit 98,nat_lit 117,nat_lit 105,nat_lit 108,nat_lit 116,nat_lit 105,nat_lit 110,nat_lit 115])
noncomputable def y1:Str:=Str.mk (Array.mk [nat_lit 95,nat_lit 95,nat_lit 109,nat_lit 97,nat_lit 105,nat_lit 110,nat_lit 95,nat_lit 95])
noncomputable def y2:Str:=Str.mk (Array.mk [nat_lit 95,nat_lit 95,nat_lit 110,nat_lit 97,nat_lit 109,nat_lit 101,nat_lit 95,nat_lit 95])
noncomputable def y3:Str:=Str.mk (Array.mk [nat_lit 95,nat_lit 95,nat_lit 100,nat_lit 111,nat_lit 99,nat_lit 95,nat_lit 95])
noncomputable def y4:Str:=Str.mk (Array.mk [nat_lit 95,nat_lit 95,nat_lit 112,nat_lit 97,nat_lit 99,nat_lit 107,nat_lit 97,nat_lit 103,nat_lit 101,nat_lit 95,nat_lit 95])
noncomputable def y5:Str:=Str.mk (Array.mk [nat_lit 95,nat_lit 95,nat_lit 108,nat_lit 111,nat_lit 97,nat_lit 100,nat_lit 101,nat_lit 114,nat_lit 95,nat_lit 95])
noncomputable def y6:Str:=Str.mk (Array.mk [nat_lit 95,nat_lit 95,nat_lit 115,nat_lit 112,nat_lit 101,nat_lit 99,nat_lit 95,nat_lit 95])
noncomputable def y7:Str:=Str.mk (Array.mk [nat_lit 95,nat_lit 95,nat_lit 97,nat_lit 110,nat_lit 110,nat_lit 111,nat_lit 116,nat_lit 97,nat_lit 116,nat_lit 105,nat_lit 111,nat_lit 110,nat_lit 115,nat_lit 95,nat_lit 95])
noncomputable def y8:Str:=Str.mk (Array.mk [nat_lit 95,nat_lit 95,nat_lit 98,nat_lit 117,nat_lit 105,nat_lit 108,nat_lit 116,nat_lit 105,nat_lit 110,nat_lit 115,nat_lit 95,nat_lit 95])
noncomputable def y9:Str:=Str.mk (Array.mk [nat_lit 95,nat_lit 95,nat_lit 102,nat_lit 105,nat_lit 108,nat_lit 101,nat_lit 95,nat_lit 95])
noncomputable def y10:Str:=Str.mk (Array.mk [nat_lit 47,nat_lit 99,nat_lit 108,nat_lit 97,nat_lit 105,nat_lit 109,nat_lit 47,nat_lit 99,nat_lit 117,nat_lit 116,nat_lit 46,nat_lit 112,nat_lit 121])
noncomputable def y11:Str:=Str.mk (Array.mk [nat_lit 95,nat_lit 95,nat_lit 99,nat_lit 97,nat_lit 99,nat_lit 104,nat_lit 101,nat_lit 100,nat_lit 95,nat_lit 95])
noncomputable def y12:Str:=Str.mk (Array.mk [nat_lit 60,nat_lit 109,nat_lit 111,nat_lit 100,nat_lit 117,nat_lit 108,nat_lit 101,nat_lit 62])
noncomputable def y13:Str:=Str.mk (Array.mk [nat_lit 99,nat_lit 112,nat_lit 121,nat_lit 51,nat_lit 49,nat_lit 51,nat_lit 46,nat_lit 115,nat_lit 116,nat_lit 114,nat_lit 105,nat_lit 110,nat_lit 103,nat_lit 112,nat_lit 114,nat_lit 101,nat_lit 112])
noncomputable def y14:Str:=Str.mk (Array.mk [nat_lit 67,nat_lit 72,nat_lit 65,nat_lit 82,nat_lit 95,nat_lit 77,nat_lit 65,nat_lit 88])
noncomputable def y15:Str:=Str.mk (Array.mk [nat_lit 95,nat_lit 103,nat_lit 114,nat_lit 111,nat_lit 117,nat_lit 112,nat_lit 105,nat_lit 110,nat_lit 103,nat_lit 95,nat_lit 105,nat_lit 110,nat_lit 116,nat_lit 101,nat_lit 114,nat_lit 118,nat_lit 97,nat_lit 108,nat_lit 115])
noncomputable def y16:Str:=Str.mk (Array.mk [nat_lit 95,nat_lit 115,nat_lit 116,nat_lit 114,nat_lit 105,nat_lit 112,nat_lit 95,nat_lit 112,nat_lit 97,nat_lit 100,nat_lit 100,nat_lit 105,nat_lit 110,nat_lit 103])
noncomputable def y17:Str:=Str.mk (Array.mk [nat_lit 95,nat_lit 105,nat_lit 116,nat_lit 101,nat_lit 114,nat_lit 95,nat_lit 101,nat_lit 115,nat_lit 99,nat_lit 97,nat_lit 112,nat_lit 101,nat_lit 100,nat_lit 95,nat_lit 99,nat_lit 104,nat_lit 97,nat_lit 114,nat_lit 115])
noncomputable def y18:Str:=Str.mk (Array.mk [nat_lit 95,nat_lit 115,nat_lit 116,nat_lit 114,nat_lit 105,nat_lit 112,nat_lit 95,nat_lit 113,nat_lit 117,nat_lit 111,nat_lit 116,nat_lit 101,nat_lit 100,nat_lit 95,nat_lit 114,nat_lit 101,nat_lit 97,nat_lit 108,nat_lit 110,nat_lit 97,nat_lit 109,nat_lit 101,nat_lit 115])
noncomputable def y19:Str:=Str.mk (Array.mk [nat_lit 98,nat_lit 49,nat_lit 95,nat_lit 115,nat_lit 101,nat_lit 116])
noncomputable def y20:Str:=Str.mk (Array.mk [nat_lit 105,nat_lit 110,nat_lit 95,nat_lit 116,nat_lit 97,nat_lit 98,nat_lit 108,nat_lit 101,nat_lit 95,nat_lit 98,nat_lit 49])
noncomputable def y21:Str:=Str.mk (Array.mk [nat_lit 103,nat_lit 114,nat_lit 111,nat_lit 117,nat_lit 112,nat_lit 105,nat_lit 110,nat_lit 103])
noncomputable def y22:Str:=Str.mk (Array.mk [nat_lit 108,nat_lit 97,nat_lit 115,nat_lit 116,nat_lit 95,nat_lit 105,nat_lit 110,nat_lit 116,nat_lit 101,nat_lit 114,nat_lit 118,nat_lit 97,nat_lit 108])
noncomputable def y23:Str:=Str.mk (Array.mk [nat_lit 105,nat_lit 110,nat_lit 116,nat_lit 101,nat_lit 114,nat_lit 118,nat_lit 97,nat_lit 108])
noncomputable def y24:Str:=Str.mk (Array.mk [nat_lit 99,nat_lit 112,nat_lit 121,nat_lit 51,nat_lit 49,nat_lit 51,nat_lit 46,nat_lit 108,nat_lit 111,nat_lit 99,nat_lit 97,nat_lit 108,nat_lit 101])
noncomputable def y25:Str:=Str.mk (Array.mk [nat_lit 115])
noncomputable def y26:Str:=Str.mk (Array.mk [nat_lit 97,nat_lit 109,nat_lit 111,nat_lit 117,nat_lit 110,nat_lit 116])
noncomputable def y27:Str:=Str.mk (Array.mk [nat_lit 108,nat_lit 112,nat_lit 111,nat_lit 115])
noncomputable def y28:Str:=Str.mk (Array.mk [nat_lit 114,nat_lit 112,nat_lit 111,nat_lit 115])
noncomputable def y29:Str:=Str.mk (Array.mk [nat_lit 97,nat_lit 100,nat_lit 100,nat_lit 114])
noncomputable def y30:Str:=Str.mk (Array.mk [nat_lit 112,nat_lit 111,nat_lit 115])
noncomputable def y31:Str:=Str.mk (Array.mk [nat_lit 101,nat_lit 115,nat_lit 99,nat_lit 97,nat_lit 112,nat_lit 101])
noncomputable def y32:Str:=Str.mk (Array.mk [nat_lit 99,nat_lit 104])
noncomputable def y33:Str:=Str.mk (Array.mk [nat_lit 99,nat_lit 112,nat_lit 121,nat_lit 51,nat_lit 49,nat_lit 51,nat_lit 46,nat_lit 101,nat_lit 109,nat_lit 97,nat_lit 105,nat_lit 108,nat_lit 46,nat_lit 117,nat_lit 116,nat_lit 105,nat_lit 108,nat_lit 115])
noncomputable def y34:Str:=Str.mk (Array.mk [nat_lit 115,nat_lit 116,nat_lit 97,nat_lit 114,nat_lit 116])
noncomputable def y35:Str:=Str.mk (Array.mk [nat_lit 111,nat_lit 112,nat_lit 101,nat_lit 110,nat_lit 95,nat_lit 112,nat_lit 111,nat_lit 115])
noncomputable def y36:Str:=Str.mk (Array.mk [nat_lit 114,nat_lit 101,nat_lit 115,nat_lit 117,nat_lit 108,nat_lit 116])
noncomputable def y37:Str:=Str.mk (Array.mk [nat_lit 99,nat_lit 111,nat_lit 100,nat_lit 101])
noncomputable def y38:Str:=Str.mk (Array.mk [nat_lit 98,nat_lit 51,nat_lit 95,nat_lit 101,nat_lit 120,nat_lit 99,nat_lit 101,nat_lit 112,nat_lit 116,nat_lit 105,nat_lit 111,nat_lit 110,nat_lit 115])
noncomputable def y39:Str:=Str.mk (Array.mk [nat_lit 108,nat_lit 97,nat_lit 119,nat_lit 95,nat_lit 119,nat_lit 97,nat_lit 48,nat_lit 48,nat_lit 51,nat_lit 54,nat_lit 95,nat_lit 48,nat_lit 49])
noncomputable def y40:Str:=Str.mk (Array.mk [nat_lit 109,nat_lit 97,nat_lit 112,nat_lit 95,nat_lit 116,nat_lit 97,nat_lit 98,nat_lit 108,nat_lit 101,nat_lit 95,nat_lit 98,nat_lit 51])
noncomputable def y41:Str:=Str.mk (Array.mk [nat_lit 95,nat_lit 108,nat_lit 97,nat_lit 119,nat_lit 95,nat_lit 103,nat_lit 117,nat_lit 101,nat_lit 115,nat_lit 116,nat_lit 115])
noncomputable def y42:Str:=Str.mk (Array.mk [nat_lit 95,nat_lit 108,nat_lit 97,nat_lit 119,nat_lit 95,nat_lit 111,nat_lit 117,nat_lit 116])
noncomputable def y43:Str:=Str.mk (Array.mk [nat_lit 108,nat_lit 97,nat_lit 119])
noncomputable def y44:Str:=Str.mk (Array.mk [nat_lit 114])
noncomputable def y45:Str:=Str.mk (Array.mk [nat_lit 116,nat_lit 101,nat_lit 120,nat_lit 116])
noncomputable def y46:Str:=Str.mk (Array.mk [nat_lit 103,nat_lit 117,nat_lit 101,nat_lit 115,nat_lit 116,nat_lit 115])
noncomputable def y47:Str:=Str.mk (Array.mk [nat_lit 112,nat_lit 108,nat_lit 97,nat_lit 99,nat_lit 101])
noncomputable def y48:Str:=Str.mk (Array.mk [nat_lit 117,nat_lit 110,nat_lit 105,nat_lit 116])
noncomputable def hP_11 (P:Params):Obj:=⟨(.type "tuple"),none,(.seq ⟨[]⟩ 0),⟨[]⟩⟩
noncomputable def hP_12 (P:Params):Obj:=⟨.none,none,(.fields ⟨[]⟩),⟨[]⟩⟩
noncomputable def hP_13 (P:Params):Obj:=⟨(.type "code"),none,(.fields ⟨[(.str y12 182),(.str y12 183),(.str y10 184),(.int 1 0),(.int 0 0),(.int 0 0),(.int 0 0),(.int 0 0),(.ref 11),(.bool false),(.int 181 0),(.ref 12),.none,.none,.none,.none,(.int 185 0),(.int 1 0),(.str y10 186)]⟩),⟨[]⟩⟩
noncomputable def hP_14 (P:Params):Obj:=⟨(.type "frame"),none,.plain,⟨[(some (.ref 13)),(some (.ref 3)),(some (.ref 3)),none,(some (.str y1 164)),none,(some (.ref 0))]⟩⟩
noncomputable def hP (P:Params):BT:=(.node (PySem.W.boot_o_0 P) (.node (PySem.W.boot_o_1 P) (.node (PySem.W.boot_o_3 P) (.node (PySem.W.boot_o_7 P) .nil .nil) (.node (hP_11 P) .nil .nil)) (.node (PySem.W.boot_o_5 P) (.node (PySem.W.boot_o_9 P) .nil .nil) (.node (hP_13 P) .nil .nil))) (.node (PySem.W.boot_o_2 P) (.node (PySem.W.boot_o_4 P) (.node (PySem.W.boot_o_8 P) .nil .nil) (.node (hP_12 P) .nil .nil)) (.node (PySem.W.boot_o_6 P) (.node (PySem.W.boot_o_10 P) .nil .nil) (.node (hP_14 P) .nil .nil))))
noncomputable def hPn:Nat:=15
noncomputable def hPt:Nat:=187
noncomputable def hA_3 (P:Params):Obj:=⟨(.type "dict"),none,(.dict ⟨[⟨PyData.keyHash P y2,.str y2 165,(.str y13 234)⟩,⟨PyData.keyHash P y3,.str y3 166,.none⟩,⟨PyData.keyHash P y4,.str y4 167,.none⟩,⟨PyData.keyHash P y5,.str y5 168,(.builtin "__main__.__loader__#opaque")⟩,⟨PyData.keyHash P y6,.str y6 169,.none⟩,⟨PyData.keyHash P y7,.str y7 170,(.ref 6)⟩,⟨PyData.keyHash P y8,.str y8 171,(.ref 4)⟩,⟨PyData.keyHash P y9,.str y9 173,(.str y10 172)⟩,⟨PyData.keyHash P y11,.str y11 174,.none⟩,⟨PyData.keyHash P y14,.str y14 190,(.int 127 189)⟩,⟨PyData.keyHash P y15,.str y15 199,(.ref 21)⟩,⟨PyData.keyHash P y16,.str y16 209,(.ref 28)⟩,⟨PyData.keyHash P y17,.str y17 221,(.ref 35)⟩,⟨PyData.keyHash P y18,.str y18 233,(.ref 42)⟩,⟨PyData.keyHash P y19,.str y19 295,(.ref 50)⟩,⟨PyData.keyHash P y20,.str y20 302,(.ref 60)⟩]⟩ 16),⟨[]⟩⟩
noncomputable def hA_12 (P:Params):Obj:=⟨.none,none,(.fields ⟨[(.int 3 0),(.int 0 0),(.ref 20),(.int 15 0),(.int 0 0),(.ref 27),(.int 26 0),(.int 0 0),(.ref 34),(.int 39 0),(.int 0 0),(.ref 41),(.int 59 0),(.int 0 0),(.ref 59)]⟩),⟨[]⟩⟩
noncomputable def hA_15 (P:Params):Obj:=⟨(.type "tuple"),none,(.seq ⟨[]⟩ 0),⟨[]⟩⟩
noncomputable def hA_16 (P:Params):Obj:=⟨.none,none,(.fields ⟨[]⟩),⟨[]⟩⟩
noncomputable def hA_17 (P:Params):Obj:=⟨(.type "tuple"),none,(.seq ⟨[(.str y21 194),(.str y22 195),(.str y23 196)]⟩ 0),⟨[]⟩⟩
noncomputable def hA_18 (P:Params):Obj:=⟨(.type "tuple"),none,(.seq ⟨[]⟩ 0),⟨[]⟩⟩
noncomputable def hA_19 (P:Params):Obj:=⟨.none,none,(.func (FuncData.mk y15 y15 fGia (.stmts fGi_) fGis 0 [] .none .none .none .none none .none .none 0)),⟨[]⟩⟩
noncomputable def hA_20 (P:Params):Obj:=⟨(.type "code"),none,(.fields ⟨[(.str y15 191),(.str y15 192),(.str y10 193),(.int 3 0),(.int 1 0),(.int 0 0),(.int 0 0),(.int 35 0),(.ref 15),(.bool true),(.int 181 0),(.ref 16),.none,(.ref 17),(.ref 18),(.ref 19),(.int 197 0),(.int 3 0),(.str y10 198)]⟩),⟨[]⟩⟩
noncomputable def hA_21 (P:Params):Obj:=⟨(.type "function"),none,(.func (FuncData.mk y15 y15 fGia (.stmts fGi_) fGis 3 [] .none .none .none (.str y24 187) none (.ref 20) .none 0)),⟨[]⟩⟩
noncomputable def hA_22 (P:Params):Obj:=⟨(.type "tuple"),none,(.seq ⟨[]⟩ 0),⟨[]⟩⟩
noncomputable def hA_23 (P:Params):Obj:=⟨.none,none,(.fields ⟨[]⟩),⟨[]⟩⟩
noncomputable def hA_24 (P:Params):Obj:=⟨(.type "tuple"),none,(.seq ⟨[(.str y25 203),(.str y26 204),(.str y27 205),(.str y28 206)]⟩ 0),⟨[]⟩⟩
noncomputable def hA_25 (P:Params):Obj:=⟨(.type "tuple"),none,(.seq ⟨[]⟩ 0),⟨[]⟩⟩
noncomputable def hA_26 (P:Params):Obj:=⟨.none,none,(.func (FuncData.mk y16 y16 fSpa (.stmts fSp_) fSps 0 [] .none .none .none .none none .none .none 0)),⟨[]⟩⟩
noncomputable def hA_27 (P:Params):Obj:=⟨(.type "code"),none,(.fields ⟨[(.str y16 200),(.str y16 201),(.str y10 202),(.int 15 0),(.int 2 0),(.int 0 0),(.int 0 0),(.int 3 0),(.ref 22),(.bool true),(.int 181 0),(.ref 23),.none,(.ref 24),(.ref 25),(.ref 26),(.int 207 0),(.int 15 0),(.str y10 208)]⟩),⟨[]⟩⟩
noncomputable def hA_28 (P:Params):Obj:=⟨(.type "function"),none,(.func (FuncData.mk y16 y16 fSpa (.stmts fSp_) fSps 3 [] .none .none .none (.str y24 187) none (.ref 27) .none 0)),⟨[]⟩⟩
noncomputable def hA_29 (P:Params):Obj:=⟨(.type "tuple"),none,(.seq ⟨[]⟩ 0),⟨[]⟩⟩
noncomputable def hA_30 (P:Params):Obj:=⟨.none,none,(.fields ⟨[]⟩),⟨[]⟩⟩
noncomputable def hA_31 (P:Params):Obj:=⟨(.type "tuple"),none,(.seq ⟨[(.str y29 215),(.str y30 216),(.str y31 217),(.str y32 218)]⟩ 0),⟨[]⟩⟩
noncomputable def hA_32 (P:Params):Obj:=⟨(.type "tuple"),none,(.seq ⟨[]⟩ 0),⟨[]⟩⟩
noncomputable def hA_33 (P:Params):Obj:=⟨.none,none,(.func (FuncData.mk y17 y17 fIea (.stmts fIe_) fIes 0 [] .none .none .none .none none .none .none 0)),⟨[]⟩⟩
noncomputable def hA_34 (P:Params):Obj:=⟨(.type "code"),none,(.fields ⟨[(.str y17 212),(.str y17 213),(.str y10 214),(.int 26 0),(.int 1 0),(.int 0 0),(.int 0 0),(.int 35 0),(.ref 29),(.bool true),(.int 181 0),(.ref 30),.none,(.ref 31),(.ref 32),(.ref 33),(.int 219 0),(.int 26 0),(.str y10 220)]⟩),⟨[]⟩⟩
noncomputable def hA_35 (P:Params):Obj:=⟨(.type "function"),none,(.func (FuncData.mk y17 y17 fIea (.stmts fIe_) fIes 3 [] .none .none .none (.str y33 210) none (.ref 34) .none 0)),⟨[]⟩⟩
noncomputable def hA_36 (P:Params):Obj:=⟨(.type "tuple"),none,(.seq ⟨[]⟩ 0),⟨[]⟩⟩
noncomputable def hA_37 (P:Params):Obj:=⟨.none,none,(.fields ⟨[]⟩),⟨[]⟩⟩
noncomputable def hA_38 (P:Params):Obj:=⟨(.type "tuple"),none,(.seq ⟨[(.str y29 225),(.str y34 226),(.str y35 227),(.str y36 228),(.str y30 229),(.str y32 230)]⟩ 0),⟨[]⟩⟩
noncomputable def hA_39 (P:Params):Obj:=⟨(.type "tuple"),none,(.seq ⟨[]⟩ 0),⟨[]⟩⟩
noncomputable def hA_40 (P:Params):Obj:=⟨.none,none,(.func (FuncData.mk y18 y18 fSqa (.stmts fSq_) fSqs 0 [] .none .none .none .none none .none .none 0)),⟨[]⟩⟩
noncomputable def hA_41 (P:Params):Obj:=⟨(.type "code"),none,(.fields ⟨[(.str y18 222),(.str y18 223),(.str y10 224),(.int 39 0),(.int 1 0),(.int 0 0),(.int 0 0),(.int 3 0),(.ref 36),(.bool true),(.int 181 0),(.ref 37),.none,(.ref 38),(.ref 39),(.ref 40),(.int 231 0),(.int 39 0),(.str y10 232)]⟩),⟨[]⟩⟩
noncomputable def hA_42 (P:Params):Obj:=⟨(.type "function"),none,(.func (FuncData.mk y18 y18 fSqa (.stmts fSq_) fSqs 3 [] .none .none .none (.str y33 210) none (.ref 41) .none 0)),⟨[]⟩⟩
noncomputable def hA_43 (P:Params):Obj:=⟨(.type "list"),none,(.seq ⟨[(.int 173 236),(.int 847 237),(.int 6150 238),(.int 6155 239),(.int 6156 240),(.int 6157 241),(.int 8203 242),(.int 8204 243),(.int 8205 244),(.int 8288 245),(.int 65279 246)]⟩ 0),⟨[]⟩⟩
noncomputable def hA_44 (P:Params):Obj:=⟨(.type "range"),none,(.fields ⟨[(.int 65024 247),(.int 65040 248),(.int 1 249)]⟩),⟨[]⟩⟩
noncomputable def hA_45 (P:Params):Obj:=⟨(.type "list"),none,(.seq ⟨[(.int 65024 252),(.int 65025 253),(.int 65026 254),(.int 65027 255),(.int 65028 256),(.int 65029 257),(.int 65030 258),(.int 65031 259),(.int 65032 260),(.int 65033 261),(.int 65034 262),(.int 65035 263),(.int 65036 264),(.int 65037 265),(.int 65038 266),(.int 65039 267)]⟩ 18),⟨[]⟩⟩
noncomputable def hA_46 (P:Params):Obj:=⟨(.type "range_iterator"),none,(.fields ⟨[(.int 65040 0),(.int 0 0),(.int 1 0)]⟩),⟨[]⟩⟩
noncomputable def hA_47 (P:Params):Obj:=⟨(.type "tuple"),none,(.seq ⟨[]⟩ 0),⟨[]⟩⟩
noncomputable def hA_48 (P:Params):Obj:=⟨(.type "StopIteration"),none,(.fields ⟨[(.ref 47),.none,.none,.none,(.bool false),.none]⟩),⟨[]⟩⟩
noncomputable def hA_49 (P:Params):Obj:=⟨(.type "list"),none,(.seq ⟨[(.int 173 236),(.int 847 237),(.int 6150 238),(.int 6155 239),(.int 6156 240),(.int 6157 241),(.int 8203 242),(.int 8204 243),(.int 8205 244),(.int 8288 245),(.int 65279 246),(.int 65024 252),(.int 65025 253),(.int 65026 254),(.int 65027 255),(.int 65028 256),(.int 65029 257),(.int 65030 258),(.int 65031 259),(.int 65032 260),(.int 65033 261),(.int 65034 262),(.int 65035 263),(.int 65036 264),(.int 65037 265),(.int 65038 266),(.int 65039 267)]⟩ 0),⟨[]⟩⟩
noncomputable def hA_50 (P:Params):Obj:=⟨(.type "set"),none,(.set ⟨[(65024,(.int 65024 252)),(65025,(.int 65025 253)),(65026,(.int 65026 254)),(65027,(.int 65027 255)),(65028,(.int 65028 256)),(65029,(.int 65029 257)),(6150,(.int 6150 238)),(65030,(.int 65030 258)),(65031,(.int 65031 259)),(65032,(.int 65032 260)),(65033,(.int 65033 261)),(6155,(.int 6155 239)),(6156,(.int 6156 240)),(6157,(.int 6157 241)),(8203,(.int 8203 242)),(8204,(.int 8204 243)),(8205,(.int 8205 244)),(65034,(.int 65034 262)),(65035,(.int 65035 263)),(65036,(.int 65036 264)),(65037,(.int 65037 265)),(65038,(.int 65038 266)),(65039,(.int 65039 267)),(173,(.int 173 236)),(847,(.int 847 237)),(8288,(.int 8288 245)),(65279,(.int 65279 246))]⟩ 29 (SetTable.mk 127 ⟨[0,1,2,3,4,5,6,7,8,9,10,11,12,13,14,15,16,17,18,19,20,21,22,45,79,96,127]⟩ ⟨[]⟩ 0 (!P.followText "set-order") 2 true)),⟨[]⟩⟩
noncomputable def hA_51 (P:Params):Obj:=⟨(.type "list_iterator"),none,(.fields ⟨[.none,(.int 27 0)]⟩),⟨[]⟩⟩
noncomputable def hA_52 (P:Params):Obj:=⟨(.type "tuple"),none,(.seq ⟨[]⟩ 0),⟨[]⟩⟩
noncomputable def hA_53 (P:Params):Obj:=⟨(.type "StopIteration"),none,(.fields ⟨[(.ref 52),.none,.none,.none,(.bool false),.none]⟩),⟨[]⟩⟩
noncomputable def hA_54 (P:Params):Obj:=⟨(.type "tuple"),none,(.seq ⟨[]⟩ 0),⟨[]⟩⟩
noncomputable def hA_55 (P:Params):Obj:=⟨.none,none,(.fields ⟨[]⟩),⟨[]⟩⟩
noncomputable def hA_56 (P:Params):Obj:=⟨(.type "tuple"),none,(.seq ⟨[(.str y37 299)]⟩ 0),⟨[]⟩⟩
noncomputable def hA_57 (P:Params):Obj:=⟨(.type "tuple"),none,(.seq ⟨[]⟩ 0),⟨[]⟩⟩
noncomputable def hA_58 (P:Params):Obj:=⟨.none,none,(.func (FuncData.mk y20 y20 fB1a (.stmts fB1_) fB1s 0 [] .none .none .none .none none .none .none 0)),⟨[]⟩⟩
noncomputable def hA_59 (P:Params):Obj:=⟨(.type "code"),none,(.fields ⟨[(.str y20 296),(.str y20 297),(.str y10 298),(.int 59 0),(.int 1 0),(.int 0 0),(.int 0 0),(.int 3 0),(.ref 54),(.bool true),(.int 181 0),(.ref 55),.none,(.ref 56),(.ref 57),(.ref 58),(.int 300 0),(.int 59 0),(.str y10 301)]⟩),⟨[]⟩⟩
noncomputable def hA_60 (P:Params):Obj:=⟨(.type "function"),none,(.func (FuncData.mk y20 y20 fB1a (.stmts fB1_) fB1s 3 [] .none .none .none (.str y13 234) none (.ref 59) .none 0)),⟨[]⟩⟩
noncomputable def hA (P:Params):BT:=(.node (PySem.W.boot_o_0 P) (.node (PySem.W.boot_o_1 P) (.node (hA_3 P) (.node (PySem.W.boot_o_7 P) (.node (hA_15 P) (.node (hA_31 P) .nil .nil) (.node (hA_47 P) .nil .nil)) (.node (hA_23 P) (.node (hA_39 P) .nil .nil) (.node (hA_55 P) .nil .nil))) (.node (hP_11 P) (.node (hA_19 P) (.node (hA_35 P) .nil .nil) (.node (hA_51 P) .nil .nil)) (.node (hA_27 P) (.node (hA_43 P) .nil .nil) (.node (hA_59 P) .nil .nil)))) (.node (PySem.W.boot_o_5 P) (.node (PySem.W.boot_o_9 P) (.node (hA_17 P) (.node (hA_33 P) .nil .nil) (.node (hA_49 P) .nil .nil)) (.node (hA_25 P) (.node (hA_41 P) .nil .nil) (.node (hA_57 P) .nil .nil))) (.node (hP_13 P) (.node (hA_21 P) (.node (hA_37 P) .nil .nil) (.node (hA_53 P) .nil .nil)) (.node (hA_29 P) (.node (hA_45 P) .nil .nil) .nil)))) (.node (PySem.W.boot_o_2 P) (.node (PySem.W.boot_o_4 P) (.node (PySem.W.boot_o_8 P) (.node (hA_16 P) (.node (hA_32 P) .nil .nil) (.node (hA_48 P) .nil .nil)) (.node (hA_24 P) (.node (hA_40 P) .nil .nil) (.node (hA_56 P) .nil .nil))) (.node (hA_12 P) (.node (hA_20 P) (.node (hA_36 P) .nil .nil) (.node (hA_52 P) .nil .nil)) (.node (hA_28 P) (.node (hA_44 P) .nil .nil) (.node (hA_60 P) .nil .nil)))) (.node (PySem.W.boot_o_6 P) (.node (PySem.W.boot_o_10 P) (.node (hA_18 P) (.node (hA_34 P) .nil .nil) (.node (hA_50 P) .nil .nil)) (.node (hA_26 P) (.node (hA_42 P) .nil .nil) (.node (hA_58 P) .nil .nil))) (.node (hP_14 P) (.node (hA_22 P) (.node (hA_38 P) .nil .nil) (.node (hA_54 P) .nil .nil)) (.node (hA_30 P) (.node (hA_46 P) .nil .nil) .nil)))))
noncomputable def hAn:Nat:=61
noncomputable def hAt:Nat:=303
noncomputable def hB_3 (P:Params):Obj:=⟨(.type "dict"),none,(.dict ⟨[⟨PyData.keyHash P y2,.str y2 165,(.str y13 234)⟩,⟨PyData.keyHash P y3,.str y3 166,.none⟩,⟨PyData.keyHash P y4,.str y4 167,.none⟩,⟨PyData.keyHash P y5,.str y5 168,(.builtin "__main__.__loader__#opaque")⟩,⟨PyData.keyHash P y6,.str y6 169,.none⟩,⟨PyData.keyHash P y7,.str y7 170,(.ref 6)⟩,⟨PyData.keyHash P y8,.str y8 171,(.ref 4)⟩,⟨PyData.keyHash P y9,.str y9 173,(.str y10 172)⟩,⟨PyData.keyHash P y11,.str y11 174,.none⟩,⟨PyData.keyHash P y14,.str y14 190,(.int 127 189)⟩,⟨PyData.keyHash P y15,.str y15 199,(.ref 21)⟩,⟨PyData.keyHash P y16,.str y16 209,(.ref 28)⟩,⟨PyData.keyHash P y17,.str y17 221,(.ref 35)⟩,⟨PyData.keyHash P y18,.str y18 233,(.ref 42)⟩,⟨PyData.keyHash P y19,.str y19 295,(.ref 50)⟩,⟨PyData.keyHash P y20,.str y20 302,(.ref 60)⟩,⟨PyData.keyHash P y38,.str y38 2253,(.ref 61)⟩]⟩ 17),⟨[]⟩⟩
noncomputable def hB (P:Params):BT:=(.node (PySem.W.boot_o_0 P) (.node (PySem.W.boot_o_1 P) (.node (hB_3 P) (.node (PySem.W.boot_o_7 P) (.node (hA_15 P) (.node (hA_31 P) (.node (subO 1) .nil .nil) (.node (subO 33) .nil .nil)) (.node (hA_47 P) (.node (subO 17) .nil .nil) .nil)) (.node (hA_23 P) (.node (hA_39 P) (.node (subO 9) .nil .nil) .nil) (.node (hA_55 P) (.node (subO 25) .nil .nil) .nil))) (.node (hP_11 P) (.node (hA_19 P) (.node (hA_35 P) (.node (subO 5) .nil .nil) (.node (subO 37) .nil .nil)) (.node (hA_51 P) (.node (subO 21) .nil .nil) .nil)) (.node (hA_27 P) (.node (hA_43 P) (.node (subO 13) .nil .nil) .nil) (.node (hA_59 P) (.node (subO 29) .nil .nil) .nil)))) (.node (PySem.W.boot_o_5 P) (.node (PySem.W.boot_o_9 P) (.node (hA_17 P) (.node (hA_33 P) (.node (subO 3) .nil .nil) (.node (subO 35) .nil .nil)) (.node (hA_49 P) (.node (subO 19) .nil .nil) .nil)) (.node (hA_25 P) (.node (hA_41 P) (.node (subO 11) .nil .nil) .nil) (.node (hA_57 P) (.node (subO 27) .nil .nil) .nil))) (.node (hP_13 P) (.node (hA_21 P) (.node (hA_37 P) (.node (subO 7) .nil .nil) .nil) (.node (hA_53 P) (.node (subO 23) .nil .nil) .nil)) (.node (hA_29 P) (.node (hA_45 P) (.node (subO 15) .nil .nil) .nil) (.node b3O (.node (subO 31) .nil .nil) .nil))))) (.node (PySem.W.boot_o_2 P) (.node (PySem.W.boot_o_4 P) (.node (PySem.W.boot_o_8 P) (.node (hA_16 P) (.node (hA_32 P) (.node (subO 2) .nil .nil) (.node (subO 34) .nil .nil)) (.node (hA_48 P) (.node (subO 18) .nil .nil) .nil)) (.node (hA_24 P) (.node (hA_40 P) (.node (subO 10) .nil .nil) .nil) (.node (hA_56 P) (.node (subO 26) .nil .nil) .nil))) (.node (hA_12 P) (.node (hA_20 P) (.node (hA_36 P) (.node (subO 6) .nil .nil) .nil) (.node (hA_52 P) (.node (subO 22) .nil .nil) .nil)) (.node (hA_28 P) (.node (hA_44 P) (.node (subO 14) .nil .nil) .nil) (.node (hA_60 P) (.node (subO 30) .nil .nil) .nil)))) (.node (PySem.W.boot_o_6 P) (.node (PySem.W.boot_o_10 P) (.node (hA_18 P) (.node (hA_34 P) (.node (subO 4) .nil .nil) (.node (subO 36) .nil .nil)) (.node (hA_50 P) (.node (subO 20) .nil .nil) .nil)) (.node (hA_26 P) (.node (hA_42 P) (.node (subO 12) .nil .nil) .nil) (.node (hA_58 P) (.node (subO 28) .nil .nil) .nil))) (.node (hP_14 P) (.node (hA_22 P) (.node (hA_38 P) (.node (subO 8) .nil .nil) .nil) (.node (hA_54 P) (.node (subO 24) .nil .nil) .nil)) (.node (hA_30 P) (.node (hA_46 P) (.node (subO 16) .nil .nil) .nil) (.node (subO 0) (.node (subO 32) .nil .nil) .nil))))))
noncomputable def hBp (P:Params):BT:=(.node (PySem.W.boot_o_0 P) (.node (PySem.W.boot_o_1 P) (.node (hA_3 P) (.node (PySem.W.boot_o_7 P) (.node (hA_15 P) (.node (hA_31 P) (.node (subO 1) .nil .nil) (.node (subO 33) .nil .nil)) (.node (hA_47 P) (.node (subO 17) .nil .nil) .nil)) (.node (hA_23 P) (.node (hA_39 P) (.node (subO 9) .nil .nil) .nil) (.node (hA_55 P) (.node (subO 25) .nil .nil) .nil))) (.node (hP_11 P) (.node (hA_19 P) (.node (hA_35 P) (.node (subO 5) .nil .nil) (.node (subO 37) .nil .nil)) (.node (hA_51 P) (.node (subO 21) .nil .nil) .nil)) (.node (hA_27 P) (.node (hA_43 P) (.node (subO 13) .nil .nil) .nil) (.node (hA_59 P) (.node (subO 29) .nil .nil) .nil)))) (.node (PySem.W.boot_o_5 P) (.node (PySem.W.boot_o_9 P) (.node (hA_17 P) (.node (hA_33 P) (.node (subO 3) .nil .nil) (.node (subO 35) .nil .nil)) (.node (hA_49 P) (.node (subO 19) .nil .nil) .nil)) (.node (hA_25 P) (.node (hA_41 P) (.node (subO 11) .nil .nil) .nil) (.node (hA_57 P) (.node (subO 27) .nil .nil) .nil))) (.node (hP_13 P) (.node (hA_21 P) (.node (hA_37 P) (.node (subO 7) .nil .nil) .nil) (.node (hA_53 P) (.node (subO 23) .nil .nil) .nil)) (.node (hA_29 P) (.node (hA_45 P) (.node (subO 15) .nil .nil) .nil) (.node b3O (.node (subO 31) .nil .nil) .nil))))) (.node (PySem.W.boot_o_2 P) (.node (PySem.W.boot_o_4 P) (.node (PySem.W.boot_o_8 P) (.node (hA_16 P) (.node (hA_32 P) (.node (subO 2) .nil .nil) (.node (subO 34) .nil .nil)) (.node (hA_48 P) (.node (subO 18) .nil .nil) .nil)) (.node (hA_24 P) (.node (hA_40 P) (.node (subO 10) .nil .nil) .nil) (.node (hA_56 P) (.node (subO 26) .nil .nil) .nil))) (.node (hA_12 P) (.node (hA_20 P) (.node (hA_36 P) (.node (subO 6) .nil .nil) .nil) (.node (hA_52 P) (.node (subO 22) .nil .nil) .nil)) (.node (hA_28 P) (.node (hA_44 P) (.node (subO 14) .nil .nil) .nil) (.node (hA_60 P) (.node (subO 30) .nil .nil) .nil)))) (.node (PySem.W.boot_o_6 P) (.node (PySem.W.boot_o_10 P) (.node (hA_18 P) (.node (hA_34 P) (.node (subO 4) .nil .nil) (.node (subO 36) .nil .nil)) (.node (hA_50 P) (.node (subO 20) .nil .nil) .nil)) (.node (hA_26 P) (.node (hA_42 P) (.node (subO 12) .nil .nil) .nil) (.node (hA_58 P) (.node (subO 28) .nil .nil) .nil))) (.node (hP_14 P) (.node (hA_22 P) (.node (hA_38 P) (.node (subO 8) .nil .nil) .nil) (.node (hA_54 P) (.node (subO 24) .nil .nil) .nil)) (.node (hA_30 P) (.node (hA_46 P) (.node (subO 16) .nil .nil) .nil) (.node (subO 0) (.node (subO 32) .nil .nil) .nil))))))
noncomputable def hBn:Nat:=100
noncomputable def hBt:Nat:=2254
noncomputable def hC_3 (P:Params):Obj:=⟨(.type "dict"),none,(.dict ⟨[⟨PyData.keyHash P y2,.str y2 165,(.str y39 2262)⟩,⟨PyData.keyHash P y3,.str y3 166,.none⟩,⟨PyData.keyHash P y4,.str y4 167,.none⟩,⟨PyData.keyHash P y5,.str y5 168,(.builtin "__main__.__loader__#opaque")⟩,⟨PyData.keyHash P y6,.str y6 169,.none⟩,⟨PyData.keyHash P y7,.str y7 170,(.ref 6)⟩,⟨PyData.keyHash P y8,.str y8 171,(.ref 4)⟩,⟨PyData.keyHash P y9,.str y9 173,(.str y10 172)⟩,⟨PyData.keyHash P y11,.str y11 174,.none⟩,⟨PyData.keyHash P y14,.str y14 190,(.int 127 189)⟩,⟨PyData.keyHash P y15,.str y15 199,(.ref 21)⟩,⟨PyData.keyHash P y16,.str y16 209,(.ref 28)⟩,⟨PyData.keyHash P y17,.str y17 221,(.ref 35)⟩,⟨PyData.keyHash P y18,.str y18 233,(.ref 42)⟩,⟨PyData.keyHash P y19,.str y19 295,(.ref 50)⟩,⟨PyData.keyHash P y20,.str y20 302,(.ref 60)⟩,⟨PyData.keyHash P y38,.str y38 2253,(.ref 61)⟩,⟨PyData.keyHash P y40,.str y40 2261,(.ref 106)⟩,⟨PyData.keyHash P y41,.str y41 2273,(.ref 113)⟩,⟨PyData.keyHash P y42,.str y42 2279,(.ref 118)⟩,⟨PyData.keyHash P y43,.str y43 2285,(.ref 123)⟩]⟩ 21),⟨[]⟩⟩
noncomputable def hC_12 (P:Params):Obj:=⟨.none,none,(.fields ⟨[(.int 3 0),(.int 0 0),(.ref 20),(.int 15 0),(.int 0 0),(.ref 27),(.int 26 0),(.int 0 0),(.ref 34),(.int 39 0),(.int 0 0),(.ref 41),(.int 59 0),(.int 0 0),(.ref 59),(.int 62 0),(.int 0 0),(.ref 105),(.int 68 0),(.int 0 0),(.ref 112),(.int 74 0),(.int 0 0),(.ref 117),(.int 76 0),(.int 0 0),(.ref 122)]⟩),⟨[]⟩⟩
noncomputable def hC_100 (P:Params):Obj:=⟨(.type "tuple"),none,(.seq ⟨[]⟩ 0),⟨[]⟩⟩
noncomputable def hC_101 (P:Params):Obj:=⟨.none,none,(.fields ⟨[]⟩),⟨[]⟩⟩
noncomputable def hC_102 (P:Params):Obj:=⟨(.type "tuple"),none,(.seq ⟨[(.str y37 2257),(.str y44 2258)]⟩ 0),⟨[]⟩⟩
noncomputable def hC_103 (P:Params):Obj:=⟨(.type "tuple"),none,(.seq ⟨[]⟩ 0),⟨[]⟩⟩
noncomputable def hC_104 (P:Params):Obj:=⟨.none,none,(.func (FuncData.mk y40 y40 fB3a (.stmts fB3_) fB3s 0 [] .none .none .none .none none .none .none 0)),⟨[]⟩⟩
noncomputable def hC_105 (P:Params):Obj:=⟨(.type "code"),none,(.fields ⟨[(.str y40 2254),(.str y40 2255),(.str y10 2256),(.int 62 0),(.int 1 0),(.int 0 0),(.int 0 0),(.int 3 0),(.ref 100),(.bool true),(.int 181 0),(.ref 101),.none,(.ref 102),(.ref 103),(.ref 104),(.int 2259 0),(.int 62 0),(.str y10 2260)]⟩),⟨[]⟩⟩
noncomputable def hC_106 (P:Params):Obj:=⟨(.type "function"),none,(.func (FuncData.mk y40 y40 fB3a (.stmts fB3_) fB3s 3 [] .none .none .none (.str y13 234) none (.ref 105) .none 0)),⟨[]⟩⟩
noncomputable def hC_107 (P:Params):Obj:=⟨(.type "tuple"),none,(.seq ⟨[]⟩ 0),⟨[]⟩⟩
noncomputable def hC_108 (P:Params):Obj:=⟨.none,none,(.fields ⟨[]⟩),⟨[]⟩⟩
noncomputable def hC_109 (P:Params):Obj:=⟨(.type "tuple"),none,(.seq ⟨[(.str y45 2267),(.str y46 2268),(.str y47 2269),(.str y48 2270)]⟩ 0),⟨[]⟩⟩
noncomputable def hC_110 (P:Params):Obj:=⟨(.type "tuple"),none,(.seq ⟨[]⟩ 0),⟨[]⟩⟩
noncomputable def hC_111 (P:Params):Obj:=⟨.none,none,(.func (FuncData.mk y41 y41 fLga (.stmts fLg_) fLgs 0 [] .none .none .none .none none .none .none 0)),⟨[]⟩⟩
noncomputable def hC_112 (P:Params):Obj:=⟨(.type "code"),none,(.fields ⟨[(.str y41 2264),(.str y41 2265),(.str y10 2266),(.int 68 0),(.int 1 0),(.int 0 0),(.int 0 0),(.int 3 0),(.ref 107),(.bool true),(.int 181 0),(.ref 108),.none,(.ref 109),(.ref 110),(.ref 111),(.int 2271 0),(.int 68 0),(.str y10 2272)]⟩),⟨[]⟩⟩
noncomputable def hC_113 (P:Params):Obj:=⟨(.type "function"),none,(.func (FuncData.mk y41 y41 fLga (.stmts fLg_) fLgs 3 [] .none .none .none (.str y39 2262) none (.ref 112) .none 0)),⟨[]⟩⟩
noncomputable def hC_114 (P:Params):Obj:=⟨(.type "tuple"),none,(.seq ⟨[]⟩ 0),⟨[]⟩⟩
noncomputable def hC_115 (P:Params):Obj:=⟨.none,none,(.fields ⟨[]⟩),⟨[]⟩⟩
noncomputable def hC_116 (P:Params):Obj:=⟨.none,none,(.func (FuncData.mk y42 y42 fLoa (.stmts fLo_) fLos 0 [] .none .none .none .none none .none .none 0)),⟨[]⟩⟩
noncomputable def hC_117 (P:Params):Obj:=⟨(.type "code"),none,(.fields ⟨[(.str y42 2274),(.str y42 2275),(.str y10 2276),(.int 74 0),(.int 2 0),(.int 0 0),(.int 0 0),(.int 3 0),(.ref 114),(.bool true),(.int 181 0),(.ref 115),.none,.none,.none,(.ref 116),(.int 2277 0),(.int 74 0),(.str y10 2278)]⟩),⟨[]⟩⟩
noncomputable def hC_118 (P:Params):Obj:=⟨(.type "function"),none,(.func (FuncData.mk y42 y42 fLoa (.stmts fLo_) fLos 3 [] .none .none .none (.str y39 2262) none (.ref 117) .none 0)),⟨[]⟩⟩
noncomputable def hC_119 (P:Params):Obj:=⟨(.type "tuple"),none,(.seq ⟨[]⟩ 0),⟨[]⟩⟩
noncomputable def hC_120 (P:Params):Obj:=⟨.none,none,(.fields ⟨[]⟩),⟨[]⟩⟩
noncomputable def hC_121 (P:Params):Obj:=⟨.none,none,(.func (FuncData.mk y43 y43 fLawa (.stmts fLaw_) fLaws 0 [] .none .none .none .none none .none .none 0)),⟨[]⟩⟩
noncomputable def hC_122 (P:Params):Obj:=⟨(.type "code"),none,(.fields ⟨[(.str y43 2280),(.str y43 2281),(.str y10 2282),(.int 76 0),(.int 1 0),(.int 0 0),(.int 0 0),(.int 3 0),(.ref 119),(.bool true),(.int 181 0),(.ref 120),.none,.none,.none,(.ref 121),(.int 2283 0),(.int 76 0),(.str y10 2284)]⟩),⟨[]⟩⟩
noncomputable def hC_123 (P:Params):Obj:=⟨(.type "function"),none,(.func (FuncData.mk y43 y43 fLawa (.stmts fLaw_) fLaws 3 [] .none .none .none (.str y39 2262) none (.ref 122) .none 0)),⟨[]⟩⟩
noncomputable def hC (P:Params):BT:=(.node (PySem.W.boot_o_0 P) (.node (PySem.W.boot_o_1 P) (.node (hC_3 P) (.node (PySem.W.boot_o_7 P) (.node (hA_15 P) (.node (hA_31 P) (.node (subO 1) .nil .nil) (.node (subO 33) .nil .nil)) (.node (hA_47 P) (.node (subO 17) .nil .nil) (.node (hC_111 P) .nil .nil))) (.node (hA_23 P) (.node (hA_39 P) (.node (subO 9) .nil .nil) (.node (hC_103 P) .nil .nil)) (.node (hA_55 P) (.node (subO 25) .nil .nil) (.node (hC_119 P) .nil .nil)))) (.node (hP_11 P) (.node (hA_19 P) (.node (hA_35 P) (.node (subO 5) .nil .nil) (.node (subO 37) .nil .nil)) (.node (hA_51 P) (.node (subO 21) .nil .nil) (.node (hC_115 P) .nil .nil))) (.node (hA_27 P) (.node (hA_43 P) (.node (subO 13) .nil .nil) (.node (hC_107 P) .nil .nil)) (.node (hA_59 P) (.node (subO 29) .nil .nil) (.node (hC_123 P) .nil .nil))))) (.node (PySem.W.boot_o_5 P) (.node (PySem.W.boot_o_9 P) (.node (hA_17 P) (.node (hA_33 P) (.node (subO 3) .nil .nil) (.node (subO 35) .nil .nil)) (.node (hA_49 P) (.node (subO 19) .nil .nil) (.node (hC_113 P) .nil .nil))) (.node (hA_25 P) (.node (hA_41 P) (.node (subO 11) .nil .nil) (.node (hC_105 P) .nil .nil)) (.node (hA_57 P) (.node (subO 27) .nil .nil) (.node (hC_121 P) .nil .nil)))) (.node (hP_13 P) (.node (hA_21 P) (.node (hA_37 P) (.node (subO 7) .nil .nil) (.node (hC_101 P) .nil .nil)) (.node (hA_53 P) (.node (subO 23) .nil .nil) (.node (hC_117 P) .nil .nil))) (.node (hA_29 P) (.node (hA_45 P) (.node (subO 15) .nil .nil) (.node (hC_109 P) .nil .nil)) (.node b3O (.node (subO 31) .nil .nil) .nil))))) (.node (PySem.W.boot_o_2 P) (.node (PySem.W.boot_o_4 P) (.node (PySem.W.boot_o_8 P) (.node (hA_16 P) (.node (hA_32 P) (.node (subO 2) .nil .nil) (.node (subO 34) .nil .nil)) (.node (hA_48 P) (.node (subO 18) .nil .nil) (.node (hC_112 P) .nil .nil))) (.node (hA_24 P) (.node (hA_40 P) (.node (subO 10) .nil .nil) (.node (hC_104 P) .nil .nil)) (.node (hA_56 P) (.node (subO 26) .nil .nil) (.node (hC_120 P) .nil .nil)))) (.node (hC_12 P) (.node (hA_20 P) (.node (hA_36 P) (.node (subO 6) .nil .nil) (.node (hC_100 P) .nil .nil)) (.node (hA_52 P) (.node (subO 22) .nil .nil) (.node (hC_116 P) .nil .nil))) (.node (hA_28 P) (.node (hA_44 P) (.node (subO 14) .nil .nil) (.node (hC_108 P) .nil .nil)) (.node (hA_60 P) (.node (subO 30) .nil .nil) .nil)))) (.node (PySem.W.boot_o_6 P) (.node (PySem.W.boot_o_10 P) (.node (hA_18 P) (.node (hA_34 P) (.node (subO 4) .nil .nil) (.node (subO 36) .nil .nil)) (.node (hA_50 P) (.node (subO 20) .nil .nil) (.node (hC_114 P) .nil .nil))) (.node (hA_26 P) (.node (hA_42 P) (.node (subO 12) .nil .nil) (.node (hC_106 P) .nil .nil)) (.node (hA_58 P) (.node (subO 28) .nil .nil) (.node (hC_122 P) .nil .nil)))) (.node (hP_14 P) (.node (hA_22 P) (.node (hA_38 P) (.node (subO 8) .nil .nil) (.node (hC_102 P) .nil .nil)) (.node (hA_54 P) (.node (subO 24) .nil .nil) (.node (hC_118 P) .nil .nil))) (.node (hA_30 P) (.node (hA_46 P) (.node (subO 16) .nil .nil) (.node (hC_110 P) .nil .nil)) (.node (subO 0) (.node (subO 32) .nil .nil) .nil))))))
noncomputable def hCn:Nat:=124
noncomputable def hCt:Nat:=2286
end Mine
end
noncomputable section
open PySem PySem.W PySem.W.X PyProof.Rows
namespace Mine
noncomputable def life0:Life:={}
noncomputable def envT:Env:={ scope:=pw.main.scope,locals:=mainNs,globals:=mainNs,cells:=[],code:=.ref 13,frame:=some 14 }
noncomputable def bE:List Stmt:=behindTheImports pw
noncomputable def cE:Code:=.body bE envT
noncomputable def q0:Pos:=⟨0,0,0,0⟩
noncomputable def pA:Pos:=⟨59,0,60,30⟩
noncomputable def pB:Pos:=⟨61,0,61,13⟩
noncomputable def pC:Pos:=⟨76,0,111,163⟩
noncomputable def S0 (w:World) (os:OsState):Shared:=⟨boot_heap w.params,Array.mk [],boot_drawn,boot_toks,os⟩
noncomputable def SP (w:World) (os:OsState):SharedT:=⟨hP w.params,15,life0,Array.mk [],boot_drawn,187,os⟩
noncomputable def SA (w:World) (os:OsState):SharedT:=⟨hA w.params,61,life0,Array.mk [],boot_drawn,303,os⟩
noncomputable def SB (w:World) (os:OsState):SharedT:=⟨hB w.params,100,life0,Array.mk [],boot_drawn,2254,os⟩
noncomputable def SC (w:World) (os:OsState):SharedT:=⟨hC w.params,124,life0,Array.mk [],boot_drawn,2286,os⟩
theorem st10:bE.drop 10 = .Assign b3T (.Dict b3Ks b3Vs b3Q) b3P::bE.drop 11:=by kernel_rfl
theorem b3_okH:okItems b3Ks b3Vs = true:=by kernel_rfl
theorem b3_cutH:b3I = b3x ++ (b3c.flatten ++ b3l):=by kernel_rfl
theorem b3_x:b3x.length = 17:=by kernel_rfl
theorem b3_c:b3c.all (fun x=>x.length == 17) = true:=by kernel_rfl
theorem b3_cl:b3c.length = 37:=by kernel_rfl
theorem b3_l:b3l.length = 4:=by kernel_rfl
noncomputable def risesL:List Int→Bool
  | []=>true
  | [_]=>true
  | a::b::r=>Int.blt' a b && risesL (b::r)
where Int.blt' (a b:Int):Bool:=decide (a < b)
theorem b3_rise:risesL (hs b3I) = true:=by kernel_rfl
theorem rises_lt:∀ {l:List Int},risesL l = true→l.Pairwise (· < ·)
  | [],_=>.nil
  | [a],_=>List.pairwise_singleton ..
  | a::b::r,h=>by
    simp only [risesL,Bool.and_eq_true,risesL.Int.blt',decide_eq_true_eq] at h
    have ih:=rises_lt h.2
    refine .cons (fun x hx=>?_) ih
    rcases List.mem_cons.mp hx with rfl | hx
    · exact h.1
    · exact Int.lt_trans h.1 (List.rel_of_pairwise_cons ih hx)
theorem b3_nodup:(hs (b3x ++ (b3c.flatten ++ b3l))).Nodup:=by
  rw [← b3_cutH]
  exact (rises_lt b3_rise).imp fun h=>Int.ne_of_lt h
theorem b3_pairs (env:Env) (p:Pos):∀ (ks:List (Option PySem.Expr)) (vs:List PySem.Expr),okItems ks vs = true →
    (evalEachOpt ks env).zip ((evalEach vs env).map fun v=>do let x ← v; standAt p; pure x) = ((itemsOf ks vs).map (pT p)).map oT
  | [],[],_=>rfl
  | [],_::_,h=>by cases h
  | _::_,[],h=>by cases h
  | k::ks,v::vs,h=>by
    unfold okItems at h
    cases e:itemOf k v with
    | none=>rw [e] at h; cases h
    | some x =>
      rw [e] at h
      have ih:=b3_pairs env p ks vs h
      unfold itemOf at e
      split at e
      · cases e
        show _::List.zip _ _ = oT (pT p _)::((itemsOf ks vs).map (pT p)).map oT
        rw [ih]
        rfl
      · cases e
noncomputable def b3K (v:Value):Sem Flow:=Sem.bind (swappedStores b3T (.Dict b3Ks b3Vs b3Q) envT) fun sw=>assignStores envT v sw ((assignEach b3T envT).map (·.2))
theorem b3_tree:exec (.Assign b3T (.Dict b3Ks b3Vs b3Q) b3P) envT = .at b3P fun _=>.at b3Q fun _=>Sem.bind (dictDisplay (((b3x ++ (b3c.flatten ++ b3l)).map (pT b3Q)).map oT)) b3K:=by
  rw [arm_exec_Assign]
  refine congrArg (Sem.at b3P) (funext fun _=>?_)
  show Sem.bind (swapsWithSole b3T _ _ _) _ = _
  have e:swapsWithSole b3T (.Dict b3Ks b3Vs b3Q) b3P.line envT = .pure false:=rfl
  rw [e]
  show Sem.bind (eval (.Dict b3Ks b3Vs b3Q) envT) _ = _
  rw [arm_eval_Dict,b3_pairs envT b3Q b3Ks b3Vs b3_okH,show itemsOf b3Ks b3Vs = _ from b3_cutH]
  rfl
noncomputable def SBp (w:World) (os:OsState):SharedT:=⟨hBp w.params,100,life0,Array.mk [],boot_drawn,2253,os⟩
theorem b3_list (w:World):(hA w.params).list 61 ++ b3O::mainR 303 b3c b3l = (hBp w.params).list 100:=by kernel_rfl
theorem run_B2 (w:World) (os:OsState):segRunT treeTable pw w 11 (some (.ref 6)) 1 30 (SBp w os) ⟨(b3K (.ref 61)).wrap doneF deadEnd id id,cE,b3Q,[topFrame q0]⟩ = some (.next,SB w os,cE,pB):=by
  rw [PySem.W.Fast.te10110043849684766642,PySem.W.Fast.te14364793385576792824]
  kernel_rfl
theorem HH_abs (T:BT) (n:Nat) (l:Life) (m:Obj) (R:List Obj):HH (absHeap T n l) m R = ⟨(T.list n ++ m::R).toArray,l⟩:=by
  unfold HH absHeap
  simp
theorem absHeap_HH (w:World):HH (absHeap (hA w.params) 61 life0) b3O (mainR 303 b3c b3l) = absHeap (hBp w.params) 100 life0:=by
  refine (HH_abs ..).trans ?_
  rw [b3_list w]
  rfl
theorem run_B1 (w:World) (os:OsState):G w 11 (some (.ref 6)) 16000 (SA w os).abs (pieceOf (.Assign b3T (.Dict b3Ks b3Vs b3Q) b3P) envT cE pA [topFrame q0])
    (SBp w os).abs ⟨(b3K (.ref 61)).wrap doneF deadEnd id id,cE,b3Q,[topFrame q0]⟩:=by
  have hC:IsC fun x:Sem Flow=>x.wrap doneF deadEnd id id:=IsC.wrap _ _
  show G w 11 (some (.ref 6)) 16000 (SA w os).abs (th q0 cE pA ((exec (.Assign b3T (.Dict b3Ks b3Vs b3Q) b3P) envT).wrap doneF deadEnd id id)) _ _
  rw [b3_tree]
  have hsz:(absHeap (hA w.params) 61 life0).objs.size = 61:=absHeap_size ..
  have key:=g_disp (w:=w) (n₀:=11) (ann:=some (.ref 6)) (q:=q0) (c:=cE) (p:=b3Q) (C:=fun x:Sem Flow=>x.wrap doneF deadEnd id id) (SA w os).abs (A:=absHeap (hA w.params) 61 life0) (t:=303) (by rw [hsz]; rfl) (by rw [hsz]; decide) (D:=fun y=>Sem.bind y b3K) (hC.bind _)
    b3_x (fun x hx=>by simpa using List.all_eq_true.mp b3_c x hx) (by intro e; have:=b3_l; rw [e] at this; cases this) (by rw [b3_l]; decide) (by rw [b3_cl]; decide) b3_nodup
  rw [hsz,b3_cl,b3_l] at key
  refine G.le (b:=1+(1+(800+400 * 37))) ?_ (by decide)
  refine (g_at (C:=fun x:Sem Flow=>x.wrap doneF deadEnd id id) hC).trans ?_
  refine (g_at (C:=fun x:Sem Flow=>x.wrap doneF deadEnd id id) hC).trans ?_
  have e:sh (SA w os).abs (HH (absHeap (hA w.params) 61 life0) (dO (mainE 303 b3x b3c b3l) (17+17 * 37+4)) (mainR 303 b3c b3l)) (303+3 * 17+3 * (17 * 37)+3 * 4) = (SBp w os).abs:=by
    show Shared.mk (HH (absHeap (hA w.params) 61 life0) b3O (mainR 303 b3c b3l)) _ _ _ _ = Shared.mk (absHeap (hBp w.params) 100 life0) _ _ _ _
    rw [absHeap_HH]
    rfl
  rw [e] at key
  exact key
theorem run_B (w:World) (os:OsState):∃ n,n ≤ 16030 ∧ segRun treeTable pw w 11 (some (.ref 6)) 1 n (SA w os).abs (pieceOf (.Assign b3T (.Dict b3Ks b3Vs b3Q) b3P) envT cE pA [topFrame q0]) = some (.next,(SB w os).abs,cE,pB):=by
  obtain ⟨n,hn,h⟩:=run_B1 w os
  exact ⟨n+30,by omega,seg_go h (segRun_of (run_B2 w os))⟩
end Mine
end
noncomputable section
open PySem PySem.W PySem.W.X PyProof.Rows
namespace Mine
theorem run_pre (w:World) (os:OsState):topGo treeTable pw w 11 (some (.ref 6)) 12 (S0 w os) (topStub pw) = some ((SP w os).abs,⟨denote treeTable cE,cE,q0,[topFrame q0]⟩):=by
  rw [PySem.W.Fast.te15667345088766844465,PySem.W.Fast.te11892475500146522536,PySem.W.Fast.te14364793385576792824]
  kernel_rfl
def RunA (os:OsState) (w:World):Prop:=PySem.W.Fast.tw10110043849684766642 PySem.W.Fast.tw14364793385576792824 pw w 11 (some (.ref 6)) 1 1300 (SP w os) (piecesOf (bE.take 10) envT cE q0 [topFrame q0]) = some (.next,SA w os,cE,pA)
theorem run_A00 (os:OsState) (w:World):RunA os ((w.withFollow "set-order" false).withFollow "special-get-raises" false):=by unfold RunA; kernel_rfl
theorem run_A01 (os:OsState) (w:World):RunA os ((w.withFollow "set-order" true).withFollow "special-get-raises" false):=by unfold RunA; kernel_rfl
theorem run_A10 (os:OsState) (w:World):RunA os ((w.withFollow "set-order" false).withFollow "special-get-raises" true):=by unfold RunA; kernel_rfl
theorem run_A11 (os:OsState) (w:World):RunA os ((w.withFollow "set-order" true).withFollow "special-get-raises" true):=by unfold RunA; kernel_rfl
theorem run_A (os:OsState):∀ w:World,segRunT treeTable pw w 11 (some (.ref 6)) 1 1300 (SP w os) (piecesOf (bE.take 10) envT cE q0 [topFrame q0]) = some (.next,SA w os,cE,pA):=by
  rw [PySem.W.Fast.te10110043849684766642,PySem.W.Fast.te14364793385576792824]
  exact byRow2 (P:=RunA os) "special-get-raises" (byRow2 "set-order" (run_A00 os) (run_A01 os)) (byRow2 "set-order" (run_A10 os) (run_A11 os))
end Mine
end
noncomputable section
open PySem PySem.W PySem.W.X PyProof.Rows
namespace Mine
theorem run_blk (w:World) (os:OsState):segRun treeTable pw w 11 (some (.ref 6)) 1 1 (SP w os).abs (blockOf bE envT cE q0 [topFrame q0]) = some (.next,(SP w os).abs,cE,q0):=by
  kernel_rfl
theorem run_C (w:World) (os:OsState):segRunT treeTable pw w 11 (some (.ref 6)) 1 200 (SB w os) (piecesOf (bE.drop 11) envT cE pB [topFrame q0]) = some (.next,SC w os,cE,pC):=by
  rw [PySem.W.Fast.te10110043849684766642,PySem.W.Fast.te14364793385576792824]
  kernel_rfl
theorem run_F (w:World) (os:OsState):topRun treeTable pw w 11 (some (.ref 6)) 3 (SC w os).abs (restOf [] envT cE pC [topFrame q0]) = some (SC w os).abs:=by
  kernel_rfl
theorem bE_cut:bE = bE.take 10 ++ (.Assign b3T (.Dict b3Ks b3Vs b3Q) b3P::(bE.drop 11 ++ [])):=by
  rw [List.append_nil,← st10,List.take_append_drop]
theorem run_all (w:World) (os:OsState):topRun treeTable pw w 11 (some (.ref 6)) 20000 (S0 w os) (topStub pw) = some (SC w os).abs:=by
  have hA:=segRun_of (run_A os w)
  obtain ⟨n,hn,hB⟩:=run_B w os
  have k1:=piece_app (segRun_of (run_C w os)) (rest:=[]) (run_F w os)
  have k2:=piece_cons hB k1
  have k3:=piece_app hA (rest:=.Assign b3T (.Dict b3Ks b3Vs b3Q) b3P::(bE.drop 11 ++ [])) k2
  rw [← bE_cut] at k3
  have k4:=piece_block (run_blk w os) k3
  have k5:=go_top (run_pre w os) k4
  have:=topRun_mono (20000 - (12+(1+(1300+(n+(200+3)))))) _ _ _ _ k5
  rw [show 12+(1+(1300+(n+(200+3))))+(20000 - (12+(1+(1300+(n+(200+3)))))) = 20000 by omega] at this
  exact this
end Mine
end
noncomputable section
open PySem PySem.W PySem.W.X PyProof.Rows
namespace Mine
noncomputable def qP:Program:={ pw with main:={ pw.main with body:=([1,2,3,5,6,9,11,13,14,15]:List Nat).filterMap fun i=>pw.main.body[i]? } }
noncomputable def looseP:List Str:=[Str.ofString "b1_set",Str.ofString "b3_exceptions"]
noncomputable def XtP:Shared→Bool:=fun s=>xlAt qP [] s && recOk [] s
noncomputable def hh (w:World):Heap:=absHeap (hC w.params) 124 life0
theorem size0 (w:World):((boot_heap w.params).isNs mainGlobals && (Array.mk []:Array GenState).size == 0,(boot_heap w.params).objs.size,(boot_heap w.params).nsMap mainGlobals "__annotations__") = (true,11,some (.ref 6)):=by
  rw [PySem.W.Fast.te8920871248978507458]
  kernel_rfl
theorem look1 (w:World):staticsOk (importedModules pw.main.body) (boot_heap w.params) (hh w) = true:=by
  kernel_rfl
theorem look2 (w:World):namesBound pw (hh w) = true:=by
  kernel_rfl
theorem look3 (w:World):laidKept (boot_heap w.params) (hh w) = true:=by
  kernel_rfl
noncomputable def sC (w:World) (os:OsState):Shared:=⟨hh w,Array.mk [],boot_drawn,2286,os⟩
theorem seen1 (w:World) (os:OsState):seen ((recsOf qP).map (·.name)) (ownsOf qP) [] { sC w os with gens:=#[] } = expectedOf qP:=by
  rw [PySem.W.Fast.te5160383126252970620,PySem.W.Fast.te5991557255702980513,PySem.W.Fast.te3399658132070893891]
  kernel_rfl
theorem seen2 (w:World):(hh w).bltView = bltViewBooted:=by
  kernel_rfl
theorem seen3 (w:World):(hh w).keysOk (looseW qP looseP) ((recsOf qP).map (·.name)) ((litsOf qP).map (·.1)) ((clssOf qP (looseW qP looseP)).map (·.name)) = true:=by
  rw [PySem.W.Fast.te10880121769531294198,PySem.W.Fast.te821141287760084731,PySem.W.Fast.te3399658132070893891,PySem.W.Fast.te7409074990110511671,PySem.W.Fast.te13664370479719496447]
  kernel_rfl
theorem seen4 (w:World):(hh w).accountedOkI (importedModules pw.main.body) = true:=by
  rw [PySem.W.Fast.te14722251495701143533]
  kernel_rfl
theorem seen5 (w:World) (os:OsState):((hh w).isNs mainGlobals && (hh w).isNs builtinsNs && tablesOk qP (hh w) && XtP (sC w os) && (sC w os).gens.size == 0) = true:=by
  rw [PySem.W.Fast.te10994771534591457954]
  kernel_rfl
theorem seen6 (w:World) (os:OsState):tabsOk qP (sC w os) = true:=by
  rw [PySem.W.Fast.te479339242167458305]
  kernel_rfl
theorem seen7 (w:World) (os:OsState):pinSeenD qP (drecsOf qP) (sC w os) = pinGoodD (drecsOf qP):=by
  rw [PySem.W.Fast.te16090120013241838585,PySem.W.Fast.te3247288618530077131]
  kernel_rfl
theorem seen8 (w:World) (os:OsState):plainSeenE qP (looseW qP looseP) (sC w os) = plainGoodE qP (looseW qP looseP):=by
  rw [PySem.W.Fast.te2386780881361962483,PySem.W.Fast.te821141287760084731]
  kernel_rfl
theorem seen9 (w:World) (os:OsState):plainSeenD qP looseP (sC w os) = plainGoodD qP looseP:=by
  rw [PySem.W.Fast.te11698064438423848299]
  kernel_rfl
theorem seen10 (w:World) (os:OsState):wideSeen qP (sC w os) = wideGood qP:=by
  rw [PySem.W.Fast.te7317090234206586261]
  kernel_rfl
theorem seen11 (w:World) (os:OsState):clsSeenW qP looseP (sC w os) = clsGoodW qP looseP:=by
  rw [PySem.W.Fast.te7369524293546568484]
  kernel_rfl
end Mine
end
noncomputable section
open PySem PySem.W PySem.W.X PyProof.Rows
namespace Mine
noncomputable def KP (P:Params):Frag:=[(0,o0 P),(2,o2 P),(3,o3 P),(20,o20 P),(21,o21 P),(27,o27 P),(28,o28 P),(34,o34 P),(35,o35 P),(41,o41 P),(42,o42 P),(50,o50 P),(59,o59 P),(60,o60 P),(61,o61 P),(105,o105 P),(106,o106 P),(112,o112 P),(113,o113 P),(117,o117 P),(118,o118 P),(122,o122 P),(123,o123 P)]
noncomputable def asP:List Addr:=[0,2,3,20,21,27,28,34,35,41,42,50,59,60,61,105,106,112,113,117,118,122,123]
theorem obs_ok (w:World) (os:OsState):obsZ asP (sC w os) = valZ KP 124 2286 w:=by kernel_rfl
theorem kt_ok (P:Params):kt P = KT.of (KP P):=by kernel_rfl
theorem opens:∀ w:World,(fencedOpening treeTable pw w 20000).map (fun s=>(s.heap,s.gens,s.drawn,s.toks)) = some (boot_heap w.params,Array.mk [],boot_drawn,boot_toks) :=
  boot_open (by rfl) (by rfl) (fun s=>by rfl)
theorem left:LeftO pw qP looseP XtP (obsZ asP) (valZ KP 124 2286) 20000:=by
  refine LeftO.of_pieces (H₀:=boot_heap) (H₁:=fun P=>absHeap (hC P) 124 life0) (gs₀:=Array.mk []) (gs₁:=Array.mk []) (d₀:=boot_drawn) (d₁:=boot_drawn) (k₀:=boot_toks) (k₁:=2286) (m₀:=11) (ann:=some (.ref 6)) (M:=20000) opens size0 (fun w os=>run_all w os) (by rfl) fun w=>funext fun os=>?_
  refine Prod.ext ?_ (Prod.ext ?_ ?_)
  · show (staticsOk (importedModules pw.main.body) (boot_heap w.params) (hh w) && namesBound pw (hh w) && true && laidKept (boot_heap w.params) (hh w)) = true
    rw [look1,look2,look3]; rfl
  · show (seen ((recsOf qP).map (·.name)) (ownsOf qP) [] { sC w os with gens:=#[] },(hh w).bltView,
      (hh w).keysOk (looseW qP looseP) ((recsOf qP).map (·.name)) ((litsOf qP).map (·.1)) ((clssOf qP (looseW qP looseP)).map (·.name)) && (hh w).accountedOkI (importedModules pw.main.body) && (hh w).isNs mainGlobals && (hh w).isNs builtinsNs && tablesOk qP (hh w) && XtP (sC w os) && (if true = true then (sC w os).gens.size == 0 else !leftWithCleanup (sC w os).gens),
      tabsOk qP (sC w os),pinSeenD qP (drecsOf qP) (sC w os),plainSeenE qP (looseW qP looseP) (sC w os),plainSeenD qP looseP (sC w os),wideSeen qP (sC w os),clsSeenW qP looseP (sC w os)) = _
    rw [seen1,seen2,seen3,seen4,seen6,seen7,seen8,seen9,seen10,seen11]
    have h5:=seen5 w os
    rw [if_pos rfl]
    have:(true && true && (hh w).isNs mainGlobals && (hh w).isNs builtinsNs && tablesOk qP (hh w) && XtP (sC w os) && ((sC w os).gens.size == 0)) = true:=by
      rw [Bool.true_and,Bool.true_and]; exact h5
    rw [this]
    rfl
  · exact obs_ok w os
end Mine
end
section
open PySem PySem.W PySem.W.X PyProof.Rows
namespace Mine
noncomputable def lo_i0:List Nat:=[0,0,2,2,1,1,0,0,0,0,0,2,4,4,4,1,1,1,1,1,1,1,1,1,1,1,4,4,4,4,4,4,4,4,4]
noncomputable def lo_i1:List Nat:=[3,3,3,3,3,3,3,3,3,1,1,11,1,13,13,13,13,13,0,0,10,1,5,15,15,15,15,1,1,1,1,1,15,4,4,4,4,5,5,5,5,5,1,5,5,5,11,11,11,11,12,12,12,12,12,12,12,12,12,9,9,0,0,0,0,9,1,1,1,1,1,1,1,1,1,1,1]
noncomputable def lo_i2:List Nat:=[3,3,3,3,3,3,3,3,3,1,1,19,1,21,21,21,21,21,0,0,18,1,13,23,23,23,23,1,1,1,1,1,23,4,4,4,4,5,5,5,5,5,5,5,5,5,3,3,21,3,23,23,23,23,23,0,0,20,3,15,25,25,25,25,1,1,1,1,1,25,6,6,6,6,7,7,7,7,7,1,7,7,7,21,21,21,21,22,22,22,22,22,22,22,22,22,19,19,0,0,0,0,19,1,1,1,1,1,1,1,1,1,1,1]
noncomputable def lo_i3:List Nat:=[3,3,3,3,3,3,3,3,3,1,1,29,1,31,31,31,31,31,0,0,28,1,23,33,33,33,33,1,1,1,1,1,33,4,4,4,4,5,5,5,5,5,5,5,5,5,3,3,31,3,33,33,33,33,33,0,0,30,3,25,35,35,35,35,1,1,1,1,1,35,6,6,6,6,7,7,7,7,7,7,7,7,7,5,5,33,5,35,35,35,35,35,0,0,32,5,27,37,37,37,37,1,1,1,1,1,37,8,8,8,8,9,9,9,9,9,1,9,9,9,33,33,33,33,34,34,34,34,34,34,34,34,34,31,31,0,0,0,0,31,1,1,1,1,1,1,1,1,1,1,1]
noncomputable def lo_i4:List Nat:=[3,3,3,3,3,3,3,3,3,1,1,41,1,43,43,43,43,43,0,0,40,1,35,45,45,45,45,1,1,1,1,1,45,4,4,4,4,5,5,5,5,5,5,5,5,5,3,3,43,3,45,45,45,45,45,0,0,42,3,37,47,47,47,47,1,1,1,1,1,47,6,6,6,6,7,7,7,7,7,7,7,7,7,5,5,45,5,47,47,47,47,47,0,0,44,5,39,49,49,49,49,1,1,1,1,1,49,8,8,8,8,9,9,9,9,9,9,9,9,9,7,7,47,7,49,49,49,49,49,0,0,46,7,41,51,51,51,51,1,1,1,1,1,51,10,10,10,10,11,11,11,11,11,1,11,11,11,47,47,47,47,48,48,48,48,48,48,48,48,48,45,45,0,0,0,0,45,1,1,1,1,1,1,1,1,1,1,1]
noncomputable def lo_i5:List Nat:=[3,3,3,3,3,3,3,3,3,1,1,55,1,57,57,57,57,57,0,0,54,1,49,59,59,59,59,1,1,1,1,1,59,4,4,4,4,5,5,5,5,5,5,5,5,5,3,3,57,3,59,59,59,59,59,0,0,56,3,51,61,61,61,61,1,1,1,1,1,61,6,6,6,6,7,7,7,7,7,7,7,7,7,5,5,59,5,61,61,61,61,61,0,0,58,5,53,63,63,63,63,1,1,1,1,1,63,8,8,8,8,9,9,9,9,9,9,9,9,9,7,7,61,7,63,63,63,63,63,0,0,60,7,55,65,65,65,65,1,1,1,1,1,65,10,10,10,10,11,11,11,11,11,11,11,11,11,9,9,63,9,65,65,65,65,65,0,0,62,9,57,67,67,67,67,1,1,1,1,1,67,12,12,12,12,13,13,13,13,13,1,13,13,13,63,63,63,63,64,64,64,64,64,64,64,64,64,61,61,0,0,0,0,61,1,1,1,1,1,1,1,1,1,1,1]
noncomputable def lo_i6:List Nat:=[3,3,3,3,3,3,3,3,3,1,1,71,1,73,73,73,73,73,0,0,70,1,65,75,75,75,75,1,1,1,1,1,75,4,4,4,4,5,5,5,5,5,5,5,5,5,3,3,73,3,75,75,75,75,75,0,0,72,3,67,77,77,77,77,1,1,1,1,1,77,6,6,6,6,7,7,7,7,7,7,7,7,7,5,5,75,5,77,77,77,77,77,0,0,74,5,69,79,79,79,79,1,1,1,1,1,79,8,8,8,8,9,9,9,9,9,9,9,9,9,7,7,77,7,79,79,79,79,79,0,0,76,7,71,81,81,81,81,1,1,1,1,1,81,10,10,10,10,11,11,11,11,11,11,11,11,11,9,9,79,9,81,81,81,81,81,0,0,78,9,73,83,83,83,83,1,1,1,1,1,83,12,12,12,12,13,13,13,13,13,13,13,13,13,11,11,81,11,83,83,83,83,83,0,0,80,11,75,85,85,85,85,1,1,1,1,1,85,14,14,14,14,15,15,15,15,15,1,15,15,15,81,81,81,81,82,82,82,82,82,1]
theorem lo_callA (w:World) (b2:Bool) (h0:Heap) (B:List Frame) (d:Drawn) (os:OsState) (pos0:Pos) (ep t8 t9 t10 lc ls t0:Nat) (c0:Int) (t1:Nat) (c1:Int) (t2:Nat) (c2:Int) (t3:Nat) (c3:Int) (t4:Nat) (c4:Int) (t5:Nat) (c5:Int) (t6:Nat) (s0:Int) (t7:Nat) (s1 s2 s3 s4:Int) (qa0:List Stmt) (qb0:Env) (qq0:Pos) (qa1:Args) (qq1:Pos) (sz tk gn:Nat) (M:List (Addr × Obj)) (G:List (Nat × GenState)) (O:(view w false h0 B [(.func qa0 qb0,qq0),(.builtin "claim.caller" qa1,qq1)] d os).Ok)
    (e0:∀ v:N2,CallN (view w false h0 B [(.func qa0 qb0,qq0),(.builtin "claim.caller" qa1,qq1)] d os) ([4,4,1,1,7]) (cB "sum" [(.ref (sz+13))]) [((sz+13),listO [] 0)] [] (fun v0=>oV (.int (List.sum []) (v0 3)))) (e1:∀ v:N2,CallN (view w false h0 B [(.func qa0 qb0,qq0),(.builtin "claim.caller" qa1,qq1)] d os) ([4,1,1,7]) (cB "min" [(.ref (sz+10))]) [((sz+10),listO [(.int (c0+(List.sum [])) 0)] 1)] [] (fun v1=>oV (.int (lmin [(c0+(List.sum []))]) (v1 3)))) (e2:∀ v:N2,CallN (view w false h0 B [(.func qa0 qb0,qq0),(.builtin "claim.caller" qa1,qq1)] d os) ([4,4,1,1,7]) (cB "sum" [(.ref ((v 1 0)+5))]) [(((v 1 0)+5),listO [(.int s0 0)] 0)] [] (fun v2=>oV (.int (List.sum [s0]) (v2 3)))) (e3:∀ v:N2,CallN (view w false h0 B [(.func qa0 qb0,qq0),(.builtin "claim.caller" qa1,qq1)] d os) ([4,4,1,1,7]) (cB "sum" [(.ref ((v 2 0)+1))]) [(((v 2 0)+1),listO [] 0)] [] (fun v3=>oV (.int (List.sum []) (v3 3)))) (e4:∀ v:N2,CallN (view w false h0 B [(.func qa0 qb0,qq0),(.builtin "claim.caller" qa1,qq1)] d os) ([4,1,1,7]) (cB "min" [(.ref ((v 1 0)+2))]) [(((v 1 0)+2),listO [(.int (c0+(List.sum [s0])) 0),(.int (c1+(List.sum [])) 0)] 2)] [] (fun v4=>oV (.int (lmin [(c0+(List.sum [s0])),(c1+(List.sum []))]) (v4 3)))) (e5:∀ v:N2,CallN (view w false h0 B [(.func qa0 qb0,qq0),(.builtin "claim.caller" qa1,qq1)] d os) ([4,4,1,1,7]) (cB "sum" [(.ref ((v 4 0)+5))]) [(((v 4 0)+5),listO [(.int s0 0),(.int s4 0)] 0)] [] (fun v5=>oV (.int (List.sum [s0,s4]) (v5 3)))) (e6:∀ v:N2,CallN (view w false h0 B [(.func qa0 qb0,qq0),(.builtin "claim.caller" qa1,qq1)] d os) ([4,4,1,1,7]) (cB "sum" [(.ref ((v 5 0)+1))]) [(((v 5 0)+1),listO [(.int s4 0)] 0)] [] (fun v6=>oV (.int (List.sum [s4]) (v6 3)))) (e7:∀ v:N2,CallN (view w false h0 B [(.func qa0 qb0,qq0),(.builtin "claim.caller" qa1,qq1)] d os) ([4,4,1,1,7]) (cB "sum" [(.ref ((v 6 0)+1))]) [(((v 6 0)+1),listO [] 0)] [] (fun v7=>oV (.int (List.sum []) (v7 3)))) (e8:∀ v:N2,CallN (view w false h0 B [(.func qa0 qb0,qq0),(.builtin "claim.caller" qa1,qq1)] d os) ([4,1,1,7]) (cB "min" [(.ref ((v 4 0)+2))]) [(((v 4 0)+2),listO [(.int (c0+(List.sum [s0,s4])) 0),(.int (c1+(List.sum [s4])) 0),(.int (c2+(List.sum [])) 0)] 3)] [] (fun v8=>oV (.int (lmin [(c0+(List.sum [s0,s4])),(c1+(List.sum [s4])),(c2+(List.sum []))]) (v8 3)))) (e9:∀ v:N2,CallN (view w false h0 B [(.func qa0 qb0,qq0),(.builtin "claim.caller" qa1,qq1)] d os) ([4,4,1,1,7]) (cB "sum" [(.ref ((v 8 0)+5))]) [(((v 8 0)+5),listO [(.int s0 0),(.int s4 0),(.int s4 0)] 0)] [] (fun v9=>oV (.int (List.sum [s0,s4,s4]) (v9 3)))) (e10:∀ v:N2,CallN (view w false h0 B [(.func qa0 qb0,qq0),(.builtin "claim.caller" qa1,qq1)] d os) ([4,4,1,1,7]) (cB "sum" [(.ref ((v 9 0)+1))]) [(((v 9 0)+1),listO [(.int s4 0),(.int s4 0)] 0)] [] (fun v10=>oV (.int (List.sum [s4,s4]) (v10 3)))) (e11:∀ v:N2,CallN (view w false h0 B [(.func qa0 qb0,qq0),(.builtin "claim.caller" qa1,qq1)] d os) ([4,4,1,1,7]) (cB "sum" [(.ref ((v 10 0)+1))]) [(((v 10 0)+1),listO [(.int s4 0)] 0)] [] (fun v11=>oV (.int (List.sum [s4]) (v11 3)))) (e12:∀ v:N2,CallN (view w false h0 B [(.func qa0 qb0,qq0),(.builtin "claim.caller" qa1,qq1)] d os) ([4,4,1,1,7]) (cB "sum" [(.ref ((v 11 0)+1))]) [(((v 11 0)+1),listO [] 0)] [] (fun v12=>oV (.int (List.sum []) (v12 3)))) (e13:∀ v:N2,CallN (view w false h0 B [(.func qa0 qb0,qq0),(.builtin "claim.caller" qa1,qq1)] d os) ([4,1,1,7]) (cB "min" [(.ref ((v 8 0)+2))]) [(((v 8 0)+2),listO [(.int (c0+(List.sum [s0,s4,s4])) 0),(.int (c1+(List.sum [s4,s4])) 0),(.int (c2+(List.sum [s4])) 0),(.int (c3+(List.sum [])) 0)] 4)] [] (fun v13=>oV (.int (lmin [(c0+(List.sum [s0,s4,s4])),(c1+(List.sum [s4,s4])),(c2+(List.sum [s4])),(c3+(List.sum []))]) (v13 3)))) (e14:∀ v:N2,CallN (view w false h0 B [(.func qa0 qb0,qq0),(.builtin "claim.caller" qa1,qq1)] d os) ([4,4,1,1,7]) (cB "sum" [(.ref ((v 13 0)+5))]) [(((v 13 0)+5),listO [(.int s0 0),(.int s4 0),(.int s4 0),(.int s4 0)] 0)] [] (fun v14=>oV (.int (List.sum [s0,s4,s4,s4]) (v14 3)))) (e15:∀ v:N2,CallN (view w false h0 B [(.func qa0 qb0,qq0),(.builtin "claim.caller" qa1,qq1)] d os) ([4,4,1,1,7]) (cB "sum" [(.ref ((v 14 0)+1))]) [(((v 14 0)+1),listO [(.int s4 0),(.int s4 0),(.int s4 0)] 0)] [] (fun v15=>oV (.int (List.sum [s4,s4,s4]) (v15 3)))) (e16:∀ v:N2,CallN (view w false h0 B [(.func qa0 qb0,qq0),(.builtin "claim.caller" qa1,qq1)] d os) ([4,4,1,1,7]) (cB "sum" [(.ref ((v 15 0)+1))]) [(((v 15 0)+1),listO [(.int s4 0),(.int s4 0)] 0)] [] (fun v16=>oV (.int (List.sum [s4,s4]) (v16 3)))) (e17:∀ v:N2,CallN (view w false h0 B [(.func qa0 qb0,qq0),(.builtin "claim.caller" qa1,qq1)] d os) ([4,4,1,1,7]) (cB "sum" [(.ref ((v 16 0)+1))]) [(((v 16 0)+1),listO [(.int s4 0)] 0)] [] (fun v17=>oV (.int (List.sum [s4]) (v17 3)))) (e18:∀ v:N2,CallN (view w false h0 B [(.func qa0 qb0,qq0),(.builtin "claim.caller" qa1,qq1)] d os) ([4,4,1,1,7]) (cB "sum" [(.ref ((v 17 0)+1))]) [(((v 17 0)+1),listO [] 0)] [] (fun v18=>oV (.int (List.sum []) (v18 3)))) (e19:∀ v:N2,CallN (view w false h0 B [(.func qa0 qb0,qq0),(.builtin "claim.caller" qa1,qq1)] d os) ([4,1,1,7]) (cB "min" [(.ref ((v 13 0)+2))]) [(((v 13 0)+2),listO [(.int (c0+(List.sum [s0,s4,s4,s4])) 0),(.int (c1+(List.sum [s4,s4,s4])) 0),(.int (c2+(List.sum [s4,s4])) 0),(.int (c3+(List.sum [s4])) 0),(.int (c4+(List.sum [])) 0)] 5)] [] (fun v19=>oV (.int (lmin [(c0+(List.sum [s0,s4,s4,s4])),(c1+(List.sum [s4,s4,s4])),(c2+(List.sum [s4,s4])),(c3+(List.sum [s4])),(c4+(List.sum []))]) (v19 3)))) (e20:∀ v:N2,CallN (view w false h0 B [(.func qa0 qb0,qq0),(.builtin "claim.caller" qa1,qq1)] d os) ([4,4,1,1,7]) (cB "sum" [(.ref ((v 19 0)+5))]) [(((v 19 0)+5),listO [(.int s0 0),(.int s4 0),(.int s4 0),(.int s4 0),(.int s4 0)] 0)] [] (fun v20=>oV (.int (List.sum [s0,s4,s4,s4,s4]) (v20 3)))) (e21:∀ v:N2,CallN (view w false h0 B [(.func qa0 qb0,qq0),(.builtin "claim.caller" qa1,qq1)] d os) ([4,4,1,1,7]) (cB "sum" [(.ref ((v 20 0)+1))]) [(((v 20 0)+1),listO [(.int s4 0),(.int s4 0),(.int s4 0),(.int s4 0)] 0)] [] (fun v21=>oV (.int (List.sum [s4,s4,s4,s4]) (v21 3)))) (e22:∀ v:N2,CallN (view w false h0 B [(.func qa0 qb0,qq0),(.builtin "claim.caller" qa1,qq1)] d os) ([4,4,1,1,7]) (cB "sum" [(.ref ((v 21 0)+1))]) [(((v 21 0)+1),listO [(.int s4 0),(.int s4 0),(.int s4 0)] 0)] [] (fun v22=>oV (.int (List.sum [s4,s4,s4]) (v22 3)))) (e23:∀ v:N2,CallN (view w false h0 B [(.func qa0 qb0,qq0),(.builtin "claim.caller" qa1,qq1)] d os) ([4,4,1,1,7]) (cB "sum" [(.ref ((v 22 0)+1))]) [(((v 22 0)+1),listO [(.int s4 0),(.int s4 0)] 0)] [] (fun v23=>oV (.int (List.sum [s4,s4]) (v23 3)))) (e24:∀ v:N2,CallN (view w false h0 B [(.func qa0 qb0,qq0),(.builtin "claim.caller" qa1,qq1)] d os) ([4,4,1,1,7]) (cB "sum" [(.ref ((v 23 0)+1))]) [(((v 23 0)+1),listO [(.int s4 0)] 0)] [] (fun v24=>oV (.int (List.sum [s4]) (v24 3)))) (e25:∀ v:N2,CallN (view w false h0 B [(.func qa0 qb0,qq0),(.builtin "claim.caller" qa1,qq1)] d os) ([4,4,1,1,7]) (cB "sum" [(.ref ((v 24 0)+1))]) [(((v 24 0)+1),listO [] 0)] [] (fun v25=>oV (.int (List.sum []) (v25 3)))) (e26:∀ v:N2,CallN (view w false h0 B [(.func qa0 qb0,qq0),(.builtin "claim.caller" qa1,qq1)] d os) ([4,1,1,7]) (cB "min" [(.ref ((v 19 0)+2))]) [(((v 19 0)+2),listO [(.int (c0+(List.sum [s0,s4,s4,s4,s4])) 0),(.int (c1+(List.sum [s4,s4,s4,s4])) 0),(.int (c2+(List.sum [s4,s4,s4])) 0),(.int (c3+(List.sum [s4,s4])) 0),(.int (c4+(List.sum [s4])) 0),(.int (c5+(List.sum [])) 0)] 6)] [] (fun v26=>oV (.int (lmin [(c0+(List.sum [s0,s4,s4,s4,s4])),(c1+(List.sum [s4,s4,s4,s4])),(c2+(List.sum [s4,s4,s4])),(c3+(List.sum [s4,s4])),(c4+(List.sum [s4])),(c5+(List.sum []))]) (v26 3)))) :
    Goes (view w false h0 B [(.func qa0 qb0,qq0),(.builtin "claim.caller" qa1,qq1)] d os) (mkD (cR 118 [(.ref lc),(.ref ls)]) pos0 [] ((lc,listO [(.int c0 t0),(.int c1 t1),(.int c2 t2),(.int c3 t3),(.int c4 t4),(.int c5 t5)] ep)::(ls,listO [(.int s0 t6),(.int s4 t7),(.int s4 t8),(.int s4 t9),(.int s4 t10)] 0)::M) sz tk (G) gn)
      (fun y=>∃ v:N2,y = mk (.pure (.done (.ret (.ref (sz+5))))) (.func fLo_ (envF fLos fLoq 118 [(z44,(sz+2)),(z43,(sz+1))] sz)) ⟨75,77,75,93⟩ [] (((sz+5),listO [(.int (lmin [(c0+(List.sum []))]) (v 1 3)),(.int (lmin [(c0+(List.sum [s0])),(c1+(List.sum []))]) (v 4 3)),(.int (lmin [(c0+(List.sum [s0,s4])),(c1+(List.sum [s4])),(c2+(List.sum []))]) (v 8 3)),(.int (lmin [(c0+(List.sum [s0,s4,s4])),(c1+(List.sum [s4,s4])),(c2+(List.sum [s4])),(c3+(List.sum []))]) (v 13 3)),(.int (lmin [(c0+(List.sum [s0,s4,s4,s4])),(c1+(List.sum [s4,s4,s4])),(c2+(List.sum [s4,s4])),(c3+(List.sum [s4])),(c4+(List.sum []))]) (v 19 3)),(.int (lmin [(c0+(List.sum [s0,s4,s4,s4,s4])),(c1+(List.sum [s4,s4,s4,s4])),(c2+(List.sum [s4,s4,s4])),(c3+(List.sum [s4,s4])),(c4+(List.sum [s4])),(c5+(List.sum []))]) (v 26 3))] 6)::(lc,listO [(.int c0 t0),(.int c1 t1),(.int c2 t2),(.int c3 t3),(.int c4 t4),(.int c5 t5)] ep)::(ls,listO [(.int s0 t6),(.int s4 t7),(.int s4 t8),(.int s4 t9),(.int s4 t10)] 0)::M) ((v 26 0)+2) (v 26 1) (G) (v 26 2)) :=
  goes_run (it:=lo_i0++[4,4,4,4,1,1,0,0,0,0,1,1,1,1,1,1,1,1,1,1,1,1,3,3,3,3]++lo_i1++[3,3,3,3]++lo_i2++[3,3,3,3]++lo_i3++[3,3,3,3]++lo_i4++[3,3,3,3]++lo_i5++[3,3,3,3]++lo_i6) (en:=[(39,.call [0] [] (fun v0=>oV (.int (List.sum []) (v0 3))) (fun v0=>[(7,.call [5] [] (fun v1=>oV (.int (lmin [(c0+(List.sum []))]) (v1 3))) (fun v1=>[(25,.call [0] [] (fun v2=>oV (.int (List.sum [s0]) (v2 3))) (fun v2=>[(11,.call [0] [] (fun v3=>oV (.int (List.sum []) (v3 3))) (fun v3=>[(7,.call [7] [] (fun v4=>oV (.int (lmin [(c0+(List.sum [s0])),(c1+(List.sum []))]) (v4 3))) (fun v4=>[(25,.call [0] [] (fun v5=>oV (.int (List.sum [s0,s4]) (v5 3))) (fun v5=>[(11,.call [0] [] (fun v6=>oV (.int (List.sum [s4]) (v6 3))) (fun v6=>[(11,.call [0] [] (fun v7=>oV (.int (List.sum []) (v7 3))) (fun v7=>[(7,.call [9] [] (fun v8=>oV (.int (lmin [(c0+(List.sum [s0,s4])),(c1+(List.sum [s4])),(c2+(List.sum []))]) (v8 3))) (fun v8=>[(25,.call [0] [] (fun v9=>oV (.int (List.sum [s0,s4,s4]) (v9 3))) (fun v9=>[(11,.call [0] [] (fun v10=>oV (.int (List.sum [s4,s4]) (v10 3))) (fun v10=>[(11,.call [0] [] (fun v11=>oV (.int (List.sum [s4]) (v11 3))) (fun v11=>[(11,.call [0] [] (fun v12=>oV (.int (List.sum []) (v12 3))) (fun v12=>[(7,.call [11] [] (fun v13=>oV (.int (lmin [(c0+(List.sum [s0,s4,s4])),(c1+(List.sum [s4,s4])),(c2+(List.sum [s4])),(c3+(List.sum []))]) (v13 3))) (fun v13=>[(25,.call [0] [] (fun v14=>oV (.int (List.sum [s0,s4,s4,s4]) (v14 3))) (fun v14=>[(11,.call [0] [] (fun v15=>oV (.int (List.sum [s4,s4,s4]) (v15 3))) (fun v15=>[(11,.call [0] [] (fun v16=>oV (.int (List.sum [s4,s4]) (v16 3))) (fun v16=>[(11,.call [0] [] (fun v17=>oV (.int (List.sum [s4]) (v17 3))) (fun v17=>[(11,.call [0] [] (fun v18=>oV (.int (List.sum []) (v18 3))) (fun v18=>[(7,.call [13] [] (fun v19=>oV (.int (lmin [(c0+(List.sum [s0,s4,s4,s4])),(c1+(List.sum [s4,s4,s4])),(c2+(List.sum [s4,s4])),(c3+(List.sum [s4])),(c4+(List.sum []))]) (v19 3))) (fun v19=>[(25,.call [0] [] (fun v20=>oV (.int (List.sum [s0,s4,s4,s4,s4]) (v20 3))) (fun v20=>[(11,.call [0] [] (fun v21=>oV (.int (List.sum [s4,s4,s4,s4]) (v21 3))) (fun v21=>[(11,.call [0] [] (fun v22=>oV (.int (List.sum [s4,s4,s4]) (v22 3))) (fun v22=>[(11,.call [0] [] (fun v23=>oV (.int (List.sum [s4,s4]) (v23 3))) (fun v23=>[(11,.call [0] [] (fun v24=>oV (.int (List.sum [s4]) (v24 3))) (fun v24=>[(11,.call [0] [] (fun v25=>oV (.int (List.sum []) (v25 3))) (fun v25=>[(7,.call [15] [] (fun v26=>oV (.int (lmin [(c0+(List.sum [s0,s4,s4,s4,s4])),(c1+(List.sum [s4,s4,s4,s4])),(c2+(List.sum [s4,s4,s4])),(c3+(List.sum [s4,s4])),(c4+(List.sum [s4])),(c5+(List.sum []))]) (v26 3))) (fun v26=>[]))]))]))]))]))]))]))]))]))]))]))]))]))]))]))]))]))]))]))]))]))]))]))]))]))]))]))])
    (d:=90) (ms:=[82,88,89]) (e:=0) (gs:=[]) (mv:=[])
    O den_eq 2362 27 (fun v=>⟨by kernel_rfl,by kernel_rfl,by kernel_rfl,by kernel_rfl⟩) (fun v=>AllP.cons (e26 v) (AllP.cons (e25 v) (AllP.cons (e24 v) (AllP.cons (e23 v) (AllP.cons (e22 v) (AllP.cons (e21 v) (AllP.cons (e20 v) (AllP.cons (e19 v) (AllP.cons (e18 v) (AllP.cons (e17 v) (AllP.cons (e16 v) (AllP.cons (e15 v) (AllP.cons (e14 v) (AllP.cons (e13 v) (AllP.cons (e12 v) (AllP.cons (e11 v) (AllP.cons (e10 v) (AllP.cons (e9 v) (AllP.cons (e8 v) (AllP.cons (e7 v) (AllP.cons (e6 v) (AllP.cons (e5 v) (AllP.cons (e4 v) (AllP.cons (e3 v) (AllP.cons (e2 v) (AllP.cons (e1 v) (AllP.cons (e0 v) AllP.nil)))))))))))))))))))))))))))

theorem lo_callB (w:World) (b2:Bool) (h0:Heap) (B:List Frame) (d:Drawn) (os:OsState) (pos0:Pos) (ep t8 t9 t10 lc ls t0:Nat) (c0:Int) (t1:Nat) (c1:Int) (t2:Nat) (c2:Int) (t3:Nat) (c3:Int) (t4:Nat) (c4:Int) (t5:Nat) (c5:Int) (t6:Nat) (s0:Int) (t7:Nat) (s1 s2 s3 s4:Int) (qa0:List Stmt) (qb0:Env) (qq0:Pos) (qa1:Args) (qq1:Pos) (sz tk gn:Nat) (M:List (Addr × Obj)) (G:List (Nat × GenState)) (O:(view w true h0 B [(.func qa0 qb0,qq0),(.builtin "claim.caller" qa1,qq1)] d os).Ok)
    (e0:∀ v:N2,CallN (view w true h0 B [(.func qa0 qb0,qq0),(.builtin "claim.caller" qa1,qq1)] d os) ([4,4,1,1,7]) (cB "sum" [(.ref (sz+13))]) [((sz+13),listO [] 0)] [] (fun v0=>oV (.int (List.sum []) (v0 3)))) (e1:∀ v:N2,CallN (view w true h0 B [(.func qa0 qb0,qq0),(.builtin "claim.caller" qa1,qq1)] d os) ([4,1,1,7]) (cB "min" [(.ref (sz+10))]) [((sz+10),listO [(.int (c0+(List.sum [])) 0)] 1)] [] (fun v1=>oV (.int (lmin [(c0+(List.sum []))]) (v1 3)))) (e2:∀ v:N2,CallN (view w true h0 B [(.func qa0 qb0,qq0),(.builtin "claim.caller" qa1,qq1)] d os) ([4,4,1,1,7]) (cB "sum" [(.ref ((v 1 0)+5))]) [(((v 1 0)+5),listO [(.int s0 0)] 0)] [] (fun v2=>oV (.int (List.sum [s0]) (v2 3)))) (e3:∀ v:N2,CallN (view w true h0 B [(.func qa0 qb0,qq0),(.builtin "claim.caller" qa1,qq1)] d os) ([4,4,1,1,7]) (cB "sum" [(.ref ((v 2 0)+1))]) [(((v 2 0)+1),listO [] 0)] [] (fun v3=>oV (.int (List.sum []) (v3 3)))) (e4:∀ v:N2,CallN (view w true h0 B [(.func qa0 qb0,qq0),(.builtin "claim.caller" qa1,qq1)] d os) ([4,1,1,7]) (cB "min" [(.ref ((v 1 0)+2))]) [(((v 1 0)+2),listO [(.int (c0+(List.sum [s0])) 0),(.int (c1+(List.sum [])) 0)] 2)] [] (fun v4=>oV (.int (lmin [(c0+(List.sum [s0])),(c1+(List.sum []))]) (v4 3)))) (e5:∀ v:N2,CallN (view w true h0 B [(.func qa0 qb0,qq0),(.builtin "claim.caller" qa1,qq1)] d os) ([4,4,1,1,7]) (cB "sum" [(.ref ((v 4 0)+5))]) [(((v 4 0)+5),listO [(.int s0 0),(.int s4 0)] 0)] [] (fun v5=>oV (.int (List.sum [s0,s4]) (v5 3)))) (e6:∀ v:N2,CallN (view w true h0 B [(.func qa0 qb0,qq0),(.builtin "claim.caller" qa1,qq1)] d os) ([4,4,1,1,7]) (cB "sum" [(.ref ((v 5 0)+1))]) [(((v 5 0)+1),listO [(.int s4 0)] 0)] [] (fun v6=>oV (.int (List.sum [s4]) (v6 3)))) (e7:∀ v:N2,CallN (view w true h0 B [(.func qa0 qb0,qq0),(.builtin "claim.caller" qa1,qq1)] d os) ([4,4,1,1,7]) (cB "sum" [(.ref ((v 6 0)+1))]) [(((v 6 0)+1),listO [] 0)] [] (fun v7=>oV (.int (List.sum []) (v7 3)))) (e8:∀ v:N2,CallN (view w true h0 B [(.func qa0 qb0,qq0),(.builtin "claim.caller" qa1,qq1)] d os) ([4,1,1,7]) (cB "min" [(.ref ((v 4 0)+2))]) [(((v 4 0)+2),listO [(.int (c0+(List.sum [s0,s4])) 0),(.int (c1+(List.sum [s4])) 0),(.int (c2+(List.sum [])) 0)] 3)] [] (fun v8=>oV (.int (lmin [(c0+(List.sum [s0,s4])),(c1+(List.sum [s4])),(c2+(List.sum []))]) (v8 3)))) (e9:∀ v:N2,CallN (view w true h0 B [(.func qa0 qb0,qq0),(.builtin "claim.caller" qa1,qq1)] d os) ([4,4,1,1,7]) (cB "sum" [(.ref ((v 8 0)+5))]) [(((v 8 0)+5),listO [(.int s0 0),(.int s4 0),(.int s4 0)] 0)] [] (fun v9=>oV (.int (List.sum [s0,s4,s4]) (v9 3)))) (e10:∀ v:N2,CallN (view w true h0 B [(.func qa0 qb0,qq0),(.builtin "claim.caller" qa1,qq1)] d os) ([4,4,1,1,7]) (cB "sum" [(.ref ((v 9 0)+1))]) [(((v 9 0)+1),listO [(.int s4 0),(.int s4 0)] 0)] [] (fun v10=>oV (.int (List.sum [s4,s4]) (v10 3)))) (e11:∀ v:N2,CallN (view w true h0 B [(.func qa0 qb0,qq0),(.builtin "claim.caller" qa1,qq1)] d os) ([4,4,1,1,7]) (cB "sum" [(.ref ((v 10 0)+1))]) [(((v 10 0)+1),listO [(.int s4 0)] 0)] [] (fun v11=>oV (.int (List.sum [s4]) (v11 3)))) (e12:∀ v:N2,CallN (view w true h0 B [(.func qa0 qb0,qq0),(.builtin "claim.caller" qa1,qq1)] d os) ([4,4,1,1,7]) (cB "sum" [(.ref ((v 11 0)+1))]) [(((v 11 0)+1),listO [] 0)] [] (fun v12=>oV (.int (List.sum []) (v12 3)))) (e13:∀ v:N2,CallN (view w true h0 B [(.func qa0 qb0,qq0),(.builtin "claim.caller" qa1,qq1)] d os) ([4,1,1,7]) (cB "min" [(.ref ((v 8 0)+2))]) [(((v 8 0)+2),listO [(.int (c0+(List.sum [s0,s4,s4])) 0),(.int (c1+(List.sum [s4,s4])) 0),(.int (c2+(List.sum [s4])) 0),(.int (c3+(List.sum [])) 0)] 4)] [] (fun v13=>oV (.int (lmin [(c0+(List.sum [s0,s4,s4])),(c1+(List.sum [s4,s4])),(c2+(List.sum [s4])),(c3+(List.sum []))]) (v13 3)))) (e14:∀ v:N2,CallN (view w true h0 B [(.func qa0 qb0,qq0),(.builtin "claim.caller" qa1,qq1)] d os) ([4,4,1,1,7]) (cB "sum" [(.ref ((v 13 0)+5))]) [(((v 13 0)+5),listO [(.int s0 0),(.int s4 0),(.int s4 0),(.int s4 0)] 0)] [] (fun v14=>oV (.int (List.sum [s0,s4,s4,s4]) (v14 3)))) (e15:∀ v:N2,CallN (view w true h0 B [(.func qa0 qb0,qq0),(.builtin "claim.caller" qa1,qq1)] d os) ([4,4,1,1,7]) (cB "sum" [(.ref ((v 14 0)+1))]) [(((v 14 0)+1),listO [(.int s4 0),(.int s4 0),(.int s4 0)] 0)] [] (fun v15=>oV (.int (List.sum [s4,s4,s4]) (v15 3)))) (e16:∀ v:N2,CallN (view w true h0 B [(.func qa0 qb0,qq0),(.builtin "claim.caller" qa1,qq1)] d os) ([4,4,1,1,7]) (cB "sum" [(.ref ((v 15 0)+1))]) [(((v 15 0)+1),listO [(.int s4 0),(.int s4 0)] 0)] [] (fun v16=>oV (.int (List.sum [s4,s4]) (v16 3)))) (e17:∀ v:N2,CallN (view w true h0 B [(.func qa0 qb0,qq0),(.builtin "claim.caller" qa1,qq1)] d os) ([4,4,1,1,7]) (cB "sum" [(.ref ((v 16 0)+1))]) [(((v 16 0)+1),listO [(.int s4 0)] 0)] [] (fun v17=>oV (.int (List.sum [s4]) (v17 3)))) (e18:∀ v:N2,CallN (view w true h0 B [(.func qa0 qb0,qq0),(.builtin "claim.caller" qa1,qq1)] d os) ([4,4,1,1,7]) (cB "sum" [(.ref ((v 17 0)+1))]) [(((v 17 0)+1),listO [] 0)] [] (fun v18=>oV (.int (List.sum []) (v18 3)))) (e19:∀ v:N2,CallN (view w true h0 B [(.func qa0 qb0,qq0),(.builtin "claim.caller" qa1,qq1)] d os) ([4,1,1,7]) (cB "min" [(.ref ((v 13 0)+2))]) [(((v 13 0)+2),listO [(.int (c0+(List.sum [s0,s4,s4,s4])) 0),(.int (c1+(List.sum [s4,s4,s4])) 0),(.int (c2+(List.sum [s4,s4])) 0),(.int (c3+(List.sum [s4])) 0),(.int (c4+(List.sum [])) 0)] 5)] [] (fun v19=>oV (.int (lmin [(c0+(List.sum [s0,s4,s4,s4])),(c1+(List.sum [s4,s4,s4])),(c2+(List.sum [s4,s4])),(c3+(List.sum [s4])),(c4+(List.sum []))]) (v19 3)))) (e20:∀ v:N2,CallN (view w true h0 B [(.func qa0 qb0,qq0),(.builtin "claim.caller" qa1,qq1)] d os) ([4,4,1,1,7]) (cB "sum" [(.ref ((v 19 0)+5))]) [(((v 19 0)+5),listO [(.int s0 0),(.int s4 0),(.int s4 0),(.int s4 0),(.int s4 0)] 0)] [] (fun v20=>oV (.int (List.sum [s0,s4,s4,s4,s4]) (v20 3)))) (e21:∀ v:N2,CallN (view w true h0 B [(.func qa0 qb0,qq0),(.builtin "claim.caller" qa1,qq1)] d os) ([4,4,1,1,7]) (cB "sum" [(.ref ((v 20 0)+1))]) [(((v 20 0)+1),listO [(.int s4 0),(.int s4 0),(.int s4 0),(.int s4 0)] 0)] [] (fun v21=>oV (.int (List.sum [s4,s4,s4,s4]) (v21 3)))) (e22:∀ v:N2,CallN (view w true h0 B [(.func qa0 qb0,qq0),(.builtin "claim.caller" qa1,qq1)] d os) ([4,4,1,1,7]) (cB "sum" [(.ref ((v 21 0)+1))]) [(((v 21 0)+1),listO [(.int s4 0),(.int s4 0),(.int s4 0)] 0)] [] (fun v22=>oV (.int (List.sum [s4,s4,s4]) (v22 3)))) (e23:∀ v:N2,CallN (view w true h0 B [(.func qa0 qb0,qq0),(.builtin "claim.caller" qa1,qq1)] d os) ([4,4,1,1,7]) (cB "sum" [(.ref ((v 22 0)+1))]) [(((v 22 0)+1),listO [(.int s4 0),(.int s4 0)] 0)] [] (fun v23=>oV (.int (List.sum [s4,s4]) (v23 3)))) (e24:∀ v:N2,CallN (view w true h0 B [(.func qa0 qb0,qq0),(.builtin "claim.caller" qa1,qq1)] d os) ([4,4,1,1,7]) (cB "sum" [(.ref ((v 23 0)+1))]) [(((v 23 0)+1),listO [(.int s4 0)] 0)] [] (fun v24=>oV (.int (List.sum [s4]) (v24 3)))) (e25:∀ v:N2,CallN (view w true h0 B [(.func qa0 qb0,qq0),(.builtin "claim.caller" qa1,qq1)] d os) ([4,4,1,1,7]) (cB "sum" [(.ref ((v 24 0)+1))]) [(((v 24 0)+1),listO [] 0)] [] (fun v25=>oV (.int (List.sum []) (v25 3)))) (e26:∀ v:N2,CallN (view w true h0 B [(.func qa0 qb0,qq0),(.builtin "claim.caller" qa1,qq1)] d os) ([4,1,1,7]) (cB "min" [(.ref ((v 19 0)+2))]) [(((v 19 0)+2),listO [(.int (c0+(List.sum [s0,s4,s4,s4,s4])) 0),(.int (c1+(List.sum [s4,s4,s4,s4])) 0),(.int (c2+(List.sum [s4,s4,s4])) 0),(.int (c3+(List.sum [s4,s4])) 0),(.int (c4+(List.sum [s4])) 0),(.int (c5+(List.sum [])) 0)] 6)] [] (fun v26=>oV (.int (lmin [(c0+(List.sum [s0,s4,s4,s4,s4])),(c1+(List.sum [s4,s4,s4,s4])),(c2+(List.sum [s4,s4,s4])),(c3+(List.sum [s4,s4])),(c4+(List.sum [s4])),(c5+(List.sum []))]) (v26 3)))) :
    Goes (view w true h0 B [(.func qa0 qb0,qq0),(.builtin "claim.caller" qa1,qq1)] d os) (mkD (cR 118 [(.ref lc),(.ref ls)]) pos0 [] ((lc,listO [(.int c0 t0),(.int c1 t1),(.int c2 t2),(.int c3 t3),(.int c4 t4),(.int c5 t5)] ep)::(ls,listO [(.int s0 t6),(.int s4 t7),(.int s4 t8),(.int s4 t9),(.int s4 t10)] 0)::M) sz tk (G) gn)
      (fun y=>∃ v:N2,y = mk (.pure (.done (.ret (.ref (sz+5))))) (.func fLo_ (envF fLos fLoq 118 [(z44,(sz+2)),(z43,(sz+1))] sz)) ⟨75,77,75,93⟩ [] (((sz+5),listO [(.int (lmin [(c0+(List.sum []))]) (v 1 3)),(.int (lmin [(c0+(List.sum [s0])),(c1+(List.sum []))]) (v 4 3)),(.int (lmin [(c0+(List.sum [s0,s4])),(c1+(List.sum [s4])),(c2+(List.sum []))]) (v 8 3)),(.int (lmin [(c0+(List.sum [s0,s4,s4])),(c1+(List.sum [s4,s4])),(c2+(List.sum [s4])),(c3+(List.sum []))]) (v 13 3)),(.int (lmin [(c0+(List.sum [s0,s4,s4,s4])),(c1+(List.sum [s4,s4,s4])),(c2+(List.sum [s4,s4])),(c3+(List.sum [s4])),(c4+(List.sum []))]) (v 19 3)),(.int (lmin [(c0+(List.sum [s0,s4,s4,s4,s4])),(c1+(List.sum [s4,s4,s4,s4])),(c2+(List.sum [s4,s4,s4])),(c3+(List.sum [s4,s4])),(c4+(List.sum [s4])),(c5+(List.sum []))]) (v 26 3))] 6)::(lc,listO [(.int c0 t0),(.int c1 t1),(.int c2 t2),(.int c3 t3),(.int c4 t4),(.int c5 t5)] ep)::(ls,listO [(.int s0 t6),(.int s4 t7),(.int s4 t8),(.int s4 t9),(.int s4 t10)] 0)::M) ((v 26 0)+2) (v 26 1) (G) (v 26 2)) :=
  goes_run (it:=lo_i0++[1,1,0,0,0,0,1,1,1,1,1,1,1,1,1,1,1,1]++lo_i1++lo_i2++lo_i3++lo_i4++lo_i5++lo_i6) (en:=[(35,.call [0] [] (fun v0=>oV (.int (List.sum []) (v0 3))) (fun v0=>[(7,.call [5] [] (fun v1=>oV (.int (lmin [(c0+(List.sum []))]) (v1 3))) (fun v1=>[(23,.call [0] [] (fun v2=>oV (.int (List.sum [s0]) (v2 3))) (fun v2=>[(11,.call [0] [] (fun v3=>oV (.int (List.sum []) (v3 3))) (fun v3=>[(7,.call [7] [] (fun v4=>oV (.int (lmin [(c0+(List.sum [s0])),(c1+(List.sum []))]) (v4 3))) (fun v4=>[(23,.call [0] [] (fun v5=>oV (.int (List.sum [s0,s4]) (v5 3))) (fun v5=>[(11,.call [0] [] (fun v6=>oV (.int (List.sum [s4]) (v6 3))) (fun v6=>[(11,.call [0] [] (fun v7=>oV (.int (List.sum []) (v7 3))) (fun v7=>[(7,.call [9] [] (fun v8=>oV (.int (lmin [(c0+(List.sum [s0,s4])),(c1+(List.sum [s4])),(c2+(List.sum []))]) (v8 3))) (fun v8=>[(23,.call [0] [] (fun v9=>oV (.int (List.sum [s0,s4,s4]) (v9 3))) (fun v9=>[(11,.call [0] [] (fun v10=>oV (.int (List.sum [s4,s4]) (v10 3))) (fun v10=>[(11,.call [0] [] (fun v11=>oV (.int (List.sum [s4]) (v11 3))) (fun v11=>[(11,.call [0] [] (fun v12=>oV (.int (List.sum []) (v12 3))) (fun v12=>[(7,.call [11] [] (fun v13=>oV (.int (lmin [(c0+(List.sum [s0,s4,s4])),(c1+(List.sum [s4,s4])),(c2+(List.sum [s4])),(c3+(List.sum []))]) (v13 3))) (fun v13=>[(23,.call [0] [] (fun v14=>oV (.int (List.sum [s0,s4,s4,s4]) (v14 3))) (fun v14=>[(11,.call [0] [] (fun v15=>oV (.int (List.sum [s4,s4,s4]) (v15 3))) (fun v15=>[(11,.call [0] [] (fun v16=>oV (.int (List.sum [s4,s4]) (v16 3))) (fun v16=>[(11,.call [0] [] (fun v17=>oV (.int (List.sum [s4]) (v17 3))) (fun v17=>[(11,.call [0] [] (fun v18=>oV (.int (List.sum []) (v18 3))) (fun v18=>[(7,.call [13] [] (fun v19=>oV (.int (lmin [(c0+(List.sum [s0,s4,s4,s4])),(c1+(List.sum [s4,s4,s4])),(c2+(List.sum [s4,s4])),(c3+(List.sum [s4])),(c4+(List.sum []))]) (v19 3))) (fun v19=>[(23,.call [0] [] (fun v20=>oV (.int (List.sum [s0,s4,s4,s4,s4]) (v20 3))) (fun v20=>[(11,.call [0] [] (fun v21=>oV (.int (List.sum [s4,s4,s4,s4]) (v21 3))) (fun v21=>[(11,.call [0] [] (fun v22=>oV (.int (List.sum [s4,s4,s4]) (v22 3))) (fun v22=>[(11,.call [0] [] (fun v23=>oV (.int (List.sum [s4,s4]) (v23 3))) (fun v23=>[(11,.call [0] [] (fun v24=>oV (.int (List.sum [s4]) (v24 3))) (fun v24=>[(11,.call [0] [] (fun v25=>oV (.int (List.sum []) (v25 3))) (fun v25=>[(7,.call [15] [] (fun v26=>oV (.int (lmin [(c0+(List.sum [s0,s4,s4,s4,s4])),(c1+(List.sum [s4,s4,s4,s4])),(c2+(List.sum [s4,s4,s4])),(c3+(List.sum [s4,s4])),(c4+(List.sum [s4])),(c5+(List.sum []))]) (v26 3))) (fun v26=>[]))]))]))]))]))]))]))]))]))]))]))]))]))]))]))]))]))]))]))]))]))]))]))]))]))]))]))])
    (d:=90) (ms:=[82,88,89]) (e:=0) (gs:=[]) (mv:=[])
    O den_eq 2292 27 (fun v=>⟨by kernel_rfl,by kernel_rfl,by kernel_rfl,by kernel_rfl⟩) (fun v=>AllP.cons (e26 v) (AllP.cons (e25 v) (AllP.cons (e24 v) (AllP.cons (e23 v) (AllP.cons (e22 v) (AllP.cons (e21 v) (AllP.cons (e20 v) (AllP.cons (e19 v) (AllP.cons (e18 v) (AllP.cons (e17 v) (AllP.cons (e16 v) (AllP.cons (e15 v) (AllP.cons (e14 v) (AllP.cons (e13 v) (AllP.cons (e12 v) (AllP.cons (e11 v) (AllP.cons (e10 v) (AllP.cons (e9 v) (AllP.cons (e8 v) (AllP.cons (e7 v) (AllP.cons (e6 v) (AllP.cons (e5 v) (AllP.cons (e4 v) (AllP.cons (e3 v) (AllP.cons (e2 v) (AllP.cons (e1 v) (AllP.cons (e0 v) AllP.nil)))))))))))))))))))))))))))

end Mine
end
section
open PySem PySem.W PySem.W.X PyProof.Rows
namespace Mine
noncomputable def vv (a b c:Nat) (v:Nat→Nat):Nat→Nat
  | 0=>a
  | 1=>b
  | 2=>c
  | n+3=>v n
def PostR (R:List (Addr × Obj)) (gn:Nat) (g:(Nat→Nat)→Out) (s:Shared) (rr:Result) (s':Shared):Prop :=
  ∃ v:Nat→Nat,rr = (g (vv s'.heap.objs.size s'.toks gn v)).f ∧
    (∀ b o,s.heap.get? b = some o→(∀ p ∈ R,p.1 ≠ b)→s'.heap.get? b = some o) ∧
    (∀ p ∈ (g (vv s'.heap.objs.size s'.toks gn v)).ext,s.heap.objs.size ≤ p.1 ∧ s'.heap.get? p.1 = some p.2) ∧ ((g (vv s'.heap.objs.size s'.toks gn v)).ext.map Prod.fst).Nodup ∧
    (putO R (g (vv s'.heap.objs.size s'.toks gn v)).ro).map Prod.fst = R.map Prod.fst ∧ (∀ p ∈ putO R (g (vv s'.heap.objs.size s'.toks gn v)).ro,s'.heap.get? p.1 = some p.2) ∧
    s'.gens = s.gens ∧ s'.drawn = s.drawn ∧ s'.os = s.os
theorem frames_le (c:Code):c.frames ≤ 3:=by
  unfold Code.frames
  split <;> first | omega | (split <;> omega)
theorem cUnits_le (c:Code):c.cUnits ≤ 10:=by
  have:=frames_le c
  unfold Code.cUnits
  split <;> omega
theorem unitsOf_le:∀ l:List (Code × Pos),unitsOf l ≤ 10 * l.length
  | []=>Nat.zero_le _
  | x::l=>by
    have:=unitsOf_le l
    have:=cUnits_le x.1
    rw [show x = (x.1,x.2) from rfl,unitsOf_cons,List.length_cons]; omega
theorem goes_callRU {V V':Vw} {bw:List (Code × Pos)} {pos:Pos} (u:V.under bw pos V') {f:Value} {args:List Value} {R M:List (Addr × Obj)} {sz tk gn:Nat} {G:List (Nat × GenState)} {g:(Nat→Nat)→Out}
    (h:∀ A:Around,A.handled = none→A.units ≤ 10 * bw.length→∀ s,Rep V' (mk (denote table (.call f ⟨args,[]⟩)) (.call f ⟨args,[]⟩) pos [] (R ++ M) sz tk G gn) s →
      wpAny (model V.prog V.w) A (call f args) (fun v s'=>PostR R gn g s (.ok (.ret v)) s') (fun e s'=>PostR R gn g s (.error e) s') s) :
    Goes V' (mk (denote table (.call f ⟨args,[]⟩)) (.call f ⟨args,[]⟩) pos [] (R ++ M) sz tk G gn)
      (fun y=>∃ (v:Nat→Nat) (c':Code) (p':Pos),y = mk (endT (g v).f) c' p' [] ((g v).ext ++ (putO R (g v).ro ++ M)) (v 0) (v 1) G (v 2)):=by
  obtain ⟨e1,e2,_,_,_,_,eb,_,_,O',k,gd,l,c,B,hB,hn⟩:=u
  have hU:(Ctx.of c B).units ≤ 10 * bw.length:=by
    have e:=O'.bw
    rw [hB,eb] at e
    have:(Ctx.of c B).units = unitsOf bw:=by
      rw [← e]
      exact (unitsOf_cons _ _ _).symm
    rw [this]
    exact unitsOf_le bw
  intro s r
  let Γ:Ctx:=Ctx.of c B
  have hΓ:Γ.Fits B:=Ctx.fits_of c B
  have hA:Γ.In ⟨none,frameCount Γ.below+Γ.code.weight,none,none,Γ.units⟩:=⟨hn false,Nat.le_refl _,(fun _ q=>nomatch q),(fun _ q=>nomatch q),Nat.le_refl _⟩
  have q:=h _ rfl hU s r Γ pos hA
  unfold PySem.call at q
  rw [Sem.wp_runValue] at q
  obtain ⟨rr,s',hr,hpost⟩:=q
  obtain ⟨t',c',p',pre',hc,hx⟩:=(runs_reach hr _ (hΓ.enter (.call f ⟨args,[]⟩) k none gd l pos [])).comes
  have key:∀ (hrun:∃ n,runNI (denote table) V'.prog V'.w n s ⟨denote table (.call f ⟨args,[]⟩),.call f ⟨args,[]⟩,pos,V'.B⟩ = .running s' ⟨endT rr,c',p',V'.B⟩) (hp:PostR R gn g s rr s'),
      ∃ y s'',Reach V' s (St.thr V' (mk (denote table (.call f ⟨args,[]⟩)) (.call f ⟨args,[]⟩) pos [] (R ++ M) sz tk G gn)) s'' (y.thr V') ∧ Rep V' y s'' ∧
        ∃ (v:Nat→Nat) (c':Code) (p':Pos),y = mk (endT (g v).f) c' p' [] ((g v).ext ++ (putO R (g v).ro ++ M)) (v 0) (v 1) G (v 2):=by
    rintro ⟨n,hrun⟩ ⟨v,hv,hk,hext,hnd,hRf,hR,hg,hd,ho⟩
    have hsz:=runNI_size n hrun
    let w:=vv s'.heap.objs.size s'.toks gn v
    subst hv
    refine ⟨mk (endT (g w).f) c' p' [] ((g w).ext ++ (putO R (g w).ro ++ M)) s'.heap.objs.size s'.toks G gn,s',⟨n,fun m=>runNI_add n m hrun⟩,?_,w,c',p',rfl⟩
    have r1:(R.map Prod.fst ++ M.map Prod.fst).Nodup:=by have:=r.nd; rw [List.map_append] at this; exact this
    have hlt:∀ p ∈ R ++ M,p.1 < s.heap.objs.size:=fun p hp=>Heap.lt_size (r.mem p hp).2
    have hM:∀ p ∈ M,∀ q ∈ R,q.1 ≠ p.1:=fun p hp q hq e=>(List.nodup_append.mp r1).2.2 _ (List.mem_map_of_mem hq) _ (List.mem_map_of_mem hp) e
    have hlow:V'.h0.objs.size ≤ s.heap.objs.size:=Nat.le_trans r.low (Nat.le_of_eq r.size.symm)
    have hRl:∀ p ∈ putO R (g w).ro,V'.h0.objs.size ≤ p.1:=fun p hp=>by
      have:p.1 ∈ R.map Prod.fst:=hRf ▸ List.mem_map_of_mem hp
      obtain ⟨q,hq,e⟩:=List.mem_map.mp this
      rw [← e]
      exact (r.mem q (List.mem_append_left _ hq)).1
    refine ⟨fun b o e=>hk b o (r.keep b o e) fun p hp e'=>?_,Nat.le_trans hlow hsz,rfl,fun p hp=>?_,?_,by rw [hg]; exact r.gsz,fun p hp=>by rw [hg]; exact r.gmem p hp,r.gnd,by rw [hg]; exact r.bare,rfl,hd.trans r.d,ho.trans r.os⟩
    · have:=(r.mem p (List.mem_append_left _ hp)).1
      have h2:=Heap.lt_size e
      rw [e'] at this
      exact absurd h2 (Nat.not_lt.mpr this)
    · rcases List.mem_append.mp hp with hp | hp
      · exact ⟨Nat.le_trans hlow (hext p hp).1,(hext p hp).2⟩
      · rcases List.mem_append.mp hp with hp | hp
        · exact ⟨hRl p hp,hR p hp⟩
        · exact ⟨(r.mem p (List.mem_append_right _ hp)).1,hk _ _ (r.mem p (List.mem_append_right _ hp)).2 fun q hq=>hM p hp q hq⟩
    · show (((g w).ext ++ (putO R (g w).ro ++ M)).map Prod.fst).Nodup
      rw [List.map_append,List.map_append,hRf,List.nodup_append]
      refine ⟨hnd,r1,fun a ha b hb e=>?_⟩
      obtain ⟨p,hp,rfl⟩:=List.mem_map.mp ha
      have h1:=(hext p hp).1
      rw [← List.map_append] at hb
      obtain ⟨q,hq,rfl⟩:=List.mem_map.mp hb
      have h2:=hlt q hq
      rw [e] at h1
      exact absurd h2 (Nat.not_lt.mpr h1)
  cases rr with
  | error e =>
    obtain ⟨rfl,rfl⟩:=hx
    refine key ?_ hpost
    obtain ⟨n,hrun⟩:=hc
    exact ⟨n,by rw [hB,e1,e2]; exact hrun⟩
  | ok fl =>
    cases fl with
    | ret v =>
      obtain ⟨rfl,rfl⟩:=hx
      refine key ?_ hpost
      obtain ⟨n,hrun⟩:=hc
      exact ⟨n,by rw [hB,e1,e2]; exact hrun⟩
    | _=>exact hpost.elim
theorem goes_callR {V V':Vw} {bw:List (Code × Pos)} {pos:Pos} (u:V.under bw pos V') {f:Value} {args:List Value} {R M:List (Addr × Obj)} {sz tk gn:Nat} {G:List (Nat × GenState)} {g:(Nat→Nat)→Out}
    (h:∀ A:Around,A.handled = none→∀ s,Rep V' (mk (denote table (.call f ⟨args,[]⟩)) (.call f ⟨args,[]⟩) pos [] (R ++ M) sz tk G gn) s →
      wpAny (model V.prog V.w) A (call f args) (fun v s'=>PostR R gn g s (.ok (.ret v)) s') (fun e s'=>PostR R gn g s (.error e) s') s) :
    Goes V' (mk (denote table (.call f ⟨args,[]⟩)) (.call f ⟨args,[]⟩) pos [] (R ++ M) sz tk G gn)
      (fun y=>∃ (v:Nat→Nat) (c':Code) (p':Pos),y = mk (endT (g v).f) c' p' [] ((g v).ext ++ (putO R (g v).ro ++ M)) (v 0) (v 1) G (v 2)):=goes_callRU u fun A hA _=>h A hA
end Mine
end
section
open PySem PySem.W PySem.W.X PyProof.Rows
namespace Mine
noncomputable def sq_in_fs (v:N2) (w:World) (b2:Bool) (h0:Heap) (B:List Frame) (d:Drawn) (os:OsState) (pos0:Pos) (sc:String) (L gO gL rl g t0 t1:Nat) (s:Str) (t2 t3:Nat) (st:Int) (t4 t5 t6 t7 t8:Nat) (qa0:List Stmt) (qb0:Env) (qq0:Pos) (qa1:List Stmt) (qb1:Env) (qq1:Pos) (qa2:Expr) (qb2:Value) (qc2 qd2:List Stmt) (qe2:Env) (qq2:Pos) (qa3:List Stmt) (qb3:Env) (qq3:Pos) (qa4:Args) (qq4:Pos) (sz tk gn:Nat) (M:List (Addr × Obj)) (G:List (Nat × GenState)):List Frame:=match runS (view w b2 h0 B [(.func qa0 qb0,qq0),(.func qa1 qb1,qq1),(.forLoop qa2 qb2 qc2 qd2 qe2,qq2),(.func qa3 qb3,qq3),(.builtin "claim.caller" qa4,qq4)] d os) den 47 ((List.range 1).map v) (lay (mkD (.forLoop fSq_t45 (.ref gO) fSq_b45 [] (envF fSqs fSqq 42 [] L)) pos0 [] ((L,nsO [ent w.params z14 t0 (.str s t1),ent w.params z22 t2 (.int st t3),ent w.params z23 t4 .none,ent w.params z24 t5 (.ref rl)] 4)::(gO,(fO "generator" [(.int (Int.ofNat g) 0),(.str z20 t6),(.str z20 t7)]))::(gL,nsO [ent w.params z14 t8 (.str s t1)] 1)::(rl,listO [] 0)::M) sz tk ((g,(.fresh (.func fIe_ (envF fIes fIeq 35 [] gL))))::G) gn) [2,2,2,0,0,0,3,3,3,3,0,0,3,1,1,1,1] [(2,.call [] [] (fun v0=>⟨none,[((v0 3),(fO "enumerate" [.none,(.bool false),(.ref (v0 4)),(.int 0 0),.none,.none])),((v0 4),(fO sc [(.str s t1),(.int 0 0)]))],.ok (.ret (.ref (v0 3)))⟩) (fun v0=>[]))]) with | some y=>y.fs | none=>[]
theorem sq_in (w:World) (b2:Bool) (h0:Heap) (B:List Frame) (d:Drawn) (os:OsState) (pos0:Pos) (sc:String) (L gO gL rl g t0 t1:Nat) (s:Str) (t2 t3:Nat) (st:Int) (t4 t5 t6 t7 t8:Nat) (qa0:List Stmt) (qb0:Env) (qq0:Pos) (qa1:List Stmt) (qb1:Env) (qq1:Pos) (qa2:Expr) (qb2:Value) (qc2 qd2:List Stmt) (qe2:Env) (qq2:Pos) (qa3:List Stmt) (qb3:Env) (qq3:Pos) (qa4:Args) (qq4:Pos) (sz tk gn:Nat) (M:List (Addr × Obj)) (G:List (Nat × GenState)) (O:(view w b2 h0 B [(.func qa0 qb0,qq0),(.func qa1 qb1,qq1),(.forLoop qa2 qb2 qc2 qd2 qe2,qq2),(.func qa3 qb3,qq3),(.builtin "claim.caller" qa4,qq4)] d os).Ok)
    (e0:∀ v:N2,CallN (view w b2 h0 B [(.func qa0 qb0,qq0),(.func qa1 qb1,qq1),(.forLoop qa2 qb2 qc2 qd2 qe2,qq2),(.func qa3 qb3,qq3),(.builtin "claim.caller" qa4,qq4)] d os) ([1,8,2,1,1,2,1,7]) (.call (.type "enumerate") ⟨[(.str s t1)],[]⟩) [] [] (fun v0=>⟨none,[((v0 3),(fO "enumerate" [.none,(.bool false),(.ref (v0 4)),(.int 0 0),.none,.none])),((v0 4),(fO sc [(.str s t1),(.int 0 0)]))],.ok (.ret (.ref (v0 3)))⟩)) :
    Goes (view w b2 h0 B [(.func qa0 qb0,qq0),(.func qa1 qb1,qq1),(.forLoop qa2 qb2 qc2 qd2 qe2,qq2),(.func qa3 qb3,qq3),(.builtin "claim.caller" qa4,qq4)] d os) (mkD (.forLoop fSq_t45 (.ref gO) fSq_b45 [] (envF fSqs fSqq 42 [] L)) pos0 [] ((L,nsO [ent w.params z14 t0 (.str s t1),ent w.params z22 t2 (.int st t3),ent w.params z23 t4 .none,ent w.params z24 t5 (.ref rl)] 4)::(gO,(fO "generator" [(.int (Int.ofNat g) 0),(.str z20 t6),(.str z20 t7)]))::(gL,nsO [ent w.params z14 t8 (.str s t1)] 1)::(rl,listO [] 0)::M) sz tk ((g,(.fresh (.func fIe_ (envF fIes fIeq 35 [] gL))))::G) gn)
      (fun y=>∃ v:N2,y = mkD (.forLoop fIe_t29 (.ref (v 0 3)) fIe_b29 [] (envF fIes fIeq 35 [] gL)) ⟨29,19,29,34⟩ (sq_in_fs v w b2 h0 B d os pos0 sc L gO gL rl g t0 t1 s t2 t3 st t4 t5 t6 t7 t8 qa0 qb0 qq0 qa1 qb1 qq1 qa2 qb2 qc2 qd2 qe2 qq2 qa3 qb3 qq3 qa4 qq4 sz tk gn M G) (((v 0 3),(fO "enumerate" [.none,(.bool false),(.ref (v 0 4)),(.int 0 0),.none,.none]))::((v 0 4),(fO sc [(.str s t1),(.int 0 0)]))::(L,nsO [ent w.params z14 t0 (.str s t1),ent w.params z22 t2 (.int st t3),ent w.params z23 t4 .none,ent w.params z24 t5 (.ref rl)] 4)::(gO,(fO "generator" [(.int (Int.ofNat g) 0),(.str z20 t6),(.str z20 t7)]))::(gL,nsO [ent w.params z14 t8 (.str s t1),ent w.params z15 (tk+1) (.int 0 tk),ent w.params z16 (tk+2) (.bool false)] 3)::(rl,listO [] 0)::M) (v 0 0) (v 0 1) ((g,.running)::G) (v 0 2)) :=
  goes_run (it:=[2,2,2,0,0,0,3,3,3,3,0,0,3,1,1,1,1]) (en:=[(2,.call [] [] (fun v0=>⟨none,[((v0 3),(fO "enumerate" [.none,(.bool false),(.ref (v0 4)),(.int 0 0),.none,.none])),((v0 4),(fO sc [(.str s t1),(.int 0 0)]))],.ok (.ret (.ref (v0 3)))⟩) (fun v0=>[]))])
    (d:=6) (ms:=[0,1,2,3,4,5]) (e:=1) (gs:=[0]) (mv:=[])
    O den_eq 47 1 (fun v=>⟨by kernel_rfl,by kernel_rfl,by kernel_rfl,by kernel_rfl⟩) (fun v=>AllP.cons (e0 v) AllP.nil)

theorem sq_a0 (w:World) (b2:Bool) (h0:Heap) (B:List Frame) (d:Drawn) (os:OsState) (pos0:Pos) (vz:N2) (pos0z:Pos) (t0z t1z t2z t3z:Nat) (stz:Int) (t4z t5z t6z t7z t8z szz tkz gnz:Nat) (Mz:List (Addr × Obj)) (Gz:List (Nat × GenState)) (sc:String) (k L gO gL rl g:Nat) (rv:List Value) (rn:Nat) (gpv lvv opv:Value) (t0:Nat) (s:Str) (t1 t2 t3:Nat) (st:Int) (t4 t5 t6 t7 t8 t9 t10 t11:Nat) (c:Str) (qa0:List Stmt) (qb0:Env) (qq0:Pos) (qa1:List Stmt) (qb1:Env) (qq1:Pos) (qa2:Expr) (qb2:Value) (qc2 qd2:List Stmt) (qe2:Env) (qq2:Pos) (qa3:List Stmt) (qb3:Env) (qq3:Pos) (qa4:Args) (qq4:Pos) (sz tk gn:Nat) (M:List (Addr × Obj)) (G:List (Nat × GenState)) (O:(view w b2 h0 B [(.func qa0 qb0,qq0),(.func qa1 qb1,qq1),(.forLoop qa2 qb2 qc2 qd2 qe2,qq2),(.func qa3 qb3,qq3),(.builtin "claim.caller" qa4,qq4)] d os).Ok)
    (e0:∀ v:N2,CallN (view w b2 h0 B [(.func qa0 qb0,qq0),(.func qa1 qb1,qq1),(.forLoop qa2 qb2 qc2 qd2 qe2,qq2),(.func qa3 qb3,qq3),(.builtin "claim.caller" qa4,qq4)] d os) ([2,1,8,2,1,1,2,1,7]) (cB "enumerate.__next__" [(.ref (vz 0 3))]) [((vz 0 3),(fO "enumerate" [.none,(.bool false),(.ref (vz 0 4)),(.int (Int.ofNat k) 0),.none,lvv])),((vz 0 4),(fO sc [(.str s t0),(.int (Int.ofNat k) 0)]))] [] (fun v0=>⟨some [(fO "enumerate" [(.int (Int.ofNat (v0 3)) 0),(.bool false),(.ref (vz 0 4)),(.int ((Int.ofNat k)+1) 0),.none,(.str c (v0 4))]),(fO sc [(.str s t0),(.int ((Int.ofNat k)+1) 0)])],[((v0 3),(tO [(.int (Int.ofNat k) (v0 5)),(.str c (v0 4))]))],.ok (.ret (.ref (v0 3)))⟩)) (e1:∀ v:N2,EvP "str.__eq__" [(.str c 0),(.str z17 0)] (retB true)) :
    Goes (view w b2 h0 B [(.func qa0 qb0,qq0),(.func qa1 qb1,qq1),(.forLoop qa2 qb2 qc2 qd2 qe2,qq2),(.func qa3 qb3,qq3),(.builtin "claim.caller" qa4,qq4)] d os) (mkD (.forLoop fIe_t29 (.ref (vz 0 3)) fIe_b29 [] (envF fIes fIeq 35 [] gL)) pos0 (sq_in_fs vz w b2 h0 B d os pos0z sc L gO gL rl g t0z t1z s t2z t3z stz t4z t5z t6z t7z t8z qa0 qb0 qq0 qa1 qb1 qq1 qa2 qb2 qc2 qd2 qe2 qq2 qa3 qb3 qq3 qa4 qq4 szz tkz gnz Mz Gz) (((vz 0 3),(fO "enumerate" [.none,(.bool false),(.ref (vz 0 4)),(.int (Int.ofNat k) 0),.none,lvv]))::((vz 0 4),(fO sc [(.str s t0),(.int (Int.ofNat k) 0)]))::(L,nsO [ent w.params z14 t1 (.str s t0),ent w.params z22 t2 (.int st t3),ent w.params z23 t4 opv,ent w.params z24 t5 (.ref rl)] 4)::(gO,(fO "generator" [(.int (Int.ofNat g) 0),(.str z20 t6),(.str z20 t7)]))::(gL,nsO [ent w.params z14 t8 (.str s t0),ent w.params z15 t9 gpv,ent w.params z16 t11 (.bool false)] 3)::(rl,listO rv rn)::M) sz tk ((g,.running)::G) gn)
      (fun y=>∃ v:N2,y = mkD (.forLoop fIe_t29 (.ref (vz 0 3)) fIe_b29 [] (envF fIes fIeq 35 [] gL)) ⟨34,12,34,18⟩ (sq_in_fs vz w b2 h0 B d os pos0z sc L gO gL rl g t0z t1z s t2z t3z stz t4z t5z t6z t7z t8z qa0 qb0 qq0 qa1 qb1 qq1 qa2 qb2 qc2 qd2 qe2 qq2 qa3 qb3 qq3 qa4 qq4 szz tkz gnz Mz Gz) (((vz 0 3),(fO "enumerate" [.none,(.bool false),(.ref (vz 0 4)),(.int ((Int.ofNat k)+1) 0),.none,(.str c (v 0 4))]))::((vz 0 4),(fO sc [(.str s t0),(.int ((Int.ofNat k)+1) 0)]))::(L,nsO [ent w.params z14 t1 (.str s t0),ent w.params z22 t2 (.int st t3),ent w.params z23 t4 opv,ent w.params z24 t5 (.ref rl)] 4)::(gO,(fO "generator" [(.int (Int.ofNat g) 0),(.str z20 t6),(.str z20 t7)]))::(gL,nsO [ent w.params z14 t8 (.str s t0),ent w.params z15 t9 (.int (Int.ofNat k) (v 0 5)),ent w.params z16 t11 (.bool true),ent w.params z18 ((v 0 1)+1) (.str c (v 0 4))] 4)::(rl,listO rv rn)::M) ((v 0 0)+3) ((v 0 1)+4) ((g,.running)::G) (v 0 2)) :=
  goes_run (it:=[1,2,2,2,1,1,1,1,1,1,1,1,1,2,1,1,1,1,1,1,2,1,1,1,1,1,1,2,1,1,1,9,9,9,9,9,9,9,9]) (en:=[(0,.call [0,1] [] (fun v0=>⟨some [(fO "enumerate" [(.int (Int.ofNat (v0 3)) 0),(.bool false),(.ref (vz 0 4)),(.int ((Int.ofNat k)+1) 0),.none,(.str c (v0 4))]),(fO sc [(.str s t0),(.int ((Int.ofNat k)+1) 0)])],[((v0 3),(tO [(.int (Int.ofNat k) (v0 5)),(.str c (v0 4))]))],.ok (.ret (.ref (v0 3)))⟩) (fun v0=>[(0,.own (tupE fIe_t29) (tupK fIe_t29) (tupP fIe_t29) (vz 0 3) (v0 3) fIe_b29 [] (envF fIes fIeq 35 [] gL)),(9,.ev (retB true))]))])
    (d:=10) (ms:=[4,5,6,7,8,9]) (e:=1) (gs:=[0]) (mv:=[])
    O den_eq 89 2 (fun v=>⟨by kernel_rfl,by kernel_rfl,by kernel_rfl,by kernel_rfl⟩) (fun v=>AllP.cons (e1 v) (AllP.cons (e0 v) AllP.nil))

theorem sq_c0 (w:World) (b2:Bool) (h0:Heap) (B:List Frame) (d:Drawn) (os:OsState) (pos0:Pos) (vz:N2) (pos0z:Pos) (t0z t1z t2z t3z:Nat) (stz:Int) (t4z t5z t6z t7z t8z szz tkz gnz:Nat) (Mz:List (Addr × Obj)) (Gz:List (Nat × GenState)) (sc:String) (k L gO gL rl g:Nat) (rv:List Value) (rn:Nat) (gpv lvv opv:Value) (t0:Nat) (s:Str) (t1 t2 t3:Nat) (st:Int) (t4 t5 t6 t7 t8 t9 t10 t11:Nat) (c:Str) (qa0:List Stmt) (qb0:Env) (qq0:Pos) (qa1:List Stmt) (qb1:Env) (qq1:Pos) (qa2:Expr) (qb2:Value) (qc2 qd2:List Stmt) (qe2:Env) (qq2:Pos) (qa3:List Stmt) (qb3:Env) (qq3:Pos) (qa4:Args) (qq4:Pos) (sz tk gn:Nat) (M:List (Addr × Obj)) (G:List (Nat × GenState)) (O:(view w b2 h0 B [(.func qa0 qb0,qq0),(.func qa1 qb1,qq1),(.forLoop qa2 qb2 qc2 qd2 qe2,qq2),(.func qa3 qb3,qq3),(.builtin "claim.caller" qa4,qq4)] d os).Ok)
    (e0:∀ v:N2,CallN (view w b2 h0 B [(.func qa0 qb0,qq0),(.func qa1 qb1,qq1),(.forLoop qa2 qb2 qc2 qd2 qe2,qq2),(.func qa3 qb3,qq3),(.builtin "claim.caller" qa4,qq4)] d os) ([2,1,8,2,1,1,2,1,7]) (cB "enumerate.__next__" [(.ref (vz 0 3))]) [((vz 0 3),(fO "enumerate" [.none,(.bool false),(.ref (vz 0 4)),(.int (Int.ofNat k) 0),.none,lvv])),((vz 0 4),(fO sc [(.str s t0),(.int (Int.ofNat k) 0)]))] [] (fun v0=>⟨some [(fO "enumerate" [(.int (Int.ofNat (v0 3)) 0),(.bool false),(.ref (vz 0 4)),(.int ((Int.ofNat k)+1) 0),.none,(.str c (v0 4))]),(fO sc [(.str s t0),(.int ((Int.ofNat k)+1) 0)])],[((v0 3),(tO [(.int (Int.ofNat k) (v0 5)),(.str c (v0 4))]))],.ok (.ret (.ref (v0 3)))⟩)) (e1:∀ v:N2,EvP "str.__eq__" [(.str c 0),(.str z17 0)] (retB false)) (e2:∀ v:N2,EvP "str.__eq__" [(.str c 0),(.str z21 0)] (retB false)) :
    Goes (view w b2 h0 B [(.func qa0 qb0,qq0),(.func qa1 qb1,qq1),(.forLoop qa2 qb2 qc2 qd2 qe2,qq2),(.func qa3 qb3,qq3),(.builtin "claim.caller" qa4,qq4)] d os) (mkD (.forLoop fIe_t29 (.ref (vz 0 3)) fIe_b29 [] (envF fIes fIeq 35 [] gL)) pos0 (sq_in_fs vz w b2 h0 B d os pos0z sc L gO gL rl g t0z t1z s t2z t3z stz t4z t5z t6z t7z t8z qa0 qb0 qq0 qa1 qb1 qq1 qa2 qb2 qc2 qd2 qe2 qq2 qa3 qb3 qq3 qa4 qq4 szz tkz gnz Mz Gz) (((vz 0 3),(fO "enumerate" [.none,(.bool false),(.ref (vz 0 4)),(.int (Int.ofNat k) 0),.none,lvv]))::((vz 0 4),(fO sc [(.str s t0),(.int (Int.ofNat k) 0)]))::(L,nsO [ent w.params z14 t1 (.str s t0),ent w.params z22 t2 (.int st t3),ent w.params z23 t4 opv,ent w.params z24 t5 (.ref rl)] 4)::(gO,(fO "generator" [(.int (Int.ofNat g) 0),(.str z20 t6),(.str z20 t7)]))::(gL,nsO [ent w.params z14 t8 (.str s t0),ent w.params z15 t9 gpv,ent w.params z16 t11 (.bool false)] 3)::(rl,listO rv rn)::M) sz tk ((g,.running)::G) gn)
      (fun y=>∃ v:N2,y = mkD (.forLoop fIe_t29 (.ref (vz 0 3)) fIe_b29 [] (envF fIes fIeq 35 [] gL)) ⟨36,12,36,27⟩ (sq_in_fs vz w b2 h0 B d os pos0z sc L gO gL rl g t0z t1z s t2z t3z stz t4z t5z t6z t7z t8z qa0 qb0 qq0 qa1 qb1 qq1 qa2 qb2 qc2 qd2 qe2 qq2 qa3 qb3 qq3 qa4 qq4 szz tkz gnz Mz Gz) (((vz 0 3),(fO "enumerate" [.none,(.bool false),(.ref (vz 0 4)),(.int ((Int.ofNat k)+1) 0),.none,(.str c (v 0 4))]))::((vz 0 4),(fO sc [(.str s t0),(.int ((Int.ofNat k)+1) 0)]))::(L,nsO [ent w.params z14 t1 (.str s t0),ent w.params z22 t2 (.int st t3),ent w.params z23 t4 opv,ent w.params z24 t5 (.ref rl),ent w.params z15 ((v 0 1)+3) (.int (Int.ofNat k) (v 0 5)),ent w.params z18 ((v 0 1)+4) (.str c (v 0 4))] 6)::(gO,(fO "generator" [(.int (Int.ofNat g) 0),(.str z20 t6),(.str z20 t7)]))::(gL,nsO [ent w.params z14 t8 (.str s t0),ent w.params z15 t9 (.int (Int.ofNat k) (v 0 5)),ent w.params z16 t11 (.bool false),ent w.params z18 ((v 0 1)+1) (.str c (v 0 4))] 4)::(rl,listO rv rn)::M) ((v 0 0)+7) ((v 0 1)+6) ((g,.running)::G) (v 0 2)) :=
  goes_run (it:=[1,2,2,2,1,1,1,1,1,1,1,1,1,2,1,1,1,1,1,1,2,1,1,1,1,1,1,2,1,1,1,9,9,9,9,9,9,9,9,0,9,1,1,1,1,1,1,1,1,1,2,1,1,1,1,1,1,2,1,1,1,1,1,1,2,1,1,1,11,11,11,11,11,12,12,12,0,0,0]) (en:=[(0,.call [0,1] [] (fun v0=>⟨some [(fO "enumerate" [(.int (Int.ofNat (v0 3)) 0),(.bool false),(.ref (vz 0 4)),(.int ((Int.ofNat k)+1) 0),.none,(.str c (v0 4))]),(fO sc [(.str s t0),(.int ((Int.ofNat k)+1) 0)])],[((v0 3),(tO [(.int (Int.ofNat k) (v0 5)),(.str c (v0 4))]))],.ok (.ret (.ref (v0 3)))⟩) (fun v0=>[(0,.own (tupE fIe_t29) (tupK fIe_t29) (tupP fIe_t29) (vz 0 3) (v0 3) fIe_b29 [] (envF fIes fIeq 35 [] gL)),(9,.ev (retB false)),(9,.ev (retB false))]))])
    (d:=14) (ms:=[8,9,10,11,12,13]) (e:=1) (gs:=[0]) (mv:=[])
    O den_eq 172 2 (fun v=>⟨by kernel_rfl,by kernel_rfl,by kernel_rfl,by kernel_rfl⟩) (fun v=>AllP.cons (e2 v) (AllP.cons (e1 v) (AllP.cons (e0 v) AllP.nil)))

theorem sq_q0 (w:World) (b2:Bool) (h0:Heap) (B:List Frame) (d:Drawn) (os:OsState) (pos0:Pos) (vz:N2) (pos0z:Pos) (t0z t1z t2z t3z:Nat) (stz:Int) (t4z t5z t6z t7z t8z szz tkz gnz:Nat) (Mz:List (Addr × Obj)) (Gz:List (Nat × GenState)) (sc:String) (k L gO gL rl g:Nat) (rv:List Value) (rn:Nat) (gpv lvv:Value) (t0:Nat) (s:Str) (t1 t2 t3:Nat) (st:Int) (t4 t5 t6 t7 t8 t9 t10 t11:Nat) (c:Str) (qa0:List Stmt) (qb0:Env) (qq0:Pos) (qa1:List Stmt) (qb1:Env) (qq1:Pos) (qa2:Expr) (qb2:Value) (qc2 qd2:List Stmt) (qe2:Env) (qq2:Pos) (qa3:List Stmt) (qb3:Env) (qq3:Pos) (qa4:Args) (qq4:Pos) (sz tk gn:Nat) (M:List (Addr × Obj)) (G:List (Nat × GenState)) (O:(view w b2 h0 B [(.func qa0 qb0,qq0),(.func qa1 qb1,qq1),(.forLoop qa2 qb2 qc2 qd2 qe2,qq2),(.func qa3 qb3,qq3),(.builtin "claim.caller" qa4,qq4)] d os).Ok)
    (e0:∀ v:N2,CallN (view w b2 h0 B [(.func qa0 qb0,qq0),(.func qa1 qb1,qq1),(.forLoop qa2 qb2 qc2 qd2 qe2,qq2),(.func qa3 qb3,qq3),(.builtin "claim.caller" qa4,qq4)] d os) ([2,1,8,2,1,1,2,1,7]) (cB "enumerate.__next__" [(.ref (vz 0 3))]) [((vz 0 3),(fO "enumerate" [.none,(.bool false),(.ref (vz 0 4)),(.int (Int.ofNat k) 0),.none,lvv])),((vz 0 4),(fO sc [(.str s t0),(.int (Int.ofNat k) 0)]))] [] (fun v0=>⟨some [(fO "enumerate" [(.int (Int.ofNat (v0 3)) 0),(.bool false),(.ref (vz 0 4)),(.int ((Int.ofNat k)+1) 0),.none,(.str c (v0 4))]),(fO sc [(.str s t0),(.int ((Int.ofNat k)+1) 0)])],[((v0 3),(tO [(.int (Int.ofNat k) (v0 5)),(.str c (v0 4))]))],.ok (.ret (.ref (v0 3)))⟩)) (e1:∀ v:N2,EvP "str.__eq__" [(.str c 0),(.str z17 0)] (retB false)) (e2:∀ v:N2,EvP "str.__eq__" [(.str c 0),(.str z21 0)] (retB true)) :
    Goes (view w b2 h0 B [(.func qa0 qb0,qq0),(.func qa1 qb1,qq1),(.forLoop qa2 qb2 qc2 qd2 qe2,qq2),(.func qa3 qb3,qq3),(.builtin "claim.caller" qa4,qq4)] d os) (mkD (.forLoop fIe_t29 (.ref (vz 0 3)) fIe_b29 [] (envF fIes fIeq 35 [] gL)) pos0 (sq_in_fs vz w b2 h0 B d os pos0z sc L gO gL rl g t0z t1z s t2z t3z stz t4z t5z t6z t7z t8z qa0 qb0 qq0 qa1 qb1 qq1 qa2 qb2 qc2 qd2 qe2 qq2 qa3 qb3 qq3 qa4 qq4 szz tkz gnz Mz Gz) (((vz 0 3),(fO "enumerate" [.none,(.bool false),(.ref (vz 0 4)),(.int (Int.ofNat k) 0),.none,lvv]))::((vz 0 4),(fO sc [(.str s t0),(.int (Int.ofNat k) 0)]))::(L,nsO [ent w.params z14 t1 (.str s t0),ent w.params z22 t2 (.int st t3),ent w.params z23 t4 .none,ent w.params z24 t5 (.ref rl)] 4)::(gO,(fO "generator" [(.int (Int.ofNat g) 0),(.str z20 t6),(.str z20 t7)]))::(gL,nsO [ent w.params z14 t8 (.str s t0),ent w.params z15 t9 gpv,ent w.params z16 t11 (.bool false)] 3)::(rl,listO rv rn)::M) sz tk ((g,.running)::G) gn)
      (fun y=>∃ v:N2,y = mkD (.forLoop fIe_t29 (.ref (vz 0 3)) fIe_b29 [] (envF fIes fIeq 35 [] gL)) ⟨36,12,36,27⟩ (sq_in_fs vz w b2 h0 B d os pos0z sc L gO gL rl g t0z t1z s t2z t3z stz t4z t5z t6z t7z t8z qa0 qb0 qq0 qa1 qb1 qq1 qa2 qb2 qc2 qd2 qe2 qq2 qa3 qb3 qq3 qa4 qq4 szz tkz gnz Mz Gz) (((vz 0 3),(fO "enumerate" [.none,(.bool false),(.ref (vz 0 4)),(.int ((Int.ofNat k)+1) 0),.none,(.str c (v 0 4))]))::((vz 0 4),(fO sc [(.str s t0),(.int ((Int.ofNat k)+1) 0)]))::(L,nsO [ent w.params z14 t1 (.str s t0),ent w.params z22 t2 (.int st t3),ent w.params z23 t4 (.int (Int.ofNat k) (v 0 5)),ent w.params z24 t5 (.ref rl),ent w.params z15 ((v 0 1)+3) (.int (Int.ofNat k) (v 0 5)),ent w.params z18 ((v 0 1)+4) (.str c (v 0 4))] 6)::(gO,(fO "generator" [(.int (Int.ofNat g) 0),(.str z20 t6),(.str z20 t7)]))::(gL,nsO [ent w.params z14 t8 (.str s t0),ent w.params z15 t9 (.int (Int.ofNat k) (v 0 5)),ent w.params z16 t11 (.bool false),ent w.params z18 ((v 0 1)+1) (.str c (v 0 4))] 4)::(rl,listO rv rn)::M) ((v 0 0)+7) ((v 0 1)+7) ((g,.running)::G) (v 0 2)) :=
  goes_run (it:=[1,2,2,2,1,1,1,1,1,1,1,1,1,2,1,1,1,1,1,1,2,1,1,1,1,1,1,2,1,1,1,9,9,9,9,9,9,9,9,0,9,1,1,1,1,1,1,1,1,1,2,1,1,1,1,1,1,2,1,1,1,1,1,1,2,1,1,1,11,11,11,11,11,11,11,11,11,12,12,12,0,0,0]) (en:=[(0,.call [0,1] [] (fun v0=>⟨some [(fO "enumerate" [(.int (Int.ofNat (v0 3)) 0),(.bool false),(.ref (vz 0 4)),(.int ((Int.ofNat k)+1) 0),.none,(.str c (v0 4))]),(fO sc [(.str s t0),(.int ((Int.ofNat k)+1) 0)])],[((v0 3),(tO [(.int (Int.ofNat k) (v0 5)),(.str c (v0 4))]))],.ok (.ret (.ref (v0 3)))⟩) (fun v0=>[(0,.own (tupE fIe_t29) (tupK fIe_t29) (tupP fIe_t29) (vz 0 3) (v0 3) fIe_b29 [] (envF fIes fIeq 35 [] gL)),(9,.ev (retB false)),(9,.ev (retB true))]))])
    (d:=14) (ms:=[8,9,10,11,12,13]) (e:=1) (gs:=[0]) (mv:=[])
    O den_eq 186 2 (fun v=>⟨by kernel_rfl,by kernel_rfl,by kernel_rfl,by kernel_rfl⟩) (fun v=>AllP.cons (e2 v) (AllP.cons (e1 v) (AllP.cons (e0 v) AllP.nil)))

theorem sq_a (w:World) (b2:Bool) (h0:Heap) (B:List Frame) (d:Drawn) (os:OsState) (pos0:Pos) (vz:N2) (pos0z:Pos) (t0z t1z t2z t3z:Nat) (stz:Int) (t4z t5z t6z t7z t8z szz tkz gnz:Nat) (Mz:List (Addr × Obj)) (Gz:List (Nat × GenState)) (sc:String) (k L gO gL rl g:Nat) (rv:List Value) (rn:Nat) (luv lpv gpv gcv lvv opv:Value) (t0 t1:Nat) (s:Str) (t2 t3 t4:Nat) (st:Int) (t5 t6 t7 t8 t9 t10 t11 t12 t13 t14 t15 t16:Nat) (c:Str) (qa0:List Stmt) (qb0:Env) (qq0:Pos) (qa1:List Stmt) (qb1:Env) (qq1:Pos) (qa2:Expr) (qb2:Value) (qc2 qd2:List Stmt) (qe2:Env) (qq2:Pos) (qa3:List Stmt) (qb3:Env) (qq3:Pos) (qa4:Args) (qq4:Pos) (sz tk gn:Nat) (M:List (Addr × Obj)) (G:List (Nat × GenState)) (O:(view w b2 h0 B [(.func qa0 qb0,qq0),(.func qa1 qb1,qq1),(.forLoop qa2 qb2 qc2 qd2 qe2,qq2),(.func qa3 qb3,qq3),(.builtin "claim.caller" qa4,qq4)] d os).Ok)
    (e0:∀ v:N2,CallN (view w b2 h0 B [(.func qa0 qb0,qq0),(.func qa1 qb1,qq1),(.forLoop qa2 qb2 qc2 qd2 qe2,qq2),(.func qa3 qb3,qq3),(.builtin "claim.caller" qa4,qq4)] d os) ([2,1,8,2,1,1,2,1,7]) (cB "enumerate.__next__" [(.ref (vz 0 3))]) [((vz 0 3),(fO "enumerate" [.none,(.bool false),(.ref (vz 0 4)),(.int (Int.ofNat k) 0),.none,lvv])),((vz 0 4),(fO sc [(.str s t1),(.int (Int.ofNat k) 0)]))] [] (fun v0=>⟨some [(fO "enumerate" [(.int (Int.ofNat (v0 3)) 0),(.bool false),(.ref (vz 0 4)),(.int ((Int.ofNat k)+1) 0),.none,(.str c (v0 4))]),(fO sc [(.str s t1),(.int ((Int.ofNat k)+1) 0)])],[((v0 3),(tO [(.int (Int.ofNat k) (v0 5)),(.str c (v0 4))]))],.ok (.ret (.ref (v0 3)))⟩)) (e1:∀ v:N2,EvP "str.__eq__" [(.str c 0),(.str z17 0)] (retB true)) :
    Goes (view w b2 h0 B [(.func qa0 qb0,qq0),(.func qa1 qb1,qq1),(.forLoop qa2 qb2 qc2 qd2 qe2,qq2),(.func qa3 qb3,qq3),(.builtin "claim.caller" qa4,qq4)] d os) (mkD (.forLoop fIe_t29 (.ref (vz 0 3)) fIe_b29 [] (envF fIes fIeq 35 [] gL)) pos0 (sq_in_fs vz w b2 h0 B d os pos0z sc L gO gL rl g t0z t1z s t2z t3z stz t4z t5z t6z t7z t8z qa0 qb0 qq0 qa1 qb1 qq1 qa2 qb2 qc2 qd2 qe2 qq2 qa3 qb3 qq3 qa4 qq4 szz tkz gnz Mz Gz) (((vz 0 3),(fO "enumerate" [.none,(.bool false),(.ref (vz 0 4)),(.int (Int.ofNat k) 0),.none,lvv]))::((vz 0 4),(fO sc [(.str s t1),(.int (Int.ofNat k) 0)]))::(L,nsO [ent w.params z14 t2 (.str s t1),ent w.params z22 t3 (.int st t4),ent w.params z23 t5 opv,ent w.params z24 t6 (.ref rl),ent w.params z15 t7 lpv,ent w.params z18 t9 luv] 6)::(gO,(fO "generator" [(.int (Int.ofNat g) 0),(.str z20 t11),(.str z20 t12)]))::(gL,nsO [ent w.params z14 t13 (.str s t1),ent w.params z15 t14 gpv,ent w.params z16 t15 (.bool false),ent w.params z18 t16 gcv] 4)::(rl,listO rv rn)::M) sz tk ((g,.running)::G) gn)
      (fun y=>∃ v:N2,y = mkD (.forLoop fIe_t29 (.ref (vz 0 3)) fIe_b29 [] (envF fIes fIeq 35 [] gL)) ⟨34,12,34,18⟩ (sq_in_fs vz w b2 h0 B d os pos0z sc L gO gL rl g t0z t1z s t2z t3z stz t4z t5z t6z t7z t8z qa0 qb0 qq0 qa1 qb1 qq1 qa2 qb2 qc2 qd2 qe2 qq2 qa3 qb3 qq3 qa4 qq4 szz tkz gnz Mz Gz) (((vz 0 3),(fO "enumerate" [.none,(.bool false),(.ref (vz 0 4)),(.int ((Int.ofNat k)+1) 0),.none,(.str c (v 0 4))]))::((vz 0 4),(fO sc [(.str s t1),(.int ((Int.ofNat k)+1) 0)]))::(L,nsO [ent w.params z14 t2 (.str s t1),ent w.params z22 t3 (.int st t4),ent w.params z23 t5 opv,ent w.params z24 t6 (.ref rl),ent w.params z15 t7 lpv,ent w.params z18 t9 luv] 6)::(gO,(fO "generator" [(.int (Int.ofNat g) 0),(.str z20 t11),(.str z20 t12)]))::(gL,nsO [ent w.params z14 t13 (.str s t1),ent w.params z15 t14 (.int (Int.ofNat k) (v 0 5)),ent w.params z16 t15 (.bool true),ent w.params z18 t16 (.str c (v 0 4))] 4)::(rl,listO rv rn)::M) ((v 0 0)+3) ((v 0 1)+4) ((g,.running)::G) (v 0 2)) :=
  goes_run (it:=[1,2,2,2,1,1,1,1,1,1,1,1,1,2,1,1,1,1,1,1,2,1,1,1,1,1,1,2,1,1,1,9,9,9,9,9,9,9,9]) (en:=[(0,.call [0,1] [] (fun v0=>⟨some [(fO "enumerate" [(.int (Int.ofNat (v0 3)) 0),(.bool false),(.ref (vz 0 4)),(.int ((Int.ofNat k)+1) 0),.none,(.str c (v0 4))]),(fO sc [(.str s t1),(.int ((Int.ofNat k)+1) 0)])],[((v0 3),(tO [(.int (Int.ofNat k) (v0 5)),(.str c (v0 4))]))],.ok (.ret (.ref (v0 3)))⟩) (fun v0=>[(0,.own (tupE fIe_t29) (tupK fIe_t29) (tupP fIe_t29) (vz 0 3) (v0 3) fIe_b29 [] (envF fIes fIeq 35 [] gL)),(9,.ev (retB true))]))])
    (d:=10) (ms:=[4,5,6,7,8,9]) (e:=1) (gs:=[0]) (mv:=[])
    O den_eq 89 2 (fun v=>⟨by kernel_rfl,by kernel_rfl,by kernel_rfl,by kernel_rfl⟩) (fun v=>AllP.cons (e1 v) (AllP.cons (e0 v) AllP.nil))

theorem sq_b1 (w:World) (b2:Bool) (h0:Heap) (B:List Frame) (d:Drawn) (os:OsState) (pos0:Pos) (vz:N2) (pos0z:Pos) (t0z t1z t2z t3z:Nat) (stz:Int) (t4z t5z t6z t7z t8z szz tkz gnz:Nat) (Mz:List (Addr × Obj)) (Gz:List (Nat × GenState)) (sc:String) (k L gO gL rl g:Nat) (rv:List Value) (rn:Nat) (gpv gcv lvv opv:Value) (t0 t1:Nat) (s:Str) (t2 t3 t4:Nat) (st:Int) (t5 t6 t7 t8 t9 t10 t11 t12 t13:Nat) (c:Str) (qa0:List Stmt) (qb0:Env) (qq0:Pos) (qa1:List Stmt) (qb1:Env) (qq1:Pos) (qa2:Expr) (qb2:Value) (qc2 qd2:List Stmt) (qe2:Env) (qq2:Pos) (qa3:List Stmt) (qb3:Env) (qq3:Pos) (qa4:Args) (qq4:Pos) (sz tk gn:Nat) (M:List (Addr × Obj)) (G:List (Nat × GenState)) (O:(view w b2 h0 B [(.func qa0 qb0,qq0),(.func qa1 qb1,qq1),(.forLoop qa2 qb2 qc2 qd2 qe2,qq2),(.func qa3 qb3,qq3),(.builtin "claim.caller" qa4,qq4)] d os).Ok)
    (e0:∀ v:N2,CallN (view w b2 h0 B [(.func qa0 qb0,qq0),(.func qa1 qb1,qq1),(.forLoop qa2 qb2 qc2 qd2 qe2,qq2),(.func qa3 qb3,qq3),(.builtin "claim.caller" qa4,qq4)] d os) ([2,1,8,2,1,1,2,1,7]) (cB "enumerate.__next__" [(.ref (vz 0 3))]) [((vz 0 3),(fO "enumerate" [.none,(.bool false),(.ref (vz 0 4)),(.int (Int.ofNat k) 0),.none,lvv])),((vz 0 4),(fO sc [(.str s t1),(.int (Int.ofNat k) 0)]))] [] (fun v0=>⟨some [(fO "enumerate" [(.int (Int.ofNat (v0 3)) 0),(.bool false),(.ref (vz 0 4)),(.int ((Int.ofNat k)+1) 0),.none,(.str c (v0 4))]),(fO sc [(.str s t1),(.int ((Int.ofNat k)+1) 0)])],[((v0 3),(tO [(.int (Int.ofNat k) (v0 5)),(.str c (v0 4))]))],.ok (.ret (.ref (v0 3)))⟩)) (e1:∀ v:N2,EvP "str.__add__" [(.str z17 0),(.str c 0)] (retS (sAdd z17 c))) (e2:∀ v:N2,EvP "str.__eq__" [(.str (sAdd z17 c) 0),(.str z21 0)] (retB false)) :
    Goes (view w b2 h0 B [(.func qa0 qb0,qq0),(.func qa1 qb1,qq1),(.forLoop qa2 qb2 qc2 qd2 qe2,qq2),(.func qa3 qb3,qq3),(.builtin "claim.caller" qa4,qq4)] d os) (mkD (.forLoop fIe_t29 (.ref (vz 0 3)) fIe_b29 [] (envF fIes fIeq 35 [] gL)) pos0 (sq_in_fs vz w b2 h0 B d os pos0z sc L gO gL rl g t0z t1z s t2z t3z stz t4z t5z t6z t7z t8z qa0 qb0 qq0 qa1 qb1 qq1 qa2 qb2 qc2 qd2 qe2 qq2 qa3 qb3 qq3 qa4 qq4 szz tkz gnz Mz Gz) (((vz 0 3),(fO "enumerate" [.none,(.bool false),(.ref (vz 0 4)),(.int (Int.ofNat k) 0),.none,lvv]))::((vz 0 4),(fO sc [(.str s t1),(.int (Int.ofNat k) 0)]))::(L,nsO [ent w.params z14 t2 (.str s t1),ent w.params z22 t3 (.int st t4),ent w.params z23 t5 opv,ent w.params z24 t6 (.ref rl)] 4)::(gO,(fO "generator" [(.int (Int.ofNat g) 0),(.str z20 t7),(.str z20 t8)]))::(gL,nsO [ent w.params z14 t9 (.str s t1),ent w.params z15 t10 gpv,ent w.params z16 t12 (.bool true),ent w.params z18 t13 gcv] 4)::(rl,listO rv rn)::M) sz tk ((g,.running)::G) gn)
      (fun y=>∃ v:N2,y = mkD (.forLoop fIe_t29 (.ref (vz 0 3)) fIe_b29 [] (envF fIes fIeq 35 [] gL)) ⟨32,12,32,18⟩ (sq_in_fs vz w b2 h0 B d os pos0z sc L gO gL rl g t0z t1z s t2z t3z stz t4z t5z t6z t7z t8z qa0 qb0 qq0 qa1 qb1 qq1 qa2 qb2 qc2 qd2 qe2 qq2 qa3 qb3 qq3 qa4 qq4 szz tkz gnz Mz Gz) (((vz 0 3),(fO "enumerate" [.none,(.bool false),(.ref (vz 0 4)),(.int ((Int.ofNat k)+1) 0),.none,(.str c (v 0 4))]))::((vz 0 4),(fO sc [(.str s t1),(.int ((Int.ofNat k)+1) 0)]))::(L,nsO [ent w.params z14 t2 (.str s t1),ent w.params z22 t3 (.int st t4),ent w.params z23 t5 opv,ent w.params z24 t6 (.ref rl),ent w.params z15 ((v 0 1)+4) (.int (Int.ofNat k) (v 0 5)),ent w.params z18 ((v 0 1)+5) (.str (sAdd z17 c) ((v 0 1)+3))] 6)::(gO,(fO "generator" [(.int (Int.ofNat g) 0),(.str z20 t7),(.str z20 t8)]))::(gL,nsO [ent w.params z14 t9 (.str s t1),ent w.params z15 t10 (.int (Int.ofNat k) (v 0 5)),ent w.params z16 t12 (.bool false),ent w.params z18 t13 (.str c (v 0 4))] 4)::(rl,listO rv rn)::M) ((v 0 0)+7) ((v 0 1)+8) ((g,.running)::G) (v 0 2)) :=
  goes_run (it:=[1,2,2,2,1,1,1,1,1,1,1,1,1,2,1,1,1,1,1,1,2,1,1,1,1,1,1,2,1,1,1,9,9,9,9,9,9,9,0,9,1,1,1,1,1,1,1,1,1,2,1,1,1,1,1,1,2,1,1,1,1,1,1,2,1,1,1,11,11,11,11,11,12,12,12,0,0,0,13,13]) (en:=[(0,.call [0,1] [] (fun v0=>⟨some [(fO "enumerate" [(.int (Int.ofNat (v0 3)) 0),(.bool false),(.ref (vz 0 4)),(.int ((Int.ofNat k)+1) 0),.none,(.str c (v0 4))]),(fO sc [(.str s t1),(.int ((Int.ofNat k)+1) 0)])],[((v0 3),(tO [(.int (Int.ofNat k) (v0 5)),(.str c (v0 4))]))],.ok (.ret (.ref (v0 3)))⟩) (fun v0=>[(0,.own (tupE fIe_t29) (tupK fIe_t29) (tupP fIe_t29) (vz 0 3) (v0 3) fIe_b29 [] (envF fIes fIeq 35 [] gL)),(9,.ev (retS (sAdd z17 c))),(9,.ev (retB false))]))])
    (d:=14) (ms:=[8,9,10,11,12,13]) (e:=1) (gs:=[0]) (mv:=[])
    O den_eq 178 2 (fun v=>⟨by kernel_rfl,by kernel_rfl,by kernel_rfl,by kernel_rfl⟩) (fun v=>AllP.cons (e2 v) (AllP.cons (e1 v) (AllP.cons (e0 v) AllP.nil)))

theorem sq_b (w:World) (b2:Bool) (h0:Heap) (B:List Frame) (d:Drawn) (os:OsState) (pos0:Pos) (vz:N2) (pos0z:Pos) (t0z t1z t2z t3z:Nat) (stz:Int) (t4z t5z t6z t7z t8z szz tkz gnz:Nat) (Mz:List (Addr × Obj)) (Gz:List (Nat × GenState)) (sc:String) (k L gO gL rl g:Nat) (rv:List Value) (rn:Nat) (luv lpv gpv gcv lvv opv:Value) (t0 t1:Nat) (s:Str) (t2 t3 t4:Nat) (st:Int) (t5 t6 t7 t8 t9 t10 t11 t12 t13 t14 t15 t16 t17:Nat) (c:Str) (qa0:List Stmt) (qb0:Env) (qq0:Pos) (qa1:List Stmt) (qb1:Env) (qq1:Pos) (qa2:Expr) (qb2:Value) (qc2 qd2:List Stmt) (qe2:Env) (qq2:Pos) (qa3:List Stmt) (qb3:Env) (qq3:Pos) (qa4:Args) (qq4:Pos) (sz tk gn:Nat) (M:List (Addr × Obj)) (G:List (Nat × GenState)) (O:(view w b2 h0 B [(.func qa0 qb0,qq0),(.func qa1 qb1,qq1),(.forLoop qa2 qb2 qc2 qd2 qe2,qq2),(.func qa3 qb3,qq3),(.builtin "claim.caller" qa4,qq4)] d os).Ok)
    (e0:∀ v:N2,CallN (view w b2 h0 B [(.func qa0 qb0,qq0),(.func qa1 qb1,qq1),(.forLoop qa2 qb2 qc2 qd2 qe2,qq2),(.func qa3 qb3,qq3),(.builtin "claim.caller" qa4,qq4)] d os) ([2,1,8,2,1,1,2,1,7]) (cB "enumerate.__next__" [(.ref (vz 0 3))]) [((vz 0 3),(fO "enumerate" [.none,(.bool false),(.ref (vz 0 4)),(.int (Int.ofNat k) 0),.none,lvv])),((vz 0 4),(fO sc [(.str s t1),(.int (Int.ofNat k) 0)]))] [] (fun v0=>⟨some [(fO "enumerate" [(.int (Int.ofNat (v0 3)) 0),(.bool false),(.ref (vz 0 4)),(.int ((Int.ofNat k)+1) 0),.none,(.str c (v0 4))]),(fO sc [(.str s t1),(.int ((Int.ofNat k)+1) 0)])],[((v0 3),(tO [(.int (Int.ofNat k) (v0 5)),(.str c (v0 4))]))],.ok (.ret (.ref (v0 3)))⟩)) (e1:∀ v:N2,EvP "str.__add__" [(.str z17 0),(.str c 0)] (retS (sAdd z17 c))) (e2:∀ v:N2,EvP "str.__eq__" [(.str (sAdd z17 c) 0),(.str z21 0)] (retB false)) :
    Goes (view w b2 h0 B [(.func qa0 qb0,qq0),(.func qa1 qb1,qq1),(.forLoop qa2 qb2 qc2 qd2 qe2,qq2),(.func qa3 qb3,qq3),(.builtin "claim.caller" qa4,qq4)] d os) (mkD (.forLoop fIe_t29 (.ref (vz 0 3)) fIe_b29 [] (envF fIes fIeq 35 [] gL)) pos0 (sq_in_fs vz w b2 h0 B d os pos0z sc L gO gL rl g t0z t1z s t2z t3z stz t4z t5z t6z t7z t8z qa0 qb0 qq0 qa1 qb1 qq1 qa2 qb2 qc2 qd2 qe2 qq2 qa3 qb3 qq3 qa4 qq4 szz tkz gnz Mz Gz) (((vz 0 3),(fO "enumerate" [.none,(.bool false),(.ref (vz 0 4)),(.int (Int.ofNat k) 0),.none,lvv]))::((vz 0 4),(fO sc [(.str s t1),(.int (Int.ofNat k) 0)]))::(L,nsO [ent w.params z14 t2 (.str s t1),ent w.params z22 t3 (.int st t4),ent w.params z23 t5 opv,ent w.params z24 t6 (.ref rl),ent w.params z15 t7 lpv,ent w.params z18 t9 luv] 6)::(gO,(fO "generator" [(.int (Int.ofNat g) 0),(.str z20 t11),(.str z20 t12)]))::(gL,nsO [ent w.params z14 t13 (.str s t1),ent w.params z15 t14 gpv,ent w.params z16 t16 (.bool true),ent w.params z18 t17 gcv] 4)::(rl,listO rv rn)::M) sz tk ((g,.running)::G) gn)
      (fun y=>∃ v:N2,y = mkD (.forLoop fIe_t29 (.ref (vz 0 3)) fIe_b29 [] (envF fIes fIeq 35 [] gL)) ⟨32,12,32,18⟩ (sq_in_fs vz w b2 h0 B d os pos0z sc L gO gL rl g t0z t1z s t2z t3z stz t4z t5z t6z t7z t8z qa0 qb0 qq0 qa1 qb1 qq1 qa2 qb2 qc2 qd2 qe2 qq2 qa3 qb3 qq3 qa4 qq4 szz tkz gnz Mz Gz) (((vz 0 3),(fO "enumerate" [.none,(.bool false),(.ref (vz 0 4)),(.int ((Int.ofNat k)+1) 0),.none,(.str c (v 0 4))]))::((vz 0 4),(fO sc [(.str s t1),(.int ((Int.ofNat k)+1) 0)]))::(L,nsO [ent w.params z14 t2 (.str s t1),ent w.params z22 t3 (.int st t4),ent w.params z23 t5 opv,ent w.params z24 t6 (.ref rl),ent w.params z15 t7 (.int (Int.ofNat k) (v 0 5)),ent w.params z18 t9 (.str (sAdd z17 c) ((v 0 1)+3))] 6)::(gO,(fO "generator" [(.int (Int.ofNat g) 0),(.str z20 t11),(.str z20 t12)]))::(gL,nsO [ent w.params z14 t13 (.str s t1),ent w.params z15 t14 (.int (Int.ofNat k) (v 0 5)),ent w.params z16 t16 (.bool false),ent w.params z18 t17 (.str c (v 0 4))] 4)::(rl,listO rv rn)::M) ((v 0 0)+7) ((v 0 1)+8) ((g,.running)::G) (v 0 2)) :=
  goes_run (it:=[1,2,2,2,1,1,1,1,1,1,1,1,1,2,1,1,1,1,1,1,2,1,1,1,1,1,1,2,1,1,1,9,9,9,9,9,9,9,0,9,1,1,1,1,1,1,1,1,1,2,1,1,1,1,1,1,2,1,1,1,1,1,1,2,1,1,1,11,11,11,11,11,12,12,12,0,0,0,13,13]) (en:=[(0,.call [0,1] [] (fun v0=>⟨some [(fO "enumerate" [(.int (Int.ofNat (v0 3)) 0),(.bool false),(.ref (vz 0 4)),(.int ((Int.ofNat k)+1) 0),.none,(.str c (v0 4))]),(fO sc [(.str s t1),(.int ((Int.ofNat k)+1) 0)])],[((v0 3),(tO [(.int (Int.ofNat k) (v0 5)),(.str c (v0 4))]))],.ok (.ret (.ref (v0 3)))⟩) (fun v0=>[(0,.own (tupE fIe_t29) (tupK fIe_t29) (tupP fIe_t29) (vz 0 3) (v0 3) fIe_b29 [] (envF fIes fIeq 35 [] gL)),(9,.ev (retS (sAdd z17 c))),(9,.ev (retB false))]))])
    (d:=14) (ms:=[8,9,10,11,12,13]) (e:=1) (gs:=[0]) (mv:=[])
    O den_eq 178 2 (fun v=>⟨by kernel_rfl,by kernel_rfl,by kernel_rfl,by kernel_rfl⟩) (fun v=>AllP.cons (e2 v) (AllP.cons (e1 v) (AllP.cons (e0 v) AllP.nil)))

theorem sq_c (w:World) (b2:Bool) (h0:Heap) (B:List Frame) (d:Drawn) (os:OsState) (pos0:Pos) (vz:N2) (pos0z:Pos) (t0z t1z t2z t3z:Nat) (stz:Int) (t4z t5z t6z t7z t8z szz tkz gnz:Nat) (Mz:List (Addr × Obj)) (Gz:List (Nat × GenState)) (sc:String) (k L gO gL rl g:Nat) (rv:List Value) (rn:Nat) (luv lpv gpv gcv lvv opv:Value) (t0 t1:Nat) (s:Str) (t2 t3 t4:Nat) (st:Int) (t5 t6:Nat) (op:Int) (t7 t8 t9 t10 t11 t12 t13 t14 t15:Nat) (c:Str) (qa0:List Stmt) (qb0:Env) (qq0:Pos) (qa1:List Stmt) (qb1:Env) (qq1:Pos) (qa2:Expr) (qb2:Value) (qc2 qd2:List Stmt) (qe2:Env) (qq2:Pos) (qa3:List Stmt) (qb3:Env) (qq3:Pos) (qa4:Args) (qq4:Pos) (sz tk gn:Nat) (M:List (Addr × Obj)) (G:List (Nat × GenState)) (O:(view w b2 h0 B [(.func qa0 qb0,qq0),(.func qa1 qb1,qq1),(.forLoop qa2 qb2 qc2 qd2 qe2,qq2),(.func qa3 qb3,qq3),(.builtin "claim.caller" qa4,qq4)] d os).Ok)
    (e0:∀ v:N2,CallN (view w b2 h0 B [(.func qa0 qb0,qq0),(.func qa1 qb1,qq1),(.forLoop qa2 qb2 qc2 qd2 qe2,qq2),(.func qa3 qb3,qq3),(.builtin "claim.caller" qa4,qq4)] d os) ([2,1,8,2,1,1,2,1,7]) (cB "enumerate.__next__" [(.ref (vz 0 3))]) [((vz 0 3),(fO "enumerate" [.none,(.bool false),(.ref (vz 0 4)),(.int (Int.ofNat k) 0),.none,lvv])),((vz 0 4),(fO sc [(.str s t1),(.int (Int.ofNat k) 0)]))] [] (fun v0=>⟨some [(fO "enumerate" [(.int (Int.ofNat (v0 3)) 0),(.bool false),(.ref (vz 0 4)),(.int ((Int.ofNat k)+1) 0),.none,(.str c (v0 4))]),(fO sc [(.str s t1),(.int ((Int.ofNat k)+1) 0)])],[((v0 3),(tO [(.int (Int.ofNat k) (v0 5)),(.str c (v0 4))]))],.ok (.ret (.ref (v0 3)))⟩)) (e1:∀ v:N2,EvP "str.__eq__" [(.str c 0),(.str z17 0)] (retB false)) (e2:∀ v:N2,EvP "str.__eq__" [(.str c 0),(.str z21 0)] (retB false)) :
    Goes (view w b2 h0 B [(.func qa0 qb0,qq0),(.func qa1 qb1,qq1),(.forLoop qa2 qb2 qc2 qd2 qe2,qq2),(.func qa3 qb3,qq3),(.builtin "claim.caller" qa4,qq4)] d os) (mkD (.forLoop fIe_t29 (.ref (vz 0 3)) fIe_b29 [] (envF fIes fIeq 35 [] gL)) pos0 (sq_in_fs vz w b2 h0 B d os pos0z sc L gO gL rl g t0z t1z s t2z t3z stz t4z t5z t6z t7z t8z qa0 qb0 qq0 qa1 qb1 qq1 qa2 qb2 qc2 qd2 qe2 qq2 qa3 qb3 qq3 qa4 qq4 szz tkz gnz Mz Gz) (((vz 0 3),(fO "enumerate" [.none,(.bool false),(.ref (vz 0 4)),(.int (Int.ofNat k) 0),.none,lvv]))::((vz 0 4),(fO sc [(.str s t1),(.int (Int.ofNat k) 0)]))::(L,nsO [ent w.params z14 t2 (.str s t1),ent w.params z22 t3 (.int st t4),ent w.params z23 t5 opv,ent w.params z24 t7 (.ref rl),ent w.params z15 t8 lpv,ent w.params z18 t9 luv] 6)::(gO,(fO "generator" [(.int (Int.ofNat g) 0),(.str z20 t10),(.str z20 t11)]))::(gL,nsO [ent w.params z14 t12 (.str s t1),ent w.params z15 t13 gpv,ent w.params z16 t14 (.bool false),ent w.params z18 t15 gcv] 4)::(rl,listO rv rn)::M) sz tk ((g,.running)::G) gn)
      (fun y=>∃ v:N2,y = mkD (.forLoop fIe_t29 (.ref (vz 0 3)) fIe_b29 [] (envF fIes fIeq 35 [] gL)) ⟨36,12,36,27⟩ (sq_in_fs vz w b2 h0 B d os pos0z sc L gO gL rl g t0z t1z s t2z t3z stz t4z t5z t6z t7z t8z qa0 qb0 qq0 qa1 qb1 qq1 qa2 qb2 qc2 qd2 qe2 qq2 qa3 qb3 qq3 qa4 qq4 szz tkz gnz Mz Gz) (((vz 0 3),(fO "enumerate" [.none,(.bool false),(.ref (vz 0 4)),(.int ((Int.ofNat k)+1) 0),.none,(.str c (v 0 4))]))::((vz 0 4),(fO sc [(.str s t1),(.int ((Int.ofNat k)+1) 0)]))::(L,nsO [ent w.params z14 t2 (.str s t1),ent w.params z22 t3 (.int st t4),ent w.params z23 t5 opv,ent w.params z24 t7 (.ref rl),ent w.params z15 t8 (.int (Int.ofNat k) (v 0 5)),ent w.params z18 t9 (.str c (v 0 4))] 6)::(gO,(fO "generator" [(.int (Int.ofNat g) 0),(.str z20 t10),(.str z20 t11)]))::(gL,nsO [ent w.params z14 t12 (.str s t1),ent w.params z15 t13 (.int (Int.ofNat k) (v 0 5)),ent w.params z16 t14 (.bool false),ent w.params z18 t15 (.str c (v 0 4))] 4)::(rl,listO rv rn)::M) ((v 0 0)+7) ((v 0 1)+6) ((g,.running)::G) (v 0 2)) :=
  goes_run (it:=[1,2,2,2,1,1,1,1,1,1,1,1,1,2,1,1,1,1,1,1,2,1,1,1,1,1,1,2,1,1,1,9,9,9,9,9,9,9,9,0,9,1,1,1,1,1,1,1,1,1,2,1,1,1,1,1,1,2,1,1,1,1,1,1,2,1,1,1,11,11,11,11,11,12,12,12,0,0,0]) (en:=[(0,.call [0,1] [] (fun v0=>⟨some [(fO "enumerate" [(.int (Int.ofNat (v0 3)) 0),(.bool false),(.ref (vz 0 4)),(.int ((Int.ofNat k)+1) 0),.none,(.str c (v0 4))]),(fO sc [(.str s t1),(.int ((Int.ofNat k)+1) 0)])],[((v0 3),(tO [(.int (Int.ofNat k) (v0 5)),(.str c (v0 4))]))],.ok (.ret (.ref (v0 3)))⟩) (fun v0=>[(0,.own (tupE fIe_t29) (tupK fIe_t29) (tupP fIe_t29) (vz 0 3) (v0 3) fIe_b29 [] (envF fIes fIeq 35 [] gL)),(9,.ev (retB false)),(9,.ev (retB false))]))])
    (d:=14) (ms:=[8,9,10,11,12,13]) (e:=1) (gs:=[0]) (mv:=[])
    O den_eq 172 2 (fun v=>⟨by kernel_rfl,by kernel_rfl,by kernel_rfl,by kernel_rfl⟩) (fun v=>AllP.cons (e2 v) (AllP.cons (e1 v) (AllP.cons (e0 v) AllP.nil)))

theorem sq_qo (w:World) (b2:Bool) (h0:Heap) (B:List Frame) (d:Drawn) (os:OsState) (pos0:Pos) (vz:N2) (pos0z:Pos) (t0z t1z t2z t3z:Nat) (stz:Int) (t4z t5z t6z t7z t8z szz tkz gnz:Nat) (Mz:List (Addr × Obj)) (Gz:List (Nat × GenState)) (sc:String) (k L gO gL rl g:Nat) (rv:List Value) (rn:Nat) (luv lpv gpv gcv lvv:Value) (t0 t1:Nat) (s:Str) (t2 t3 t4:Nat) (st:Int) (t5 t6 t7 t8 t9 t10 t11 t12 t13 t14 t15 t16:Nat) (c:Str) (qa0:List Stmt) (qb0:Env) (qq0:Pos) (qa1:List Stmt) (qb1:Env) (qq1:Pos) (qa2:Expr) (qb2:Value) (qc2 qd2:List Stmt) (qe2:Env) (qq2:Pos) (qa3:List Stmt) (qb3:Env) (qq3:Pos) (qa4:Args) (qq4:Pos) (sz tk gn:Nat) (M:List (Addr × Obj)) (G:List (Nat × GenState)) (O:(view w b2 h0 B [(.func qa0 qb0,qq0),(.func qa1 qb1,qq1),(.forLoop qa2 qb2 qc2 qd2 qe2,qq2),(.func qa3 qb3,qq3),(.builtin "claim.caller" qa4,qq4)] d os).Ok)
    (e0:∀ v:N2,CallN (view w b2 h0 B [(.func qa0 qb0,qq0),(.func qa1 qb1,qq1),(.forLoop qa2 qb2 qc2 qd2 qe2,qq2),(.func qa3 qb3,qq3),(.builtin "claim.caller" qa4,qq4)] d os) ([2,1,8,2,1,1,2,1,7]) (cB "enumerate.__next__" [(.ref (vz 0 3))]) [((vz 0 3),(fO "enumerate" [.none,(.bool false),(.ref (vz 0 4)),(.int (Int.ofNat k) 0),.none,lvv])),((vz 0 4),(fO sc [(.str s t1),(.int (Int.ofNat k) 0)]))] [] (fun v0=>⟨some [(fO "enumerate" [(.int (Int.ofNat (v0 3)) 0),(.bool false),(.ref (vz 0 4)),(.int ((Int.ofNat k)+1) 0),.none,(.str c (v0 4))]),(fO sc [(.str s t1),(.int ((Int.ofNat k)+1) 0)])],[((v0 3),(tO [(.int (Int.ofNat k) (v0 5)),(.str c (v0 4))]))],.ok (.ret (.ref (v0 3)))⟩)) (e1:∀ v:N2,EvP "str.__eq__" [(.str c 0),(.str z17 0)] (retB false)) (e2:∀ v:N2,EvP "str.__eq__" [(.str c 0),(.str z21 0)] (retB true)) :
    Goes (view w b2 h0 B [(.func qa0 qb0,qq0),(.func qa1 qb1,qq1),(.forLoop qa2 qb2 qc2 qd2 qe2,qq2),(.func qa3 qb3,qq3),(.builtin "claim.caller" qa4,qq4)] d os) (mkD (.forLoop fIe_t29 (.ref (vz 0 3)) fIe_b29 [] (envF fIes fIeq 35 [] gL)) pos0 (sq_in_fs vz w b2 h0 B d os pos0z sc L gO gL rl g t0z t1z s t2z t3z stz t4z t5z t6z t7z t8z qa0 qb0 qq0 qa1 qb1 qq1 qa2 qb2 qc2 qd2 qe2 qq2 qa3 qb3 qq3 qa4 qq4 szz tkz gnz Mz Gz) (((vz 0 3),(fO "enumerate" [.none,(.bool false),(.ref (vz 0 4)),(.int (Int.ofNat k) 0),.none,lvv]))::((vz 0 4),(fO sc [(.str s t1),(.int (Int.ofNat k) 0)]))::(L,nsO [ent w.params z14 t2 (.str s t1),ent w.params z22 t3 (.int st t4),ent w.params z23 t5 .none,ent w.params z24 t6 (.ref rl),ent w.params z15 t7 lpv,ent w.params z18 t9 luv] 6)::(gO,(fO "generator" [(.int (Int.ofNat g) 0),(.str z20 t11),(.str z20 t12)]))::(gL,nsO [ent w.params z14 t13 (.str s t1),ent w.params z15 t14 gpv,ent w.params z16 t15 (.bool false),ent w.params z18 t16 gcv] 4)::(rl,listO rv rn)::M) sz tk ((g,.running)::G) gn)
      (fun y=>∃ v:N2,y = mkD (.forLoop fIe_t29 (.ref (vz 0 3)) fIe_b29 [] (envF fIes fIeq 35 [] gL)) ⟨36,12,36,27⟩ (sq_in_fs vz w b2 h0 B d os pos0z sc L gO gL rl g t0z t1z s t2z t3z stz t4z t5z t6z t7z t8z qa0 qb0 qq0 qa1 qb1 qq1 qa2 qb2 qc2 qd2 qe2 qq2 qa3 qb3 qq3 qa4 qq4 szz tkz gnz Mz Gz) (((vz 0 3),(fO "enumerate" [.none,(.bool false),(.ref (vz 0 4)),(.int ((Int.ofNat k)+1) 0),.none,(.str c (v 0 4))]))::((vz 0 4),(fO sc [(.str s t1),(.int ((Int.ofNat k)+1) 0)]))::(L,nsO [ent w.params z14 t2 (.str s t1),ent w.params z22 t3 (.int st t4),ent w.params z23 t5 (.int (Int.ofNat k) (v 0 5)),ent w.params z24 t6 (.ref rl),ent w.params z15 t7 (.int (Int.ofNat k) (v 0 5)),ent w.params z18 t9 (.str c (v 0 4))] 6)::(gO,(fO "generator" [(.int (Int.ofNat g) 0),(.str z20 t11),(.str z20 t12)]))::(gL,nsO [ent w.params z14 t13 (.str s t1),ent w.params z15 t14 (.int (Int.ofNat k) (v 0 5)),ent w.params z16 t15 (.bool false),ent w.params z18 t16 (.str c (v 0 4))] 4)::(rl,listO rv rn)::M) ((v 0 0)+7) ((v 0 1)+7) ((g,.running)::G) (v 0 2)) :=
  goes_run (it:=[1,2,2,2,1,1,1,1,1,1,1,1,1,2,1,1,1,1,1,1,2,1,1,1,1,1,1,2,1,1,1,9,9,9,9,9,9,9,9,0,9,1,1,1,1,1,1,1,1,1,2,1,1,1,1,1,1,2,1,1,1,1,1,1,2,1,1,1,11,11,11,11,11,11,11,11,11,12,12,12,0,0,0]) (en:=[(0,.call [0,1] [] (fun v0=>⟨some [(fO "enumerate" [(.int (Int.ofNat (v0 3)) 0),(.bool false),(.ref (vz 0 4)),(.int ((Int.ofNat k)+1) 0),.none,(.str c (v0 4))]),(fO sc [(.str s t1),(.int ((Int.ofNat k)+1) 0)])],[((v0 3),(tO [(.int (Int.ofNat k) (v0 5)),(.str c (v0 4))]))],.ok (.ret (.ref (v0 3)))⟩) (fun v0=>[(0,.own (tupE fIe_t29) (tupK fIe_t29) (tupP fIe_t29) (vz 0 3) (v0 3) fIe_b29 [] (envF fIes fIeq 35 [] gL)),(9,.ev (retB false)),(9,.ev (retB true))]))])
    (d:=14) (ms:=[8,9,10,11,12,13]) (e:=1) (gs:=[0]) (mv:=[])
    O den_eq 186 2 (fun v=>⟨by kernel_rfl,by kernel_rfl,by kernel_rfl,by kernel_rfl⟩) (fun v=>AllP.cons (e2 v) (AllP.cons (e1 v) (AllP.cons (e0 v) AllP.nil)))

theorem sq_qc (w:World) (b2:Bool) (h0:Heap) (B:List Frame) (d:Drawn) (os:OsState) (pos0:Pos) (vz:N2) (pos0z:Pos) (t0z t1z t2z t3z:Nat) (stz:Int) (t4z t5z t6z t7z t8z szz tkz gnz:Nat) (Mz:List (Addr × Obj)) (Gz:List (Nat × GenState)) (sc:String) (k L gO gL rl g:Nat) (rv:List Value) (rn:Nat) (luv lpv gpv gcv lvv:Value) (t0 t1:Nat) (s:Str) (t2 t3 t4:Nat) (st:Int) (t5 t6:Nat) (op:Int) (t7 t8 t9 t10 t11 t12 t13 t14 t15 t16:Nat) (c part:Str) (rw:(Nat→Nat)→List Value) (rwn:Nat) (qa0:List Stmt) (qb0:Env) (qq0:Pos) (qa1:List Stmt) (qb1:Env) (qq1:Pos) (qa2:Expr) (qb2:Value) (qc2 qd2:List Stmt) (qe2:Env) (qq2:Pos) (qa3:List Stmt) (qb3:Env) (qq3:Pos) (qa4:Args) (qq4:Pos) (sz tk gn:Nat) (M:List (Addr × Obj)) (G:List (Nat × GenState)) (O:(view w b2 h0 B [(.func qa0 qb0,qq0),(.func qa1 qb1,qq1),(.forLoop qa2 qb2 qc2 qd2 qe2,qq2),(.func qa3 qb3,qq3),(.builtin "claim.caller" qa4,qq4)] d os).Ok)
    (e0:∀ v:N2,CallN (view w b2 h0 B [(.func qa0 qb0,qq0),(.func qa1 qb1,qq1),(.forLoop qa2 qb2 qc2 qd2 qe2,qq2),(.func qa3 qb3,qq3),(.builtin "claim.caller" qa4,qq4)] d os) ([2,1,8,2,1,1,2,1,7]) (cB "enumerate.__next__" [(.ref (vz 0 3))]) [((vz 0 3),(fO "enumerate" [.none,(.bool false),(.ref (vz 0 4)),(.int (Int.ofNat k) 0),.none,lvv])),((vz 0 4),(fO sc [(.str s t1),(.int (Int.ofNat k) 0)]))] [] (fun v0=>⟨some [(fO "enumerate" [(.int (Int.ofNat (v0 3)) 0),(.bool false),(.ref (vz 0 4)),(.int ((Int.ofNat k)+1) 0),.none,(.str c (v0 4))]),(fO sc [(.str s t1),(.int ((Int.ofNat k)+1) 0)])],[((v0 3),(tO [(.int (Int.ofNat k) (v0 5)),(.str c (v0 4))]))],.ok (.ret (.ref (v0 3)))⟩)) (e1:∀ v:N2,EvP "str.__eq__" [(.str c 0),(.str z17 0)] (retB false)) (e2:∀ v:N2,EvP "str.__eq__" [(.str c 0),(.str z21 0)] (retB true)) (e3:∀ v:N2,EvP "int.__ne__" [(.int st 0),(.int op 0)] (retB true)) (e4:∀ v:N2,CallN (view w b2 h0 B [(.func qa0 qb0,qq0),(.func qa1 qb1,qq1),(.forLoop qa2 qb2 qc2 qd2 qe2,qq2),(.func qa3 qb3,qq3),(.builtin "claim.caller" qa4,qq4)] d os) ([2,1,1,2,1,7]) (cB "str.__getitem__" [(.str s 0),(.ref ((v 0 0)+7))]) [(((v 0 0)+7),(fO "slice" [(.int st t4),(.int op t6),.none]))] [] (fun v2=>oV (.str part (v2 3)))) (e5:∀ v:N2,CallN (view w b2 h0 B [(.func qa0 qb0,qq0),(.func qa1 qb1,qq1),(.forLoop qa2 qb2 qc2 qd2 qe2,qq2),(.func qa3 qb3,qq3),(.builtin "claim.caller" qa4,qq4)] d os) ([2,1,1,2,1,7]) (cB "list.append" [(.ref rl),(.str part 0)]) [(rl,listO (rv.map noTok) rn)] [] (fun v3=>⟨some [listO (rw (v3)) rwn],[],.ok (.ret .none)⟩)) :
    Goes (view w b2 h0 B [(.func qa0 qb0,qq0),(.func qa1 qb1,qq1),(.forLoop qa2 qb2 qc2 qd2 qe2,qq2),(.func qa3 qb3,qq3),(.builtin "claim.caller" qa4,qq4)] d os) (mkD (.forLoop fIe_t29 (.ref (vz 0 3)) fIe_b29 [] (envF fIes fIeq 35 [] gL)) pos0 (sq_in_fs vz w b2 h0 B d os pos0z sc L gO gL rl g t0z t1z s t2z t3z stz t4z t5z t6z t7z t8z qa0 qb0 qq0 qa1 qb1 qq1 qa2 qb2 qc2 qd2 qe2 qq2 qa3 qb3 qq3 qa4 qq4 szz tkz gnz Mz Gz) (((vz 0 3),(fO "enumerate" [.none,(.bool false),(.ref (vz 0 4)),(.int (Int.ofNat k) 0),.none,lvv]))::((vz 0 4),(fO sc [(.str s t1),(.int (Int.ofNat k) 0)]))::(L,nsO [ent w.params z14 t2 (.str s t1),ent w.params z22 t3 (.int st t4),ent w.params z23 t5 (.int op t6),ent w.params z24 t7 (.ref rl),ent w.params z15 t8 lpv,ent w.params z18 t10 luv] 6)::(gO,(fO "generator" [(.int (Int.ofNat g) 0),(.str z20 t11),(.str z20 t12)]))::(gL,nsO [ent w.params z14 t13 (.str s t1),ent w.params z15 t14 gpv,ent w.params z16 t15 (.bool false),ent w.params z18 t16 gcv] 4)::(rl,listO rv rn)::M) sz tk ((g,.running)::G) gn)
      (fun y=>∃ v:N2,y = mkD (.forLoop fIe_t29 (.ref (vz 0 3)) fIe_b29 [] (envF fIes fIeq 35 [] gL)) ⟨36,12,36,27⟩ (sq_in_fs vz w b2 h0 B d os pos0z sc L gO gL rl g t0z t1z s t2z t3z stz t4z t5z t6z t7z t8z qa0 qb0 qq0 qa1 qb1 qq1 qa2 qb2 qc2 qd2 qe2 qq2 qa3 qb3 qq3 qa4 qq4 szz tkz gnz Mz Gz) (((vz 0 3),(fO "enumerate" [.none,(.bool false),(.ref (vz 0 4)),(.int ((Int.ofNat k)+1) 0),.none,(.str c (v 0 4))]))::((vz 0 4),(fO sc [(.str s t1),(.int ((Int.ofNat k)+1) 0)]))::(L,nsO [ent w.params z14 t2 (.str s t1),ent w.params z22 t3 (.int ((Int.ofNat k)+1) ((v 3 1)+1)),ent w.params z23 t5 .none,ent w.params z24 t7 (.ref rl),ent w.params z15 t8 (.int (Int.ofNat k) (v 0 5)),ent w.params z18 t10 (.str c (v 0 4))] 6)::(gO,(fO "generator" [(.int (Int.ofNat g) 0),(.str z20 t11),(.str z20 t12)]))::(gL,nsO [ent w.params z14 t13 (.str s t1),ent w.params z15 t14 (.int (Int.ofNat k) (v 0 5)),ent w.params z16 t15 (.bool false),ent w.params z18 t16 (.str c (v 0 4))] 4)::(rl,listO (rw (v 3)) rwn)::M) (v 3 0) ((v 3 1)+4) ((g,.running)::G) (v 3 2)) :=
  goes_run (it:=[1,2,2,2,1,1,1,1,1,1,1,1,1,2,1,1,1,1,1,1,2,1,1,1,1,1,1,2,1,1,1,9,9,9,9,9,9,9,9,0,9,1,1,1,1,1,1,1,1,1,2,1,1,1,1,1,1,2,1,1,1,1,1,1,2,1,1,1,11,11,11,11,11,11,11,11,11,14,14,14,14,11,11,11,13,13,13,13,13,14,14,14,0,0,0]) (en:=[(0,.call [0,1] [] (fun v0=>⟨some [(fO "enumerate" [(.int (Int.ofNat (v0 3)) 0),(.bool false),(.ref (vz 0 4)),(.int ((Int.ofNat k)+1) 0),.none,(.str c (v0 4))]),(fO sc [(.str s t1),(.int ((Int.ofNat k)+1) 0)])],[((v0 3),(tO [(.int (Int.ofNat k) (v0 5)),(.str c (v0 4))]))],.ok (.ret (.ref (v0 3)))⟩) (fun v0=>[(0,.own (tupE fIe_t29) (tupK fIe_t29) (tupP fIe_t29) (vz 0 3) (v0 3) fIe_b29 [] (envF fIes fIeq 35 [] gL)),(9,.ev (retB false)),(9,.ev (retB true)),(1,.ev (retB true)),(0,.call [0] [] (fun v2=>oV (.str part (v2 3))) (fun v2=>[(0,.call [14] [] (fun v3=>⟨some [listO (rw (v3)) rwn],[],.ok (.ret .none)⟩) (fun v3=>[]))]))]))])
    (d:=15) (ms:=[0,10,11,12,13,14]) (e:=1) (gs:=[0]) (mv:=[0,5,5,5,5,5])
    O den_eq 231 4 (fun v=>⟨by kernel_rfl,by kernel_rfl,by kernel_rfl,by kernel_rfl⟩) (fun v=>AllP.cons (e5 v) (AllP.cons (e4 v) (AllP.cons (e3 v) (AllP.cons (e2 v) (AllP.cons (e1 v) (AllP.cons (e0 v) AllP.nil))))))

theorem sq_qe (w:World) (b2:Bool) (h0:Heap) (B:List Frame) (d:Drawn) (os:OsState) (pos0:Pos) (vz:N2) (pos0z:Pos) (t0z t1z t2z t3z:Nat) (stz:Int) (t4z t5z t6z t7z t8z szz tkz gnz:Nat) (Mz:List (Addr × Obj)) (Gz:List (Nat × GenState)) (sc:String) (k L gO gL rl g:Nat) (rv:List Value) (rn:Nat) (luv lpv gpv gcv lvv:Value) (t0 t1:Nat) (s:Str) (t2 t3 t4:Nat) (st:Int) (t5 t6:Nat) (op:Int) (t7 t8 t9 t10 t11 t12 t13 t14 t15 t16:Nat) (c:Str) (qa0:List Stmt) (qb0:Env) (qq0:Pos) (qa1:List Stmt) (qb1:Env) (qq1:Pos) (qa2:Expr) (qb2:Value) (qc2 qd2:List Stmt) (qe2:Env) (qq2:Pos) (qa3:List Stmt) (qb3:Env) (qq3:Pos) (qa4:Args) (qq4:Pos) (sz tk gn:Nat) (M:List (Addr × Obj)) (G:List (Nat × GenState)) (O:(view w b2 h0 B [(.func qa0 qb0,qq0),(.func qa1 qb1,qq1),(.forLoop qa2 qb2 qc2 qd2 qe2,qq2),(.func qa3 qb3,qq3),(.builtin "claim.caller" qa4,qq4)] d os).Ok)
    (e0:∀ v:N2,CallN (view w b2 h0 B [(.func qa0 qb0,qq0),(.func qa1 qb1,qq1),(.forLoop qa2 qb2 qc2 qd2 qe2,qq2),(.func qa3 qb3,qq3),(.builtin "claim.caller" qa4,qq4)] d os) ([2,1,8,2,1,1,2,1,7]) (cB "enumerate.__next__" [(.ref (vz 0 3))]) [((vz 0 3),(fO "enumerate" [.none,(.bool false),(.ref (vz 0 4)),(.int (Int.ofNat k) 0),.none,lvv])),((vz 0 4),(fO sc [(.str s t1),(.int (Int.ofNat k) 0)]))] [] (fun v0=>⟨some [(fO "enumerate" [(.int (Int.ofNat (v0 3)) 0),(.bool false),(.ref (vz 0 4)),(.int ((Int.ofNat k)+1) 0),.none,(.str c (v0 4))]),(fO sc [(.str s t1),(.int ((Int.ofNat k)+1) 0)])],[((v0 3),(tO [(.int (Int.ofNat k) (v0 5)),(.str c (v0 4))]))],.ok (.ret (.ref (v0 3)))⟩)) (e1:∀ v:N2,EvP "str.__eq__" [(.str c 0),(.str z17 0)] (retB false)) (e2:∀ v:N2,EvP "str.__eq__" [(.str c 0),(.str z21 0)] (retB true)) (e3:∀ v:N2,EvP "int.__ne__" [(.int st 0),(.int op 0)] (retB false)) :
    Goes (view w b2 h0 B [(.func qa0 qb0,qq0),(.func qa1 qb1,qq1),(.forLoop qa2 qb2 qc2 qd2 qe2,qq2),(.func qa3 qb3,qq3),(.builtin "claim.caller" qa4,qq4)] d os) (mkD (.forLoop fIe_t29 (.ref (vz 0 3)) fIe_b29 [] (envF fIes fIeq 35 [] gL)) pos0 (sq_in_fs vz w b2 h0 B d os pos0z sc L gO gL rl g t0z t1z s t2z t3z stz t4z t5z t6z t7z t8z qa0 qb0 qq0 qa1 qb1 qq1 qa2 qb2 qc2 qd2 qe2 qq2 qa3 qb3 qq3 qa4 qq4 szz tkz gnz Mz Gz) (((vz 0 3),(fO "enumerate" [.none,(.bool false),(.ref (vz 0 4)),(.int (Int.ofNat k) 0),.none,lvv]))::((vz 0 4),(fO sc [(.str s t1),(.int (Int.ofNat k) 0)]))::(L,nsO [ent w.params z14 t2 (.str s t1),ent w.params z22 t3 (.int st t4),ent w.params z23 t5 (.int op t6),ent w.params z24 t7 (.ref rl),ent w.params z15 t8 lpv,ent w.params z18 t10 luv] 6)::(gO,(fO "generator" [(.int (Int.ofNat g) 0),(.str z20 t11),(.str z20 t12)]))::(gL,nsO [ent w.params z14 t13 (.str s t1),ent w.params z15 t14 gpv,ent w.params z16 t15 (.bool false),ent w.params z18 t16 gcv] 4)::(rl,listO rv rn)::M) sz tk ((g,.running)::G) gn)
      (fun y=>∃ v:N2,y = mkD (.forLoop fIe_t29 (.ref (vz 0 3)) fIe_b29 [] (envF fIes fIeq 35 [] gL)) ⟨36,12,36,27⟩ (sq_in_fs vz w b2 h0 B d os pos0z sc L gO gL rl g t0z t1z s t2z t3z stz t4z t5z t6z t7z t8z qa0 qb0 qq0 qa1 qb1 qq1 qa2 qb2 qc2 qd2 qe2 qq2 qa3 qb3 qq3 qa4 qq4 szz tkz gnz Mz Gz) (((vz 0 3),(fO "enumerate" [.none,(.bool false),(.ref (vz 0 4)),(.int ((Int.ofNat k)+1) 0),.none,(.str c (v 0 4))]))::((vz 0 4),(fO sc [(.str s t1),(.int ((Int.ofNat k)+1) 0)]))::(L,nsO [ent w.params z14 t2 (.str s t1),ent w.params z22 t3 (.int ((Int.ofNat k)+1) ((v 0 1)+7)),ent w.params z23 t5 .none,ent w.params z24 t7 (.ref rl),ent w.params z15 t8 (.int (Int.ofNat k) (v 0 5)),ent w.params z18 t10 (.str c (v 0 4))] 6)::(gO,(fO "generator" [(.int (Int.ofNat g) 0),(.str z20 t11),(.str z20 t12)]))::(gL,nsO [ent w.params z14 t13 (.str s t1),ent w.params z15 t14 (.int (Int.ofNat k) (v 0 5)),ent w.params z16 t15 (.bool false),ent w.params z18 t16 (.str c (v 0 4))] 4)::(rl,listO rv rn)::M) ((v 0 0)+7) ((v 0 1)+10) ((g,.running)::G) (v 0 2)) :=
  goes_run (it:=[1,2,2,2,1,1,1,1,1,1,1,1,1,2,1,1,1,1,1,1,2,1,1,1,1,1,1,2,1,1,1,9,9,9,9,9,9,9,9,0,9,1,1,1,1,1,1,1,1,1,2,1,1,1,1,1,1,2,1,1,1,1,1,1,2,1,1,1,11,11,11,11,11,11,11,11,11,11,11,11,11,12,12,12,0,0,0]) (en:=[(0,.call [0,1] [] (fun v0=>⟨some [(fO "enumerate" [(.int (Int.ofNat (v0 3)) 0),(.bool false),(.ref (vz 0 4)),(.int ((Int.ofNat k)+1) 0),.none,(.str c (v0 4))]),(fO sc [(.str s t1),(.int ((Int.ofNat k)+1) 0)])],[((v0 3),(tO [(.int (Int.ofNat k) (v0 5)),(.str c (v0 4))]))],.ok (.ret (.ref (v0 3)))⟩) (fun v0=>[(0,.own (tupE fIe_t29) (tupK fIe_t29) (tupP fIe_t29) (vz 0 3) (v0 3) fIe_b29 [] (envF fIes fIeq 35 [] gL)),(9,.ev (retB false)),(9,.ev (retB true)),(1,.ev (retB false))]))])
    (d:=14) (ms:=[8,9,10,11,12,13]) (e:=1) (gs:=[0]) (mv:=[])
    O den_eq 210 2 (fun v=>⟨by kernel_rfl,by kernel_rfl,by kernel_rfl,by kernel_rfl⟩) (fun v=>AllP.cons (e3 v) (AllP.cons (e2 v) (AllP.cons (e1 v) (AllP.cons (e0 v) AllP.nil))))

theorem sq_end (w:World) (b2:Bool) (h0:Heap) (B:List Frame) (d:Drawn) (os:OsState) (pos0:Pos) (vz:N2) (pos0z:Pos) (t0z t1z t2z t3z:Nat) (stz:Int) (t4z t5z t6z t7z t8z szz tkz gnz:Nat) (Mz:List (Addr × Obj)) (Gz:List (Nat × GenState)) (sc:String) (k L gO gL rl g:Nat) (rv:List Value) (rn:Nat) (luv lpv gpv gcv lvv opv:Value) (t0 t1:Nat) (s:Str) (t2 t3 t4:Nat) (st:Int) (t5 t6 t7 t8 t9 t10 t11 t12 t13 t14 t15 t16:Nat) (qa0:List Stmt) (qb0:Env) (qq0:Pos) (qa1:List Stmt) (qb1:Env) (qq1:Pos) (qa2:Expr) (qb2:Value) (qc2 qd2:List Stmt) (qe2:Env) (qq2:Pos) (qa3:List Stmt) (qb3:Env) (qq3:Pos) (qa4:Args) (qq4:Pos) (sz tk gn:Nat) (M:List (Addr × Obj)) (G:List (Nat × GenState)) (O:(view w b2 h0 B [(.func qa0 qb0,qq0),(.func qa1 qb1,qq1),(.forLoop qa2 qb2 qc2 qd2 qe2,qq2),(.func qa3 qb3,qq3),(.builtin "claim.caller" qa4,qq4)] d os).Ok)
    (e0:∀ v:N2,CallN (view w b2 h0 B [(.func qa0 qb0,qq0),(.func qa1 qb1,qq1),(.forLoop qa2 qb2 qc2 qd2 qe2,qq2),(.func qa3 qb3,qq3),(.builtin "claim.caller" qa4,qq4)] d os) ([2,1,8,2,1,1,2,1,7]) (cB "enumerate.__next__" [(.ref (vz 0 3))]) [((vz 0 3),(fO "enumerate" [.none,(.bool false),(.ref (vz 0 4)),(.int (Int.ofNat k) 0),.none,lvv])),((vz 0 4),(fO sc [(.str s t1),(.int (Int.ofNat k) 0)]))] [] (fun v0=>⟨some [(fO "enumerate" [.none,(.bool false),(.ref (vz 0 4)),(.int (Int.ofNat k) 0),.none,lvv]),(fO sc [.none,(.int (Int.ofNat k) 0)])],[((v0 3),(fO "StopIteration" [(.ref (v0 4)),.none,.none,.none,(.bool false),.none])),((v0 4),(tO []))],.error (.ref (v0 3))⟩)) :
    Goes (view w b2 h0 B [(.func qa0 qb0,qq0),(.func qa1 qb1,qq1),(.forLoop qa2 qb2 qc2 qd2 qe2,qq2),(.func qa3 qb3,qq3),(.builtin "claim.caller" qa4,qq4)] d os) (mkD (.forLoop fIe_t29 (.ref (vz 0 3)) fIe_b29 [] (envF fIes fIeq 35 [] gL)) pos0 (sq_in_fs vz w b2 h0 B d os pos0z sc L gO gL rl g t0z t1z s t2z t3z stz t4z t5z t6z t7z t8z qa0 qb0 qq0 qa1 qb1 qq1 qa2 qb2 qc2 qd2 qe2 qq2 qa3 qb3 qq3 qa4 qq4 szz tkz gnz Mz Gz) (((vz 0 3),(fO "enumerate" [.none,(.bool false),(.ref (vz 0 4)),(.int (Int.ofNat k) 0),.none,lvv]))::((vz 0 4),(fO sc [(.str s t1),(.int (Int.ofNat k) 0)]))::(L,nsO [ent w.params z14 t2 (.str s t1),ent w.params z22 t3 (.int st t4),ent w.params z23 t5 opv,ent w.params z24 t6 (.ref rl),ent w.params z15 t7 lpv,ent w.params z18 t9 luv] 6)::(gO,(fO "generator" [(.int (Int.ofNat g) 0),(.str z20 t10),(.str z20 t11)]))::(gL,nsO [ent w.params z14 t12 (.str s t1),ent w.params z15 t13 gpv,ent w.params z16 t14 (.bool false),ent w.params z18 t15 gcv] 4)::(rl,listO rv rn)::M) sz tk ((g,.running)::G) gn)
      (fun y=>∃ v:N2,y = mk (.pure (.done .next)) (.block [] (envF fSqs fSqq 42 [] L)) ⟨45,8,45,15⟩ [] ((L,nsO [ent w.params z14 t2 (.str s t1),ent w.params z22 t3 (.int st t4),ent w.params z23 t5 opv,ent w.params z24 t6 (.ref rl),ent w.params z15 t7 lpv,ent w.params z18 t9 luv] 6)::(rl,listO rv rn)::M) ((v 0 0)+2) (v 0 1) (G) (v 0 2)) :=
  goes_run (it:=[1,1,7,0,1]) (en:=[(0,.call [0,1] [] (fun v0=>⟨some [(fO "enumerate" [.none,(.bool false),(.ref (vz 0 4)),(.int (Int.ofNat k) 0),.none,lvv]),(fO sc [.none,(.int (Int.ofNat k) 0)])],[((v0 3),(fO "StopIteration" [(.ref (v0 4)),.none,.none,.none,(.bool false),.none])),((v0 4),(tO []))],.error (.ref (v0 3))⟩) (fun v0=>[]))])
    (d:=10) (ms:=[6,9]) (e:=1) (gs:=[]) (mv:=[])
    O den_eq 17 1 (fun v=>⟨by kernel_rfl,by kernel_rfl,by kernel_rfl,by kernel_rfl⟩) (fun v=>AllP.cons (e0 v) AllP.nil)

end Mine
end
section
open PySem PySem.W PySem.W.X PyProof.Rows
namespace Mine
theorem sq_call0 (w:World) (b2:Bool) (h0:Heap) (B:List Frame) (d:Drawn) (os:OsState) (pos0:Pos) (t0:Nat) (s:Str) (qa0:List Stmt) (qb0:Env) (qq0:Pos) (qa1:Expr) (qb1:Value) (qc1 qd1:List Stmt) (qe1:Env) (qq1:Pos) (qa2:List Stmt) (qb2:Env) (qq2:Pos) (qa3:Args) (qq3:Pos) (sz tk gn:Nat) (M:List (Addr × Obj)) (G:List (Nat × GenState)) (O:(view w b2 h0 B [(.func qa0 qb0,qq0),(.forLoop qa1 qb1 qc1 qd1 qe1,qq1),(.func qa2 qb2,qq2),(.builtin "claim.caller" qa3,qq3)] d os).Ok)
    (e0:∀ v:N2,EvP "str.__contains__" [(.str s 0),(.str z21 0)] (retB false)) :
    Goes (view w b2 h0 B [(.func qa0 qb0,qq0),(.forLoop qa1 qb1 qc1 qd1 qe1,qq1),(.func qa2 qb2,qq2),(.builtin "claim.caller" qa3,qq3)] d os) (mkD (cR 42 [(.str s t0)]) pos0 [] (M) sz tk (G) gn)
      (fun y=>∃ v:N2,y = mk (.pure (.done (.ret (.str s t0)))) (.func fSq_ (envF fSqs fSqq 42 [] sz)) ⟨41,15,41,19⟩ [] (M) (sz+1) (tk+2) (G) gn) :=
  goes_run (it:=[0,0,1,1,0,1,1]) (en:=[(2,.ev (retB false))])
    (d:=1) (ms:=[]) (e:=0) (gs:=[]) (mv:=[])
    O den_eq 22 0 (fun v=>⟨by kernel_rfl,by kernel_rfl,by kernel_rfl,by kernel_rfl⟩) (fun v=>AllP.cons (e0 v) AllP.nil)

theorem sq_call1 (w:World) (b2:Bool) (h0:Heap) (B:List Frame) (d:Drawn) (os:OsState) (pos0:Pos) (t0:Nat) (s:Str) (rv:(Nat→Nat)→List Value) (rn:Nat) (lpv luv:(Nat→Nat)→Value) (st:Int) (part:Str) (rw:(Nat→Nat)→List Value) (rwn:Nat) (res:Str) (qa0:List Stmt) (qb0:Env) (qq0:Pos) (qa1:Expr) (qb1:Value) (qc1 qd1:List Stmt) (qe1:Env) (qq1:Pos) (qa2:List Stmt) (qb2:Env) (qq2:Pos) (qa3:Args) (qq3:Pos) (sz tk gn:Nat) (M:List (Addr × Obj)) (G:List (Nat × GenState)) (O:(view w b2 h0 B [(.func qa0 qb0,qq0),(.forLoop qa1 qb1 qc1 qd1 qe1,qq1),(.func qa2 qb2,qq2),(.builtin "claim.caller" qa3,qq3)] d os).Ok)
    (e0:∀ v:N2,EvP "str.__contains__" [(.str s 0),(.str z21 0)] (retB true)) (e1:∀ v:N2,CallN (view w b2 h0 B [(.func qa0 qb0,qq0),(.forLoop qa1 qb1 qc1 qd1 qe1,qq1),(.func qa2 qb2,qq2),(.builtin "claim.caller" qa3,qq3)] d os) ([1,1,2,1,7]) (.forLoop fSq_t45 (.ref (sz+3)) fSq_b45 [] (envF fSqs fSqq 42 [] sz)) [((sz+3),(fO "generator" [(.int (Int.ofNat gn) 0),(.str z20 (tk+7)),(.str z20 (tk+8))])),((sz+2),nsO [ent w.params z14 (tk+6) (.str s t0)] 1),((sz+1),listO [] 0),(sz,nsO [ent w.params z14 tk (.str s t0),ent w.params z22 (tk+3) (.int 0 (tk+2)),ent w.params z23 (tk+4) .none,ent w.params z24 (tk+5) (.ref (sz+1))] 4)] [(gn,(.fresh (.func fIe_ (envF fIes fIeq 35 [] (sz+2)))))] (fun v0=>⟨some [],[((sz+1),listO (rv (v0)) rn),(sz,nsO [ent w.params z14 tk (.str s t0),ent w.params z22 (tk+3) (.int st (v0 3)),ent w.params z23 (tk+4) .none,ent w.params z24 (tk+5) (.ref (sz+1)),ent w.params z15 (v0 4) (lpv (v0)),ent w.params z18 (v0 5) (luv (v0))] 6)],.ok .next⟩)) (e2:∀ v:N2,CallN (view w b2 h0 B [(.func qa0 qb0,qq0),(.forLoop qa1 qb1 qc1 qd1 qe1,qq1),(.func qa2 qb2,qq2),(.builtin "claim.caller" qa3,qq3)] d os) ([1,1,2,1,7]) (cB "len" [(.str s 0)]) [] [] (fun v1=>oV (.int (sLen s) (v1 3)))) (e3:∀ v:N2,EvP "int.__lt__" [(.int st 0),(.int (sLen s) 0)] (retB true)) (e4:∀ v:N2,CallN (view w b2 h0 B [(.func qa0 qb0,qq0),(.forLoop qa1 qb1 qc1 qd1 qe1,qq1),(.func qa2 qb2,qq2),(.builtin "claim.caller" qa3,qq3)] d os) ([1,1,2,1,7]) (cB "str.__getitem__" [(.str s 0),(.ref (v 1 0))]) [((v 1 0),(fO "slice" [(.int st (v 0 3)),.none,.none]))] [] (fun v2=>oV (.str part (v2 3)))) (e5:∀ v:N2,CallN (view w b2 h0 B [(.func qa0 qb0,qq0),(.forLoop qa1 qb1 qc1 qd1 qe1,qq1),(.func qa2 qb2,qq2),(.builtin "claim.caller" qa3,qq3)] d os) ([1,1,2,1,7]) (cB "list.append" [(.ref (sz+1)),(.str part 0)]) [((sz+1),listO ((rv (v 0)).map noTok) rn)] [] (fun v3=>⟨some [listO (rw (v3)) rwn],[],.ok (.ret .none)⟩)) (e6:∀ v:N2,CallN (view w b2 h0 B [(.func qa0 qb0,qq0),(.forLoop qa1 qb1 qc1 qd1 qe1,qq1),(.func qa2 qb2,qq2),(.builtin "claim.caller" qa3,qq3)] d os) ([1,1,2,1,7]) (cB "str.join" [(.str z26 0),(.ref (sz+1))]) [((sz+1),listO ((rw (v 3)).map noTok) rwn)] [] (fun v4=>oV (.str res (v4 3)))) :
    Goes (view w b2 h0 B [(.func qa0 qb0,qq0),(.forLoop qa1 qb1 qc1 qd1 qe1,qq1),(.func qa2 qb2,qq2),(.builtin "claim.caller" qa3,qq3)] d os) (mkD (cR 42 [(.str s t0)]) pos0 [] (M) sz tk (G) gn)
      (fun y=>∃ v:N2,y = mk (.pure (.done (.ret (.str res (v 4 3))))) (.func fSq_ (envF fSqs fSqq 42 [] sz)) ⟨56,11,56,26⟩ [] (M) (v 4 0) (v 4 1) (G) (v 4 2)) :=
  goes_run (it:=[0,0,1,1,0,1,1,1,1,1,2,2,0,2,0,0,0,1,1,0,1,1,1,1,2,0,0,2,2,1,1,1,1,2,2,3]) (en:=[(2,.ev (retB true)),(3,.call [0,1,2,3] [0] (fun v0=>⟨some [],[((sz+1),listO (rv (v0)) rn),(sz,nsO [ent w.params z14 tk (.str s t0),ent w.params z22 (tk+3) (.int st (v0 3)),ent w.params z23 (tk+4) .none,ent w.params z24 (tk+5) (.ref (sz+1)),ent w.params z15 (v0 4) (lpv (v0)),ent w.params z18 (v0 5) (luv (v0))] 6)],.ok .next⟩) (fun v0=>[(0,.call [] [] (fun v1=>oV (.int (sLen s) (v1 3))) (fun v1=>[(1,.ev (retB true)),(0,.call [0] [] (fun v2=>oV (.str part (v2 3))) (fun v2=>[(0,.call [1] [] (fun v3=>⟨some [listO (rw (v3)) rwn],[],.ok (.ret .none)⟩) (fun v3=>[(0,.call [0] [] (fun v4=>oV (.str res (v4 3))) (fun v4=>[]))]))]))]))]))])
    (d:=3) (ms:=[]) (e:=0) (gs:=[]) (mv:=[])
    O den_eq 123 5 (fun v=>⟨by kernel_rfl,by kernel_rfl,by kernel_rfl,by kernel_rfl⟩) (fun v=>AllP.cons (e6 v) (AllP.cons (e5 v) (AllP.cons (e4 v) (AllP.cons (e3 v) (AllP.cons (e2 v) (AllP.cons (e1 v) (AllP.cons (e0 v) AllP.nil)))))))

theorem sq_call2 (w:World) (b2:Bool) (h0:Heap) (B:List Frame) (d:Drawn) (os:OsState) (pos0:Pos) (t0:Nat) (s:Str) (rv:(Nat→Nat)→List Value) (rn:Nat) (lpv luv:(Nat→Nat)→Value) (st:Int) (res:Str) (qa0:List Stmt) (qb0:Env) (qq0:Pos) (qa1:Expr) (qb1:Value) (qc1 qd1:List Stmt) (qe1:Env) (qq1:Pos) (qa2:List Stmt) (qb2:Env) (qq2:Pos) (qa3:Args) (qq3:Pos) (sz tk gn:Nat) (M:List (Addr × Obj)) (G:List (Nat × GenState)) (O:(view w b2 h0 B [(.func qa0 qb0,qq0),(.forLoop qa1 qb1 qc1 qd1 qe1,qq1),(.func qa2 qb2,qq2),(.builtin "claim.caller" qa3,qq3)] d os).Ok)
    (e0:∀ v:N2,EvP "str.__contains__" [(.str s 0),(.str z21 0)] (retB true)) (e1:∀ v:N2,CallN (view w b2 h0 B [(.func qa0 qb0,qq0),(.forLoop qa1 qb1 qc1 qd1 qe1,qq1),(.func qa2 qb2,qq2),(.builtin "claim.caller" qa3,qq3)] d os) ([1,1,2,1,7]) (.forLoop fSq_t45 (.ref (sz+3)) fSq_b45 [] (envF fSqs fSqq 42 [] sz)) [((sz+3),(fO "generator" [(.int (Int.ofNat gn) 0),(.str z20 (tk+7)),(.str z20 (tk+8))])),((sz+2),nsO [ent w.params z14 (tk+6) (.str s t0)] 1),((sz+1),listO [] 0),(sz,nsO [ent w.params z14 tk (.str s t0),ent w.params z22 (tk+3) (.int 0 (tk+2)),ent w.params z23 (tk+4) .none,ent w.params z24 (tk+5) (.ref (sz+1))] 4)] [(gn,(.fresh (.func fIe_ (envF fIes fIeq 35 [] (sz+2)))))] (fun v0=>⟨some [],[((sz+1),listO (rv (v0)) rn),(sz,nsO [ent w.params z14 tk (.str s t0),ent w.params z22 (tk+3) (.int st (v0 3)),ent w.params z23 (tk+4) .none,ent w.params z24 (tk+5) (.ref (sz+1)),ent w.params z15 (v0 4) (lpv (v0)),ent w.params z18 (v0 5) (luv (v0))] 6)],.ok .next⟩)) (e2:∀ v:N2,CallN (view w b2 h0 B [(.func qa0 qb0,qq0),(.forLoop qa1 qb1 qc1 qd1 qe1,qq1),(.func qa2 qb2,qq2),(.builtin "claim.caller" qa3,qq3)] d os) ([1,1,2,1,7]) (cB "len" [(.str s 0)]) [] [] (fun v1=>oV (.int (sLen s) (v1 3)))) (e3:∀ v:N2,EvP "int.__lt__" [(.int st 0),(.int (sLen s) 0)] (retB false)) (e4:∀ v:N2,CallN (view w b2 h0 B [(.func qa0 qb0,qq0),(.forLoop qa1 qb1 qc1 qd1 qe1,qq1),(.func qa2 qb2,qq2),(.builtin "claim.caller" qa3,qq3)] d os) ([1,1,2,1,7]) (cB "str.join" [(.str z26 0),(.ref (sz+1))]) [((sz+1),listO ((rv (v 0)).map noTok) rn)] [] (fun v2=>oV (.str res (v2 3)))) :
    Goes (view w b2 h0 B [(.func qa0 qb0,qq0),(.forLoop qa1 qb1 qc1 qd1 qe1,qq1),(.func qa2 qb2,qq2),(.builtin "claim.caller" qa3,qq3)] d os) (mkD (cR 42 [(.str s t0)]) pos0 [] (M) sz tk (G) gn)
      (fun y=>∃ v:N2,y = mk (.pure (.done (.ret (.str res (v 2 3))))) (.func fSq_ (envF fSqs fSqq 42 [] sz)) ⟨56,11,56,26⟩ [] (M) (v 2 0) (v 2 1) (G) (v 2 2)) :=
  goes_run (it:=[0,0,1,1,0,1,1,1,1,1,2,2,0,2,0,0,0,1,1,0,1,1,1,1,2,0,0,2,2]) (en:=[(2,.ev (retB true)),(3,.call [0,1,2,3] [0] (fun v0=>⟨some [],[((sz+1),listO (rv (v0)) rn),(sz,nsO [ent w.params z14 tk (.str s t0),ent w.params z22 (tk+3) (.int st (v0 3)),ent w.params z23 (tk+4) .none,ent w.params z24 (tk+5) (.ref (sz+1)),ent w.params z15 (v0 4) (lpv (v0)),ent w.params z18 (v0 5) (luv (v0))] 6)],.ok .next⟩) (fun v0=>[(0,.call [] [] (fun v1=>oV (.int (sLen s) (v1 3))) (fun v1=>[(1,.ev (retB false)),(0,.call [0] [] (fun v2=>oV (.str res (v2 3))) (fun v2=>[]))]))]))])
    (d:=2) (ms:=[]) (e:=0) (gs:=[]) (mv:=[])
    O den_eq 104 3 (fun v=>⟨by kernel_rfl,by kernel_rfl,by kernel_rfl,by kernel_rfl⟩) (fun v=>AllP.cons (e4 v) (AllP.cons (e3 v) (AllP.cons (e2 v) (AllP.cons (e1 v) (AllP.cons (e0 v) AllP.nil)))))

theorem lg_call (w:World) (b2:Bool) (h0:Heap) (B:List Frame) (d:Drawn) (os:OsState) (pos0:Pos) (t0:Nat) (s s1:Str) (lpv luv:(Nat→Nat)→Value) (g0 g1:Int) (qa0:Expr) (qb0:Value) (qc0 qd0:List Stmt) (qe0:Env) (qq0:Pos) (qa1:List Stmt) (qb1:Env) (qq1:Pos) (qa2:Args) (qq2:Pos) (sz tk gn:Nat) (M:List (Addr × Obj)) (G:List (Nat × GenState)) (O:(view w b2 h0 B [(.forLoop qa0 qb0 qc0 qd0 qe0,qq0),(.func qa1 qb1,qq1),(.builtin "claim.caller" qa2,qq2)] d os).Ok)
    (e0:∀ v:N2,CallN (view w b2 h0 B [(.forLoop qa0 qb0 qc0 qd0 qe0,qq0),(.func qa1 qb1,qq1),(.builtin "claim.caller" qa2,qq2)] d os) ([1,2,1,7]) (cR 42 [(.str s 0)]) [] [] (fun v0=>oV (.str s1 (v0 3)))) (e1:∀ v:N2,CallN (view w b2 h0 B [(.forLoop qa0 qb0 qc0 qd0 qe0,qq0),(.func qa1 qb1,qq1),(.builtin "claim.caller" qa2,qq2)] d os) ([1,2,1,7]) (.forLoop fLg_t70 (.ref ((v 0 0)+1)) fLg_b70 [] (envF fLgs fLgq 113 [] sz)) [(((v 0 0)+1),(fO "generator" [(.int (Int.ofNat (v 0 2)) 0),(.str z20 ((v 0 1)+1)),(.str z20 ((v 0 1)+2))])),((v 0 0),nsO [ent w.params z14 (v 0 1) (.str s1 (v 0 3))] 1),((sz+1),listO [(.int 0 0),(.int 0 0)] 0),(sz,nsO [ent w.params z38 tk (.str s t0),ent w.params z39 (tk+3) (.ref (sz+1))] 2)] [((v 0 2),(.fresh (.func fIe_ (envF fIes fIeq 35 [] (v 0 0)))))] (fun v1=>⟨some [],[((sz+1),listO [(.int g0 (v1 3)),(.int g1 (v1 4))] 0),(sz,nsO [ent w.params z38 tk (.str s t0),ent w.params z39 (tk+3) (.ref (sz+1)),ent w.params z41 (v1 5) (lpv (v1)),ent w.params z40 (v1 6) (luv (v1))] 4)],.ok .next⟩)) :
    Goes (view w b2 h0 B [(.forLoop qa0 qb0 qc0 qd0 qe0,qq0),(.func qa1 qb1,qq1),(.builtin "claim.caller" qa2,qq2)] d os) (mkD (cR 113 [(.str s t0)]) pos0 [] (M) sz tk (G) gn)
      (fun y=>∃ v:N2,y = mk (.pure (.done (.ret (.ref (sz+1))))) (.func fLg_ (envF fLgs fLgq 113 [] sz)) ⟨73,11,73,17⟩ [] (((sz+1),listO [(.int g0 (v 1 3)),(.int g1 (v 1 4))] 0)::M) (v 1 0) (v 1 1) (G) (v 1 2)) :=
  goes_run (it:=[0,0,1,1,0,2,2,0,0,2,0,0,0,0,1,1,0,1,1,1,1,2]) (en:=[(1,.call [] [] (fun v0=>oV (.str s1 (v0 3))) (fun v0=>[(3,.call [0,1,2,3] [0] (fun v1=>⟨some [],[((sz+1),listO [(.int g0 (v1 3)),(.int g1 (v1 4))] 0),(sz,nsO [ent w.params z38 tk (.str s t0),ent w.params z39 (tk+3) (.ref (sz+1)),ent w.params z41 (v1 5) (lpv (v1)),ent w.params z40 (v1 6) (luv (v1))] 4)],.ok .next⟩) (fun v1=>[]))]))])
    (d:=2) (ms:=[0]) (e:=0) (gs:=[]) (mv:=[])
    O den_eq 65 2 (fun v=>⟨by kernel_rfl,by kernel_rfl,by kernel_rfl,by kernel_rfl⟩) (fun v=>AllP.cons (e1 v) (AllP.cons (e0 v) AllP.nil))

theorem lg_call0 (w:World) (b2:Bool) (h0:Heap) (B:List Frame) (d:Drawn) (os:OsState) (pos0:Pos) (t0:Nat) (s s1:Str) (qa0:Expr) (qb0:Value) (qc0 qd0:List Stmt) (qe0:Env) (qq0:Pos) (qa1:List Stmt) (qb1:Env) (qq1:Pos) (qa2:Args) (qq2:Pos) (sz tk gn:Nat) (M:List (Addr × Obj)) (G:List (Nat × GenState)) (O:(view w b2 h0 B [(.forLoop qa0 qb0 qc0 qd0 qe0,qq0),(.func qa1 qb1,qq1),(.builtin "claim.caller" qa2,qq2)] d os).Ok)
    (e0:∀ v:N2,CallN (view w b2 h0 B [(.forLoop qa0 qb0 qc0 qd0 qe0,qq0),(.func qa1 qb1,qq1),(.builtin "claim.caller" qa2,qq2)] d os) ([1,2,1,7]) (cR 42 [(.str s 0)]) [] [] (fun v0=>oV (.str s1 (v0 3)))) (e1:∀ v:N2,CallN (view w b2 h0 B [(.forLoop qa0 qb0 qc0 qd0 qe0,qq0),(.func qa1 qb1,qq1),(.builtin "claim.caller" qa2,qq2)] d os) ([1,2,1,7]) (.forLoop fLg_t70 (.ref ((v 0 0)+1)) fLg_b70 [] (envF fLgs fLgq 113 [] sz)) [(((v 0 0)+1),(fO "generator" [(.int (Int.ofNat (v 0 2)) 0),(.str z20 ((v 0 1)+1)),(.str z20 ((v 0 1)+2))])),((v 0 0),nsO [ent w.params z14 (v 0 1) (.str s1 (v 0 3))] 1),((sz+1),listO [(.int 0 0),(.int 0 0)] 0),(sz,nsO [ent w.params z38 tk (.str s t0),ent w.params z39 (tk+3) (.ref (sz+1))] 2)] [((v 0 2),(.fresh (.func fIe_ (envF fIes fIeq 35 [] (v 0 0)))))] (fun v1=>⟨some [],[((sz+1),listO [(.int 0 (v1 3)),(.int 0 (v1 4))] 0),(sz,nsO [ent w.params z38 tk (.str s t0),ent w.params z39 (tk+3) (.ref (sz+1))] 2)],.ok .next⟩)) :
    Goes (view w b2 h0 B [(.forLoop qa0 qb0 qc0 qd0 qe0,qq0),(.func qa1 qb1,qq1),(.builtin "claim.caller" qa2,qq2)] d os) (mkD (cR 113 [(.str s t0)]) pos0 [] (M) sz tk (G) gn)
      (fun y=>∃ v:N2,y = mk (.pure (.done (.ret (.ref (sz+1))))) (.func fLg_ (envF fLgs fLgq 113 [] sz)) ⟨73,11,73,17⟩ [] (((sz+1),listO [(.int 0 (v 1 3)),(.int 0 (v 1 4))] 0)::M) (v 1 0) (v 1 1) (G) (v 1 2)) :=
  goes_run (it:=[0,0,1,1,0,2,2,0,0,2,0,0,0,0,1,1,0,1,1,1,1,2]) (en:=[(1,.call [] [] (fun v0=>oV (.str s1 (v0 3))) (fun v0=>[(3,.call [0,1,2,3] [0] (fun v1=>⟨some [],[((sz+1),listO [(.int 0 (v1 3)),(.int 0 (v1 4))] 0),(sz,nsO [ent w.params z38 tk (.str s t0),ent w.params z39 (tk+3) (.ref (sz+1))] 2)],.ok .next⟩) (fun v1=>[]))]))])
    (d:=2) (ms:=[0]) (e:=0) (gs:=[]) (mv:=[])
    O den_eq 65 2 (fun v=>⟨by kernel_rfl,by kernel_rfl,by kernel_rfl,by kernel_rfl⟩) (fun v=>AllP.cons (e1 v) (AllP.cons (e0 v) AllP.nil))

end Mine
end
section
open PySem PySem.W PySem.W.X PyProof.Rows
namespace Mine
theorem en_new_str_iteratorS (w:World) (b2:Bool) (h0:Heap) (B:List Frame) (d:Drawn) (os:OsState) (pos0:Pos) (t0:Nat) (s:Str) (qa0:List Stmt) (qb0:Env) (qq0:Pos) (qa1:Args) (qq1:Pos) (qa2:Expr) (qb2:Value) (qc2 qd2:List Stmt) (qe2:Env) (qq2:Pos) (qa3:List Stmt) (qb3:Env) (qq3:Pos) (qa4:List Stmt) (qb4:Env) (qq4:Pos) (qa5:Expr) (qb5:Value) (qc5 qd5:List Stmt) (qe5:Env) (qq5:Pos) (qa6:List Stmt) (qb6:Env) (qq6:Pos) (qa7:Args) (qq7:Pos) (sz tk gn:Nat) (M:List (Addr × Obj)) (G:List (Nat × GenState)) (O:(view w b2 h0 B [(.func qa0 qb0,qq0),(.builtin "generator.__next__" qa1,qq1),(.forLoop qa2 qb2 qc2 qd2 qe2,qq2),(.func qa3 qb3,qq3),(.func qa4 qb4,qq4),(.forLoop qa5 qb5 qc5 qd5 qe5,qq5),(.func qa6 qb6,qq6),(.builtin "claim.caller" qa7,qq7)] d os).Ok)
    (e0:∀ v:N2,CallN (view w b2 h0 B [(.func qa0 qb0,qq0),(.builtin "generator.__next__" qa1,qq1),(.forLoop qa2 qb2 qc2 qd2 qe2,qq2),(.func qa3 qb3,qq3),(.func qa4 qb4,qq4),(.forLoop qa5 qb5 qc5 qd5 qe5,qq5),(.func qa6 qb6,qq6),(.builtin "claim.caller" qa7,qq7)] d os) ([0,0,1,8,2,1,1,2,1,7]) (cB "str.__iter__" [(.str s t0)]) [] [] (fun v0=>⟨none,[((v0 3),(fO "str_iterator" [(.str s t0),(.int 0 0)]))],.ok (.ret (.ref (v0 3)))⟩)) :
    Goes (view w b2 h0 B [(.func qa0 qb0,qq0),(.builtin "generator.__next__" qa1,qq1),(.forLoop qa2 qb2 qc2 qd2 qe2,qq2),(.func qa3 qb3,qq3),(.func qa4 qb4,qq4),(.forLoop qa5 qb5 qc5 qd5 qe5,qq5),(.func qa6 qb6,qq6),(.builtin "claim.caller" qa7,qq7)] d os) (mkD (.call (.type "enumerate") ⟨[(.str s t0)],[]⟩) pos0 [] (M) sz tk (G) gn)
      (fun y=>∃ v:N2,y = mk (.pure (.done (.ret (.ref (v 0 0))))) (.builtin "type.__call__" ⟨[(.type "enumerate"),(.str s t0)],[]⟩) pos0 [] (((v 0 0),(fO "enumerate" [.none,(.bool false),(.ref (v 0 3)),(.int 0 0),.none,.none]))::((v 0 3),(fO "str_iterator" [(.str s t0),(.int 0 0)]))::M) ((v 0 0)+1) (v 0 1) (G) (v 0 2)) :=
  goes_run (it:=[1,1,1,1,1]) (en:=[(3,.call [] [] (fun v0=>⟨none,[((v0 3),(fO "str_iterator" [(.str s t0),(.int 0 0)]))],.ok (.ret (.ref (v0 3)))⟩) (fun v0=>[]))])
    (d:=2) (ms:=[0,1]) (e:=0) (gs:=[]) (mv:=[])
    O den_eq 16 1 (fun v=>⟨by kernel_rfl,by kernel_rfl,by kernel_rfl,by kernel_rfl⟩) (fun v=>AllP.cons (e0 v) AllP.nil)

theorem en_new_str_iteratorL (w:World) (b2:Bool) (h0:Heap) (B:List Frame) (d:Drawn) (os:OsState) (pos0:Pos) (t0:Nat) (s:Str) (qa0:List Stmt) (qb0:Env) (qq0:Pos) (qa1:Args) (qq1:Pos) (qa2:Expr) (qb2:Value) (qc2 qd2:List Stmt) (qe2:Env) (qq2:Pos) (qa3:List Stmt) (qb3:Env) (qq3:Pos) (qa4:Expr) (qb4:Value) (qc4 qd4:List Stmt) (qe4:Env) (qq4:Pos) (qa5:List Stmt) (qb5:Env) (qq5:Pos) (qa6:Args) (qq6:Pos) (sz tk gn:Nat) (M:List (Addr × Obj)) (G:List (Nat × GenState)) (O:(view w b2 h0 B [(.func qa0 qb0,qq0),(.builtin "generator.__next__" qa1,qq1),(.forLoop qa2 qb2 qc2 qd2 qe2,qq2),(.func qa3 qb3,qq3),(.forLoop qa4 qb4 qc4 qd4 qe4,qq4),(.func qa5 qb5,qq5),(.builtin "claim.caller" qa6,qq6)] d os).Ok)
    (e0:∀ v:N2,CallN (view w b2 h0 B [(.func qa0 qb0,qq0),(.builtin "generator.__next__" qa1,qq1),(.forLoop qa2 qb2 qc2 qd2 qe2,qq2),(.func qa3 qb3,qq3),(.forLoop qa4 qb4 qc4 qd4 qe4,qq4),(.func qa5 qb5,qq5),(.builtin "claim.caller" qa6,qq6)] d os) ([0,0,1,8,2,1,2,1,7]) (cB "str.__iter__" [(.str s t0)]) [] [] (fun v0=>⟨none,[((v0 3),(fO "str_iterator" [(.str s t0),(.int 0 0)]))],.ok (.ret (.ref (v0 3)))⟩)) :
    Goes (view w b2 h0 B [(.func qa0 qb0,qq0),(.builtin "generator.__next__" qa1,qq1),(.forLoop qa2 qb2 qc2 qd2 qe2,qq2),(.func qa3 qb3,qq3),(.forLoop qa4 qb4 qc4 qd4 qe4,qq4),(.func qa5 qb5,qq5),(.builtin "claim.caller" qa6,qq6)] d os) (mkD (.call (.type "enumerate") ⟨[(.str s t0)],[]⟩) pos0 [] (M) sz tk (G) gn)
      (fun y=>∃ v:N2,y = mk (.pure (.done (.ret (.ref (v 0 0))))) (.builtin "type.__call__" ⟨[(.type "enumerate"),(.str s t0)],[]⟩) pos0 [] (((v 0 0),(fO "enumerate" [.none,(.bool false),(.ref (v 0 3)),(.int 0 0),.none,.none]))::((v 0 3),(fO "str_iterator" [(.str s t0),(.int 0 0)]))::M) ((v 0 0)+1) (v 0 1) (G) (v 0 2)) :=
  goes_run (it:=[1,1,1,1,1]) (en:=[(3,.call [] [] (fun v0=>⟨none,[((v0 3),(fO "str_iterator" [(.str s t0),(.int 0 0)]))],.ok (.ret (.ref (v0 3)))⟩) (fun v0=>[]))])
    (d:=2) (ms:=[0,1]) (e:=0) (gs:=[]) (mv:=[])
    O den_eq 16 1 (fun v=>⟨by kernel_rfl,by kernel_rfl,by kernel_rfl,by kernel_rfl⟩) (fun v=>AllP.cons (e0 v) AllP.nil)

theorem en_next_str_iterator (w:World) (b2:Bool) (h0:Heap) (B:List Frame) (d:Drawn) (os:OsState) (pos0:Pos) (k:Nat) (lv:Value) (e it t0:Nat) (s c:Str) (bw:List (Code × Pos)) (sz tk gn:Nat) (M:List (Addr × Obj)) (G:List (Nat × GenState)) (O:(view w b2 h0 B bw d os).Ok)
    (e0:∀ v:N2,CallN (view w b2 h0 B bw d os) ([0] ++ bw.map (fun x=>shp x.1)) (cB "str_iterator.__next__" [(.ref it)]) [(it,(fO "str_iterator" [(.str s t0),(.int (Int.ofNat k) 0)]))] [] (fun v0=>⟨some [(fO "str_iterator" [(.str s t0),(.int ((Int.ofNat k)+1) 0)])],[],.ok (.ret (.str c (v0 3)))⟩)) :
    Goes (view w b2 h0 B bw d os) (mkD (cB "enumerate.__next__" [(.ref e)]) pos0 [] ((e,(fO "enumerate" [.none,(.bool false),(.ref it),(.int (Int.ofNat k) 0),.none,lv]))::(it,(fO "str_iterator" [(.str s t0),(.int (Int.ofNat k) 0)]))::M) sz tk (G) gn)
      (fun y=>∃ v:N2,y = mk (.pure (.done (.ret (.ref (v 0 0))))) (.builtin "enumerate.__next__" ⟨[(.ref e)],[]⟩) pos0 [] (((v 0 0),(tO [(.int (Int.ofNat k) (v 0 1)),(.str c (v 0 3))]))::(e,(fO "enumerate" [(.int (Int.ofNat (v 0 0)) 0),(.bool false),(.ref it),(.int ((Int.ofNat k)+1) 0),.none,(.str c (v 0 3))]))::(it,(fO "str_iterator" [(.str s t0),(.int ((Int.ofNat k)+1) 0)]))::M) ((v 0 0)+1) ((v 0 1)+1) (G) (v 0 2)) :=
  goes_run (it:=[1,1,2,2,2,2,2,2,2,3,3,3,3,3,3,3,3]) (en:=[(1,.call [1] [] (fun v0=>⟨some [(fO "str_iterator" [(.str s t0),(.int ((Int.ofNat k)+1) 0)])],[],.ok (.ret (.str c (v0 3)))⟩) (fun v0=>[]))])
    (d:=3) (ms:=[0,1,2]) (e:=0) (gs:=[]) (mv:=[1,2,2])
    O den_eq 23 1 (fun v=>⟨by kernel_rfl,by kernel_rfl,by kernel_rfl,by kernel_rfl⟩) (fun v=>AllP.cons (e0 v) AllP.nil)

theorem en_end_str_iterator (w:World) (b2:Bool) (h0:Heap) (B:List Frame) (d:Drawn) (os:OsState) (pos0:Pos) (k:Nat) (lv:Value) (e it t0:Nat) (lc:Str) (t1:Nat) (s:Str) (bw:List (Code × Pos)) (sz tk gn:Nat) (M:List (Addr × Obj)) (G:List (Nat × GenState)) (O:(view w b2 h0 B bw d os).Ok)
    (e0:∀ v:N2,CallN (view w b2 h0 B bw d os) ([0] ++ bw.map (fun x=>shp x.1)) (cB "str_iterator.__next__" [(.ref it)]) [(it,(fO "str_iterator" [(.str s t1),(.int (Int.ofNat k) 0)]))] [] (fun v0=>⟨some [(fO "str_iterator" [.none,(.int (Int.ofNat k) 0)])],[((v0 3),(fO "StopIteration" [(.ref (v0 4)),.none,.none,.none,(.bool false),.none])),((v0 4),(tO []))],.error (.ref (v0 3))⟩)) :
    Goes (view w b2 h0 B bw d os) (mkD (cB "enumerate.__next__" [(.ref e)]) pos0 [] ((e,(fO "enumerate" [.none,(.bool false),(.ref it),(.int (Int.ofNat k) 0),.none,lv]))::(it,(fO "str_iterator" [(.str s t1),(.int (Int.ofNat k) 0)]))::M) sz tk (G) gn)
      (fun y=>∃ v:N2,y = mk (.raise (.ref (v 0 3))) (.builtin "enumerate.__next__" ⟨[(.ref e)],[]⟩) pos0 [] (((v 0 3),(fO "StopIteration" [(.ref (v 0 4)),.none,.none,.none,(.bool false),.none]))::((v 0 4),(tO []))::(e,(fO "enumerate" [.none,(.bool false),(.ref it),(.int (Int.ofNat k) 0),.none,lv]))::(it,(fO "str_iterator" [.none,(.int (Int.ofNat k) 0)]))::M) (v 0 0) (v 0 1) (G) (v 0 2)) :=
  goes_run (it:=[1,1,2]) (en:=[(1,.call [1] [] (fun v0=>⟨some [(fO "str_iterator" [.none,(.int (Int.ofNat k) 0)])],[((v0 3),(fO "StopIteration" [(.ref (v0 4)),.none,.none,.none,(.bool false),.none])),((v0 4),(tO []))],.error (.ref (v0 3))⟩) (fun v0=>[]))])
    (d:=4) (ms:=[0,1,2,3]) (e:=0) (gs:=[]) (mv:=[2,3,3,3])
    O den_eq 5 1 (fun v=>⟨by kernel_rfl,by kernel_rfl,by kernel_rfl,by kernel_rfl⟩) (fun v=>AllP.cons (e0 v) AllP.nil)

theorem en_new_str_ascii_iteratorS (w:World) (b2:Bool) (h0:Heap) (B:List Frame) (d:Drawn) (os:OsState) (pos0:Pos) (t0:Nat) (s:Str) (qa0:List Stmt) (qb0:Env) (qq0:Pos) (qa1:Args) (qq1:Pos) (qa2:Expr) (qb2:Value) (qc2 qd2:List Stmt) (qe2:Env) (qq2:Pos) (qa3:List Stmt) (qb3:Env) (qq3:Pos) (qa4:List Stmt) (qb4:Env) (qq4:Pos) (qa5:Expr) (qb5:Value) (qc5 qd5:List Stmt) (qe5:Env) (qq5:Pos) (qa6:List Stmt) (qb6:Env) (qq6:Pos) (qa7:Args) (qq7:Pos) (sz tk gn:Nat) (M:List (Addr × Obj)) (G:List (Nat × GenState)) (O:(view w b2 h0 B [(.func qa0 qb0,qq0),(.builtin "generator.__next__" qa1,qq1),(.forLoop qa2 qb2 qc2 qd2 qe2,qq2),(.func qa3 qb3,qq3),(.func qa4 qb4,qq4),(.forLoop qa5 qb5 qc5 qd5 qe5,qq5),(.func qa6 qb6,qq6),(.builtin "claim.caller" qa7,qq7)] d os).Ok)
    (e0:∀ v:N2,CallN (view w b2 h0 B [(.func qa0 qb0,qq0),(.builtin "generator.__next__" qa1,qq1),(.forLoop qa2 qb2 qc2 qd2 qe2,qq2),(.func qa3 qb3,qq3),(.func qa4 qb4,qq4),(.forLoop qa5 qb5 qc5 qd5 qe5,qq5),(.func qa6 qb6,qq6),(.builtin "claim.caller" qa7,qq7)] d os) ([0,0,1,8,2,1,1,2,1,7]) (cB "str.__iter__" [(.str s t0)]) [] [] (fun v0=>⟨none,[((v0 3),(fO "str_ascii_iterator" [(.str s t0),(.int 0 0)]))],.ok (.ret (.ref (v0 3)))⟩)) :
    Goes (view w b2 h0 B [(.func qa0 qb0,qq0),(.builtin "generator.__next__" qa1,qq1),(.forLoop qa2 qb2 qc2 qd2 qe2,qq2),(.func qa3 qb3,qq3),(.func qa4 qb4,qq4),(.forLoop qa5 qb5 qc5 qd5 qe5,qq5),(.func qa6 qb6,qq6),(.builtin "claim.caller" qa7,qq7)] d os) (mkD (.call (.type "enumerate") ⟨[(.str s t0)],[]⟩) pos0 [] (M) sz tk (G) gn)
      (fun y=>∃ v:N2,y = mk (.pure (.done (.ret (.ref (v 0 0))))) (.builtin "type.__call__" ⟨[(.type "enumerate"),(.str s t0)],[]⟩) pos0 [] (((v 0 0),(fO "enumerate" [.none,(.bool false),(.ref (v 0 3)),(.int 0 0),.none,.none]))::((v 0 3),(fO "str_ascii_iterator" [(.str s t0),(.int 0 0)]))::M) ((v 0 0)+1) (v 0 1) (G) (v 0 2)) :=
  goes_run (it:=[1,1,1,1,1]) (en:=[(3,.call [] [] (fun v0=>⟨none,[((v0 3),(fO "str_ascii_iterator" [(.str s t0),(.int 0 0)]))],.ok (.ret (.ref (v0 3)))⟩) (fun v0=>[]))])
    (d:=2) (ms:=[0,1]) (e:=0) (gs:=[]) (mv:=[])
    O den_eq 16 1 (fun v=>⟨by kernel_rfl,by kernel_rfl,by kernel_rfl,by kernel_rfl⟩) (fun v=>AllP.cons (e0 v) AllP.nil)

theorem en_new_str_ascii_iteratorL (w:World) (b2:Bool) (h0:Heap) (B:List Frame) (d:Drawn) (os:OsState) (pos0:Pos) (t0:Nat) (s:Str) (qa0:List Stmt) (qb0:Env) (qq0:Pos) (qa1:Args) (qq1:Pos) (qa2:Expr) (qb2:Value) (qc2 qd2:List Stmt) (qe2:Env) (qq2:Pos) (qa3:List Stmt) (qb3:Env) (qq3:Pos) (qa4:Expr) (qb4:Value) (qc4 qd4:List Stmt) (qe4:Env) (qq4:Pos) (qa5:List Stmt) (qb5:Env) (qq5:Pos) (qa6:Args) (qq6:Pos) (sz tk gn:Nat) (M:List (Addr × Obj)) (G:List (Nat × GenState)) (O:(view w b2 h0 B [(.func qa0 qb0,qq0),(.builtin "generator.__next__" qa1,qq1),(.forLoop qa2 qb2 qc2 qd2 qe2,qq2),(.func qa3 qb3,qq3),(.forLoop qa4 qb4 qc4 qd4 qe4,qq4),(.func qa5 qb5,qq5),(.builtin "claim.caller" qa6,qq6)] d os).Ok)
    (e0:∀ v:N2,CallN (view w b2 h0 B [(.func qa0 qb0,qq0),(.builtin "generator.__next__" qa1,qq1),(.forLoop qa2 qb2 qc2 qd2 qe2,qq2),(.func qa3 qb3,qq3),(.forLoop qa4 qb4 qc4 qd4 qe4,qq4),(.func qa5 qb5,qq5),(.builtin "claim.caller" qa6,qq6)] d os) ([0,0,1,8,2,1,2,1,7]) (cB "str.__iter__" [(.str s t0)]) [] [] (fun v0=>⟨none,[((v0 3),(fO "str_ascii_iterator" [(.str s t0),(.int 0 0)]))],.ok (.ret (.ref (v0 3)))⟩)) :
    Goes (view w b2 h0 B [(.func qa0 qb0,qq0),(.builtin "generator.__next__" qa1,qq1),(.forLoop qa2 qb2 qc2 qd2 qe2,qq2),(.func qa3 qb3,qq3),(.forLoop qa4 qb4 qc4 qd4 qe4,qq4),(.func qa5 qb5,qq5),(.builtin "claim.caller" qa6,qq6)] d os) (mkD (.call (.type "enumerate") ⟨[(.str s t0)],[]⟩) pos0 [] (M) sz tk (G) gn)
      (fun y=>∃ v:N2,y = mk (.pure (.done (.ret (.ref (v 0 0))))) (.builtin "type.__call__" ⟨[(.type "enumerate"),(.str s t0)],[]⟩) pos0 [] (((v 0 0),(fO "enumerate" [.none,(.bool false),(.ref (v 0 3)),(.int 0 0),.none,.none]))::((v 0 3),(fO "str_ascii_iterator" [(.str s t0),(.int 0 0)]))::M) ((v 0 0)+1) (v 0 1) (G) (v 0 2)) :=
  goes_run (it:=[1,1,1,1,1]) (en:=[(3,.call [] [] (fun v0=>⟨none,[((v0 3),(fO "str_ascii_iterator" [(.str s t0),(.int 0 0)]))],.ok (.ret (.ref (v0 3)))⟩) (fun v0=>[]))])
    (d:=2) (ms:=[0,1]) (e:=0) (gs:=[]) (mv:=[])
    O den_eq 16 1 (fun v=>⟨by kernel_rfl,by kernel_rfl,by kernel_rfl,by kernel_rfl⟩) (fun v=>AllP.cons (e0 v) AllP.nil)

theorem en_next_str_ascii_iterator (w:World) (b2:Bool) (h0:Heap) (B:List Frame) (d:Drawn) (os:OsState) (pos0:Pos) (k:Nat) (lv:Value) (e it t0:Nat) (s c:Str) (bw:List (Code × Pos)) (sz tk gn:Nat) (M:List (Addr × Obj)) (G:List (Nat × GenState)) (O:(view w b2 h0 B bw d os).Ok)
    (e0:∀ v:N2,CallN (view w b2 h0 B bw d os) ([0] ++ bw.map (fun x=>shp x.1)) (cB "str_ascii_iterator.__next__" [(.ref it)]) [(it,(fO "str_ascii_iterator" [(.str s t0),(.int (Int.ofNat k) 0)]))] [] (fun v0=>⟨some [(fO "str_ascii_iterator" [(.str s t0),(.int ((Int.ofNat k)+1) 0)])],[],.ok (.ret (.str c (v0 3)))⟩)) :
    Goes (view w b2 h0 B bw d os) (mkD (cB "enumerate.__next__" [(.ref e)]) pos0 [] ((e,(fO "enumerate" [.none,(.bool false),(.ref it),(.int (Int.ofNat k) 0),.none,lv]))::(it,(fO "str_ascii_iterator" [(.str s t0),(.int (Int.ofNat k) 0)]))::M) sz tk (G) gn)
      (fun y=>∃ v:N2,y = mk (.pure (.done (.ret (.ref (v 0 0))))) (.builtin "enumerate.__next__" ⟨[(.ref e)],[]⟩) pos0 [] (((v 0 0),(tO [(.int (Int.ofNat k) (v 0 1)),(.str c (v 0 3))]))::(e,(fO "enumerate" [(.int (Int.ofNat (v 0 0)) 0),(.bool false),(.ref it),(.int ((Int.ofNat k)+1) 0),.none,(.str c (v 0 3))]))::(it,(fO "str_ascii_iterator" [(.str s t0),(.int ((Int.ofNat k)+1) 0)]))::M) ((v 0 0)+1) ((v 0 1)+1) (G) (v 0 2)) :=
  goes_run (it:=[1,1,2,2,2,2,2,2,2,3,3,3,3,3,3,3,3]) (en:=[(1,.call [1] [] (fun v0=>⟨some [(fO "str_ascii_iterator" [(.str s t0),(.int ((Int.ofNat k)+1) 0)])],[],.ok (.ret (.str c (v0 3)))⟩) (fun v0=>[]))])
    (d:=3) (ms:=[0,1,2]) (e:=0) (gs:=[]) (mv:=[1,2,2])
    O den_eq 23 1 (fun v=>⟨by kernel_rfl,by kernel_rfl,by kernel_rfl,by kernel_rfl⟩) (fun v=>AllP.cons (e0 v) AllP.nil)

theorem en_end_str_ascii_iterator (w:World) (b2:Bool) (h0:Heap) (B:List Frame) (d:Drawn) (os:OsState) (pos0:Pos) (k:Nat) (lv:Value) (e it t0:Nat) (lc:Str) (t1:Nat) (s:Str) (bw:List (Code × Pos)) (sz tk gn:Nat) (M:List (Addr × Obj)) (G:List (Nat × GenState)) (O:(view w b2 h0 B bw d os).Ok)
    (e0:∀ v:N2,CallN (view w b2 h0 B bw d os) ([0] ++ bw.map (fun x=>shp x.1)) (cB "str_ascii_iterator.__next__" [(.ref it)]) [(it,(fO "str_ascii_iterator" [(.str s t1),(.int (Int.ofNat k) 0)]))] [] (fun v0=>⟨some [(fO "str_ascii_iterator" [.none,(.int (Int.ofNat k) 0)])],[((v0 3),(fO "StopIteration" [(.ref (v0 4)),.none,.none,.none,(.bool false),.none])),((v0 4),(tO []))],.error (.ref (v0 3))⟩)) :
    Goes (view w b2 h0 B bw d os) (mkD (cB "enumerate.__next__" [(.ref e)]) pos0 [] ((e,(fO "enumerate" [.none,(.bool false),(.ref it),(.int (Int.ofNat k) 0),.none,lv]))::(it,(fO "str_ascii_iterator" [(.str s t1),(.int (Int.ofNat k) 0)]))::M) sz tk (G) gn)
      (fun y=>∃ v:N2,y = mk (.raise (.ref (v 0 3))) (.builtin "enumerate.__next__" ⟨[(.ref e)],[]⟩) pos0 [] (((v 0 3),(fO "StopIteration" [(.ref (v 0 4)),.none,.none,.none,(.bool false),.none]))::((v 0 4),(tO []))::(e,(fO "enumerate" [.none,(.bool false),(.ref it),(.int (Int.ofNat k) 0),.none,lv]))::(it,(fO "str_ascii_iterator" [.none,(.int (Int.ofNat k) 0)]))::M) (v 0 0) (v 0 1) (G) (v 0 2)) :=
  goes_run (it:=[1,1,2]) (en:=[(1,.call [1] [] (fun v0=>⟨some [(fO "str_ascii_iterator" [.none,(.int (Int.ofNat k) 0)])],[((v0 3),(fO "StopIteration" [(.ref (v0 4)),.none,.none,.none,(.bool false),.none])),((v0 4),(tO []))],.error (.ref (v0 3))⟩) (fun v0=>[]))])
    (d:=4) (ms:=[0,1,2,3]) (e:=0) (gs:=[]) (mv:=[2,3,3,3])
    O den_eq 5 1 (fun v=>⟨by kernel_rfl,by kernel_rfl,by kernel_rfl,by kernel_rfl⟩) (fun v=>AllP.cons (e0 v) AllP.nil)

end Mine
end
section
open PySem PySem.W PySem.W.X PyProof.Rows
namespace Mine
theorem sp_w1turn (w:World) (b2:Bool) (h0:Heap) (B:List Frame) (d:Drawn) (os:OsState) (pos0:Pos) (L t0 t1:Nat) (s:Str) (t2 t3:Nat) (a:Int) (t4 t5:Nat) (i:Int) (bw:List (Code × Pos)) (sz tk gn:Nat) (M:List (Addr × Obj)) (G:List (Nat × GenState)) (O:(view w b2 h0 B bw d os).Ok)
    (e0:∀ v:N2,EvP "int.__bool__" [(.int a 0)] (retB true)) (e1:∀ v:N2,EvP "str.__getitem__" [(.str s 0),(.int i 0)] (retS (sAt s i))) (e2:∀ v:N2,EvP "str.__eq__" [(.str (sAt s i) 0),(.str z10 0)] (retB true)) :
    Goes (view w b2 h0 B bw d os) (mkD (.whileLoop fSp_c17 fSp_b17 [] (envF fSps fSpq 28 [] L)) pos0 [] ((L,nsO [ent w.params z7 t0 (.str s t1),ent w.params z8 t2 (.int a t3),ent w.params z9 t4 (.int i t5)] 3)::M) sz tk (G) gn)
      (fun y=>∃ v:N2,y = mkD (.whileLoop fSp_c17 fSp_b17 [] (envF fSps fSpq 28 [] L)) ⟨19,8,19,14⟩ [] ((L,nsO [ent w.params z7 t0 (.str s t1),ent w.params z8 t2 (.int (a - 1) (tk+6)),ent w.params z9 t4 (.int (i+1) (tk+3))] 3)::M) sz (tk+8) (G) gn) :=
  goes_run (it:=[1,1,1,1,1,1,1,1,1]) (en:=[(1,.ev (retB true)),(1,.ev (retS (sAt s i))),(1,.ev (retB true))])
    (d:=1) (ms:=[0]) (e:=0) (gs:=[]) (mv:=[])
    O den_eq 52 0 (fun v=>⟨by kernel_rfl,by kernel_rfl,by kernel_rfl,by kernel_rfl⟩) (fun v=>AllP.cons (e2 v) (AllP.cons (e1 v) (AllP.cons (e0 v) AllP.nil)))

theorem sp_w1ex0 (w:World) (b2:Bool) (h0:Heap) (B:List Frame) (d:Drawn) (os:OsState) (pos0:Pos) (L t0 t1:Nat) (s:Str) (t2 t3:Nat) (a:Int) (t4 t5:Nat) (i:Int) (bw:List (Code × Pos)) (sz tk gn:Nat) (M:List (Addr × Obj)) (G:List (Nat × GenState)) (O:(view w b2 h0 B bw d os).Ok)
    (e0:∀ v:N2,EvP "int.__bool__" [(.int a 0)] (retB false)) :
    Goes (view w b2 h0 B bw d os) (mkD (.whileLoop fSp_c17 fSp_b17 [] (envF fSps fSpq 28 [] L)) pos0 [] ((L,nsO [ent w.params z7 t0 (.str s t1),ent w.params z8 t2 (.int a t3),ent w.params z9 t4 (.int i t5)] 3)::M) sz tk (G) gn)
      (fun y=>∃ v:N2,y = mk (.pure (.done .next)) (.whileLoop fSp_c17 fSp_b17 [] (envF fSps fSpq 28 [] L)) ⟨17,10,17,16⟩ [] ((L,nsO [ent w.params z7 t0 (.str s t1),ent w.params z8 t2 (.int a t3),ent w.params z9 t4 (.int i t5)] 3)::M) sz tk (G) gn) :=
  goes_run (it:=[1]) (en:=[(1,.ev (retB false))])
    (d:=1) (ms:=[0]) (e:=0) (gs:=[]) (mv:=[])
    O den_eq 6 0 (fun v=>⟨by kernel_rfl,by kernel_rfl,by kernel_rfl,by kernel_rfl⟩) (fun v=>AllP.cons (e0 v) AllP.nil)

theorem sp_w1ex1 (w:World) (b2:Bool) (h0:Heap) (B:List Frame) (d:Drawn) (os:OsState) (pos0:Pos) (L t0 t1:Nat) (s:Str) (t2 t3:Nat) (a:Int) (t4 t5:Nat) (i:Int) (bw:List (Code × Pos)) (sz tk gn:Nat) (M:List (Addr × Obj)) (G:List (Nat × GenState)) (O:(view w b2 h0 B bw d os).Ok)
    (e0:∀ v:N2,EvP "int.__bool__" [(.int a 0)] (retB true)) (e1:∀ v:N2,EvP "str.__getitem__" [(.str s 0),(.int i 0)] (retS (sAt s i))) (e2:∀ v:N2,EvP "str.__eq__" [(.str (sAt s i) 0),(.str z10 0)] (retB false)) :
    Goes (view w b2 h0 B bw d os) (mkD (.whileLoop fSp_c17 fSp_b17 [] (envF fSps fSpq 28 [] L)) pos0 [] ((L,nsO [ent w.params z7 t0 (.str s t1),ent w.params z8 t2 (.int a t3),ent w.params z9 t4 (.int i t5)] 3)::M) sz tk (G) gn)
      (fun y=>∃ v:N2,y = mk (.pure (.done .next)) (.whileLoop fSp_c17 fSp_b17 [] (envF fSps fSpq 28 [] L)) ⟨17,21,17,35⟩ [] ((L,nsO [ent w.params z7 t0 (.str s t1),ent w.params z8 t2 (.int a t3),ent w.params z9 t4 (.int i t5)] 3)::M) sz (tk+2) (G) gn) :=
  goes_run (it:=[1,1,1]) (en:=[(1,.ev (retB true)),(1,.ev (retS (sAt s i))),(1,.ev (retB false))])
    (d:=1) (ms:=[0]) (e:=0) (gs:=[]) (mv:=[])
    O den_eq 21 0 (fun v=>⟨by kernel_rfl,by kernel_rfl,by kernel_rfl,by kernel_rfl⟩) (fun v=>AllP.cons (e2 v) (AllP.cons (e1 v) (AllP.cons (e0 v) AllP.nil)))

theorem sp_w2turn (w:World) (b2:Bool) (h0:Heap) (B:List Frame) (d:Drawn) (os:OsState) (pos0:Pos) (L t0 t1:Nat) (s:Str) (t2 t3:Nat) (a:Int) (t4 t5:Nat) (i:Int) (t6 t7:Nat) (r:Int) (bw:List (Code × Pos)) (sz tk gn:Nat) (M:List (Addr × Obj)) (G:List (Nat × GenState)) (O:(view w b2 h0 B bw d os).Ok)
    (e0:∀ v:N2,EvP "int.__bool__" [(.int a 0)] (retB true)) (e1:∀ v:N2,EvP "str.__getitem__" [(.str s 0),(.int r 0)] (retS (sAt s r))) (e2:∀ v:N2,EvP "str.__eq__" [(.str (sAt s r) 0),(.str z10 0)] (retB true)) :
    Goes (view w b2 h0 B bw d os) (mkD (.whileLoop fSp_c21 fSp_b21 [] (envF fSps fSpq 28 [] L)) pos0 [] ((L,nsO [ent w.params z7 t0 (.str s t1),ent w.params z8 t2 (.int a t3),ent w.params z9 t4 (.int i t5),ent w.params z11 t6 (.int r t7)] 4)::M) sz tk (G) gn)
      (fun y=>∃ v:N2,y = mkD (.whileLoop fSp_c21 fSp_b21 [] (envF fSps fSpq 28 [] L)) ⟨23,8,23,14⟩ [] ((L,nsO [ent w.params z7 t0 (.str s t1),ent w.params z8 t2 (.int (a - 1) (tk+6)),ent w.params z9 t4 (.int i t5),ent w.params z11 t6 (.int (r - 1) (tk+3))] 4)::M) sz (tk+8) (G) gn) :=
  goes_run (it:=[1,1,1,1,1,1,1,1,1]) (en:=[(1,.ev (retB true)),(1,.ev (retS (sAt s r))),(1,.ev (retB true))])
    (d:=1) (ms:=[0]) (e:=0) (gs:=[]) (mv:=[])
    O den_eq 52 0 (fun v=>⟨by kernel_rfl,by kernel_rfl,by kernel_rfl,by kernel_rfl⟩) (fun v=>AllP.cons (e2 v) (AllP.cons (e1 v) (AllP.cons (e0 v) AllP.nil)))

theorem sp_w2ex0 (w:World) (b2:Bool) (h0:Heap) (B:List Frame) (d:Drawn) (os:OsState) (pos0:Pos) (L t0 t1:Nat) (s:Str) (t2 t3:Nat) (a:Int) (t4 t5:Nat) (i:Int) (t6 t7:Nat) (r:Int) (bw:List (Code × Pos)) (sz tk gn:Nat) (M:List (Addr × Obj)) (G:List (Nat × GenState)) (O:(view w b2 h0 B bw d os).Ok)
    (e0:∀ v:N2,EvP "int.__bool__" [(.int a 0)] (retB false)) :
    Goes (view w b2 h0 B bw d os) (mkD (.whileLoop fSp_c21 fSp_b21 [] (envF fSps fSpq 28 [] L)) pos0 [] ((L,nsO [ent w.params z7 t0 (.str s t1),ent w.params z8 t2 (.int a t3),ent w.params z9 t4 (.int i t5),ent w.params z11 t6 (.int r t7)] 4)::M) sz tk (G) gn)
      (fun y=>∃ v:N2,y = mk (.pure (.done .next)) (.whileLoop fSp_c21 fSp_b21 [] (envF fSps fSpq 28 [] L)) ⟨21,10,21,16⟩ [] ((L,nsO [ent w.params z7 t0 (.str s t1),ent w.params z8 t2 (.int a t3),ent w.params z9 t4 (.int i t5),ent w.params z11 t6 (.int r t7)] 4)::M) sz tk (G) gn) :=
  goes_run (it:=[1]) (en:=[(1,.ev (retB false))])
    (d:=1) (ms:=[0]) (e:=0) (gs:=[]) (mv:=[])
    O den_eq 6 0 (fun v=>⟨by kernel_rfl,by kernel_rfl,by kernel_rfl,by kernel_rfl⟩) (fun v=>AllP.cons (e0 v) AllP.nil)

theorem sp_w2ex1 (w:World) (b2:Bool) (h0:Heap) (B:List Frame) (d:Drawn) (os:OsState) (pos0:Pos) (L t0 t1:Nat) (s:Str) (t2 t3:Nat) (a:Int) (t4 t5:Nat) (i:Int) (t6 t7:Nat) (r:Int) (bw:List (Code × Pos)) (sz tk gn:Nat) (M:List (Addr × Obj)) (G:List (Nat × GenState)) (O:(view w b2 h0 B bw d os).Ok)
    (e0:∀ v:N2,EvP "int.__bool__" [(.int a 0)] (retB true)) (e1:∀ v:N2,EvP "str.__getitem__" [(.str s 0),(.int r 0)] (retS (sAt s r))) (e2:∀ v:N2,EvP "str.__eq__" [(.str (sAt s r) 0),(.str z10 0)] (retB false)) :
    Goes (view w b2 h0 B bw d os) (mkD (.whileLoop fSp_c21 fSp_b21 [] (envF fSps fSpq 28 [] L)) pos0 [] ((L,nsO [ent w.params z7 t0 (.str s t1),ent w.params z8 t2 (.int a t3),ent w.params z9 t4 (.int i t5),ent w.params z11 t6 (.int r t7)] 4)::M) sz tk (G) gn)
      (fun y=>∃ v:N2,y = mk (.pure (.done .next)) (.whileLoop fSp_c21 fSp_b21 [] (envF fSps fSpq 28 [] L)) ⟨21,21,21,35⟩ [] ((L,nsO [ent w.params z7 t0 (.str s t1),ent w.params z8 t2 (.int a t3),ent w.params z9 t4 (.int i t5),ent w.params z11 t6 (.int r t7)] 4)::M) sz (tk+2) (G) gn) :=
  goes_run (it:=[1,1,1]) (en:=[(1,.ev (retB true)),(1,.ev (retS (sAt s r))),(1,.ev (retB false))])
    (d:=1) (ms:=[0]) (e:=0) (gs:=[]) (mv:=[])
    O den_eq 21 0 (fun v=>⟨by kernel_rfl,by kernel_rfl,by kernel_rfl,by kernel_rfl⟩) (fun v=>AllP.cons (e2 v) (AllP.cons (e1 v) (AllP.cons (e0 v) AllP.nil)))

theorem sp_call (w:World) (b2:Bool) (h0:Heap) (B:List Frame) (d:Drawn) (os:OsState) (pos0:Pos) (t0:Nat) (s:Str) (t1:Nat) (a a1 i1 a2 r2:Int) (res:Str) (qa0:Expr) (qb0:Value) (qc0 qd0:List Stmt) (qe0:Env) (qq0:Pos) (qa1:List Stmt) (qb1:Env) (qq1:Pos) (qa2:Args) (qq2:Pos) (sz tk gn:Nat) (M:List (Addr × Obj)) (G:List (Nat × GenState)) (O:(view w b2 h0 B [(.forLoop qa0 qb0 qc0 qd0 qe0,qq0),(.func qa1 qb1,qq1),(.builtin "claim.caller" qa2,qq2)] d os).Ok)
    (e0:∀ v:N2,CallN (view w b2 h0 B [(.forLoop qa0 qb0 qc0 qd0 qe0,qq0),(.func qa1 qb1,qq1),(.builtin "claim.caller" qa2,qq2)] d os) ([1,2,1,7]) (.whileLoop fSp_c17 fSp_b17 [] (envF fSps fSpq 28 [] sz)) [(sz,nsO [ent w.params z7 tk (.str s t0),ent w.params z8 (tk+1) (.int a t1),ent w.params z9 (tk+3) (.int 0 (tk+2))] 3)] [] (fun v0=>⟨some [nsO [ent w.params z7 tk (.str s t0),ent w.params z8 (tk+1) (.int a1 (v0 3)),ent w.params z9 (tk+3) (.int i1 (v0 4))] 3],[],.ok .next⟩)) (e1:∀ v:N2,CallN (view w b2 h0 B [(.forLoop qa0 qb0 qc0 qd0 qe0,qq0),(.func qa1 qb1,qq1),(.builtin "claim.caller" qa2,qq2)] d os) ([1,2,1,7]) (cB "len" [(.str s 0)]) [] [] (fun v1=>oV (.int (sLen s) (v1 3)))) (e2:∀ v:N2,CallN (view w b2 h0 B [(.forLoop qa0 qb0 qc0 qd0 qe0,qq0),(.func qa1 qb1,qq1),(.builtin "claim.caller" qa2,qq2)] d os) ([1,2,1,7]) (.whileLoop fSp_c21 fSp_b21 [] (envF fSps fSpq 28 [] sz)) [(sz,nsO [ent w.params z7 tk (.str s t0),ent w.params z8 (tk+1) (.int a1 (v 0 3)),ent w.params z9 (tk+3) (.int i1 (v 0 4)),ent w.params z11 ((v 1 1)+2) (.int ((sLen s) - 1) ((v 1 1)+1))] 4)] [] (fun v2=>⟨some [nsO [ent w.params z7 tk (.str s t0),ent w.params z8 (tk+1) (.int a2 (v2 3)),ent w.params z9 (tk+3) (.int i1 (v 0 4)),ent w.params z11 ((v 1 1)+2) (.int r2 (v2 4))] 4],[],.ok .next⟩)) (e3:∀ v:N2,CallN (view w b2 h0 B [(.forLoop qa0 qb0 qc0 qd0 qe0,qq0),(.func qa1 qb1,qq1),(.builtin "claim.caller" qa2,qq2)] d os) ([1,2,1,7]) (cB "str.__getitem__" [(.str s 0),(.ref (v 2 0))]) [((v 2 0),(fO "slice" [(.int i1 (v 0 4)),(.int (r2+1) ((v 2 1)+1)),.none]))] [] (fun v3=>oV (.str res (v3 3)))) :
    Goes (view w b2 h0 B [(.forLoop qa0 qb0 qc0 qd0 qe0,qq0),(.func qa1 qb1,qq1),(.builtin "claim.caller" qa2,qq2)] d os) (mkD (cR 28 [(.str s t0),(.int a t1)]) pos0 [] (M) sz tk (G) gn)
      (fun y=>∃ v:N2,y = mk (.pure (.done (.ret (.str res (v 3 3))))) (.func fSp_ (envF fSps fSpq 28 [] sz)) ⟨24,11,24,27⟩ [] (M) (v 3 0) (v 3 1) (G) (v 3 2)) :=
  goes_run (it:=[0,0,1,1,1,1,0,1,1,0,0,1,1,1,1,1,1]) (en:=[(1,.call [0] [] (fun v0=>⟨some [nsO [ent w.params z7 tk (.str s t0),ent w.params z8 (tk+1) (.int a1 (v0 3)),ent w.params z9 (tk+3) (.int i1 (v0 4))] 3],[],.ok .next⟩) (fun v0=>[(0,.call [] [] (fun v1=>oV (.int (sLen s) (v1 3))) (fun v1=>[(2,.call [0] [] (fun v2=>⟨some [nsO [ent w.params z7 tk (.str s t0),ent w.params z8 (tk+1) (.int a2 (v2 3)),ent w.params z9 (tk+3) (.int i1 (v0 4)),ent w.params z11 ((v1 1)+2) (.int r2 (v2 4))] 4],[],.ok .next⟩) (fun v2=>[(2,.call [0] [] (fun v3=>oV (.str res (v3 3))) (fun v3=>[]))]))]))]))])
    (d:=2) (ms:=[]) (e:=0) (gs:=[]) (mv:=[])
    O den_eq 66 4 (fun v=>⟨by kernel_rfl,by kernel_rfl,by kernel_rfl,by kernel_rfl⟩) (fun v=>AllP.cons (e3 v) (AllP.cons (e2 v) (AllP.cons (e1 v) (AllP.cons (e0 v) AllP.nil))))

end Mine
end
section
open PySem PySem.W PySem.W.X PyProof.Rows
namespace Mine
noncomputable abbrev strOf (l:List Nat):Str:=⟨⟨l⟩⟩
section
variable {V:Vw} {ks:List Nat}
theorem len_ok {x:Str} (hx:x.length < 2 ^ 63):CallN V ks (.call (.builtin "len") ⟨[.str x 0],[]⟩) [] [] (fun v=>⟨none,[],.ok (.ret (.int (sLen x) (v 3)))⟩):=by
  intro bw c R sz tk gn _ hc hR pos V' u M G
  obtain ⟨v,rfl,hv⟩:=norm_call1 hc
  obtain ⟨t,rfl⟩:=noTok_str hv
  obtain rfl:=norm_none hR
  refine goes_call u (res:=fun t=>.int (sLen x) t) fun A hh s r=>?_
  refine call_len_gives (typeIs_str s x t) F.slot_str_len F.entry_str_len (F.args_str_len_1 _) (gives_str_len x t) (by omega) (by omega) ?_
  exact ⟨_,rfl,fun _ _ e=>e,rfl,rfl,rfl⟩

theorem slice_ok {x:List Nat} {a:Addr} {i j:Nat} {ti tj:Nat} (hij:i ≤ j) (hj:j ≤ x.length) (hx:x.length ≤ 65536) :
    CallN V ks (.call (.builtin "str.__getitem__") ⟨[.str (strOf x) 0,.ref a],[]⟩) [(a,⟨.type "slice",none,.fields ⟨[.int (i:Int) ti,.int (j:Int) tj,.none]⟩,⟨[]⟩⟩)] []
      (fun v=>⟨none,[],.ok (.ret (.str (strOf ((x.drop i).take (j - i))) (v 3)))⟩):=by
  intro bw c R sz tk gn _ hc hR pos V' u M G
  obtain ⟨v,v',rfl,hv,hv'⟩:=norm_call2 hc
  obtain ⟨t,rfl⟩:=noTok_str hv
  obtain rfl:=noTok_ref hv'
  obtain ⟨o,rfl,ho⟩:=norm_one hR
  obtain rfl:o = ⟨.type "slice",none,.fields ⟨[.int (i:Int) ti,.int (j:Int) tj,.none]⟩,⟨[]⟩⟩:=by
    obtain ⟨c,d,dt,sl⟩:=o
    cases dt <;> simp_all [normM,normO]
  refine goes_call u (res:=fun t=>.str (strOf ((x.drop i).take (j - i))) t) fun A hh s r=>?_
  have hs:s.heap.IsSlice a (some ((i:Int),ti)) (some ((j:Int),tj)) none:=⟨_,(r.mem _ (.head _)).2,rfl,rfl⟩
  refine call_meets F.slot_str_getitem (typeIs_str s (strOf x) t) F.entry_str_getitem (F.args_str_getitem_2 _ _) (meets_str_getitem_slice (strOf x) t a _ _ none rfl) ⟨hs,?_⟩
  have e:=StrLaws.sliced_plain (strOf x) hij (show j ≤ (strOf x).length from hj)
  unfold sliceMade slicePicked
  show Made.post (if (((1:Int) == 1) && ((Builtin.Str.strSliceIndices (some (i:Int)) (some (j:Int)) 1 (strOf x).length).length == (strOf x).length)) = true then .val (.str (strOf x) t) else .str ⟨((Builtin.Str.strSliceIndices (some (i:Int)) (some (j:Int)) 1 (strOf x).length).filterMap ((strOf x).cps[·]?)).toArray⟩) _ s
  rw [e]
  by_cases hw:(((1:Int) == 1) && ((Builtin.Str.strSliceIndices (some (i:Int)) (some (j:Int)) 1 (strOf x).length).length == (strOf x).length)) = true
  · rw [if_pos hw]
    refine ⟨t,?_,fun _ _ e=>e,rfl,rfl,rfl⟩
    have hl:(Builtin.Str.strSliceIndices (some (i:Int)) (some (j:Int)) 1 (strOf x).length).length = (strOf x).length:=by simpa using hw
    rw [StrLaws.strSliceIndices_plain hij (show j ≤ (strOf x).length from hj)] at hl
    have h2:j - i = x.length:=by
      rw [List.length_map,List.length_range] at hl
      exact hl
    have h3:i = 0:=by omega
    subst h3
    rw [List.drop_zero,List.take_of_length_le (by omega)]
  · rw [if_neg hw]
    refine ⟨?_,s.toks,rfl,fun _ _ e=>e,rfl,rfl,rfl⟩
    show ((x.drop i).take (j - i)).length ≤ sizeLine
    rw [sizeLine_eq,List.length_take,List.length_drop]; omega
end
end Mine
end
section
open PySem PySem.W PySem.W.X PyProof.Rows
namespace Mine
noncomputable def lead:List Nat→Nat
  | 32::r=>lead r+1
  | _=>0
theorem lead_le:∀ l:List Nat,lead l ≤ l.length
  | []=>Nat.le_refl _
  | c::r=>by
    unfold lead
    split
    · rename_i e; cases e; exact Nat.succ_le_succ (lead_le r)
    · exact Nat.zero_le _
theorem lead_drop_sp {x:List Nat} {i:Nat} (h:x[i]? = some 32):lead (x.drop i) = lead (x.drop (i+1))+1:=by
  obtain ⟨hl,he⟩:=List.getElem?_eq_some_iff.mp h
  rw [List.drop_eq_getElem_cons hl,he]
  rfl
theorem lead_drop_no {x:List Nat} {i c:Nat} (h:x[i]? = some c) (hc:c ≠ 32):lead (x.drop i) = 0:=by
  obtain ⟨hl,he⟩:=List.getElem?_eq_some_iff.mp h
  rw [List.drop_eq_getElem_cons hl,he]
  unfold lead
  split
  · rename_i e; cases e; exact absurd rfl hc
  · rfl
theorem sAt_nat {x:List Nat} {i c:Nat} (h:x[i]? = some c):sAt (strOf x) (i:Int) = strOf [c]:=by
  unfold sAt strOf
  show (⟨⟨[x.getD (i:Int).toNat 0]⟩⟩:Str) = _
  rw [Int.toNat_natCast,List.getD_eq_getElem?_getD,h]; rfl
theorem ev_item {x:List Nat} {i c:Nat} (h:x[i]? = some c) (hx:x.length < 2 ^ 63):EvP "str.__getitem__" [.str (strOf x) 0,.int (i:Int) 0] (retS (sAt (strOf x) (i:Int))):=by
  rw [sAt_nat h]
  have hl:i < x.length:=(List.getElem?_eq_some_iff.mp h).1
  refine ev_getitem (by omega) (by omega) ?_
  rw [Int.toNat_natCast]
  simpa using h

section
variable {w:World} {b2:Bool} {h0:Heap} {B:List Frame} {d:Drawn} {os:OsState} {bw:List (Code × Pos)}
noncomputable abbrev spF1 (P:Params) (t0 t1 t2 t3 t4 t5:Nat) (s:Str) (a i:Int):Obj:=nsO [ent P z7 t0 (.str s t1),ent P z8 t2 (.int a t3),ent P z9 t4 (.int i t5)] 3
noncomputable abbrev spF2 (P:Params) (t0 t1 t2 t3 t4 t5 t6 t7:Nat) (s:Str) (a i r:Int):Obj:=nsO [ent P z7 t0 (.str s t1),ent P z8 t2 (.int a t3),ent P z9 t4 (.int i t5),ent P z11 t6 (.int r t7)] 4
noncomputable abbrev spC1 (L:Nat):Code:=.whileLoop fSp_c17 fSp_b17 [] (envF fSps fSpq 28 [] L)
noncomputable abbrev spC2 (L:Nat):Code:=.whileLoop fSp_c21 fSp_b21 [] (envF fSps fSpq 28 [] L)

theorem sp_w1_goes (O:(view w b2 h0 B bw d os).Ok) {x:List Nat} (hx:x.length < 2 ^ 63) (L t0 t1 t2 t4 gn:Nat) (M:List (Addr × Obj)) (G:List (Nat × GenState)):∀ (a i t3 t5 sz tk:Nat) (pos0:Pos),i+lead (x.drop i) < x.length →
    Goes (view w b2 h0 B bw d os) (mk (den (spC1 L)) (spC1 L) pos0 [] ((L,spF1 w.params t0 t1 t2 t3 t4 t5 (strOf x) (a:Int) (i:Int))::M) sz tk G gn)
      (fun y=>∃ (t3' t5' tk':Nat) (p':Pos),y = mk (.pure (.done .next)) (spC1 L) p' [] ((L,spF1 w.params t0 t1 t2 t3' t4 t5' (strOf x) ((a - min a (lead (x.drop i)):Nat):Int) ((i+min a (lead (x.drop i)):Nat):Int))::M) sz tk' G gn)
  | 0,i,t3,t5,sz,tk,pos0,hi=>by
    refine (sp_w1ex0 w b2 h0 B d os pos0 L t0 t1 (strOf x) t2 t3 ((0:Nat):Int) t4 t5 (i:Int) bw sz tk gn M G O (fun _=>ev_bool (by decide))).monoE fun v=>?_
    rw [Nat.zero_min,Nat.add_zero,Nat.sub_zero]
    exact ⟨t3,t5,tk,_,rfl⟩
  | a+1,i,t3,t5,sz,tk,pos0,hi=>by
    have hl:i < x.length:=by omega
    obtain ⟨c,hc⟩:∃ c,x[i]? = some c:=⟨x[i],List.getElem?_eq_getElem hl⟩
    have hb:(((a+1:Nat):Int) != 0) = true:=by simp; omega
    by_cases h:c = 32
    · subst h
      have e:=lead_drop_sp hc
      refine (sp_w1turn w b2 h0 B d os pos0 L t0 t1 (strOf x) t2 t3 ((a+1:Nat):Int) t4 t5 (i:Int) bw sz tk gn M G O (fun _=>ev_bool hb) (fun _=>ev_item hc hx) (fun _=>ev_seq (by rw [sAt_nat hc]; rfl))).trans fun y=>?_
      rintro ⟨v,rfl⟩
      rw [show ((a+1:Nat):Int) - 1 = (a:Int) by omega,show (i:Int)+1 = ((i+1:Nat):Int) by omega]
      refine (sp_w1_goes O hx L t0 t1 t2 t4 gn M G a (i+1) _ _ sz _ _ (by omega)).mono fun y=>?_
      rintro ⟨t3',t5',tk',p',rfl⟩
      refine ⟨t3',t5',tk',p',?_⟩
      rw [e,show a+1 - min (a+1) (lead (x.drop (i+1))+1) = a - min a (lead (x.drop (i+1))) by omega,show i+min (a+1) (lead (x.drop (i+1))+1) = i+1+min a (lead (x.drop (i+1))) by omega]
    · have e:=lead_drop_no hc h
      refine (sp_w1ex1 w b2 h0 B d os pos0 L t0 t1 (strOf x) t2 t3 ((a+1:Nat):Int) t4 t5 (i:Int) bw sz tk gn M G O (fun _=>ev_bool hb) (fun _=>ev_item hc hx) (fun _=>ev_seq (by
        rw [sAt_nat hc]
        show ([c] == [32]) = false
        simpa using h))).monoE fun v=>?_
      rw [e,Nat.min_zero,Nat.add_zero,Nat.sub_zero]
      exact ⟨t3,t5,_,_,rfl⟩

noncomputable def trail (x:List Nat) (m:Nat):Nat:=lead (x.take m).reverse
theorem trail_sp {x:List Nat} {m:Nat} (h:x[m]? = some 32):trail x (m+1) = trail x m+1:=by
  obtain ⟨hl,he⟩:=List.getElem?_eq_some_iff.mp h
  unfold trail
  rw [List.take_succ_eq_append_getElem hl,he,List.reverse_append]
  rfl
theorem trail_no {x:List Nat} {m c:Nat} (h:x[m]? = some c) (hc:c ≠ 32):trail x (m+1) = 0:=by
  obtain ⟨hl,he⟩:=List.getElem?_eq_some_iff.mp h
  unfold trail
  rw [List.take_succ_eq_append_getElem hl,he,List.reverse_append]
  show lead (c::_) = 0
  unfold lead
  split
  · rename_i e; cases e; exact absurd rfl hc
  · rfl
theorem sp_w2_goes (O:(view w b2 h0 B bw d os).Ok) {x:List Nat} (hx:x.length < 2 ^ 63) (i:Int) (L t0 t1 t2 t4 t5 t6 gn:Nat) (M:List (Addr × Obj)) (G:List (Nat × GenState)):∀ (a m t3 t7 sz tk:Nat) (pos0:Pos),m ≤ x.length→trail x m < m →
    Goes (view w b2 h0 B bw d os) (mk (den (spC2 L)) (spC2 L) pos0 [] ((L,spF2 w.params t0 t1 t2 t3 t4 t5 t6 t7 (strOf x) (a:Int) i ((m:Int) - 1))::M) sz tk G gn)
      (fun y=>∃ (t3' t7' tk':Nat) (p':Pos),y = mk (.pure (.done .next)) (spC2 L) p' [] ((L,spF2 w.params t0 t1 t2 t3' t4 t5 t6 t7' (strOf x) ((a - min a (trail x m):Nat):Int) i (((m - min a (trail x m):Nat):Int) - 1))::M) sz tk' G gn)
  | 0,m,t3,t7,sz,tk,pos0,hm,hi=>by
    refine (sp_w2ex0 w b2 h0 B d os pos0 L t0 t1 (strOf x) t2 t3 ((0:Nat):Int) t4 t5 i t6 t7 ((m:Int) - 1) bw sz tk gn M G O (fun _=>ev_bool (by decide))).monoE fun v=>?_
    rw [Nat.zero_min,Nat.sub_zero,Nat.sub_zero]
    exact ⟨t3,t7,tk,_,rfl⟩
  | a+1,0,t3,t7,sz,tk,pos0,hm,hi=>absurd hi (Nat.not_lt_zero _)
  | a+1,m+1,t3,t7,sz,tk,pos0,hm,hi=>by
    have hl:m < x.length:=by omega
    obtain ⟨c,hc⟩:∃ c,x[m]? = some c:=⟨x[m],List.getElem?_eq_getElem hl⟩
    have hb:(((a+1:Nat):Int) != 0) = true:=by simp; omega
    have er:((m+1:Nat):Int) - 1 = (m:Int):=by omega
    by_cases h:c = 32
    · subst h
      have e:=trail_sp hc
      rw [er]
      refine (sp_w2turn w b2 h0 B d os pos0 L t0 t1 (strOf x) t2 t3 ((a+1:Nat):Int) t4 t5 i t6 t7 (m:Int) bw sz tk gn M G O (fun _=>ev_bool hb) (fun _=>ev_item hc hx) (fun _=>ev_seq (by rw [sAt_nat hc]; rfl))).trans fun y=>?_
      rintro ⟨v,rfl⟩
      rw [show ((a+1:Nat):Int) - 1 = (a:Int) by omega]
      refine (sp_w2_goes O hx i L t0 t1 t2 t4 t5 t6 gn M G a m _ _ sz _ _ (by omega) (by omega)).mono fun y=>?_
      rintro ⟨t3',t7',tk',p',rfl⟩
      refine ⟨t3',t7',tk',p',?_⟩
      rw [e,show a+1 - min (a+1) (trail x m+1) = a - min a (trail x m) by omega,show m+1 - min (a+1) (trail x m+1) = m - min a (trail x m) by omega]
    · have e:=trail_no hc h
      rw [er]
      refine (sp_w2ex1 w b2 h0 B d os pos0 L t0 t1 (strOf x) t2 t3 ((a+1:Nat):Int) t4 t5 i t6 t7 (m:Int) bw sz tk gn M G O (fun _=>ev_bool hb) (fun _=>ev_item hc hx) (fun _=>ev_seq (by
        rw [sAt_nat hc]
        show ([c] == [32]) = false
        simpa using h))).monoE fun v=>?_
      rw [e,Nat.min_zero,Nat.sub_zero,Nat.sub_zero,er]
      exact ⟨t3,t7,_,_,rfl⟩
end
theorem norm_while {c:Code} {a:PySem.Expr} {b l:List Stmt} {e:Env} (h:normC c = .whileLoop a b l e):c = .whileLoop a b l e:=by
  cases c <;> simp only [normC] at h <;> try exact h
  rename_i f args
  obtain ⟨pos,kw⟩:=args
  cases kw with
  | nil =>
    revert h
    cases hf:exactF f <;> simp [hf]
  | cons=>cases h
theorem norm_for {c:Code} {a:PySem.Expr} {v:Value} {b l:List Stmt} {e:Env} (h:normC c = .forLoop a v b l e):c = .forLoop a v b l e:=by
  cases c <;> simp only [normC] at h <;> try exact h
  rename_i f args
  obtain ⟨pos,kw⟩:=args
  cases kw with
  | nil =>
    revert h
    cases hf:exactF f <;> simp [hf]
  | cons=>cases h
theorem norm_ns {L:Addr} {o:Obj} {es:List DictEntry} {n:Nat} (h:normM (L,o) = (L,nsO es n)):o = nsO es n:=by
  obtain ⟨c,d,dt,sl⟩:=o
  cases dt <;> simp_all [normM,normO,nsO]
theorem shp_func {c:Code} (h:shp c = 1):∃ b e,c = .func b e:=by
  cases c <;> simp only [shp] at h <;> first | (split at h <;> first | cases h | (split at h <;> cases h)) | exact ⟨_,_,rfl⟩ | cases h
theorem shp_for {c:Code} (h:shp c = 2):∃ a b l m e,c = .forLoop a b l m e:=by
  cases c <;> simp only [shp] at h <;> first | (split at h <;> first | cases h | (split at h <;> cases h)) | exact ⟨_,_,_,_,_,rfl⟩ | cases h
theorem shp_gen {c:Code} (h:shp c = 8):∃ a,c = .builtin "generator.__next__" a:=by
  cases c <;> simp only [shp] at h <;> first
    | (rename_i id args
       split at h
       · cases h
       · split at h
         · rename_i e _; subst e; exact ⟨_,rfl⟩
         · cases h)
    | (split at h <;> cases h) | cases h
theorem shp_caller {c:Code} (h:shp c = 7):∃ a,c = .builtin "claim.caller" a:=by
  cases c <;> simp only [shp] at h <;> first
    | (rename_i id args
       split at h
       · rename_i e _; subst e; exact ⟨_,rfl⟩
       · split at h <;> cases h)
    | (split at h <;> cases h) | cases h
theorem ks_cons {bw:List (Code × Pos)} {k:Nat} {ks:List Nat} (h:bw.map (fun x=>shp x.1) = k::ks):∃ c p r,bw = (c,p)::r ∧ shp c = k ∧ r.map (fun x=>shp x.1) = ks:=by
  cases bw with
  | nil=>cases h
  | cons x r =>
    rw [List.map_cons] at h
    injection h with h1 h2
    exact ⟨x.1,x.2,r,rfl,h1,h2⟩
theorem ks_nil {bw:List (Code × Pos)} (h:bw.map (fun x=>shp x.1) = []):bw = []:=List.map_eq_nil_iff.mp h

section
variable {w:World} {b2:Bool} {h0:Heap} {B:List Frame} {d:Drawn} {os:OsState} {bw:List (Code × Pos)} {ks:List Nat}
theorem sp_w1_ok {x:List Nat} (hx:x.length < 2 ^ 63) {L t0 t1 t2 t3 t4 t5 a i:Nat} (hi:i+lead (x.drop i) < x.length):CallN (view w b2 h0 B bw d os) ks (spC1 L) [(L,spF1 w.params t0 t1 t2 t3 t4 t5 (strOf x) (a:Int) (i:Int))] []
    (fun v=>⟨some [spF1 w.params t0 t1 t2 (v 3) t4 (v 4) (strOf x) ((a - min a (lead (x.drop i)):Nat):Int) ((i+min a (lead (x.drop i)):Nat):Int)],[],.ok .next⟩):=by
  intro bw' c R sz tk gn _ hc hR pos V' u M G
  obtain ⟨B',rfl,O⟩:=under_view u
  obtain rfl:=norm_while hc
  obtain ⟨o,rfl,ho⟩:=norm_one hR
  obtain rfl:=norm_ns ho
  rw [← den_eq]
  refine (sp_w1_goes O hx L t0 t1 t2 t4 gn M G a i t3 t5 sz tk pos hi).mono fun y=>?_
  rintro ⟨t3',t5',tk',p',rfl⟩
  exact ⟨fun i=>match i with | 0=>sz | 1=>tk' | 2=>gn | 3=>t3' | _=>t5',_,p',rfl⟩
theorem sp_w2_ok {x:List Nat} (hx:x.length < 2 ^ 63) {i:Int} {L t0 t1 t2 t3 t4 t5 t6 t7 a m:Nat} (hm:m ≤ x.length) (hi:trail x m < m):CallN (view w b2 h0 B bw d os) ks (spC2 L) [(L,spF2 w.params t0 t1 t2 t3 t4 t5 t6 t7 (strOf x) (a:Int) i ((m:Int) - 1))] []
    (fun v=>⟨some [spF2 w.params t0 t1 t2 (v 3) t4 t5 t6 (v 4) (strOf x) ((a - min a (trail x m):Nat):Int) i (((m - min a (trail x m):Nat):Int) - 1)],[],.ok .next⟩):=by
  intro bw' c R sz tk gn _ hc hR pos V' u M G
  obtain ⟨B',rfl,O⟩:=under_view u
  obtain rfl:=norm_while hc
  obtain ⟨o,rfl,ho⟩:=norm_one hR
  obtain rfl:=norm_ns ho
  rw [← den_eq]
  refine (sp_w2_goes O hx i L t0 t1 t2 t4 t5 t6 gn M G a m t3 t7 sz tk pos hm hi).mono fun y=>?_
  rintro ⟨t3',t7',tk',p',rfl⟩
  exact ⟨fun i=>match i with | 0=>sz | 1=>tk' | 2=>gn | 3=>t3' | _=>t7',_,p',rfl⟩

noncomputable def spL (x:List Nat) (a:Nat):List Nat :=
  (x.drop (min a (lead x))).take (x.length - min (a - min a (lead x)) (trail x x.length) - min a (lead x))
theorem sp_ok {x:List Nat} (hx:x.length ≤ 65536) (a:Nat) (h:lead x+trail x x.length < x.length):CallN (view w b2 h0 B bw d os) [2,1,7] (.call (.ref 28) ⟨[.str (strOf x) 0,.int (a:Int) 0],[]⟩) [] []
    (fun v=>⟨none,[],.ok (.ret (.str (strOf (spL x a)) (v 3)))⟩):=by
  intro bw' c R sz tk gn hk hc hR pos V' u M G
  obtain ⟨B',rfl,O⟩:=under_view u
  obtain ⟨v,v',rfl,hv,hv'⟩:=norm_call2 hc
  obtain ⟨t,rfl⟩:=noTok_str hv
  obtain ⟨t',rfl⟩:=noTok_int hv'
  obtain rfl:=norm_none hR
  obtain ⟨c0,p0,r0,rfl,k0,hk⟩:=ks_cons hk
  obtain ⟨c1,p1,r1,rfl,k1,hk⟩:=ks_cons hk
  obtain ⟨c2,p2,r2,rfl,k2,hk⟩:=ks_cons hk
  obtain rfl:=ks_nil hk
  obtain ⟨_,_,_,_,_,rfl⟩:=shp_for k0
  obtain ⟨_,_,rfl⟩:=shp_func k1
  obtain ⟨_,rfl⟩:=shp_caller k2
  rw [← den_eq]
  have hx63:x.length < 2 ^ 63:=by omega
  have h1:=lead_le x
  refine (sp_call w b2 h0 B' d os pos t (strOf x) t' (a:Int) ((a - min a (lead x):Nat):Int) ((min a (lead x):Nat):Int) ((a - min a (lead x) - min (a - min a (lead x)) (trail x x.length):Nat):Int) (((x.length - min (a - min a (lead x)) (trail x x.length):Nat):Int) - 1)
    (strOf (spL x a)) _ _ _ _ _ _ _ _ _ _ _ sz tk gn M G O (fun v=>?_) (fun v=>len_ok hx63) (fun v=>?_) (fun v=>?_)).mono fun y=>?_
  · have:=fun bw=>sp_w1_ok (w:=w) (b2:=b2) (h0:=h0) (B:=B') (d:=d) (os:=os) (bw:=bw) (ks:=[1,2,1,7]) hx63 (L:=sz) (t0:=tk) (t1:=t) (t2:=tk+1) (t3:=t') (t4:=tk+3) (t5:=tk+2) (a:=a) (i:=0) (by rw [List.drop_zero]; omega)
    simp only [List.drop_zero,Nat.zero_add] at this
    exact this _
  · have:=fun bw=>sp_w2_ok (w:=w) (b2:=b2) (h0:=h0) (B:=B') (d:=d) (os:=os) (bw:=bw) (ks:=[1,2,1,7]) hx63 (i:=((min a (lead x):Nat):Int)) (L:=sz) (t0:=tk) (t1:=t) (t2:=tk+1) (t3:=v 0 3) (t4:=tk+3) (t5:=v 0 4) (t6:=v 1 1+2) (t7:=v 1 1+1) (a:=a - min a (lead x)) (m:=x.length) (Nat.le_refl _) (by omega)
    exact this _
  · have:=fun bw=>slice_ok (V:=view w b2 h0 B' bw d os) (ks:=[1,2,1,7]) (x:=x) (a:=v 2 0) (i:=min a (lead x)) (j:=x.length - min (a - min a (lead x)) (trail x x.length)) (ti:=v 0 4) (tj:=v 2 1+1) (by omega) (by omega) hx
    rw [show (((x.length - min (a - min a (lead x)) (trail x x.length):Nat):Int) - 1+1) = ((x.length - min (a - min a (lead x)) (trail x x.length):Nat):Int) by omega]
    exact this _
  · rintro ⟨v,rfl⟩
    exact ⟨fun i=>match i with | 0=>v 3 0 | 1=>v 3 1 | 2=>v 3 2 | _=>v 3 3,_,_,rfl⟩
end
end Mine
end
section
open PySem PySem.W PySem.W.X PyProof.Rows
namespace Mine
noncomputable def itCls (x:List Nat):String:=if x.all (· < 128) = true then "str_ascii_iterator" else "str_iterator"
noncomputable def itO (cls:String) (x:Str) (t i:Nat):Obj:=⟨.type cls,none,.fields ⟨[.str x t,.int (Int.ofNat i) 0]⟩,⟨[]⟩⟩
section
variable {V:Vw} {ks:List Nat}
theorem norm_fields {a:Addr} {o:Obj} {c:Value} {dd:Option Addr} {xs:Array Value} {sl:Array (Option Value)} (h:normM (a,o) = (a,⟨c,dd,.fields xs,sl⟩)):o = ⟨c,dd,.fields xs,sl⟩:=by
  obtain ⟨c,d,dt,sl⟩:=o
  cases dt <;> simp_all [normM,normO]
theorem iter_ok {x:List Nat} {t:Nat}:CallN V ks (.call (.builtin "str.__iter__") ⟨[.str (strOf x) t],[]⟩) [] [] (fun v=>⟨none,[(v 3,itO (itCls x) (strOf x) t 0)],.ok (.ret (.ref (v 3)))⟩):=by
  intro bw c R sz tk gn _ hc hR pos V' u M G
  obtain rfl:=norm_callX hc (by kernel_rfl)
  obtain rfl:=norm_none hR
  refine goes_callR u fun A hh s r=>?_
  refine wpAny_call_entry F.slot_str_iter (typeIs_str s (strOf x) t) F.entry_str_iter ?_ (F.args_str_iter_1 _)
  show wpAny _ _ (do ret (← newFields (if (true && (strOf x).cps.all (· < 128)) = true then "str_ascii_iterator" else "str_iterator") [.str (strOf x) t,rawInt 0])) _ _ s
  have e:(if (true && (strOf x).cps.all (· < 128)) = true then "str_ascii_iterator" else "str_iterator") = itCls x:=by
    unfold itCls strOf
    simp
  rw [e]
  refine wpAny_bind (wpAny_newObj_type (wpAny_pure ⟨_,rfl,fun _=>s.heap.objs.size,rfl,fun b o e _=>Heap.get?_push_of_some _ e,fun p hp=>?_,by simp,rfl,fun p hp=>(by cases hp),rfl,rfl,rfl⟩))
  obtain rfl:p = _:=by simpa using hp
  exact ⟨Nat.le_refl _,Heap.get?_push_size _ rfl⟩

theorem upd_it (h:Heap) (it:Addr) (cls:String) (x:Str) (t i:Nat) (f:Array Value→Array Value) (ho:h.get? it = some (itO cls x t i)) (o':Obj) (e:Obj.mapFields f (itO cls x t i) = o') (hf:o'.isFreed = false):(h.update it (Obj.mapFields f)).get? it = some o':=by
  rw [← e]
  exact Heap.get?_update_self _ ho (e ▸ hf)
theorem next_wp {p:Program} {w:World} {A:Around} {s:Shared} {Q:Value→Shared→Prop} {E:Value→Shared→Prop} {x:List Nat} {t i c:Nat} {it:Addr} {cls:String} (hx:x[i]? = some c) (hcls:cls = "str_iterator" ∨ cls = "str_ascii_iterator")
    (hit:s.heap.get? it = some (itO cls (strOf x) t i)) (hQ:Q (.str (strOf [c]) s.toks) { s with heap:=s.heap.update it (Obj.mapFields (·.setIfInBounds 1 (.int (Int.ofNat i+1) 0))),toks:=s.toks+1 }) :
    wpAny (model p w) A (call (.builtin (cls ++ ".__next__")) [.ref it]) Q E s:=by
  have hT:s.TypeIs (.ref it) cls:=⟨_,hit,rfl⟩
  rcases hcls with rfl | rfl
  · refine wpAny_call_entry F.slot_str_iterator_next hT F.entry_str_iterator_next ?_ (F.args_str_iterator_next_1 _)
    show wpAny _ _ (field (.ref it) 0 >>= _) _ _ s
    refine wpAny_bind (wpAny_field hit rfl (x:=.str (strOf x) t) rfl ?_)
    show wpAny _ _ (field (.ref it) 1 >>= _) _ _ s
    refine wpAny_bind (wpAny_field hit rfl (x:=.int (Int.ofNat i) 0) rfl ?_)
    have e:(strOf x).cps[(Int.ofNat i).toNat]? = some c:=by simpa using hx
    simp only [e]
    exact wpAny_bind (wpAny_setField hit rfl (by simp) (wpAny_bind (wpAny_mkStr (wpAny_pure ⟨_,rfl,hQ⟩) (by show 1 ≤ sizeLine; decide))))
  · refine wpAny_call_entry F.slot_str_ascii_iterator_next hT F.entry_str_ascii_iterator_next ?_ (F.args_str_ascii_iterator_next_1 _)
    show wpAny _ _ (field (.ref it) 0 >>= _) _ _ s
    refine wpAny_bind (wpAny_field hit rfl (x:=.str (strOf x) t) rfl ?_)
    show wpAny _ _ (field (.ref it) 1 >>= _) _ _ s
    refine wpAny_bind (wpAny_field hit rfl (x:=.int (Int.ofNat i) 0) rfl ?_)
    have e:(strOf x).cps[(Int.ofNat i).toNat]? = some c:=by simpa using hx
    simp only [e]
    exact wpAny_bind (wpAny_setField hit rfl (by simp) (wpAny_bind (wpAny_mkStr (wpAny_pure ⟨_,rfl,hQ⟩) (by show 1 ≤ sizeLine; decide))))
theorem next_ok {x:List Nat} {t i c:Nat} {it:Addr} {cls:String} (hx:x[i]? = some c) (hcls:cls = "str_iterator" ∨ cls = "str_ascii_iterator") :
    CallN V ks (.call (.builtin (cls ++ ".__next__")) ⟨[.ref it],[]⟩) [(it,itO cls (strOf x) t i)] []
      (fun v=>⟨some [itO cls (strOf x) t (i+1)],[],.ok (.ret (.str (strOf [c]) (v 3)))⟩):=by
  intro bw cd R sz tk gn _ hc hR pos V' u M G
  have hex:exactF (.builtin (cls ++ ".__next__")) = false:=by rcases hcls with rfl | rfl <;> kernel_rfl
  obtain ⟨v,rfl,hv⟩:=norm_call1 hc hex
  obtain rfl:=noTok_ref hv
  obtain ⟨o,rfl,ho⟩:=norm_one hR
  obtain rfl:=norm_fields ho
  refine goes_callR u fun A hh s r=>?_
  have hit:s.heap.get? it = some (itO cls (strOf x) t i):=(r.mem _ (.head _)).2
  refine next_wp hx hcls hit ⟨fun _=>s.toks,rfl,fun b o e hne=>(Heap.get?_update_ne _ _ _ _ (fun q=>hne _ (.head _) q.symm)).trans e,fun p hp=>(by cases hp),by simp,rfl,fun p hp=>?_,rfl,rfl,rfl⟩
  obtain rfl:p = _:=by simpa [putO,zipO] using hp
  exact upd_it s.heap it _ (strOf x) t i _ hit _ (by simp [itO,Obj.mapFields,rawInt]) rfl

noncomputable def itEnd (cls:String) (i:Nat):Obj:=⟨.type cls,none,.fields ⟨[.none,.int (Int.ofNat i) 0]⟩,⟨[]⟩⟩
noncomputable def stopO (a:Nat):Obj:=⟨.type "StopIteration",none,.fields ⟨[.ref a,.none,.none,.none,.bool false,.none]⟩,⟨[]⟩⟩
noncomputable def emptyT:Obj:=⟨.type "tuple",none,.seq ⟨[]⟩ 0,⟨[]⟩⟩
noncomputable def endH (h:Heap) (it:Addr):Heap:=h.update it (Obj.mapFields (·.setIfInBounds 0 .none))
theorem end_wp {p:Program} {w:World} {A:Around} {s:Shared} {Q:Value→Shared→Prop} {E:Value→Shared→Prop} {x:List Nat} {t:Nat} {it:Addr} {cls:String} (hcls:cls = "str_iterator" ∨ cls = "str_ascii_iterator") (hh:A.handled = none)
    (hit:s.heap.get? it = some (itO cls (strOf x) t x.length)) (hE:E (.ref ((endH s.heap it).push emptyT).objs.size) { s with heap:=((endH s.heap it).push emptyT).push (stopO (endH s.heap it).objs.size) }) :
    wpAny (model p w) A (call (.builtin (cls ++ ".__next__")) [.ref it]) Q E s:=by
  have hT:s.TypeIs (.ref it) cls:=⟨_,hit,rfl⟩
  rcases hcls with rfl | rfl
  · refine wpAny_call_entry F.slot_str_iterator_next hT F.entry_str_iterator_next ?_ (F.args_str_iterator_next_1 _)
    show wpAny _ _ (field (.ref it) 0 >>= _) _ _ s
    refine wpAny_bind (wpAny_field hit rfl (x:=.str (strOf x) t) rfl ?_)
    show wpAny _ _ (field (.ref it) 1 >>= _) _ _ s
    refine wpAny_bind (wpAny_field hit rfl (x:=.int (Int.ofNat x.length) 0) rfl ?_)
    have e:(strOf x).cps[(Int.ofNat x.length).toNat]? = none:=by simp
    simp only [e]
    refine wpAny_bind (wpAny_rule (wpAny_bind (wpAny_setField hit rfl (by simp) (wpAny_bind (wpAny_letGo ?_)))))
    show wpAny _ _ (newExc (.type "StopIteration") [] >>= _) _ _ _
    refine wpAny_bind ?_
    simp only [newExc,newTuple]
    refine wpAny_bind (wpAny_newObj_type ?_ (by size_fits))
    refine wpAny_bind (m:=firstArgMember _ _) (wpAny_of_eq (a:=Value.none) (by first | rfl | (simp only [firstArgMember]; rfl)) ?_)
    refine wpAny_newObj_type ?_ (by size_fits)
    simp only [raiseNew]
    refine wpAny_bind (wpAny_handled ?_)
    rw [show A.in1.handled = none from hh]
    exact wpAny_bind (wpAny_pure (wpAny_throw hE))
  · refine wpAny_call_entry F.slot_str_ascii_iterator_next hT F.entry_str_ascii_iterator_next ?_ (F.args_str_ascii_iterator_next_1 _)
    show wpAny _ _ (field (.ref it) 0 >>= _) _ _ s
    refine wpAny_bind (wpAny_field hit rfl (x:=.str (strOf x) t) rfl ?_)
    show wpAny _ _ (field (.ref it) 1 >>= _) _ _ s
    refine wpAny_bind (wpAny_field hit rfl (x:=.int (Int.ofNat x.length) 0) rfl ?_)
    have e:(strOf x).cps[(Int.ofNat x.length).toNat]? = none:=by simp
    simp only [e]
    refine wpAny_bind (wpAny_rule (wpAny_bind (wpAny_setField hit rfl (by simp) (wpAny_bind (wpAny_letGo ?_)))))
    show wpAny _ _ (newExc (.type "StopIteration") [] >>= _) _ _ _
    refine wpAny_bind ?_
    simp only [newExc,newTuple]
    refine wpAny_bind (wpAny_newObj_type ?_ (by size_fits))
    refine wpAny_bind (m:=firstArgMember _ _) (wpAny_of_eq (a:=Value.none) (by first | rfl | (simp only [firstArgMember]; rfl)) ?_)
    refine wpAny_newObj_type ?_ (by size_fits)
    simp only [raiseNew]
    refine wpAny_bind (wpAny_handled ?_)
    rw [show A.in1.handled = none from hh]
    exact wpAny_bind (wpAny_pure (wpAny_throw hE))
theorem end_ok {x:List Nat} {t:Nat} {it:Addr} {cls:String} (hcls:cls = "str_iterator" ∨ cls = "str_ascii_iterator") :
    CallN V ks (.call (.builtin (cls ++ ".__next__")) ⟨[.ref it],[]⟩) [(it,itO cls (strOf x) t x.length)] []
      (fun v=>⟨some [itEnd cls x.length],[(v 3,stopO (v 4)),(v 4,emptyT)],.error (.ref (v 3))⟩):=by
  intro bw cd R sz tk gn _ hc hR pos V' u M G
  have hex:exactF (.builtin (cls ++ ".__next__")) = false:=by rcases hcls with rfl | rfl <;> kernel_rfl
  obtain ⟨v,rfl,hv⟩:=norm_call1 hc hex
  obtain rfl:=noTok_ref hv
  obtain ⟨o,rfl,ho⟩:=norm_one hR
  obtain rfl:=norm_fields ho
  refine goes_callR u fun A hh s r=>?_
  have hit:s.heap.get? it = some (itO cls (strOf x) t x.length):=(r.mem _ (.head _)).2
  have hsz:(endH s.heap it).objs.size = s.heap.objs.size:=Heap.size_after_update ..
  refine end_wp hcls hh hit ⟨fun n=>match n with | 0=>s.heap.objs.size+1 | _=>s.heap.objs.size,?_,fun b o e hne=>Heap.get?_push_of_some _ (Heap.get?_push_of_some _ ((Heap.get?_update_ne _ _ _ _ (fun q=>hne _ (.head _) q.symm)).trans e)),fun p hp=>?_,?_,rfl,fun p hp=>?_,rfl,rfl,rfl⟩
  · show Except.error (Value.ref (Heap.push _ _).objs.size) = Except.error (Value.ref (s.heap.objs.size+1))
    rw [Heap.size_push,hsz]
  · rcases (by simpa using hp:p = _ ∨ p = _) with rfl | rfl
    · refine ⟨Nat.le_succ _,?_⟩
      have:=Heap.get?_push_size ((endH s.heap it).push emptyT) (o:=stopO s.heap.objs.size) rfl
      rw [Heap.size_push,hsz] at this
      show Heap.get? (Heap.push _ _) (s.heap.objs.size+1) = some (stopO s.heap.objs.size)
      refine Eq.trans ?_ this
      rw [← hsz]
    · refine ⟨Nat.le_refl _,?_⟩
      have:=Heap.get?_push_size (endH s.heap it) (o:=emptyT) rfl
      rw [hsz] at this
      exact Heap.get?_push_of_some _ this
  · show [s.heap.objs.size+1,s.heap.objs.size].Nodup
    simp
  · obtain rfl:p = _:=by simpa [putO,zipO] using hp
    exact Heap.get?_push_of_some _ (Heap.get?_push_of_some _ (upd_it s.heap it _ (strOf x) t x.length _ hit _ (by simp [itO,Obj.mapFields]; rfl) rfl))
end
end Mine
end
section
open PySem PySem.W PySem.W.X PyProof.Rows
namespace Mine
noncomputable def enO (tup:Value) (it:Nat) (i:Int) (lv:Value):Obj:=⟨.type "enumerate",none,.fields ⟨[tup,.bool false,.ref it,.int i 0,.none,lv]⟩,⟨[]⟩⟩
theorem norm_two {R:List (Addr × Obj)} {p q:Addr × Obj} (h:R.map normM = [p,q]):∃ o o',R = [(p.1,o),(q.1,o')] ∧ normM (p.1,o) = p ∧ normM (q.1,o') = q:=by
  cases R with
  | nil=>exact absurd h (by simp)
  | cons a R =>
    rw [List.map_cons] at h
    have h1:normM a = p:=(List.cons.inj h).1
    obtain ⟨o',rfl,h3⟩:=norm_one (List.cons.inj h).2
    have e:(normM a).1 = p.1:=congrArg Prod.fst h1
    have e:a.1 = p.1:=e
    have e2:(p.1,a.2) = a:=by rw [← e]
    exact ⟨a.2,o',by rw [e2],by rw [e2]; exact h1,h3⟩
section
variable {w:World} {b2:Bool} {h0:Heap} {B:List Frame} {d:Drawn} {os:OsState} {bw:List (Code × Pos)} {ks:List Nat}
theorem enewS_ok {x:List Nat} {t:Nat}:CallN (view w b2 h0 B bw d os) [1,8,2,1,1,2,1,7] (.call (.type "enumerate") ⟨[.str (strOf x) t],[]⟩) [] []
    (fun v=>⟨none,[(v 3,enO .none (v 4) 0 .none),(v 4,itO (itCls x) (strOf x) t 0)],.ok (.ret (.ref (v 3)))⟩):=by
  intro bw' c R sz tk gn hk hc hR pos V' u M G
  obtain ⟨B',rfl,O⟩:=under_view u
  obtain rfl:=norm_callX hc (by kernel_rfl)
  obtain rfl:=norm_none hR
  obtain ⟨c0,p0,r0,rfl,k0,hk⟩:=ks_cons hk
  obtain ⟨c1,p1,r1,rfl,k1,hk⟩:=ks_cons hk
  obtain ⟨c2,p2,r2,rfl,k2,hk⟩:=ks_cons hk
  obtain ⟨c3,p3,r3,rfl,k3,hk⟩:=ks_cons hk
  obtain ⟨c4,p4,r4,rfl,k4,hk⟩:=ks_cons hk
  obtain ⟨c5,p5,r5,rfl,k5,hk⟩:=ks_cons hk
  obtain ⟨c6,p6,r6,rfl,k6,hk⟩:=ks_cons hk
  obtain ⟨c7,p7,r7,rfl,k7,hk⟩:=ks_cons hk
  obtain rfl:=ks_nil hk
  obtain ⟨_,_,rfl⟩:=shp_func k0
  obtain ⟨_,rfl⟩:=shp_gen k1
  obtain ⟨_,_,_,_,_,rfl⟩:=shp_for k2
  obtain ⟨_,_,rfl⟩:=shp_func k3
  obtain ⟨_,_,rfl⟩:=shp_func k4
  obtain ⟨_,_,_,_,_,rfl⟩:=shp_for k5
  obtain ⟨_,_,rfl⟩:=shp_func k6
  obtain ⟨_,rfl⟩:=shp_caller k7
  rw [← den_eq]
  have hi:=fun bw ks=>iter_ok (V:=view w b2 h0 B' bw d os) (ks:=ks) (x:=x) (t:=t)
  by_cases ha:x.all (· < 128) = true
  · have e:itCls x = "str_ascii_iterator":=if_pos ha
    rw [e] at hi ⊢
    refine (en_new_str_ascii_iteratorS w b2 h0 B' d os pos t (strOf x) _ _ _ _ _ _ _ _ _ _ _ _ _ _ _ _ _ _ _ _ _ _ _ _ _ _ _ _ sz tk gn M G O (fun v=>hi _ _)).monoE fun v=>?_
    exact ⟨fun i=>match i with | 0=>v 0 0+1 | 1=>v 0 1 | 2=>v 0 2 | 3=>v 0 0 | _=>v 0 3,_,_,rfl⟩
  · have e:itCls x = "str_iterator":=if_neg ha
    rw [e] at hi ⊢
    refine (en_new_str_iteratorS w b2 h0 B' d os pos t (strOf x) _ _ _ _ _ _ _ _ _ _ _ _ _ _ _ _ _ _ _ _ _ _ _ _ _ _ _ _ sz tk gn M G O (fun v=>hi _ _)).monoE fun v=>?_
    exact ⟨fun i=>match i with | 0=>v 0 0+1 | 1=>v 0 1 | 2=>v 0 2 | 3=>v 0 0 | _=>v 0 3,_,_,rfl⟩
theorem enewL_ok {x:List Nat} {t:Nat}:CallN (view w b2 h0 B bw d os) [1,8,2,1,2,1,7] (.call (.type "enumerate") ⟨[.str (strOf x) t],[]⟩) [] []
    (fun v=>⟨none,[(v 3,enO .none (v 4) 0 .none),(v 4,itO (itCls x) (strOf x) t 0)],.ok (.ret (.ref (v 3)))⟩):=by
  intro bw' c R sz tk gn hk hc hR pos V' u M G
  obtain ⟨B',rfl,O⟩:=under_view u
  obtain rfl:=norm_callX hc (by kernel_rfl)
  obtain rfl:=norm_none hR
  obtain ⟨c0,p0,r0,rfl,k0,hk⟩:=ks_cons hk
  obtain ⟨c1,p1,r1,rfl,k1,hk⟩:=ks_cons hk
  obtain ⟨c2,p2,r2,rfl,k2,hk⟩:=ks_cons hk
  obtain ⟨c3,p3,r3,rfl,k3,hk⟩:=ks_cons hk
  obtain ⟨c5,p5,r5,rfl,k5,hk⟩:=ks_cons hk
  obtain ⟨c6,p6,r6,rfl,k6,hk⟩:=ks_cons hk
  obtain ⟨c7,p7,r7,rfl,k7,hk⟩:=ks_cons hk
  obtain rfl:=ks_nil hk
  obtain ⟨_,_,rfl⟩:=shp_func k0
  obtain ⟨_,rfl⟩:=shp_gen k1
  obtain ⟨_,_,_,_,_,rfl⟩:=shp_for k2
  obtain ⟨_,_,rfl⟩:=shp_func k3
  obtain ⟨_,_,_,_,_,rfl⟩:=shp_for k5
  obtain ⟨_,_,rfl⟩:=shp_func k6
  obtain ⟨_,rfl⟩:=shp_caller k7
  rw [← den_eq]
  have hi:=fun bw ks=>iter_ok (V:=view w b2 h0 B' bw d os) (ks:=ks) (x:=x) (t:=t)
  by_cases ha:x.all (· < 128) = true
  · have e:itCls x = "str_ascii_iterator":=if_pos ha
    rw [e] at hi ⊢
    refine (en_new_str_ascii_iteratorL w b2 h0 B' d os pos t (strOf x) _ _ _ _ _ _ _ _ _ _ _ _ _ _ _ _ _ _ _ _ _ _ _ _ _ sz tk gn M G O (fun v=>hi _ _)).monoE fun v=>?_
    exact ⟨fun i=>match i with | 0=>v 0 0+1 | 1=>v 0 1 | 2=>v 0 2 | 3=>v 0 0 | _=>v 0 3,_,_,rfl⟩
  · have e:itCls x = "str_iterator":=if_neg ha
    rw [e] at hi ⊢
    refine (en_new_str_iteratorL w b2 h0 B' d os pos t (strOf x) _ _ _ _ _ _ _ _ _ _ _ _ _ _ _ _ _ _ _ _ _ _ _ _ _ sz tk gn M G O (fun v=>hi _ _)).monoE fun v=>?_
    exact ⟨fun i=>match i with | 0=>v 0 0+1 | 1=>v 0 1 | 2=>v 0 2 | 3=>v 0 0 | _=>v 0 3,_,_,rfl⟩

theorem enext_ok {x:List Nat} {t k c e it:Nat} {lv:Value} (hx:x[k]? = some c):CallN (view w b2 h0 B bw d os) ks (.call (.builtin "enumerate.__next__") ⟨[.ref e],[]⟩)
    [(e,enO .none it (Int.ofNat k) lv),(it,itO (itCls x) (strOf x) t k)] []
    (fun v=>⟨some [enO (.int (Int.ofNat (v 3)) 0) it (Int.ofNat k+1) (.str (strOf [c]) (v 4)),itO (itCls x) (strOf x) t (k+1)],[(v 3,⟨.type "tuple",none,.seq ⟨[.int (Int.ofNat k) (v 5),.str (strOf [c]) (v 4)]⟩ 0,⟨[]⟩⟩)],.ok (.ret (.ref (v 3)))⟩):=by
  intro bw' cd R sz tk gn hk hc hR pos V' u M G
  obtain ⟨B',rfl,O⟩:=under_view u
  obtain ⟨v,rfl,hv⟩:=norm_call1 hc
  obtain rfl:=noTok_ref hv
  obtain ⟨o,o',rfl,ho,ho'⟩:=norm_two hR
  obtain rfl:=norm_fields ho
  obtain rfl:=norm_fields ho'
  rw [← den_eq]
  by_cases ha:x.all (· < 128) = true
  · have e1:itCls x = "str_ascii_iterator":=if_pos ha
    rw [e1]
    refine (en_next_str_ascii_iterator w b2 h0 B' d os pos k lv e it t (strOf x) (strOf [c]) bw' sz tk gn M G O (fun v=>next_ok (cls := "str_ascii_iterator") hx (.inr rfl))).monoE fun v=>?_
    exact ⟨fun i=>match i with | 0=>v 0 0+1 | 1=>v 0 1+1 | 2=>v 0 2 | 3=>v 0 0 | 4=>v 0 3 | _=>v 0 1,_,_,rfl⟩
  · have e1:itCls x = "str_iterator":=if_neg ha
    rw [e1]
    refine (en_next_str_iterator w b2 h0 B' d os pos k lv e it t (strOf x) (strOf [c]) bw' sz tk gn M G O (fun v=>next_ok (cls := "str_iterator") hx (.inl rfl))).monoE fun v=>?_
    exact ⟨fun i=>match i with | 0=>v 0 0+1 | 1=>v 0 1+1 | 2=>v 0 2 | 3=>v 0 0 | 4=>v 0 3 | _=>v 0 1,_,_,rfl⟩
theorem eend_ok {x:List Nat} {t e it:Nat} {lv:Value}:CallN (view w b2 h0 B bw d os) ks (.call (.builtin "enumerate.__next__") ⟨[.ref e],[]⟩)
    [(e,enO .none it (Int.ofNat x.length) lv),(it,itO (itCls x) (strOf x) t x.length)] []
    (fun v=>⟨some [enO .none it (Int.ofNat x.length) lv,itEnd (itCls x) x.length],[(v 3,stopO (v 4)),(v 4,emptyT)],.error (.ref (v 3))⟩):=by
  intro bw' cd R sz tk gn hk hc hR pos V' u M G
  obtain ⟨B',rfl,O⟩:=under_view u
  obtain ⟨v,rfl,hv⟩:=norm_call1 hc
  obtain rfl:=noTok_ref hv
  obtain ⟨o,o',rfl,ho,ho'⟩:=norm_two hR
  obtain rfl:=norm_fields ho
  obtain rfl:=norm_fields ho'
  rw [← den_eq]
  by_cases ha:x.all (· < 128) = true
  · have e1:itCls x = "str_ascii_iterator":=if_pos ha
    rw [e1]
    refine (en_end_str_ascii_iterator w b2 h0 B' d os pos x.length lv e it 0 (strOf x) t (strOf x) bw' sz tk gn M G O (fun v=>end_ok (cls := "str_ascii_iterator") (.inr rfl))).monoE fun v=>?_
    exact ⟨fun i=>match i with | 0=>v 0 0 | 1=>v 0 1 | 2=>v 0 2 | 3=>v 0 3 | _=>v 0 4,_,_,rfl⟩
  · have e1:itCls x = "str_iterator":=if_neg ha
    rw [e1]
    refine (en_end_str_iterator w b2 h0 B' d os pos x.length lv e it 0 (strOf x) t (strOf x) bw' sz tk gn M G O (fun v=>end_ok (cls := "str_iterator") (.inl rfl))).monoE fun v=>?_
    exact ⟨fun i=>match i with | 0=>v 0 0 | 1=>v 0 1 | 2=>v 0 2 | 3=>v 0 3 | _=>v 0 4,_,_,rfl⟩
end
end Mine
end
section
open PySem PySem.W PySem.W.X PyProof.Rows
namespace Mine
noncomputable def strVals:List (List Nat)→(Nat→Nat)→List Value
  | [],_=>[]
  | x::r,f=>.str (strOf x) (f 0)::strVals r fun i=>f (i+1)
noncomputable def noToks (out:List (List Nat)):List Value:=out.map fun l=>.str (strOf l) 0
theorem strVals_of:∀ {out:List (List Nat)} {vs:List Value},vs.map noTok = noToks out→∃ f,vs = strVals out f
  | [],[],_=>⟨fun _=>0,rfl⟩
  | [],_::_,h=>by cases h
  | _::_,[],h=>by cases h
  | x::out,v::vs,h=>by
    simp only [List.map_cons,noToks,List.cons.injEq] at h
    obtain ⟨t,rfl⟩:=noTok_str h.1
    obtain ⟨f,rfl⟩:=strVals_of h.2
    exact ⟨fun i=>match i with | 0=>t | i+1=>f i,rfl⟩
theorem strVals_no:∀ (out:List (List Nat)) (f:Nat→Nat),(strVals out f).map noTok = noToks out
  | [],_=>rfl
  | x::r,f=>by
    show Value.str (strOf x) 0::(strVals r _).map noTok = _
    rw [strVals_no]; rfl
theorem norm_seq {l:Addr} {o:Obj} {rv:List Value} {n:Nat} (h:normM (l,o) = (l,listO (rv.map noTok) n)):∃ vs,o = listO vs n ∧ vs.map noTok = rv.map noTok:=norm_list h
section
variable {V:Vw} {ks:List Nat}
theorem append_ok {l:Addr} {rv:List Value} {out:List (List Nat)} {p:List Nat} {rn rn':Nat} (hr:rv.map noTok = noToks out) (hl:out.length ≤ 65536) (hn:rn' = rn+1) :
    CallN V ks (.call (.builtin "list.append") ⟨[.ref l,.str (strOf p) 0],[]⟩) [(l,listO (rv.map noTok) rn)] [] (fun v=>⟨some [listO (strVals (out ++ [p]) fun i=>v (i+3)) rn'],[],.ok (.ret .none)⟩):=by
  subst hn
  intro bw c R sz tk gn _ hc hR pos V' u M G
  obtain ⟨v,v',rfl,hv,hv'⟩:=norm_call2 hc
  obtain rfl:=noTok_ref hv
  obtain ⟨t,rfl⟩:=noTok_str hv'
  obtain ⟨o,rfl,ho⟩:=norm_one hR
  obtain ⟨vs,rfl,hvs⟩:=norm_seq ho
  have hlen:vs.length = out.length:=by
    have:=congrArg List.length (hvs.trans hr)
    simpa [noToks] using this
  refine goes_callR u fun A hh s r=>?_
  have hit:s.heap.get? l = some (listO vs rn):=(r.mem _ (.head _)).2
  refine call_meets F.slot_list_append ⟨_,hit,rfl⟩ F.entry_list_append (F.args_list_append_2 _ _) (AutoListH.list_append_list_val_0 l ⟨vs⟩ rn (.str (strOf p) t) (by show vs.length ≤ sizeLine; rw [sizeLine_eq]; omega)) ⟨hit,?_⟩
  obtain ⟨f,hf⟩:=strVals_of (out:=out ++ [p]) (vs:=vs ++ [.str (strOf p) t]) (by rw [List.map_append,hvs,hr]; simp [noToks,noTok])
  refine ⟨f,rfl,fun b o e hne=>(Heap.get?_update_ne _ _ _ _ (fun q=>hne _ (.head _) q.symm)).trans e,fun p hp=>(by cases hp),by simp,rfl,fun q hq=>?_,rfl,rfl,rfl⟩
  obtain rfl:q = _:=by simpa [putO,zipO] using hq
  show (s.heap.update l _).get? l = some (listO (strVals (out ++ [p]) f) (rn+1))
  rw [← hf]
  have e:Obj.mapSeq (fun x=>x.push (Value.str (strOf p) t)) (listO vs rn) = listO (vs ++ [.str (strOf p) t]) (rn+1):=by
    simp [Obj.mapSeq,listO]
  rw [← e]
  exact Heap.get?_update_self _ hit (by rw [e]; rfl)

theorem slice_end_ok {x:List Nat} {a:Addr} {i:Nat} {ti:Nat} (hi:i ≤ x.length) (hx:x.length ≤ 65536) :
    CallN V ks (.call (.builtin "str.__getitem__") ⟨[.str (strOf x) 0,.ref a],[]⟩) [(a,⟨.type "slice",none,.fields ⟨[.int (i:Int) ti,.none,.none]⟩,⟨[]⟩⟩)] []
      (fun v=>⟨none,[],.ok (.ret (.str (strOf (x.drop i)) (v 3)))⟩):=by
  intro bw c R sz tk gn _ hc hR pos V' u M G
  obtain ⟨v,v',rfl,hv,hv'⟩:=norm_call2 hc
  obtain ⟨t,rfl⟩:=noTok_str hv
  obtain rfl:=noTok_ref hv'
  obtain ⟨o,rfl,ho⟩:=norm_one hR
  obtain rfl:=norm_fields ho
  refine goes_call u (res:=fun t=>.str (strOf (x.drop i)) t) fun A hh s r=>?_
  have hs:s.heap.IsSlice a (some ((i:Int),ti)) none none:=⟨_,(r.mem _ (.head _)).2,rfl,rfl⟩
  refine call_meets F.slot_str_getitem (typeIs_str s (strOf x) t) F.entry_str_getitem (F.args_str_getitem_2 _ _) (meets_str_getitem_slice (strOf x) t a _ _ none rfl) ⟨hs,?_⟩
  have e0:=StrLaws.sliceIdx_none_hi (some (i:Int)) (strOf x).length
  have e:=StrLaws.sliced_plain (strOf x) (show i ≤ x.length from hi) (Nat.le_refl _)
  unfold sliceMade slicePicked
  show Made.post (if (((1:Int) == 1) && ((Builtin.Str.strSliceIndices (some (i:Int)) none 1 (strOf x).length).length == (strOf x).length)) = true then .val (.str (strOf x) t) else .str ⟨((Builtin.Str.strSliceIndices (some (i:Int)) none 1 (strOf x).length).filterMap ((strOf x).cps[·]?)).toArray⟩) _ s
  rw [e0]
  have e':((Builtin.Str.strSliceIndices (some (i:Int)) (some ((strOf x).length:Int)) 1 (strOf x).length).filterMap ((strOf x).cps[·]?)) = x.drop i:=by
    rw [show ((strOf x).length:Int) = ((x.length:Nat):Int) from rfl]
    refine e.trans ?_
    show (x.drop i).take (x.length - i) = _
    rw [List.take_of_length_le (by rw [List.length_drop]; omega)]
  rw [e']
  by_cases hw:(((1:Int) == 1) && ((Builtin.Str.strSliceIndices (some (i:Int)) (some ((strOf x).length:Int)) 1 (strOf x).length).length == (strOf x).length)) = true
  · rw [if_pos hw]
    refine ⟨t,?_,fun _ _ e=>e,rfl,rfl,rfl⟩
    have hl:(Builtin.Str.strSliceIndices (some (i:Int)) (some ((strOf x).length:Int)) 1 (strOf x).length).length = (strOf x).length:=by simpa using hw
    have hl:(Builtin.Str.strSliceIndices (some (i:Int)) (some ((x.length:Nat):Int)) 1 x.length).length = x.length:=hl
    rw [StrLaws.strSliceIndices_plain (show i ≤ x.length from hi) (Nat.le_refl _),List.length_map,List.length_range] at hl
    have h3:i = 0 ∨ x.length = 0:=by omega
    rcases h3 with rfl | h3
    · rfl
    · have:x = []:=List.length_eq_zero_iff.mp h3
      subst this
      simp
  · rw [if_neg hw]
    refine ⟨?_,s.toks,rfl,fun _ _ e=>e,rfl,rfl,rfl⟩
    show (x.drop i).length ≤ sizeLine
    rw [sizeLine_eq,List.length_drop]; omega
theorem glued_fold:∀ (rest:List (List Nat)) (a:List Nat),(rest.map strOf).foldl (fun acc (p:Str)=>acc ++ z26.cps ++ p.cps) (⟨a⟩:Array Nat) = ⟨a ++ rest.flatten⟩
  | [],a=>by simp
  | x::r,a=>by
    rw [List.map_cons,List.foldl_cons,List.flatten_cons]
    have:(⟨a⟩:Array Nat) ++ z26.cps ++ (strOf x).cps = ⟨a ++ x⟩:=by
      show (⟨a⟩:Array Nat) ++ (⟨[]⟩:Array Nat) ++ (⟨x⟩:Array Nat) = ⟨a ++ x⟩
      simp
    rw [this,glued_fold r,List.append_assoc]
theorem glued_nil (out:List (List Nat)):Txt.join z26 (out.map strOf) = strOf out.flatten:=by
  cases out with
  | nil=>rfl
  | cons x r =>
    show Str.mk ((r.map strOf).foldl _ (strOf x).cps) = _
    exact congrArg Str.mk (glued_fold r x)
theorem join_ok {l:Addr} {rv:List Value} {out:List (List Nat)} {rn:Nat} (hr:rv.map noTok = noToks out) (hl:(out.map List.length).sum ≤ 65536) :
    CallN V ks (.call (.builtin "str.join") ⟨[.str z26 0,.ref l],[]⟩) [(l,listO (rv.map noTok) rn)] [] (fun v=>⟨none,[],.ok (.ret (.str (strOf out.flatten) (v 3)))⟩):=by
  intro bw c R sz tk gn _ hc hR pos V' u M G
  obtain ⟨v,v',rfl,hv,hv'⟩:=norm_call2 hc
  obtain ⟨t,rfl⟩:=noTok_str hv
  obtain rfl:=noTok_ref hv'
  obtain ⟨o,rfl,ho⟩:=norm_one hR
  obtain ⟨vs,rfl,hvs⟩:=norm_seq ho
  refine goes_call u (res:=fun t=>.str (strOf out.flatten) t) fun A hh s r=>?_
  have hli:=isList_of r (l:=l) (.head _)
  have key:∃ ps:List (Str × Tok),vs = strValues ps ∧ ps.map (·.1) = out.map strOf:=by
    have h:=hvs.trans hr
    clear hR hli ho hvs hr hl r
    induction out generalizing vs with
    | nil=>exact ⟨[],by cases vs <;> simp_all [noToks,strValues],rfl⟩
    | cons x out ih =>
      cases vs with
      | nil=>cases h
      | cons v vs =>
        simp only [List.map_cons,noToks,List.cons.injEq] at h
        obtain ⟨t,rfl⟩:=noTok_str h.1
        obtain ⟨ps,rfl,e⟩:=ih vs h.2
        exact ⟨(strOf x,t)::ps,rfl,by rw [List.map_cons,e]; rfl⟩
  obtain ⟨ps,rfl,hps⟩:=key
  refine SC.join hli hps (joinOk_of ?_) fun t' k=>?_
  · rw [List.map_map]
    show (out.map List.length).sum+(out.map strOf).length * 0 ≤ _
    omega
  · rw [glued_nil]
    exact ⟨t',rfl,fun _ _ e=>e,rfl,rfl,rfl⟩
end
theorem ev_ine {x y:Int} {b:Bool} (h:(x != y) = b):EvP "int.__ne__" [.int x 0,.int y 0] (retB b):=evII fun k m=>by
  rw [den_builtin F.entry_int_ne,← h]; rfl
theorem ev_ilt {x y:Int} {b:Bool} (h:decide (x < y) = b):EvP "int.__lt__" [.int x 0,.int y 0] (retB b):=evII fun k m=>by
  rw [den_builtin F.entry_int_lt,← h]; rfl
theorem ev_add1 (a c:Nat):EvP "str.__add__" [.str (strOf [a]) 0,.str (strOf [c]) 0] (retS (sAdd (strOf [a]) (strOf [c]))):=evSS fun k m=>by
  rw [den_builtin F.entry_str_add]; rfl
theorem ev_last2 (a c:Nat):EvP "str.__getitem__" [.str (strOf [a,c]) 0,.int (-1) 0] (retS (strOf [c])):=evSI fun k m=>by
  rw [den_builtin F.entry_str_getitem]; rfl
theorem ev_last1 (c:Nat):EvP "str.__getitem__" [.str (strOf [c]) 0,.int (-1) 0] (retS (strOf [c])):=evSI fun k m=>by
  rw [den_builtin F.entry_str_getitem]; rfl
theorem evS {id:String} {x:Str} {t:Sem PySem.Fin} (h:∀ k,denote table (.builtin id ⟨[.str x k],[]⟩) = t):EvP id [.str x 0] t:=fun l e=>by
  obtain ⟨v,rfl,e1⟩:=map1 e
  obtain ⟨k,rfl⟩:=noTok_str e1
  exact h k
theorem ev_len2 (a c:Nat):EvP "str.__len__" [.str (strOf [a,c]) 0] (retI 2):=evS fun k=>by
  rw [den_builtin F.entry_str_len]; rfl
theorem ev_len1 (c:Nat):EvP "str.__len__" [.str (strOf [c]) 0] (retI 1):=evS fun k=>by
  rw [den_builtin F.entry_str_len]; rfl
end Mine
end
section
open PySem PySem.W PySem.W.X PyProof.Rows
namespace Mine
structure SqZ where
  vz:Nat→Nat→Nat
  x:List Nat
  pos0:Pos
  L:Nat
  gO:Nat
  gL:Nat
  rl:Nat
  g:Nat
  t0:Nat
  t1:Nat
  t2:Nat
  t3:Nat
  st:Int
  t4:Nat
  t5:Nat
  t6:Nat
  t7:Nat
  t8:Nat
  qa0:List Stmt
  qb0:Env
  qq0:Pos
  qa1:List Stmt
  qb1:Env
  qq1:Pos
  qa2:Expr
  qb2:Value
  qc2:List Stmt
  qd2:List Stmt
  qe2:Env
  qq2:Pos
  qa3:List Stmt
  qb3:Env
  qq3:Pos
  qa4:Args
  qq4:Pos
  sz:Nat
  tk:Nat
  gn:Nat
  M:List (Addr × Obj)
  G:List (Nat × GenState)
noncomputable abbrev sqBW (Z:SqZ):List (Code × Pos):=[(.func Z.qa0 Z.qb0,Z.qq0),(.func Z.qa1 Z.qb1,Z.qq1),(.forLoop Z.qa2 Z.qb2 Z.qc2 Z.qd2 Z.qe2,Z.qq2),(.func Z.qa3 Z.qb3,Z.qq3),(.builtin "claim.caller" Z.qa4,Z.qq4)]
noncomputable def sqFS (w:World) (b2:Bool) (h0:Heap) (B:List Frame) (d:Drawn) (os:OsState) (Z:SqZ):List Frame:=sq_in_fs Z.vz w b2 h0 B d os Z.pos0 (itCls Z.x) Z.L Z.gO Z.gL Z.rl Z.g Z.t0 Z.t1 (strOf Z.x) Z.t2 Z.t3 Z.st Z.t4 Z.t5 Z.t6 Z.t7 Z.t8 Z.qa0 Z.qb0 Z.qq0 Z.qa1 Z.qb1 Z.qq1 Z.qa2 Z.qb2 Z.qc2 Z.qd2 Z.qe2 Z.qq2 Z.qa3 Z.qb3 Z.qq3 Z.qa4 Z.qq4 Z.sz Z.tk Z.gn Z.M Z.G
noncomputable abbrev ieC (vz:Nat→Nat→Nat) (gL:Nat):Code:=.forLoop fIe_t29 (.ref (vz 0 3)) fIe_b29 [] (envF fIes fIeq 35 [] gL)
structure QS where
  k:Nat
  esc:Bool
  st:Nat
  op:Option Nat
  out:List (List Nat)
noncomputable def opV (op:Option Nat) (t:Nat):Value:=match op with
  | none=>.none
  | some o=>.int (Int.ofNat o) t
noncomputable def unit (b c:Nat):List Nat:=match b with
  | 0=>[c]
  | _+1=>[92,c]
noncomputable def sqM0 (P:Params) (Z:SqZ) (T:Nat→Nat) (k:Nat) (lvv opv:Value) (st:Int) (gpv:Value) (rv:List Value) (rn:Nat):List (Addr × Obj) :=
  ((Z.vz 0 3),⟨(.type "enumerate"),none,.fields ⟨[.none,(.bool false),(.ref (Z.vz 0 4)),(.int (Int.ofNat k) 0),.none,lvv]⟩,⟨[]⟩⟩)::((Z.vz 0 4),⟨(.type (itCls Z.x)),none,.fields ⟨[(.str (strOf Z.x) (T 9)),(.int (Int.ofNat k) 0)]⟩,⟨[]⟩⟩)::(Z.L,nsO [ent P z14 (T 0) (.str (strOf Z.x) (T 9)),ent P z22 (T 1) (.int st (T 2)),ent P z23 (T 3) opv,ent P z24 (T 4) (.ref Z.rl)] 4)::(Z.gO,⟨(.type "generator"),none,.fields ⟨[(.int (Int.ofNat Z.g) 0),(.str z20 (T 7)),(.str z20 (T 8))]⟩,⟨[]⟩⟩)::(Z.gL,nsO [ent P z14 (T 10) (.str (strOf Z.x) (T 9)),ent P z15 (T 11) gpv,ent P z16 (T 12) (.bool false)] 3)::(Z.rl,listO rv rn)::Z.M
noncomputable def sqM1 (P:Params) (Z:SqZ) (T:Nat→Nat) (k:Nat) (lvv opv:Value) (st:Int) (gpv gcv:Value) (rv:List Value) (rn:Nat):List (Addr × Obj) :=
  ((Z.vz 0 3),⟨(.type "enumerate"),none,.fields ⟨[.none,(.bool false),(.ref (Z.vz 0 4)),(.int (Int.ofNat k) 0),.none,lvv]⟩,⟨[]⟩⟩)::((Z.vz 0 4),⟨(.type (itCls Z.x)),none,.fields ⟨[(.str (strOf Z.x) (T 9)),(.int (Int.ofNat k) 0)]⟩,⟨[]⟩⟩)::(Z.L,nsO [ent P z14 (T 0) (.str (strOf Z.x) (T 9)),ent P z22 (T 1) (.int st (T 2)),ent P z23 (T 3) opv,ent P z24 (T 4) (.ref Z.rl)] 4)::(Z.gO,⟨(.type "generator"),none,.fields ⟨[(.int (Int.ofNat Z.g) 0),(.str z20 (T 7)),(.str z20 (T 8))]⟩,⟨[]⟩⟩)::(Z.gL,nsO [ent P z14 (T 10) (.str (strOf Z.x) (T 9)),ent P z15 (T 11) gpv,ent P z16 (T 12) (.bool true),ent P z18 (T 13) gcv] 4)::(Z.rl,listO rv rn)::Z.M
noncomputable def sqM (P:Params) (Z:SqZ) (T:Nat→Nat) (k:Nat) (esc:Bool) (lvv opv:Value) (st:Int) (lpv luv gpv gcv:Value) (rv:List Value) (rn:Nat):List (Addr × Obj) :=
  ((Z.vz 0 3),⟨(.type "enumerate"),none,.fields ⟨[.none,(.bool false),(.ref (Z.vz 0 4)),(.int (Int.ofNat k) 0),.none,lvv]⟩,⟨[]⟩⟩)::((Z.vz 0 4),⟨(.type (itCls Z.x)),none,.fields ⟨[(.str (strOf Z.x) (T 9)),(.int (Int.ofNat k) 0)]⟩,⟨[]⟩⟩)::(Z.L,nsO [ent P z14 (T 0) (.str (strOf Z.x) (T 9)),ent P z22 (T 1) (.int st (T 2)),ent P z23 (T 3) opv,ent P z24 (T 4) (.ref Z.rl),ent P z15 (T 5) lpv,ent P z18 (T 6) luv] 6)::(Z.gO,⟨(.type "generator"),none,.fields ⟨[(.int (Int.ofNat Z.g) 0),(.str z20 (T 7)),(.str z20 (T 8))]⟩,⟨[]⟩⟩)::(Z.gL,nsO [ent P z14 (T 10) (.str (strOf Z.x) (T 9)),ent P z15 (T 11) gpv,ent P z16 (T 12) (.bool esc),ent P z18 (T 13) gcv] 4)::(Z.rl,listO rv rn)::Z.M
section
variable {w:World} {b2:Bool} {h0:Heap} {B:List Frame} {d:Drawn} {os:OsState} {Z:SqZ}
def SqK (Z:SqZ) (T:Nat→Nat):Prop:=T 0 = Z.t0 ∧ T 1 = Z.t2 ∧ T 3 = Z.t4 ∧ T 4 = Z.t5 ∧ T 9 = Z.t1
inductive Sq0 (w:World) (b2:Bool) (h0:Heap) (B:List Frame) (d:Drawn) (os:OsState) (Z:SqZ):St→Prop
  | it (T:Nat→Nat) (lvv gpv:Value) (p:Pos) (sz tk gn:Nat) (hA:SqK Z T):Sq0 w b2 h0 B d os Z (mk (den (ieC Z.vz Z.gL)) (ieC Z.vz Z.gL) p (sqFS w b2 h0 B d os Z) (sqM0 w.params Z T 0 lvv .none 0 gpv [] 0) sz tk ((Z.g,.running)::Z.G) gn)
inductive Sq1 (w:World) (b2:Bool) (h0:Heap) (B:List Frame) (d:Drawn) (os:OsState) (Z:SqZ):St→Prop
  | it (T:Nat→Nat) (lvv gpv gcv:Value) (p:Pos) (sz tk gn:Nat) (hA:SqK Z T):Sq1 w b2 h0 B d os Z (mk (den (ieC Z.vz Z.gL)) (ieC Z.vz Z.gL) p (sqFS w b2 h0 B d os Z) (sqM1 w.params Z T 1 lvv .none 0 gpv gcv [] 0) sz tk ((Z.g,.running)::Z.G) gn)
inductive SqAt (w:World) (b2:Bool) (h0:Heap) (B:List Frame) (d:Drawn) (os:OsState) (Z:SqZ) (q:QS):St→Prop
  | it (T:Nat→Nat) (lvv gpv gcv:Value) (a b c:Nat) (rv:List Value) (p:Pos) (sz tk gn:Nat) (hA:SqK Z T) (hB:rv.map noTok = noToks q.out):SqAt w b2 h0 B d os Z q (mk (den (ieC Z.vz Z.gL)) (ieC Z.vz Z.gL) p (sqFS w b2 h0 B d os Z) (sqM w.params Z T q.k q.esc lvv (opV q.op (T 14)) (Int.ofNat q.st) (.int (Int.ofNat a) (T 15)) (.str (strOf (unit b c)) (T 16)) gpv gcv rv q.out.length) sz tk ((Z.g,.running)::Z.G) gn)
theorem SqAt.eq {q:QS} {y y':St} (h:SqAt w b2 h0 B d os Z q y') (e:y = y'):SqAt w b2 h0 B d os Z q y:=e ▸ h
theorem eq_sign {a c:Nat} (h:a = c):EvP "str.__eq__" [.str (strOf [a]) 0,.str (strOf [c]) 0] (retB true):=ev_seq (by subst h; simp)
theorem ne_sign {a c:Nat} (h:a ≠ c):EvP "str.__eq__" [.str (strOf [a]) 0,.str (strOf [c]) 0] (retB false):=ev_seq (by simp [h])
theorem ne_two {a b c:Nat}:EvP "str.__eq__" [.str (sAdd (strOf [a]) (strOf [b])) 0,.str (strOf [c]) 0] (retB false):=ev_seq (by
  show ([a,b] == [c]) = false
  simp)

theorem sq_a0T (O:(view w b2 h0 B (sqBW Z) d os).Ok) {y:St} {c:Nat} (hc:Z.x[0]? = some c) (h1:c = 92) (h:Sq0 w b2 h0 B d os Z y):Goes (view w b2 h0 B (sqBW Z) d os) y (Sq1 w b2 h0 B d os Z):=by
  obtain ⟨T,lvv,gpv,p,sz,tk,gn,hK⟩:=h
  refine (sq_a0 (O:=O) (w:=w) (b2:=b2) (h0:=h0) (B:=B) (d:=d) (os:=os) (pos0:=p) (vz:=Z.vz) (pos0z:=Z.pos0) (t0z:=Z.t0) (t1z:=Z.t1) (t2z:=Z.t2) (t3z:=Z.t3) (stz:=Z.st) (t4z:=Z.t4) (t5z:=Z.t5) (t6z:=Z.t6) (t7z:=Z.t7) (t8z:=Z.t8) (szz:=Z.sz) (tkz:=Z.tk) (gnz:=Z.gn) (Mz:=Z.M) (Gz:=Z.G) (sc:=(itCls Z.x)) (k:=0) (L:=Z.L) (gO:=Z.gO) (gL:=Z.gL) (rl:=Z.rl) (g:=Z.g) (rv:=[]) (rn:=0) (gpv:=gpv) (lvv:=lvv) (opv:=.none) (t0:=(T 9)) (s:=(strOf Z.x)) (t1:=(T 0)) (t2:=(T 1)) (t3:=(T 2)) (st:=0) (t4:=(T 3)) (t5:=(T 4)) (t6:=(T 7)) (t7:=(T 8)) (t8:=(T 10)) (t9:=(T 11)) (t10:=0) (t11:=(T 12)) (c:=(strOf [c])) (qa0:=Z.qa0) (qb0:=Z.qb0) (qq0:=Z.qq0) (qa1:=Z.qa1) (qb1:=Z.qb1) (qq1:=Z.qq1) (qa2:=Z.qa2) (qb2:=Z.qb2) (qc2:=Z.qc2) (qd2:=Z.qd2) (qe2:=Z.qe2) (qq2:=Z.qq2) (qa3:=Z.qa3) (qb3:=Z.qb3) (qq3:=Z.qq3) (qa4:=Z.qa4) (qq4:=Z.qq4) (sz:=sz) (tk:=tk) (gn:=gn) (M:=Z.M) (G:=Z.G) (e0:=fun v=>enext_ok hc) (e1:=fun _=>eq_sign h1)).monoE fun v=>?_
  exact ⟨(fun i=>match i with | 0=>(T 0) | 1=>(T 1) | 2=>(T 2) | 3=>(T 3) | 4=>(T 4) | 7=>(T 7) | 8=>(T 8) | 9=>(T 9) | 10=>(T 10) | 11=>(T 11) | 12=>(T 12) | 13=>((v 0 1)+1) | _=>0),(.str (strOf [c]) (v 0 4)),(.int (Int.ofNat 0) (v 0 5)),(.str (strOf [c]) (v 0 4)),_,_,_,_,hK⟩
theorem sq_c0T (O:(view w b2 h0 B (sqBW Z) d os).Ok) {y:St} {c:Nat} (hc:Z.x[0]? = some c) (h1:c ≠ 92) (h2:c ≠ 34) (h:Sq0 w b2 h0 B d os Z y):Goes (view w b2 h0 B (sqBW Z) d os) y (SqAt w b2 h0 B d os Z ⟨1,false,0,none,[]⟩):=by
  obtain ⟨T,lvv,gpv,p,sz,tk,gn,hK⟩:=h
  refine (sq_c0 (O:=O) (w:=w) (b2:=b2) (h0:=h0) (B:=B) (d:=d) (os:=os) (pos0:=p) (vz:=Z.vz) (pos0z:=Z.pos0) (t0z:=Z.t0) (t1z:=Z.t1) (t2z:=Z.t2) (t3z:=Z.t3) (stz:=Z.st) (t4z:=Z.t4) (t5z:=Z.t5) (t6z:=Z.t6) (t7z:=Z.t7) (t8z:=Z.t8) (szz:=Z.sz) (tkz:=Z.tk) (gnz:=Z.gn) (Mz:=Z.M) (Gz:=Z.G) (sc:=(itCls Z.x)) (k:=0) (L:=Z.L) (gO:=Z.gO) (gL:=Z.gL) (rl:=Z.rl) (g:=Z.g) (rv:=[]) (rn:=0) (gpv:=gpv) (lvv:=lvv) (opv:=.none) (t0:=(T 9)) (s:=(strOf Z.x)) (t1:=(T 0)) (t2:=(T 1)) (t3:=(T 2)) (st:=0) (t4:=(T 3)) (t5:=(T 4)) (t6:=(T 7)) (t7:=(T 8)) (t8:=(T 10)) (t9:=(T 11)) (t10:=0) (t11:=(T 12)) (c:=(strOf [c])) (qa0:=Z.qa0) (qb0:=Z.qb0) (qq0:=Z.qq0) (qa1:=Z.qa1) (qb1:=Z.qb1) (qq1:=Z.qq1) (qa2:=Z.qa2) (qb2:=Z.qb2) (qc2:=Z.qc2) (qd2:=Z.qd2) (qe2:=Z.qe2) (qq2:=Z.qq2) (qa3:=Z.qa3) (qb3:=Z.qb3) (qq3:=Z.qq3) (qa4:=Z.qa4) (qq4:=Z.qq4) (sz:=sz) (tk:=tk) (gn:=gn) (M:=Z.M) (G:=Z.G) (e0:=fun v=>enext_ok hc) (e1:=fun _=>ne_sign h1) (e2:=fun _=>ne_sign h2)).monoE fun v=>?_
  exact ⟨(fun i=>match i with | 0=>(T 0) | 1=>(T 1) | 2=>(T 2) | 3=>(T 3) | 4=>(T 4) | 5=>((v 0 1)+3) | 6=>((v 0 1)+4) | 7=>(T 7) | 8=>(T 8) | 9=>(T 9) | 10=>(T 10) | 11=>(T 11) | 12=>(T 12) | 13=>((v 0 1)+1) | 15=>(v 0 5) | 16=>(v 0 4) | _=>0),(.str (strOf [c]) (v 0 4)),(.int (Int.ofNat 0) (v 0 5)),(.str (strOf [c]) (v 0 4)),0,0,c,[],_,_,_,_,hK,rfl⟩
theorem sq_q0T (O:(view w b2 h0 B (sqBW Z) d os).Ok) {y:St} {c:Nat} (hc:Z.x[0]? = some c) (h1:c ≠ 92) (h2:c = 34) (h:Sq0 w b2 h0 B d os Z y):Goes (view w b2 h0 B (sqBW Z) d os) y (SqAt w b2 h0 B d os Z ⟨1,false,0,some 0,[]⟩):=by
  obtain ⟨T,lvv,gpv,p,sz,tk,gn,hK⟩:=h
  refine (sq_q0 (O:=O) (w:=w) (b2:=b2) (h0:=h0) (B:=B) (d:=d) (os:=os) (pos0:=p) (vz:=Z.vz) (pos0z:=Z.pos0) (t0z:=Z.t0) (t1z:=Z.t1) (t2z:=Z.t2) (t3z:=Z.t3) (stz:=Z.st) (t4z:=Z.t4) (t5z:=Z.t5) (t6z:=Z.t6) (t7z:=Z.t7) (t8z:=Z.t8) (szz:=Z.sz) (tkz:=Z.tk) (gnz:=Z.gn) (Mz:=Z.M) (Gz:=Z.G) (sc:=(itCls Z.x)) (k:=0) (L:=Z.L) (gO:=Z.gO) (gL:=Z.gL) (rl:=Z.rl) (g:=Z.g) (rv:=[]) (rn:=0) (gpv:=gpv) (lvv:=lvv) (t0:=(T 9)) (s:=(strOf Z.x)) (t1:=(T 0)) (t2:=(T 1)) (t3:=(T 2)) (st:=0) (t4:=(T 3)) (t5:=(T 4)) (t6:=(T 7)) (t7:=(T 8)) (t8:=(T 10)) (t9:=(T 11)) (t10:=0) (t11:=(T 12)) (c:=(strOf [c])) (qa0:=Z.qa0) (qb0:=Z.qb0) (qq0:=Z.qq0) (qa1:=Z.qa1) (qb1:=Z.qb1) (qq1:=Z.qq1) (qa2:=Z.qa2) (qb2:=Z.qb2) (qc2:=Z.qc2) (qd2:=Z.qd2) (qe2:=Z.qe2) (qq2:=Z.qq2) (qa3:=Z.qa3) (qb3:=Z.qb3) (qq3:=Z.qq3) (qa4:=Z.qa4) (qq4:=Z.qq4) (sz:=sz) (tk:=tk) (gn:=gn) (M:=Z.M) (G:=Z.G) (e0:=fun v=>enext_ok hc) (e1:=fun _=>ne_sign h1) (e2:=fun _=>eq_sign h2)).monoE fun v=>?_
  exact ⟨(fun i=>match i with | 0=>(T 0) | 1=>(T 1) | 2=>(T 2) | 3=>(T 3) | 4=>(T 4) | 5=>((v 0 1)+3) | 6=>((v 0 1)+4) | 7=>(T 7) | 8=>(T 8) | 9=>(T 9) | 10=>(T 10) | 11=>(T 11) | 12=>(T 12) | 13=>((v 0 1)+1) | 14=>(v 0 5) | 15=>(v 0 5) | 16=>(v 0 4) | _=>0),(.str (strOf [c]) (v 0 4)),(.int (Int.ofNat 0) (v 0 5)),(.str (strOf [c]) (v 0 4)),0,0,c,[],_,_,_,_,hK,rfl⟩
theorem sq_b1T (O:(view w b2 h0 B (sqBW Z) d os).Ok) {y:St} {c:Nat} (hc:Z.x[1]? = some c)  (h:Sq1 w b2 h0 B d os Z y):Goes (view w b2 h0 B (sqBW Z) d os) y (SqAt w b2 h0 B d os Z ⟨2,false,0,none,[]⟩):=by
  obtain ⟨T,lvv,gpv,gcv,p,sz,tk,gn,hK⟩:=h
  refine (sq_b1 (O:=O) (w:=w) (b2:=b2) (h0:=h0) (B:=B) (d:=d) (os:=os) (pos0:=p) (vz:=Z.vz) (pos0z:=Z.pos0) (t0z:=Z.t0) (t1z:=Z.t1) (t2z:=Z.t2) (t3z:=Z.t3) (stz:=Z.st) (t4z:=Z.t4) (t5z:=Z.t5) (t6z:=Z.t6) (t7z:=Z.t7) (t8z:=Z.t8) (szz:=Z.sz) (tkz:=Z.tk) (gnz:=Z.gn) (Mz:=Z.M) (Gz:=Z.G) (sc:=(itCls Z.x)) (k:=1) (L:=Z.L) (gO:=Z.gO) (gL:=Z.gL) (rl:=Z.rl) (g:=Z.g) (rv:=[]) (rn:=0) (gpv:=gpv) (gcv:=gcv) (lvv:=lvv) (opv:=.none) (t0:=0) (t1:=(T 9)) (s:=(strOf Z.x)) (t2:=(T 0)) (t3:=(T 1)) (t4:=(T 2)) (st:=0) (t5:=(T 3)) (t6:=(T 4)) (t7:=(T 7)) (t8:=(T 8)) (t9:=(T 10)) (t10:=(T 11)) (t11:=0) (t12:=(T 12)) (t13:=(T 13)) (c:=(strOf [c])) (qa0:=Z.qa0) (qb0:=Z.qb0) (qq0:=Z.qq0) (qa1:=Z.qa1) (qb1:=Z.qb1) (qq1:=Z.qq1) (qa2:=Z.qa2) (qb2:=Z.qb2) (qc2:=Z.qc2) (qd2:=Z.qd2) (qe2:=Z.qe2) (qq2:=Z.qq2) (qa3:=Z.qa3) (qb3:=Z.qb3) (qq3:=Z.qq3) (qa4:=Z.qa4) (qq4:=Z.qq4) (sz:=sz) (tk:=tk) (gn:=gn) (M:=Z.M) (G:=Z.G) (e0:=fun v=>enext_ok hc) (e1:=fun _=>ev_add1 _ _) (e2:=fun _=>ne_two)).monoE fun v=>?_
  exact ⟨(fun i=>match i with | 0=>(T 0) | 1=>(T 1) | 2=>(T 2) | 3=>(T 3) | 4=>(T 4) | 5=>((v 0 1)+4) | 6=>((v 0 1)+5) | 7=>(T 7) | 8=>(T 8) | 9=>(T 9) | 10=>(T 10) | 11=>(T 11) | 12=>(T 12) | 13=>(T 13) | 15=>(v 0 5) | 16=>((v 0 1)+3) | _=>0),(.str (strOf [c]) (v 0 4)),(.int (Int.ofNat 1) (v 0 5)),(.str (strOf [c]) (v 0 4)),1,1,c,[],_,_,_,_,hK,rfl⟩
theorem sq_aT (O:(view w b2 h0 B (sqBW Z) d os).Ok) {k st o:Nat} {op:Option Nat} {out:List (List Nat)} {y:St} {c:Nat} (hc:Z.x[k]? = some c) (h1:c = 92) (h:SqAt w b2 h0 B d os Z ⟨k,false,st,op,out⟩ y):Goes (view w b2 h0 B (sqBW Z) d os) y (SqAt w b2 h0 B d os Z ⟨k+1,true,st,op,out⟩):=by
  obtain ⟨T,lvv,gpv,gcv,a,b,c',rv,p,sz,tk,gn,hK,hrv⟩:=h
  refine (sq_a (O:=O) (w:=w) (b2:=b2) (h0:=h0) (B:=B) (d:=d) (os:=os) (pos0:=p) (vz:=Z.vz) (pos0z:=Z.pos0) (t0z:=Z.t0) (t1z:=Z.t1) (t2z:=Z.t2) (t3z:=Z.t3) (stz:=Z.st) (t4z:=Z.t4) (t5z:=Z.t5) (t6z:=Z.t6) (t7z:=Z.t7) (t8z:=Z.t8) (szz:=Z.sz) (tkz:=Z.tk) (gnz:=Z.gn) (Mz:=Z.M) (Gz:=Z.G) (sc:=(itCls Z.x)) (k:=k) (L:=Z.L) (gO:=Z.gO) (gL:=Z.gL) (rl:=Z.rl) (g:=Z.g) (rv:=rv) (rn:=out.length) (luv:=(.str (strOf (unit b c')) (T 16))) (lpv:=(.int (Int.ofNat a) (T 15))) (gpv:=gpv) (gcv:=gcv) (lvv:=lvv) (opv:=(opV op (T 14))) (t0:=0) (t1:=(T 9)) (s:=(strOf Z.x)) (t2:=(T 0)) (t3:=(T 1)) (t4:=(T 2)) (st:=(Int.ofNat st)) (t5:=(T 3)) (t6:=(T 4)) (t7:=(T 5)) (t8:=0) (t9:=(T 6)) (t10:=0) (t11:=(T 7)) (t12:=(T 8)) (t13:=(T 10)) (t14:=(T 11)) (t15:=(T 12)) (t16:=(T 13)) (c:=(strOf [c])) (qa0:=Z.qa0) (qb0:=Z.qb0) (qq0:=Z.qq0) (qa1:=Z.qa1) (qb1:=Z.qb1) (qq1:=Z.qq1) (qa2:=Z.qa2) (qb2:=Z.qb2) (qc2:=Z.qc2) (qd2:=Z.qd2) (qe2:=Z.qe2) (qq2:=Z.qq2) (qa3:=Z.qa3) (qb3:=Z.qb3) (qq3:=Z.qq3) (qa4:=Z.qa4) (qq4:=Z.qq4) (sz:=sz) (tk:=tk) (gn:=gn) (M:=Z.M) (G:=Z.G) (e0:=fun v=>enext_ok hc) (e1:=fun _=>eq_sign h1)).monoE fun v=>?_
  exact ⟨(fun i=>match i with | 0=>(T 0) | 1=>(T 1) | 2=>(T 2) | 3=>(T 3) | 4=>(T 4) | 5=>(T 5) | 6=>(T 6) | 7=>(T 7) | 8=>(T 8) | 9=>(T 9) | 10=>(T 10) | 11=>(T 11) | 12=>(T 12) | 13=>(T 13) | 14=>(T 14) | 15=>(T 15) | 16=>(T 16) | _=>0),(.str (strOf [c]) (v 0 4)),(.int (Int.ofNat k) (v 0 5)),(.str (strOf [c]) (v 0 4)),a,b,c',rv,_,_,_,_,hK,hrv⟩
theorem sq_bT (O:(view w b2 h0 B (sqBW Z) d os).Ok) {k st o:Nat} {op:Option Nat} {out:List (List Nat)} {y:St} {c:Nat} (hc:Z.x[k]? = some c)  (h:SqAt w b2 h0 B d os Z ⟨k,true,st,op,out⟩ y):Goes (view w b2 h0 B (sqBW Z) d os) y (SqAt w b2 h0 B d os Z ⟨k+1,false,st,op,out⟩):=by
  obtain ⟨T,lvv,gpv,gcv,a,b,c',rv,p,sz,tk,gn,hK,hrv⟩:=h
  refine (sq_b (O:=O) (w:=w) (b2:=b2) (h0:=h0) (B:=B) (d:=d) (os:=os) (pos0:=p) (vz:=Z.vz) (pos0z:=Z.pos0) (t0z:=Z.t0) (t1z:=Z.t1) (t2z:=Z.t2) (t3z:=Z.t3) (stz:=Z.st) (t4z:=Z.t4) (t5z:=Z.t5) (t6z:=Z.t6) (t7z:=Z.t7) (t8z:=Z.t8) (szz:=Z.sz) (tkz:=Z.tk) (gnz:=Z.gn) (Mz:=Z.M) (Gz:=Z.G) (sc:=(itCls Z.x)) (k:=k) (L:=Z.L) (gO:=Z.gO) (gL:=Z.gL) (rl:=Z.rl) (g:=Z.g) (rv:=rv) (rn:=out.length) (luv:=(.str (strOf (unit b c')) (T 16))) (lpv:=(.int (Int.ofNat a) (T 15))) (gpv:=gpv) (gcv:=gcv) (lvv:=lvv) (opv:=(opV op (T 14))) (t0:=0) (t1:=(T 9)) (s:=(strOf Z.x)) (t2:=(T 0)) (t3:=(T 1)) (t4:=(T 2)) (st:=(Int.ofNat st)) (t5:=(T 3)) (t6:=(T 4)) (t7:=(T 5)) (t8:=0) (t9:=(T 6)) (t10:=0) (t11:=(T 7)) (t12:=(T 8)) (t13:=(T 10)) (t14:=(T 11)) (t15:=0) (t16:=(T 12)) (t17:=(T 13)) (c:=(strOf [c])) (qa0:=Z.qa0) (qb0:=Z.qb0) (qq0:=Z.qq0) (qa1:=Z.qa1) (qb1:=Z.qb1) (qq1:=Z.qq1) (qa2:=Z.qa2) (qb2:=Z.qb2) (qc2:=Z.qc2) (qd2:=Z.qd2) (qe2:=Z.qe2) (qq2:=Z.qq2) (qa3:=Z.qa3) (qb3:=Z.qb3) (qq3:=Z.qq3) (qa4:=Z.qa4) (qq4:=Z.qq4) (sz:=sz) (tk:=tk) (gn:=gn) (M:=Z.M) (G:=Z.G) (e0:=fun v=>enext_ok hc) (e1:=fun _=>ev_add1 _ _) (e2:=fun _=>ne_two)).monoE fun v=>?_
  exact ⟨(fun i=>match i with | 0=>(T 0) | 1=>(T 1) | 2=>(T 2) | 3=>(T 3) | 4=>(T 4) | 5=>(T 5) | 6=>(T 6) | 7=>(T 7) | 8=>(T 8) | 9=>(T 9) | 10=>(T 10) | 11=>(T 11) | 12=>(T 12) | 13=>(T 13) | 14=>(T 14) | 15=>(v 0 5) | 16=>((v 0 1)+3) | _=>0),(.str (strOf [c]) (v 0 4)),(.int (Int.ofNat k) (v 0 5)),(.str (strOf [c]) (v 0 4)),k,1,c,rv,_,_,_,_,hK,hrv⟩
theorem sq_cT (O:(view w b2 h0 B (sqBW Z) d os).Ok) {k st o:Nat} {op:Option Nat} {out:List (List Nat)} {y:St} {c:Nat} (hc:Z.x[k]? = some c) (h1:c ≠ 92) (h2:c ≠ 34) (h:SqAt w b2 h0 B d os Z ⟨k,false,st,op,out⟩ y):Goes (view w b2 h0 B (sqBW Z) d os) y (SqAt w b2 h0 B d os Z ⟨k+1,false,st,op,out⟩):=by
  obtain ⟨T,lvv,gpv,gcv,a,b,c',rv,p,sz,tk,gn,hK,hrv⟩:=h
  refine (sq_c (O:=O) (w:=w) (b2:=b2) (h0:=h0) (B:=B) (d:=d) (os:=os) (pos0:=p) (vz:=Z.vz) (pos0z:=Z.pos0) (t0z:=Z.t0) (t1z:=Z.t1) (t2z:=Z.t2) (t3z:=Z.t3) (stz:=Z.st) (t4z:=Z.t4) (t5z:=Z.t5) (t6z:=Z.t6) (t7z:=Z.t7) (t8z:=Z.t8) (szz:=Z.sz) (tkz:=Z.tk) (gnz:=Z.gn) (Mz:=Z.M) (Gz:=Z.G) (sc:=(itCls Z.x)) (k:=k) (L:=Z.L) (gO:=Z.gO) (gL:=Z.gL) (rl:=Z.rl) (g:=Z.g) (rv:=rv) (rn:=out.length) (luv:=(.str (strOf (unit b c')) (T 16))) (lpv:=(.int (Int.ofNat a) (T 15))) (gpv:=gpv) (gcv:=gcv) (lvv:=lvv) (opv:=(opV op (T 14))) (t0:=0) (t1:=(T 9)) (s:=(strOf Z.x)) (t2:=(T 0)) (t3:=(T 1)) (t4:=(T 2)) (st:=(Int.ofNat st)) (t5:=(T 3)) (t6:=0) (op:=0) (t7:=(T 4)) (t8:=(T 5)) (t9:=(T 6)) (t10:=(T 7)) (t11:=(T 8)) (t12:=(T 10)) (t13:=(T 11)) (t14:=(T 12)) (t15:=(T 13)) (c:=(strOf [c])) (qa0:=Z.qa0) (qb0:=Z.qb0) (qq0:=Z.qq0) (qa1:=Z.qa1) (qb1:=Z.qb1) (qq1:=Z.qq1) (qa2:=Z.qa2) (qb2:=Z.qb2) (qc2:=Z.qc2) (qd2:=Z.qd2) (qe2:=Z.qe2) (qq2:=Z.qq2) (qa3:=Z.qa3) (qb3:=Z.qb3) (qq3:=Z.qq3) (qa4:=Z.qa4) (qq4:=Z.qq4) (sz:=sz) (tk:=tk) (gn:=gn) (M:=Z.M) (G:=Z.G) (e0:=fun v=>enext_ok hc) (e1:=fun _=>ne_sign h1) (e2:=fun _=>ne_sign h2)).monoE fun v=>?_
  exact ⟨(fun i=>match i with | 0=>(T 0) | 1=>(T 1) | 2=>(T 2) | 3=>(T 3) | 4=>(T 4) | 5=>(T 5) | 6=>(T 6) | 7=>(T 7) | 8=>(T 8) | 9=>(T 9) | 10=>(T 10) | 11=>(T 11) | 12=>(T 12) | 13=>(T 13) | 14=>(T 14) | 15=>(v 0 5) | 16=>(v 0 4) | _=>0),(.str (strOf [c]) (v 0 4)),(.int (Int.ofNat k) (v 0 5)),(.str (strOf [c]) (v 0 4)),k,0,c,rv,_,_,_,_,hK,hrv⟩
theorem sq_qoT (O:(view w b2 h0 B (sqBW Z) d os).Ok) {k st o:Nat} {op:Option Nat} {out:List (List Nat)} {y:St} {c:Nat} (hc:Z.x[k]? = some c) (h1:c ≠ 92) (h2:c = 34) (h:SqAt w b2 h0 B d os Z ⟨k,false,st,none,out⟩ y):Goes (view w b2 h0 B (sqBW Z) d os) y (SqAt w b2 h0 B d os Z ⟨k+1,false,st,some k,out⟩):=by
  obtain ⟨T,lvv,gpv,gcv,a,b,c',rv,p,sz,tk,gn,hK,hrv⟩:=h
  refine (sq_qo (O:=O) (w:=w) (b2:=b2) (h0:=h0) (B:=B) (d:=d) (os:=os) (pos0:=p) (vz:=Z.vz) (pos0z:=Z.pos0) (t0z:=Z.t0) (t1z:=Z.t1) (t2z:=Z.t2) (t3z:=Z.t3) (stz:=Z.st) (t4z:=Z.t4) (t5z:=Z.t5) (t6z:=Z.t6) (t7z:=Z.t7) (t8z:=Z.t8) (szz:=Z.sz) (tkz:=Z.tk) (gnz:=Z.gn) (Mz:=Z.M) (Gz:=Z.G) (sc:=(itCls Z.x)) (k:=k) (L:=Z.L) (gO:=Z.gO) (gL:=Z.gL) (rl:=Z.rl) (g:=Z.g) (rv:=rv) (rn:=out.length) (luv:=(.str (strOf (unit b c')) (T 16))) (lpv:=(.int (Int.ofNat a) (T 15))) (gpv:=gpv) (gcv:=gcv) (lvv:=lvv) (t0:=0) (t1:=(T 9)) (s:=(strOf Z.x)) (t2:=(T 0)) (t3:=(T 1)) (t4:=(T 2)) (st:=(Int.ofNat st)) (t5:=(T 3)) (t6:=(T 4)) (t7:=(T 5)) (t8:=0) (t9:=(T 6)) (t10:=0) (t11:=(T 7)) (t12:=(T 8)) (t13:=(T 10)) (t14:=(T 11)) (t15:=(T 12)) (t16:=(T 13)) (c:=(strOf [c])) (qa0:=Z.qa0) (qb0:=Z.qb0) (qq0:=Z.qq0) (qa1:=Z.qa1) (qb1:=Z.qb1) (qq1:=Z.qq1) (qa2:=Z.qa2) (qb2:=Z.qb2) (qc2:=Z.qc2) (qd2:=Z.qd2) (qe2:=Z.qe2) (qq2:=Z.qq2) (qa3:=Z.qa3) (qb3:=Z.qb3) (qq3:=Z.qq3) (qa4:=Z.qa4) (qq4:=Z.qq4) (sz:=sz) (tk:=tk) (gn:=gn) (M:=Z.M) (G:=Z.G) (e0:=fun v=>enext_ok hc) (e1:=fun _=>ne_sign h1) (e2:=fun _=>eq_sign h2)).monoE fun v=>?_
  exact ⟨(fun i=>match i with | 0=>(T 0) | 1=>(T 1) | 2=>(T 2) | 3=>(T 3) | 4=>(T 4) | 5=>(T 5) | 6=>(T 6) | 7=>(T 7) | 8=>(T 8) | 9=>(T 9) | 10=>(T 10) | 11=>(T 11) | 12=>(T 12) | 13=>(T 13) | 14=>(v 0 5) | 15=>(v 0 5) | 16=>(v 0 4) | _=>0),(.str (strOf [c]) (v 0 4)),(.int (Int.ofNat k) (v 0 5)),(.str (strOf [c]) (v 0 4)),k,0,c,rv,_,_,_,_,hK,hrv⟩
theorem sq_qcT (O:(view w b2 h0 B (sqBW Z) d os).Ok) {k st o:Nat} {op:Option Nat} {out:List (List Nat)} {y:St} {c:Nat} (hc:Z.x[k]? = some c) (h1:c ≠ 92) (h2:c = 34) (h3:st < o) (h4:o ≤ Z.x.length) (h5:Z.x.length ≤ 60000) (h6:out.length ≤ 60000) (h:SqAt w b2 h0 B d os Z ⟨k,false,st,some o,out⟩ y):Goes (view w b2 h0 B (sqBW Z) d os) y (SqAt w b2 h0 B d os Z ⟨k+1,false,k+1,none,out ++ [(Z.x.drop st).take (o - st)]⟩):=by
  obtain ⟨T,lvv,gpv,gcv,a,b,c',rv,p,sz,tk,gn,hK,hrv⟩:=h
  refine (sq_qc (O:=O) (w:=w) (b2:=b2) (h0:=h0) (B:=B) (d:=d) (os:=os) (pos0:=p) (vz:=Z.vz) (pos0z:=Z.pos0) (t0z:=Z.t0) (t1z:=Z.t1) (t2z:=Z.t2) (t3z:=Z.t3) (stz:=Z.st) (t4z:=Z.t4) (t5z:=Z.t5) (t6z:=Z.t6) (t7z:=Z.t7) (t8z:=Z.t8) (szz:=Z.sz) (tkz:=Z.tk) (gnz:=Z.gn) (Mz:=Z.M) (Gz:=Z.G) (sc:=(itCls Z.x)) (k:=k) (L:=Z.L) (gO:=Z.gO) (gL:=Z.gL) (rl:=Z.rl) (g:=Z.g) (rv:=rv) (rn:=out.length) (luv:=(.str (strOf (unit b c')) (T 16))) (lpv:=(.int (Int.ofNat a) (T 15))) (gpv:=gpv) (gcv:=gcv) (lvv:=lvv) (t0:=0) (t1:=(T 9)) (s:=(strOf Z.x)) (t2:=(T 0)) (t3:=(T 1)) (t4:=(T 2)) (st:=(Int.ofNat st)) (t5:=(T 3)) (t6:=(T 14)) (op:=(Int.ofNat o)) (t7:=(T 4)) (t8:=(T 5)) (t9:=0) (t10:=(T 6)) (t11:=(T 7)) (t12:=(T 8)) (t13:=(T 10)) (t14:=(T 11)) (t15:=(T 12)) (t16:=(T 13)) (c:=(strOf [c])) (part:=(strOf ((Z.x.drop st).take (o - st)))) (rw:=(fun v=>strVals (out ++ [(Z.x.drop st).take (o - st)]) fun i=>v (i+3))) (rwn:=(out.length+1)) (qa0:=Z.qa0) (qb0:=Z.qb0) (qq0:=Z.qq0) (qa1:=Z.qa1) (qb1:=Z.qb1) (qq1:=Z.qq1) (qa2:=Z.qa2) (qb2:=Z.qb2) (qc2:=Z.qc2) (qd2:=Z.qd2) (qe2:=Z.qe2) (qq2:=Z.qq2) (qa3:=Z.qa3) (qb3:=Z.qb3) (qq3:=Z.qq3) (qa4:=Z.qa4) (qq4:=Z.qq4) (sz:=sz) (tk:=tk) (gn:=gn) (M:=Z.M) (G:=Z.G) (e0:=fun v=>enext_ok hc) (e1:=fun _=>ne_sign h1) (e2:=fun _=>eq_sign h2) (e3:=fun _=>ev_ine (by simp; omega)) (e4:=fun v=>slice_ok (Nat.le_of_lt h3) h4 (by omega)) (e5:=fun v=>append_ok hrv (by omega) rfl)).monoE fun v=>?_
  exact SqAt.eq ⟨(fun i=>match i with | 0=>(T 0) | 1=>(T 1) | 2=>((v 3 1)+1) | 3=>(T 3) | 4=>(T 4) | 5=>(T 5) | 6=>(T 6) | 7=>(T 7) | 8=>(T 8) | 9=>(T 9) | 10=>(T 10) | 11=>(T 11) | 12=>(T 12) | 13=>(T 13) | 15=>(v 0 5) | 16=>(v 0 4) | _=>0),(.str (strOf [c]) (v 0 4)),(.int (Int.ofNat k) (v 0 5)),(.str (strOf [c]) (v 0 4)),k,0,c,strVals (out ++ [(Z.x.drop st).take (o - st)]) fun i=>v 3 (i+3),_,_,_,_,hK,strVals_no _ _⟩ (by rw [List.length_append]; rfl)
theorem sq_qeT (O:(view w b2 h0 B (sqBW Z) d os).Ok) {k st o:Nat} {op:Option Nat} {out:List (List Nat)} {y:St} {c:Nat} (hc:Z.x[k]? = some c) (h1:c ≠ 92) (h2:c = 34) (h:SqAt w b2 h0 B d os Z ⟨k,false,st,some st,out⟩ y):Goes (view w b2 h0 B (sqBW Z) d os) y (SqAt w b2 h0 B d os Z ⟨k+1,false,k+1,none,out⟩):=by
  obtain ⟨T,lvv,gpv,gcv,a,b,c',rv,p,sz,tk,gn,hK,hrv⟩:=h
  refine (sq_qe (O:=O) (w:=w) (b2:=b2) (h0:=h0) (B:=B) (d:=d) (os:=os) (pos0:=p) (vz:=Z.vz) (pos0z:=Z.pos0) (t0z:=Z.t0) (t1z:=Z.t1) (t2z:=Z.t2) (t3z:=Z.t3) (stz:=Z.st) (t4z:=Z.t4) (t5z:=Z.t5) (t6z:=Z.t6) (t7z:=Z.t7) (t8z:=Z.t8) (szz:=Z.sz) (tkz:=Z.tk) (gnz:=Z.gn) (Mz:=Z.M) (Gz:=Z.G) (sc:=(itCls Z.x)) (k:=k) (L:=Z.L) (gO:=Z.gO) (gL:=Z.gL) (rl:=Z.rl) (g:=Z.g) (rv:=rv) (rn:=out.length) (luv:=(.str (strOf (unit b c')) (T 16))) (lpv:=(.int (Int.ofNat a) (T 15))) (gpv:=gpv) (gcv:=gcv) (lvv:=lvv) (t0:=0) (t1:=(T 9)) (s:=(strOf Z.x)) (t2:=(T 0)) (t3:=(T 1)) (t4:=(T 2)) (st:=(Int.ofNat st)) (t5:=(T 3)) (t6:=(T 14)) (op:=(Int.ofNat st)) (t7:=(T 4)) (t8:=(T 5)) (t9:=0) (t10:=(T 6)) (t11:=(T 7)) (t12:=(T 8)) (t13:=(T 10)) (t14:=(T 11)) (t15:=(T 12)) (t16:=(T 13)) (c:=(strOf [c])) (qa0:=Z.qa0) (qb0:=Z.qb0) (qq0:=Z.qq0) (qa1:=Z.qa1) (qb1:=Z.qb1) (qq1:=Z.qq1) (qa2:=Z.qa2) (qb2:=Z.qb2) (qc2:=Z.qc2) (qd2:=Z.qd2) (qe2:=Z.qe2) (qq2:=Z.qq2) (qa3:=Z.qa3) (qb3:=Z.qb3) (qq3:=Z.qq3) (qa4:=Z.qa4) (qq4:=Z.qq4) (sz:=sz) (tk:=tk) (gn:=gn) (M:=Z.M) (G:=Z.G) (e0:=fun v=>enext_ok hc) (e1:=fun _=>ne_sign h1) (e2:=fun _=>eq_sign h2) (e3:=fun _=>ev_ine (by simp))).monoE fun v=>?_
  exact ⟨(fun i=>match i with | 0=>(T 0) | 1=>(T 1) | 2=>((v 0 1)+7) | 3=>(T 3) | 4=>(T 4) | 5=>(T 5) | 6=>(T 6) | 7=>(T 7) | 8=>(T 8) | 9=>(T 9) | 10=>(T 10) | 11=>(T 11) | 12=>(T 12) | 13=>(T 13) | 15=>(v 0 5) | 16=>(v 0 4) | _=>0),(.str (strOf [c]) (v 0 4)),(.int (Int.ofNat k) (v 0 5)),(.str (strOf [c]) (v 0 4)),k,0,c,rv,_,_,_,_,hK,hrv⟩
theorem sq_inT (O:(view w b2 h0 B (sqBW Z) d os).Ok) (hst:Z.st = 0):Goes (view w b2 h0 B (sqBW Z) d os) (mk (den (.forLoop fSq_t45 (.ref Z.gO) fSq_b45 [] (envF fSqs fSqq 42 [] Z.L))) (.forLoop fSq_t45 (.ref Z.gO) fSq_b45 [] (envF fSqs fSqq 42 [] Z.L)) Z.pos0 [] ((Z.L,nsO [ent w.params z14 Z.t0 (.str (strOf Z.x) Z.t1),ent w.params z22 Z.t2 (.int Z.st Z.t3),ent w.params z23 Z.t4 .none,ent w.params z24 Z.t5 (.ref Z.rl)] 4)::(Z.gO,⟨(.type "generator"),none,.fields ⟨[(.int (Int.ofNat Z.g) 0),(.str z20 Z.t6),(.str z20 Z.t7)]⟩,⟨[]⟩⟩)::(Z.gL,nsO [ent w.params z14 Z.t8 (.str (strOf Z.x) Z.t1)] 1)::(Z.rl,listO [] 0)::Z.M) Z.sz Z.tk ((Z.g,(.fresh (.func fIe_ (envF fIes fIeq 35 [] Z.gL))))::Z.G) Z.gn) (fun y=>∃ vz,Sq0 w b2 h0 B d os { Z with vz:=vz } y):=by
  refine (sq_in (O:=O) (w:=w) (b2:=b2) (h0:=h0) (B:=B) (d:=d) (os:=os) (pos0:=Z.pos0) (sc:=(itCls Z.x)) (L:=Z.L) (gO:=Z.gO) (gL:=Z.gL) (rl:=Z.rl) (g:=Z.g) (t0:=Z.t0) (t1:=Z.t1) (s:=(strOf Z.x)) (t2:=Z.t2) (t3:=Z.t3) (st:=Z.st) (t4:=Z.t4) (t5:=Z.t5) (t6:=Z.t6) (t7:=Z.t7) (t8:=Z.t8) (qa0:=Z.qa0) (qb0:=Z.qb0) (qq0:=Z.qq0) (qa1:=Z.qa1) (qb1:=Z.qb1) (qq1:=Z.qq1) (qa2:=Z.qa2) (qb2:=Z.qb2) (qc2:=Z.qc2) (qd2:=Z.qd2) (qe2:=Z.qe2) (qq2:=Z.qq2) (qa3:=Z.qa3) (qb3:=Z.qb3) (qq3:=Z.qq3) (qa4:=Z.qa4) (qq4:=Z.qq4) (sz:=Z.sz) (tk:=Z.tk) (gn:=Z.gn) (M:=Z.M) (G:=Z.G) (e0:=fun v=>enewS_ok)).monoE fun v=>?_
  rw [hst]
  exact ⟨v,(fun i=>match i with | 0=>Z.t0 | 1=>Z.t2 | 2=>Z.t3 | 3=>Z.t4 | 4=>Z.t5 | 7=>Z.t6 | 8=>Z.t7 | 9=>Z.t1 | 10=>Z.t8 | 11=>(Z.tk+1) | 12=>(Z.tk+2) | _=>0),.none,(.int 0 Z.tk),_,_,_,_,⟨rfl,rfl,rfl,rfl,rfl⟩⟩
theorem sq_endT (O:(view w b2 h0 B (sqBW Z) d os).Ok) {st:Nat} {op:Option Nat} {out:List (List Nat)} {y:St} (h:SqAt w b2 h0 B d os Z ⟨Z.x.length,false,st,op,out⟩ y) :
    Goes (view w b2 h0 B (sqBW Z) d os) y (fun y=>∃ (t3 t5 t6 t14 t15 t16 a b c:Nat) (rv:List Value) (cc:Code) (p:Pos) (sz tk gn:Nat),rv.map noTok = noToks out ∧
      y = mk (.pure (.done .next)) cc p [] ((Z.L,nsO [ent w.params z14 Z.t0 (.str (strOf Z.x) Z.t1),ent w.params z22 Z.t2 (.int (Int.ofNat st) t3),ent w.params z23 Z.t4 (opV op t14),ent w.params z24 Z.t5 (.ref Z.rl),ent w.params z15 t5 (.int (Int.ofNat a) t15),ent w.params z18 t6 (.str (strOf (unit b c)) t16)] 6)::(Z.rl,listO rv out.length)::Z.M) sz tk Z.G gn):=by
  obtain ⟨T,lvv,gpv,gcv,a,b,c',rv,p,sz,tk,gn,hK,hrv⟩:=h
  refine (sq_end (O:=O) (w:=w) (b2:=b2) (h0:=h0) (B:=B) (d:=d) (os:=os) (pos0:=p) (vz:=Z.vz) (pos0z:=Z.pos0) (t0z:=Z.t0) (t1z:=Z.t1) (t2z:=Z.t2) (t3z:=Z.t3) (stz:=Z.st) (t4z:=Z.t4) (t5z:=Z.t5) (t6z:=Z.t6) (t7z:=Z.t7) (t8z:=Z.t8) (szz:=Z.sz) (tkz:=Z.tk) (gnz:=Z.gn) (Mz:=Z.M) (Gz:=Z.G) (sc:=(itCls Z.x)) (k:=Z.x.length) (L:=Z.L) (gO:=Z.gO) (gL:=Z.gL) (rl:=Z.rl) (g:=Z.g) (rv:=rv) (rn:=out.length) (luv:=(.str (strOf (unit b c')) (T 16))) (lpv:=(.int (Int.ofNat a) (T 15))) (gpv:=gpv) (gcv:=gcv) (lvv:=lvv) (opv:=(opV op (T 14))) (t0:=0) (t1:=(T 9)) (s:=(strOf Z.x)) (t2:=(T 0)) (t3:=(T 1)) (t4:=(T 2)) (st:=(Int.ofNat st)) (t5:=(T 3)) (t6:=(T 4)) (t7:=(T 5)) (t8:=0) (t9:=(T 6)) (t10:=(T 7)) (t11:=(T 8)) (t12:=(T 10)) (t13:=(T 11)) (t14:=(T 12)) (t15:=(T 13)) (t16:=0) (qa0:=Z.qa0) (qb0:=Z.qb0) (qq0:=Z.qq0) (qa1:=Z.qa1) (qb1:=Z.qb1) (qq1:=Z.qq1) (qa2:=Z.qa2) (qb2:=Z.qb2) (qc2:=Z.qc2) (qd2:=Z.qd2) (qe2:=Z.qe2) (qq2:=Z.qq2) (qa3:=Z.qa3) (qb3:=Z.qb3) (qq3:=Z.qq3) (qa4:=Z.qa4) (qq4:=Z.qq4) (sz:=sz) (tk:=tk) (gn:=gn) (M:=Z.M) (G:=Z.G) (e0:=fun v=>eend_ok)).monoE fun v=>?_
  obtain ⟨k0,k1,k3,k4,k9⟩:=hK
  rw [← k0,← k1,← k3,← k4,← k9]
  exact ⟨T 2,T 5,T 6,T 14,T 15,T 16,a,b,c',rv,_,_,_,_,_,hrv,rfl⟩
end
end Mine
end
section
open PySem PySem.W PySem.W.X PyProof.Rows
namespace Mine
theorem Goes.perm {V:Vw} {x x':St} {P:St→Prop} (h:Goes V x P) (hc:x'.cur = x.cur) (hcd:x'.code = x.code) (hp:x'.pos = x.pos) (hf:x'.fs = x.fs) (hM:x'.M.Perm x.M) (hs:x'.sz = x.sz) (ht:x'.tk = x.tk) (hG:x'.G = x.G) (hg:x'.gn = x.gn):Goes V x' P:=fun s r=>by
  obtain ⟨y,s',h1,r1,p⟩:=h s (r.perm hM.symm hs.symm ht.symm hG.symm hg.symm)
  refine ⟨y,s',?_,r1,p⟩
  have e:x'.thr V = x.thr V:=by
    unfold St.thr
    rw [hc,hcd,hp,hf]
  rw [e]; exact h1
theorem Goes.permEnd {V:Vw} {x y y':St} (hc:y'.cur = y.cur) (hcd:y'.code = y.code) (hp:y'.pos = y.pos) (hf:y'.fs = y.fs) (hM:y'.M.Perm y.M) (hs:y'.sz = y.sz) (ht:y'.tk = y.tk) (hG:y'.G = y.G) (hg:y'.gn = y.gn) (h:Goes V x (· = y)):Goes V x (· = y'):=fun s r=>by
  obtain ⟨z,s',h1,r1,rfl⟩:=h s r
  refine ⟨y',s',?_,r1.perm hM hs ht hG hg,rfl⟩
  have e:y'.thr V = z.thr V:=by
    unfold St.thr
    rw [hc,hcd,hp,hf]
  rw [e]; exact h1
theorem Goes.mono' {V:Vw} {x:St} {P Q:St→Prop} (h:Goes V x P) (k:∀ y,P y→∃ y',Q y' ∧ (∀ x,Goes V x (· = y)→Goes V x (· = y'))):Goes V x Q:=fun s r=>by
  obtain ⟨y,s',h1,r1,p⟩:=h s r
  obtain ⟨y',q,h2⟩:=k y p
  obtain ⟨z,s'',h3,r3,rfl⟩:=h2 y (.here rfl) s' r1
  exact ⟨z,s'',h1.trans h3,r3,q⟩

noncomputable def QS.step (x:List Nat) (q:QS) (c:Nat):QS:=match q with
  | ⟨k,esc,st,op,out⟩=>match esc with
    | true=>⟨k+1,false,st,op,out⟩
    | false=>if c = 92 then ⟨k+1,true,st,op,out⟩ else if c = 34 then (match op with
      | none=>⟨k+1,false,st,some k,out⟩
      | some o=>if st = o then ⟨k+1,false,k+1,none,out⟩ else ⟨k+1,false,k+1,none,out ++ [(x.drop st).take (o - st)]⟩) else ⟨k+1,false,st,op,out⟩
structure QS.Inv (q:QS):Prop where
  st:q.st ≤ q.k
  out:q.out.length ≤ q.k
  op:∀ o,q.op = some o→q.st ≤ o ∧ o ≤ q.k
theorem QS.Inv.step {x:List Nat} {q:QS} (h:q.Inv) (c:Nat):(q.step x c).Inv ∧ (q.step x c).k = q.k+1:=by
  obtain ⟨k,esc,st,op,out⟩:=q
  obtain ⟨h1,h2,h3⟩:=h
  simp only at h1 h2 h3
  unfold QS.step
  cases esc with
  | true=>exact ⟨⟨Nat.le_succ_of_le h1,Nat.le_succ_of_le h2,fun o e=>⟨(h3 o e).1,Nat.le_succ_of_le (h3 o e).2⟩⟩,rfl⟩
  | false =>
    simp only
    split
    · exact ⟨⟨Nat.le_succ_of_le h1,Nat.le_succ_of_le h2,fun o e=>⟨(h3 o e).1,Nat.le_succ_of_le (h3 o e).2⟩⟩,rfl⟩
    · split
      · cases op with
        | none=>exact ⟨⟨Nat.le_succ_of_le h1,Nat.le_succ_of_le h2,fun o e=>by cases e; exact ⟨h1,Nat.le_succ _⟩⟩,rfl⟩
        | some o =>
          simp only
          split
          · exact ⟨⟨Nat.le_refl _,Nat.le_succ_of_le h2,fun o e=>by cases e⟩,rfl⟩
          · exact ⟨⟨Nat.le_refl _,by simp; exact h2,fun o e=>by cases e⟩,rfl⟩
      · exact ⟨⟨Nat.le_succ_of_le h1,Nat.le_succ_of_le h2,fun o e=>⟨(h3 o e).1,Nat.le_succ_of_le (h3 o e).2⟩⟩,rfl⟩
section
variable {w:World} {b2:Bool} {h0:Heap} {B:List Frame} {d:Drawn} {os:OsState} {Z:SqZ}
theorem sq_turn (O:(view w b2 h0 B (sqBW Z) d os).Ok) (hx:Z.x.length ≤ 60000) {q:QS} (hi:q.Inv) {c:Nat} (hc:Z.x[q.k]? = some c) {y:St} (h:SqAt w b2 h0 B d os Z q y) :
    Goes (view w b2 h0 B (sqBW Z) d os) y (SqAt w b2 h0 B d os Z (q.step Z.x c)):=by
  obtain ⟨k,esc,st,op,out⟩:=q
  have hk:k < Z.x.length:=(List.getElem?_eq_some_iff.mp hc).1
  obtain ⟨i1,i2,i3⟩:=hi
  simp only at i1 i2 i3
  unfold QS.step
  cases esc with
  | true=>exact sq_bT O (o:=0) hc h
  | false =>
    simp only
    split
    · rename_i h1; exact sq_aT O (o:=0) hc h1 h
    · rename_i h1
      split
      · rename_i h2
        cases op with
        | none=>exact sq_qoT O (o:=0) (op:=none) hc h1 h2 h
        | some o =>
          simp only
          split
          · rename_i h3
            subst h3
            exact sq_qeT O (o:=0) (op:=none) hc h1 h2 h
          · rename_i h3
            have:=i3 o rfl
            exact sq_qcT O (op:=none) hc h1 h2 (by omega) (by omega) hx (by omega) h
      · rename_i h2; exact sq_cT O (o:=0) hc h1 h2 h
theorem sq_turns (O:(view w b2 h0 B (sqBW Z) d os).Ok) (hx:Z.x.length ≤ 60000):∀ (rest pre:List Nat) {q:QS} (_:q.Inv) (_:Z.x = pre ++ rest) (_:q.k = pre.length) {y:St} (_:SqAt w b2 h0 B d os Z q y),
    Goes (view w b2 h0 B (sqBW Z) d os) y (SqAt w b2 h0 B d os Z (rest.foldl (QS.step Z.x) q))
  | [],pre,q,hi,he,hk,y,h=>.here h
  | c::rest,pre,q,hi,he,hk,y,h=>by
    have hc:Z.x[q.k]? = some c:=by rw [he,hk]; simp
    have hs:=hi.step (x:=Z.x) c
    exact (sq_turn O hx hi hc h).trans fun y' h'=>sq_turns O hx rest (pre ++ [c]) hs.1 (by rw [he]; simp) (by rw [hs.2,hk]; simp) h'
noncomputable def sqEnd (x:List Nat):QS:=x.foldl (QS.step x) ⟨0,false,0,none,[]⟩
theorem sqEnd_k (x:List Nat):(sqEnd x).k = x.length:=by
  have:∀ (l:List Nat) (q:QS),q.Inv→(l.foldl (QS.step x) q).k = q.k+l.length:=fun l=>by
    induction l with
    | nil=>intro q _; rfl
    | cons c l ih =>
      intro q hq
      have hs:=hq.step (x:=x) c
      rw [List.foldl_cons,ih _ hs.1,hs.2,List.length_cons]; omega
  have:=this x ⟨0,false,0,none,[]⟩ ⟨Nat.le_refl _,Nat.le_refl _,fun o e=>by cases e⟩
  simpa [sqEnd] using this
theorem sqEnd_inv (x:List Nat):(sqEnd x).Inv:=by
  have:∀ (l:List Nat) (q:QS),q.Inv→(l.foldl (QS.step x) q).Inv:=fun l=>by
    induction l with
    | nil=>intro q h; exact h
    | cons c l ih =>
      intro q hq
      exact ih _ (hq.step (x:=x) c).1
  exact this x _ ⟨Nat.le_refl _,Nat.le_refl _,fun o e=>by cases e⟩
theorem sq_first (O:(view w b2 h0 B (sqBW Z) d os).Ok) (hx:Z.x.length ≤ 60000) (hne:Z.x ≠ []) (hesc:(sqEnd Z.x).esc = false) {y:St} (h:Sq0 w b2 h0 B d os Z y) :
    Goes (view w b2 h0 B (sqBW Z) d os) y (SqAt w b2 h0 B d os Z (sqEnd Z.x)):=by
  cases e:Z.x with
  | nil=>exact absurd e hne
  | cons c rest =>
    have hc:Z.x[0]? = some c:=by rw [e]; rfl
    by_cases h1:c = 92
    · cases rest with
      | nil =>
        rw [e,h1] at hesc
        cases hesc
      | cons c2 rest =>
        have hc2:Z.x[1]? = some c2:=by rw [e]; rfl
        refine (sq_a0T O hc h1 h).trans fun y' h'=>(sq_b1T O hc2 h').trans fun y'' h''=>?_
        have:=sq_turns O hx rest [c,c2] (q:=⟨2,false,0,none,[]⟩) ⟨Nat.zero_le _,Nat.zero_le _,fun o e=>by cases e⟩ e rfl h''
        have e2:sqEnd (c::c2::rest) = rest.foldl (QS.step (c::c2::rest)) ⟨2,false,0,none,[]⟩:=by
          unfold sqEnd
          rw [List.foldl_cons,List.foldl_cons]
          congr 1
          simp [QS.step,h1]
        rw [e2,← e]
        exact this
    · by_cases h2:c = 34
      · refine (sq_q0T O hc h1 h2 h).trans fun y'' h''=>?_
        have:=sq_turns O hx rest [c] (q:=⟨1,false,0,some 0,[]⟩) ⟨Nat.zero_le _,Nat.zero_le _,fun o e=>by cases e; exact ⟨Nat.le_refl _,Nat.zero_le _⟩⟩ e rfl h''
        have e2:sqEnd (c::rest) = rest.foldl (QS.step (c::rest)) ⟨1,false,0,some 0,[]⟩:=by
          unfold sqEnd
          rw [List.foldl_cons]
          congr 1
          simp [QS.step,h2]
        rw [e2,← e]
        exact this
      · refine (sq_c0T O hc h1 h2 h).trans fun y'' h''=>?_
        have:=sq_turns O hx rest [c] (q:=⟨1,false,0,none,[]⟩) ⟨Nat.zero_le _,Nat.zero_le _,fun o e=>by cases e⟩ e rfl h''
        have e2:sqEnd (c::rest) = rest.foldl (QS.step (c::rest)) ⟨1,false,0,none,[]⟩:=by
          unfold sqEnd
          rw [List.foldl_cons]
          congr 1
          simp [QS.step,h1,h2]
        rw [e2,← e]
        exact this
end
section
variable {w:World} {b2:Bool} {h0:Heap} {B:List Frame} {d:Drawn} {os:OsState} {bw:List (Code × Pos)}
noncomputable abbrev rvF (out:List (List Nat)) (v:Nat→Nat):List Value:=strVals out fun i=>v (i+12)
noncomputable abbrev lpF (v:Nat→Nat):Value:=.int (Int.ofNat (v 6)) (v 7)
noncomputable abbrev luF (v:Nat→Nat):Value:=.str (strOf (unit (v 8) (v 9))) (v 10)
theorem norm_gens {a:Addr} {o:Obj} {xs:Array Value} {c:Value} {sl:Array (Option Value)} (h:normM (a,o) = (a,⟨c,none,.fields xs,sl⟩)):o = ⟨c,none,.fields xs,sl⟩:=norm_fields h
noncomputable def consv (a:Nat) (f:Nat→Nat):Nat→Nat
  | 0=>a
  | n+1=>f n
theorem norm_cons {R:List (Addr × Obj)} {p:Addr × Obj} {l:List (Addr × Obj)} (h:R.map normM = p::l):∃ o R',R = (p.1,o)::R' ∧ normM (p.1,o) = p ∧ R'.map normM = l:=by
  cases R with
  | nil=>cases h
  | cons a R =>
    rw [List.map_cons] at h
    injection h with h1 h2
    have e:(normM a).1 = p.1:=congrArg Prod.fst h1
    have e:a.1 = p.1:=e
    have e2:(p.1,a.2) = a:=by rw [← e]
    exact ⟨a.2,R,by rw [e2],by rw [e2]; exact h1,h2⟩
theorem norm_listV {l:Addr} {o:Obj} {vs:List Value} {n:Nat} (h:normM (l,o) = (l,listO vs n)) (hv:vs = []):o = listO [] n:=by
  obtain ⟨vs',rfl,e⟩:=norm_list h
  subst hv
  have:vs' = []:=List.map_eq_nil_iff.mp e
  rw [this]
theorem sq_loop_ok {x:List Nat} (hx:x.length ≤ 60000) (hne:x ≠ []) (hesc:(sqEnd x).esc = false) (hop:(sqEnd x).op = none) {gO gL rl L g t0 t1 t2 t3 t4 t5 t6 t7 t8:Nat} {rn:Nat} (hrn:rn = (sqEnd x).out.length) {st:Int} (hst:st = Int.ofNat (sqEnd x).st) :
    CallN (view w b2 h0 B bw d os) [1,1,2,1,7] (.forLoop fSq_t45 (.ref gO) fSq_b45 [] (envF fSqs fSqq 42 [] L))
      [(gO,⟨(.type "generator"),none,.fields ⟨[(.int (Int.ofNat g) 0),(.str z20 t6),(.str z20 t7)]⟩,⟨[]⟩⟩),(gL,nsO [ent w.params z14 t8 (.str (strOf x) t1)] 1),(rl,listO [] 0),(L,nsO [ent w.params z14 t0 (.str (strOf x) t1),ent w.params z22 t2 (.int 0 t3),ent w.params z23 t4 .none,ent w.params z24 t5 (.ref rl)] 4)]
      [(g,(.fresh (.func fIe_ (envF fIes fIeq 35 [] gL))))]
      (fun v=>⟨some [],[(rl,listO (rvF (sqEnd x).out v) rn),(L,nsO [ent w.params z14 t0 (.str (strOf x) t1),ent w.params z22 t2 (.int st (v 3)),ent w.params z23 t4 .none,ent w.params z24 t5 (.ref rl),ent w.params z15 (v 4) (lpF v),ent w.params z18 (v 5) (luF v)] 6)],.ok .next⟩):=by
  subst hrn hst
  intro bw' c R sz tk gn hk hc hR pos V' u M G
  obtain ⟨B',rfl,O⟩:=under_view u
  obtain rfl:=norm_for hc
  obtain ⟨o1,R1,rfl,n1,hR⟩:=norm_cons hR
  obtain ⟨o2,R2,rfl,n2,hR⟩:=norm_cons hR
  obtain ⟨o3,R3,rfl,n3,hR⟩:=norm_cons hR
  obtain ⟨o4,rfl,n4⟩:=norm_one hR
  obtain rfl:=norm_fields n1
  obtain rfl:=norm_ns n2
  obtain rfl:=norm_listV n3 rfl
  obtain rfl:=norm_ns n4
  obtain ⟨c0,p0,r0,rfl,k0,hk⟩:=ks_cons hk
  obtain ⟨c1,p1,r1,rfl,k1,hk⟩:=ks_cons hk
  obtain ⟨c2,p2,r2,rfl,k2,hk⟩:=ks_cons hk
  obtain ⟨c3,p3,r3,rfl,k3,hk⟩:=ks_cons hk
  obtain ⟨c4,p4,r4,rfl,k4,hk⟩:=ks_cons hk
  obtain rfl:=ks_nil hk
  obtain ⟨qa0,qb0,rfl⟩:=shp_func k0
  obtain ⟨qa1,qb1,rfl⟩:=shp_func k1
  obtain ⟨qa2,qb2,qc2,qd2,qe2,rfl⟩:=shp_for k2
  obtain ⟨qa3,qb3,rfl⟩:=shp_func k3
  obtain ⟨qa4,rfl⟩:=shp_caller k4
  rw [← den_eq]
  let Z:SqZ:=⟨fun _ _=>0,x,pos,L,gO,gL,rl,g,t0,t1,t2,t3,0,t4,t5,t6,t7,t8,qa0,qb0,p0,qa1,qb1,p1,qa2,qb2,qc2,qd2,qe2,p2,qa3,qb3,p3,qa4,p4,sz,tk,gn,M,G⟩
  have e:sqEnd x = ⟨x.length,false,(sqEnd x).st,none,(sqEnd x).out⟩:=by
    have hk:=sqEnd_k x
    revert hk hesc hop
    cases sqEnd x
    rintro rfl rfl rfl
    rfl
  have key:Goes (view w b2 h0 B' (sqBW Z) d os) (mk (den (.forLoop fSq_t45 (.ref gO) fSq_b45 [] (envF fSqs fSqq 42 [] L))) (.forLoop fSq_t45 (.ref gO) fSq_b45 [] (envF fSqs fSqq 42 [] L)) pos [] ((L,nsO [ent w.params z14 t0 (.str (strOf x) t1),ent w.params z22 t2 (.int 0 t3),ent w.params z23 t4 .none,ent w.params z24 t5 (.ref rl)] 4)::(gO,⟨(.type "generator"),none,.fields ⟨[(.int (Int.ofNat g) 0),(.str z20 t6),(.str z20 t7)]⟩,⟨[]⟩⟩)::(gL,nsO [ent w.params z14 t8 (.str (strOf x) t1)] 1)::(rl,listO [] 0)::M) sz tk ((g,(.fresh (.func fIe_ (envF fIes fIeq 35 [] gL))))::G) gn)
      (fun y=>∃ (t3 t5' t6 t14 t15 t16 a b c:Nat) (rv:List Value) (cc:Code) (p:Pos) (sz tk gn:Nat),rv.map noTok = noToks (sqEnd x).out ∧
        y = mk (.pure (.done .next)) cc p [] ((L,nsO [ent w.params z14 t0 (.str (strOf x) t1),ent w.params z22 t2 (.int (Int.ofNat (sqEnd x).st) t3),ent w.params z23 t4 (opV none t14),ent w.params z24 t5 (.ref rl),ent w.params z15 t5' (.int (Int.ofNat a) t15),ent w.params z18 t6 (.str (strOf (unit b c)) t16)] 6)::(rl,listO rv (sqEnd x).out.length)::M) sz tk G gn):=by
    refine (sq_inT (w:=w) (b2:=b2) (h0:=h0) (B:=B') (d:=d) (os:=os) (Z:=Z) O rfl).trans fun y hy=>?_
    obtain ⟨vz,hy⟩:=hy
    refine (sq_first (Z:={ Z with vz:=vz }) O hx hne hesc hy).trans fun y' h'=>?_
    have h':SqAt w b2 h0 B' d os { Z with vz:=vz } (sqEnd x) y':=h'
    rw [e] at h'
    exact sq_endT (Z:={ Z with vz:=vz }) O h'
  refine Goes.mono' (Goes.perm key ?_ ?_ ?_ ?_ ?_ ?_ ?_ ?_ ?_) fun y hy=>?_
  · rfl
  · rfl
  · rfl
  · rfl
  · exact List.perm_middle (l₁:=[_,_,_])
  · rfl
  · rfl
  · rfl
  · rfl
  · obtain ⟨t3,t5',t6,t14,t15,t16,a,b,c,rv,cc,p,sz,tk,gn,hrv,rfl⟩:=hy
    obtain ⟨f,rfl⟩:=strVals_of hrv
    have e3:(fun i=>consv sz (consv tk (consv gn (consv t3 (consv t5' (consv t6 (consv a (consv t15 (consv b (consv c (consv t16 (consv 0 f))))))))))) (i+12)) = f:=rfl
    refine ⟨_,⟨consv sz (consv tk (consv gn (consv t3 (consv t5' (consv t6 (consv a (consv t15 (consv b (consv c (consv t16 (consv 0 f))))))))))),cc,p,rfl⟩,fun x h=>?_⟩
    refine Goes.permEnd ?_ ?_ ?_ ?_ ?_ ?_ ?_ ?_ ?_ h
    · rfl
    · rfl
    · rfl
    · rfl
    · exact List.Perm.swap _ _ M
    · rfl
    · rfl
    · rfl
    · rfl
end
end Mine
end
section
open PySem PySem.W PySem.W.X PyProof.Rows
namespace Mine
theorem foldl_min_le:∀ (l:List Int) (x:Int),l.foldl min x ≤ x ∧ ∀ a ∈ l,l.foldl min x ≤ a
  | [],x=>⟨Int.le_refl _,fun _ h=>nomatch h⟩
  | b::l,x=>by
    obtain ⟨h1,h2⟩:=foldl_min_le l (min x b)
    exact ⟨Int.le_trans h1 (Int.min_le_left _ _),fun a ha=>by
      cases ha with
      | head=>exact Int.le_trans h1 (Int.min_le_right _ _)
      | tail _ h=>exact h2 a h⟩
theorem foldl_min_mem:∀ (l:List Int) (x:Int),l.foldl min x = x ∨ l.foldl min x ∈ l
  | [],x=>.inl rfl
  | b::l,x=>by
    rcases foldl_min_mem l (min x b) with h | h
    · rw [List.foldl_cons,h]
      rcases Int.le_total x b with h1 | h1
      · exact .inl (Int.min_eq_left h1)
      · rw [Int.min_eq_right h1]; exact .inr (List.mem_cons_self)
    · exact .inr (List.mem_cons_of_mem _ h)
theorem lmin_le {l:List Int}:∀ a ∈ l,lmin l ≤ a:=by
  cases l with
  | nil=>exact fun _ h=>nomatch h
  | cons x l =>
    intro a ha
    cases ha with
    | head=>exact (foldl_min_le l x).1
    | tail _ h=>exact (foldl_min_le l x).2 a h
theorem lmin_mem {l:List Int} (h:l ≠ []):lmin l ∈ l:=by
  cases l with
  | nil=>exact absurd rfl h
  | cons x l =>
    rcases foldl_min_mem l x with h | h
    · show l.foldl min x ∈ x::l
      rw [h]; exact List.mem_cons_self
    · exact List.mem_cons_of_mem _ h
theorem minl_ok {V:Vw} {ks:List Nat} {l:Addr} {ep:Nat} (ns:List Int) (h:ns ≠ []) :
    CallN V ks (.call (.builtin "min") ⟨[.ref l],[]⟩) [(l,listO (ns.map fun i=>Value.int i 0) ep)] [] (fun v=>⟨none,[],.ok (.ret (.int (lmin ns) (v 3)))⟩):=min_ok (lmin_mem h) lmin_le
theorem suml_ok {V:Vw} {ks:List Nat} {l:Addr} {ep:Nat} (ns:List Int) :
    CallN V ks (.call (.builtin "sum") ⟨[.ref l],[]⟩) [(l,listO (ns.map fun i=>Value.int i 0) ep)] [] (fun v=>⟨none,[],.ok (.ret (.int (List.sum ns) (v 3)))⟩):=sum_ok
theorem map_5 {vs:List Value} {a b c d e:Value} (h:vs.map noTok = [a,b,c,d,e]):∃ x0 x1 x2 x3 x4,vs = [x0,x1,x2,x3,x4] ∧ noTok x0 = a ∧ noTok x1 = b ∧ noTok x2 = c ∧ noTok x3 = d ∧ noTok x4 = e:=by
  obtain ⟨x0,t,rfl,h0,h⟩:=map_c h
  obtain ⟨x1,t,rfl,h1,h⟩:=map_c h
  obtain ⟨x2,t,rfl,h2,h⟩:=map_c h
  obtain ⟨x3,x4,rfl,h3,h4⟩:=map2 h
  exact ⟨x0,x1,x2,x3,x4,rfl,h0,h1,h2,h3,h4⟩
theorem map_6 {vs:List Value} {a b c d e f:Value} (h:vs.map noTok = [a,b,c,d,e,f]):∃ x0 x1 x2 x3 x4 x5,vs = [x0,x1,x2,x3,x4,x5] ∧ noTok x0 = a ∧ noTok x1 = b ∧ noTok x2 = c ∧ noTok x3 = d ∧ noTok x4 = e ∧ noTok x5 = f:=by
  obtain ⟨x0,t,rfl,h0,h⟩:=map_c h
  obtain ⟨x1,x2,x3,x4,x5,rfl,h1,h2,h3,h4,h5⟩:=map_5 h
  exact ⟨x0,x1,x2,x3,x4,x5,rfl,h0,h1,h2,h3,h4,h5⟩
section
variable {w:World} {b2:Bool} {h0:Heap} {B:List Frame} {d:Drawn} {os:OsState} {bw:List (Code × Pos)}
theorem lo_ok (lc ls ep:Nat) (a0 a1 a2 a3 a4 a5 s0 s4:Int):CallN (view w b2 h0 B bw d os) [1,7] (.call (.ref 118) ⟨[.ref lc,.ref ls],[]⟩)
    [(lc,listO [.int a0 0,.int a1 0,.int a2 0,.int a3 0,.int a4 0,.int a5 0] ep),(ls,listO [.int s0 0,.int s4 0,.int s4 0,.int s4 0,.int s4 0] 0)] []
    (fun v=>⟨none,[((v 3),listO [.int (lmin [(a0+(List.sum []))]) (v 4),.int (lmin [(a0+(List.sum [s0])),(a1+(List.sum []))]) (v 5),.int (lmin [(a0+(List.sum [s0,s4])),(a1+(List.sum [s4])),(a2+(List.sum []))]) (v 6),.int (lmin [(a0+(List.sum [s0,s4,s4])),(a1+(List.sum [s4,s4])),(a2+(List.sum [s4])),(a3+(List.sum []))]) (v 7),.int (lmin [(a0+(List.sum [s0,s4,s4,s4])),(a1+(List.sum [s4,s4,s4])),(a2+(List.sum [s4,s4])),(a3+(List.sum [s4])),(a4+(List.sum []))]) (v 8),.int (lmin [(a0+(List.sum [s0,s4,s4,s4,s4])),(a1+(List.sum [s4,s4,s4,s4])),(a2+(List.sum [s4,s4,s4])),(a3+(List.sum [s4,s4])),(a4+(List.sum [s4])),(a5+(List.sum []))]) (v 9)] 6)],.ok (.ret (.ref (v 3)))⟩):=by
  intro bw' c R sz tk gn hk hc hR pos V' u M G
  obtain ⟨B',rfl,O⟩:=under_view u
  obtain ⟨v,v',rfl,hv,hv'⟩:=norm_call2 hc
  obtain rfl:=noTok_ref hv
  obtain rfl:=noTok_ref hv'
  obtain ⟨o1,R1,rfl,n1,hR⟩:=norm_cons hR
  obtain ⟨o2,rfl,n2⟩:=norm_one hR
  obtain ⟨vs,rfl,e1⟩:=norm_list n1
  obtain ⟨us,rfl,e2⟩:=norm_list n2
  obtain ⟨x0,x1,x2,x3,x4,x5,rfl,qx0,qx1,qx2,qx3,qx4,qx5⟩:=map_6 e1
  obtain ⟨tx0,rfl⟩:=noTok_int qx0
  obtain ⟨tx1,rfl⟩:=noTok_int qx1
  obtain ⟨tx2,rfl⟩:=noTok_int qx2
  obtain ⟨tx3,rfl⟩:=noTok_int qx3
  obtain ⟨tx4,rfl⟩:=noTok_int qx4
  obtain ⟨tx5,rfl⟩:=noTok_int qx5
  obtain ⟨y0,y1,y2,y3,y4,rfl,qy0,qy1,qy2,qy3,qy4⟩:=map_5 e2
  obtain ⟨ty0,rfl⟩:=noTok_int qy0
  obtain ⟨ty1,rfl⟩:=noTok_int qy1
  obtain ⟨ty2,rfl⟩:=noTok_int qy2
  obtain ⟨ty3,rfl⟩:=noTok_int qy3
  obtain ⟨ty4,rfl⟩:=noTok_int qy4
  obtain ⟨c1,p1,r1,rfl,k1,hk⟩:=ks_cons hk
  obtain ⟨c2,p2,r2,rfl,k2,hk⟩:=ks_cons hk
  obtain rfl:=ks_nil hk
  obtain ⟨_,_,rfl⟩:=shp_func k1
  obtain ⟨_,rfl⟩:=shp_caller k2
  rw [← den_eq]
  cases b2 with
  | false =>
    refine (lo_callA (w:=w) (b2:=false) (h0:=h0) (B:=B') (d:=d) (os:=os) (pos0:=pos) (lc:=lc) (ls:=ls) (ep:=ep) (c0:=a0) (c1:=a1) (c2:=a2) (c3:=a3) (c4:=a4) (c5:=a5) (s0:=s0) (s4:=s4) (s1:=0) (s2:=0) (s3:=0) (t0:=tx0) (t1:=tx1) (t2:=tx2) (t3:=tx3) (t4:=tx4) (t5:=tx5) (t6:=ty0) (t7:=ty1) (t8:=ty2) (t9:=ty3) (t10:=ty4) (sz:=sz) (tk:=tk) (gn:=gn) (M:=M) (G:=G) (O:=O) (e0:=(fun v=>suml_ok [])) (e1:=(fun v=>minl_ok [(a0+(List.sum []))] (List.cons_ne_nil _ _))) (e2:=(fun v=>suml_ok [s0])) (e3:=(fun v=>suml_ok [])) (e4:=(fun v=>minl_ok [(a0+(List.sum [s0])),(a1+(List.sum []))] (List.cons_ne_nil _ _))) (e5:=(fun v=>suml_ok [s0,s4])) (e6:=(fun v=>suml_ok [s4])) (e7:=(fun v=>suml_ok [])) (e8:=(fun v=>minl_ok [(a0+(List.sum [s0,s4])),(a1+(List.sum [s4])),(a2+(List.sum []))] (List.cons_ne_nil _ _))) (e9:=(fun v=>suml_ok [s0,s4,s4])) (e10:=(fun v=>suml_ok [s4,s4])) (e11:=(fun v=>suml_ok [s4])) (e12:=(fun v=>suml_ok [])) (e13:=(fun v=>minl_ok [(a0+(List.sum [s0,s4,s4])),(a1+(List.sum [s4,s4])),(a2+(List.sum [s4])),(a3+(List.sum []))] (List.cons_ne_nil _ _))) (e14:=(fun v=>suml_ok [s0,s4,s4,s4])) (e15:=(fun v=>suml_ok [s4,s4,s4])) (e16:=(fun v=>suml_ok [s4,s4])) (e17:=(fun v=>suml_ok [s4])) (e18:=(fun v=>suml_ok [])) (e19:=(fun v=>minl_ok [(a0+(List.sum [s0,s4,s4,s4])),(a1+(List.sum [s4,s4,s4])),(a2+(List.sum [s4,s4])),(a3+(List.sum [s4])),(a4+(List.sum []))] (List.cons_ne_nil _ _))) (e20:=(fun v=>suml_ok [s0,s4,s4,s4,s4])) (e21:=(fun v=>suml_ok [s4,s4,s4,s4])) (e22:=(fun v=>suml_ok [s4,s4,s4])) (e23:=(fun v=>suml_ok [s4,s4])) (e24:=(fun v=>suml_ok [s4])) (e25:=(fun v=>suml_ok [])) (e26:=(fun v=>minl_ok [(a0+(List.sum [s0,s4,s4,s4,s4])),(a1+(List.sum [s4,s4,s4,s4])),(a2+(List.sum [s4,s4,s4])),(a3+(List.sum [s4,s4])),(a4+(List.sum [s4])),(a5+(List.sum []))] (List.cons_ne_nil _ _)))).monoE fun v=>?_
    exact ⟨fun i=>match i with | 0=>v 26 0+2 | 1=>v 26 1 | 2=>v 26 2 | 3=>sz+5 | 4=>v 1 3 | 5=>v 4 3 | 6=>v 8 3 | 7=>v 13 3 | 8=>v 19 3 | _=>v 26 3,_,_,rfl⟩
  | true =>
    refine (lo_callB (w:=w) (b2:=false) (h0:=h0) (B:=B') (d:=d) (os:=os) (pos0:=pos) (lc:=lc) (ls:=ls) (ep:=ep) (c0:=a0) (c1:=a1) (c2:=a2) (c3:=a3) (c4:=a4) (c5:=a5) (s0:=s0) (s4:=s4) (s1:=0) (s2:=0) (s3:=0) (t0:=tx0) (t1:=tx1) (t2:=tx2) (t3:=tx3) (t4:=tx4) (t5:=tx5) (t6:=ty0) (t7:=ty1) (t8:=ty2) (t9:=ty3) (t10:=ty4) (sz:=sz) (tk:=tk) (gn:=gn) (M:=M) (G:=G) (O:=O) (e0:=(fun v=>suml_ok [])) (e1:=(fun v=>minl_ok [(a0+(List.sum []))] (List.cons_ne_nil _ _))) (e2:=(fun v=>suml_ok [s0])) (e3:=(fun v=>suml_ok [])) (e4:=(fun v=>minl_ok [(a0+(List.sum [s0])),(a1+(List.sum []))] (List.cons_ne_nil _ _))) (e5:=(fun v=>suml_ok [s0,s4])) (e6:=(fun v=>suml_ok [s4])) (e7:=(fun v=>suml_ok [])) (e8:=(fun v=>minl_ok [(a0+(List.sum [s0,s4])),(a1+(List.sum [s4])),(a2+(List.sum []))] (List.cons_ne_nil _ _))) (e9:=(fun v=>suml_ok [s0,s4,s4])) (e10:=(fun v=>suml_ok [s4,s4])) (e11:=(fun v=>suml_ok [s4])) (e12:=(fun v=>suml_ok [])) (e13:=(fun v=>minl_ok [(a0+(List.sum [s0,s4,s4])),(a1+(List.sum [s4,s4])),(a2+(List.sum [s4])),(a3+(List.sum []))] (List.cons_ne_nil _ _))) (e14:=(fun v=>suml_ok [s0,s4,s4,s4])) (e15:=(fun v=>suml_ok [s4,s4,s4])) (e16:=(fun v=>suml_ok [s4,s4])) (e17:=(fun v=>suml_ok [s4])) (e18:=(fun v=>suml_ok [])) (e19:=(fun v=>minl_ok [(a0+(List.sum [s0,s4,s4,s4])),(a1+(List.sum [s4,s4,s4])),(a2+(List.sum [s4,s4])),(a3+(List.sum [s4])),(a4+(List.sum []))] (List.cons_ne_nil _ _))) (e20:=(fun v=>suml_ok [s0,s4,s4,s4,s4])) (e21:=(fun v=>suml_ok [s4,s4,s4,s4])) (e22:=(fun v=>suml_ok [s4,s4,s4])) (e23:=(fun v=>suml_ok [s4,s4])) (e24:=(fun v=>suml_ok [s4])) (e25:=(fun v=>suml_ok [])) (e26:=(fun v=>minl_ok [(a0+(List.sum [s0,s4,s4,s4,s4])),(a1+(List.sum [s4,s4,s4,s4])),(a2+(List.sum [s4,s4,s4])),(a3+(List.sum [s4,s4])),(a4+(List.sum [s4])),(a5+(List.sum []))] (List.cons_ne_nil _ _)))).monoE fun v=>?_
    exact ⟨fun i=>match i with | 0=>v 26 0+2 | 1=>v 26 1 | 2=>v 26 2 | 3=>sz+5 | 4=>v 1 3 | 5=>v 4 3 | 6=>v 8 3 | 7=>v 13 3 | 8=>v 19 3 | _=>v 26 3,_,_,rfl⟩
end
end Mine
end
section
open PySem PySem.W PySem.W.X PyProof.Rows
namespace Mine
noncomputable def lg_in_fs (v:N2) (w:World) (b2:Bool) (h0:Heap) (B:List Frame) (d:Drawn) (os:OsState) (pos0:Pos) (sc:String) (L gO gL gl g t0 t1:Nat) (tx:Str) (t2 t3 t4 t5 t6:Nat) (s:Str) (t7:Nat) (g0:Int) (t8:Nat) (g1:Int) (qa0:List Stmt) (qb0:Env) (qq0:Pos) (qa1:Expr) (qb1:Value) (qc1 qd1:List Stmt) (qe1:Env) (qq1:Pos) (qa2:List Stmt) (qb2:Env) (qq2:Pos) (qa3:Args) (qq3:Pos) (sz tk gn:Nat) (M:List (Addr × Obj)) (G:List (Nat × GenState)):List Frame:=match runS (view w b2 h0 B [(.func qa0 qb0,qq0),(.forLoop qa1 qb1 qc1 qd1 qe1,qq1),(.func qa2 qb2,qq2),(.builtin "claim.caller" qa3,qq3)] d os) den 47 ((List.range 1).map v) (lay (mkD (.forLoop fLg_t70 (.ref gO) fLg_b70 [] (envF fLgs fLgq 113 [] L)) pos0 [] ((L,nsO [ent w.params z38 t0 (.str tx t1),ent w.params z39 t2 (.ref gl)] 2)::(gO,(fO "generator" [(.int (Int.ofNat g) 0),(.str z20 t3),(.str z20 t4)]))::(gL,nsO [ent w.params z14 t5 (.str s t6)] 1)::(gl,listO [(.int g0 t7),(.int g1 t8)] 0)::M) sz tk ((g,(.fresh (.func fIe_ (envF fIes fIeq 35 [] gL))))::G) gn) [2,2,2,0,0,0,3,3,3,3,0,0,3,1,1,1,1] [(2,.call [] [] (fun v0=>⟨none,[((v0 3),(fO "enumerate" [.none,(.bool false),(.ref (v0 4)),(.int 0 0),.none,.none])),((v0 4),(fO sc [(.str s t6),(.int 0 0)]))],.ok (.ret (.ref (v0 3)))⟩) (fun v0=>[]))]) with | some y=>y.fs | none=>[]
theorem lg_in (w:World) (b2:Bool) (h0:Heap) (B:List Frame) (d:Drawn) (os:OsState) (pos0:Pos) (sc:String) (L gO gL gl g t0 t1:Nat) (tx:Str) (t2 t3 t4 t5 t6:Nat) (s:Str) (t7:Nat) (g0:Int) (t8:Nat) (g1:Int) (qa0:List Stmt) (qb0:Env) (qq0:Pos) (qa1:Expr) (qb1:Value) (qc1 qd1:List Stmt) (qe1:Env) (qq1:Pos) (qa2:List Stmt) (qb2:Env) (qq2:Pos) (qa3:Args) (qq3:Pos) (sz tk gn:Nat) (M:List (Addr × Obj)) (G:List (Nat × GenState)) (O:(view w b2 h0 B [(.func qa0 qb0,qq0),(.forLoop qa1 qb1 qc1 qd1 qe1,qq1),(.func qa2 qb2,qq2),(.builtin "claim.caller" qa3,qq3)] d os).Ok)
    (e0:∀ v:N2,CallN (view w b2 h0 B [(.func qa0 qb0,qq0),(.forLoop qa1 qb1 qc1 qd1 qe1,qq1),(.func qa2 qb2,qq2),(.builtin "claim.caller" qa3,qq3)] d os) ([1,8,2,1,2,1,7]) (.call (.type "enumerate") ⟨[(.str s t6)],[]⟩) [] [] (fun v0=>⟨none,[((v0 3),(fO "enumerate" [.none,(.bool false),(.ref (v0 4)),(.int 0 0),.none,.none])),((v0 4),(fO sc [(.str s t6),(.int 0 0)]))],.ok (.ret (.ref (v0 3)))⟩)) :
    Goes (view w b2 h0 B [(.func qa0 qb0,qq0),(.forLoop qa1 qb1 qc1 qd1 qe1,qq1),(.func qa2 qb2,qq2),(.builtin "claim.caller" qa3,qq3)] d os) (mkD (.forLoop fLg_t70 (.ref gO) fLg_b70 [] (envF fLgs fLgq 113 [] L)) pos0 [] ((L,nsO [ent w.params z38 t0 (.str tx t1),ent w.params z39 t2 (.ref gl)] 2)::(gO,(fO "generator" [(.int (Int.ofNat g) 0),(.str z20 t3),(.str z20 t4)]))::(gL,nsO [ent w.params z14 t5 (.str s t6)] 1)::(gl,listO [(.int g0 t7),(.int g1 t8)] 0)::M) sz tk ((g,(.fresh (.func fIe_ (envF fIes fIeq 35 [] gL))))::G) gn)
      (fun y=>∃ v:N2,y = mkD (.forLoop fIe_t29 (.ref (v 0 3)) fIe_b29 [] (envF fIes fIeq 35 [] gL)) ⟨29,19,29,34⟩ (lg_in_fs v w b2 h0 B d os pos0 sc L gO gL gl g t0 t1 tx t2 t3 t4 t5 t6 s t7 g0 t8 g1 qa0 qb0 qq0 qa1 qb1 qc1 qd1 qe1 qq1 qa2 qb2 qq2 qa3 qq3 sz tk gn M G) (((v 0 3),(fO "enumerate" [.none,(.bool false),(.ref (v 0 4)),(.int 0 0),.none,.none]))::((v 0 4),(fO sc [(.str s t6),(.int 0 0)]))::(L,nsO [ent w.params z38 t0 (.str tx t1),ent w.params z39 t2 (.ref gl)] 2)::(gO,(fO "generator" [(.int (Int.ofNat g) 0),(.str z20 t3),(.str z20 t4)]))::(gL,nsO [ent w.params z14 t5 (.str s t6),ent w.params z15 (tk+1) (.int 0 tk),ent w.params z16 (tk+2) (.bool false)] 3)::(gl,listO [(.int g0 t7),(.int g1 t8)] 0)::M) (v 0 0) (v 0 1) ((g,.running)::G) (v 0 2)) :=
  goes_run (it:=[2,2,2,0,0,0,3,3,3,3,0,0,3,1,1,1,1]) (en:=[(2,.call [] [] (fun v0=>⟨none,[((v0 3),(fO "enumerate" [.none,(.bool false),(.ref (v0 4)),(.int 0 0),.none,.none])),((v0 4),(fO sc [(.str s t6),(.int 0 0)]))],.ok (.ret (.ref (v0 3)))⟩) (fun v0=>[]))])
    (d:=6) (ms:=[0,1,2,3,4,5]) (e:=1) (gs:=[0]) (mv:=[])
    O den_eq 47 1 (fun v=>⟨by kernel_rfl,by kernel_rfl,by kernel_rfl,by kernel_rfl⟩) (fun v=>AllP.cons (e0 v) AllP.nil)

theorem lg_a0 (w:World) (b2:Bool) (h0:Heap) (B:List Frame) (d:Drawn) (os:OsState) (pos0:Pos) (vz:N2) (pos0z:Pos) (t0z t1z:Nat) (txz:Str) (t2z t3z t4z t5z t6z t7z:Nat) (g0z:Int) (t8z:Nat) (g1z:Int) (szz tkz gnz:Nat) (Mz:List (Addr × Obj)) (Gz:List (Nat × GenState)) (sc:String) (k L gO gL gl g:Nat) (gpv lvv:Value) (t0:Nat) (s:Str) (t1 t2:Nat) (tx:Str) (t3 t4 t5 t6 t7 t8 t9 t10:Nat) (g0:Int) (t11:Nat) (g1:Int) (c:Str) (qa0:List Stmt) (qb0:Env) (qq0:Pos) (qa1:Expr) (qb1:Value) (qc1 qd1:List Stmt) (qe1:Env) (qq1:Pos) (qa2:List Stmt) (qb2:Env) (qq2:Pos) (qa3:Args) (qq3:Pos) (sz tk gn:Nat) (M:List (Addr × Obj)) (G:List (Nat × GenState)) (O:(view w b2 h0 B [(.func qa0 qb0,qq0),(.forLoop qa1 qb1 qc1 qd1 qe1,qq1),(.func qa2 qb2,qq2),(.builtin "claim.caller" qa3,qq3)] d os).Ok)
    (e0:∀ v:N2,CallN (view w b2 h0 B [(.func qa0 qb0,qq0),(.forLoop qa1 qb1 qc1 qd1 qe1,qq1),(.func qa2 qb2,qq2),(.builtin "claim.caller" qa3,qq3)] d os) ([2,1,8,2,1,2,1,7]) (cB "enumerate.__next__" [(.ref (vz 0 3))]) [((vz 0 3),(fO "enumerate" [.none,(.bool false),(.ref (vz 0 4)),(.int (Int.ofNat k) 0),.none,lvv])),((vz 0 4),(fO sc [(.str s t0),(.int (Int.ofNat k) 0)]))] [] (fun v0=>⟨some [(fO "enumerate" [(.int (Int.ofNat (v0 3)) 0),(.bool false),(.ref (vz 0 4)),(.int ((Int.ofNat k)+1) 0),.none,(.str c (v0 4))]),(fO sc [(.str s t0),(.int ((Int.ofNat k)+1) 0)])],[((v0 3),(tO [(.int (Int.ofNat k) (v0 5)),(.str c (v0 4))]))],.ok (.ret (.ref (v0 3)))⟩)) (e1:∀ v:N2,EvP "str.__eq__" [(.str c 0),(.str z17 0)] (retB true)) :
    Goes (view w b2 h0 B [(.func qa0 qb0,qq0),(.forLoop qa1 qb1 qc1 qd1 qe1,qq1),(.func qa2 qb2,qq2),(.builtin "claim.caller" qa3,qq3)] d os) (mkD (.forLoop fIe_t29 (.ref (vz 0 3)) fIe_b29 [] (envF fIes fIeq 35 [] gL)) pos0 (lg_in_fs vz w b2 h0 B d os pos0z sc L gO gL gl g t0z t1z txz t2z t3z t4z t5z t6z s t7z g0z t8z g1z qa0 qb0 qq0 qa1 qb1 qc1 qd1 qe1 qq1 qa2 qb2 qq2 qa3 qq3 szz tkz gnz Mz Gz) (((vz 0 3),(fO "enumerate" [.none,(.bool false),(.ref (vz 0 4)),(.int (Int.ofNat k) 0),.none,lvv]))::((vz 0 4),(fO sc [(.str s t0),(.int (Int.ofNat k) 0)]))::(L,nsO [ent w.params z38 t1 (.str tx t2),ent w.params z39 t3 (.ref gl)] 2)::(gO,(fO "generator" [(.int (Int.ofNat g) 0),(.str z20 t4),(.str z20 t5)]))::(gL,nsO [ent w.params z14 t6 (.str s t0),ent w.params z15 t7 gpv,ent w.params z16 t9 (.bool false)] 3)::(gl,listO [(.int g0 t10),(.int g1 t11)] 0)::M) sz tk ((g,.running)::G) gn)
      (fun y=>∃ v:N2,y = mkD (.forLoop fIe_t29 (.ref (vz 0 3)) fIe_b29 [] (envF fIes fIeq 35 [] gL)) ⟨34,12,34,18⟩ (lg_in_fs vz w b2 h0 B d os pos0z sc L gO gL gl g t0z t1z txz t2z t3z t4z t5z t6z s t7z g0z t8z g1z qa0 qb0 qq0 qa1 qb1 qc1 qd1 qe1 qq1 qa2 qb2 qq2 qa3 qq3 szz tkz gnz Mz Gz) (((vz 0 3),(fO "enumerate" [.none,(.bool false),(.ref (vz 0 4)),(.int ((Int.ofNat k)+1) 0),.none,(.str c (v 0 4))]))::((vz 0 4),(fO sc [(.str s t0),(.int ((Int.ofNat k)+1) 0)]))::(L,nsO [ent w.params z38 t1 (.str tx t2),ent w.params z39 t3 (.ref gl)] 2)::(gO,(fO "generator" [(.int (Int.ofNat g) 0),(.str z20 t4),(.str z20 t5)]))::(gL,nsO [ent w.params z14 t6 (.str s t0),ent w.params z15 t7 (.int (Int.ofNat k) (v 0 5)),ent w.params z16 t9 (.bool true),ent w.params z18 ((v 0 1)+1) (.str c (v 0 4))] 4)::(gl,listO [(.int g0 t10),(.int g1 t11)] 0)::M) ((v 0 0)+3) ((v 0 1)+4) ((g,.running)::G) (v 0 2)) :=
  goes_run (it:=[1,2,2,2,1,1,1,1,1,1,1,1,1,2,1,1,1,1,1,1,2,1,1,1,1,1,1,2,1,1,1,9,9,9,9,9,9,9,9]) (en:=[(0,.call [0,1] [] (fun v0=>⟨some [(fO "enumerate" [(.int (Int.ofNat (v0 3)) 0),(.bool false),(.ref (vz 0 4)),(.int ((Int.ofNat k)+1) 0),.none,(.str c (v0 4))]),(fO sc [(.str s t0),(.int ((Int.ofNat k)+1) 0)])],[((v0 3),(tO [(.int (Int.ofNat k) (v0 5)),(.str c (v0 4))]))],.ok (.ret (.ref (v0 3)))⟩) (fun v0=>[(0,.own (tupE fIe_t29) (tupK fIe_t29) (tupP fIe_t29) (vz 0 3) (v0 3) fIe_b29 [] (envF fIes fIeq 35 [] gL)),(9,.ev (retB true))]))])
    (d:=10) (ms:=[4,5,6,7,8,9]) (e:=1) (gs:=[0]) (mv:=[])
    O den_eq 89 2 (fun v=>⟨by kernel_rfl,by kernel_rfl,by kernel_rfl,by kernel_rfl⟩) (fun v=>AllP.cons (e1 v) (AllP.cons (e0 v) AllP.nil))

theorem lg_c0t (w:World) (b2:Bool) (h0:Heap) (B:List Frame) (d:Drawn) (os:OsState) (pos0:Pos) (vz:N2) (pos0z:Pos) (t0z t1z:Nat) (txz:Str) (t2z t3z t4z t5z t6z t7z:Nat) (g0z:Int) (t8z:Nat) (g1z:Int) (szz tkz gnz:Nat) (Mz:List (Addr × Obj)) (Gz:List (Nat × GenState)) (sc:String) (k L gO gL gl g:Nat) (gpv lvv:Value) (t0:Nat) (s:Str) (t1 t2:Nat) (tx:Str) (t3 t4 t5 t6 t7 t8 t9 t10:Nat) (g0:Int) (t11:Nat) (g1:Int) (c:Str) (qa0:List Stmt) (qb0:Env) (qq0:Pos) (qa1:Expr) (qb1:Value) (qc1 qd1:List Stmt) (qe1:Env) (qq1:Pos) (qa2:List Stmt) (qb2:Env) (qq2:Pos) (qa3:Args) (qq3:Pos) (sz tk gn:Nat) (M:List (Addr × Obj)) (G:List (Nat × GenState)) (O:(view w b2 h0 B [(.func qa0 qb0,qq0),(.forLoop qa1 qb1 qc1 qd1 qe1,qq1),(.func qa2 qb2,qq2),(.builtin "claim.caller" qa3,qq3)] d os).Ok)
    (e0:∀ v:N2,CallN (view w b2 h0 B [(.func qa0 qb0,qq0),(.forLoop qa1 qb1 qc1 qd1 qe1,qq1),(.func qa2 qb2,qq2),(.builtin "claim.caller" qa3,qq3)] d os) ([2,1,8,2,1,2,1,7]) (cB "enumerate.__next__" [(.ref (vz 0 3))]) [((vz 0 3),(fO "enumerate" [.none,(.bool false),(.ref (vz 0 4)),(.int (Int.ofNat k) 0),.none,lvv])),((vz 0 4),(fO sc [(.str s t0),(.int (Int.ofNat k) 0)]))] [] (fun v0=>⟨some [(fO "enumerate" [(.int (Int.ofNat (v0 3)) 0),(.bool false),(.ref (vz 0 4)),(.int ((Int.ofNat k)+1) 0),.none,(.str c (v0 4))]),(fO sc [(.str s t0),(.int ((Int.ofNat k)+1) 0)])],[((v0 3),(tO [(.int (Int.ofNat k) (v0 5)),(.str c (v0 4))]))],.ok (.ret (.ref (v0 3)))⟩)) (e1:∀ v:N2,EvP "str.__eq__" [(.str c 0),(.str z17 0)] (retB false)) (e2:∀ v:N2,EvP "str.__getitem__" [(.str c 0),(.int (-1) 0)] (retS c)) (e3:∀ v:N2,CallN (view w b2 h0 B [(.func qa0 qb0,qq0),(.forLoop qa1 qb1 qc1 qd1 qe1,qq1),(.func qa2 qb2,qq2),(.builtin "claim.caller" qa3,qq3)] d os) ([2,1,2,1,7]) (cR 60 [(.str c 0)]) [] [] (fun v2=>oV (.bool true))) :
    Goes (view w b2 h0 B [(.func qa0 qb0,qq0),(.forLoop qa1 qb1 qc1 qd1 qe1,qq1),(.func qa2 qb2,qq2),(.builtin "claim.caller" qa3,qq3)] d os) (mkD (.forLoop fIe_t29 (.ref (vz 0 3)) fIe_b29 [] (envF fIes fIeq 35 [] gL)) pos0 (lg_in_fs vz w b2 h0 B d os pos0z sc L gO gL gl g t0z t1z txz t2z t3z t4z t5z t6z s t7z g0z t8z g1z qa0 qb0 qq0 qa1 qb1 qc1 qd1 qe1 qq1 qa2 qb2 qq2 qa3 qq3 szz tkz gnz Mz Gz) (((vz 0 3),(fO "enumerate" [.none,(.bool false),(.ref (vz 0 4)),(.int (Int.ofNat k) 0),.none,lvv]))::((vz 0 4),(fO sc [(.str s t0),(.int (Int.ofNat k) 0)]))::(L,nsO [ent w.params z38 t1 (.str tx t2),ent w.params z39 t3 (.ref gl)] 2)::(gO,(fO "generator" [(.int (Int.ofNat g) 0),(.str z20 t4),(.str z20 t5)]))::(gL,nsO [ent w.params z14 t6 (.str s t0),ent w.params z15 t7 gpv,ent w.params z16 t9 (.bool false)] 3)::(gl,listO [(.int g0 t10),(.int g1 t11)] 0)::M) sz tk ((g,.running)::G) gn)
      (fun y=>∃ v:N2,y = mkD (.forLoop fIe_t29 (.ref (vz 0 3)) fIe_b29 [] (envF fIes fIeq 35 [] gL)) ⟨36,12,36,27⟩ (lg_in_fs vz w b2 h0 B d os pos0z sc L gO gL gl g t0z t1z txz t2z t3z t4z t5z t6z s t7z g0z t8z g1z qa0 qb0 qq0 qa1 qb1 qc1 qd1 qe1 qq1 qa2 qb2 qq2 qa3 qq3 szz tkz gnz Mz Gz) (((vz 0 3),(fO "enumerate" [.none,(.bool false),(.ref (vz 0 4)),(.int ((Int.ofNat k)+1) 0),.none,(.str c (v 0 4))]))::((vz 0 4),(fO sc [(.str s t0),(.int ((Int.ofNat k)+1) 0)]))::(L,nsO [ent w.params z38 t1 (.str tx t2),ent w.params z39 t3 (.ref gl),ent w.params z41 ((v 0 1)+3) (.int (Int.ofNat k) (v 0 5)),ent w.params z40 ((v 0 1)+4) (.str c (v 0 4))] 4)::(gO,(fO "generator" [(.int (Int.ofNat g) 0),(.str z20 t4),(.str z20 t5)]))::(gL,nsO [ent w.params z14 t6 (.str s t0),ent w.params z15 t7 (.int (Int.ofNat k) (v 0 5)),ent w.params z16 t9 (.bool false),ent w.params z18 ((v 0 1)+1) (.str c (v 0 4))] 4)::(gl,listO [(.int g0 t10),(.int g1 t11)] 0)::M) (v 2 0) (v 2 1) ((g,.running)::G) (v 2 2)) :=
  goes_run (it:=[1,2,2,2,1,1,1,1,1,1,1,1,1,2,1,1,1,1,1,1,2,1,1,1,1,1,1,2,1,1,1,9,9,9,9,9,9,9,9,0,9,1,1,1,1,1,1,1,1,1,2,1,1,1,1,1,1,2,1,1,1,1,1,1,2,1,1,1,11,11,11,11,0,11,0,12,12,12,0,0,0]) (en:=[(0,.call [0,1] [] (fun v0=>⟨some [(fO "enumerate" [(.int (Int.ofNat (v0 3)) 0),(.bool false),(.ref (vz 0 4)),(.int ((Int.ofNat k)+1) 0),.none,(.str c (v0 4))]),(fO sc [(.str s t0),(.int ((Int.ofNat k)+1) 0)])],[((v0 3),(tO [(.int (Int.ofNat k) (v0 5)),(.str c (v0 4))]))],.ok (.ret (.ref (v0 3)))⟩) (fun v0=>[(0,.own (tupE fIe_t29) (tupK fIe_t29) (tupP fIe_t29) (vz 0 3) (v0 3) fIe_b29 [] (envF fIes fIeq 35 [] gL)),(9,.ev (retB false)),(11,.ev (retS c)),(0,.call [] [] (fun v2=>oV (.bool true)) (fun v2=>[]))]))])
    (d:=14) (ms:=[8,9,10,11,12,13]) (e:=1) (gs:=[0]) (mv:=[])
    O den_eq 184 3 (fun v=>⟨by kernel_rfl,by kernel_rfl,by kernel_rfl,by kernel_rfl⟩) (fun v=>AllP.cons (e3 v) (AllP.cons (e2 v) (AllP.cons (e1 v) (AllP.cons (e0 v) AllP.nil))))

theorem lg_c0f (w:World) (b2:Bool) (h0:Heap) (B:List Frame) (d:Drawn) (os:OsState) (pos0:Pos) (vz:N2) (pos0z:Pos) (t0z t1z:Nat) (txz:Str) (t2z t3z t4z t5z t6z t7z:Nat) (g0z:Int) (t8z:Nat) (g1z:Int) (szz tkz gnz:Nat) (Mz:List (Addr × Obj)) (Gz:List (Nat × GenState)) (sc:String) (k L gO gL gl g:Nat) (gpv lvv:Value) (t0:Nat) (s:Str) (t1 t2:Nat) (tx:Str) (t3 t4 t5 t6 t7 t8 t9 t10:Nat) (g0:Int) (t11:Nat) (g1:Int) (c fold:Str) (qa0:List Stmt) (qb0:Env) (qq0:Pos) (qa1:Expr) (qb1:Value) (qc1 qd1:List Stmt) (qe1:Env) (qq1:Pos) (qa2:List Stmt) (qb2:Env) (qq2:Pos) (qa3:Args) (qq3:Pos) (sz tk gn:Nat) (M:List (Addr × Obj)) (G:List (Nat × GenState)) (O:(view w b2 h0 B [(.func qa0 qb0,qq0),(.forLoop qa1 qb1 qc1 qd1 qe1,qq1),(.func qa2 qb2,qq2),(.builtin "claim.caller" qa3,qq3)] d os).Ok)
    (e0:∀ v:N2,CallN (view w b2 h0 B [(.func qa0 qb0,qq0),(.forLoop qa1 qb1 qc1 qd1 qe1,qq1),(.func qa2 qb2,qq2),(.builtin "claim.caller" qa3,qq3)] d os) ([2,1,8,2,1,2,1,7]) (cB "enumerate.__next__" [(.ref (vz 0 3))]) [((vz 0 3),(fO "enumerate" [.none,(.bool false),(.ref (vz 0 4)),(.int (Int.ofNat k) 0),.none,lvv])),((vz 0 4),(fO sc [(.str s t0),(.int (Int.ofNat k) 0)]))] [] (fun v0=>⟨some [(fO "enumerate" [(.int (Int.ofNat (v0 3)) 0),(.bool false),(.ref (vz 0 4)),(.int ((Int.ofNat k)+1) 0),.none,(.str c (v0 4))]),(fO sc [(.str s t0),(.int ((Int.ofNat k)+1) 0)])],[((v0 3),(tO [(.int (Int.ofNat k) (v0 5)),(.str c (v0 4))]))],.ok (.ret (.ref (v0 3)))⟩)) (e1:∀ v:N2,EvP "str.__eq__" [(.str c 0),(.str z17 0)] (retB false)) (e2:∀ v:N2,EvP "str.__getitem__" [(.str c 0),(.int (-1) 0)] (retS c)) (e3:∀ v:N2,CallN (view w b2 h0 B [(.func qa0 qb0,qq0),(.forLoop qa1 qb1 qc1 qd1 qe1,qq1),(.func qa2 qb2,qq2),(.builtin "claim.caller" qa3,qq3)] d os) ([2,1,2,1,7]) (cR 60 [(.str c 0)]) [] [] (fun v2=>oV (.bool false))) (e4:∀ v:N2,EvP "str.__len__" [(.str c 0)] (retI 1)) (e5:∀ v:N2,EvP "str.__getitem__" [(.str c 0),(.int (-1) 0)] (retS c)) (e6:∀ v:N2,CallN (view w b2 h0 B [(.func qa0 qb0,qq0),(.forLoop qa1 qb1 qc1 qd1 qe1,qq1),(.func qa2 qb2,qq2),(.builtin "claim.caller" qa3,qq3)] d os) ([2,1,2,1,7]) (cR 106 [(.str c 0)]) [] [] (fun v3=>oV (.str fold (v3 3)))) (e7:∀ v:N2,CallN (view w b2 h0 B [(.func qa0 qb0,qq0),(.forLoop qa1 qb1 qc1 qd1 qe1,qq1),(.func qa2 qb2,qq2),(.builtin "claim.caller" qa3,qq3)] d os) ([2,1,2,1,7]) (cB "len" [(.str fold 0)]) [] [] (fun v4=>oV (.int (sLen fold) (v4 3)))) :
    Goes (view w b2 h0 B [(.func qa0 qb0,qq0),(.forLoop qa1 qb1 qc1 qd1 qe1,qq1),(.func qa2 qb2,qq2),(.builtin "claim.caller" qa3,qq3)] d os) (mkD (.forLoop fIe_t29 (.ref (vz 0 3)) fIe_b29 [] (envF fIes fIeq 35 [] gL)) pos0 (lg_in_fs vz w b2 h0 B d os pos0z sc L gO gL gl g t0z t1z txz t2z t3z t4z t5z t6z s t7z g0z t8z g1z qa0 qb0 qq0 qa1 qb1 qc1 qd1 qe1 qq1 qa2 qb2 qq2 qa3 qq3 szz tkz gnz Mz Gz) (((vz 0 3),(fO "enumerate" [.none,(.bool false),(.ref (vz 0 4)),(.int (Int.ofNat k) 0),.none,lvv]))::((vz 0 4),(fO sc [(.str s t0),(.int (Int.ofNat k) 0)]))::(L,nsO [ent w.params z38 t1 (.str tx t2),ent w.params z39 t3 (.ref gl)] 2)::(gO,(fO "generator" [(.int (Int.ofNat g) 0),(.str z20 t4),(.str z20 t5)]))::(gL,nsO [ent w.params z14 t6 (.str s t0),ent w.params z15 t7 gpv,ent w.params z16 t9 (.bool false)] 3)::(gl,listO [(.int g0 t10),(.int g1 t11)] 0)::M) sz tk ((g,.running)::G) gn)
      (fun y=>∃ v:N2,y = mkD (.forLoop fIe_t29 (.ref (vz 0 3)) fIe_b29 [] (envF fIes fIeq 35 [] gL)) ⟨36,12,36,27⟩ (lg_in_fs vz w b2 h0 B d os pos0z sc L gO gL gl g t0z t1z txz t2z t3z t4z t5z t6z s t7z g0z t8z g1z qa0 qb0 qq0 qa1 qb1 qc1 qd1 qe1 qq1 qa2 qb2 qq2 qa3 qq3 szz tkz gnz Mz Gz) (((vz 0 3),(fO "enumerate" [.none,(.bool false),(.ref (vz 0 4)),(.int ((Int.ofNat k)+1) 0),.none,(.str c (v 0 4))]))::((vz 0 4),(fO sc [(.str s t0),(.int ((Int.ofNat k)+1) 0)]))::(L,nsO [ent w.params z38 t1 (.str tx t2),ent w.params z39 t3 (.ref gl),ent w.params z41 ((v 0 1)+3) (.int (Int.ofNat k) (v 0 5)),ent w.params z40 ((v 0 1)+4) (.str c (v 0 4))] 4)::(gO,(fO "generator" [(.int (Int.ofNat g) 0),(.str z20 t4),(.str z20 t5)]))::(gL,nsO [ent w.params z14 t6 (.str s t0),ent w.params z15 t7 (.int (Int.ofNat k) (v 0 5)),ent w.params z16 t9 (.bool false),ent w.params z18 ((v 0 1)+1) (.str c (v 0 4))] 4)::(gl,listO [(.int (g0+(sLen fold)) (v 4 1)),(.int g1 t11)] 0)::M) (v 4 0) ((v 4 1)+1) ((g,.running)::G) (v 4 2)) :=
  goes_run (it:=[1,2,2,2,1,1,1,1,1,1,1,1,1,2,1,1,1,1,1,1,2,1,1,1,1,1,1,2,1,1,1,9,9,9,9,9,9,9,9,0,9,1,1,1,1,1,1,1,1,1,2,1,1,1,1,1,1,2,1,1,1,1,1,1,2,1,1,1,11,11,11,11,0,11,0,11,0,0,11,14,14,14,14,0,0,0,11,0,14,14,14,14,14,14,12,12,12,0,0,0]) (en:=[(0,.call [0,1] [] (fun v0=>⟨some [(fO "enumerate" [(.int (Int.ofNat (v0 3)) 0),(.bool false),(.ref (vz 0 4)),(.int ((Int.ofNat k)+1) 0),.none,(.str c (v0 4))]),(fO sc [(.str s t0),(.int ((Int.ofNat k)+1) 0)])],[((v0 3),(tO [(.int (Int.ofNat k) (v0 5)),(.str c (v0 4))]))],.ok (.ret (.ref (v0 3)))⟩) (fun v0=>[(0,.own (tupE fIe_t29) (tupK fIe_t29) (tupP fIe_t29) (vz 0 3) (v0 3) fIe_b29 [] (envF fIes fIeq 35 [] gL)),(9,.ev (retB false)),(11,.ev (retS c)),(0,.call [] [] (fun v2=>oV (.bool false)) (fun v2=>[(3,.ev (retI 1)),(7,.ev (retS c)),(0,.call [] [] (fun v3=>oV (.str fold (v3 3))) (fun v3=>[(0,.call [] [] (fun v4=>oV (.int (sLen fold) (v4 3))) (fun v4=>[]))]))]))]))])
    (d:=14) (ms:=[8,9,10,11,12,13]) (e:=1) (gs:=[0]) (mv:=[])
    O den_eq 257 5 (fun v=>⟨by kernel_rfl,by kernel_rfl,by kernel_rfl,by kernel_rfl⟩) (fun v=>AllP.cons (e7 v) (AllP.cons (e6 v) (AllP.cons (e5 v) (AllP.cons (e4 v) (AllP.cons (e3 v) (AllP.cons (e2 v) (AllP.cons (e1 v) (AllP.cons (e0 v) AllP.nil))))))))

theorem lg_a (w:World) (b2:Bool) (h0:Heap) (B:List Frame) (d:Drawn) (os:OsState) (pos0:Pos) (vz:N2) (pos0z:Pos) (t0z t1z:Nat) (txz:Str) (t2z t3z t4z t5z t6z t7z:Nat) (g0z:Int) (t8z:Nat) (g1z:Int) (szz tkz gnz:Nat) (Mz:List (Addr × Obj)) (Gz:List (Nat × GenState)) (sc:String) (k L gO gL gl g:Nat) (luv lpv gpv gcv lvv:Value) (t0 t1:Nat) (s:Str) (t2 t3:Nat) (tx:Str) (t4 t5 t6 t7 t8 t9 t10 t11 t12 t13 t14 t15:Nat) (g0:Int) (t16:Nat) (g1:Int) (c:Str) (qa0:List Stmt) (qb0:Env) (qq0:Pos) (qa1:Expr) (qb1:Value) (qc1 qd1:List Stmt) (qe1:Env) (qq1:Pos) (qa2:List Stmt) (qb2:Env) (qq2:Pos) (qa3:Args) (qq3:Pos) (sz tk gn:Nat) (M:List (Addr × Obj)) (G:List (Nat × GenState)) (O:(view w b2 h0 B [(.func qa0 qb0,qq0),(.forLoop qa1 qb1 qc1 qd1 qe1,qq1),(.func qa2 qb2,qq2),(.builtin "claim.caller" qa3,qq3)] d os).Ok)
    (e0:∀ v:N2,CallN (view w b2 h0 B [(.func qa0 qb0,qq0),(.forLoop qa1 qb1 qc1 qd1 qe1,qq1),(.func qa2 qb2,qq2),(.builtin "claim.caller" qa3,qq3)] d os) ([2,1,8,2,1,2,1,7]) (cB "enumerate.__next__" [(.ref (vz 0 3))]) [((vz 0 3),(fO "enumerate" [.none,(.bool false),(.ref (vz 0 4)),(.int (Int.ofNat k) 0),.none,lvv])),((vz 0 4),(fO sc [(.str s t1),(.int (Int.ofNat k) 0)]))] [] (fun v0=>⟨some [(fO "enumerate" [(.int (Int.ofNat (v0 3)) 0),(.bool false),(.ref (vz 0 4)),(.int ((Int.ofNat k)+1) 0),.none,(.str c (v0 4))]),(fO sc [(.str s t1),(.int ((Int.ofNat k)+1) 0)])],[((v0 3),(tO [(.int (Int.ofNat k) (v0 5)),(.str c (v0 4))]))],.ok (.ret (.ref (v0 3)))⟩)) (e1:∀ v:N2,EvP "str.__eq__" [(.str c 0),(.str z17 0)] (retB true)) :
    Goes (view w b2 h0 B [(.func qa0 qb0,qq0),(.forLoop qa1 qb1 qc1 qd1 qe1,qq1),(.func qa2 qb2,qq2),(.builtin "claim.caller" qa3,qq3)] d os) (mkD (.forLoop fIe_t29 (.ref (vz 0 3)) fIe_b29 [] (envF fIes fIeq 35 [] gL)) pos0 (lg_in_fs vz w b2 h0 B d os pos0z sc L gO gL gl g t0z t1z txz t2z t3z t4z t5z t6z s t7z g0z t8z g1z qa0 qb0 qq0 qa1 qb1 qc1 qd1 qe1 qq1 qa2 qb2 qq2 qa3 qq3 szz tkz gnz Mz Gz) (((vz 0 3),(fO "enumerate" [.none,(.bool false),(.ref (vz 0 4)),(.int (Int.ofNat k) 0),.none,lvv]))::((vz 0 4),(fO sc [(.str s t1),(.int (Int.ofNat k) 0)]))::(L,nsO [ent w.params z38 t2 (.str tx t3),ent w.params z39 t4 (.ref gl),ent w.params z41 t5 lpv,ent w.params z40 t7 luv] 4)::(gO,(fO "generator" [(.int (Int.ofNat g) 0),(.str z20 t9),(.str z20 t10)]))::(gL,nsO [ent w.params z14 t11 (.str s t1),ent w.params z15 t12 gpv,ent w.params z16 t13 (.bool false),ent w.params z18 t14 gcv] 4)::(gl,listO [(.int g0 t15),(.int g1 t16)] 0)::M) sz tk ((g,.running)::G) gn)
      (fun y=>∃ v:N2,y = mkD (.forLoop fIe_t29 (.ref (vz 0 3)) fIe_b29 [] (envF fIes fIeq 35 [] gL)) ⟨34,12,34,18⟩ (lg_in_fs vz w b2 h0 B d os pos0z sc L gO gL gl g t0z t1z txz t2z t3z t4z t5z t6z s t7z g0z t8z g1z qa0 qb0 qq0 qa1 qb1 qc1 qd1 qe1 qq1 qa2 qb2 qq2 qa3 qq3 szz tkz gnz Mz Gz) (((vz 0 3),(fO "enumerate" [.none,(.bool false),(.ref (vz 0 4)),(.int ((Int.ofNat k)+1) 0),.none,(.str c (v 0 4))]))::((vz 0 4),(fO sc [(.str s t1),(.int ((Int.ofNat k)+1) 0)]))::(L,nsO [ent w.params z38 t2 (.str tx t3),ent w.params z39 t4 (.ref gl),ent w.params z41 t5 lpv,ent w.params z40 t7 luv] 4)::(gO,(fO "generator" [(.int (Int.ofNat g) 0),(.str z20 t9),(.str z20 t10)]))::(gL,nsO [ent w.params z14 t11 (.str s t1),ent w.params z15 t12 (.int (Int.ofNat k) (v 0 5)),ent w.params z16 t13 (.bool true),ent w.params z18 t14 (.str c (v 0 4))] 4)::(gl,listO [(.int g0 t15),(.int g1 t16)] 0)::M) ((v 0 0)+3) ((v 0 1)+4) ((g,.running)::G) (v 0 2)) :=
  goes_run (it:=[1,2,2,2,1,1,1,1,1,1,1,1,1,2,1,1,1,1,1,1,2,1,1,1,1,1,1,2,1,1,1,9,9,9,9,9,9,9,9]) (en:=[(0,.call [0,1] [] (fun v0=>⟨some [(fO "enumerate" [(.int (Int.ofNat (v0 3)) 0),(.bool false),(.ref (vz 0 4)),(.int ((Int.ofNat k)+1) 0),.none,(.str c (v0 4))]),(fO sc [(.str s t1),(.int ((Int.ofNat k)+1) 0)])],[((v0 3),(tO [(.int (Int.ofNat k) (v0 5)),(.str c (v0 4))]))],.ok (.ret (.ref (v0 3)))⟩) (fun v0=>[(0,.own (tupE fIe_t29) (tupK fIe_t29) (tupP fIe_t29) (vz 0 3) (v0 3) fIe_b29 [] (envF fIes fIeq 35 [] gL)),(9,.ev (retB true))]))])
    (d:=10) (ms:=[4,5,6,7,8,9]) (e:=1) (gs:=[0]) (mv:=[])
    O den_eq 89 2 (fun v=>⟨by kernel_rfl,by kernel_rfl,by kernel_rfl,by kernel_rfl⟩) (fun v=>AllP.cons (e1 v) (AllP.cons (e0 v) AllP.nil))

theorem lg_b1t (w:World) (b2:Bool) (h0:Heap) (B:List Frame) (d:Drawn) (os:OsState) (pos0:Pos) (vz:N2) (pos0z:Pos) (t0z t1z:Nat) (txz:Str) (t2z t3z t4z t5z t6z t7z:Nat) (g0z:Int) (t8z:Nat) (g1z:Int) (szz tkz gnz:Nat) (Mz:List (Addr × Obj)) (Gz:List (Nat × GenState)) (sc:String) (k L gO gL gl g:Nat) (gpv gcv lvv:Value) (t0 t1:Nat) (s:Str) (t2 t3:Nat) (tx:Str) (t4 t5 t6 t7 t8 t9 t10 t11 t12:Nat) (g0:Int) (t13:Nat) (g1:Int) (c:Str) (qa0:List Stmt) (qb0:Env) (qq0:Pos) (qa1:Expr) (qb1:Value) (qc1 qd1:List Stmt) (qe1:Env) (qq1:Pos) (qa2:List Stmt) (qb2:Env) (qq2:Pos) (qa3:Args) (qq3:Pos) (sz tk gn:Nat) (M:List (Addr × Obj)) (G:List (Nat × GenState)) (O:(view w b2 h0 B [(.func qa0 qb0,qq0),(.forLoop qa1 qb1 qc1 qd1 qe1,qq1),(.func qa2 qb2,qq2),(.builtin "claim.caller" qa3,qq3)] d os).Ok)
    (e0:∀ v:N2,CallN (view w b2 h0 B [(.func qa0 qb0,qq0),(.forLoop qa1 qb1 qc1 qd1 qe1,qq1),(.func qa2 qb2,qq2),(.builtin "claim.caller" qa3,qq3)] d os) ([2,1,8,2,1,2,1,7]) (cB "enumerate.__next__" [(.ref (vz 0 3))]) [((vz 0 3),(fO "enumerate" [.none,(.bool false),(.ref (vz 0 4)),(.int (Int.ofNat k) 0),.none,lvv])),((vz 0 4),(fO sc [(.str s t1),(.int (Int.ofNat k) 0)]))] [] (fun v0=>⟨some [(fO "enumerate" [(.int (Int.ofNat (v0 3)) 0),(.bool false),(.ref (vz 0 4)),(.int ((Int.ofNat k)+1) 0),.none,(.str c (v0 4))]),(fO sc [(.str s t1),(.int ((Int.ofNat k)+1) 0)])],[((v0 3),(tO [(.int (Int.ofNat k) (v0 5)),(.str c (v0 4))]))],.ok (.ret (.ref (v0 3)))⟩)) (e1:∀ v:N2,EvP "str.__add__" [(.str z17 0),(.str c 0)] (retS (sAdd z17 c))) (e2:∀ v:N2,EvP "str.__getitem__" [(.str (sAdd z17 c) 0),(.int (-1) 0)] (retS c)) (e3:∀ v:N2,CallN (view w b2 h0 B [(.func qa0 qb0,qq0),(.forLoop qa1 qb1 qc1 qd1 qe1,qq1),(.func qa2 qb2,qq2),(.builtin "claim.caller" qa3,qq3)] d os) ([2,1,2,1,7]) (cR 60 [(.str c 0)]) [] [] (fun v2=>oV (.bool true))) :
    Goes (view w b2 h0 B [(.func qa0 qb0,qq0),(.forLoop qa1 qb1 qc1 qd1 qe1,qq1),(.func qa2 qb2,qq2),(.builtin "claim.caller" qa3,qq3)] d os) (mkD (.forLoop fIe_t29 (.ref (vz 0 3)) fIe_b29 [] (envF fIes fIeq 35 [] gL)) pos0 (lg_in_fs vz w b2 h0 B d os pos0z sc L gO gL gl g t0z t1z txz t2z t3z t4z t5z t6z s t7z g0z t8z g1z qa0 qb0 qq0 qa1 qb1 qc1 qd1 qe1 qq1 qa2 qb2 qq2 qa3 qq3 szz tkz gnz Mz Gz) (((vz 0 3),(fO "enumerate" [.none,(.bool false),(.ref (vz 0 4)),(.int (Int.ofNat k) 0),.none,lvv]))::((vz 0 4),(fO sc [(.str s t1),(.int (Int.ofNat k) 0)]))::(L,nsO [ent w.params z38 t2 (.str tx t3),ent w.params z39 t4 (.ref gl)] 2)::(gO,(fO "generator" [(.int (Int.ofNat g) 0),(.str z20 t5),(.str z20 t6)]))::(gL,nsO [ent w.params z14 t7 (.str s t1),ent w.params z15 t8 gpv,ent w.params z16 t10 (.bool true),ent w.params z18 t11 gcv] 4)::(gl,listO [(.int g0 t12),(.int g1 t13)] 0)::M) sz tk ((g,.running)::G) gn)
      (fun y=>∃ v:N2,y = mkD (.forLoop fIe_t29 (.ref (vz 0 3)) fIe_b29 [] (envF fIes fIeq 35 [] gL)) ⟨32,12,32,18⟩ (lg_in_fs vz w b2 h0 B d os pos0z sc L gO gL gl g t0z t1z txz t2z t3z t4z t5z t6z s t7z g0z t8z g1z qa0 qb0 qq0 qa1 qb1 qc1 qd1 qe1 qq1 qa2 qb2 qq2 qa3 qq3 szz tkz gnz Mz Gz) (((vz 0 3),(fO "enumerate" [.none,(.bool false),(.ref (vz 0 4)),(.int ((Int.ofNat k)+1) 0),.none,(.str c (v 0 4))]))::((vz 0 4),(fO sc [(.str s t1),(.int ((Int.ofNat k)+1) 0)]))::(L,nsO [ent w.params z38 t2 (.str tx t3),ent w.params z39 t4 (.ref gl),ent w.params z41 ((v 0 1)+4) (.int (Int.ofNat k) (v 0 5)),ent w.params z40 ((v 0 1)+5) (.str (sAdd z17 c) ((v 0 1)+3))] 4)::(gO,(fO "generator" [(.int (Int.ofNat g) 0),(.str z20 t5),(.str z20 t6)]))::(gL,nsO [ent w.params z14 t7 (.str s t1),ent w.params z15 t8 (.int (Int.ofNat k) (v 0 5)),ent w.params z16 t10 (.bool false),ent w.params z18 t11 (.str c (v 0 4))] 4)::(gl,listO [(.int g0 t12),(.int g1 t13)] 0)::M) (v 2 0) ((v 2 1)+1) ((g,.running)::G) (v 2 2)) :=
  goes_run (it:=[1,2,2,2,1,1,1,1,1,1,1,1,1,2,1,1,1,1,1,1,2,1,1,1,1,1,1,2,1,1,1,9,9,9,9,9,9,9,0,9,1,1,1,1,1,1,1,1,1,2,1,1,1,1,1,1,2,1,1,1,1,1,1,2,1,1,1,11,11,11,11,0,11,0,12,12,12,0,0,0,13,13]) (en:=[(0,.call [0,1] [] (fun v0=>⟨some [(fO "enumerate" [(.int (Int.ofNat (v0 3)) 0),(.bool false),(.ref (vz 0 4)),(.int ((Int.ofNat k)+1) 0),.none,(.str c (v0 4))]),(fO sc [(.str s t1),(.int ((Int.ofNat k)+1) 0)])],[((v0 3),(tO [(.int (Int.ofNat k) (v0 5)),(.str c (v0 4))]))],.ok (.ret (.ref (v0 3)))⟩) (fun v0=>[(0,.own (tupE fIe_t29) (tupK fIe_t29) (tupP fIe_t29) (vz 0 3) (v0 3) fIe_b29 [] (envF fIes fIeq 35 [] gL)),(9,.ev (retS (sAdd z17 c))),(11,.ev (retS c)),(0,.call [] [] (fun v2=>oV (.bool true)) (fun v2=>[]))]))])
    (d:=14) (ms:=[8,9,10,11,12,13]) (e:=1) (gs:=[0]) (mv:=[])
    O den_eq 190 3 (fun v=>⟨by kernel_rfl,by kernel_rfl,by kernel_rfl,by kernel_rfl⟩) (fun v=>AllP.cons (e3 v) (AllP.cons (e2 v) (AllP.cons (e1 v) (AllP.cons (e0 v) AllP.nil))))

theorem lg_b1f (w:World) (b2:Bool) (h0:Heap) (B:List Frame) (d:Drawn) (os:OsState) (pos0:Pos) (vz:N2) (pos0z:Pos) (t0z t1z:Nat) (txz:Str) (t2z t3z t4z t5z t6z t7z:Nat) (g0z:Int) (t8z:Nat) (g1z:Int) (szz tkz gnz:Nat) (Mz:List (Addr × Obj)) (Gz:List (Nat × GenState)) (sc:String) (k L gO gL gl g:Nat) (gpv gcv lvv:Value) (t0 t1:Nat) (s:Str) (t2 t3:Nat) (tx:Str) (t4 t5 t6 t7 t8 t9 t10 t11 t12:Nat) (g0:Int) (t13:Nat) (g1:Int) (c fold:Str) (qa0:List Stmt) (qb0:Env) (qq0:Pos) (qa1:Expr) (qb1:Value) (qc1 qd1:List Stmt) (qe1:Env) (qq1:Pos) (qa2:List Stmt) (qb2:Env) (qq2:Pos) (qa3:Args) (qq3:Pos) (sz tk gn:Nat) (M:List (Addr × Obj)) (G:List (Nat × GenState)) (O:(view w b2 h0 B [(.func qa0 qb0,qq0),(.forLoop qa1 qb1 qc1 qd1 qe1,qq1),(.func qa2 qb2,qq2),(.builtin "claim.caller" qa3,qq3)] d os).Ok)
    (e0:∀ v:N2,CallN (view w b2 h0 B [(.func qa0 qb0,qq0),(.forLoop qa1 qb1 qc1 qd1 qe1,qq1),(.func qa2 qb2,qq2),(.builtin "claim.caller" qa3,qq3)] d os) ([2,1,8,2,1,2,1,7]) (cB "enumerate.__next__" [(.ref (vz 0 3))]) [((vz 0 3),(fO "enumerate" [.none,(.bool false),(.ref (vz 0 4)),(.int (Int.ofNat k) 0),.none,lvv])),((vz 0 4),(fO sc [(.str s t1),(.int (Int.ofNat k) 0)]))] [] (fun v0=>⟨some [(fO "enumerate" [(.int (Int.ofNat (v0 3)) 0),(.bool false),(.ref (vz 0 4)),(.int ((Int.ofNat k)+1) 0),.none,(.str c (v0 4))]),(fO sc [(.str s t1),(.int ((Int.ofNat k)+1) 0)])],[((v0 3),(tO [(.int (Int.ofNat k) (v0 5)),(.str c (v0 4))]))],.ok (.ret (.ref (v0 3)))⟩)) (e1:∀ v:N2,EvP "str.__add__" [(.str z17 0),(.str c 0)] (retS (sAdd z17 c))) (e2:∀ v:N2,EvP "str.__getitem__" [(.str (sAdd z17 c) 0),(.int (-1) 0)] (retS c)) (e3:∀ v:N2,CallN (view w b2 h0 B [(.func qa0 qb0,qq0),(.forLoop qa1 qb1 qc1 qd1 qe1,qq1),(.func qa2 qb2,qq2),(.builtin "claim.caller" qa3,qq3)] d os) ([2,1,2,1,7]) (cR 60 [(.str c 0)]) [] [] (fun v2=>oV (.bool false))) (e4:∀ v:N2,EvP "str.__len__" [(.str (sAdd z17 c) 0)] (retI 2)) (e5:∀ v:N2,EvP "str.__getitem__" [(.str (sAdd z17 c) 0),(.int (-1) 0)] (retS c)) (e6:∀ v:N2,CallN (view w b2 h0 B [(.func qa0 qb0,qq0),(.forLoop qa1 qb1 qc1 qd1 qe1,qq1),(.func qa2 qb2,qq2),(.builtin "claim.caller" qa3,qq3)] d os) ([2,1,2,1,7]) (cR 106 [(.str c 0)]) [] [] (fun v3=>oV (.str fold (v3 3)))) (e7:∀ v:N2,CallN (view w b2 h0 B [(.func qa0 qb0,qq0),(.forLoop qa1 qb1 qc1 qd1 qe1,qq1),(.func qa2 qb2,qq2),(.builtin "claim.caller" qa3,qq3)] d os) ([2,1,2,1,7]) (cB "len" [(.str fold 0)]) [] [] (fun v4=>oV (.int (sLen fold) (v4 3)))) :
    Goes (view w b2 h0 B [(.func qa0 qb0,qq0),(.forLoop qa1 qb1 qc1 qd1 qe1,qq1),(.func qa2 qb2,qq2),(.builtin "claim.caller" qa3,qq3)] d os) (mkD (.forLoop fIe_t29 (.ref (vz 0 3)) fIe_b29 [] (envF fIes fIeq 35 [] gL)) pos0 (lg_in_fs vz w b2 h0 B d os pos0z sc L gO gL gl g t0z t1z txz t2z t3z t4z t5z t6z s t7z g0z t8z g1z qa0 qb0 qq0 qa1 qb1 qc1 qd1 qe1 qq1 qa2 qb2 qq2 qa3 qq3 szz tkz gnz Mz Gz) (((vz 0 3),(fO "enumerate" [.none,(.bool false),(.ref (vz 0 4)),(.int (Int.ofNat k) 0),.none,lvv]))::((vz 0 4),(fO sc [(.str s t1),(.int (Int.ofNat k) 0)]))::(L,nsO [ent w.params z38 t2 (.str tx t3),ent w.params z39 t4 (.ref gl)] 2)::(gO,(fO "generator" [(.int (Int.ofNat g) 0),(.str z20 t5),(.str z20 t6)]))::(gL,nsO [ent w.params z14 t7 (.str s t1),ent w.params z15 t8 gpv,ent w.params z16 t10 (.bool true),ent w.params z18 t11 gcv] 4)::(gl,listO [(.int g0 t12),(.int g1 t13)] 0)::M) sz tk ((g,.running)::G) gn)
      (fun y=>∃ v:N2,y = mkD (.forLoop fIe_t29 (.ref (vz 0 3)) fIe_b29 [] (envF fIes fIeq 35 [] gL)) ⟨32,12,32,18⟩ (lg_in_fs vz w b2 h0 B d os pos0z sc L gO gL gl g t0z t1z txz t2z t3z t4z t5z t6z s t7z g0z t8z g1z qa0 qb0 qq0 qa1 qb1 qc1 qd1 qe1 qq1 qa2 qb2 qq2 qa3 qq3 szz tkz gnz Mz Gz) (((vz 0 3),(fO "enumerate" [.none,(.bool false),(.ref (vz 0 4)),(.int ((Int.ofNat k)+1) 0),.none,(.str c (v 0 4))]))::((vz 0 4),(fO sc [(.str s t1),(.int ((Int.ofNat k)+1) 0)]))::(L,nsO [ent w.params z38 t2 (.str tx t3),ent w.params z39 t4 (.ref gl),ent w.params z41 ((v 0 1)+4) (.int (Int.ofNat k) (v 0 5)),ent w.params z40 ((v 0 1)+5) (.str (sAdd z17 c) ((v 0 1)+3))] 4)::(gO,(fO "generator" [(.int (Int.ofNat g) 0),(.str z20 t5),(.str z20 t6)]))::(gL,nsO [ent w.params z14 t7 (.str s t1),ent w.params z15 t8 (.int (Int.ofNat k) (v 0 5)),ent w.params z16 t10 (.bool false),ent w.params z18 t11 (.str c (v 0 4))] 4)::(gl,listO [(.int g0 t12),(.int (g1+(sLen fold)) (v 4 1))] 0)::M) (v 4 0) ((v 4 1)+2) ((g,.running)::G) (v 4 2)) :=
  goes_run (it:=[1,2,2,2,1,1,1,1,1,1,1,1,1,2,1,1,1,1,1,1,2,1,1,1,1,1,1,2,1,1,1,9,9,9,9,9,9,9,0,9,1,1,1,1,1,1,1,1,1,2,1,1,1,1,1,1,2,1,1,1,1,1,1,2,1,1,1,11,11,11,11,0,11,0,11,0,0,11,14,14,14,14,0,0,0,11,0,14,14,14,14,14,14,12,12,12,0,0,0,13,13]) (en:=[(0,.call [0,1] [] (fun v0=>⟨some [(fO "enumerate" [(.int (Int.ofNat (v0 3)) 0),(.bool false),(.ref (vz 0 4)),(.int ((Int.ofNat k)+1) 0),.none,(.str c (v0 4))]),(fO sc [(.str s t1),(.int ((Int.ofNat k)+1) 0)])],[((v0 3),(tO [(.int (Int.ofNat k) (v0 5)),(.str c (v0 4))]))],.ok (.ret (.ref (v0 3)))⟩) (fun v0=>[(0,.own (tupE fIe_t29) (tupK fIe_t29) (tupP fIe_t29) (vz 0 3) (v0 3) fIe_b29 [] (envF fIes fIeq 35 [] gL)),(9,.ev (retS (sAdd z17 c))),(11,.ev (retS c)),(0,.call [] [] (fun v2=>oV (.bool false)) (fun v2=>[(3,.ev (retI 2)),(7,.ev (retS c)),(0,.call [] [] (fun v3=>oV (.str fold (v3 3))) (fun v3=>[(0,.call [] [] (fun v4=>oV (.int (sLen fold) (v4 3))) (fun v4=>[]))]))]))]))])
    (d:=14) (ms:=[8,9,10,11,12,13]) (e:=1) (gs:=[0]) (mv:=[])
    O den_eq 263 5 (fun v=>⟨by kernel_rfl,by kernel_rfl,by kernel_rfl,by kernel_rfl⟩) (fun v=>AllP.cons (e7 v) (AllP.cons (e6 v) (AllP.cons (e5 v) (AllP.cons (e4 v) (AllP.cons (e3 v) (AllP.cons (e2 v) (AllP.cons (e1 v) (AllP.cons (e0 v) AllP.nil))))))))

theorem lg_bt (w:World) (b2:Bool) (h0:Heap) (B:List Frame) (d:Drawn) (os:OsState) (pos0:Pos) (vz:N2) (pos0z:Pos) (t0z t1z:Nat) (txz:Str) (t2z t3z t4z t5z t6z t7z:Nat) (g0z:Int) (t8z:Nat) (g1z:Int) (szz tkz gnz:Nat) (Mz:List (Addr × Obj)) (Gz:List (Nat × GenState)) (sc:String) (k L gO gL gl g:Nat) (luv lpv gpv gcv lvv:Value) (t0 t1:Nat) (s:Str) (t2 t3:Nat) (tx:Str) (t4 t5 t6 t7 t8 t9 t10 t11 t12 t13 t14 t15 t16:Nat) (g0:Int) (t17:Nat) (g1:Int) (c:Str) (qa0:List Stmt) (qb0:Env) (qq0:Pos) (qa1:Expr) (qb1:Value) (qc1 qd1:List Stmt) (qe1:Env) (qq1:Pos) (qa2:List Stmt) (qb2:Env) (qq2:Pos) (qa3:Args) (qq3:Pos) (sz tk gn:Nat) (M:List (Addr × Obj)) (G:List (Nat × GenState)) (O:(view w b2 h0 B [(.func qa0 qb0,qq0),(.forLoop qa1 qb1 qc1 qd1 qe1,qq1),(.func qa2 qb2,qq2),(.builtin "claim.caller" qa3,qq3)] d os).Ok)
    (e0:∀ v:N2,CallN (view w b2 h0 B [(.func qa0 qb0,qq0),(.forLoop qa1 qb1 qc1 qd1 qe1,qq1),(.func qa2 qb2,qq2),(.builtin "claim.caller" qa3,qq3)] d os) ([2,1,8,2,1,2,1,7]) (cB "enumerate.__next__" [(.ref (vz 0 3))]) [((vz 0 3),(fO "enumerate" [.none,(.bool false),(.ref (vz 0 4)),(.int (Int.ofNat k) 0),.none,lvv])),((vz 0 4),(fO sc [(.str s t1),(.int (Int.ofNat k) 0)]))] [] (fun v0=>⟨some [(fO "enumerate" [(.int (Int.ofNat (v0 3)) 0),(.bool false),(.ref (vz 0 4)),(.int ((Int.ofNat k)+1) 0),.none,(.str c (v0 4))]),(fO sc [(.str s t1),(.int ((Int.ofNat k)+1) 0)])],[((v0 3),(tO [(.int (Int.ofNat k) (v0 5)),(.str c (v0 4))]))],.ok (.ret (.ref (v0 3)))⟩)) (e1:∀ v:N2,EvP "str.__add__" [(.str z17 0),(.str c 0)] (retS (sAdd z17 c))) (e2:∀ v:N2,EvP "str.__getitem__" [(.str (sAdd z17 c) 0),(.int (-1) 0)] (retS c)) (e3:∀ v:N2,CallN (view w b2 h0 B [(.func qa0 qb0,qq0),(.forLoop qa1 qb1 qc1 qd1 qe1,qq1),(.func qa2 qb2,qq2),(.builtin "claim.caller" qa3,qq3)] d os) ([2,1,2,1,7]) (cR 60 [(.str c 0)]) [] [] (fun v2=>oV (.bool true))) :
    Goes (view w b2 h0 B [(.func qa0 qb0,qq0),(.forLoop qa1 qb1 qc1 qd1 qe1,qq1),(.func qa2 qb2,qq2),(.builtin "claim.caller" qa3,qq3)] d os) (mkD (.forLoop fIe_t29 (.ref (vz 0 3)) fIe_b29 [] (envF fIes fIeq 35 [] gL)) pos0 (lg_in_fs vz w b2 h0 B d os pos0z sc L gO gL gl g t0z t1z txz t2z t3z t4z t5z t6z s t7z g0z t8z g1z qa0 qb0 qq0 qa1 qb1 qc1 qd1 qe1 qq1 qa2 qb2 qq2 qa3 qq3 szz tkz gnz Mz Gz) (((vz 0 3),(fO "enumerate" [.none,(.bool false),(.ref (vz 0 4)),(.int (Int.ofNat k) 0),.none,lvv]))::((vz 0 4),(fO sc [(.str s t1),(.int (Int.ofNat k) 0)]))::(L,nsO [ent w.params z38 t2 (.str tx t3),ent w.params z39 t4 (.ref gl),ent w.params z41 t5 lpv,ent w.params z40 t7 luv] 4)::(gO,(fO "generator" [(.int (Int.ofNat g) 0),(.str z20 t9),(.str z20 t10)]))::(gL,nsO [ent w.params z14 t11 (.str s t1),ent w.params z15 t12 gpv,ent w.params z16 t14 (.bool true),ent w.params z18 t15 gcv] 4)::(gl,listO [(.int g0 t16),(.int g1 t17)] 0)::M) sz tk ((g,.running)::G) gn)
      (fun y=>∃ v:N2,y = mkD (.forLoop fIe_t29 (.ref (vz 0 3)) fIe_b29 [] (envF fIes fIeq 35 [] gL)) ⟨32,12,32,18⟩ (lg_in_fs vz w b2 h0 B d os pos0z sc L gO gL gl g t0z t1z txz t2z t3z t4z t5z t6z s t7z g0z t8z g1z qa0 qb0 qq0 qa1 qb1 qc1 qd1 qe1 qq1 qa2 qb2 qq2 qa3 qq3 szz tkz gnz Mz Gz) (((vz 0 3),(fO "enumerate" [.none,(.bool false),(.ref (vz 0 4)),(.int ((Int.ofNat k)+1) 0),.none,(.str c (v 0 4))]))::((vz 0 4),(fO sc [(.str s t1),(.int ((Int.ofNat k)+1) 0)]))::(L,nsO [ent w.params z38 t2 (.str tx t3),ent w.params z39 t4 (.ref gl),ent w.params z41 t5 (.int (Int.ofNat k) (v 0 5)),ent w.params z40 t7 (.str (sAdd z17 c) ((v 0 1)+3))] 4)::(gO,(fO "generator" [(.int (Int.ofNat g) 0),(.str z20 t9),(.str z20 t10)]))::(gL,nsO [ent w.params z14 t11 (.str s t1),ent w.params z15 t12 (.int (Int.ofNat k) (v 0 5)),ent w.params z16 t14 (.bool false),ent w.params z18 t15 (.str c (v 0 4))] 4)::(gl,listO [(.int g0 t16),(.int g1 t17)] 0)::M) (v 2 0) ((v 2 1)+1) ((g,.running)::G) (v 2 2)) :=
  goes_run (it:=[1,2,2,2,1,1,1,1,1,1,1,1,1,2,1,1,1,1,1,1,2,1,1,1,1,1,1,2,1,1,1,9,9,9,9,9,9,9,0,9,1,1,1,1,1,1,1,1,1,2,1,1,1,1,1,1,2,1,1,1,1,1,1,2,1,1,1,11,11,11,11,0,11,0,12,12,12,0,0,0,13,13]) (en:=[(0,.call [0,1] [] (fun v0=>⟨some [(fO "enumerate" [(.int (Int.ofNat (v0 3)) 0),(.bool false),(.ref (vz 0 4)),(.int ((Int.ofNat k)+1) 0),.none,(.str c (v0 4))]),(fO sc [(.str s t1),(.int ((Int.ofNat k)+1) 0)])],[((v0 3),(tO [(.int (Int.ofNat k) (v0 5)),(.str c (v0 4))]))],.ok (.ret (.ref (v0 3)))⟩) (fun v0=>[(0,.own (tupE fIe_t29) (tupK fIe_t29) (tupP fIe_t29) (vz 0 3) (v0 3) fIe_b29 [] (envF fIes fIeq 35 [] gL)),(9,.ev (retS (sAdd z17 c))),(11,.ev (retS c)),(0,.call [] [] (fun v2=>oV (.bool true)) (fun v2=>[]))]))])
    (d:=14) (ms:=[8,9,10,11,12,13]) (e:=1) (gs:=[0]) (mv:=[])
    O den_eq 190 3 (fun v=>⟨by kernel_rfl,by kernel_rfl,by kernel_rfl,by kernel_rfl⟩) (fun v=>AllP.cons (e3 v) (AllP.cons (e2 v) (AllP.cons (e1 v) (AllP.cons (e0 v) AllP.nil))))

theorem lg_bf (w:World) (b2:Bool) (h0:Heap) (B:List Frame) (d:Drawn) (os:OsState) (pos0:Pos) (vz:N2) (pos0z:Pos) (t0z t1z:Nat) (txz:Str) (t2z t3z t4z t5z t6z t7z:Nat) (g0z:Int) (t8z:Nat) (g1z:Int) (szz tkz gnz:Nat) (Mz:List (Addr × Obj)) (Gz:List (Nat × GenState)) (sc:String) (k L gO gL gl g:Nat) (luv lpv gpv gcv lvv:Value) (t0 t1:Nat) (s:Str) (t2 t3:Nat) (tx:Str) (t4 t5 t6 t7 t8 t9 t10 t11 t12 t13 t14 t15 t16:Nat) (g0:Int) (t17:Nat) (g1:Int) (c fold:Str) (qa0:List Stmt) (qb0:Env) (qq0:Pos) (qa1:Expr) (qb1:Value) (qc1 qd1:List Stmt) (qe1:Env) (qq1:Pos) (qa2:List Stmt) (qb2:Env) (qq2:Pos) (qa3:Args) (qq3:Pos) (sz tk gn:Nat) (M:List (Addr × Obj)) (G:List (Nat × GenState)) (O:(view w b2 h0 B [(.func qa0 qb0,qq0),(.forLoop qa1 qb1 qc1 qd1 qe1,qq1),(.func qa2 qb2,qq2),(.builtin "claim.caller" qa3,qq3)] d os).Ok)
    (e0:∀ v:N2,CallN (view w b2 h0 B [(.func qa0 qb0,qq0),(.forLoop qa1 qb1 qc1 qd1 qe1,qq1),(.func qa2 qb2,qq2),(.builtin "claim.caller" qa3,qq3)] d os) ([2,1,8,2,1,2,1,7]) (cB "enumerate.__next__" [(.ref (vz 0 3))]) [((vz 0 3),(fO "enumerate" [.none,(.bool false),(.ref (vz 0 4)),(.int (Int.ofNat k) 0),.none,lvv])),((vz 0 4),(fO sc [(.str s t1),(.int (Int.ofNat k) 0)]))] [] (fun v0=>⟨some [(fO "enumerate" [(.int (Int.ofNat (v0 3)) 0),(.bool false),(.ref (vz 0 4)),(.int ((Int.ofNat k)+1) 0),.none,(.str c (v0 4))]),(fO sc [(.str s t1),(.int ((Int.ofNat k)+1) 0)])],[((v0 3),(tO [(.int (Int.ofNat k) (v0 5)),(.str c (v0 4))]))],.ok (.ret (.ref (v0 3)))⟩)) (e1:∀ v:N2,EvP "str.__add__" [(.str z17 0),(.str c 0)] (retS (sAdd z17 c))) (e2:∀ v:N2,EvP "str.__getitem__" [(.str (sAdd z17 c) 0),(.int (-1) 0)] (retS c)) (e3:∀ v:N2,CallN (view w b2 h0 B [(.func qa0 qb0,qq0),(.forLoop qa1 qb1 qc1 qd1 qe1,qq1),(.func qa2 qb2,qq2),(.builtin "claim.caller" qa3,qq3)] d os) ([2,1,2,1,7]) (cR 60 [(.str c 0)]) [] [] (fun v2=>oV (.bool false))) (e4:∀ v:N2,EvP "str.__len__" [(.str (sAdd z17 c) 0)] (retI 2)) (e5:∀ v:N2,EvP "str.__getitem__" [(.str (sAdd z17 c) 0),(.int (-1) 0)] (retS c)) (e6:∀ v:N2,CallN (view w b2 h0 B [(.func qa0 qb0,qq0),(.forLoop qa1 qb1 qc1 qd1 qe1,qq1),(.func qa2 qb2,qq2),(.builtin "claim.caller" qa3,qq3)] d os) ([2,1,2,1,7]) (cR 106 [(.str c 0)]) [] [] (fun v3=>oV (.str fold (v3 3)))) (e7:∀ v:N2,CallN (view w b2 h0 B [(.func qa0 qb0,qq0),(.forLoop qa1 qb1 qc1 qd1 qe1,qq1),(.func qa2 qb2,qq2),(.builtin "claim.caller" qa3,qq3)] d os) ([2,1,2,1,7]) (cB "len" [(.str fold 0)]) [] [] (fun v4=>oV (.int (sLen fold) (v4 3)))) :
    Goes (view w b2 h0 B [(.func qa0 qb0,qq0),(.forLoop qa1 qb1 qc1 qd1 qe1,qq1),(.func qa2 qb2,qq2),(.builtin "claim.caller" qa3,qq3)] d os) (mkD (.forLoop fIe_t29 (.ref (vz 0 3)) fIe_b29 [] (envF fIes fIeq 35 [] gL)) pos0 (lg_in_fs vz w b2 h0 B d os pos0z sc L gO gL gl g t0z t1z txz t2z t3z t4z t5z t6z s t7z g0z t8z g1z qa0 qb0 qq0 qa1 qb1 qc1 qd1 qe1 qq1 qa2 qb2 qq2 qa3 qq3 szz tkz gnz Mz Gz) (((vz 0 3),(fO "enumerate" [.none,(.bool false),(.ref (vz 0 4)),(.int (Int.ofNat k) 0),.none,lvv]))::((vz 0 4),(fO sc [(.str s t1),(.int (Int.ofNat k) 0)]))::(L,nsO [ent w.params z38 t2 (.str tx t3),ent w.params z39 t4 (.ref gl),ent w.params z41 t5 lpv,ent w.params z40 t7 luv] 4)::(gO,(fO "generator" [(.int (Int.ofNat g) 0),(.str z20 t9),(.str z20 t10)]))::(gL,nsO [ent w.params z14 t11 (.str s t1),ent w.params z15 t12 gpv,ent w.params z16 t14 (.bool true),ent w.params z18 t15 gcv] 4)::(gl,listO [(.int g0 t16),(.int g1 t17)] 0)::M) sz tk ((g,.running)::G) gn)
      (fun y=>∃ v:N2,y = mkD (.forLoop fIe_t29 (.ref (vz 0 3)) fIe_b29 [] (envF fIes fIeq 35 [] gL)) ⟨32,12,32,18⟩ (lg_in_fs vz w b2 h0 B d os pos0z sc L gO gL gl g t0z t1z txz t2z t3z t4z t5z t6z s t7z g0z t8z g1z qa0 qb0 qq0 qa1 qb1 qc1 qd1 qe1 qq1 qa2 qb2 qq2 qa3 qq3 szz tkz gnz Mz Gz) (((vz 0 3),(fO "enumerate" [.none,(.bool false),(.ref (vz 0 4)),(.int ((Int.ofNat k)+1) 0),.none,(.str c (v 0 4))]))::((vz 0 4),(fO sc [(.str s t1),(.int ((Int.ofNat k)+1) 0)]))::(L,nsO [ent w.params z38 t2 (.str tx t3),ent w.params z39 t4 (.ref gl),ent w.params z41 t5 (.int (Int.ofNat k) (v 0 5)),ent w.params z40 t7 (.str (sAdd z17 c) ((v 0 1)+3))] 4)::(gO,(fO "generator" [(.int (Int.ofNat g) 0),(.str z20 t9),(.str z20 t10)]))::(gL,nsO [ent w.params z14 t11 (.str s t1),ent w.params z15 t12 (.int (Int.ofNat k) (v 0 5)),ent w.params z16 t14 (.bool false),ent w.params z18 t15 (.str c (v 0 4))] 4)::(gl,listO [(.int g0 t16),(.int (g1+(sLen fold)) (v 4 1))] 0)::M) (v 4 0) ((v 4 1)+2) ((g,.running)::G) (v 4 2)) :=
  goes_run (it:=[1,2,2,2,1,1,1,1,1,1,1,1,1,2,1,1,1,1,1,1,2,1,1,1,1,1,1,2,1,1,1,9,9,9,9,9,9,9,0,9,1,1,1,1,1,1,1,1,1,2,1,1,1,1,1,1,2,1,1,1,1,1,1,2,1,1,1,11,11,11,11,0,11,0,11,0,0,11,14,14,14,14,0,0,0,11,0,14,14,14,14,14,14,12,12,12,0,0,0,13,13]) (en:=[(0,.call [0,1] [] (fun v0=>⟨some [(fO "enumerate" [(.int (Int.ofNat (v0 3)) 0),(.bool false),(.ref (vz 0 4)),(.int ((Int.ofNat k)+1) 0),.none,(.str c (v0 4))]),(fO sc [(.str s t1),(.int ((Int.ofNat k)+1) 0)])],[((v0 3),(tO [(.int (Int.ofNat k) (v0 5)),(.str c (v0 4))]))],.ok (.ret (.ref (v0 3)))⟩) (fun v0=>[(0,.own (tupE fIe_t29) (tupK fIe_t29) (tupP fIe_t29) (vz 0 3) (v0 3) fIe_b29 [] (envF fIes fIeq 35 [] gL)),(9,.ev (retS (sAdd z17 c))),(11,.ev (retS c)),(0,.call [] [] (fun v2=>oV (.bool false)) (fun v2=>[(3,.ev (retI 2)),(7,.ev (retS c)),(0,.call [] [] (fun v3=>oV (.str fold (v3 3))) (fun v3=>[(0,.call [] [] (fun v4=>oV (.int (sLen fold) (v4 3))) (fun v4=>[]))]))]))]))])
    (d:=14) (ms:=[8,9,10,11,12,13]) (e:=1) (gs:=[0]) (mv:=[])
    O den_eq 263 5 (fun v=>⟨by kernel_rfl,by kernel_rfl,by kernel_rfl,by kernel_rfl⟩) (fun v=>AllP.cons (e7 v) (AllP.cons (e6 v) (AllP.cons (e5 v) (AllP.cons (e4 v) (AllP.cons (e3 v) (AllP.cons (e2 v) (AllP.cons (e1 v) (AllP.cons (e0 v) AllP.nil))))))))

theorem lg_ct (w:World) (b2:Bool) (h0:Heap) (B:List Frame) (d:Drawn) (os:OsState) (pos0:Pos) (vz:N2) (pos0z:Pos) (t0z t1z:Nat) (txz:Str) (t2z t3z t4z t5z t6z t7z:Nat) (g0z:Int) (t8z:Nat) (g1z:Int) (szz tkz gnz:Nat) (Mz:List (Addr × Obj)) (Gz:List (Nat × GenState)) (sc:String) (k L gO gL gl g:Nat) (luv lpv gpv gcv lvv:Value) (t0 t1:Nat) (s:Str) (t2 t3:Nat) (tx:Str) (t4 t5 t6 t7 t8 t9 t10 t11 t12 t13 t14:Nat) (g0:Int) (t15:Nat) (g1:Int) (c:Str) (qa0:List Stmt) (qb0:Env) (qq0:Pos) (qa1:Expr) (qb1:Value) (qc1 qd1:List Stmt) (qe1:Env) (qq1:Pos) (qa2:List Stmt) (qb2:Env) (qq2:Pos) (qa3:Args) (qq3:Pos) (sz tk gn:Nat) (M:List (Addr × Obj)) (G:List (Nat × GenState)) (O:(view w b2 h0 B [(.func qa0 qb0,qq0),(.forLoop qa1 qb1 qc1 qd1 qe1,qq1),(.func qa2 qb2,qq2),(.builtin "claim.caller" qa3,qq3)] d os).Ok)
    (e0:∀ v:N2,CallN (view w b2 h0 B [(.func qa0 qb0,qq0),(.forLoop qa1 qb1 qc1 qd1 qe1,qq1),(.func qa2 qb2,qq2),(.builtin "claim.caller" qa3,qq3)] d os) ([2,1,8,2,1,2,1,7]) (cB "enumerate.__next__" [(.ref (vz 0 3))]) [((vz 0 3),(fO "enumerate" [.none,(.bool false),(.ref (vz 0 4)),(.int (Int.ofNat k) 0),.none,lvv])),((vz 0 4),(fO sc [(.str s t1),(.int (Int.ofNat k) 0)]))] [] (fun v0=>⟨some [(fO "enumerate" [(.int (Int.ofNat (v0 3)) 0),(.bool false),(.ref (vz 0 4)),(.int ((Int.ofNat k)+1) 0),.none,(.str c (v0 4))]),(fO sc [(.str s t1),(.int ((Int.ofNat k)+1) 0)])],[((v0 3),(tO [(.int (Int.ofNat k) (v0 5)),(.str c (v0 4))]))],.ok (.ret (.ref (v0 3)))⟩)) (e1:∀ v:N2,EvP "str.__eq__" [(.str c 0),(.str z17 0)] (retB false)) (e2:∀ v:N2,EvP "str.__getitem__" [(.str c 0),(.int (-1) 0)] (retS c)) (e3:∀ v:N2,CallN (view w b2 h0 B [(.func qa0 qb0,qq0),(.forLoop qa1 qb1 qc1 qd1 qe1,qq1),(.func qa2 qb2,qq2),(.builtin "claim.caller" qa3,qq3)] d os) ([2,1,2,1,7]) (cR 60 [(.str c 0)]) [] [] (fun v2=>oV (.bool true))) :
    Goes (view w b2 h0 B [(.func qa0 qb0,qq0),(.forLoop qa1 qb1 qc1 qd1 qe1,qq1),(.func qa2 qb2,qq2),(.builtin "claim.caller" qa3,qq3)] d os) (mkD (.forLoop fIe_t29 (.ref (vz 0 3)) fIe_b29 [] (envF fIes fIeq 35 [] gL)) pos0 (lg_in_fs vz w b2 h0 B d os pos0z sc L gO gL gl g t0z t1z txz t2z t3z t4z t5z t6z s t7z g0z t8z g1z qa0 qb0 qq0 qa1 qb1 qc1 qd1 qe1 qq1 qa2 qb2 qq2 qa3 qq3 szz tkz gnz Mz Gz) (((vz 0 3),(fO "enumerate" [.none,(.bool false),(.ref (vz 0 4)),(.int (Int.ofNat k) 0),.none,lvv]))::((vz 0 4),(fO sc [(.str s t1),(.int (Int.ofNat k) 0)]))::(L,nsO [ent w.params z38 t2 (.str tx t3),ent w.params z39 t4 (.ref gl),ent w.params z41 t5 lpv,ent w.params z40 t7 luv] 4)::(gO,(fO "generator" [(.int (Int.ofNat g) 0),(.str z20 t8),(.str z20 t9)]))::(gL,nsO [ent w.params z14 t10 (.str s t1),ent w.params z15 t11 gpv,ent w.params z16 t12 (.bool false),ent w.params z18 t13 gcv] 4)::(gl,listO [(.int g0 t14),(.int g1 t15)] 0)::M) sz tk ((g,.running)::G) gn)
      (fun y=>∃ v:N2,y = mkD (.forLoop fIe_t29 (.ref (vz 0 3)) fIe_b29 [] (envF fIes fIeq 35 [] gL)) ⟨36,12,36,27⟩ (lg_in_fs vz w b2 h0 B d os pos0z sc L gO gL gl g t0z t1z txz t2z t3z t4z t5z t6z s t7z g0z t8z g1z qa0 qb0 qq0 qa1 qb1 qc1 qd1 qe1 qq1 qa2 qb2 qq2 qa3 qq3 szz tkz gnz Mz Gz) (((vz 0 3),(fO "enumerate" [.none,(.bool false),(.ref (vz 0 4)),(.int ((Int.ofNat k)+1) 0),.none,(.str c (v 0 4))]))::((vz 0 4),(fO sc [(.str s t1),(.int ((Int.ofNat k)+1) 0)]))::(L,nsO [ent w.params z38 t2 (.str tx t3),ent w.params z39 t4 (.ref gl),ent w.params z41 t5 (.int (Int.ofNat k) (v 0 5)),ent w.params z40 t7 (.str c (v 0 4))] 4)::(gO,(fO "generator" [(.int (Int.ofNat g) 0),(.str z20 t8),(.str z20 t9)]))::(gL,nsO [ent w.params z14 t10 (.str s t1),ent w.params z15 t11 (.int (Int.ofNat k) (v 0 5)),ent w.params z16 t12 (.bool false),ent w.params z18 t13 (.str c (v 0 4))] 4)::(gl,listO [(.int g0 t14),(.int g1 t15)] 0)::M) (v 2 0) (v 2 1) ((g,.running)::G) (v 2 2)) :=
  goes_run (it:=[1,2,2,2,1,1,1,1,1,1,1,1,1,2,1,1,1,1,1,1,2,1,1,1,1,1,1,2,1,1,1,9,9,9,9,9,9,9,9,0,9,1,1,1,1,1,1,1,1,1,2,1,1,1,1,1,1,2,1,1,1,1,1,1,2,1,1,1,11,11,11,11,0,11,0,12,12,12,0,0,0]) (en:=[(0,.call [0,1] [] (fun v0=>⟨some [(fO "enumerate" [(.int (Int.ofNat (v0 3)) 0),(.bool false),(.ref (vz 0 4)),(.int ((Int.ofNat k)+1) 0),.none,(.str c (v0 4))]),(fO sc [(.str s t1),(.int ((Int.ofNat k)+1) 0)])],[((v0 3),(tO [(.int (Int.ofNat k) (v0 5)),(.str c (v0 4))]))],.ok (.ret (.ref (v0 3)))⟩) (fun v0=>[(0,.own (tupE fIe_t29) (tupK fIe_t29) (tupP fIe_t29) (vz 0 3) (v0 3) fIe_b29 [] (envF fIes fIeq 35 [] gL)),(9,.ev (retB false)),(11,.ev (retS c)),(0,.call [] [] (fun v2=>oV (.bool true)) (fun v2=>[]))]))])
    (d:=14) (ms:=[8,9,10,11,12,13]) (e:=1) (gs:=[0]) (mv:=[])
    O den_eq 184 3 (fun v=>⟨by kernel_rfl,by kernel_rfl,by kernel_rfl,by kernel_rfl⟩) (fun v=>AllP.cons (e3 v) (AllP.cons (e2 v) (AllP.cons (e1 v) (AllP.cons (e0 v) AllP.nil))))

theorem lg_cf (w:World) (b2:Bool) (h0:Heap) (B:List Frame) (d:Drawn) (os:OsState) (pos0:Pos) (vz:N2) (pos0z:Pos) (t0z t1z:Nat) (txz:Str) (t2z t3z t4z t5z t6z t7z:Nat) (g0z:Int) (t8z:Nat) (g1z:Int) (szz tkz gnz:Nat) (Mz:List (Addr × Obj)) (Gz:List (Nat × GenState)) (sc:String) (k L gO gL gl g:Nat) (luv lpv gpv gcv lvv:Value) (t0 t1:Nat) (s:Str) (t2 t3:Nat) (tx:Str) (t4 t5 t6 t7 t8 t9 t10 t11 t12 t13 t14 t15:Nat) (g0:Int) (t16:Nat) (g1:Int) (c fold:Str) (qa0:List Stmt) (qb0:Env) (qq0:Pos) (qa1:Expr) (qb1:Value) (qc1 qd1:List Stmt) (qe1:Env) (qq1:Pos) (qa2:List Stmt) (qb2:Env) (qq2:Pos) (qa3:Args) (qq3:Pos) (sz tk gn:Nat) (M:List (Addr × Obj)) (G:List (Nat × GenState)) (O:(view w b2 h0 B [(.func qa0 qb0,qq0),(.forLoop qa1 qb1 qc1 qd1 qe1,qq1),(.func qa2 qb2,qq2),(.builtin "claim.caller" qa3,qq3)] d os).Ok)
    (e0:∀ v:N2,CallN (view w b2 h0 B [(.func qa0 qb0,qq0),(.forLoop qa1 qb1 qc1 qd1 qe1,qq1),(.func qa2 qb2,qq2),(.builtin "claim.caller" qa3,qq3)] d os) ([2,1,8,2,1,2,1,7]) (cB "enumerate.__next__" [(.ref (vz 0 3))]) [((vz 0 3),(fO "enumerate" [.none,(.bool false),(.ref (vz 0 4)),(.int (Int.ofNat k) 0),.none,lvv])),((vz 0 4),(fO sc [(.str s t1),(.int (Int.ofNat k) 0)]))] [] (fun v0=>⟨some [(fO "enumerate" [(.int (Int.ofNat (v0 3)) 0),(.bool false),(.ref (vz 0 4)),(.int ((Int.ofNat k)+1) 0),.none,(.str c (v0 4))]),(fO sc [(.str s t1),(.int ((Int.ofNat k)+1) 0)])],[((v0 3),(tO [(.int (Int.ofNat k) (v0 5)),(.str c (v0 4))]))],.ok (.ret (.ref (v0 3)))⟩)) (e1:∀ v:N2,EvP "str.__eq__" [(.str c 0),(.str z17 0)] (retB false)) (e2:∀ v:N2,EvP "str.__getitem__" [(.str c 0),(.int (-1) 0)] (retS c)) (e3:∀ v:N2,CallN (view w b2 h0 B [(.func qa0 qb0,qq0),(.forLoop qa1 qb1 qc1 qd1 qe1,qq1),(.func qa2 qb2,qq2),(.builtin "claim.caller" qa3,qq3)] d os) ([2,1,2,1,7]) (cR 60 [(.str c 0)]) [] [] (fun v2=>oV (.bool false))) (e4:∀ v:N2,EvP "str.__len__" [(.str c 0)] (retI 1)) (e5:∀ v:N2,EvP "str.__getitem__" [(.str c 0),(.int (-1) 0)] (retS c)) (e6:∀ v:N2,CallN (view w b2 h0 B [(.func qa0 qb0,qq0),(.forLoop qa1 qb1 qc1 qd1 qe1,qq1),(.func qa2 qb2,qq2),(.builtin "claim.caller" qa3,qq3)] d os) ([2,1,2,1,7]) (cR 106 [(.str c 0)]) [] [] (fun v3=>oV (.str fold (v3 3)))) (e7:∀ v:N2,CallN (view w b2 h0 B [(.func qa0 qb0,qq0),(.forLoop qa1 qb1 qc1 qd1 qe1,qq1),(.func qa2 qb2,qq2),(.builtin "claim.caller" qa3,qq3)] d os) ([2,1,2,1,7]) (cB "len" [(.str fold 0)]) [] [] (fun v4=>oV (.int (sLen fold) (v4 3)))) :
    Goes (view w b2 h0 B [(.func qa0 qb0,qq0),(.forLoop qa1 qb1 qc1 qd1 qe1,qq1),(.func qa2 qb2,qq2),(.builtin "claim.caller" qa3,qq3)] d os) (mkD (.forLoop fIe_t29 (.ref (vz 0 3)) fIe_b29 [] (envF fIes fIeq 35 [] gL)) pos0 (lg_in_fs vz w b2 h0 B d os pos0z sc L gO gL gl g t0z t1z txz t2z t3z t4z t5z t6z s t7z g0z t8z g1z qa0 qb0 qq0 qa1 qb1 qc1 qd1 qe1 qq1 qa2 qb2 qq2 qa3 qq3 szz tkz gnz Mz Gz) (((vz 0 3),(fO "enumerate" [.none,(.bool false),(.ref (vz 0 4)),(.int (Int.ofNat k) 0),.none,lvv]))::((vz 0 4),(fO sc [(.str s t1),(.int (Int.ofNat k) 0)]))::(L,nsO [ent w.params z38 t2 (.str tx t3),ent w.params z39 t4 (.ref gl),ent w.params z41 t5 lpv,ent w.params z40 t7 luv] 4)::(gO,(fO "generator" [(.int (Int.ofNat g) 0),(.str z20 t9),(.str z20 t10)]))::(gL,nsO [ent w.params z14 t11 (.str s t1),ent w.params z15 t12 gpv,ent w.params z16 t13 (.bool false),ent w.params z18 t14 gcv] 4)::(gl,listO [(.int g0 t15),(.int g1 t16)] 0)::M) sz tk ((g,.running)::G) gn)
      (fun y=>∃ v:N2,y = mkD (.forLoop fIe_t29 (.ref (vz 0 3)) fIe_b29 [] (envF fIes fIeq 35 [] gL)) ⟨36,12,36,27⟩ (lg_in_fs vz w b2 h0 B d os pos0z sc L gO gL gl g t0z t1z txz t2z t3z t4z t5z t6z s t7z g0z t8z g1z qa0 qb0 qq0 qa1 qb1 qc1 qd1 qe1 qq1 qa2 qb2 qq2 qa3 qq3 szz tkz gnz Mz Gz) (((vz 0 3),(fO "enumerate" [.none,(.bool false),(.ref (vz 0 4)),(.int ((Int.ofNat k)+1) 0),.none,(.str c (v 0 4))]))::((vz 0 4),(fO sc [(.str s t1),(.int ((Int.ofNat k)+1) 0)]))::(L,nsO [ent w.params z38 t2 (.str tx t3),ent w.params z39 t4 (.ref gl),ent w.params z41 t5 (.int (Int.ofNat k) (v 0 5)),ent w.params z40 t7 (.str c (v 0 4))] 4)::(gO,(fO "generator" [(.int (Int.ofNat g) 0),(.str z20 t9),(.str z20 t10)]))::(gL,nsO [ent w.params z14 t11 (.str s t1),ent w.params z15 t12 (.int (Int.ofNat k) (v 0 5)),ent w.params z16 t13 (.bool false),ent w.params z18 t14 (.str c (v 0 4))] 4)::(gl,listO [(.int (g0+(sLen fold)) (v 4 1)),(.int g1 t16)] 0)::M) (v 4 0) ((v 4 1)+1) ((g,.running)::G) (v 4 2)) :=
  goes_run (it:=[1,2,2,2,1,1,1,1,1,1,1,1,1,2,1,1,1,1,1,1,2,1,1,1,1,1,1,2,1,1,1,9,9,9,9,9,9,9,9,0,9,1,1,1,1,1,1,1,1,1,2,1,1,1,1,1,1,2,1,1,1,1,1,1,2,1,1,1,11,11,11,11,0,11,0,11,0,0,11,14,14,14,14,0,0,0,11,0,14,14,14,14,14,14,12,12,12,0,0,0]) (en:=[(0,.call [0,1] [] (fun v0=>⟨some [(fO "enumerate" [(.int (Int.ofNat (v0 3)) 0),(.bool false),(.ref (vz 0 4)),(.int ((Int.ofNat k)+1) 0),.none,(.str c (v0 4))]),(fO sc [(.str s t1),(.int ((Int.ofNat k)+1) 0)])],[((v0 3),(tO [(.int (Int.ofNat k) (v0 5)),(.str c (v0 4))]))],.ok (.ret (.ref (v0 3)))⟩) (fun v0=>[(0,.own (tupE fIe_t29) (tupK fIe_t29) (tupP fIe_t29) (vz 0 3) (v0 3) fIe_b29 [] (envF fIes fIeq 35 [] gL)),(9,.ev (retB false)),(11,.ev (retS c)),(0,.call [] [] (fun v2=>oV (.bool false)) (fun v2=>[(3,.ev (retI 1)),(7,.ev (retS c)),(0,.call [] [] (fun v3=>oV (.str fold (v3 3))) (fun v3=>[(0,.call [] [] (fun v4=>oV (.int (sLen fold) (v4 3))) (fun v4=>[]))]))]))]))])
    (d:=14) (ms:=[8,9,10,11,12,13]) (e:=1) (gs:=[0]) (mv:=[])
    O den_eq 257 5 (fun v=>⟨by kernel_rfl,by kernel_rfl,by kernel_rfl,by kernel_rfl⟩) (fun v=>AllP.cons (e7 v) (AllP.cons (e6 v) (AllP.cons (e5 v) (AllP.cons (e4 v) (AllP.cons (e3 v) (AllP.cons (e2 v) (AllP.cons (e1 v) (AllP.cons (e0 v) AllP.nil))))))))

theorem lg_end (w:World) (b2:Bool) (h0:Heap) (B:List Frame) (d:Drawn) (os:OsState) (pos0:Pos) (vz:N2) (pos0z:Pos) (t0z t1z:Nat) (txz:Str) (t2z t3z t4z t5z t6z t7z:Nat) (g0z:Int) (t8z:Nat) (g1z:Int) (szz tkz gnz:Nat) (Mz:List (Addr × Obj)) (Gz:List (Nat × GenState)) (sc:String) (k L gO gL gl g:Nat) (luv lpv gpv gcv lvv:Value) (t0 t1:Nat) (s:Str) (t2 t3:Nat) (tx:Str) (t4 t5 t6 t7 t8 t9 t10 t11 t12 t13 t14:Nat) (g0:Int) (t15:Nat) (g1:Int) (qa0:List Stmt) (qb0:Env) (qq0:Pos) (qa1:Expr) (qb1:Value) (qc1 qd1:List Stmt) (qe1:Env) (qq1:Pos) (qa2:List Stmt) (qb2:Env) (qq2:Pos) (qa3:Args) (qq3:Pos) (sz tk gn:Nat) (M:List (Addr × Obj)) (G:List (Nat × GenState)) (O:(view w b2 h0 B [(.func qa0 qb0,qq0),(.forLoop qa1 qb1 qc1 qd1 qe1,qq1),(.func qa2 qb2,qq2),(.builtin "claim.caller" qa3,qq3)] d os).Ok)
    (e0:∀ v:N2,CallN (view w b2 h0 B [(.func qa0 qb0,qq0),(.forLoop qa1 qb1 qc1 qd1 qe1,qq1),(.func qa2 qb2,qq2),(.builtin "claim.caller" qa3,qq3)] d os) ([2,1,8,2,1,2,1,7]) (cB "enumerate.__next__" [(.ref (vz 0 3))]) [((vz 0 3),(fO "enumerate" [.none,(.bool false),(.ref (vz 0 4)),(.int (Int.ofNat k) 0),.none,lvv])),((vz 0 4),(fO sc [(.str s t1),(.int (Int.ofNat k) 0)]))] [] (fun v0=>⟨some [(fO "enumerate" [.none,(.bool false),(.ref (vz 0 4)),(.int (Int.ofNat k) 0),.none,lvv]),(fO sc [.none,(.int (Int.ofNat k) 0)])],[((v0 3),(fO "StopIteration" [(.ref (v0 4)),.none,.none,.none,(.bool false),.none])),((v0 4),(tO []))],.error (.ref (v0 3))⟩)) :
    Goes (view w b2 h0 B [(.func qa0 qb0,qq0),(.forLoop qa1 qb1 qc1 qd1 qe1,qq1),(.func qa2 qb2,qq2),(.builtin "claim.caller" qa3,qq3)] d os) (mkD (.forLoop fIe_t29 (.ref (vz 0 3)) fIe_b29 [] (envF fIes fIeq 35 [] gL)) pos0 (lg_in_fs vz w b2 h0 B d os pos0z sc L gO gL gl g t0z t1z txz t2z t3z t4z t5z t6z s t7z g0z t8z g1z qa0 qb0 qq0 qa1 qb1 qc1 qd1 qe1 qq1 qa2 qb2 qq2 qa3 qq3 szz tkz gnz Mz Gz) (((vz 0 3),(fO "enumerate" [.none,(.bool false),(.ref (vz 0 4)),(.int (Int.ofNat k) 0),.none,lvv]))::((vz 0 4),(fO sc [(.str s t1),(.int (Int.ofNat k) 0)]))::(L,nsO [ent w.params z38 t2 (.str tx t3),ent w.params z39 t4 (.ref gl),ent w.params z41 t5 lpv,ent w.params z40 t7 luv] 4)::(gO,(fO "generator" [(.int (Int.ofNat g) 0),(.str z20 t8),(.str z20 t9)]))::(gL,nsO [ent w.params z14 t10 (.str s t1),ent w.params z15 t11 gpv,ent w.params z16 t12 (.bool false),ent w.params z18 t13 gcv] 4)::(gl,listO [(.int g0 t14),(.int g1 t15)] 0)::M) sz tk ((g,.running)::G) gn)
      (fun y=>∃ v:N2,y = mk (.pure (.done .next)) (.block [] (envF fLgs fLgq 113 [] L)) ⟨70,8,70,19⟩ [] ((L,nsO [ent w.params z38 t2 (.str tx t3),ent w.params z39 t4 (.ref gl),ent w.params z41 t5 lpv,ent w.params z40 t7 luv] 4)::(gl,listO [(.int g0 t14),(.int g1 t15)] 0)::M) ((v 0 0)+2) (v 0 1) (G) (v 0 2)) :=
  goes_run (it:=[1,1,7,0,1]) (en:=[(0,.call [0,1] [] (fun v0=>⟨some [(fO "enumerate" [.none,(.bool false),(.ref (vz 0 4)),(.int (Int.ofNat k) 0),.none,lvv]),(fO sc [.none,(.int (Int.ofNat k) 0)])],[((v0 3),(fO "StopIteration" [(.ref (v0 4)),.none,.none,.none,(.bool false),.none])),((v0 4),(tO []))],.error (.ref (v0 3))⟩) (fun v0=>[]))])
    (d:=10) (ms:=[6,9]) (e:=1) (gs:=[]) (mv:=[])
    O den_eq 17 1 (fun v=>⟨by kernel_rfl,by kernel_rfl,by kernel_rfl,by kernel_rfl⟩) (fun v=>AllP.cons (e0 v) AllP.nil)

theorem lg_empty (w:World) (b2:Bool) (h0:Heap) (B:List Frame) (d:Drawn) (os:OsState) (pos0:Pos) (L gO gL gl g t0 t1:Nat) (tx:Str) (t2 t3 t4 t5 t6:Nat) (s:Str) (t7:Nat) (g0:Int) (t8:Nat) (g1:Int) (qa0:List Stmt) (qb0:Env) (qq0:Pos) (qa1:Expr) (qb1:Value) (qc1 qd1:List Stmt) (qe1:Env) (qq1:Pos) (qa2:List Stmt) (qb2:Env) (qq2:Pos) (qa3:Args) (qq3:Pos) (sz tk gn:Nat) (M:List (Addr × Obj)) (G:List (Nat × GenState)) (O:(view w b2 h0 B [(.func qa0 qb0,qq0),(.forLoop qa1 qb1 qc1 qd1 qe1,qq1),(.func qa2 qb2,qq2),(.builtin "claim.caller" qa3,qq3)] d os).Ok)
    (e0:∀ v:N2,CallN (view w b2 h0 B [(.func qa0 qb0,qq0),(.forLoop qa1 qb1 qc1 qd1 qe1,qq1),(.func qa2 qb2,qq2),(.builtin "claim.caller" qa3,qq3)] d os) ([1,8,2,1,2,1,7]) (.call (.type "enumerate") ⟨[(.str s t6)],[]⟩) [] [] (fun v0=>⟨none,[((v0 3),(fO "enumerate" [.none,(.bool false),(.ref (v0 4)),(.int 0 0),.none,.none])),((v0 4),(fO "str_ascii_iterator" [(.str s t6),(.int 0 0)]))],.ok (.ret (.ref (v0 3)))⟩)) (e1:∀ v:N2,CallN (view w b2 h0 B [(.func qa0 qb0,qq0),(.forLoop qa1 qb1 qc1 qd1 qe1,qq1),(.func qa2 qb2,qq2),(.builtin "claim.caller" qa3,qq3)] d os) ([2,1,8,2,1,2,1,7]) (cB "enumerate.__next__" [(.ref (v 0 3))]) [((v 0 3),(fO "enumerate" [.none,(.bool false),(.ref (v 0 4)),(.int 0 0),.none,.none])),((v 0 4),(fO "str_ascii_iterator" [(.str s t6),(.int 0 0)]))] [] (fun v1=>⟨some [(fO "enumerate" [.none,(.bool false),(.ref (v 0 4)),(.int 0 0),.none,.none]),(fO "str_ascii_iterator" [.none,(.int 0 0)])],[((v1 3),(fO "StopIteration" [(.ref (v1 4)),.none,.none,.none,(.bool false),.none])),((v1 4),(tO []))],.error (.ref (v1 3))⟩)) :
    Goes (view w b2 h0 B [(.func qa0 qb0,qq0),(.forLoop qa1 qb1 qc1 qd1 qe1,qq1),(.func qa2 qb2,qq2),(.builtin "claim.caller" qa3,qq3)] d os) (mkD (.forLoop fLg_t70 (.ref gO) fLg_b70 [] (envF fLgs fLgq 113 [] L)) pos0 [] ((L,nsO [ent w.params z38 t0 (.str tx t1),ent w.params z39 t2 (.ref gl)] 2)::(gO,(fO "generator" [(.int (Int.ofNat g) 0),(.str z20 t3),(.str z20 t4)]))::(gL,nsO [ent w.params z14 t5 (.str s t6)] 1)::(gl,listO [(.int g0 t7),(.int g1 t8)] 0)::M) sz tk ((g,(.fresh (.func fIe_ (envF fIes fIeq 35 [] gL))))::G) gn)
      (fun y=>∃ v:N2,y = mk (.pure (.done .next)) (.block [] (envF fLgs fLgq 113 [] L)) ⟨70,8,70,19⟩ [] ((L,nsO [ent w.params z38 t0 (.str tx t1),ent w.params z39 t2 (.ref gl)] 2)::(gl,listO [(.int g0 t7),(.int g1 t8)] 0)::M) ((v 1 0)+2) (v 1 1) (G) (v 1 2)) :=
  goes_run (it:=[2,2,2,0,0,0,3,3,3,3,0,0,3,1,1,1,1,1,1,7,0,1]) (en:=[(2,.call [] [] (fun v0=>⟨none,[((v0 3),(fO "enumerate" [.none,(.bool false),(.ref (v0 4)),(.int 0 0),.none,.none])),((v0 4),(fO "str_ascii_iterator" [(.str s t6),(.int 0 0)]))],.ok (.ret (.ref (v0 3)))⟩) (fun v0=>[(3,.call [0,1] [] (fun v1=>⟨some [(fO "enumerate" [.none,(.bool false),(.ref (v0 4)),(.int 0 0),.none,.none]),(fO "str_ascii_iterator" [.none,(.int 0 0)])],[((v1 3),(fO "StopIteration" [(.ref (v1 4)),.none,.none,.none,(.bool false),.none])),((v1 4),(tO []))],.error (.ref (v1 3))⟩) (fun v1=>[]))]))])
    (d:=10) (ms:=[6,9]) (e:=1) (gs:=[]) (mv:=[])
    O den_eq 64 2 (fun v=>⟨by kernel_rfl,by kernel_rfl,by kernel_rfl,by kernel_rfl⟩) (fun v=>AllP.cons (e1 v) (AllP.cons (e0 v) AllP.nil))

end Mine
end
section
open PySem PySem.W PySem.W.X PyProof.Rows
namespace Mine
theorem b1_0 (w:World) (b2:Bool) (h0:Heap) (B:List Frame) (d:Drawn) (os:OsState) (pos0:Pos) (t0:Nat) (qa0:Expr) (qb0:Value) (qc0 qd0:List Stmt) (qe0:Env) (qq0:Pos) (qa1:List Stmt) (qb1:Env) (qq1:Pos) (qa2:Expr) (qb2:Value) (qc2 qd2:List Stmt) (qe2:Env) (qq2:Pos) (qa3:List Stmt) (qb3:Env) (qq3:Pos) (qa4:Args) (qq4:Pos) (sz tk gn:Nat) (M:List (Addr × Obj)) (G:List (Nat × GenState)) (O:(view w b2 h0 B [(.forLoop qa0 qb0 qc0 qd0 qe0,qq0),(.func qa1 qb1,qq1),(.forLoop qa2 qb2 qc2 qd2 qe2,qq2),(.func qa3 qb3,qq3),(.builtin "claim.caller" qa4,qq4)] d os).Ok)
    (e0:∀ v:N2,CallN (view w b2 h0 B [(.forLoop qa0 qb0 qc0 qd0 qe0,qq0),(.func qa1 qb1,qq1),(.forLoop qa2 qb2 qc2 qd2 qe2,qq2),(.func qa3 qb3,qq3),(.builtin "claim.caller" qa4,qq4)] d os) ([1,2,1,2,1,7]) (cB "set.__contains__" [(.ref 50),(.int 107 0)]) [] [] (fun v0=>oV (.bool false))) :
    Goes (view w b2 h0 B [(.forLoop qa0 qb0 qc0 qd0 qe0,qq0),(.func qa1 qb1,qq1),(.forLoop qa2 qb2 qc2 qd2 qe2,qq2),(.func qa3 qb3,qq3),(.builtin "claim.caller" qa4,qq4)] d os) (mkD (cR 60 [(.str z61 t0)]) pos0 [] (M) sz tk (G) gn)
      (fun y=>∃ v:N2,y = mk (.pure (.done (.ret (.bool false)))) (.func fB1_ (envF fB1s fB1q 60 [] sz)) ⟨60,11,60,30⟩ [] (M) (v 0 0) (v 0 1) (G) (v 0 2)) :=
  goes_run (it:=[0,0,1,1,0,0,0,1,0,0,0]) (en:=[(3,.call [] [] (fun v0=>oV (.bool false)) (fun v0=>[]))])
    (d:=1) (ms:=[]) (e:=0) (gs:=[]) (mv:=[])
    O den_eq 29 1 (fun v=>⟨by kernel_rfl,by kernel_rfl,by kernel_rfl,by kernel_rfl⟩) (fun v=>AllP.cons (e0 v) AllP.nil)

theorem b1_1 (w:World) (b2:Bool) (h0:Heap) (B:List Frame) (d:Drawn) (os:OsState) (pos0:Pos) (t0:Nat) (qa0:Expr) (qb0:Value) (qc0 qd0:List Stmt) (qe0:Env) (qq0:Pos) (qa1:List Stmt) (qb1:Env) (qq1:Pos) (qa2:Expr) (qb2:Value) (qc2 qd2:List Stmt) (qe2:Env) (qq2:Pos) (qa3:List Stmt) (qb3:Env) (qq3:Pos) (qa4:Args) (qq4:Pos) (sz tk gn:Nat) (M:List (Addr × Obj)) (G:List (Nat × GenState)) (O:(view w b2 h0 B [(.forLoop qa0 qb0 qc0 qd0 qe0,qq0),(.func qa1 qb1,qq1),(.forLoop qa2 qb2 qc2 qd2 qe2,qq2),(.func qa3 qb3,qq3),(.builtin "claim.caller" qa4,qq4)] d os).Ok)
    (e0:∀ v:N2,CallN (view w b2 h0 B [(.forLoop qa0 qb0 qc0 qd0 qe0,qq0),(.func qa1 qb1,qq1),(.forLoop qa2 qb2 qc2 qd2 qe2,qq2),(.func qa3 qb3,qq3),(.builtin "claim.caller" qa4,qq4)] d os) ([1,2,1,2,1,7]) (cB "set.__contains__" [(.ref 50),(.int 223 0)]) [] [] (fun v0=>oV (.bool false))) :
    Goes (view w b2 h0 B [(.forLoop qa0 qb0 qc0 qd0 qe0,qq0),(.func qa1 qb1,qq1),(.forLoop qa2 qb2 qc2 qd2 qe2,qq2),(.func qa3 qb3,qq3),(.builtin "claim.caller" qa4,qq4)] d os) (mkD (cR 60 [(.str (Str.mk (Array.mk [223])) t0)]) pos0 [] (M) sz tk (G) gn)
      (fun y=>∃ v:N2,y = mk (.pure (.done (.ret (.bool false)))) (.func fB1_ (envF fB1s fB1q 60 [] sz)) ⟨60,11,60,30⟩ [] (M) (v 0 0) (v 0 1) (G) (v 0 2)) :=
  goes_run (it:=[0,0,1,1,0,0,0,1,0,0,0]) (en:=[(3,.call [] [] (fun v0=>oV (.bool false)) (fun v0=>[]))])
    (d:=1) (ms:=[]) (e:=0) (gs:=[]) (mv:=[])
    O den_eq 29 1 (fun v=>⟨by kernel_rfl,by kernel_rfl,by kernel_rfl,by kernel_rfl⟩) (fun v=>AllP.cons (e0 v) AllP.nil)

theorem b1_2 (w:World) (b2:Bool) (h0:Heap) (B:List Frame) (d:Drawn) (os:OsState) (pos0:Pos) (t0:Nat) (qa0:Expr) (qb0:Value) (qc0 qd0:List Stmt) (qe0:Env) (qq0:Pos) (qa1:List Stmt) (qb1:Env) (qq1:Pos) (qa2:Expr) (qb2:Value) (qc2 qd2:List Stmt) (qe2:Env) (qq2:Pos) (qa3:List Stmt) (qb3:Env) (qq3:Pos) (qa4:Args) (qq4:Pos) (sz tk gn:Nat) (M:List (Addr × Obj)) (G:List (Nat × GenState)) (O:(view w b2 h0 B [(.forLoop qa0 qb0 qc0 qd0 qe0,qq0),(.func qa1 qb1,qq1),(.forLoop qa2 qb2 qc2 qd2 qe2,qq2),(.func qa3 qb3,qq3),(.builtin "claim.caller" qa4,qq4)] d os).Ok)
    (e0:∀ v:N2,CallN (view w b2 h0 B [(.forLoop qa0 qb0 qc0 qd0 qe0,qq0),(.func qa1 qb1,qq1),(.forLoop qa2 qb2 qc2 qd2 qe2,qq2),(.func qa3 qb3,qq3),(.builtin "claim.caller" qa4,qq4)] d os) ([1,2,1,2,1,7]) (cB "set.__contains__" [(.ref 50),(.int 64259 0)]) [] [] (fun v0=>oV (.bool false))) :
    Goes (view w b2 h0 B [(.forLoop qa0 qb0 qc0 qd0 qe0,qq0),(.func qa1 qb1,qq1),(.forLoop qa2 qb2 qc2 qd2 qe2,qq2),(.func qa3 qb3,qq3),(.builtin "claim.caller" qa4,qq4)] d os) (mkD (cR 60 [(.str (Str.mk (Array.mk [64259])) t0)]) pos0 [] (M) sz tk (G) gn)
      (fun y=>∃ v:N2,y = mk (.pure (.done (.ret (.bool false)))) (.func fB1_ (envF fB1s fB1q 60 [] sz)) ⟨60,11,60,30⟩ [] (M) (v 0 0) (v 0 1) (G) (v 0 2)) :=
  goes_run (it:=[0,0,1,1,0,0,0,1,0,0,0]) (en:=[(3,.call [] [] (fun v0=>oV (.bool false)) (fun v0=>[]))])
    (d:=1) (ms:=[]) (e:=0) (gs:=[]) (mv:=[])
    O den_eq 29 1 (fun v=>⟨by kernel_rfl,by kernel_rfl,by kernel_rfl,by kernel_rfl⟩) (fun v=>AllP.cons (e0 v) AllP.nil)

theorem b1_3 (w:World) (b2:Bool) (h0:Heap) (B:List Frame) (d:Drawn) (os:OsState) (pos0:Pos) (t0:Nat) (qa0:Expr) (qb0:Value) (qc0 qd0:List Stmt) (qe0:Env) (qq0:Pos) (qa1:List Stmt) (qb1:Env) (qq1:Pos) (qa2:Expr) (qb2:Value) (qc2 qd2:List Stmt) (qe2:Env) (qq2:Pos) (qa3:List Stmt) (qb3:Env) (qq3:Pos) (qa4:Args) (qq4:Pos) (sz tk gn:Nat) (M:List (Addr × Obj)) (G:List (Nat × GenState)) (O:(view w b2 h0 B [(.forLoop qa0 qb0 qc0 qd0 qe0,qq0),(.func qa1 qb1,qq1),(.forLoop qa2 qb2 qc2 qd2 qe2,qq2),(.func qa3 qb3,qq3),(.builtin "claim.caller" qa4,qq4)] d os).Ok)
    (e0:∀ v:N2,CallN (view w b2 h0 B [(.forLoop qa0 qb0 qc0 qd0 qe0,qq0),(.func qa1 qb1,qq1),(.forLoop qa2 qb2 qc2 qd2 qe2,qq2),(.func qa3 qb3,qq3),(.builtin "claim.caller" qa4,qq4)] d os) ([1,2,1,2,1,7]) (cB "set.__contains__" [(.ref 50),(.int 173 0)]) [] [] (fun v0=>oV (.bool true))) :
    Goes (view w b2 h0 B [(.forLoop qa0 qb0 qc0 qd0 qe0,qq0),(.func qa1 qb1,qq1),(.forLoop qa2 qb2 qc2 qd2 qe2,qq2),(.func qa3 qb3,qq3),(.builtin "claim.caller" qa4,qq4)] d os) (mkD (cR 60 [(.str (Str.mk (Array.mk [173])) t0)]) pos0 [] (M) sz tk (G) gn)
      (fun y=>∃ v:N2,y = mk (.pure (.done (.ret (.bool true)))) (.func fB1_ (envF fB1s fB1q 60 [] sz)) ⟨60,11,60,30⟩ [] (M) (v 0 0) (v 0 1) (G) (v 0 2)) :=
  goes_run (it:=[0,0,1,1,0,0,0,1,0,0,0]) (en:=[(3,.call [] [] (fun v0=>oV (.bool true)) (fun v0=>[]))])
    (d:=1) (ms:=[]) (e:=0) (gs:=[]) (mv:=[])
    O den_eq 29 1 (fun v=>⟨by kernel_rfl,by kernel_rfl,by kernel_rfl,by kernel_rfl⟩) (fun v=>AllP.cons (e0 v) AllP.nil)

theorem b1_4 (w:World) (b2:Bool) (h0:Heap) (B:List Frame) (d:Drawn) (os:OsState) (pos0:Pos) (t0:Nat) (qa0:Expr) (qb0:Value) (qc0 qd0:List Stmt) (qe0:Env) (qq0:Pos) (qa1:List Stmt) (qb1:Env) (qq1:Pos) (qa2:Expr) (qb2:Value) (qc2 qd2:List Stmt) (qe2:Env) (qq2:Pos) (qa3:List Stmt) (qb3:Env) (qq3:Pos) (qa4:Args) (qq4:Pos) (sz tk gn:Nat) (M:List (Addr × Obj)) (G:List (Nat × GenState)) (O:(view w b2 h0 B [(.forLoop qa0 qb0 qc0 qd0 qe0,qq0),(.func qa1 qb1,qq1),(.forLoop qa2 qb2 qc2 qd2 qe2,qq2),(.func qa3 qb3,qq3),(.builtin "claim.caller" qa4,qq4)] d os).Ok)
    (e0:∀ v:N2,CallN (view w b2 h0 B [(.forLoop qa0 qb0 qc0 qd0 qe0,qq0),(.func qa1 qb1,qq1),(.forLoop qa2 qb2 qc2 qd2 qe2,qq2),(.func qa3 qb3,qq3),(.builtin "claim.caller" qa4,qq4)] d os) ([1,2,1,2,1,7]) (cB "set.__contains__" [(.ref 50),(.int 13254 0)]) [] [] (fun v0=>oV (.bool false))) :
    Goes (view w b2 h0 B [(.forLoop qa0 qb0 qc0 qd0 qe0,qq0),(.func qa1 qb1,qq1),(.forLoop qa2 qb2 qc2 qd2 qe2,qq2),(.func qa3 qb3,qq3),(.builtin "claim.caller" qa4,qq4)] d os) (mkD (cR 60 [(.str (Str.mk (Array.mk [13254])) t0)]) pos0 [] (M) sz tk (G) gn)
      (fun y=>∃ v:N2,y = mk (.pure (.done (.ret (.bool false)))) (.func fB1_ (envF fB1s fB1q 60 [] sz)) ⟨60,11,60,30⟩ [] (M) (v 0 0) (v 0 1) (G) (v 0 2)) :=
  goes_run (it:=[0,0,1,1,0,0,0,1,0,0,0]) (en:=[(3,.call [] [] (fun v0=>oV (.bool false)) (fun v0=>[]))])
    (d:=1) (ms:=[]) (e:=0) (gs:=[]) (mv:=[])
    O den_eq 29 1 (fun v=>⟨by kernel_rfl,by kernel_rfl,by kernel_rfl,by kernel_rfl⟩) (fun v=>AllP.cons (e0 v) AllP.nil)

theorem b1_5 (w:World) (b2:Bool) (h0:Heap) (B:List Frame) (d:Drawn) (os:OsState) (pos0:Pos) (t0:Nat) (qa0:Expr) (qb0:Value) (qc0 qd0:List Stmt) (qe0:Env) (qq0:Pos) (qa1:List Stmt) (qb1:Env) (qq1:Pos) (qa2:Expr) (qb2:Value) (qc2 qd2:List Stmt) (qe2:Env) (qq2:Pos) (qa3:List Stmt) (qb3:Env) (qq3:Pos) (qa4:Args) (qq4:Pos) (sz tk gn:Nat) (M:List (Addr × Obj)) (G:List (Nat × GenState)) (O:(view w b2 h0 B [(.forLoop qa0 qb0 qc0 qd0 qe0,qq0),(.func qa1 qb1,qq1),(.forLoop qa2 qb2 qc2 qd2 qe2,qq2),(.func qa3 qb3,qq3),(.builtin "claim.caller" qa4,qq4)] d os).Ok)
    (e0:∀ v:N2,CallN (view w b2 h0 B [(.forLoop qa0 qb0 qc0 qd0 qe0,qq0),(.func qa1 qb1,qq1),(.forLoop qa2 qb2 qc2 qd2 qe2,qq2),(.func qa3 qb3,qq3),(.builtin "claim.caller" qa4,qq4)] d os) ([1,2,1,2,1,7]) (cB "set.__contains__" [(.ref 50),(.int 34 0)]) [] [] (fun v0=>oV (.bool false))) :
    Goes (view w b2 h0 B [(.forLoop qa0 qb0 qc0 qd0 qe0,qq0),(.func qa1 qb1,qq1),(.forLoop qa2 qb2 qc2 qd2 qe2,qq2),(.func qa3 qb3,qq3),(.builtin "claim.caller" qa4,qq4)] d os) (mkD (cR 60 [(.str z21 t0)]) pos0 [] (M) sz tk (G) gn)
      (fun y=>∃ v:N2,y = mk (.pure (.done (.ret (.bool false)))) (.func fB1_ (envF fB1s fB1q 60 [] sz)) ⟨60,11,60,30⟩ [] (M) (v 0 0) (v 0 1) (G) (v 0 2)) :=
  goes_run (it:=[0,0,1,1,0,0,0,1,0,0,0]) (en:=[(3,.call [] [] (fun v0=>oV (.bool false)) (fun v0=>[]))])
    (d:=1) (ms:=[]) (e:=0) (gs:=[]) (mv:=[])
    O den_eq 29 1 (fun v=>⟨by kernel_rfl,by kernel_rfl,by kernel_rfl,by kernel_rfl⟩) (fun v=>AllP.cons (e0 v) AllP.nil)

theorem b3_0 (w:World) (b2:Bool) (h0:Heap) (B:List Frame) (d:Drawn) (os:OsState) (pos0:Pos) (t0:Nat) (qa0:Expr) (qb0:Value) (qc0 qd0:List Stmt) (qe0:Env) (qq0:Pos) (qa1:List Stmt) (qb1:Env) (qq1:Pos) (qa2:Expr) (qb2:Value) (qc2 qd2:List Stmt) (qe2:Env) (qq2:Pos) (qa3:List Stmt) (qb3:Env) (qq3:Pos) (qa4:Args) (qq4:Pos) (sz tk gn:Nat) (M:List (Addr × Obj)) (G:List (Nat × GenState)) (O:(view w b2 h0 B [(.forLoop qa0 qb0 qc0 qd0 qe0,qq0),(.func qa1 qb1,qq1),(.forLoop qa2 qb2 qc2 qd2 qe2,qq2),(.func qa3 qb3,qq3),(.builtin "claim.caller" qa4,qq4)] d os).Ok)
    (e0:∀ v:N2,CallN (view w b2 h0 B [(.forLoop qa0 qb0 qc0 qd0 qe0,qq0),(.func qa1 qb1,qq1),(.forLoop qa2 qb2 qc2 qd2 qe2,qq2),(.func qa3 qb3,qq3),(.builtin "claim.caller" qa4,qq4)] d os) ([1,2,1,2,1,7]) (cB "dict.get" [(.ref 61),(.int 107 0)]) [] [] (fun v0=>oV .none)) :
    Goes (view w b2 h0 B [(.forLoop qa0 qb0 qc0 qd0 qe0,qq0),(.func qa1 qb1,qq1),(.forLoop qa2 qb2 qc2 qd2 qe2,qq2),(.func qa3 qb3,qq3),(.builtin "claim.caller" qa4,qq4)] d os) (mkD (cR 106 [(.str z61 t0)]) pos0 [] (M) sz tk (G) gn)
      (fun y=>∃ v:N2,y = mk (.pure (.done (.ret (.str z61 ((v 0 1)+1))))) (.func fB3_ (envF fB3s fB3q 106 [] sz)) ⟨66,11,66,23⟩ [] (M) (v 0 0) ((v 0 1)+2) (G) (v 0 2)) :=
  goes_run (it:=[0,0,1,1,0,0,0,0,0,0,0,0,1,1,1,1,1]) (en:=[(3,.call [] [] (fun v0=>oV .none) (fun v0=>[]))])
    (d:=1) (ms:=[]) (e:=0) (gs:=[]) (mv:=[])
    O den_eq 56 1 (fun v=>⟨by kernel_rfl,by kernel_rfl,by kernel_rfl,by kernel_rfl⟩) (fun v=>AllP.cons (e0 v) AllP.nil)

theorem b3_1 (w:World) (b2:Bool) (h0:Heap) (B:List Frame) (d:Drawn) (os:OsState) (pos0:Pos) (t0:Nat) (qa0:Expr) (qb0:Value) (qc0 qd0:List Stmt) (qe0:Env) (qq0:Pos) (qa1:List Stmt) (qb1:Env) (qq1:Pos) (qa2:Expr) (qb2:Value) (qc2 qd2:List Stmt) (qe2:Env) (qq2:Pos) (qa3:List Stmt) (qb3:Env) (qq3:Pos) (qa4:Args) (qq4:Pos) (sz tk gn:Nat) (M:List (Addr × Obj)) (G:List (Nat × GenState)) (O:(view w b2 h0 B [(.forLoop qa0 qb0 qc0 qd0 qe0,qq0),(.func qa1 qb1,qq1),(.forLoop qa2 qb2 qc2 qd2 qe2,qq2),(.func qa3 qb3,qq3),(.builtin "claim.caller" qa4,qq4)] d os).Ok)
    (e0:∀ v:N2,CallN (view w b2 h0 B [(.forLoop qa0 qb0 qc0 qd0 qe0,qq0),(.func qa1 qb1,qq1),(.forLoop qa2 qb2 qc2 qd2 qe2,qq2),(.func qa3 qb3,qq3),(.builtin "claim.caller" qa4,qq4)] d os) ([1,2,1,2,1,7]) (cB "dict.get" [(.ref 61),(.int 223 0)]) [] [] (fun v0=>oV (.str (Str.mk (Array.mk [115,115])) 307))) :
    Goes (view w b2 h0 B [(.forLoop qa0 qb0 qc0 qd0 qe0,qq0),(.func qa1 qb1,qq1),(.forLoop qa2 qb2 qc2 qd2 qe2,qq2),(.func qa3 qb3,qq3),(.builtin "claim.caller" qa4,qq4)] d os) (mkD (cR 106 [(.str (Str.mk (Array.mk [223])) t0)]) pos0 [] (M) sz tk (G) gn)
      (fun y=>∃ v:N2,y = mk (.pure (.done (.ret (.str (Str.mk (Array.mk [115,115])) 307)))) (.func fB3_ (envF fB3s fB3q 106 [] sz)) ⟨65,15,65,16⟩ [] (M) (v 0 0) ((v 0 1)+1) (G) (v 0 2)) :=
  goes_run (it:=[0,0,1,1,0,0,0,0,0,0,0,0,1,1,1,1,1]) (en:=[(3,.call [] [] (fun v0=>oV (.str (Str.mk (Array.mk [115,115])) 307)) (fun v0=>[]))])
    (d:=1) (ms:=[]) (e:=0) (gs:=[]) (mv:=[])
    O den_eq 48 1 (fun v=>⟨by kernel_rfl,by kernel_rfl,by kernel_rfl,by kernel_rfl⟩) (fun v=>AllP.cons (e0 v) AllP.nil)

theorem b3_2 (w:World) (b2:Bool) (h0:Heap) (B:List Frame) (d:Drawn) (os:OsState) (pos0:Pos) (t0:Nat) (qa0:Expr) (qb0:Value) (qc0 qd0:List Stmt) (qe0:Env) (qq0:Pos) (qa1:List Stmt) (qb1:Env) (qq1:Pos) (qa2:Expr) (qb2:Value) (qc2 qd2:List Stmt) (qe2:Env) (qq2:Pos) (qa3:List Stmt) (qb3:Env) (qq3:Pos) (qa4:Args) (qq4:Pos) (sz tk gn:Nat) (M:List (Addr × Obj)) (G:List (Nat × GenState)) (O:(view w b2 h0 B [(.forLoop qa0 qb0 qc0 qd0 qe0,qq0),(.func qa1 qb1,qq1),(.forLoop qa2 qb2 qc2 qd2 qe2,qq2),(.func qa3 qb3,qq3),(.builtin "claim.caller" qa4,qq4)] d os).Ok)
    (e0:∀ v:N2,CallN (view w b2 h0 B [(.forLoop qa0 qb0 qc0 qd0 qe0,qq0),(.func qa1 qb1,qq1),(.forLoop qa2 qb2 qc2 qd2 qe2,qq2),(.func qa3 qb3,qq3),(.builtin "claim.caller" qa4,qq4)] d os) ([1,2,1,2,1,7]) (cB "dict.get" [(.ref 61),(.int 64259 0)]) [] [] (fun v0=>oV (.str (Str.mk (Array.mk [102,102,105])) 883))) :
    Goes (view w b2 h0 B [(.forLoop qa0 qb0 qc0 qd0 qe0,qq0),(.func qa1 qb1,qq1),(.forLoop qa2 qb2 qc2 qd2 qe2,qq2),(.func qa3 qb3,qq3),(.builtin "claim.caller" qa4,qq4)] d os) (mkD (cR 106 [(.str (Str.mk (Array.mk [64259])) t0)]) pos0 [] (M) sz tk (G) gn)
      (fun y=>∃ v:N2,y = mk (.pure (.done (.ret (.str (Str.mk (Array.mk [102,102,105])) 883)))) (.func fB3_ (envF fB3s fB3q 106 [] sz)) ⟨65,15,65,16⟩ [] (M) (v 0 0) ((v 0 1)+1) (G) (v 0 2)) :=
  goes_run (it:=[0,0,1,1,0,0,0,0,0,0,0,0,1,1,1,1,1]) (en:=[(3,.call [] [] (fun v0=>oV (.str (Str.mk (Array.mk [102,102,105])) 883)) (fun v0=>[]))])
    (d:=1) (ms:=[]) (e:=0) (gs:=[]) (mv:=[])
    O den_eq 48 1 (fun v=>⟨by kernel_rfl,by kernel_rfl,by kernel_rfl,by kernel_rfl⟩) (fun v=>AllP.cons (e0 v) AllP.nil)

theorem b3_4 (w:World) (b2:Bool) (h0:Heap) (B:List Frame) (d:Drawn) (os:OsState) (pos0:Pos) (t0:Nat) (qa0:Expr) (qb0:Value) (qc0 qd0:List Stmt) (qe0:Env) (qq0:Pos) (qa1:List Stmt) (qb1:Env) (qq1:Pos) (qa2:Expr) (qb2:Value) (qc2 qd2:List Stmt) (qe2:Env) (qq2:Pos) (qa3:List Stmt) (qb3:Env) (qq3:Pos) (qa4:Args) (qq4:Pos) (sz tk gn:Nat) (M:List (Addr × Obj)) (G:List (Nat × GenState)) (O:(view w b2 h0 B [(.forLoop qa0 qb0 qc0 qd0 qe0,qq0),(.func qa1 qb1,qq1),(.forLoop qa2 qb2 qc2 qd2 qe2,qq2),(.func qa3 qb3,qq3),(.builtin "claim.caller" qa4,qq4)] d os).Ok)
    (e0:∀ v:N2,CallN (view w b2 h0 B [(.forLoop qa0 qb0 qc0 qd0 qe0,qq0),(.func qa1 qb1,qq1),(.forLoop qa2 qb2 qc2 qd2 qe2,qq2),(.func qa3 qb3,qq3),(.builtin "claim.caller" qa4,qq4)] d os) ([1,2,1,2,1,7]) (cB "dict.get" [(.ref 61),(.int 13254 0)]) [] [] (fun v0=>oV (.str (Str.mk (Array.mk [99,8725,107,103])) 838))) :
    Goes (view w b2 h0 B [(.forLoop qa0 qb0 qc0 qd0 qe0,qq0),(.func qa1 qb1,qq1),(.forLoop qa2 qb2 qc2 qd2 qe2,qq2),(.func qa3 qb3,qq3),(.builtin "claim.caller" qa4,qq4)] d os) (mkD (cR 106 [(.str (Str.mk (Array.mk [13254])) t0)]) pos0 [] (M) sz tk (G) gn)
      (fun y=>∃ v:N2,y = mk (.pure (.done (.ret (.str (Str.mk (Array.mk [99,8725,107,103])) 838)))) (.func fB3_ (envF fB3s fB3q 106 [] sz)) ⟨65,15,65,16⟩ [] (M) (v 0 0) ((v 0 1)+1) (G) (v 0 2)) :=
  goes_run (it:=[0,0,1,1,0,0,0,0,0,0,0,0,1,1,1,1,1]) (en:=[(3,.call [] [] (fun v0=>oV (.str (Str.mk (Array.mk [99,8725,107,103])) 838)) (fun v0=>[]))])
    (d:=1) (ms:=[]) (e:=0) (gs:=[]) (mv:=[])
    O den_eq 48 1 (fun v=>⟨by kernel_rfl,by kernel_rfl,by kernel_rfl,by kernel_rfl⟩) (fun v=>AllP.cons (e0 v) AllP.nil)

theorem b3_5 (w:World) (b2:Bool) (h0:Heap) (B:List Frame) (d:Drawn) (os:OsState) (pos0:Pos) (t0:Nat) (qa0:Expr) (qb0:Value) (qc0 qd0:List Stmt) (qe0:Env) (qq0:Pos) (qa1:List Stmt) (qb1:Env) (qq1:Pos) (qa2:Expr) (qb2:Value) (qc2 qd2:List Stmt) (qe2:Env) (qq2:Pos) (qa3:List Stmt) (qb3:Env) (qq3:Pos) (qa4:Args) (qq4:Pos) (sz tk gn:Nat) (M:List (Addr × Obj)) (G:List (Nat × GenState)) (O:(view w b2 h0 B [(.forLoop qa0 qb0 qc0 qd0 qe0,qq0),(.func qa1 qb1,qq1),(.forLoop qa2 qb2 qc2 qd2 qe2,qq2),(.func qa3 qb3,qq3),(.builtin "claim.caller" qa4,qq4)] d os).Ok)
    (e0:∀ v:N2,CallN (view w b2 h0 B [(.forLoop qa0 qb0 qc0 qd0 qe0,qq0),(.func qa1 qb1,qq1),(.forLoop qa2 qb2 qc2 qd2 qe2,qq2),(.func qa3 qb3,qq3),(.builtin "claim.caller" qa4,qq4)] d os) ([1,2,1,2,1,7]) (cB "dict.get" [(.ref 61),(.int 34 0)]) [] [] (fun v0=>oV .none)) :
    Goes (view w b2 h0 B [(.forLoop qa0 qb0 qc0 qd0 qe0,qq0),(.func qa1 qb1,qq1),(.forLoop qa2 qb2 qc2 qd2 qe2,qq2),(.func qa3 qb3,qq3),(.builtin "claim.caller" qa4,qq4)] d os) (mkD (cR 106 [(.str z21 t0)]) pos0 [] (M) sz tk (G) gn)
      (fun y=>∃ v:N2,y = mk (.pure (.done (.ret (.str z21 ((v 0 1)+1))))) (.func fB3_ (envF fB3s fB3q 106 [] sz)) ⟨66,11,66,23⟩ [] (M) (v 0 0) ((v 0 1)+2) (G) (v 0 2)) :=
  goes_run (it:=[0,0,1,1,0,0,0,0,0,0,0,0,1,1,1,1,1]) (en:=[(3,.call [] [] (fun v0=>oV .none) (fun v0=>[]))])
    (d:=1) (ms:=[]) (e:=0) (gs:=[]) (mv:=[])
    O den_eq 56 1 (fun v=>⟨by kernel_rfl,by kernel_rfl,by kernel_rfl,by kernel_rfl⟩) (fun v=>AllP.cons (e0 v) AllP.nil)

end Mine
end
section
open PySem PySem.W PySem.W.X PyProof.Rows
namespace Mine
noncomputable def sqOut (x:List Nat):List Nat:=if 34 ∈ x then (if (sqEnd x).st < x.length then ((sqEnd x).out ++ [x.drop (sqEnd x).st]).flatten else (sqEnd x).out.flatten) else x
structure SqGood (x:List Nat):Prop where
  ne:x ≠ []
  esc:(sqEnd x).esc = false
  op:(sqEnd x).op = none
  sum:((sqEnd x).out.map List.length).sum ≤ 1000
  len:x.length ≤ 1000
theorem ev_in {x:List Nat} {c:Nat} {b:Bool} (h:decide (c ∈ x) = b):EvP "str.__contains__" [.str (strOf x) 0,.str (strOf [c]) 0] (retB b):=evSS fun k m=>by
  rw [den_builtin F.entry_str_contains,← h]
  have e:=StrLaws.found_one (strOf x) c
  show retB (!(Builtin.Str.occurrences (strOf x) ⟨#[c]⟩ 0 (strOf x).length 1).isEmpty) = retB (decide (c ∈ x))
  rw [e]
section
variable {w:World} {b2:Bool} {h0:Heap} {B:List Frame} {d:Drawn} {os:OsState} {bw:List (Code × Pos)}
theorem sq_ok {x:List Nat} (g:SqGood x):CallN (view w b2 h0 B bw d os) [1,2,1,7] (.call (.ref 42) ⟨[.str (strOf x) 0],[]⟩) [] []
    (fun v=>⟨none,[],.ok (.ret (.str (strOf (sqOut x)) (v 3)))⟩):=by
  obtain ⟨hne,hesc,hop,hsum,hlen⟩:=g
  intro bw' c R sz tk gn hk hc hR pos V' u M G
  obtain ⟨B',rfl,O⟩:=under_view u
  obtain ⟨v,rfl,hv⟩:=norm_call1 hc
  obtain ⟨t,rfl⟩:=noTok_str hv
  obtain rfl:=norm_none hR
  obtain ⟨c0,p0,r0,rfl,k0,hk⟩:=ks_cons hk
  obtain ⟨c1,p1,r1,rfl,k1,hk⟩:=ks_cons hk
  obtain ⟨c2,p2,r2,rfl,k2,hk⟩:=ks_cons hk
  obtain ⟨c3,p3,r3,rfl,k3,hk⟩:=ks_cons hk
  obtain rfl:=ks_nil hk
  obtain ⟨_,_,rfl⟩:=shp_func k0
  obtain ⟨_,_,_,_,_,rfl⟩:=shp_for k1
  obtain ⟨_,_,rfl⟩:=shp_func k2
  obtain ⟨_,rfl⟩:=shp_caller k3
  rw [← den_eq]
  unfold sqOut
  by_cases h34:34 ∈ x
  · rw [if_pos h34]
    have inv1:=(sqEnd_inv x).st
    have inv2:=(sqEnd_inv x).out
    rw [sqEnd_k] at inv1 inv2
    by_cases hst:(sqEnd x).st < x.length
    · rw [if_pos hst]
      refine (sq_call1 w b2 h0 B' d os pos t (strOf x) (rvF (sqEnd x).out) (sqEnd x).out.length lpF luF (Int.ofNat (sqEnd x).st) (strOf (x.drop (sqEnd x).st)) (fun v=>strVals ((sqEnd x).out ++ [x.drop (sqEnd x).st]) fun i=>v (i+3)) ((sqEnd x).out.length+1) (strOf ((sqEnd x).out ++ [x.drop (sqEnd x).st]).flatten)
        _ _ _ _ _ _ _ _ _ _ _ _ _ _ sz tk gn M G O (fun v=>ev_in (decide_eq_true h34)) (fun v=>sq_loop_ok (by omega) hne hesc hop rfl rfl) (fun v=>len_ok (by show x.length < _; omega)) (fun v=>ev_ilt (decide_eq_true (by show (Int.ofNat _) < (x.length:Int); exact Int.ofNat_lt.mpr hst)))
        (fun v=>slice_end_ok (by omega) (by omega)) (fun v=>append_ok (strVals_no _ _) (by omega) rfl) (fun v=>join_ok (strVals_no _ _) ?_)).mono fun y=>?_
      · rw [List.map_append,List.sum_append]
        simp only [List.map_cons,List.map_nil,List.sum_cons,List.sum_nil,List.length_drop]
        omega
      · rintro ⟨v,rfl⟩
        exact ⟨fun i=>match i with | 0=>v 4 0 | 1=>v 4 1 | 2=>v 4 2 | _=>v 4 3,_,_,rfl⟩
    · rw [if_neg hst]
      refine (sq_call2 w b2 h0 B' d os pos t (strOf x) (rvF (sqEnd x).out) (sqEnd x).out.length lpF luF (Int.ofNat (sqEnd x).st) (strOf (sqEnd x).out.flatten)
        _ _ _ _ _ _ _ _ _ _ _ _ _ _ sz tk gn M G O (fun v=>ev_in (decide_eq_true h34)) (fun v=>sq_loop_ok (by omega) hne hesc hop rfl rfl) (fun v=>len_ok (by show x.length < _; omega)) (fun v=>ev_ilt (decide_eq_false (by show ¬ (Int.ofNat _) < (x.length:Int); exact fun h=>hst (Int.ofNat_lt.mp h))))
        (fun v=>join_ok (strVals_no _ _) (by omega))).monoE fun v=>?_
      exact ⟨fun i=>match i with | 0=>v 2 0 | 1=>v 2 1 | 2=>v 2 2 | _=>v 2 3,_,_,rfl⟩
  · rw [if_neg h34]
    refine (sq_call0 w b2 h0 B' d os pos t (strOf x) _ _ _ _ _ _ _ _ _ _ _ _ _ _ sz tk gn M G O (fun v=>ev_in (decide_eq_false h34))).monoE fun v=>?_
    exact ⟨fun i=>match i with | 0=>sz+1 | 1=>tk+2 | 2=>gn | _=>t,_,_,rfl⟩
end
end Mine
end
section
open PySem PySem.W PySem.W.X PyProof.Rows
namespace Mine
noncomputable def setEs (o:Obj):List (Int × Value):=match o.data with
  | .set es _ _=>es.toList
  | _=>[]
noncomputable def setT (o:Obj):SetTable:=match o.data with
  | .set _ _ t=>t
  | _=>default
noncomputable def setN (o:Obj):Nat:=match o.data with
  | .set _ n _=>n
  | _=>0
noncomputable def elemOk (e:Int × Value):Bool:=match e.2 with
  | .int k _=>decide (e.1 = hashInt k)
  | _=>false
noncomputable def b1Has (P:Params) (k:Int):Bool:=(setEs (o50 P)).any fun e=>Value.isInt k e.2
theorem b1_all (P:Params):(setEs (o50 P)).all elemOk = true:=by kernel_rfl
theorem b1_fits (P:Params):(setT (o50 P)).fits 27 = true:=by kernel_rfl
theorem b1_obj (P:Params):o50 P = ⟨.type "set",none,.set ⟨setEs (o50 P)⟩ (setN (o50 P)) (setT (o50 P)),⟨[]⟩⟩:=by kernel_rfl
theorem b1_size (P:Params):(setEs (o50 P)).length = 27:=by kernel_rfl
section
variable {w:World} {b2:Bool} {h0:Heap} {B:List Frame} {d:Drawn} {os:OsState} {bw:List (Code × Pos)} {ks:List Nat}
theorem b1_setOf {prog:Program} {w':World} {P:Params} {h:Heap} {a:Addr} (e:h.get? a = some (o50 P)):h.SetOf (intKind prog w') a (b1Has P) 27:=by
  refine ⟨_,⟨setEs (o50 P)⟩,setN (o50 P),setT (o50 P),e,?_,?_,?_,?_,?_,?_,?_⟩
  · rw [b1_obj]; exact ⟨rfl,rfl,rfl⟩
  · exact congrArg Obj.data (b1_obj P)
  · intro x hx
    have:=List.all_eq_true.mp (b1_all P) x hx
    unfold elemOk at this
    split at this
    · rename_i k t hk
      exact ⟨⟨k,by rw [hk]; simp [intKind,Value.isInt],of_decide_eq_true this⟩,by rw [hk]; rfl⟩
    · cases this
  · intro k
    exact List.any_eq_true
  · show (setEs (o50 P)).length < _; rw [b1_size]; decide
  · show (setT (o50 P)).fits (setEs (o50 P)).length = true; rw [b1_size]; exact b1_fits P
  · exact b1_size P
theorem in_ok {k:Int} {b:Bool} (hb:b1Has w.params k = b):CallN (view w b2 h0 B bw d os) ks (.call (.builtin "set.__contains__") ⟨[.ref 50,.int k 0],[]⟩) [] [] (fun v=>⟨none,[],.ok (.ret (.bool b))⟩):=by
  intro bw' c R sz tk gn _ hc hR pos V' u M G
  obtain ⟨v,v',rfl,hv,hv'⟩:=norm_call2 hc
  obtain rfl:=noTok_ref hv
  obtain ⟨t,rfl⟩:=noTok_int hv'
  obtain rfl:=norm_none hR
  have hkt:(view w b2 h0 B bw d os).kt.Holds (view w b2 h0 B bw d os).h0 1 0:=by
    obtain ⟨B',rfl,O⟩:=under_view u
    exact O.kt
  obtain ⟨_,_,_,_,eh0,_⟩:=id u
  refine goes_call u (res:=fun _=>.bool b) fun A hh s r=>?_
  have e:s.heap.get? 50 = some (o50 w.params):=by
    refine r.keep _ _ ?_
    rw [eh0]
    exact kt_at hkt (show (kt w.params).get 50 = some (o50 w.params) by kernel_rfl)
  have hS:=b1_setOf (prog:=(view w b2 h0 B bw d os).prog) (w':=(view w b2 h0 B bw d os).w) e
  refine wpAny_call_entry F.slot_set_contains hS.typeIs entry_set_contains ?_ (F.args_set_contains_2 _ _)
  unfold Builtin.«frozenset.__contains__» Builtin.Frozenset.oneOther
  simp only [List.isEmpty_nil,bind_assoc]
  unfold Builtin.Frozenset.addrOf Builtin.Frozenset.withSetAsKey setContains
  refine wpAny_bind (wpAny_pure ?_)
  try dsimp only
  refine wpAny_bind (wpAny_pure ?_)
  try dsimp only
  refine wpAny_bind (wpAny_tryCatch ?_)
  refine wpAny_holding ?_
  refine wpAny_bind (wpAny_pyHash_int ?_)
  refine wpAny_bind (wpAny_setFind_of (knd:=intKind _ _) (s:={ s with toks:=s.toks+1 }) (k:=k) (by simp [intKind,Value.isInt]) rfl hS fun r hr=>?_)
  refine wpAny_pure ?_
  show wpAny _ _ (ret (Value.bool r.isSome)) _ _ _
  rw [hr,hb]
  exact wpAny_pure ⟨_,rfl,0,rfl,fun _ _ e=>e,rfl,rfl,rfl⟩
theorem ents_keys:∀ (its:List (Int × Str)) (t:Nat),∀ e ∈ ents t its,∃ k u,e.key = .int k u ∧ e.hash = hashInt k
  | [],_,_,h=>by cases h
  | x::r,t,e,h=>by
    rcases List.mem_cons.mp h with rfl | h
    · exact ⟨_,_,rfl,rfl⟩
    · exact ents_keys r _ e h
theorem ents2_keys:∀ (its:List (Int × Str)) (t:Nat),∀ e ∈ ents2 t its,∃ k u,e.key = .int k u ∧ e.hash = hashInt k
  | [],_,_,h=>by cases h
  | x::r,t,e,h=>by
    rcases List.mem_cons.mp h with rfl | h
    · exact ⟨_,_,rfl,rfl⟩
    · exact ents2_keys r _ e h
theorem b3_mapOf {prog:Program} {w':World} {h:Heap} {a:Addr} (e:h.get? a = some b3O):h.MapOf (intKind prog w') a (fun k=>findBy Value.isInt ⟨b3E⟩ k):=by
  refine ⟨_,⟨b3E⟩,650,e,⟨rfl,rfl,rfl⟩,rfl,fun x hx=>?_,fun k=>rfl⟩
  have hx:x ∈ b3E:=by simpa using hx
  have:∃ k u,x.key = .int k u ∧ x.hash = hashInt k:=by
    unfold b3E mainE at hx
    rcases List.mem_append.mp hx with hx | hx
    · rcases List.mem_append.mp hx with hx | hx
      · exact ents_keys _ _ x hx
      · exact ents_keys _ _ x hx
    · exact ents2_keys _ _ x hx
  obtain ⟨k,u,h1,h2⟩:=this
  exact ⟨k,by rw [h1]; simp [intKind,Value.isInt],h2⟩
theorem get_ok {k:Int} {v0:Value} (hb:(findBy Value.isInt ⟨b3E⟩ k).getD .none = v0):CallN (view w b2 h0 B bw d os) ks (.call (.builtin "dict.get") ⟨[.ref 61,.int k 0],[]⟩) [] [] (fun v=>⟨none,[],.ok (.ret v0)⟩):=by
  intro bw' c R sz tk gn _ hc hR pos V' u M G
  obtain ⟨v,v',rfl,hv,hv'⟩:=norm_call2 hc
  obtain rfl:=noTok_ref hv
  obtain ⟨t,rfl⟩:=noTok_int hv'
  obtain rfl:=norm_none hR
  have hkt:(view w b2 h0 B bw d os).kt.Holds (view w b2 h0 B bw d os).h0 1 0:=by
    obtain ⟨B',rfl,O⟩:=under_view u
    exact O.kt
  obtain ⟨_,_,_,_,eh0,_⟩:=id u
  refine goes_call u (res:=fun _=>v0) fun A hh s r=>?_
  have e:s.heap.get? 61 = some b3O:=by
    refine r.keep _ _ ?_
    rw [eh0]
    exact kt_at hkt (show (kt w.params).get 61 = some b3O by kernel_rfl)
  have hS:=b3_mapOf (prog:=(view w b2 h0 B bw d os).prog) (w':=(view w b2 h0 B bw d os).w) e
  exact call_meetsIn F.slot_dict_get ⟨_,e,rfl⟩ F.entry_dict_get (F.args_dict_get_2 _ _) (meets_dict_get (intKind _ _) 61 (key:=.int k t) (k:=k) (by simp [intKind,Value.isInt]) (by decide)) ⟨_,hS,0,hb,fun _ _ e=>e,rfl,rfl,rfl⟩
theorem ents_from:∀ (its:List (Int × Str)) (t:Nat),∀ e ∈ ents t its,∃ x ∈ its,∃ u,e.key = .int x.1 u
  | [],_,_,h=>by cases h
  | x::r,t,e,h=>by
    rcases List.mem_cons.mp h with rfl | h
    · exact ⟨x,.head _,_,rfl⟩
    · obtain ⟨y,hy,z⟩:=ents_from r _ e h
      exact ⟨y,.tail _ hy,z⟩
theorem ents2_from:∀ (its:List (Int × Str)) (t:Nat),∀ e ∈ ents2 t its,∃ x ∈ its,∃ u,e.key = .int x.1 u
  | [],_,_,h=>by cases h
  | x::r,t,e,h=>by
    rcases List.mem_cons.mp h with rfl | h
    · exact ⟨x,.head _,_,rfl⟩
    · obtain ⟨y,hy,z⟩:=ents2_from r _ e h
      exact ⟨y,.tail _ hy,z⟩
theorem b3_cut':b3I = b3x ++ (b3c.flatten ++ b3l):=by kernel_rfl
theorem b3_low:b3I.all (fun x=>decide (181 ≤ x.1)) = true:=by kernel_rfl
theorem get_low {k:Int} (hk:k < 181):(findBy Value.isInt ⟨b3E⟩ k).getD .none = .none:=by
  have:findBy Value.isInt ⟨b3E⟩ k = none:=by
    unfold findBy
    rw [Option.map_eq_none_iff,Array.find?_eq_none]
    intro e he h
    have he:e ∈ b3E:=by simpa using he
    have:∃ x ∈ b3I,∃ u,e.key = .int x.1 u:=by
      rw [b3_cut']
      unfold b3E mainE at he
      rcases List.mem_append.mp he with he | he
      · rcases List.mem_append.mp he with he | he
        · obtain ⟨x,hx,z⟩:=ents_from _ _ e he
          exact ⟨x,List.mem_append_left _ hx,z⟩
        · obtain ⟨x,hx,z⟩:=ents_from _ _ e he
          exact ⟨x,List.mem_append_right _ (List.mem_append_left _ hx),z⟩
      · obtain ⟨x,hx,z⟩:=ents2_from _ _ e he
        exact ⟨x,List.mem_append_right _ (List.mem_append_right _ hx),z⟩
    obtain ⟨x,hx,u,hu⟩:=this
    rw [hu] at h
    have h1:x.1 = k:=by simpa [Value.isInt] using h
    have h2:=List.all_eq_true.mp b3_low x hx
    have h2:181 ≤ x.1:=of_decide_eq_true h2
    omega
  rw [this]; rfl
theorem get_223:(findBy Value.isInt ⟨b3E⟩ 223).getD .none = .str (Str.mk (Array.mk [115,115])) 307:=by kernel_rfl
theorem get_64259:(findBy Value.isInt ⟨b3E⟩ 64259).getD .none = .str (Str.mk (Array.mk [102,102,105])) 883:=by kernel_rfl
theorem get_13254:(findBy Value.isInt ⟨b3E⟩ 13254).getD .none = .str (Str.mk (Array.mk [99,8725,107,103])) 838:=by kernel_rfl
end
end Mine
end
section
open PySem PySem.W PySem.W.X PyProof.Rows
namespace Mine
noncomputable def okSign (c:Nat):Bool:=c == 107 || c == 223 || c == 64259 || c == 173 || c == 13254 || c == 34
noncomputable def foldL (c:Nat):List Nat:=if c = 223 then [115,115] else if c = 64259 then [102,102,105] else if c = 13254 then [99,8725,107,103] else [c]
section
variable {w:World} {b2:Bool} {h0:Heap} {B:List Frame} {d:Drawn} {os:OsState} {bw:List (Code × Pos)}
theorem b1_ok {c:Nat} (hc:okSign c = true):CallN (view w b2 h0 B bw d os) [2,1,2,1,7] (.call (.ref 60) ⟨[.str (strOf [c]) 0],[]⟩) [] [] (fun v=>⟨none,[],.ok (.ret (.bool (c == 173)))⟩):=by
  intro bw' cd R sz tk gn hk hcd hR pos V' u M G
  obtain ⟨B',rfl,O⟩:=under_view u
  obtain ⟨v,rfl,hv⟩:=norm_call1 hcd
  obtain ⟨t,rfl⟩:=noTok_str hv
  obtain rfl:=norm_none hR
  obtain ⟨c0,p0,r0,rfl,k0,hk⟩:=ks_cons hk
  obtain ⟨c1,p1,r1,rfl,k1,hk⟩:=ks_cons hk
  obtain ⟨c2,p2,r2,rfl,k2,hk⟩:=ks_cons hk
  obtain ⟨c3,p3,r3,rfl,k3,hk⟩:=ks_cons hk
  obtain ⟨c4,p4,r4,rfl,k4,hk⟩:=ks_cons hk
  obtain rfl:=ks_nil hk
  obtain ⟨_,_,_,_,_,rfl⟩:=shp_for k0
  obtain ⟨_,_,rfl⟩:=shp_func k1
  obtain ⟨_,_,_,_,_,rfl⟩:=shp_for k2
  obtain ⟨_,_,rfl⟩:=shp_func k3
  obtain ⟨_,rfl⟩:=shp_caller k4
  rw [← den_eq]
  simp only [okSign,Bool.or_eq_true,beq_iff_eq] at hc
  rcases hc with ((((rfl | rfl) | rfl) | rfl) | rfl) | rfl
  · refine (b1_0 w b2 h0 B' d os pos t _ _ _ _ _ _ _ _ _ _ _ _ _ _ _ _ _ _ _ _ sz tk gn M G O (fun v=>in_ok (by kernel_rfl))).monoE fun v=>?_
    exact ⟨v 0,_,_,rfl⟩
  · refine (b1_1 w b2 h0 B' d os pos t _ _ _ _ _ _ _ _ _ _ _ _ _ _ _ _ _ _ _ _ sz tk gn M G O (fun v=>in_ok (by kernel_rfl))).monoE fun v=>?_
    exact ⟨v 0,_,_,rfl⟩
  · refine (b1_2 w b2 h0 B' d os pos t _ _ _ _ _ _ _ _ _ _ _ _ _ _ _ _ _ _ _ _ sz tk gn M G O (fun v=>in_ok (by kernel_rfl))).monoE fun v=>?_
    exact ⟨v 0,_,_,rfl⟩
  · refine (b1_3 w b2 h0 B' d os pos t _ _ _ _ _ _ _ _ _ _ _ _ _ _ _ _ _ _ _ _ sz tk gn M G O (fun v=>in_ok (by kernel_rfl))).monoE fun v=>?_
    exact ⟨v 0,_,_,rfl⟩
  · refine (b1_4 w b2 h0 B' d os pos t _ _ _ _ _ _ _ _ _ _ _ _ _ _ _ _ _ _ _ _ sz tk gn M G O (fun v=>in_ok (by kernel_rfl))).monoE fun v=>?_
    exact ⟨v 0,_,_,rfl⟩
  · refine (b1_5 w b2 h0 B' d os pos t _ _ _ _ _ _ _ _ _ _ _ _ _ _ _ _ _ _ _ _ sz tk gn M G O (fun v=>in_ok (by kernel_rfl))).monoE fun v=>?_
    exact ⟨v 0,_,_,rfl⟩
theorem b3_ok {c:Nat} (hc:okSign c = true) (h1:c ≠ 173):CallN (view w b2 h0 B bw d os) [2,1,2,1,7] (.call (.ref 106) ⟨[.str (strOf [c]) 0],[]⟩) [] [] (fun v=>⟨none,[],.ok (.ret (.str (strOf (foldL c)) (v 3)))⟩):=by
  intro bw' cd R sz tk gn hk hcd hR pos V' u M G
  obtain ⟨B',rfl,O⟩:=under_view u
  obtain ⟨v,rfl,hv⟩:=norm_call1 hcd
  obtain ⟨t,rfl⟩:=noTok_str hv
  obtain rfl:=norm_none hR
  obtain ⟨c0,p0,r0,rfl,k0,hk⟩:=ks_cons hk
  obtain ⟨c1,p1,r1,rfl,k1,hk⟩:=ks_cons hk
  obtain ⟨c2,p2,r2,rfl,k2,hk⟩:=ks_cons hk
  obtain ⟨c3,p3,r3,rfl,k3,hk⟩:=ks_cons hk
  obtain ⟨c4,p4,r4,rfl,k4,hk⟩:=ks_cons hk
  obtain rfl:=ks_nil hk
  obtain ⟨_,_,_,_,_,rfl⟩:=shp_for k0
  obtain ⟨_,_,rfl⟩:=shp_func k1
  obtain ⟨_,_,_,_,_,rfl⟩:=shp_for k2
  obtain ⟨_,_,rfl⟩:=shp_func k3
  obtain ⟨_,rfl⟩:=shp_caller k4
  rw [← den_eq]
  simp only [okSign,Bool.or_eq_true,beq_iff_eq] at hc
  rcases hc with ((((rfl | rfl) | rfl) | rfl) | rfl) | rfl
  · refine (b3_0 w b2 h0 B' d os pos t _ _ _ _ _ _ _ _ _ _ _ _ _ _ _ _ _ _ _ _ sz tk gn M G O (fun v=>get_ok (get_low (by decide)))).monoE fun v=>?_
    exact ⟨consv ((v 0 0)) (consv (((v 0 1)+2)) (consv ((v 0 2)) fun _=>((v 0 1)+1))),_,_,rfl⟩
  · refine (b3_1 w b2 h0 B' d os pos t _ _ _ _ _ _ _ _ _ _ _ _ _ _ _ _ _ _ _ _ sz tk gn M G O (fun v=>get_ok (get_223))).monoE fun v=>?_
    exact ⟨consv ((v 0 0)) (consv (((v 0 1)+1)) (consv ((v 0 2)) fun _=>307)),_,_,rfl⟩
  · refine (b3_2 w b2 h0 B' d os pos t _ _ _ _ _ _ _ _ _ _ _ _ _ _ _ _ _ _ _ _ sz tk gn M G O (fun v=>get_ok (get_64259))).monoE fun v=>?_
    exact ⟨consv ((v 0 0)) (consv (((v 0 1)+1)) (consv ((v 0 2)) fun _=>883)),_,_,rfl⟩
  · exact absurd rfl h1
  · refine (b3_4 w b2 h0 B' d os pos t _ _ _ _ _ _ _ _ _ _ _ _ _ _ _ _ _ _ _ _ sz tk gn M G O (fun v=>get_ok (get_13254))).monoE fun v=>?_
    exact ⟨consv ((v 0 0)) (consv (((v 0 1)+1)) (consv ((v 0 2)) fun _=>838)),_,_,rfl⟩
  · refine (b3_5 w b2 h0 B' d os pos t _ _ _ _ _ _ _ _ _ _ _ _ _ _ _ _ _ _ _ _ sz tk gn M G O (fun v=>get_ok (get_low (by decide)))).monoE fun v=>?_
    exact ⟨consv ((v 0 0)) (consv (((v 0 1)+2)) (consv ((v 0 2)) fun _=>((v 0 1)+1))),_,_,rfl⟩
end
end Mine
end
section
open PySem PySem.W PySem.W.X PyProof.Rows
namespace Mine
structure LgZ where
  vz:Nat→Nat→Nat
  x:List Nat
  pos0:Pos
  L:Nat
  gO:Nat
  gL:Nat
  gl:Nat
  g:Nat
  t0:Nat
  t1:Nat
  tx:Str
  t2:Nat
  t3:Nat
  t4:Nat
  t5:Nat
  t6:Nat
  t7:Nat
  g0:Int
  t8:Nat
  g1:Int
  qa0:List Stmt
  qb0:Env
  qq0:Pos
  qa1:Expr
  qb1:Value
  qc1:List Stmt
  qd1:List Stmt
  qe1:Env
  qq1:Pos
  qa2:List Stmt
  qb2:Env
  qq2:Pos
  qa3:Args
  qq3:Pos
  sz:Nat
  tk:Nat
  gn:Nat
  M:List (Addr × Obj)
  G:List (Nat × GenState)
noncomputable abbrev lgBW (Z:LgZ):List (Code × Pos):=[(.func Z.qa0 Z.qb0,Z.qq0),(.forLoop Z.qa1 Z.qb1 Z.qc1 Z.qd1 Z.qe1,Z.qq1),(.func Z.qa2 Z.qb2,Z.qq2),(.builtin "claim.caller" Z.qa3,Z.qq3)]
noncomputable def lgFS (w:World) (b2:Bool) (h0:Heap) (B:List Frame) (d:Drawn) (os:OsState) (Z:LgZ):List Frame:=lg_in_fs Z.vz w b2 h0 B d os Z.pos0 (itCls Z.x) Z.L Z.gO Z.gL Z.gl Z.g Z.t0 Z.t1 Z.tx Z.t2 Z.t3 Z.t4 Z.t5 Z.t6 (strOf Z.x) Z.t7 Z.g0 Z.t8 Z.g1 Z.qa0 Z.qb0 Z.qq0 Z.qa1 Z.qb1 Z.qc1 Z.qd1 Z.qe1 Z.qq1 Z.qa2 Z.qb2 Z.qq2 Z.qa3 Z.qq3 Z.sz Z.tk Z.gn Z.M Z.G
structure LS where
  k:Nat
  esc:Bool
  g0:Int
  g1:Int
noncomputable def lgM0 (P:Params) (Z:LgZ) (T:Nat→Nat) (k:Nat) (lvv gpv:Value) (g0 g1:Int):List (Addr × Obj) :=
  ((Z.vz 0 3),⟨(.type "enumerate"),none,.fields ⟨[.none,(.bool false),(.ref (Z.vz 0 4)),(.int (Int.ofNat k) 0),.none,lvv]⟩,⟨[]⟩⟩)::((Z.vz 0 4),⟨(.type (itCls Z.x)),none,.fields ⟨[(.str (strOf Z.x) (T 9)),(.int (Int.ofNat k) 0)]⟩,⟨[]⟩⟩)::(Z.L,nsO [ent P z38 (T 0) (.str Z.tx (T 2)),ent P z39 (T 4) (.ref Z.gl)] 2)::(Z.gO,⟨(.type "generator"),none,.fields ⟨[(.int (Int.ofNat Z.g) 0),(.str z20 (T 7)),(.str z20 (T 8))]⟩,⟨[]⟩⟩)::(Z.gL,nsO [ent P z14 (T 10) (.str (strOf Z.x) (T 9)),ent P z15 (T 11) gpv,ent P z16 (T 12) (.bool false)] 3)::(Z.gl,listO [(.int g0 (T 15)),(.int g1 (T 16))] 0)::Z.M
noncomputable def lgM1 (P:Params) (Z:LgZ) (T:Nat→Nat) (k:Nat) (lvv gpv gcv:Value) (g0 g1:Int):List (Addr × Obj) :=
  ((Z.vz 0 3),⟨(.type "enumerate"),none,.fields ⟨[.none,(.bool false),(.ref (Z.vz 0 4)),(.int (Int.ofNat k) 0),.none,lvv]⟩,⟨[]⟩⟩)::((Z.vz 0 4),⟨(.type (itCls Z.x)),none,.fields ⟨[(.str (strOf Z.x) (T 9)),(.int (Int.ofNat k) 0)]⟩,⟨[]⟩⟩)::(Z.L,nsO [ent P z38 (T 0) (.str Z.tx (T 2)),ent P z39 (T 4) (.ref Z.gl)] 2)::(Z.gO,⟨(.type "generator"),none,.fields ⟨[(.int (Int.ofNat Z.g) 0),(.str z20 (T 7)),(.str z20 (T 8))]⟩,⟨[]⟩⟩)::(Z.gL,nsO [ent P z14 (T 10) (.str (strOf Z.x) (T 9)),ent P z15 (T 11) gpv,ent P z16 (T 12) (.bool true),ent P z18 (T 13) gcv] 4)::(Z.gl,listO [(.int g0 (T 15)),(.int g1 (T 16))] 0)::Z.M
noncomputable def lgM (P:Params) (Z:LgZ) (T:Nat→Nat) (k:Nat) (esc:Bool) (lvv lpv luv gpv gcv:Value) (g0 g1:Int):List (Addr × Obj) :=
  ((Z.vz 0 3),⟨(.type "enumerate"),none,.fields ⟨[.none,(.bool false),(.ref (Z.vz 0 4)),(.int (Int.ofNat k) 0),.none,lvv]⟩,⟨[]⟩⟩)::((Z.vz 0 4),⟨(.type (itCls Z.x)),none,.fields ⟨[(.str (strOf Z.x) (T 9)),(.int (Int.ofNat k) 0)]⟩,⟨[]⟩⟩)::(Z.L,nsO [ent P z38 (T 0) (.str Z.tx (T 2)),ent P z39 (T 4) (.ref Z.gl),ent P z41 (T 5) lpv,ent P z40 (T 6) luv] 4)::(Z.gO,⟨(.type "generator"),none,.fields ⟨[(.int (Int.ofNat Z.g) 0),(.str z20 (T 7)),(.str z20 (T 8))]⟩,⟨[]⟩⟩)::(Z.gL,nsO [ent P z14 (T 10) (.str (strOf Z.x) (T 9)),ent P z15 (T 11) gpv,ent P z16 (T 12) (.bool esc),ent P z18 (T 13) gcv] 4)::(Z.gl,listO [(.int g0 (T 15)),(.int g1 (T 16))] 0)::Z.M
section
variable {w:World} {b2:Bool} {h0:Heap} {B:List Frame} {d:Drawn} {os:OsState} {Z:LgZ}
def LgK (Z:LgZ) (T:Nat→Nat):Prop:=T 0 = Z.t0 ∧ T 2 = Z.t1 ∧ T 4 = Z.t2 ∧ T 9 = Z.t6
inductive Lg0 (w:World) (b2:Bool) (h0:Heap) (B:List Frame) (d:Drawn) (os:OsState) (Z:LgZ):St→Prop
  | it (T:Nat→Nat) (lvv gpv:Value) (p:Pos) (sz tk gn:Nat) (hA:LgK Z T):Lg0 w b2 h0 B d os Z (mk (den (ieC Z.vz Z.gL)) (ieC Z.vz Z.gL) p (lgFS w b2 h0 B d os Z) (lgM0 w.params Z T 0 lvv gpv Z.g0 Z.g1) sz tk ((Z.g,.running)::Z.G) gn)
inductive Lg1 (w:World) (b2:Bool) (h0:Heap) (B:List Frame) (d:Drawn) (os:OsState) (Z:LgZ):St→Prop
  | it (T:Nat→Nat) (lvv gpv gcv:Value) (p:Pos) (sz tk gn:Nat) (hA:LgK Z T):Lg1 w b2 h0 B d os Z (mk (den (ieC Z.vz Z.gL)) (ieC Z.vz Z.gL) p (lgFS w b2 h0 B d os Z) (lgM1 w.params Z T 1 lvv gpv gcv Z.g0 Z.g1) sz tk ((Z.g,.running)::Z.G) gn)
inductive LgAt (w:World) (b2:Bool) (h0:Heap) (B:List Frame) (d:Drawn) (os:OsState) (Z:LgZ) (q:LS):St→Prop
  | it (T:Nat→Nat) (lvv gpv gcv:Value) (a b c:Nat) (p:Pos) (sz tk gn:Nat) (hA:LgK Z T):LgAt w b2 h0 B d os Z q (mk (den (ieC Z.vz Z.gL)) (ieC Z.vz Z.gL) p (lgFS w b2 h0 B d os Z) (lgM w.params Z T q.k q.esc lvv (.int (Int.ofNat a) (T 17)) (.str (strOf (unit b c)) (T 18)) gpv gcv q.g0 q.g1) sz tk ((Z.g,.running)::Z.G) gn)
theorem b1_t (hc:okSign 173 = true) {bw:List (Code × Pos)}:CallN (view w b2 h0 B bw d os) [2,1,2,1,7] (.call (.ref 60) ⟨[.str (strOf [173]) 0],[]⟩) [] [] (fun v=>⟨none,[],.ok (.ret (.bool true))⟩):=b1_ok hc
theorem b1_f {c:Nat} (hc:okSign c = true) (h:c ≠ 173) {bw:List (Code × Pos)}:CallN (view w b2 h0 B bw d os) [2,1,2,1,7] (.call (.ref 60) ⟨[.str (strOf [c]) 0],[]⟩) [] [] (fun v=>⟨none,[],.ok (.ret (.bool false))⟩):=by
  have:=b1_ok (w:=w) (b2:=b2) (h0:=h0) (B:=B) (d:=d) (os:=os) (bw:=bw) hc
  rw [beq_eq_false_iff_ne.mpr h] at this
  exact this
theorem fold_len {c:Nat} (hc:okSign c = true):(strOf (foldL c)).length < 2 ^ 63:=by
  show (foldL c).length < _
  unfold foldL
  (repeat' split) <;> simp
theorem lg_a0T (O:(view w b2 h0 B (lgBW Z) d os).Ok) {y:St} {c:Nat} (hc:Z.x[0]? = some c) (h1:c = 92) (h:Lg0 w b2 h0 B d os Z y):Goes (view w b2 h0 B (lgBW Z) d os) y (Lg1 w b2 h0 B d os Z):=by
  obtain ⟨T,lvv,gpv,p,sz,tk,gn,hK⟩:=h
  refine (lg_a0 (O:=O) (w:=w) (b2:=b2) (h0:=h0) (B:=B) (d:=d) (os:=os) (pos0:=p) (vz:=Z.vz) (pos0z:=Z.pos0) (t0z:=Z.t0) (t1z:=Z.t1) (txz:=Z.tx) (t2z:=Z.t2) (t3z:=Z.t3) (t4z:=Z.t4) (t5z:=Z.t5) (t6z:=Z.t6) (t7z:=Z.t7) (g0z:=Z.g0) (t8z:=Z.t8) (g1z:=Z.g1) (szz:=Z.sz) (tkz:=Z.tk) (gnz:=Z.gn) (Mz:=Z.M) (Gz:=Z.G) (sc:=(itCls Z.x)) (k:=0) (L:=Z.L) (gO:=Z.gO) (gL:=Z.gL) (gl:=Z.gl) (g:=Z.g) (gpv:=gpv) (lvv:=lvv) (t0:=(T 9)) (s:=(strOf Z.x)) (t1:=(T 0)) (t2:=(T 2)) (tx:=Z.tx) (t3:=(T 4)) (t4:=(T 7)) (t5:=(T 8)) (t6:=(T 10)) (t7:=(T 11)) (t8:=0) (t9:=(T 12)) (t10:=(T 15)) (g0:=Z.g0) (t11:=(T 16)) (g1:=Z.g1) (c:=(strOf [c])) (qa0:=Z.qa0) (qb0:=Z.qb0) (qq0:=Z.qq0) (qa1:=Z.qa1) (qb1:=Z.qb1) (qc1:=Z.qc1) (qd1:=Z.qd1) (qe1:=Z.qe1) (qq1:=Z.qq1) (qa2:=Z.qa2) (qb2:=Z.qb2) (qq2:=Z.qq2) (qa3:=Z.qa3) (qq3:=Z.qq3) (sz:=sz) (tk:=tk) (gn:=gn) (M:=Z.M) (G:=Z.G) (e0:=fun v=>enext_ok hc) (e1:=fun _=>eq_sign h1)).monoE fun v=>?_
  exact ⟨(fun i=>match i with | 0=>(T 0) | 2=>(T 2) | 4=>(T 4) | 7=>(T 7) | 8=>(T 8) | 9=>(T 9) | 10=>(T 10) | 11=>(T 11) | 12=>(T 12) | 13=>((v 0 1)+1) | 15=>(T 15) | 16=>(T 16) | _=>0),(.str (strOf [c]) (v 0 4)),(.int (Int.ofNat 0) (v 0 5)),(.str (strOf [c]) (v 0 4)),_,_,_,_,hK⟩
theorem lg_c0tT (O:(view w b2 h0 B (lgBW Z) d os).Ok) {y:St} {c:Nat} (hc:Z.x[0]? = some c) (h1:c ≠ 92) (h2:c = 173) (h:Lg0 w b2 h0 B d os Z y):Goes (view w b2 h0 B (lgBW Z) d os) y (LgAt w b2 h0 B d os Z ⟨1,false,Z.g0,Z.g1⟩):=by
  obtain ⟨T,lvv,gpv,p,sz,tk,gn,hK⟩:=h
  subst h2
  have hs:okSign 173 = true:=rfl
  refine (lg_c0t (O:=O) (w:=w) (b2:=b2) (h0:=h0) (B:=B) (d:=d) (os:=os) (pos0:=p) (vz:=Z.vz) (pos0z:=Z.pos0) (t0z:=Z.t0) (t1z:=Z.t1) (txz:=Z.tx) (t2z:=Z.t2) (t3z:=Z.t3) (t4z:=Z.t4) (t5z:=Z.t5) (t6z:=Z.t6) (t7z:=Z.t7) (g0z:=Z.g0) (t8z:=Z.t8) (g1z:=Z.g1) (szz:=Z.sz) (tkz:=Z.tk) (gnz:=Z.gn) (Mz:=Z.M) (Gz:=Z.G) (sc:=(itCls Z.x)) (k:=0) (L:=Z.L) (gO:=Z.gO) (gL:=Z.gL) (gl:=Z.gl) (g:=Z.g) (gpv:=gpv) (lvv:=lvv) (t0:=(T 9)) (s:=(strOf Z.x)) (t1:=(T 0)) (t2:=(T 2)) (tx:=Z.tx) (t3:=(T 4)) (t4:=(T 7)) (t5:=(T 8)) (t6:=(T 10)) (t7:=(T 11)) (t8:=0) (t9:=(T 12)) (t10:=(T 15)) (g0:=Z.g0) (t11:=(T 16)) (g1:=Z.g1) (c:=(strOf [173])) (qa0:=Z.qa0) (qb0:=Z.qb0) (qq0:=Z.qq0) (qa1:=Z.qa1) (qb1:=Z.qb1) (qc1:=Z.qc1) (qd1:=Z.qd1) (qe1:=Z.qe1) (qq1:=Z.qq1) (qa2:=Z.qa2) (qb2:=Z.qb2) (qq2:=Z.qq2) (qa3:=Z.qa3) (qq3:=Z.qq3) (sz:=sz) (tk:=tk) (gn:=gn) (M:=Z.M) (G:=Z.G) (e0:=fun v=>enext_ok hc) (e1:=fun _=>ne_sign h1) (e2:=fun _=>ev_last1 _) (e3:=fun v=>b1_t hs)).monoE fun v=>?_
  exact ⟨(fun i=>match i with | 0=>(T 0) | 2=>(T 2) | 4=>(T 4) | 5=>((v 0 1)+3) | 6=>((v 0 1)+4) | 7=>(T 7) | 8=>(T 8) | 9=>(T 9) | 10=>(T 10) | 11=>(T 11) | 12=>(T 12) | 13=>((v 0 1)+1) | 15=>(T 15) | 16=>(T 16) | 17=>(v 0 5) | 18=>(v 0 4) | _=>0),(.str (strOf [173]) (v 0 4)),(.int (Int.ofNat 0) (v 0 5)),(.str (strOf [173]) (v 0 4)),0,0,173,_,_,_,_,hK⟩
theorem lg_c0fT (O:(view w b2 h0 B (lgBW Z) d os).Ok) {y:St} {c:Nat} (hc:Z.x[0]? = some c) (hs:okSign c = true) (h1:c ≠ 92) (h2:c ≠ 173) (h:Lg0 w b2 h0 B d os Z y):Goes (view w b2 h0 B (lgBW Z) d os) y (LgAt w b2 h0 B d os Z ⟨1,false,Z.g0+sLen (strOf (foldL c)),Z.g1⟩):=by
  obtain ⟨T,lvv,gpv,p,sz,tk,gn,hK⟩:=h
  refine (lg_c0f (O:=O) (w:=w) (b2:=b2) (h0:=h0) (B:=B) (d:=d) (os:=os) (pos0:=p) (vz:=Z.vz) (pos0z:=Z.pos0) (t0z:=Z.t0) (t1z:=Z.t1) (txz:=Z.tx) (t2z:=Z.t2) (t3z:=Z.t3) (t4z:=Z.t4) (t5z:=Z.t5) (t6z:=Z.t6) (t7z:=Z.t7) (g0z:=Z.g0) (t8z:=Z.t8) (g1z:=Z.g1) (szz:=Z.sz) (tkz:=Z.tk) (gnz:=Z.gn) (Mz:=Z.M) (Gz:=Z.G) (sc:=(itCls Z.x)) (k:=0) (L:=Z.L) (gO:=Z.gO) (gL:=Z.gL) (gl:=Z.gl) (g:=Z.g) (gpv:=gpv) (lvv:=lvv) (t0:=(T 9)) (s:=(strOf Z.x)) (t1:=(T 0)) (t2:=(T 2)) (tx:=Z.tx) (t3:=(T 4)) (t4:=(T 7)) (t5:=(T 8)) (t6:=(T 10)) (t7:=(T 11)) (t8:=0) (t9:=(T 12)) (t10:=(T 15)) (g0:=Z.g0) (t11:=(T 16)) (g1:=Z.g1) (c:=(strOf [c])) (fold:=(strOf (foldL c))) (qa0:=Z.qa0) (qb0:=Z.qb0) (qq0:=Z.qq0) (qa1:=Z.qa1) (qb1:=Z.qb1) (qc1:=Z.qc1) (qd1:=Z.qd1) (qe1:=Z.qe1) (qq1:=Z.qq1) (qa2:=Z.qa2) (qb2:=Z.qb2) (qq2:=Z.qq2) (qa3:=Z.qa3) (qq3:=Z.qq3) (sz:=sz) (tk:=tk) (gn:=gn) (M:=Z.M) (G:=Z.G) (e0:=fun v=>enext_ok hc) (e1:=fun _=>ne_sign h1) (e2:=fun _=>ev_last1 _) (e3:=fun v=>b1_f hs h2) (e4:=fun _=>ev_len1 _) (e5:=fun _=>ev_last1 _) (e6:=fun v=>b3_ok hs h2) (e7:=fun v=>len_ok (fold_len hs))).monoE fun v=>?_
  exact ⟨(fun i=>match i with | 0=>(T 0) | 2=>(T 2) | 4=>(T 4) | 5=>((v 0 1)+3) | 6=>((v 0 1)+4) | 7=>(T 7) | 8=>(T 8) | 9=>(T 9) | 10=>(T 10) | 11=>(T 11) | 12=>(T 12) | 13=>((v 0 1)+1) | 15=>(v 4 1) | 16=>(T 16) | 17=>(v 0 5) | 18=>(v 0 4) | _=>0),(.str (strOf [c]) (v 0 4)),(.int (Int.ofNat 0) (v 0 5)),(.str (strOf [c]) (v 0 4)),0,0,c,_,_,_,_,hK⟩
theorem lg_b1tT (O:(view w b2 h0 B (lgBW Z) d os).Ok) {y:St} {c:Nat} (hc:Z.x[1]? = some c) (h2:c = 173) (h:Lg1 w b2 h0 B d os Z y):Goes (view w b2 h0 B (lgBW Z) d os) y (LgAt w b2 h0 B d os Z ⟨2,false,Z.g0,Z.g1⟩):=by
  obtain ⟨T,lvv,gpv,gcv,p,sz,tk,gn,hK⟩:=h
  subst h2
  have hs:okSign 173 = true:=rfl
  refine (lg_b1t (O:=O) (w:=w) (b2:=b2) (h0:=h0) (B:=B) (d:=d) (os:=os) (pos0:=p) (vz:=Z.vz) (pos0z:=Z.pos0) (t0z:=Z.t0) (t1z:=Z.t1) (txz:=Z.tx) (t2z:=Z.t2) (t3z:=Z.t3) (t4z:=Z.t4) (t5z:=Z.t5) (t6z:=Z.t6) (t7z:=Z.t7) (g0z:=Z.g0) (t8z:=Z.t8) (g1z:=Z.g1) (szz:=Z.sz) (tkz:=Z.tk) (gnz:=Z.gn) (Mz:=Z.M) (Gz:=Z.G) (sc:=(itCls Z.x)) (k:=1) (L:=Z.L) (gO:=Z.gO) (gL:=Z.gL) (gl:=Z.gl) (g:=Z.g) (gpv:=gpv) (gcv:=gcv) (lvv:=lvv) (t0:=0) (t1:=(T 9)) (s:=(strOf Z.x)) (t2:=(T 0)) (t3:=(T 2)) (tx:=Z.tx) (t4:=(T 4)) (t5:=(T 7)) (t6:=(T 8)) (t7:=(T 10)) (t8:=(T 11)) (t9:=0) (t10:=(T 12)) (t11:=(T 13)) (t12:=(T 15)) (g0:=Z.g0) (t13:=(T 16)) (g1:=Z.g1) (c:=(strOf [173])) (qa0:=Z.qa0) (qb0:=Z.qb0) (qq0:=Z.qq0) (qa1:=Z.qa1) (qb1:=Z.qb1) (qc1:=Z.qc1) (qd1:=Z.qd1) (qe1:=Z.qe1) (qq1:=Z.qq1) (qa2:=Z.qa2) (qb2:=Z.qb2) (qq2:=Z.qq2) (qa3:=Z.qa3) (qq3:=Z.qq3) (sz:=sz) (tk:=tk) (gn:=gn) (M:=Z.M) (G:=Z.G) (e0:=fun v=>enext_ok hc) (e1:=fun _=>ev_add1 _ _) (e2:=fun _=>ev_last2 _ _) (e3:=fun v=>b1_t hs)).monoE fun v=>?_
  exact ⟨(fun i=>match i with | 0=>(T 0) | 2=>(T 2) | 4=>(T 4) | 5=>((v 0 1)+4) | 6=>((v 0 1)+5) | 7=>(T 7) | 8=>(T 8) | 9=>(T 9) | 10=>(T 10) | 11=>(T 11) | 12=>(T 12) | 13=>(T 13) | 15=>(T 15) | 16=>(T 16) | 17=>(v 0 5) | 18=>((v 0 1)+3) | _=>0),(.str (strOf [173]) (v 0 4)),(.int (Int.ofNat 1) (v 0 5)),(.str (strOf [173]) (v 0 4)),1,1,173,_,_,_,_,hK⟩
theorem lg_b1fT (O:(view w b2 h0 B (lgBW Z) d os).Ok) {y:St} {c:Nat} (hc:Z.x[1]? = some c) (hs:okSign c = true) (h2:c ≠ 173) (h:Lg1 w b2 h0 B d os Z y):Goes (view w b2 h0 B (lgBW Z) d os) y (LgAt w b2 h0 B d os Z ⟨2,false,Z.g0,Z.g1+sLen (strOf (foldL c))⟩):=by
  obtain ⟨T,lvv,gpv,gcv,p,sz,tk,gn,hK⟩:=h
  refine (lg_b1f (O:=O) (w:=w) (b2:=b2) (h0:=h0) (B:=B) (d:=d) (os:=os) (pos0:=p) (vz:=Z.vz) (pos0z:=Z.pos0) (t0z:=Z.t0) (t1z:=Z.t1) (txz:=Z.tx) (t2z:=Z.t2) (t3z:=Z.t3) (t4z:=Z.t4) (t5z:=Z.t5) (t6z:=Z.t6) (t7z:=Z.t7) (g0z:=Z.g0) (t8z:=Z.t8) (g1z:=Z.g1) (szz:=Z.sz) (tkz:=Z.tk) (gnz:=Z.gn) (Mz:=Z.M) (Gz:=Z.G) (sc:=(itCls Z.x)) (k:=1) (L:=Z.L) (gO:=Z.gO) (gL:=Z.gL) (gl:=Z.gl) (g:=Z.g) (gpv:=gpv) (gcv:=gcv) (lvv:=lvv) (t0:=0) (t1:=(T 9)) (s:=(strOf Z.x)) (t2:=(T 0)) (t3:=(T 2)) (tx:=Z.tx) (t4:=(T 4)) (t5:=(T 7)) (t6:=(T 8)) (t7:=(T 10)) (t8:=(T 11)) (t9:=0) (t10:=(T 12)) (t11:=(T 13)) (t12:=(T 15)) (g0:=Z.g0) (t13:=(T 16)) (g1:=Z.g1) (c:=(strOf [c])) (fold:=(strOf (foldL c))) (qa0:=Z.qa0) (qb0:=Z.qb0) (qq0:=Z.qq0) (qa1:=Z.qa1) (qb1:=Z.qb1) (qc1:=Z.qc1) (qd1:=Z.qd1) (qe1:=Z.qe1) (qq1:=Z.qq1) (qa2:=Z.qa2) (qb2:=Z.qb2) (qq2:=Z.qq2) (qa3:=Z.qa3) (qq3:=Z.qq3) (sz:=sz) (tk:=tk) (gn:=gn) (M:=Z.M) (G:=Z.G) (e0:=fun v=>enext_ok hc) (e1:=fun _=>ev_add1 _ _) (e2:=fun _=>ev_last2 _ _) (e3:=fun v=>b1_f hs h2) (e4:=fun _=>ev_len2 _ _) (e5:=fun _=>ev_last2 _ _) (e6:=fun v=>b3_ok hs h2) (e7:=fun v=>len_ok (fold_len hs))).monoE fun v=>?_
  exact ⟨(fun i=>match i with | 0=>(T 0) | 2=>(T 2) | 4=>(T 4) | 5=>((v 0 1)+4) | 6=>((v 0 1)+5) | 7=>(T 7) | 8=>(T 8) | 9=>(T 9) | 10=>(T 10) | 11=>(T 11) | 12=>(T 12) | 13=>(T 13) | 15=>(T 15) | 16=>(v 4 1) | 17=>(v 0 5) | 18=>((v 0 1)+3) | _=>0),(.str (strOf [c]) (v 0 4)),(.int (Int.ofNat 1) (v 0 5)),(.str (strOf [c]) (v 0 4)),1,1,c,_,_,_,_,hK⟩
theorem lg_aT (O:(view w b2 h0 B (lgBW Z) d os).Ok) {k:Nat} {g0 g1:Int} {y:St} {c:Nat} (hc:Z.x[k]? = some c) (h1:c = 92) (h:LgAt w b2 h0 B d os Z ⟨k,false,g0,g1⟩ y):Goes (view w b2 h0 B (lgBW Z) d os) y (LgAt w b2 h0 B d os Z ⟨k+1,true,g0,g1⟩):=by
  obtain ⟨T,lvv,gpv,gcv,a,b,c',p,sz,tk,gn,hK⟩:=h
  refine (lg_a (O:=O) (w:=w) (b2:=b2) (h0:=h0) (B:=B) (d:=d) (os:=os) (pos0:=p) (vz:=Z.vz) (pos0z:=Z.pos0) (t0z:=Z.t0) (t1z:=Z.t1) (txz:=Z.tx) (t2z:=Z.t2) (t3z:=Z.t3) (t4z:=Z.t4) (t5z:=Z.t5) (t6z:=Z.t6) (t7z:=Z.t7) (g0z:=Z.g0) (t8z:=Z.t8) (g1z:=Z.g1) (szz:=Z.sz) (tkz:=Z.tk) (gnz:=Z.gn) (Mz:=Z.M) (Gz:=Z.G) (sc:=(itCls Z.x)) (k:=k) (L:=Z.L) (gO:=Z.gO) (gL:=Z.gL) (gl:=Z.gl) (g:=Z.g) (luv:=(.str (strOf (unit b c')) (T 18))) (lpv:=(.int (Int.ofNat a) (T 17))) (gpv:=gpv) (gcv:=gcv) (lvv:=lvv) (t0:=0) (t1:=(T 9)) (s:=(strOf Z.x)) (t2:=(T 0)) (t3:=(T 2)) (tx:=Z.tx) (t4:=(T 4)) (t5:=(T 5)) (t6:=0) (t7:=(T 6)) (t8:=0) (t9:=(T 7)) (t10:=(T 8)) (t11:=(T 10)) (t12:=(T 11)) (t13:=(T 12)) (t14:=(T 13)) (t15:=(T 15)) (g0:=g0) (t16:=(T 16)) (g1:=g1) (c:=(strOf [c])) (qa0:=Z.qa0) (qb0:=Z.qb0) (qq0:=Z.qq0) (qa1:=Z.qa1) (qb1:=Z.qb1) (qc1:=Z.qc1) (qd1:=Z.qd1) (qe1:=Z.qe1) (qq1:=Z.qq1) (qa2:=Z.qa2) (qb2:=Z.qb2) (qq2:=Z.qq2) (qa3:=Z.qa3) (qq3:=Z.qq3) (sz:=sz) (tk:=tk) (gn:=gn) (M:=Z.M) (G:=Z.G) (e0:=fun v=>enext_ok hc) (e1:=fun _=>eq_sign h1)).monoE fun v=>?_
  exact ⟨(fun i=>match i with | 0=>(T 0) | 2=>(T 2) | 4=>(T 4) | 5=>(T 5) | 6=>(T 6) | 7=>(T 7) | 8=>(T 8) | 9=>(T 9) | 10=>(T 10) | 11=>(T 11) | 12=>(T 12) | 13=>(T 13) | 15=>(T 15) | 16=>(T 16) | 17=>(T 17) | 18=>(T 18) | _=>0),(.str (strOf [c]) (v 0 4)),(.int (Int.ofNat k) (v 0 5)),(.str (strOf [c]) (v 0 4)),a,b,c',_,_,_,_,hK⟩
theorem lg_ctT (O:(view w b2 h0 B (lgBW Z) d os).Ok) {k:Nat} {g0 g1:Int} {y:St} {c:Nat} (hc:Z.x[k]? = some c) (h1:c ≠ 92) (h2:c = 173) (h:LgAt w b2 h0 B d os Z ⟨k,false,g0,g1⟩ y):Goes (view w b2 h0 B (lgBW Z) d os) y (LgAt w b2 h0 B d os Z ⟨k+1,false,g0,g1⟩):=by
  obtain ⟨T,lvv,gpv,gcv,a,b,c',p,sz,tk,gn,hK⟩:=h
  subst h2
  have hs:okSign 173 = true:=rfl
  refine (lg_ct (O:=O) (w:=w) (b2:=b2) (h0:=h0) (B:=B) (d:=d) (os:=os) (pos0:=p) (vz:=Z.vz) (pos0z:=Z.pos0) (t0z:=Z.t0) (t1z:=Z.t1) (txz:=Z.tx) (t2z:=Z.t2) (t3z:=Z.t3) (t4z:=Z.t4) (t5z:=Z.t5) (t6z:=Z.t6) (t7z:=Z.t7) (g0z:=Z.g0) (t8z:=Z.t8) (g1z:=Z.g1) (szz:=Z.sz) (tkz:=Z.tk) (gnz:=Z.gn) (Mz:=Z.M) (Gz:=Z.G) (sc:=(itCls Z.x)) (k:=k) (L:=Z.L) (gO:=Z.gO) (gL:=Z.gL) (gl:=Z.gl) (g:=Z.g) (luv:=(.str (strOf (unit b c')) (T 18))) (lpv:=(.int (Int.ofNat a) (T 17))) (gpv:=gpv) (gcv:=gcv) (lvv:=lvv) (t0:=0) (t1:=(T 9)) (s:=(strOf Z.x)) (t2:=(T 0)) (t3:=(T 2)) (tx:=Z.tx) (t4:=(T 4)) (t5:=(T 5)) (t6:=0) (t7:=(T 6)) (t8:=(T 7)) (t9:=(T 8)) (t10:=(T 10)) (t11:=(T 11)) (t12:=(T 12)) (t13:=(T 13)) (t14:=(T 15)) (g0:=g0) (t15:=(T 16)) (g1:=g1) (c:=(strOf [173])) (qa0:=Z.qa0) (qb0:=Z.qb0) (qq0:=Z.qq0) (qa1:=Z.qa1) (qb1:=Z.qb1) (qc1:=Z.qc1) (qd1:=Z.qd1) (qe1:=Z.qe1) (qq1:=Z.qq1) (qa2:=Z.qa2) (qb2:=Z.qb2) (qq2:=Z.qq2) (qa3:=Z.qa3) (qq3:=Z.qq3) (sz:=sz) (tk:=tk) (gn:=gn) (M:=Z.M) (G:=Z.G) (e0:=fun v=>enext_ok hc) (e1:=fun _=>ne_sign h1) (e2:=fun _=>ev_last1 _) (e3:=fun v=>b1_t hs)).monoE fun v=>?_
  exact ⟨(fun i=>match i with | 0=>(T 0) | 2=>(T 2) | 4=>(T 4) | 5=>(T 5) | 6=>(T 6) | 7=>(T 7) | 8=>(T 8) | 9=>(T 9) | 10=>(T 10) | 11=>(T 11) | 12=>(T 12) | 13=>(T 13) | 15=>(T 15) | 16=>(T 16) | 17=>(v 0 5) | 18=>(v 0 4) | _=>0),(.str (strOf [173]) (v 0 4)),(.int (Int.ofNat k) (v 0 5)),(.str (strOf [173]) (v 0 4)),k,0,173,_,_,_,_,hK⟩
theorem lg_cfT (O:(view w b2 h0 B (lgBW Z) d os).Ok) {k:Nat} {g0 g1:Int} {y:St} {c:Nat} (hc:Z.x[k]? = some c) (hs:okSign c = true) (h1:c ≠ 92) (h2:c ≠ 173) (h:LgAt w b2 h0 B d os Z ⟨k,false,g0,g1⟩ y):Goes (view w b2 h0 B (lgBW Z) d os) y (LgAt w b2 h0 B d os Z ⟨k+1,false,g0+sLen (strOf (foldL c)),g1⟩):=by
  obtain ⟨T,lvv,gpv,gcv,a,b,c',p,sz,tk,gn,hK⟩:=h
  refine (lg_cf (O:=O) (w:=w) (b2:=b2) (h0:=h0) (B:=B) (d:=d) (os:=os) (pos0:=p) (vz:=Z.vz) (pos0z:=Z.pos0) (t0z:=Z.t0) (t1z:=Z.t1) (txz:=Z.tx) (t2z:=Z.t2) (t3z:=Z.t3) (t4z:=Z.t4) (t5z:=Z.t5) (t6z:=Z.t6) (t7z:=Z.t7) (g0z:=Z.g0) (t8z:=Z.t8) (g1z:=Z.g1) (szz:=Z.sz) (tkz:=Z.tk) (gnz:=Z.gn) (Mz:=Z.M) (Gz:=Z.G) (sc:=(itCls Z.x)) (k:=k) (L:=Z.L) (gO:=Z.gO) (gL:=Z.gL) (gl:=Z.gl) (g:=Z.g) (luv:=(.str (strOf (unit b c')) (T 18))) (lpv:=(.int (Int.ofNat a) (T 17))) (gpv:=gpv) (gcv:=gcv) (lvv:=lvv) (t0:=0) (t1:=(T 9)) (s:=(strOf Z.x)) (t2:=(T 0)) (t3:=(T 2)) (tx:=Z.tx) (t4:=(T 4)) (t5:=(T 5)) (t6:=0) (t7:=(T 6)) (t8:=0) (t9:=(T 7)) (t10:=(T 8)) (t11:=(T 10)) (t12:=(T 11)) (t13:=(T 12)) (t14:=(T 13)) (t15:=(T 15)) (g0:=g0) (t16:=(T 16)) (g1:=g1) (c:=(strOf [c])) (fold:=(strOf (foldL c))) (qa0:=Z.qa0) (qb0:=Z.qb0) (qq0:=Z.qq0) (qa1:=Z.qa1) (qb1:=Z.qb1) (qc1:=Z.qc1) (qd1:=Z.qd1) (qe1:=Z.qe1) (qq1:=Z.qq1) (qa2:=Z.qa2) (qb2:=Z.qb2) (qq2:=Z.qq2) (qa3:=Z.qa3) (qq3:=Z.qq3) (sz:=sz) (tk:=tk) (gn:=gn) (M:=Z.M) (G:=Z.G) (e0:=fun v=>enext_ok hc) (e1:=fun _=>ne_sign h1) (e2:=fun _=>ev_last1 _) (e3:=fun v=>b1_f hs h2) (e4:=fun _=>ev_len1 _) (e5:=fun _=>ev_last1 _) (e6:=fun v=>b3_ok hs h2) (e7:=fun v=>len_ok (fold_len hs))).monoE fun v=>?_
  exact ⟨(fun i=>match i with | 0=>(T 0) | 2=>(T 2) | 4=>(T 4) | 5=>(T 5) | 6=>(T 6) | 7=>(T 7) | 8=>(T 8) | 9=>(T 9) | 10=>(T 10) | 11=>(T 11) | 12=>(T 12) | 13=>(T 13) | 15=>(v 4 1) | 16=>(T 16) | 17=>(v 0 5) | 18=>(v 0 4) | _=>0),(.str (strOf [c]) (v 0 4)),(.int (Int.ofNat k) (v 0 5)),(.str (strOf [c]) (v 0 4)),k,0,c,_,_,_,_,hK⟩
theorem lg_btT (O:(view w b2 h0 B (lgBW Z) d os).Ok) {k:Nat} {g0 g1:Int} {y:St} {c:Nat} (hc:Z.x[k]? = some c) (h2:c = 173) (h:LgAt w b2 h0 B d os Z ⟨k,true,g0,g1⟩ y):Goes (view w b2 h0 B (lgBW Z) d os) y (LgAt w b2 h0 B d os Z ⟨k+1,false,g0,g1⟩):=by
  obtain ⟨T,lvv,gpv,gcv,a,b,c',p,sz,tk,gn,hK⟩:=h
  subst h2
  have hs:okSign 173 = true:=rfl
  refine (lg_bt (O:=O) (w:=w) (b2:=b2) (h0:=h0) (B:=B) (d:=d) (os:=os) (pos0:=p) (vz:=Z.vz) (pos0z:=Z.pos0) (t0z:=Z.t0) (t1z:=Z.t1) (txz:=Z.tx) (t2z:=Z.t2) (t3z:=Z.t3) (t4z:=Z.t4) (t5z:=Z.t5) (t6z:=Z.t6) (t7z:=Z.t7) (g0z:=Z.g0) (t8z:=Z.t8) (g1z:=Z.g1) (szz:=Z.sz) (tkz:=Z.tk) (gnz:=Z.gn) (Mz:=Z.M) (Gz:=Z.G) (sc:=(itCls Z.x)) (k:=k) (L:=Z.L) (gO:=Z.gO) (gL:=Z.gL) (gl:=Z.gl) (g:=Z.g) (luv:=(.str (strOf (unit b c')) (T 18))) (lpv:=(.int (Int.ofNat a) (T 17))) (gpv:=gpv) (gcv:=gcv) (lvv:=lvv) (t0:=0) (t1:=(T 9)) (s:=(strOf Z.x)) (t2:=(T 0)) (t3:=(T 2)) (tx:=Z.tx) (t4:=(T 4)) (t5:=(T 5)) (t6:=0) (t7:=(T 6)) (t8:=0) (t9:=(T 7)) (t10:=(T 8)) (t11:=(T 10)) (t12:=(T 11)) (t13:=0) (t14:=(T 12)) (t15:=(T 13)) (t16:=(T 15)) (g0:=g0) (t17:=(T 16)) (g1:=g1) (c:=(strOf [173])) (qa0:=Z.qa0) (qb0:=Z.qb0) (qq0:=Z.qq0) (qa1:=Z.qa1) (qb1:=Z.qb1) (qc1:=Z.qc1) (qd1:=Z.qd1) (qe1:=Z.qe1) (qq1:=Z.qq1) (qa2:=Z.qa2) (qb2:=Z.qb2) (qq2:=Z.qq2) (qa3:=Z.qa3) (qq3:=Z.qq3) (sz:=sz) (tk:=tk) (gn:=gn) (M:=Z.M) (G:=Z.G) (e0:=fun v=>enext_ok hc) (e1:=fun _=>ev_add1 _ _) (e2:=fun _=>ev_last2 _ _) (e3:=fun v=>b1_t hs)).monoE fun v=>?_
  exact ⟨(fun i=>match i with | 0=>(T 0) | 2=>(T 2) | 4=>(T 4) | 5=>(T 5) | 6=>(T 6) | 7=>(T 7) | 8=>(T 8) | 9=>(T 9) | 10=>(T 10) | 11=>(T 11) | 12=>(T 12) | 13=>(T 13) | 15=>(T 15) | 16=>(T 16) | 17=>(v 0 5) | 18=>((v 0 1)+3) | _=>0),(.str (strOf [173]) (v 0 4)),(.int (Int.ofNat k) (v 0 5)),(.str (strOf [173]) (v 0 4)),k,1,173,_,_,_,_,hK⟩
theorem lg_bfT (O:(view w b2 h0 B (lgBW Z) d os).Ok) {k:Nat} {g0 g1:Int} {y:St} {c:Nat} (hc:Z.x[k]? = some c) (hs:okSign c = true) (h2:c ≠ 173) (h:LgAt w b2 h0 B d os Z ⟨k,true,g0,g1⟩ y):Goes (view w b2 h0 B (lgBW Z) d os) y (LgAt w b2 h0 B d os Z ⟨k+1,false,g0,g1+sLen (strOf (foldL c))⟩):=by
  obtain ⟨T,lvv,gpv,gcv,a,b,c',p,sz,tk,gn,hK⟩:=h
  refine (lg_bf (O:=O) (w:=w) (b2:=b2) (h0:=h0) (B:=B) (d:=d) (os:=os) (pos0:=p) (vz:=Z.vz) (pos0z:=Z.pos0) (t0z:=Z.t0) (t1z:=Z.t1) (txz:=Z.tx) (t2z:=Z.t2) (t3z:=Z.t3) (t4z:=Z.t4) (t5z:=Z.t5) (t6z:=Z.t6) (t7z:=Z.t7) (g0z:=Z.g0) (t8z:=Z.t8) (g1z:=Z.g1) (szz:=Z.sz) (tkz:=Z.tk) (gnz:=Z.gn) (Mz:=Z.M) (Gz:=Z.G) (sc:=(itCls Z.x)) (k:=k) (L:=Z.L) (gO:=Z.gO) (gL:=Z.gL) (gl:=Z.gl) (g:=Z.g) (luv:=(.str (strOf (unit b c')) (T 18))) (lpv:=(.int (Int.ofNat a) (T 17))) (gpv:=gpv) (gcv:=gcv) (lvv:=lvv) (t0:=0) (t1:=(T 9)) (s:=(strOf Z.x)) (t2:=(T 0)) (t3:=(T 2)) (tx:=Z.tx) (t4:=(T 4)) (t5:=(T 5)) (t6:=0) (t7:=(T 6)) (t8:=0) (t9:=(T 7)) (t10:=(T 8)) (t11:=(T 10)) (t12:=(T 11)) (t13:=0) (t14:=(T 12)) (t15:=(T 13)) (t16:=(T 15)) (g0:=g0) (t17:=(T 16)) (g1:=g1) (c:=(strOf [c])) (fold:=(strOf (foldL c))) (qa0:=Z.qa0) (qb0:=Z.qb0) (qq0:=Z.qq0) (qa1:=Z.qa1) (qb1:=Z.qb1) (qc1:=Z.qc1) (qd1:=Z.qd1) (qe1:=Z.qe1) (qq1:=Z.qq1) (qa2:=Z.qa2) (qb2:=Z.qb2) (qq2:=Z.qq2) (qa3:=Z.qa3) (qq3:=Z.qq3) (sz:=sz) (tk:=tk) (gn:=gn) (M:=Z.M) (G:=Z.G) (e0:=fun v=>enext_ok hc) (e1:=fun _=>ev_add1 _ _) (e2:=fun _=>ev_last2 _ _) (e3:=fun v=>b1_f hs h2) (e4:=fun _=>ev_len2 _ _) (e5:=fun _=>ev_last2 _ _) (e6:=fun v=>b3_ok hs h2) (e7:=fun v=>len_ok (fold_len hs))).monoE fun v=>?_
  exact ⟨(fun i=>match i with | 0=>(T 0) | 2=>(T 2) | 4=>(T 4) | 5=>(T 5) | 6=>(T 6) | 7=>(T 7) | 8=>(T 8) | 9=>(T 9) | 10=>(T 10) | 11=>(T 11) | 12=>(T 12) | 13=>(T 13) | 15=>(T 15) | 16=>(v 4 1) | 17=>(v 0 5) | 18=>((v 0 1)+3) | _=>0),(.str (strOf [c]) (v 0 4)),(.int (Int.ofNat k) (v 0 5)),(.str (strOf [c]) (v 0 4)),k,1,c,_,_,_,_,hK⟩
theorem lg_inT (O:(view w b2 h0 B (lgBW Z) d os).Ok):Goes (view w b2 h0 B (lgBW Z) d os) (mk (den (.forLoop fLg_t70 (.ref Z.gO) fLg_b70 [] (envF fLgs fLgq 113 [] Z.L))) (.forLoop fLg_t70 (.ref Z.gO) fLg_b70 [] (envF fLgs fLgq 113 [] Z.L)) Z.pos0 [] ((Z.L,nsO [ent w.params z38 Z.t0 (.str Z.tx Z.t1),ent w.params z39 Z.t2 (.ref Z.gl)] 2)::(Z.gO,⟨(.type "generator"),none,.fields ⟨[(.int (Int.ofNat Z.g) 0),(.str z20 Z.t3),(.str z20 Z.t4)]⟩,⟨[]⟩⟩)::(Z.gL,nsO [ent w.params z14 Z.t5 (.str (strOf Z.x) Z.t6)] 1)::(Z.gl,listO [(.int Z.g0 Z.t7),(.int Z.g1 Z.t8)] 0)::Z.M) Z.sz Z.tk ((Z.g,(.fresh (.func fIe_ (envF fIes fIeq 35 [] Z.gL))))::Z.G) Z.gn) (fun y=>∃ vz,Lg0 w b2 h0 B d os { Z with vz:=vz } y):=by
  refine (lg_in (O:=O) (w:=w) (b2:=b2) (h0:=h0) (B:=B) (d:=d) (os:=os) (pos0:=Z.pos0) (sc:=(itCls Z.x)) (L:=Z.L) (gO:=Z.gO) (gL:=Z.gL) (gl:=Z.gl) (g:=Z.g) (t0:=Z.t0) (t1:=Z.t1) (tx:=Z.tx) (t2:=Z.t2) (t3:=Z.t3) (t4:=Z.t4) (t5:=Z.t5) (t6:=Z.t6) (s:=(strOf Z.x)) (t7:=Z.t7) (g0:=Z.g0) (t8:=Z.t8) (g1:=Z.g1) (qa0:=Z.qa0) (qb0:=Z.qb0) (qq0:=Z.qq0) (qa1:=Z.qa1) (qb1:=Z.qb1) (qc1:=Z.qc1) (qd1:=Z.qd1) (qe1:=Z.qe1) (qq1:=Z.qq1) (qa2:=Z.qa2) (qb2:=Z.qb2) (qq2:=Z.qq2) (qa3:=Z.qa3) (qq3:=Z.qq3) (sz:=Z.sz) (tk:=Z.tk) (gn:=Z.gn) (M:=Z.M) (G:=Z.G) (e0:=fun v=>enewL_ok)).monoE fun v=>?_
  exact ⟨v,(fun i=>match i with | 0=>Z.t0 | 2=>Z.t1 | 4=>Z.t2 | 7=>Z.t3 | 8=>Z.t4 | 9=>Z.t6 | 10=>Z.t5 | 11=>(Z.tk+1) | 12=>(Z.tk+2) | 15=>Z.t7 | 16=>Z.t8 | _=>0),.none,(.int 0 Z.tk),_,_,_,_,⟨rfl,rfl,rfl,rfl⟩⟩
theorem lg_endT (O:(view w b2 h0 B (lgBW Z) d os).Ok) {g0 g1:Int} {y:St} (h:LgAt w b2 h0 B d os Z ⟨Z.x.length,false,g0,g1⟩ y) :
    Goes (view w b2 h0 B (lgBW Z) d os) y (fun y=>∃ (t5 t6 t15 t16 t17 t18 a b c:Nat) (cc:Code) (p:Pos) (sz tk gn:Nat),
      y = mk (.pure (.done .next)) cc p [] ((Z.L,nsO [ent w.params z38 Z.t0 (.str Z.tx Z.t1),ent w.params z39 Z.t2 (.ref Z.gl),ent w.params z41 t5 (.int (Int.ofNat a) t17),ent w.params z40 t6 (.str (strOf (unit b c)) t18)] 4)::(Z.gl,listO [(.int g0 t15),(.int g1 t16)] 0)::Z.M) sz tk Z.G gn):=by
  obtain ⟨T,lvv,gpv,gcv,a,b,c',p,sz,tk,gn,hK⟩:=h
  refine (lg_end (O:=O) (w:=w) (b2:=b2) (h0:=h0) (B:=B) (d:=d) (os:=os) (pos0:=p) (vz:=Z.vz) (pos0z:=Z.pos0) (t0z:=Z.t0) (t1z:=Z.t1) (txz:=Z.tx) (t2z:=Z.t2) (t3z:=Z.t3) (t4z:=Z.t4) (t5z:=Z.t5) (t6z:=Z.t6) (t7z:=Z.t7) (g0z:=Z.g0) (t8z:=Z.t8) (g1z:=Z.g1) (szz:=Z.sz) (tkz:=Z.tk) (gnz:=Z.gn) (Mz:=Z.M) (Gz:=Z.G) (sc:=(itCls Z.x)) (k:=Z.x.length) (L:=Z.L) (gO:=Z.gO) (gL:=Z.gL) (gl:=Z.gl) (g:=Z.g) (luv:=(.str (strOf (unit b c')) (T 18))) (lpv:=(.int (Int.ofNat a) (T 17))) (gpv:=gpv) (gcv:=gcv) (lvv:=lvv) (t0:=0) (t1:=(T 9)) (s:=(strOf Z.x)) (t2:=(T 0)) (t3:=(T 2)) (tx:=Z.tx) (t4:=(T 4)) (t5:=(T 5)) (t6:=0) (t7:=(T 6)) (t8:=(T 7)) (t9:=(T 8)) (t10:=(T 10)) (t11:=(T 11)) (t12:=(T 12)) (t13:=(T 13)) (t14:=(T 15)) (g0:=g0) (t15:=(T 16)) (g1:=g1) (qa0:=Z.qa0) (qb0:=Z.qb0) (qq0:=Z.qq0) (qa1:=Z.qa1) (qb1:=Z.qb1) (qc1:=Z.qc1) (qd1:=Z.qd1) (qe1:=Z.qe1) (qq1:=Z.qq1) (qa2:=Z.qa2) (qb2:=Z.qb2) (qq2:=Z.qq2) (qa3:=Z.qa3) (qq3:=Z.qq3) (sz:=sz) (tk:=tk) (gn:=gn) (M:=Z.M) (G:=Z.G) (e0:=fun v=>eend_ok)).monoE fun v=>?_
  obtain ⟨k0,k2,k4,k9⟩:=hK
  rw [← k0,← k2,← k4]
  exact ⟨T 5,T 6,T 15,T 16,T 17,T 18,a,b,c',_,_,_,_,_,rfl⟩
end
end Mine
end
section
open PySem PySem.W PySem.W.X PyProof.Rows
namespace Mine
theorem map_two {vs:List Value} {a b:Value} (h:vs.map noTok = [a,b]):∃ x y,vs = [x,y] ∧ noTok x = a ∧ noTok y = b:=by
  exact map2 h
noncomputable def nG (c:Nat):Int:=if c = 173 then 0 else sLen (strOf (foldL c))
noncomputable def lgOk:Bool→List Nat→Bool
  | e,[]=>!e
  | true,c::l=>okSign c && lgOk false l
  | false,c::l=>if c = 92 then lgOk true l else okSign c && lgOk false l
noncomputable def lgG:Bool→List Nat→Int × Int→Int × Int
  | _,[],g=>g
  | true,c::l,g=>lgG false l (g.1,g.2+nG c)
  | false,c::l,g=>if c = 92 then lgG true l g else lgG false l (g.1+nG c,g.2)
section
variable {w:World} {b2:Bool} {h0:Heap} {B:List Frame} {d:Drawn} {os:OsState} {Z:LgZ}
theorem lg_turns (O:(view w b2 h0 B (lgBW Z) d os).Ok):∀ (rest pre:List Nat) {e:Bool} {k:Nat} {g:Int × Int} (_:Z.x = pre ++ rest) (_:k = pre.length) (_:lgOk e rest = true) {y:St} (_:LgAt w b2 h0 B d os Z ⟨k,e,g.1,g.2⟩ y),
    Goes (view w b2 h0 B (lgBW Z) d os) y (LgAt w b2 h0 B d os Z ⟨Z.x.length,false,(lgG e rest g).1,(lgG e rest g).2⟩)
  | [],pre,e,k,g,he,hk,ho,y,h=>by
    have e1:e = false:=by cases e <;> first | rfl | cases ho
    subst e1
    have e2:k = Z.x.length:=by rw [hk,he,List.append_nil]
    subst e2
    exact .here h
  | c::rest,pre,true,k,g,he,hk,ho,y,h=>by
    have hc:Z.x[k]? = some c:=by rw [he,hk]; simp
    have ho:(okSign c && lgOk false rest) = true:=ho
    rw [Bool.and_eq_true] at ho
    have st:Goes (view w b2 h0 B (lgBW Z) d os) y (LgAt w b2 h0 B d os Z ⟨k+1,false,g.1,g.2+nG c⟩):=by
      unfold nG
      by_cases h2:c = 173
      · rw [if_pos h2,Int.add_zero]; exact lg_btT O hc h2 h
      · rw [if_neg h2]; exact lg_bfT O hc ho.1 h2 h
    exact st.trans fun y' h'=>lg_turns O rest (pre ++ [c]) (g:=(g.1,g.2+nG c)) (by rw [he]; simp) (by rw [hk]; simp) ho.2 h'
  | c::rest,pre,false,k,g,he,hk,ho,y,h=>by
    have hc:Z.x[k]? = some c:=by rw [he,hk]; simp
    have ho:(if c = 92 then lgOk true rest else okSign c && lgOk false rest) = true:=ho
    show Goes _ _ (LgAt w b2 h0 B d os Z ⟨Z.x.length,false,(if c = 92 then lgG true rest g else lgG false rest (g.1+nG c,g.2)).1,(if c = 92 then lgG true rest g else lgG false rest (g.1+nG c,g.2)).2⟩)
    by_cases h1:c = 92
    · rw [if_pos h1] at ho
      rw [if_pos h1]
      exact (lg_aT O hc h1 h).trans fun y' h'=>lg_turns O rest (pre ++ [c]) (g:=g) (by rw [he]; simp) (by rw [hk]; simp) ho h'
    · rw [if_neg h1,Bool.and_eq_true] at ho
      rw [if_neg h1]
      have st:Goes (view w b2 h0 B (lgBW Z) d os) y (LgAt w b2 h0 B d os Z ⟨k+1,false,g.1+nG c,g.2⟩):=by
        unfold nG
        by_cases h2:c = 173
        · rw [if_pos h2,Int.add_zero]; exact lg_ctT O hc h1 h2 h
        · rw [if_neg h2]; exact lg_cfT O hc ho.1 h1 h2 h
      exact st.trans fun y' h'=>lg_turns O rest (pre ++ [c]) (g:=(g.1+nG c,g.2)) (by rw [he]; simp) (by rw [hk]; simp) ho.2 h'
theorem lg_first (O:(view w b2 h0 B (lgBW Z) d os).Ok) (hne:Z.x ≠ []) (ho:lgOk false Z.x = true) {y:St} (h:Lg0 w b2 h0 B d os Z y) :
    Goes (view w b2 h0 B (lgBW Z) d os) y (LgAt w b2 h0 B d os Z ⟨Z.x.length,false,(lgG false Z.x (Z.g0,Z.g1)).1,(lgG false Z.x (Z.g0,Z.g1)).2⟩):=by
  have key:∀ l,l = Z.x→Goes (view w b2 h0 B (lgBW Z) d os) y (LgAt w b2 h0 B d os Z ⟨Z.x.length,false,(lgG false l (Z.g0,Z.g1)).1,(lgG false l (Z.g0,Z.g1)).2⟩):=by
    intro l e
    cases l with
    | nil=>exact absurd e.symm hne
    | cons c rest =>
      have hc:Z.x[0]? = some c:=by rw [← e]; rfl
      rw [← e] at ho
      have ho:(if c = 92 then lgOk true rest else okSign c && lgOk false rest) = true:=ho
      show Goes _ _ (LgAt w b2 h0 B d os Z ⟨Z.x.length,false,(if c = 92 then lgG true rest (Z.g0,Z.g1) else lgG false rest (Z.g0+nG c,Z.g1)).1,(if c = 92 then lgG true rest (Z.g0,Z.g1) else lgG false rest (Z.g0+nG c,Z.g1)).2⟩)
      by_cases h1:c = 92
      · rw [if_pos h1] at ho
        rw [if_pos h1]
        cases rest with
        | nil=>cases ho
        | cons c2 rest =>
          have hc2:Z.x[1]? = some c2:=by rw [← e]; rfl
          have ho:(okSign c2 && lgOk false rest) = true:=ho
          rw [Bool.and_eq_true] at ho
          refine (lg_a0T O hc h1 h).trans fun y' h'=>?_
          have st:Goes (view w b2 h0 B (lgBW Z) d os) y' (LgAt w b2 h0 B d os Z ⟨2,false,Z.g0,Z.g1+nG c2⟩):=by
            unfold nG
            by_cases h2:c2 = 173
            · rw [if_pos h2,Int.add_zero]; exact lg_b1tT O hc2 h2 h'
            · rw [if_neg h2]; exact lg_b1fT O hc2 ho.1 h2 h'
          exact st.trans fun y'' h''=>lg_turns O rest [c,c2] (g:=(Z.g0,Z.g1+nG c2)) e.symm rfl ho.2 h''
      · rw [if_neg h1,Bool.and_eq_true] at ho
        rw [if_neg h1]
        have st:Goes (view w b2 h0 B (lgBW Z) d os) y (LgAt w b2 h0 B d os Z ⟨1,false,Z.g0+nG c,Z.g1⟩):=by
          unfold nG
          by_cases h2:c = 173
          · rw [if_pos h2,Int.add_zero]; exact lg_c0tT O hc h1 h2 h
          · rw [if_neg h2]; exact lg_c0fT O hc ho.1 h1 h2 h
        exact st.trans fun y'' h''=>lg_turns O rest [c] (g:=(Z.g0+nG c,Z.g1)) e.symm rfl ho.2 h''
  exact key _ rfl
end
section
variable {w:World} {b2:Bool} {h0:Heap} {B:List Frame} {d:Drawn} {os:OsState} {bw:List (Code × Pos)}
noncomputable abbrev lgP (v:Nat→Nat):Value:=.int (Int.ofNat (v 7)) (v 8)
noncomputable abbrev lgU (v:Nat→Nat):Value:=.str (strOf (unit (v 9) (v 10))) (v 11)
theorem lg_loop_ok {x:List Nat} (hne:x ≠ []) (ho:lgOk false x = true) {gO gL gl L g t0 t1 t2 t3 t4 t5 t6:Nat} {tx:Str} {g0 g1:Int} (hg:lgG false x (0,0) = (g0,g1)) :
    CallN (view w b2 h0 B bw d os) [1,2,1,7] (.forLoop fLg_t70 (.ref gO) fLg_b70 [] (envF fLgs fLgq 113 [] L))
      [(gO,⟨(.type "generator"),none,.fields ⟨[(.int (Int.ofNat g) 0),(.str z20 t3),(.str z20 t4)]⟩,⟨[]⟩⟩),(gL,nsO [ent w.params z14 t5 (.str (strOf x) t6)] 1),(gl,listO [(.int 0 0),(.int 0 0)] 0),(L,nsO [ent w.params z38 t0 (.str tx t1),ent w.params z39 t2 (.ref gl)] 2)]
      [(g,(.fresh (.func fIe_ (envF fIes fIeq 35 [] gL))))]
      (fun v=>⟨some [],[(gl,listO [(.int g0 (v 3)),(.int g1 (v 4))] 0),(L,nsO [ent w.params z38 t0 (.str tx t1),ent w.params z39 t2 (.ref gl),ent w.params z41 (v 5) (lgP v),ent w.params z40 (v 6) (lgU v)] 4)],.ok .next⟩):=by
  intro bw' c R sz tk gn hk hc hR pos V' u M G
  obtain ⟨B',rfl,O⟩:=under_view u
  obtain rfl:=norm_for hc
  obtain ⟨o1,R1,rfl,n1,hR⟩:=norm_cons hR
  obtain ⟨o2,R2,rfl,n2,hR⟩:=norm_cons hR
  obtain ⟨o3,R3,rfl,n3,hR⟩:=norm_cons hR
  obtain ⟨o4,rfl,n4⟩:=norm_one hR
  obtain rfl:=norm_fields n1
  obtain rfl:=norm_ns n2
  obtain ⟨vs,rfl,e3⟩:=norm_list n3
  obtain ⟨a1,a2,rfl,m1,m2⟩:=map_two e3
  obtain ⟨ta,rfl⟩:=noTok_int m1
  obtain ⟨tb,rfl⟩:=noTok_int m2
  obtain rfl:=norm_ns n4
  obtain ⟨c0,p0,r0,rfl,k0,hk⟩:=ks_cons hk
  obtain ⟨c1,p1,r1,rfl,k1,hk⟩:=ks_cons hk
  obtain ⟨c2,p2,r2,rfl,k2,hk⟩:=ks_cons hk
  obtain ⟨c3,p3,r3,rfl,k3,hk⟩:=ks_cons hk
  obtain rfl:=ks_nil hk
  obtain ⟨qa0,qb0,rfl⟩:=shp_func k0
  obtain ⟨qa1,qb1,qc1,qd1,qe1,rfl⟩:=shp_for k1
  obtain ⟨qa2,qb2,rfl⟩:=shp_func k2
  obtain ⟨qa3,rfl⟩:=shp_caller k3
  rw [← den_eq]
  let Z:LgZ:=⟨fun _ _=>0,x,pos,L,gO,gL,gl,g,t0,t1,tx,t2,t3,t4,t5,t6,ta,0,tb,0,qa0,qb0,p0,qa1,qb1,qc1,qd1,qe1,p1,qa2,qb2,p2,qa3,p3,sz,tk,gn,M,G⟩
  have key:Goes (view w b2 h0 B' (lgBW Z) d os) (mk (den (.forLoop fLg_t70 (.ref gO) fLg_b70 [] (envF fLgs fLgq 113 [] L))) (.forLoop fLg_t70 (.ref gO) fLg_b70 [] (envF fLgs fLgq 113 [] L)) pos [] ((L,nsO [ent w.params z38 t0 (.str tx t1),ent w.params z39 t2 (.ref gl)] 2)::(gO,⟨(.type "generator"),none,.fields ⟨[(.int (Int.ofNat g) 0),(.str z20 t3),(.str z20 t4)]⟩,⟨[]⟩⟩)::(gL,nsO [ent w.params z14 t5 (.str (strOf x) t6)] 1)::(gl,listO [(.int 0 ta),(.int 0 tb)] 0)::M) sz tk ((g,(.fresh (.func fIe_ (envF fIes fIeq 35 [] gL))))::G) gn)
      (fun y=>∃ (t5 t6 t15 t16 t17 t18 a b c:Nat) (cc:Code) (p:Pos) (sz tk gn:Nat),
        y = mk (.pure (.done .next)) cc p [] ((L,nsO [ent w.params z38 t0 (.str tx t1),ent w.params z39 t2 (.ref gl),ent w.params z41 t5 (.int (Int.ofNat a) t17),ent w.params z40 t6 (.str (strOf (unit b c)) t18)] 4)::(gl,listO [(.int g0 t15),(.int g1 t16)] 0)::M) sz tk G gn):=by
    refine (lg_inT (w:=w) (b2:=b2) (h0:=h0) (B:=B') (d:=d) (os:=os) (Z:=Z) O).trans fun y hy=>?_
    obtain ⟨vz,hy⟩:=hy
    refine (lg_first (Z:={ Z with vz:=vz }) O hne ho hy).trans fun y' h'=>?_
    have h':LgAt w b2 h0 B' d os { Z with vz:=vz } ⟨x.length,false,(lgG false x (0,0)).1,(lgG false x (0,0)).2⟩ y':=h'
    rw [hg] at h'
    exact lg_endT (Z:={ Z with vz:=vz }) O h'
  refine Goes.mono' (Goes.perm key ?_ ?_ ?_ ?_ ?_ ?_ ?_ ?_ ?_) fun y hy=>?_
  · rfl
  · rfl
  · rfl
  · rfl
  · exact List.perm_middle (l₁:=[_,_,_])
  · rfl
  · rfl
  · rfl
  · rfl
  · obtain ⟨t5,t6,t15,t16,t17,t18,a,b,c,cc,p,sz,tk,gn,rfl⟩:=hy
    refine ⟨_,⟨consv sz (consv tk (consv gn (consv t15 (consv t16 (consv t5 (consv t6 (consv a (consv t17 (consv b (consv c (consv t18 (fun _=>0)))))))))))),cc,p,rfl⟩,fun x h=>?_⟩
    refine Goes.permEnd ?_ ?_ ?_ ?_ ?_ ?_ ?_ ?_ ?_ h
    · rfl
    · rfl
    · rfl
    · rfl
    · exact List.Perm.swap _ _ M
    · rfl
    · rfl
    · rfl
    · rfl
theorem lg_ok {x:List Nat} (g:SqGood x) (hne:sqOut x ≠ []) (ho:lgOk false (sqOut x) = true) {g0 g1:Int} (hg:lgG false (sqOut x) (0,0) = (g0,g1)):CallN (view w b2 h0 B bw d os) [2,1,7] (.call (.ref 113) ⟨[.str (strOf x) 0],[]⟩) [] []
    (fun v=>⟨none,[((v 5),listO [.int g0 (v 3),.int g1 (v 4)] 0)],.ok (.ret (.ref (v 5)))⟩):=by
  intro bw' c R sz tk gn hk hc hR pos V' u M G
  obtain ⟨B',rfl,O⟩:=under_view u
  obtain ⟨v,rfl,hv⟩:=norm_call1 hc
  obtain ⟨t,rfl⟩:=noTok_str hv
  obtain rfl:=norm_none hR
  obtain ⟨c1,p1,r1,rfl,k1,hk⟩:=ks_cons hk
  obtain ⟨c2,p2,r2,rfl,k2,hk⟩:=ks_cons hk
  obtain ⟨c3,p3,r3,rfl,k3,hk⟩:=ks_cons hk
  obtain rfl:=ks_nil hk
  obtain ⟨_,_,_,_,_,rfl⟩:=shp_for k1
  obtain ⟨_,_,rfl⟩:=shp_func k2
  obtain ⟨_,rfl⟩:=shp_caller k3
  rw [← den_eq]
  refine (lg_call w b2 h0 B' d os pos t (strOf x) (strOf (sqOut x)) lgP lgU g0 g1 _ _ _ _ _ _ _ _ _ _ _ sz tk gn M G O (fun v=>sq_ok g) (fun v=>lg_loop_ok hne ho hg)).monoE fun v=>?_
  exact ⟨fun i=>match i with | 0=>v 1 0 | 1=>v 1 1 | 2=>v 1 2 | 3=>v 1 3 | 4=>v 1 4 | _=>sz+1,_,_,rfl⟩
end
end Mine
end
section
open PySem PySem.W PySem.W.X PyProof.Rows
namespace Mine
section
variable {w:World} {b2:Bool} {h0:Heap} {B:List Frame} {d:Drawn} {os:OsState} {bw:List (Code × Pos)}
theorem lg_loop0_ok {gO gL gl L g t0 t1 t2 t3 t4 t5 t6:Nat} {tx:Str} :
    CallN (view w b2 h0 B bw d os) [1,2,1,7] (.forLoop fLg_t70 (.ref gO) fLg_b70 [] (envF fLgs fLgq 113 [] L))
      [(gO,⟨(.type "generator"),none,.fields ⟨[(.int (Int.ofNat g) 0),(.str z20 t3),(.str z20 t4)]⟩,⟨[]⟩⟩),(gL,nsO [ent w.params z14 t5 (.str (strOf []) t6)] 1),(gl,listO [(.int 0 0),(.int 0 0)] 0),(L,nsO [ent w.params z38 t0 (.str tx t1),ent w.params z39 t2 (.ref gl)] 2)]
      [(g,(.fresh (.func fIe_ (envF fIes fIeq 35 [] gL))))]
      (fun v=>⟨some [],[(gl,listO [(.int 0 (v 3)),(.int 0 (v 4))] 0),(L,nsO [ent w.params z38 t0 (.str tx t1),ent w.params z39 t2 (.ref gl)] 2)],.ok .next⟩):=by
  intro bw' c R sz tk gn hk hc hR pos V' u M G
  obtain ⟨B',rfl,O⟩:=under_view u
  obtain rfl:=norm_for hc
  obtain ⟨o1,R1,rfl,n1,hR⟩:=norm_cons hR
  obtain ⟨o2,R2,rfl,n2,hR⟩:=norm_cons hR
  obtain ⟨o3,R3,rfl,n3,hR⟩:=norm_cons hR
  obtain ⟨o4,rfl,n4⟩:=norm_one hR
  obtain rfl:=norm_fields n1
  obtain rfl:=norm_ns n2
  obtain ⟨vs,rfl,e3⟩:=norm_list n3
  obtain ⟨a1,a2,rfl,m1,m2⟩:=map_two e3
  obtain ⟨ta,rfl⟩:=noTok_int m1
  obtain ⟨tb,rfl⟩:=noTok_int m2
  obtain rfl:=norm_ns n4
  obtain ⟨c0,p0,r0,rfl,k0,hk⟩:=ks_cons hk
  obtain ⟨c1,p1,r1,rfl,k1,hk⟩:=ks_cons hk
  obtain ⟨c2,p2,r2,rfl,k2,hk⟩:=ks_cons hk
  obtain ⟨c3,p3,r3,rfl,k3,hk⟩:=ks_cons hk
  obtain rfl:=ks_nil hk
  obtain ⟨qa0,qb0,rfl⟩:=shp_func k0
  obtain ⟨qa1,qb1,qc1,qd1,qe1,rfl⟩:=shp_for k1
  obtain ⟨qa2,qb2,rfl⟩:=shp_func k2
  obtain ⟨qa3,rfl⟩:=shp_caller k3
  rw [← den_eq]
  have key:=lg_empty w b2 h0 B' d os pos L gO gL gl g t0 t1 tx t2 t3 t4 t5 t6 (strOf []) ta 0 tb 0 qa0 qb0 p0 qa1 qb1 qc1 qd1 qe1 p1 qa2 qb2 p2 qa3 p3 sz tk gn M G O (fun v=>enewL_ok (x:=[])) (fun v=>eend_ok (x:=[]))
  refine Goes.mono' (Goes.perm key ?_ ?_ ?_ ?_ ?_ ?_ ?_ ?_ ?_) fun y hy=>?_
  · rfl
  · rfl
  · rfl
  · rfl
  · exact List.perm_middle (l₁:=[_,_,_])
  · rfl
  · rfl
  · rfl
  · rfl
  · obtain ⟨v,rfl⟩:=hy
    refine ⟨_,⟨consv (v 1 0+2) (consv (v 1 1) (consv (v 1 2) (consv ta (consv tb (fun _=>0))))),.block [] (envF fLgs fLgq 113 [] L),⟨70,8,70,19⟩,rfl⟩,fun x h=>?_⟩
    refine Goes.permEnd ?_ ?_ ?_ ?_ ?_ ?_ ?_ ?_ ?_ h
    · rfl
    · rfl
    · rfl
    · rfl
    · exact List.Perm.swap _ _ M
    · rfl
    · rfl
    · rfl
    · rfl
theorem lg_ok0 {x:List Nat} (g:SqGood x) (he:sqOut x = []):CallN (view w b2 h0 B bw d os) [2,1,7] (.call (.ref 113) ⟨[.str (strOf x) 0],[]⟩) [] []
    (fun v=>⟨none,[((v 5),listO [.int 0 (v 3),.int 0 (v 4)] 0)],.ok (.ret (.ref (v 5)))⟩):=by
  intro bw' c R sz tk gn hk hc hR pos V' u M G
  obtain ⟨B',rfl,O⟩:=under_view u
  obtain ⟨v,rfl,hv⟩:=norm_call1 hc
  obtain ⟨t,rfl⟩:=noTok_str hv
  obtain rfl:=norm_none hR
  obtain ⟨c1,p1,r1,rfl,k1,hk⟩:=ks_cons hk
  obtain ⟨c2,p2,r2,rfl,k2,hk⟩:=ks_cons hk
  obtain ⟨c3,p3,r3,rfl,k3,hk⟩:=ks_cons hk
  obtain rfl:=ks_nil hk
  obtain ⟨_,_,_,_,_,rfl⟩:=shp_for k1
  obtain ⟨_,_,rfl⟩:=shp_func k2
  obtain ⟨_,rfl⟩:=shp_caller k3
  rw [← den_eq]
  have sq:=fun bw=>sq_ok (w:=w) (b2:=b2) (h0:=h0) (B:=B') (d:=d) (os:=os) (bw:=bw) g
  rw [he] at sq
  refine (lg_call0 w b2 h0 B' d os pos t (strOf x) (strOf []) _ _ _ _ _ _ _ _ _ _ _ sz tk gn M G O (fun v=>sq _) (fun v=>lg_loop0_ok)).monoE fun v=>?_
  exact ⟨fun i=>match i with | 0=>v 1 0 | 1=>v 1 1 | 2=>v 1 2 | 3=>v 1 3 | 4=>v 1 4 | _=>sz+1,_,_,rfl⟩
theorem lg_all {x:List Nat} (g:SqGood x) (ho:lgOk false (sqOut x) = true) {g0 g1:Int} (hg:lgG false (sqOut x) (0,0) = (g0,g1)):CallN (view w b2 h0 B bw d os) [2,1,7] (.call (.ref 113) ⟨[.str (strOf x) 0],[]⟩) [] []
    (fun v=>⟨none,[((v 5),listO [.int g0 (v 3),.int g1 (v 4)] 0)],.ok (.ret (.ref (v 5)))⟩):=by
  by_cases he:sqOut x = []
  · rw [he] at hg
    cases hg
    exact lg_ok0 g he
  · exact lg_ok g he ho hg
end
end Mine
end
section
open PySem PySem.W PySem.W.X PyProof.Rows
namespace Mine
theorem CallN.swap {V:Vw} {ks:List Nat} {c:Code} {p q:Addr × Obj} {g:(Nat→Nat)→Out} (hg:∀ v,(g v).ro = none) (h:CallN V ks c [p,q] [] g):CallN V ks c [q,p] [] g:=by
  intro bw' cd R sz tk gn hk hc hR pos V' u M G
  obtain ⟨o1,R1,rfl,n1,hR⟩:=norm_cons hR
  obtain ⟨o2,rfl,n2⟩:=norm_one hR
  have h':=h bw' cd [(p.1,o2),(q.1,o1)] sz tk gn hk hc (by rw [List.map_cons,List.map_cons,List.map_nil,n1,n2]) pos V' u M G
  refine Goes.mono' (Goes.perm h' rfl rfl rfl rfl (List.Perm.swap _ _ M) rfl rfl rfl rfl) fun y hy=>?_
  obtain ⟨v,c',p',rfl⟩:=hy
  refine ⟨_,⟨v,c',p',rfl⟩,fun x hx=>?_⟩
  refine Goes.permEnd ?_ ?_ ?_ ?_ ?_ ?_ ?_ ?_ ?_ hx
  · rfl
  · rfl
  · rfl
  · rfl
  · show ((g v).ext ++ (putO [(q.1,o1),(p.1,o2)] (g v).ro ++ M)).Perm ((g v).ext ++ (putO [(p.1,o2),(q.1,o1)] (g v).ro ++ M))
    rw [hg v]
    exact List.Perm.append_left _ (List.Perm.swap _ _ M)
  · rfl
  · rfl
  · rfl
  · rfl
theorem CallN.renum {V:Vw} {ks:List Nat} {c:Code} {R:List (Addr × Obj)} {RG:List (Nat × GenState)} {g g':(Nat→Nat)→Out} (f:(Nat→Nat)→Nat→Nat) (h0:∀ v,f v 0 = v 0) (h1:∀ v,f v 1 = v 1) (h2:∀ v,f v 2 = v 2) (hg:∀ v,g v = g' (f v)) (h:CallN V ks c R RG g):CallN V ks c R RG g':=by
  intro bw' cd R sz tk gn hk hc hR pos V' u M G
  refine (h bw' cd R sz tk gn hk hc hR pos V' u M G).mono fun y hy=>?_
  obtain ⟨v,c',p',rfl⟩:=hy
  refine ⟨f v,c',p',?_⟩
  rw [hg v,h0 v,h1 v,h2 v]
section
variable {w:World} {b2:Bool} {h0:Heap} {B:List Frame} {d:Drawn} {os:OsState} {bw:List (Code × Pos)}
theorem lg_okS {x:List Nat} (g:SqGood x) (ho:lgOk false (sqOut x) = true) {g0 g1:Int} (hg:lgG false (sqOut x) (0,0) = (g0,g1)):CallN (view w b2 h0 B bw d os) [2,1,7] (.call (.ref 113) ⟨[.str (strOf x) 0],[]⟩) [] []
    (fun v=>⟨none,[((v 3),listO [.int g0 (v 4),.int g1 (v 5)] 0)],.ok (.ret (.ref (v 3)))⟩) :=
  CallN.renum (fun v i=>match i with | 0=>v 0 | 1=>v 1 | 2=>v 2 | 3=>v 5 | 4=>v 3 | _=>v 4) (fun _=>rfl) (fun _=>rfl) (fun _=>rfl) (fun _=>rfl) (lg_all g ho hg)
end
end Mine
end
section
open PySem PySem.W PySem.W.X PyProof.Rows Builtin
namespace Mine
section
variable {V:Vw} {ks:List Nat}
theorem add_ok {x y:Str} (hx:x.cps.toList.length+y.cps.toList.length ≤ 60000):CallN V ks (.call (.builtin "str.__add__") ⟨[.str x 0,.str y 0],[]⟩) [] [] (fun v=>⟨none,[],.ok (.ret (.str (sAdd x y) (v 3)))⟩):=by
  intro bw c R sz tk gn _ hc hR pos V' u M G
  obtain ⟨v,v',rfl,hv,hv'⟩:=norm_call2 hc
  obtain ⟨t,rfl⟩:=noTok_str hv
  obtain ⟨t',rfl⟩:=noTok_str hv'
  obtain rfl:=norm_none hR
  obtain ⟨⟨x⟩⟩:=x
  obtain ⟨⟨y⟩⟩:=y
  have hx:x.length+y.length ≤ 60000:=hx
  refine goes_call u (res:=fun t=>.str (sAdd ⟨⟨x⟩⟩ ⟨⟨y⟩⟩) t) fun A hh s r=>?_
  refine call_gives F.slot_str_add (typeIs_str s _ t) F.entry_str_add (F.args_str_add_2 _ _) (gives_str_add _ _ t t') ?_
  have hA:x.length ≠ 0→¬ ((Str.length ⟨⟨x⟩⟩ == 0) = true):=fun h1 h=>h1 (eq_of_beq h)
  have hB:y.length ≠ 0→¬ ((Str.length ⟨⟨y⟩⟩ == 0) = true):=fun h1 h=>h1 (eq_of_beq h)
  by_cases h1:x.length = 0
  · have:x = []:=List.length_eq_zero_iff.mp h1
    subst this
    exact ⟨t',rfl,fun _ _ e=>e,rfl,rfl,rfl⟩
  · by_cases h2:y.length = 0
    · have:y = []:=List.length_eq_zero_iff.mp h2
      subst this
      rw [if_neg (hA h1),if_pos (show ((Str.length ⟨⟨[]⟩⟩ == 0) = true) from rfl)]
      exact ⟨t,by show Value.str _ _ = _; simp [sAdd],fun _ _ e=>e,rfl,rfl,rfl⟩
    · rw [if_neg (hA h1),if_neg (hB h2)]
      refine ⟨?_,s.toks,?_,fun _ _ e=>e,rfl,rfl,rfl⟩
      · show ((⟨x⟩ ++ ⟨y⟩:Array Nat)).size ≤ sizeLine
        rw [sizeLine_eq]; simp; omega
      · show Value.str ⟨(⟨x⟩ ++ ⟨y⟩:Array Nat)⟩ _ = Value.str _ _
        congr 2
        simp
end
end Mine
end
section
open PySem PySem.W PySem.W.X PyProof.Rows Builtin
namespace Mine
theorem foldl_app:∀ (l:List (Array Nat)) (a:Array Nat),(l.foldl (· ++ ·) a).toList = a.toList ++ (l.map Array.toList).flatten
  | [],a=>by simp
  | b::l,a=>by rw [List.foldl_cons,foldl_app l (a ++ b)]; simp
section
variable {V:Vw} {ks:List Nat}
theorem mul_ok {x:Str} {n:Int} (h1:-60000 ≤ n) (h2:n ≤ 60000) (hx:x.cps.toList.length * n.toNat ≤ 60000):CallN V ks (.call (.builtin "str.__mul__") ⟨[.str x 0,.int n 0],[]⟩) [] [] (fun v=>⟨none,[],.ok (.ret (.str (sMul x n) (v 3)))⟩):=by
  intro bw c R sz tk gn _ hc hR pos V' u M G
  obtain ⟨v,v',rfl,hv,hv'⟩:=norm_call2 hc
  obtain ⟨t,rfl⟩:=noTok_str hv
  obtain ⟨t',rfl⟩:=noTok_int hv'
  obtain rfl:=norm_none hR
  obtain ⟨⟨x⟩⟩:=x
  have hx:x.length * n.toNat ≤ 60000:=hx
  have hl:x.length * n.toNat ≤ sizeLine:=by rw [sizeLine_eq]; omega
  refine goes_call u (res:=fun t=>.str (sMul ⟨⟨x⟩⟩ n) t) fun A hh s r=>?_
  refine call_gives F.slot_str_mul (typeIs_str s _ t) F.entry_str_mul (F.args_str_mul_2 _ _) (gives_str_mul _ n t t' ?_ ?_ ?_) ?_
  · rw [Bool.or_eq_false_iff]
    exact ⟨decide_eq_false (by omega),decide_eq_false (by omega)⟩
  · intro hn _
    have h3:(x.length:Int) * n ≤ 2 ^ 63 - 1:=by
      have e:(n.toNat:Int) = n:=Int.toNat_of_nonneg (by omega)
      have e2:((x.length * n.toNat:Nat):Int) = (x.length:Int) * n:=by rw [Int.natCast_mul,e]
      rw [← e2]; omega
    exact Int.not_lt.mpr (Int.le_ediv_of_mul_le (by omega) h3)
  · intro _ _
    exact decide_eq_false (Nat.not_lt.mpr hl)
  · by_cases hn:n < 1
    · rw [if_pos hn]
      have e:n.toNat = 0:=by omega
      refine ⟨Nat.zero_le _,s.toks,?_,fun _ _ e=>e,rfl,rfl,rfl⟩
      unfold sMul
      rw [e]; rfl
    · rw [if_neg hn]
      by_cases hq:(n == 1 || Str.length ⟨⟨x⟩⟩ == 0) = true
      · rw [if_pos hq]
        refine ⟨t,?_,fun _ _ e=>e,rfl,rfl,rfl⟩
        unfold sMul
        rw [Bool.or_eq_true] at hq
        rcases hq with hq | hq
        · have:n = 1:=eq_of_beq hq
          subst this
          simp
        · have:x.length = 0:=eq_of_beq hq
          have:x = []:=List.length_eq_zero_iff.mp this
          subst this
          simp
      · rw [if_neg hq]
        have e:=foldl_app (List.replicate n.toNat (⟨x⟩:Array Nat)) #[]
        have e2:(List.map Array.toList (List.replicate n.toNat (⟨x⟩:Array Nat))).flatten = (List.replicate n.toNat x).flatten:=by rw [List.map_replicate]
        rw [e2] at e
        have e3:((List.replicate n.toNat (⟨x⟩:Array Nat)).foldl (· ++ ·) #[]) = ⟨(List.replicate n.toNat x).flatten⟩:=Array.ext' (by rw [e]; rfl)
        refine ⟨?_,s.toks,?_,fun _ _ e=>e,rfl,rfl,rfl⟩
        · show Array.size ((List.replicate n.toNat (⟨x⟩:Array Nat)).foldl (· ++ ·) #[]) ≤ sizeLine
          rw [e3]
          show ((List.replicate n.toNat x).flatten).length ≤ sizeLine
          rw [List.length_flatten,List.map_replicate,List.sum_replicate_nat,Nat.mul_comm]
          exact hl
        · show Value.str ⟨_⟩ _ = Value.str _ _
          rw [e3]; rfl
end
end Mine
end
section
open PySem PySem.W PySem.W.X PyProof.Rows
namespace Mine
noncomputable abbrev lit (x:Value) (i:Int):Obj:=⟨.type "list_iterator",none,.fields ⟨[x,.int i 0]⟩,⟨[]⟩⟩
theorem map_3 {vs:List Value} {a b c:Value} (h:vs.map noTok = [a,b,c]):∃ x0 x1 x2,vs = [x0,x1,x2] ∧ noTok x0 = a ∧ noTok x1 = b ∧ noTok x2 = c:=by
  obtain ⟨x0,t,rfl,h0,h⟩:=map_c h
  obtain ⟨x1,x2,rfl,h1,h2⟩:=map2 h
  exact ⟨x0,x1,x2,rfl,h0,h1,h2⟩
theorem norm_list3 {l:Addr} {o:Obj} {a b c:Int} {n:Nat} (h:normM (l,o) = (l,listO [.int a 0,.int b 0,.int c 0] n)):∃ ta tb tc,o = listO [.int a ta,.int b tb,.int c tc] n:=by
  obtain ⟨vs,rfl,e⟩:=norm_list h
  obtain ⟨x0,x1,x2,rfl,h0,h1,h2⟩:=map_3 e
  obtain ⟨ta,rfl⟩:=noTok_int h0
  obtain ⟨tb,rfl⟩:=noTok_int h1
  obtain ⟨tc,rfl⟩:=noTok_int h2
  exact ⟨ta,tb,tc,rfl⟩
section
variable {V:Vw} {ks:List Nat}
theorem lnext_ok {it l:Addr} {k ln:Nat} {a b c n:Int} (h:[a,b,c][k]? = some n):CallN V ks (.call (.builtin "list_iterator.__next__") ⟨[.ref it],[]⟩) [(it,lit (.ref l) (Int.ofNat k)),(l,listO [.int a 0,.int b 0,.int c 0] ln)] []
    (fun v=>⟨some [],[(it,lit (.ref l) (Int.ofNat k+1)),(l,listO [.int a (v 4),.int b (v 5),.int c (v 6)] ln)],.ok (.ret (.int n (v 3)))⟩):=by
  intro bw cd R sz tk gn _ hc hR pos V' u M G
  obtain ⟨v,rfl,hv⟩:=norm_call1 hc
  obtain rfl:=noTok_ref hv
  obtain ⟨o1,R1,rfl,n1,hR⟩:=norm_cons hR
  obtain ⟨o2,rfl,n2⟩:=norm_one hR
  obtain rfl:=norm_fields n1
  obtain ⟨ta,tb,tc,rfl⟩:=norm_list3 n2
  have hx:∃ tn,(⟨[.int a ta,.int b tb,.int c tc]⟩:Array Value)[k]? = some (.int n tn):=by
    match k,h with
    | 0,h=>cases h; exact ⟨ta,rfl⟩
    | 1,h=>cases h; exact ⟨tb,rfl⟩
    | 2,h=>cases h; exact ⟨tc,rfl⟩
  obtain ⟨tn,hx⟩:=hx
  refine (goes_callR u (g:=fun v=>⟨some [lit (.ref l) (Int.ofNat k+1),listO [.int a ta,.int b tb,.int c tc] ln],[],.ok (.ret (.int n tn))⟩) fun A hh s r=>?_).mono fun y hy=>?_
  · have hit:s.heap.get? it = some (lit (.ref l) (Int.ofNat k)):=(r.mem _ (.head _)).2
    have hl:s.heap.get? l = some (listO [.int a ta,.int b tb,.int c tc] ln):=(r.mem _ (.tail _ (.head _))).2
    have hT:s.TypeIs (.ref it) "list_iterator":=⟨_,hit,rfl⟩
    have hne:l ≠ it:=fun e=>by
      subst e
      rw [hit] at hl
      exact absurd hl (by simp [listO])
    refine wpAny_call_entry slot_listiter_next hT entry_listiter_next ?_ (args_listiter_next _)
    show wpAny _ _ (field (.ref it) 0 >>= _) _ _ s
    refine wpAny_bind (wpAny_field hit rfl (x:=.ref l) rfl ?_)
    show wpAny _ _ (if (Value.ref l == Value.none) = true then _ else _) _ _ s
    rw [if_neg (show ¬ ((Value.ref l == Value.none) = true) from Bool.false_ne_true)]
    show wpAny _ _ (field (.ref it) 1 >>= _) _ _ s
    refine wpAny_bind (wpAny_field hit rfl (x:=.int (Int.ofNat k) 0) rfl ?_)
    show wpAny _ _ (seqItems? (.ref l) >>= _) _ _ s
    refine wpAny_bind (wpAny_seqItems hl rfl ?_)
    have e:(⟨[.int a ta,.int b tb,.int c tc]⟩:Array Value)[(Int.ofNat k).toNat]? = some (.int n tn):=hx
    simp only [e]
    refine wpAny_bind (wpAny_setField hit rfl (by simp) (wpAny_pure ⟨_,rfl,fun _=>0,rfl,fun b o e hne=>(Heap.get?_update_ne _ _ _ _ (fun q=>hne _ (.head _) q.symm)).trans e,fun p hp=>(by cases hp),by simp,rfl,fun p hp=>?_,rfl,rfl,rfl⟩))
    have hp:p = (it,lit (.ref l) (Int.ofNat k+1)) ∨ p = (l,listO [.int a ta,.int b tb,.int c tc] ln):=by simpa [putO,zipO] using hp
    rcases hp with rfl | rfl
    · have e:Obj.mapFields (fun x=>x.setIfInBounds 1 (rawInt (Int.ofNat k+1))) (lit (.ref l) (Int.ofNat k)) = lit (.ref l) (Int.ofNat k+1):=by simp [Obj.mapFields,rawInt]
      show (s.heap.update it _).get? it = some (lit (.ref l) (Int.ofNat k+1))
      rw [← e]
      exact Heap.get?_update_self _ hit (by rw [e]; rfl)
    · exact (Heap.get?_update_ne _ _ _ _ hne).trans hl
  · obtain ⟨v,c',p',rfl⟩:=hy
    exact ⟨fun i=>match i with | 0=>v 0 | 1=>v 1 | 2=>v 2 | 3=>tn | 4=>ta | 5=>tb | _=>tc,c',p',rfl⟩
end
end Mine
end
section
open PySem PySem.W PySem.W.X PyProof.Rows
namespace Mine
section
variable {V:Vw} {ks:List Nat}
theorem lend_ok {it l:Addr} {ln:Nat} {a b c:Int}:CallN V ks (.call (.builtin "list_iterator.__next__") ⟨[.ref it],[]⟩) [(it,lit (.ref l) (Int.ofNat 3)),(l,listO [.int a 0,.int b 0,.int c 0] ln)] []
    (fun v=>⟨some [],[(v 3,stopO (v 4)),(v 4,emptyT),(it,lit .none (Int.ofNat 3)),(l,listO [.int a (v 5),.int b (v 6),.int c (v 7)] ln)],.error (.ref (v 3))⟩):=by
  intro bw cd R sz tk gn _ hc hR pos V' u M G
  obtain ⟨v,rfl,hv⟩:=norm_call1 hc
  obtain rfl:=noTok_ref hv
  obtain ⟨o1,R1,rfl,n1,hR⟩:=norm_cons hR
  obtain ⟨o2,rfl,n2⟩:=norm_one hR
  obtain rfl:=norm_fields n1
  obtain ⟨ta,tb,tc,rfl⟩:=norm_list3 n2
  refine (goes_callR u (g:=fun v=>⟨some [lit .none (Int.ofNat 3),listO [.int a ta,.int b tb,.int c tc] ln],[(v 3,stopO (v 4)),(v 4,emptyT)],.error (.ref (v 3))⟩) fun A hh s r=>?_).mono fun y hy=>?_
  · have hit:s.heap.get? it = some (lit (.ref l) (Int.ofNat 3)):=(r.mem _ (.head _)).2
    have hl:s.heap.get? l = some (listO [.int a ta,.int b tb,.int c tc] ln):=(r.mem _ (.tail _ (.head _))).2
    have hT:s.TypeIs (.ref it) "list_iterator":=⟨_,hit,rfl⟩
    have hne:l ≠ it:=fun e=>by
      subst e
      rw [hit] at hl
      exact absurd hl (by simp [listO])
    refine wpAny_call_entry slot_listiter_next hT entry_listiter_next ?_ (args_listiter_next _)
    show wpAny _ _ (field (.ref it) 0 >>= _) _ _ s
    refine wpAny_bind (wpAny_field hit rfl (x:=.ref l) rfl ?_)
    show wpAny _ _ (if (Value.ref l == Value.none) = true then _ else _) _ _ s
    rw [if_neg (show ¬ ((Value.ref l == Value.none) = true) from Bool.false_ne_true)]
    show wpAny _ _ (field (.ref it) 1 >>= _) _ _ s
    refine wpAny_bind (wpAny_field hit rfl (x:=.int (Int.ofNat 3) 0) rfl ?_)
    show wpAny _ _ (seqItems? (.ref l) >>= _) _ _ s
    refine wpAny_bind (wpAny_seqItems hl rfl ?_)
    have e:(⟨[.int a ta,.int b tb,.int c tc]⟩:Array Value)[(Int.ofNat 3).toNat]? = none:=rfl
    simp only [e]
    refine wpAny_bind (wpAny_rule (wpAny_bind (wpAny_setField hit rfl (by simp) ?_)))
    show wpAny _ _ (newExc (.type "StopIteration") [] >>= _) _ _ _
    refine wpAny_bind ?_
    simp only [newExc,newTuple]
    refine wpAny_bind (wpAny_newObj_type ?_ (by size_fits))
    refine wpAny_bind (m:=firstArgMember _ _) (wpAny_of_eq (a:=Value.none) (by first | rfl | (simp only [firstArgMember]; rfl)) ?_)
    refine wpAny_newObj_type ?_ (by size_fits)
    simp only [raiseNew]
    refine wpAny_bind (wpAny_handled ?_)
    rw [show A.in1.handled = none from hh]
    refine wpAny_bind (wpAny_pure (wpAny_throw ?_))
    have hsz:(s.heap.update it (Obj.mapFields (·.setIfInBounds 0 .none))).objs.size = s.heap.objs.size:=Heap.size_after_update ..
    refine ⟨fun n=>match n with | 0=>s.heap.objs.size+1 | _=>s.heap.objs.size,?_,fun b o e hne=>Heap.get?_push_of_some _ (Heap.get?_push_of_some _ ((Heap.get?_update_ne _ _ _ _ (fun q=>hne _ (.head _) q.symm)).trans e)),fun p hp=>?_,?_,rfl,fun p hp=>?_,rfl,rfl,rfl⟩
    · show Except.error (Value.ref (Heap.push _ _).objs.size) = Except.error (Value.ref (s.heap.objs.size+1))
      rw [Heap.size_push,hsz]
    · rcases (by simpa using hp:p = _ ∨ p = _) with rfl | rfl
      · refine ⟨Nat.le_succ _,?_⟩
        have:=Heap.get?_push_size ((s.heap.update it (Obj.mapFields (·.setIfInBounds 0 .none))).push emptyT) (o:=stopO s.heap.objs.size) rfl
        rw [Heap.size_push,hsz] at this
        show Heap.get? (Heap.push _ _) (s.heap.objs.size+1) = some (stopO s.heap.objs.size)
        refine Eq.trans ?_ this
        rw [← hsz]
        rfl
      · refine ⟨Nat.le_refl _,?_⟩
        have:=Heap.get?_push_size (s.heap.update it (Obj.mapFields (·.setIfInBounds 0 .none))) (o:=emptyT) rfl
        rw [hsz] at this
        exact Heap.get?_push_of_some _ this
    · show [s.heap.objs.size+1,s.heap.objs.size].Nodup
      simp
    · have hp:p = (it,lit .none (Int.ofNat 3)) ∨ p = (l,listO [.int a ta,.int b tb,.int c tc] ln):=by simpa [putO,zipO] using hp
      rcases hp with rfl | rfl
      · have e:Obj.mapFields (fun x=>x.setIfInBounds 0 Value.none) (lit (.ref l) (Int.ofNat 3)) = lit .none (Int.ofNat 3):=by simp [Obj.mapFields]
        refine Heap.get?_push_of_some _ (Heap.get?_push_of_some _ ?_)
        show (s.heap.update it _).get? it = some (lit .none (Int.ofNat 3))
        rw [← e]
        exact Heap.get?_update_self _ hit (by rw [e]; rfl)
      · exact Heap.get?_push_of_some _ (Heap.get?_push_of_some _ ((Heap.get?_update_ne _ _ _ _ hne).trans hl))
  · obtain ⟨v,c',p',rfl⟩:=hy
    exact ⟨fun i=>match i with | 0=>v 0 | 1=>v 1 | 2=>v 2 | 3=>v 3 | 4=>v 4 | 5=>ta | 6=>tb | _=>tc,c',p',rfl⟩
theorem item_meets {l:Addr} {vs:List Value} {n:Nat} {i:Int} {x:Value} {tk:Nat} {s:Shared} (hl:s.heap.get? l = some (listO vs n)) (h0:0 ≤ i) (hfit:i < 2 ^ 63) (hx:(⟨vs⟩:Array Value)[i.toNat]? = some x) {A:Around} {p:Program} {w:World} {Q:Value→Shared→Prop} {E:Value→Shared→Prop} (h:Q x s) :
    wpAny (model p w) A (call (.builtin "list.__getitem__") [.ref l,.int i tk]) Q E s:=by
  refine wpAny_call_entry slot_list_getitem ⟨_,hl,rfl⟩ entry_list_getitem ?_ (args_list_getitem _ _)
  show wpAny _ _ (Builtin.List.listSubscript? (.int i tk) >>= _) _ _ s
  refine wpAny_bind (wpAny_listSubscript_int (fitsIndex_of h0 hfit) ?_)
  clear hfit
  obtain ⟨j,rfl⟩:=Int.eq_ofNat_of_zero_le h0
  have hx':(⟨vs⟩:Array Value)[j]? = some x:=hx
  show wpAny _ _ ((seqItemAt l j >>= fun r=>pure (r.map (j,·))) >>= _) _ _ s
  refine wpAny_bind (wpAny_bind (wpAny_seqItemAt hl rfl (wpAny_pure ?_)))
  rw [hx']
  first
    | exact wpAny_bind (wpAny_pure (wpAny_pure ⟨x,rfl,h⟩))
    | exact wpAny_pure ⟨x,rfl,h⟩
theorem getI_ok {l:Addr} {ws:List Value} {n k:Nat} {x:Int} (hx:ws[k]? = some (.int x 0)) (hk:k < 2 ^ 63):CallN V ks (.call (.builtin "list.__getitem__") ⟨[.ref l,.int (k:Int) 0],[]⟩) [(l,listO ws n)] []
    (fun v=>⟨none,[],.ok (.ret (.int x (v 3)))⟩):=by
  intro bw cd R sz tk gn _ hc hR pos V' u M G
  obtain ⟨v,v',rfl,hv,hv'⟩:=norm_call2 hc
  obtain rfl:=noTok_ref hv
  obtain ⟨t',rfl⟩:=noTok_int hv'
  obtain ⟨o,rfl,ho⟩:=norm_one hR
  obtain ⟨vs,rfl,e⟩:=norm_list ho
  obtain ⟨t,ht⟩:∃ t,vs[k]? = some (.int x t):=by
    rw [← e,List.getElem?_map] at hx
    cases h:vs[k]? with
    | none=>rw [h] at hx; cases hx
    | some y =>
      rw [h] at hx
      obtain ⟨t,rfl⟩:=noTok_int (Option.some.inj hx)
      exact ⟨t,rfl⟩
  refine goes_call u (res:=fun t=>.int x t) fun A hh s r=>?_
  exact item_meets (r.mem _ (.head _)).2 (Int.natCast_nonneg k) (by omega) (by simpa using ht) ⟨_,rfl,fun _ _ e=>e,rfl,rfl,rfl⟩
theorem getS_ok {l:Addr} {ws:List Value} {n k:Nat} {x:Str} (hx:ws[k]? = some (.str x 0)) (hk:k < 2 ^ 63):CallN V ks (.call (.builtin "list.__getitem__") ⟨[.ref l,.int (k:Int) 0],[]⟩) [(l,listO ws n)] []
    (fun v=>⟨none,[],.ok (.ret (.str x (v 3)))⟩):=by
  intro bw cd R sz tk gn _ hc hR pos V' u M G
  obtain ⟨v,v',rfl,hv,hv'⟩:=norm_call2 hc
  obtain rfl:=noTok_ref hv
  obtain ⟨t',rfl⟩:=noTok_int hv'
  obtain ⟨o,rfl,ho⟩:=norm_one hR
  obtain ⟨vs,rfl,e⟩:=norm_list ho
  obtain ⟨t,ht⟩:∃ t,vs[k]? = some (.str x t):=by
    rw [← e,List.getElem?_map] at hx
    cases h:vs[k]? with
    | none=>rw [h] at hx; cases hx
    | some y =>
      rw [h] at hx
      obtain ⟨t,rfl⟩:=noTok_str (Option.some.inj hx)
      exact ⟨t,rfl⟩
  refine goes_call u (res:=fun t=>.str x t) fun A hh s r=>?_
  exact item_meets (r.mem _ (.head _)).2 (Int.natCast_nonneg k) (by omega) (by simpa using ht) ⟨_,rfl,fun _ _ e=>e,rfl,rfl,rfl⟩
theorem set_meets {l:Addr} {vs:List Value} {n:Nat} {i:Int} {x:Value} {tk:Nat} {s:Shared} (hl:s.heap.get? l = some (listO vs n)) (h0:0 ≤ i) (hfit:i < 2 ^ 63) (hx:i.toNat < vs.length) {A:Around} {p:Program} {w:World} {Q:Value→Shared→Prop} {E:Value→Shared→Prop}
    (h:Q .none { s with heap:=s.heap.update l (Obj.mapSeq (·.setIfInBounds i.toNat x)) }) :
    wpAny (model p w) A (call (.builtin "list.__setitem__") [.ref l,.int i tk,x]) Q E s:=by
  refine wpAny_call_entry slot_list_setitem ⟨_,hl,rfl⟩ entry_list_setitem ?_ (args_list_setitem _ _ _)
  show wpAny _ _ (Builtin.List.listSubscript? (.int i tk) >>= _) _ _ s
  refine wpAny_bind (wpAny_listSubscript_int (fitsIndex_of h0 hfit) ?_)
  clear hfit
  obtain ⟨j,rfl⟩:=Int.eq_ofNat_of_zero_le h0
  have hx:j < vs.length:=hx
  have hx':(⟨vs⟩:Array Value)[j]? = some vs[j]:=by simp [hx]
  show wpAny _ _ ((seqItemAt l j >>= fun r=>pure (r.map (j,·))) >>= _) _ _ s
  refine wpAny_bind (wpAny_bind (wpAny_seqItemAt hl rfl (wpAny_pure ?_)))
  rw [hx']
  show wpAny _ _ (setSeqItemAt l j x >>= _) _ _ s
  refine wpAny_bind (wpAny_setSeqItemAt hl rfl ?_)
  first
    | exact wpAny_bind (wpAny_pure (wpAny_pure ⟨.none,rfl,h⟩))
    | exact wpAny_pure ⟨.none,rfl,h⟩
noncomputable def put3 (k:Nat) (y:Int) (p:Int × Int × Int):Int × Int × Int:=match k with
  | 0=>(y,p.2.1,p.2.2)
  | 1=>(p.1,y,p.2.2)
  | _=>(p.1,p.2.1,y)
theorem set_ok {l:Addr} {n k:Nat} {a b c y:Int} (hk:k < 3):CallN V ks (.call (.builtin "list.__setitem__") ⟨[.ref l,.int (k:Int) 0,.int y 0],[]⟩) [(l,listO [.int a 0,.int b 0,.int c 0] n)] []
    (fun v=>⟨some [listO [.int (put3 k y (a,b,c)).1 (v 3),.int (put3 k y (a,b,c)).2.1 (v 4),.int (put3 k y (a,b,c)).2.2 (v 5)] n],[],.ok (.ret .none)⟩):=by
  intro bw cd R sz tk gn _ hc hR pos V' u M G
  obtain ⟨vs,rfl,e⟩:=norm_callA hc (by kernel_rfl)
  obtain ⟨x0,x1,x2,rfl,h0,h1,h2⟩:=map_3 e
  obtain rfl:=noTok_ref h0
  obtain ⟨t1,rfl⟩:=noTok_int h1
  obtain ⟨t2,rfl⟩:=noTok_int h2
  obtain ⟨o,rfl,ho⟩:=norm_one hR
  obtain ⟨ta,tb,tc,rfl⟩:=norm_list3 ho
  refine goes_callR u fun A hh s r=>?_
  have hl:s.heap.get? l = some (listO [.int a ta,.int b tb,.int c tc] n):=(r.mem _ (.head _)).2
  obtain ⟨f0,f1,f2,hf⟩:∃ f0 f1 f2,([Value.int a ta,.int b tb,.int c tc].set k (.int y t2)) = [.int (put3 k y (a,b,c)).1 f0,.int (put3 k y (a,b,c)).2.1 f1,.int (put3 k y (a,b,c)).2.2 f2]:=by
    rcases (by omega:k = 0 ∨ k = 1 ∨ k = 2) with rfl | rfl | rfl
    · exact ⟨t2,tb,tc,rfl⟩
    · exact ⟨ta,t2,tc,rfl⟩
    · exact ⟨ta,tb,t2,rfl⟩
  refine set_meets hl (Int.natCast_nonneg k) (by omega) (by simpa using hk) ?_
  refine ⟨fun i=>match i with | 0=>f0 | 1=>f1 | _=>f2,rfl,fun b o e hne=>(Heap.get?_update_ne _ _ _ _ (fun q=>hne _ (.head _) q.symm)).trans e,fun p hp=>(by cases hp),List.nodup_nil,rfl,fun p hp=>?_,rfl,rfl,rfl⟩
  obtain rfl:=List.mem_singleton.mp hp
  have e:Obj.mapSeq (fun x=>x.setIfInBounds k (.int y t2)) (listO [.int a ta,.int b tb,.int c tc] n) = listO ([Value.int a ta,.int b tb,.int c tc].set k (.int y t2)) n:=by
    simp [Obj.mapSeq,listO]
  have hg:=Heap.get?_update_self (h:=s.heap) (Obj.mapSeq (fun x=>x.setIfInBounds k (.int y t2))) hl (by rw [e]; rfl)
  rw [e,hf] at hg
  exact hg
end
end Mine
end
section
open PySem PySem.W PySem.W.X PyProof.Rows
namespace Mine
theorem fn_a0 (w:World) (b2:Bool) (h0:Heap) (B:List Frame) (d:Drawn) (os:OsState) (pos0:Pos) (k c0 c1 c2 c3 c4 it l gl L:Nat) (lv:List Value) (ln:Nat) (x0 x1 x2 x3 x4 x5 x6 x7:Value) (t0 t1 t2 t3:Nat) (p:Int) (t4:Nat) (q:Int) (t5:Nat) (r:Int) (t6 t7 t8 t9 t10 t11 t12 t13 t14 t15 t16 t17 t18 t19:Nat) (tx:Str) (lw:(Nat→Nat)→List Value) (lwn:Nat) (n:Int) (y1 y3:Str) (y6 y7 p1 q1 r1:Int) (bw:List (Code × Pos)) (sz tk gn:Nat) (M:List (Addr × Obj)) (G:List (Nat × GenState)) (O:(view w b2 h0 B bw d os).Ok)
    (e0:∀ v:N2,CallN (view w b2 h0 B bw d os) ([2] ++ bw.map (fun x=>shp x.1)) (cB "list_iterator.__next__" [(.ref it)]) [(it,(fO "list_iterator" [(.ref l),(.int (Int.ofNat k) 0)])),(l,listO (lv.map noTok) ln)] [] (fun v0=>⟨some [],[(it,(fO "list_iterator" [(.ref l),(.int ((Int.ofNat k)+1) 0)])),(l,listO (lw (v0)) lwn)],.ok (.ret (.int n (v0 3)))⟩)) (e1:∀ v:N2,EvP "int.__floordiv__" [(.int n 0),(.int 3 0)] (retI (Int.ediv n 3))) (e2:∀ v:N2,EvP "int.__eq__" [(.int (Int.ediv n 3) 0),(.int 5 0)] (retB false)) (e3:∀ v:N2,CallN (view w b2 h0 B bw d os) ([2] ++ bw.map (fun x=>shp x.1)) (cB "list.__getitem__" [(.ref ((v 0 0)+4)),(.int (Int.fmod n 3) 0)]) [(((v 0 0)+4),listO [(.str z26 0),(.str z17 0),(.str z21 0)] 0)] [] (fun v1=>oV (.str y1 (v1 3)))) (e4:∀ v:N2,EvP "str.__getitem__" [(.str z65 0),(.int (Int.ediv n 3) 0)] (retS (sAt z65 (Int.ediv n 3)))) (e5:∀ v:N2,CallN (view w b2 h0 B bw d os) ([2] ++ bw.map (fun x=>shp x.1)) (cB "str.__add__" [(.str y1 0),(.str (sAt z65 (Int.ediv n 3)) 0)]) [] [] (fun v2=>oV (.str (sAdd y1 (sAt z65 (Int.ediv n 3))) (v2 3)))) (e6:∀ v:N2,CallN (view w b2 h0 B bw d os) ([2] ++ bw.map (fun x=>shp x.1)) (cB "list.__getitem__" [(.ref (v 2 0)),(.int (Int.fmod n 3) 0)]) [((v 2 0),listO [(.str z26 0),(.str z26 0),(.str z21 0)] 0)] [] (fun v3=>oV (.str y3 (v3 3)))) (e7:∀ v:N2,CallN (view w b2 h0 B bw d os) ([2] ++ bw.map (fun x=>shp x.1)) (cB "str.__add__" [(.str (sAdd y1 (sAt z65 (Int.ediv n 3))) 0),(.str y3 0)]) [] [] (fun v4=>oV (.str (sAdd (sAdd y1 (sAt z65 (Int.ediv n 3))) y3) (v4 3)))) (e8:∀ v:N2,CallN (view w b2 h0 B bw d os) ([2] ++ bw.map (fun x=>shp x.1)) (cB "str.__add__" [(.str tx 0),(.str (sAdd (sAdd y1 (sAt z65 (Int.ediv n 3))) y3) 0)]) [] [] (fun v5=>oV (.str (sAdd tx (sAdd (sAdd y1 (sAt z65 (Int.ediv n 3))) y3)) (v5 3)))) (e9:∀ v:N2,CallN (view w b2 h0 B bw d os) ([2] ++ bw.map (fun x=>shp x.1)) (cB "list.__getitem__" [(.ref gl),(.int (Int.fmod n 3) 0)]) [(gl,listO [(.int p 0),(.int q 0),(.int r 0)] 0)] [] (fun v6=>oV (.int y6 (v6 3)))) (e10:∀ v:N2,CallN (view w b2 h0 B bw d os) ([2] ++ bw.map (fun x=>shp x.1)) (cB "list.__getitem__" [(.ref (v 6 0)),(.int (Int.ediv n 3) 0)]) [((v 6 0),listO [(.int 1 0),(.int 2 0),(.int 3 0),(.int 0 0),(.int 4 0),(.int 1 0)] 0)] [] (fun v7=>oV (.int y7 (v7 3)))) (e11:∀ v:N2,CallN (view w b2 h0 B bw d os) ([2] ++ bw.map (fun x=>shp x.1)) (cB "list.__setitem__" [(.ref gl),(.int (Int.fmod n 3) 0),(.int (y6+y7) 0)]) [(gl,listO [(.int p 0),(.int q 0),(.int r 0)] 0)] [] (fun v8=>⟨some [listO [(.int p1 (v8 3)),(.int q1 (v8 4)),(.int r1 (v8 5))] 0],[],.ok (.ret .none)⟩)) :
    Goes (view w b2 h0 B bw d os) (mkD (.forLoop fLaw_t88 (.ref it) fLaw_b88 [] (envF fLaws fLawq 123 [(z77,c4),(z75,c3),(z74,c2),(z59,c1),(z43,c0)] L)) pos0 [] ((it,(fO "list_iterator" [(.ref l),(.int (Int.ofNat k) 0)]))::(l,listO lv ln)::(gl,listO [(.int p t3),(.int q t4),(.int r t5)] 0)::(L,nsO [ent w.params z53 t6 x0,ent w.params z54 t7 x1,ent w.params z55 t8 x2,ent w.params z56 t10 x3,ent w.params z57 t11 x4,ent w.params z58 t12 x5,ent w.params z61 t13 x6,ent w.params z60 t15 x7,ent w.params z39 t17 (.ref gl),ent w.params z38 t18 (.str tx t19)] 10)::M) sz tk (G) gn)
      (fun y=>∃ v:N2,y = mkD (.forLoop fLaw_t88 (.ref it) fLaw_b88 [] (envF fLaws fLawq 123 [(z77,c4),(z75,c3),(z74,c2),(z59,c1),(z43,c0)] L)) ⟨93,12,93,24⟩ [] ((it,(fO "list_iterator" [(.ref l),(.int ((Int.ofNat k)+1) 0)]))::(l,listO (lw (v 0)) lwn)::(gl,listO [(.int p1 (v 8 3)),(.int q1 (v 8 4)),(.int r1 (v 8 5))] 0)::(L,nsO [ent w.params z53 t6 x0,ent w.params z54 t7 x1,ent w.params z55 t8 x2,ent w.params z56 t10 x3,ent w.params z57 t11 x4,ent w.params z58 t12 x5,ent w.params z61 t13 x6,ent w.params z60 t15 x7,ent w.params z39 t17 (.ref gl),ent w.params z38 t18 (.str (sAdd tx (sAdd (sAdd y1 (sAt z65 (Int.ediv n 3))) y3)) (v 5 3)),ent w.params z64 (v 0 1) (.int n (v 0 3)),ent w.params z63 ((v 0 1)+5) (.int (Int.ediv n 3) ((v 0 1)+4)),ent w.params z62 ((v 0 1)+6) (.int (Int.fmod n 3) ((v 0 1)+2))] 13)::M) (v 8 0) (v 8 1) (G) (v 8 2)) :=
  goes_run (it:=[1,4,4,4,4,1,1,1,1,1,1,1,1,1,2,1,1,1,1,1,1,2,1,1,1,1,1,1,2,1,1,1,8,8,8,8,8,8,9,1,1,1,9,10,1,1,1,10,10,10,10,9,9,11,1,1,1,2,2]) (en:=[(0,.call [0,1] [] (fun v0=>⟨some [],[(it,(fO "list_iterator" [(.ref l),(.int ((Int.ofNat k)+1) 0)])),(l,listO (lw (v0)) lwn)],.ok (.ret (.int n (v0 3)))⟩) (fun v0=>[(3,.ev (retI (Int.ediv n 3))),(9,.ev (retB false)),(0,.call [0] [] (fun v1=>oV (.str y1 (v1 3))) (fun v1=>[(2,.ev (retS (sAt z65 (Int.ediv n 3)))),(0,.call [] [] (fun v2=>oV (.str (sAdd y1 (sAt z65 (Int.ediv n 3))) (v2 3))) (fun v2=>[(0,.call [0] [] (fun v3=>oV (.str y3 (v3 3))) (fun v3=>[(1,.call [] [] (fun v4=>oV (.str (sAdd (sAdd y1 (sAt z65 (Int.ediv n 3))) y3) (v4 3))) (fun v4=>[(0,.call [] [] (fun v5=>oV (.str (sAdd tx (sAdd (sAdd y1 (sAt z65 (Int.ediv n 3))) y3)) (v5 3))) (fun v5=>[(0,.call [8] [] (fun v6=>oV (.int y6 (v6 3))) (fun v6=>[(0,.call [0] [] (fun v7=>oV (.int y7 (v7 3))) (fun v7=>[(3,.call [1] [] (fun v8=>⟨some [listO [(.int p1 (v8 3)),(.int q1 (v8 4)),(.int r1 (v8 5))] 0],[],.ok (.ret .none)⟩) (fun v8=>[]))]))]))]))]))]))]))]))]))])
    (d:=11) (ms:=[0,8,9,10]) (e:=0) (gs:=[]) (mv:=[3,1,3,3])
    O den_eq 186 9 (fun v=>⟨by kernel_rfl,by kernel_rfl,by kernel_rfl,by kernel_rfl⟩) (fun v=>AllP.cons (e11 v) (AllP.cons (e10 v) (AllP.cons (e9 v) (AllP.cons (e8 v) (AllP.cons (e7 v) (AllP.cons (e6 v) (AllP.cons (e5 v) (AllP.cons (e4 v) (AllP.cons (e3 v) (AllP.cons (e2 v) (AllP.cons (e1 v) (AllP.cons (e0 v) AllP.nil))))))))))))

theorem fn_b0 (w:World) (b2:Bool) (h0:Heap) (B:List Frame) (d:Drawn) (os:OsState) (pos0:Pos) (k c0 c1 c2 c3 c4 it l gl L:Nat) (lv:List Value) (ln:Nat) (x0 x1 x2 x3 x4 x5 x6 x7:Value) (t0 t1 t2 t3:Nat) (p:Int) (t4:Nat) (q:Int) (t5:Nat) (r:Int) (t6 t7 t8 t9 t10 t11 t12 t13 t14 t15 t16 t17 t18 t19:Nat) (tx:Str) (lw:(Nat→Nat)→List Value) (lwn:Nat) (n:Int) (y1 y3:Str) (y6 y7 p1 q1 r1:Int) (bw:List (Code × Pos)) (sz tk gn:Nat) (M:List (Addr × Obj)) (G:List (Nat × GenState)) (O:(view w b2 h0 B bw d os).Ok)
    (e0:∀ v:N2,CallN (view w b2 h0 B bw d os) ([2] ++ bw.map (fun x=>shp x.1)) (cB "list_iterator.__next__" [(.ref it)]) [(it,(fO "list_iterator" [(.ref l),(.int (Int.ofNat k) 0)])),(l,listO (lv.map noTok) ln)] [] (fun v0=>⟨some [],[(it,(fO "list_iterator" [(.ref l),(.int ((Int.ofNat k)+1) 0)])),(l,listO (lw (v0)) lwn)],.ok (.ret (.int n (v0 3)))⟩)) (e1:∀ v:N2,EvP "int.__floordiv__" [(.int n 0),(.int 3 0)] (retI (Int.ediv n 3))) (e2:∀ v:N2,EvP "int.__eq__" [(.int (Int.ediv n 3) 0),(.int 5 0)] (retB true)) (e3:∀ v:N2,EvP "int.__ne__" [(.int (Int.fmod n 3) 0),(.int 1 0)] (retB false)) (e4:∀ v:N2,CallN (view w b2 h0 B bw d os) ([2] ++ bw.map (fun x=>shp x.1)) (cB "list.__getitem__" [(.ref ((v 0 0)+4)),(.int (Int.fmod n 3) 0)]) [(((v 0 0)+4),listO [(.str z26 0),(.str z17 0),(.str z21 0)] 0)] [] (fun v1=>oV (.str y1 (v1 3)))) (e5:∀ v:N2,EvP "str.__getitem__" [(.str z65 0),(.int (Int.ediv n 3) 0)] (retS (sAt z65 (Int.ediv n 3)))) (e6:∀ v:N2,CallN (view w b2 h0 B bw d os) ([2] ++ bw.map (fun x=>shp x.1)) (cB "str.__add__" [(.str y1 0),(.str (sAt z65 (Int.ediv n 3)) 0)]) [] [] (fun v2=>oV (.str (sAdd y1 (sAt z65 (Int.ediv n 3))) (v2 3)))) (e7:∀ v:N2,CallN (view w b2 h0 B bw d os) ([2] ++ bw.map (fun x=>shp x.1)) (cB "list.__getitem__" [(.ref (v 2 0)),(.int (Int.fmod n 3) 0)]) [((v 2 0),listO [(.str z26 0),(.str z26 0),(.str z21 0)] 0)] [] (fun v3=>oV (.str y3 (v3 3)))) (e8:∀ v:N2,CallN (view w b2 h0 B bw d os) ([2] ++ bw.map (fun x=>shp x.1)) (cB "str.__add__" [(.str (sAdd y1 (sAt z65 (Int.ediv n 3))) 0),(.str y3 0)]) [] [] (fun v4=>oV (.str (sAdd (sAdd y1 (sAt z65 (Int.ediv n 3))) y3) (v4 3)))) (e9:∀ v:N2,CallN (view w b2 h0 B bw d os) ([2] ++ bw.map (fun x=>shp x.1)) (cB "str.__add__" [(.str tx 0),(.str (sAdd (sAdd y1 (sAt z65 (Int.ediv n 3))) y3) 0)]) [] [] (fun v5=>oV (.str (sAdd tx (sAdd (sAdd y1 (sAt z65 (Int.ediv n 3))) y3)) (v5 3)))) (e10:∀ v:N2,CallN (view w b2 h0 B bw d os) ([2] ++ bw.map (fun x=>shp x.1)) (cB "list.__getitem__" [(.ref gl),(.int (Int.fmod n 3) 0)]) [(gl,listO [(.int p 0),(.int q 0),(.int r 0)] 0)] [] (fun v6=>oV (.int y6 (v6 3)))) (e11:∀ v:N2,CallN (view w b2 h0 B bw d os) ([2] ++ bw.map (fun x=>shp x.1)) (cB "list.__getitem__" [(.ref (v 6 0)),(.int (Int.ediv n 3) 0)]) [((v 6 0),listO [(.int 1 0),(.int 2 0),(.int 3 0),(.int 0 0),(.int 4 0),(.int 1 0)] 0)] [] (fun v7=>oV (.int y7 (v7 3)))) (e12:∀ v:N2,CallN (view w b2 h0 B bw d os) ([2] ++ bw.map (fun x=>shp x.1)) (cB "list.__setitem__" [(.ref gl),(.int (Int.fmod n 3) 0),(.int (y6+y7) 0)]) [(gl,listO [(.int p 0),(.int q 0),(.int r 0)] 0)] [] (fun v8=>⟨some [listO [(.int p1 (v8 3)),(.int q1 (v8 4)),(.int r1 (v8 5))] 0],[],.ok (.ret .none)⟩)) :
    Goes (view w b2 h0 B bw d os) (mkD (.forLoop fLaw_t88 (.ref it) fLaw_b88 [] (envF fLaws fLawq 123 [(z77,c4),(z75,c3),(z74,c2),(z59,c1),(z43,c0)] L)) pos0 [] ((it,(fO "list_iterator" [(.ref l),(.int (Int.ofNat k) 0)]))::(l,listO lv ln)::(gl,listO [(.int p t3),(.int q t4),(.int r t5)] 0)::(L,nsO [ent w.params z53 t6 x0,ent w.params z54 t7 x1,ent w.params z55 t8 x2,ent w.params z56 t10 x3,ent w.params z57 t11 x4,ent w.params z58 t12 x5,ent w.params z61 t13 x6,ent w.params z60 t15 x7,ent w.params z39 t17 (.ref gl),ent w.params z38 t18 (.str tx t19)] 10)::M) sz tk (G) gn)
      (fun y=>∃ v:N2,y = mkD (.forLoop fLaw_t88 (.ref it) fLaw_b88 [] (envF fLaws fLawq 123 [(z77,c4),(z75,c3),(z74,c2),(z59,c1),(z43,c0)] L)) ⟨93,12,93,24⟩ [] ((it,(fO "list_iterator" [(.ref l),(.int ((Int.ofNat k)+1) 0)]))::(l,listO (lw (v 0)) lwn)::(gl,listO [(.int p1 (v 8 3)),(.int q1 (v 8 4)),(.int r1 (v 8 5))] 0)::(L,nsO [ent w.params z53 t6 x0,ent w.params z54 t7 x1,ent w.params z55 t8 x2,ent w.params z56 t10 x3,ent w.params z57 t11 x4,ent w.params z58 t12 x5,ent w.params z61 t13 x6,ent w.params z60 t15 x7,ent w.params z39 t17 (.ref gl),ent w.params z38 t18 (.str (sAdd tx (sAdd (sAdd y1 (sAt z65 (Int.ediv n 3))) y3)) (v 5 3)),ent w.params z64 (v 0 1) (.int n (v 0 3)),ent w.params z63 ((v 0 1)+5) (.int (Int.ediv n 3) ((v 0 1)+4)),ent w.params z62 ((v 0 1)+6) (.int (Int.fmod n 3) ((v 0 1)+2))] 13)::M) (v 8 0) (v 8 1) (G) (v 8 2)) :=
  goes_run (it:=[1,4,4,4,4,1,1,1,1,1,1,1,1,1,2,1,1,1,1,1,1,2,1,1,1,1,1,1,2,1,1,1,8,8,8,8,8,8,8,9,1,1,1,9,10,1,1,1,10,10,10,10,9,9,11,1,1,1,2,2]) (en:=[(0,.call [0,1] [] (fun v0=>⟨some [],[(it,(fO "list_iterator" [(.ref l),(.int ((Int.ofNat k)+1) 0)])),(l,listO (lw (v0)) lwn)],.ok (.ret (.int n (v0 3)))⟩) (fun v0=>[(3,.ev (retI (Int.ediv n 3))),(9,.ev (retB true)),(1,.ev (retB false)),(0,.call [0] [] (fun v1=>oV (.str y1 (v1 3))) (fun v1=>[(2,.ev (retS (sAt z65 (Int.ediv n 3)))),(0,.call [] [] (fun v2=>oV (.str (sAdd y1 (sAt z65 (Int.ediv n 3))) (v2 3))) (fun v2=>[(0,.call [0] [] (fun v3=>oV (.str y3 (v3 3))) (fun v3=>[(1,.call [] [] (fun v4=>oV (.str (sAdd (sAdd y1 (sAt z65 (Int.ediv n 3))) y3) (v4 3))) (fun v4=>[(0,.call [] [] (fun v5=>oV (.str (sAdd tx (sAdd (sAdd y1 (sAt z65 (Int.ediv n 3))) y3)) (v5 3))) (fun v5=>[(0,.call [8] [] (fun v6=>oV (.int y6 (v6 3))) (fun v6=>[(0,.call [0] [] (fun v7=>oV (.int y7 (v7 3))) (fun v7=>[(3,.call [1] [] (fun v8=>⟨some [listO [(.int p1 (v8 3)),(.int q1 (v8 4)),(.int r1 (v8 5))] 0],[],.ok (.ret .none)⟩) (fun v8=>[]))]))]))]))]))]))]))]))]))])
    (d:=11) (ms:=[0,8,9,10]) (e:=0) (gs:=[]) (mv:=[3,1,3,3])
    O den_eq 194 9 (fun v=>⟨by kernel_rfl,by kernel_rfl,by kernel_rfl,by kernel_rfl⟩) (fun v=>AllP.cons (e12 v) (AllP.cons (e11 v) (AllP.cons (e10 v) (AllP.cons (e9 v) (AllP.cons (e8 v) (AllP.cons (e7 v) (AllP.cons (e6 v) (AllP.cons (e5 v) (AllP.cons (e4 v) (AllP.cons (e3 v) (AllP.cons (e2 v) (AllP.cons (e1 v) (AllP.cons (e0 v) AllP.nil)))))))))))))

theorem fn_c0 (w:World) (b2:Bool) (h0:Heap) (B:List Frame) (d:Drawn) (os:OsState) (pos0:Pos) (k c0 c1 c2 c3 c4 it l gl L:Nat) (lv:List Value) (ln:Nat) (x0 x1 x2 x3 x4 x5 x6 x7:Value) (t0 t1 t2 t3:Nat) (p:Int) (t4:Nat) (q:Int) (t5:Nat) (r:Int) (t6 t7 t8 t9 t10 t11 t12 t13 t14 t15 t16 t17 t18 t19:Nat) (tx:Str) (lw:(Nat→Nat)→List Value) (lwn:Nat) (n:Int) (y1 y3:Str) (y6 p1 q1 r1:Int) (bw:List (Code × Pos)) (sz tk gn:Nat) (M:List (Addr × Obj)) (G:List (Nat × GenState)) (O:(view w b2 h0 B bw d os).Ok)
    (e0:∀ v:N2,CallN (view w b2 h0 B bw d os) ([2] ++ bw.map (fun x=>shp x.1)) (cB "list_iterator.__next__" [(.ref it)]) [(it,(fO "list_iterator" [(.ref l),(.int (Int.ofNat k) 0)])),(l,listO (lv.map noTok) ln)] [] (fun v0=>⟨some [],[(it,(fO "list_iterator" [(.ref l),(.int ((Int.ofNat k)+1) 0)])),(l,listO (lw (v0)) lwn)],.ok (.ret (.int n (v0 3)))⟩)) (e1:∀ v:N2,EvP "int.__floordiv__" [(.int n 0),(.int 3 0)] (retI (Int.ediv n 3))) (e2:∀ v:N2,EvP "int.__eq__" [(.int (Int.ediv n 3) 0),(.int 5 0)] (retB true)) (e3:∀ v:N2,EvP "int.__ne__" [(.int (Int.fmod n 3) 0),(.int 1 0)] (retB true)) (e4:∀ v:N2,CallN (view w b2 h0 B bw d os) ([2] ++ bw.map (fun x=>shp x.1)) (cB "list.__getitem__" [(.ref ((v 0 0)+4)),(.int (Int.fmod n 3) 0)]) [(((v 0 0)+4),listO [(.str z26 0),(.str z17 0),(.str z21 0)] 0)] [] (fun v1=>oV (.str y1 (v1 3)))) (e5:∀ v:N2,CallN (view w b2 h0 B bw d os) ([2] ++ bw.map (fun x=>shp x.1)) (cB "str.__add__" [(.str y1 0),(.str z61 0)]) [] [] (fun v2=>oV (.str (sAdd y1 z61) (v2 3)))) (e6:∀ v:N2,CallN (view w b2 h0 B bw d os) ([2] ++ bw.map (fun x=>shp x.1)) (cB "list.__getitem__" [(.ref (v 2 0)),(.int (Int.fmod n 3) 0)]) [((v 2 0),listO [(.str z26 0),(.str z26 0),(.str z21 0)] 0)] [] (fun v3=>oV (.str y3 (v3 3)))) (e7:∀ v:N2,CallN (view w b2 h0 B bw d os) ([2] ++ bw.map (fun x=>shp x.1)) (cB "str.__add__" [(.str (sAdd y1 z61) 0),(.str y3 0)]) [] [] (fun v4=>oV (.str (sAdd (sAdd y1 z61) y3) (v4 3)))) (e8:∀ v:N2,CallN (view w b2 h0 B bw d os) ([2] ++ bw.map (fun x=>shp x.1)) (cB "str.__add__" [(.str tx 0),(.str (sAdd (sAdd y1 z61) y3) 0)]) [] [] (fun v5=>oV (.str (sAdd tx (sAdd (sAdd y1 z61) y3)) (v5 3)))) (e9:∀ v:N2,CallN (view w b2 h0 B bw d os) ([2] ++ bw.map (fun x=>shp x.1)) (cB "list.__getitem__" [(.ref gl),(.int (Int.fmod n 3) 0)]) [(gl,listO [(.int p 0),(.int q 0),(.int r 0)] 0)] [] (fun v6=>oV (.int y6 (v6 3)))) (e10:∀ v:N2,CallN (view w b2 h0 B bw d os) ([2] ++ bw.map (fun x=>shp x.1)) (cB "list.__setitem__" [(.ref gl),(.int (Int.fmod n 3) 0),(.int (y6+1) 0)]) [(gl,listO [(.int p 0),(.int q 0),(.int r 0)] 0)] [] (fun v7=>⟨some [listO [(.int p1 (v7 3)),(.int q1 (v7 4)),(.int r1 (v7 5))] 0],[],.ok (.ret .none)⟩)) :
    Goes (view w b2 h0 B bw d os) (mkD (.forLoop fLaw_t88 (.ref it) fLaw_b88 [] (envF fLaws fLawq 123 [(z77,c4),(z75,c3),(z74,c2),(z59,c1),(z43,c0)] L)) pos0 [] ((it,(fO "list_iterator" [(.ref l),(.int (Int.ofNat k) 0)]))::(l,listO lv ln)::(gl,listO [(.int p t3),(.int q t4),(.int r t5)] 0)::(L,nsO [ent w.params z53 t6 x0,ent w.params z54 t7 x1,ent w.params z55 t8 x2,ent w.params z56 t10 x3,ent w.params z57 t11 x4,ent w.params z58 t12 x5,ent w.params z61 t13 x6,ent w.params z60 t15 x7,ent w.params z39 t17 (.ref gl),ent w.params z38 t18 (.str tx t19)] 10)::M) sz tk (G) gn)
      (fun y=>∃ v:N2,y = mkD (.forLoop fLaw_t88 (.ref it) fLaw_b88 [] (envF fLaws fLawq 123 [(z77,c4),(z75,c3),(z74,c2),(z59,c1),(z43,c0)] L)) ⟨93,12,93,24⟩ [] ((it,(fO "list_iterator" [(.ref l),(.int ((Int.ofNat k)+1) 0)]))::(l,listO (lw (v 0)) lwn)::(gl,listO [(.int p1 (v 7 3)),(.int q1 (v 7 4)),(.int r1 (v 7 5))] 0)::(L,nsO [ent w.params z53 t6 x0,ent w.params z54 t7 x1,ent w.params z55 t8 x2,ent w.params z56 t10 x3,ent w.params z57 t11 x4,ent w.params z58 t12 x5,ent w.params z61 t13 x6,ent w.params z60 t15 x7,ent w.params z39 t17 (.ref gl),ent w.params z38 t18 (.str (sAdd tx (sAdd (sAdd y1 z61) y3)) (v 5 3)),ent w.params z64 (v 0 1) (.int n (v 0 3)),ent w.params z63 ((v 0 1)+5) (.int 0 ((v 0 1)+9)),ent w.params z62 ((v 0 1)+6) (.int (Int.fmod n 3) ((v 0 1)+2))] 13)::M) (v 7 0) (v 7 1) (G) (v 7 2)) :=
  goes_run (it:=[1,4,4,4,4,1,1,1,1,1,1,1,1,1,2,1,1,1,1,1,1,2,1,1,1,1,1,1,2,1,1,1,8,8,8,8,8,8,8,8,8,9,1,1,1,9,10,1,1,1,10,10,10,10,9,9,11,1,1,1,1,1,2,2]) (en:=[(0,.call [0,1] [] (fun v0=>⟨some [],[(it,(fO "list_iterator" [(.ref l),(.int ((Int.ofNat k)+1) 0)])),(l,listO (lw (v0)) lwn)],.ok (.ret (.int n (v0 3)))⟩) (fun v0=>[(3,.ev (retI (Int.ediv n 3))),(9,.ev (retB true)),(1,.ev (retB true)),(0,.call [0] [] (fun v1=>oV (.str y1 (v1 3))) (fun v1=>[(3,.call [] [] (fun v2=>oV (.str (sAdd y1 z61) (v2 3))) (fun v2=>[(0,.call [0] [] (fun v3=>oV (.str y3 (v3 3))) (fun v3=>[(1,.call [] [] (fun v4=>oV (.str (sAdd (sAdd y1 z61) y3) (v4 3))) (fun v4=>[(0,.call [] [] (fun v5=>oV (.str (sAdd tx (sAdd (sAdd y1 z61) y3)) (v5 3))) (fun v5=>[(0,.call [8] [] (fun v6=>oV (.int y6 (v6 3))) (fun v6=>[(5,.call [1] [] (fun v7=>⟨some [listO [(.int p1 (v7 3)),(.int q1 (v7 4)),(.int r1 (v7 5))] 0],[],.ok (.ret .none)⟩) (fun v7=>[]))]))]))]))]))]))]))]))])
    (d:=11) (ms:=[0,8,9,10]) (e:=0) (gs:=[]) (mv:=[3,1,3,3])
    O den_eq 207 8 (fun v=>⟨by kernel_rfl,by kernel_rfl,by kernel_rfl,by kernel_rfl⟩) (fun v=>AllP.cons (e10 v) (AllP.cons (e9 v) (AllP.cons (e8 v) (AllP.cons (e7 v) (AllP.cons (e6 v) (AllP.cons (e5 v) (AllP.cons (e4 v) (AllP.cons (e3 v) (AllP.cons (e2 v) (AllP.cons (e1 v) (AllP.cons (e0 v) AllP.nil)))))))))))

theorem fn_a (w:World) (b2:Bool) (h0:Heap) (B:List Frame) (d:Drawn) (os:OsState) (pos0:Pos) (k c0 c1 c2 c3 c4 it l gl L:Nat) (lv:List Value) (ln:Nat) (x0 x1 x2 x3 x4 x5 x6 x7 xn xo xk:Value) (t0 t1 t2 t3:Nat) (p:Int) (t4:Nat) (q:Int) (t5:Nat) (r:Int) (t6 t7 t8 t9 t10 t11 t12 t13 t14 t15 t16 t17 t18 t19:Nat) (tx:Str) (t20 t21 t22 t23 t24:Nat) (lw:(Nat→Nat)→List Value) (lwn:Nat) (n:Int) (y1 y3:Str) (y6 y7 p1 q1 r1:Int) (bw:List (Code × Pos)) (sz tk gn:Nat) (M:List (Addr × Obj)) (G:List (Nat × GenState)) (O:(view w b2 h0 B bw d os).Ok)
    (e0:∀ v:N2,CallN (view w b2 h0 B bw d os) ([2] ++ bw.map (fun x=>shp x.1)) (cB "list_iterator.__next__" [(.ref it)]) [(it,(fO "list_iterator" [(.ref l),(.int (Int.ofNat k) 0)])),(l,listO (lv.map noTok) ln)] [] (fun v0=>⟨some [],[(it,(fO "list_iterator" [(.ref l),(.int ((Int.ofNat k)+1) 0)])),(l,listO (lw (v0)) lwn)],.ok (.ret (.int n (v0 3)))⟩)) (e1:∀ v:N2,EvP "int.__floordiv__" [(.int n 0),(.int 3 0)] (retI (Int.ediv n 3))) (e2:∀ v:N2,EvP "int.__eq__" [(.int (Int.ediv n 3) 0),(.int 5 0)] (retB false)) (e3:∀ v:N2,CallN (view w b2 h0 B bw d os) ([2] ++ bw.map (fun x=>shp x.1)) (cB "list.__getitem__" [(.ref ((v 0 0)+4)),(.int (Int.fmod n 3) 0)]) [(((v 0 0)+4),listO [(.str z26 0),(.str z17 0),(.str z21 0)] 0)] [] (fun v1=>oV (.str y1 (v1 3)))) (e4:∀ v:N2,EvP "str.__getitem__" [(.str z65 0),(.int (Int.ediv n 3) 0)] (retS (sAt z65 (Int.ediv n 3)))) (e5:∀ v:N2,CallN (view w b2 h0 B bw d os) ([2] ++ bw.map (fun x=>shp x.1)) (cB "str.__add__" [(.str y1 0),(.str (sAt z65 (Int.ediv n 3)) 0)]) [] [] (fun v2=>oV (.str (sAdd y1 (sAt z65 (Int.ediv n 3))) (v2 3)))) (e6:∀ v:N2,CallN (view w b2 h0 B bw d os) ([2] ++ bw.map (fun x=>shp x.1)) (cB "list.__getitem__" [(.ref (v 2 0)),(.int (Int.fmod n 3) 0)]) [((v 2 0),listO [(.str z26 0),(.str z26 0),(.str z21 0)] 0)] [] (fun v3=>oV (.str y3 (v3 3)))) (e7:∀ v:N2,CallN (view w b2 h0 B bw d os) ([2] ++ bw.map (fun x=>shp x.1)) (cB "str.__add__" [(.str (sAdd y1 (sAt z65 (Int.ediv n 3))) 0),(.str y3 0)]) [] [] (fun v4=>oV (.str (sAdd (sAdd y1 (sAt z65 (Int.ediv n 3))) y3) (v4 3)))) (e8:∀ v:N2,CallN (view w b2 h0 B bw d os) ([2] ++ bw.map (fun x=>shp x.1)) (cB "str.__add__" [(.str tx 0),(.str (sAdd (sAdd y1 (sAt z65 (Int.ediv n 3))) y3) 0)]) [] [] (fun v5=>oV (.str (sAdd tx (sAdd (sAdd y1 (sAt z65 (Int.ediv n 3))) y3)) (v5 3)))) (e9:∀ v:N2,CallN (view w b2 h0 B bw d os) ([2] ++ bw.map (fun x=>shp x.1)) (cB "list.__getitem__" [(.ref gl),(.int (Int.fmod n 3) 0)]) [(gl,listO [(.int p 0),(.int q 0),(.int r 0)] 0)] [] (fun v6=>oV (.int y6 (v6 3)))) (e10:∀ v:N2,CallN (view w b2 h0 B bw d os) ([2] ++ bw.map (fun x=>shp x.1)) (cB "list.__getitem__" [(.ref (v 6 0)),(.int (Int.ediv n 3) 0)]) [((v 6 0),listO [(.int 1 0),(.int 2 0),(.int 3 0),(.int 0 0),(.int 4 0),(.int 1 0)] 0)] [] (fun v7=>oV (.int y7 (v7 3)))) (e11:∀ v:N2,CallN (view w b2 h0 B bw d os) ([2] ++ bw.map (fun x=>shp x.1)) (cB "list.__setitem__" [(.ref gl),(.int (Int.fmod n 3) 0),(.int (y6+y7) 0)]) [(gl,listO [(.int p 0),(.int q 0),(.int r 0)] 0)] [] (fun v8=>⟨some [listO [(.int p1 (v8 3)),(.int q1 (v8 4)),(.int r1 (v8 5))] 0],[],.ok (.ret .none)⟩)) :
    Goes (view w b2 h0 B bw d os) (mkD (.forLoop fLaw_t88 (.ref it) fLaw_b88 [] (envF fLaws fLawq 123 [(z77,c4),(z75,c3),(z74,c2),(z59,c1),(z43,c0)] L)) pos0 [] ((it,(fO "list_iterator" [(.ref l),(.int (Int.ofNat k) 0)]))::(l,listO lv ln)::(gl,listO [(.int p t3),(.int q t4),(.int r t5)] 0)::(L,nsO [ent w.params z53 t6 x0,ent w.params z54 t7 x1,ent w.params z55 t8 x2,ent w.params z56 t10 x3,ent w.params z57 t11 x4,ent w.params z58 t12 x5,ent w.params z61 t13 x6,ent w.params z60 t15 x7,ent w.params z39 t17 (.ref gl),ent w.params z38 t18 (.str tx t19),ent w.params z64 t20 xn,ent w.params z63 t21 xo,ent w.params z62 t23 xk] 13)::M) sz tk (G) gn)
      (fun y=>∃ v:N2,y = mkD (.forLoop fLaw_t88 (.ref it) fLaw_b88 [] (envF fLaws fLawq 123 [(z77,c4),(z75,c3),(z74,c2),(z59,c1),(z43,c0)] L)) ⟨93,12,93,24⟩ [] ((it,(fO "list_iterator" [(.ref l),(.int ((Int.ofNat k)+1) 0)]))::(l,listO (lw (v 0)) lwn)::(gl,listO [(.int p1 (v 8 3)),(.int q1 (v 8 4)),(.int r1 (v 8 5))] 0)::(L,nsO [ent w.params z53 t6 x0,ent w.params z54 t7 x1,ent w.params z55 t8 x2,ent w.params z56 t10 x3,ent w.params z57 t11 x4,ent w.params z58 t12 x5,ent w.params z61 t13 x6,ent w.params z60 t15 x7,ent w.params z39 t17 (.ref gl),ent w.params z38 t18 (.str (sAdd tx (sAdd (sAdd y1 (sAt z65 (Int.ediv n 3))) y3)) (v 5 3)),ent w.params z64 t20 (.int n (v 0 3)),ent w.params z63 t21 (.int (Int.ediv n 3) ((v 0 1)+4)),ent w.params z62 t23 (.int (Int.fmod n 3) ((v 0 1)+2))] 13)::M) (v 8 0) (v 8 1) (G) (v 8 2)) :=
  goes_run (it:=[1,4,4,4,4,1,1,1,1,1,1,1,1,1,2,1,1,1,1,1,1,2,1,1,1,1,1,1,2,1,1,1,8,8,8,8,8,8,9,1,1,1,9,10,1,1,1,10,10,10,10,9,9,11,1,1,1,2,2]) (en:=[(0,.call [0,1] [] (fun v0=>⟨some [],[(it,(fO "list_iterator" [(.ref l),(.int ((Int.ofNat k)+1) 0)])),(l,listO (lw (v0)) lwn)],.ok (.ret (.int n (v0 3)))⟩) (fun v0=>[(3,.ev (retI (Int.ediv n 3))),(9,.ev (retB false)),(0,.call [0] [] (fun v1=>oV (.str y1 (v1 3))) (fun v1=>[(2,.ev (retS (sAt z65 (Int.ediv n 3)))),(0,.call [] [] (fun v2=>oV (.str (sAdd y1 (sAt z65 (Int.ediv n 3))) (v2 3))) (fun v2=>[(0,.call [0] [] (fun v3=>oV (.str y3 (v3 3))) (fun v3=>[(1,.call [] [] (fun v4=>oV (.str (sAdd (sAdd y1 (sAt z65 (Int.ediv n 3))) y3) (v4 3))) (fun v4=>[(0,.call [] [] (fun v5=>oV (.str (sAdd tx (sAdd (sAdd y1 (sAt z65 (Int.ediv n 3))) y3)) (v5 3))) (fun v5=>[(0,.call [8] [] (fun v6=>oV (.int y6 (v6 3))) (fun v6=>[(0,.call [0] [] (fun v7=>oV (.int y7 (v7 3))) (fun v7=>[(3,.call [1] [] (fun v8=>⟨some [listO [(.int p1 (v8 3)),(.int q1 (v8 4)),(.int r1 (v8 5))] 0],[],.ok (.ret .none)⟩) (fun v8=>[]))]))]))]))]))]))]))]))]))])
    (d:=11) (ms:=[0,8,9,10]) (e:=0) (gs:=[]) (mv:=[3,1,3,3])
    O den_eq 186 9 (fun v=>⟨by kernel_rfl,by kernel_rfl,by kernel_rfl,by kernel_rfl⟩) (fun v=>AllP.cons (e11 v) (AllP.cons (e10 v) (AllP.cons (e9 v) (AllP.cons (e8 v) (AllP.cons (e7 v) (AllP.cons (e6 v) (AllP.cons (e5 v) (AllP.cons (e4 v) (AllP.cons (e3 v) (AllP.cons (e2 v) (AllP.cons (e1 v) (AllP.cons (e0 v) AllP.nil))))))))))))

theorem fn_b (w:World) (b2:Bool) (h0:Heap) (B:List Frame) (d:Drawn) (os:OsState) (pos0:Pos) (k c0 c1 c2 c3 c4 it l gl L:Nat) (lv:List Value) (ln:Nat) (x0 x1 x2 x3 x4 x5 x6 x7 xn xo xk:Value) (t0 t1 t2 t3:Nat) (p:Int) (t4:Nat) (q:Int) (t5:Nat) (r:Int) (t6 t7 t8 t9 t10 t11 t12 t13 t14 t15 t16 t17 t18 t19:Nat) (tx:Str) (t20 t21 t22 t23 t24 t25:Nat) (lw:(Nat→Nat)→List Value) (lwn:Nat) (n:Int) (y1 y3:Str) (y6 y7 p1 q1 r1:Int) (bw:List (Code × Pos)) (sz tk gn:Nat) (M:List (Addr × Obj)) (G:List (Nat × GenState)) (O:(view w b2 h0 B bw d os).Ok)
    (e0:∀ v:N2,CallN (view w b2 h0 B bw d os) ([2] ++ bw.map (fun x=>shp x.1)) (cB "list_iterator.__next__" [(.ref it)]) [(it,(fO "list_iterator" [(.ref l),(.int (Int.ofNat k) 0)])),(l,listO (lv.map noTok) ln)] [] (fun v0=>⟨some [],[(it,(fO "list_iterator" [(.ref l),(.int ((Int.ofNat k)+1) 0)])),(l,listO (lw (v0)) lwn)],.ok (.ret (.int n (v0 3)))⟩)) (e1:∀ v:N2,EvP "int.__floordiv__" [(.int n 0),(.int 3 0)] (retI (Int.ediv n 3))) (e2:∀ v:N2,EvP "int.__eq__" [(.int (Int.ediv n 3) 0),(.int 5 0)] (retB true)) (e3:∀ v:N2,EvP "int.__ne__" [(.int (Int.fmod n 3) 0),(.int 1 0)] (retB false)) (e4:∀ v:N2,CallN (view w b2 h0 B bw d os) ([2] ++ bw.map (fun x=>shp x.1)) (cB "list.__getitem__" [(.ref ((v 0 0)+4)),(.int (Int.fmod n 3) 0)]) [(((v 0 0)+4),listO [(.str z26 0),(.str z17 0),(.str z21 0)] 0)] [] (fun v1=>oV (.str y1 (v1 3)))) (e5:∀ v:N2,EvP "str.__getitem__" [(.str z65 0),(.int (Int.ediv n 3) 0)] (retS (sAt z65 (Int.ediv n 3)))) (e6:∀ v:N2,CallN (view w b2 h0 B bw d os) ([2] ++ bw.map (fun x=>shp x.1)) (cB "str.__add__" [(.str y1 0),(.str (sAt z65 (Int.ediv n 3)) 0)]) [] [] (fun v2=>oV (.str (sAdd y1 (sAt z65 (Int.ediv n 3))) (v2 3)))) (e7:∀ v:N2,CallN (view w b2 h0 B bw d os) ([2] ++ bw.map (fun x=>shp x.1)) (cB "list.__getitem__" [(.ref (v 2 0)),(.int (Int.fmod n 3) 0)]) [((v 2 0),listO [(.str z26 0),(.str z26 0),(.str z21 0)] 0)] [] (fun v3=>oV (.str y3 (v3 3)))) (e8:∀ v:N2,CallN (view w b2 h0 B bw d os) ([2] ++ bw.map (fun x=>shp x.1)) (cB "str.__add__" [(.str (sAdd y1 (sAt z65 (Int.ediv n 3))) 0),(.str y3 0)]) [] [] (fun v4=>oV (.str (sAdd (sAdd y1 (sAt z65 (Int.ediv n 3))) y3) (v4 3)))) (e9:∀ v:N2,CallN (view w b2 h0 B bw d os) ([2] ++ bw.map (fun x=>shp x.1)) (cB "str.__add__" [(.str tx 0),(.str (sAdd (sAdd y1 (sAt z65 (Int.ediv n 3))) y3) 0)]) [] [] (fun v5=>oV (.str (sAdd tx (sAdd (sAdd y1 (sAt z65 (Int.ediv n 3))) y3)) (v5 3)))) (e10:∀ v:N2,CallN (view w b2 h0 B bw d os) ([2] ++ bw.map (fun x=>shp x.1)) (cB "list.__getitem__" [(.ref gl),(.int (Int.fmod n 3) 0)]) [(gl,listO [(.int p 0),(.int q 0),(.int r 0)] 0)] [] (fun v6=>oV (.int y6 (v6 3)))) (e11:∀ v:N2,CallN (view w b2 h0 B bw d os) ([2] ++ bw.map (fun x=>shp x.1)) (cB "list.__getitem__" [(.ref (v 6 0)),(.int (Int.ediv n 3) 0)]) [((v 6 0),listO [(.int 1 0),(.int 2 0),(.int 3 0),(.int 0 0),(.int 4 0),(.int 1 0)] 0)] [] (fun v7=>oV (.int y7 (v7 3)))) (e12:∀ v:N2,CallN (view w b2 h0 B bw d os) ([2] ++ bw.map (fun x=>shp x.1)) (cB "list.__setitem__" [(.ref gl),(.int (Int.fmod n 3) 0),(.int (y6+y7) 0)]) [(gl,listO [(.int p 0),(.int q 0),(.int r 0)] 0)] [] (fun v8=>⟨some [listO [(.int p1 (v8 3)),(.int q1 (v8 4)),(.int r1 (v8 5))] 0],[],.ok (.ret .none)⟩)) :
    Goes (view w b2 h0 B bw d os) (mkD (.forLoop fLaw_t88 (.ref it) fLaw_b88 [] (envF fLaws fLawq 123 [(z77,c4),(z75,c3),(z74,c2),(z59,c1),(z43,c0)] L)) pos0 [] ((it,(fO "list_iterator" [(.ref l),(.int (Int.ofNat k) 0)]))::(l,listO lv ln)::(gl,listO [(.int p t3),(.int q t4),(.int r t5)] 0)::(L,nsO [ent w.params z53 t6 x0,ent w.params z54 t7 x1,ent w.params z55 t8 x2,ent w.params z56 t10 x3,ent w.params z57 t11 x4,ent w.params z58 t12 x5,ent w.params z61 t13 x6,ent w.params z60 t15 x7,ent w.params z39 t17 (.ref gl),ent w.params z38 t18 (.str tx t19),ent w.params z64 t20 xn,ent w.params z63 t22 xo,ent w.params z62 t24 xk] 13)::M) sz tk (G) gn)
      (fun y=>∃ v:N2,y = mkD (.forLoop fLaw_t88 (.ref it) fLaw_b88 [] (envF fLaws fLawq 123 [(z77,c4),(z75,c3),(z74,c2),(z59,c1),(z43,c0)] L)) ⟨93,12,93,24⟩ [] ((it,(fO "list_iterator" [(.ref l),(.int ((Int.ofNat k)+1) 0)]))::(l,listO (lw (v 0)) lwn)::(gl,listO [(.int p1 (v 8 3)),(.int q1 (v 8 4)),(.int r1 (v 8 5))] 0)::(L,nsO [ent w.params z53 t6 x0,ent w.params z54 t7 x1,ent w.params z55 t8 x2,ent w.params z56 t10 x3,ent w.params z57 t11 x4,ent w.params z58 t12 x5,ent w.params z61 t13 x6,ent w.params z60 t15 x7,ent w.params z39 t17 (.ref gl),ent w.params z38 t18 (.str (sAdd tx (sAdd (sAdd y1 (sAt z65 (Int.ediv n 3))) y3)) (v 5 3)),ent w.params z64 t20 (.int n (v 0 3)),ent w.params z63 t22 (.int (Int.ediv n 3) ((v 0 1)+4)),ent w.params z62 t24 (.int (Int.fmod n 3) ((v 0 1)+2))] 13)::M) (v 8 0) (v 8 1) (G) (v 8 2)) :=
  goes_run (it:=[1,4,4,4,4,1,1,1,1,1,1,1,1,1,2,1,1,1,1,1,1,2,1,1,1,1,1,1,2,1,1,1,8,8,8,8,8,8,8,9,1,1,1,9,10,1,1,1,10,10,10,10,9,9,11,1,1,1,2,2]) (en:=[(0,.call [0,1] [] (fun v0=>⟨some [],[(it,(fO "list_iterator" [(.ref l),(.int ((Int.ofNat k)+1) 0)])),(l,listO (lw (v0)) lwn)],.ok (.ret (.int n (v0 3)))⟩) (fun v0=>[(3,.ev (retI (Int.ediv n 3))),(9,.ev (retB true)),(1,.ev (retB false)),(0,.call [0] [] (fun v1=>oV (.str y1 (v1 3))) (fun v1=>[(2,.ev (retS (sAt z65 (Int.ediv n 3)))),(0,.call [] [] (fun v2=>oV (.str (sAdd y1 (sAt z65 (Int.ediv n 3))) (v2 3))) (fun v2=>[(0,.call [0] [] (fun v3=>oV (.str y3 (v3 3))) (fun v3=>[(1,.call [] [] (fun v4=>oV (.str (sAdd (sAdd y1 (sAt z65 (Int.ediv n 3))) y3) (v4 3))) (fun v4=>[(0,.call [] [] (fun v5=>oV (.str (sAdd tx (sAdd (sAdd y1 (sAt z65 (Int.ediv n 3))) y3)) (v5 3))) (fun v5=>[(0,.call [8] [] (fun v6=>oV (.int y6 (v6 3))) (fun v6=>[(0,.call [0] [] (fun v7=>oV (.int y7 (v7 3))) (fun v7=>[(3,.call [1] [] (fun v8=>⟨some [listO [(.int p1 (v8 3)),(.int q1 (v8 4)),(.int r1 (v8 5))] 0],[],.ok (.ret .none)⟩) (fun v8=>[]))]))]))]))]))]))]))]))]))])
    (d:=11) (ms:=[0,8,9,10]) (e:=0) (gs:=[]) (mv:=[3,1,3,3])
    O den_eq 194 9 (fun v=>⟨by kernel_rfl,by kernel_rfl,by kernel_rfl,by kernel_rfl⟩) (fun v=>AllP.cons (e12 v) (AllP.cons (e11 v) (AllP.cons (e10 v) (AllP.cons (e9 v) (AllP.cons (e8 v) (AllP.cons (e7 v) (AllP.cons (e6 v) (AllP.cons (e5 v) (AllP.cons (e4 v) (AllP.cons (e3 v) (AllP.cons (e2 v) (AllP.cons (e1 v) (AllP.cons (e0 v) AllP.nil)))))))))))))

theorem fn_c (w:World) (b2:Bool) (h0:Heap) (B:List Frame) (d:Drawn) (os:OsState) (pos0:Pos) (k c0 c1 c2 c3 c4 it l gl L:Nat) (lv:List Value) (ln:Nat) (x0 x1 x2 x3 x4 x5 x6 x7 xn xo xk:Value) (t0 t1 t2 t3:Nat) (p:Int) (t4:Nat) (q:Int) (t5:Nat) (r:Int) (t6 t7 t8 t9 t10 t11 t12 t13 t14 t15 t16 t17 t18 t19:Nat) (tx:Str) (t20 t21 t22 t23 t24:Nat) (lw:(Nat→Nat)→List Value) (lwn:Nat) (n:Int) (y1 y3:Str) (y6 p1 q1 r1:Int) (bw:List (Code × Pos)) (sz tk gn:Nat) (M:List (Addr × Obj)) (G:List (Nat × GenState)) (O:(view w b2 h0 B bw d os).Ok)
    (e0:∀ v:N2,CallN (view w b2 h0 B bw d os) ([2] ++ bw.map (fun x=>shp x.1)) (cB "list_iterator.__next__" [(.ref it)]) [(it,(fO "list_iterator" [(.ref l),(.int (Int.ofNat k) 0)])),(l,listO (lv.map noTok) ln)] [] (fun v0=>⟨some [],[(it,(fO "list_iterator" [(.ref l),(.int ((Int.ofNat k)+1) 0)])),(l,listO (lw (v0)) lwn)],.ok (.ret (.int n (v0 3)))⟩)) (e1:∀ v:N2,EvP "int.__floordiv__" [(.int n 0),(.int 3 0)] (retI (Int.ediv n 3))) (e2:∀ v:N2,EvP "int.__eq__" [(.int (Int.ediv n 3) 0),(.int 5 0)] (retB true)) (e3:∀ v:N2,EvP "int.__ne__" [(.int (Int.fmod n 3) 0),(.int 1 0)] (retB true)) (e4:∀ v:N2,CallN (view w b2 h0 B bw d os) ([2] ++ bw.map (fun x=>shp x.1)) (cB "list.__getitem__" [(.ref ((v 0 0)+4)),(.int (Int.fmod n 3) 0)]) [(((v 0 0)+4),listO [(.str z26 0),(.str z17 0),(.str z21 0)] 0)] [] (fun v1=>oV (.str y1 (v1 3)))) (e5:∀ v:N2,CallN (view w b2 h0 B bw d os) ([2] ++ bw.map (fun x=>shp x.1)) (cB "str.__add__" [(.str y1 0),(.str z61 0)]) [] [] (fun v2=>oV (.str (sAdd y1 z61) (v2 3)))) (e6:∀ v:N2,CallN (view w b2 h0 B bw d os) ([2] ++ bw.map (fun x=>shp x.1)) (cB "list.__getitem__" [(.ref (v 2 0)),(.int (Int.fmod n 3) 0)]) [((v 2 0),listO [(.str z26 0),(.str z26 0),(.str z21 0)] 0)] [] (fun v3=>oV (.str y3 (v3 3)))) (e7:∀ v:N2,CallN (view w b2 h0 B bw d os) ([2] ++ bw.map (fun x=>shp x.1)) (cB "str.__add__" [(.str (sAdd y1 z61) 0),(.str y3 0)]) [] [] (fun v4=>oV (.str (sAdd (sAdd y1 z61) y3) (v4 3)))) (e8:∀ v:N2,CallN (view w b2 h0 B bw d os) ([2] ++ bw.map (fun x=>shp x.1)) (cB "str.__add__" [(.str tx 0),(.str (sAdd (sAdd y1 z61) y3) 0)]) [] [] (fun v5=>oV (.str (sAdd tx (sAdd (sAdd y1 z61) y3)) (v5 3)))) (e9:∀ v:N2,CallN (view w b2 h0 B bw d os) ([2] ++ bw.map (fun x=>shp x.1)) (cB "list.__getitem__" [(.ref gl),(.int (Int.fmod n 3) 0)]) [(gl,listO [(.int p 0),(.int q 0),(.int r 0)] 0)] [] (fun v6=>oV (.int y6 (v6 3)))) (e10:∀ v:N2,CallN (view w b2 h0 B bw d os) ([2] ++ bw.map (fun x=>shp x.1)) (cB "list.__setitem__" [(.ref gl),(.int (Int.fmod n 3) 0),(.int (y6+1) 0)]) [(gl,listO [(.int p 0),(.int q 0),(.int r 0)] 0)] [] (fun v7=>⟨some [listO [(.int p1 (v7 3)),(.int q1 (v7 4)),(.int r1 (v7 5))] 0],[],.ok (.ret .none)⟩)) :
    Goes (view w b2 h0 B bw d os) (mkD (.forLoop fLaw_t88 (.ref it) fLaw_b88 [] (envF fLaws fLawq 123 [(z77,c4),(z75,c3),(z74,c2),(z59,c1),(z43,c0)] L)) pos0 [] ((it,(fO "list_iterator" [(.ref l),(.int (Int.ofNat k) 0)]))::(l,listO lv ln)::(gl,listO [(.int p t3),(.int q t4),(.int r t5)] 0)::(L,nsO [ent w.params z53 t6 x0,ent w.params z54 t7 x1,ent w.params z55 t8 x2,ent w.params z56 t10 x3,ent w.params z57 t11 x4,ent w.params z58 t12 x5,ent w.params z61 t13 x6,ent w.params z60 t15 x7,ent w.params z39 t17 (.ref gl),ent w.params z38 t18 (.str tx t19),ent w.params z64 t20 xn,ent w.params z63 t21 xo,ent w.params z62 t23 xk] 13)::M) sz tk (G) gn)
      (fun y=>∃ v:N2,y = mkD (.forLoop fLaw_t88 (.ref it) fLaw_b88 [] (envF fLaws fLawq 123 [(z77,c4),(z75,c3),(z74,c2),(z59,c1),(z43,c0)] L)) ⟨93,12,93,24⟩ [] ((it,(fO "list_iterator" [(.ref l),(.int ((Int.ofNat k)+1) 0)]))::(l,listO (lw (v 0)) lwn)::(gl,listO [(.int p1 (v 7 3)),(.int q1 (v 7 4)),(.int r1 (v 7 5))] 0)::(L,nsO [ent w.params z53 t6 x0,ent w.params z54 t7 x1,ent w.params z55 t8 x2,ent w.params z56 t10 x3,ent w.params z57 t11 x4,ent w.params z58 t12 x5,ent w.params z61 t13 x6,ent w.params z60 t15 x7,ent w.params z39 t17 (.ref gl),ent w.params z38 t18 (.str (sAdd tx (sAdd (sAdd y1 z61) y3)) (v 5 3)),ent w.params z64 t20 (.int n (v 0 3)),ent w.params z63 t21 (.int 0 ((v 0 1)+9)),ent w.params z62 t23 (.int (Int.fmod n 3) ((v 0 1)+2))] 13)::M) (v 7 0) (v 7 1) (G) (v 7 2)) :=
  goes_run (it:=[1,4,4,4,4,1,1,1,1,1,1,1,1,1,2,1,1,1,1,1,1,2,1,1,1,1,1,1,2,1,1,1,8,8,8,8,8,8,8,8,8,9,1,1,1,9,10,1,1,1,10,10,10,10,9,9,11,1,1,1,1,1,2,2]) (en:=[(0,.call [0,1] [] (fun v0=>⟨some [],[(it,(fO "list_iterator" [(.ref l),(.int ((Int.ofNat k)+1) 0)])),(l,listO (lw (v0)) lwn)],.ok (.ret (.int n (v0 3)))⟩) (fun v0=>[(3,.ev (retI (Int.ediv n 3))),(9,.ev (retB true)),(1,.ev (retB true)),(0,.call [0] [] (fun v1=>oV (.str y1 (v1 3))) (fun v1=>[(3,.call [] [] (fun v2=>oV (.str (sAdd y1 z61) (v2 3))) (fun v2=>[(0,.call [0] [] (fun v3=>oV (.str y3 (v3 3))) (fun v3=>[(1,.call [] [] (fun v4=>oV (.str (sAdd (sAdd y1 z61) y3) (v4 3))) (fun v4=>[(0,.call [] [] (fun v5=>oV (.str (sAdd tx (sAdd (sAdd y1 z61) y3)) (v5 3))) (fun v5=>[(0,.call [8] [] (fun v6=>oV (.int y6 (v6 3))) (fun v6=>[(5,.call [1] [] (fun v7=>⟨some [listO [(.int p1 (v7 3)),(.int q1 (v7 4)),(.int r1 (v7 5))] 0],[],.ok (.ret .none)⟩) (fun v7=>[]))]))]))]))]))]))]))]))])
    (d:=11) (ms:=[0,8,9,10]) (e:=0) (gs:=[]) (mv:=[3,1,3,3])
    O den_eq 207 8 (fun v=>⟨by kernel_rfl,by kernel_rfl,by kernel_rfl,by kernel_rfl⟩) (fun v=>AllP.cons (e10 v) (AllP.cons (e9 v) (AllP.cons (e8 v) (AllP.cons (e7 v) (AllP.cons (e6 v) (AllP.cons (e5 v) (AllP.cons (e4 v) (AllP.cons (e3 v) (AllP.cons (e2 v) (AllP.cons (e1 v) (AllP.cons (e0 v) AllP.nil)))))))))))

theorem fn_end (w:World) (b2:Bool) (h0:Heap) (B:List Frame) (d:Drawn) (os:OsState) (pos0:Pos) (k c0 c1 c2 c3 c4 it l gl L:Nat) (lv:List Value) (ln:Nat) (x0 x1 x2 x3 x4 x5 x6 x7 xn xo xk:Value) (t0 t1 t2 t3:Nat) (p:Int) (t4:Nat) (q:Int) (t5:Nat) (r:Int) (t6 t7 t8 t9 t10 t11 t12 t13 t14 t15 t16 t17 t18 t19:Nat) (tx:Str) (t20 t21 t22 t23 t24:Nat) (lw:(Nat→Nat)→List Value) (lwn:Nat) (bw:List (Code × Pos)) (sz tk gn:Nat) (M:List (Addr × Obj)) (G:List (Nat × GenState)) (O:(view w b2 h0 B bw d os).Ok)
    (e0:∀ v:N2,CallN (view w b2 h0 B bw d os) ([2] ++ bw.map (fun x=>shp x.1)) (cB "list_iterator.__next__" [(.ref it)]) [(it,(fO "list_iterator" [(.ref l),(.int (Int.ofNat k) 0)])),(l,listO (lv.map noTok) ln)] [] (fun v0=>⟨some [],[((v0 3),(fO "StopIteration" [(.ref (v0 4)),.none,.none,.none,(.bool false),.none])),((v0 4),(tO [])),(it,(fO "list_iterator" [.none,(.int (Int.ofNat k) 0)])),(l,listO (lw (v0)) lwn)],.error (.ref (v0 3))⟩)) :
    Goes (view w b2 h0 B bw d os) (mkD (.forLoop fLaw_t88 (.ref it) fLaw_b88 [] (envF fLaws fLawq 123 [(z77,c4),(z75,c3),(z74,c2),(z59,c1),(z43,c0)] L)) pos0 [] ((it,(fO "list_iterator" [(.ref l),(.int (Int.ofNat k) 0)]))::(l,listO lv ln)::(gl,listO [(.int p t3),(.int q t4),(.int r t5)] 0)::(L,nsO [ent w.params z53 t6 x0,ent w.params z54 t7 x1,ent w.params z55 t8 x2,ent w.params z56 t10 x3,ent w.params z57 t11 x4,ent w.params z58 t12 x5,ent w.params z61 t13 x6,ent w.params z60 t15 x7,ent w.params z39 t17 (.ref gl),ent w.params z38 t18 (.str tx t19),ent w.params z64 t20 xn,ent w.params z63 t21 xo,ent w.params z62 t23 xk] 13)::M) sz tk (G) gn)
      (fun y=>∃ v:N2,y = mk (.pure (.done .next)) (.block [] (envF fLaws fLawq 123 [(z77,c4),(z75,c3),(z74,c2),(z59,c1),(z43,c0)] L)) ⟨88,12,88,13⟩ [] ((gl,listO [(.int p t3),(.int q t4),(.int r t5)] 0)::(L,nsO [ent w.params z53 t6 x0,ent w.params z54 t7 x1,ent w.params z55 t8 x2,ent w.params z56 t10 x3,ent w.params z57 t11 x4,ent w.params z58 t12 x5,ent w.params z61 t13 x6,ent w.params z60 t15 x7,ent w.params z39 t17 (.ref gl),ent w.params z38 t18 (.str tx t19),ent w.params z64 t20 xn,ent w.params z63 t21 xo,ent w.params z62 t23 xk] 13)::M) (v 0 0) (v 0 1) (G) (v 0 2)) :=
  goes_run (it:=[1,1]) (en:=[(0,.call [0,1] [] (fun v0=>⟨some [],[((v0 3),(fO "StopIteration" [(.ref (v0 4)),.none,.none,.none,(.bool false),.none])),((v0 4),(tO [])),(it,(fO "list_iterator" [.none,(.int (Int.ofNat k) 0)])),(l,listO (lw (v0)) lwn)],.error (.ref (v0 3))⟩) (fun v0=>[]))])
    (d:=6) (ms:=[4,5]) (e:=0) (gs:=[]) (mv:=[])
    O den_eq 5 1 (fun v=>⟨by kernel_rfl,by kernel_rfl,by kernel_rfl,by kernel_rfl⟩) (fun v=>AllP.cons (e0 v) AllP.nil)

end Mine
end
section
open PySem PySem.W PySem.W.X PyProof.Rows
namespace Mine
noncomputable def preL (k:Nat):List Nat:=match k with
  | 0=>[]
  | 1=>[92]
  | _=>[34]
noncomputable def postL (k:Nat):List Nat:=match k with
  | 0=>[]
  | 1=>[]
  | _=>[34]
noncomputable def chL (o:Nat):Nat:=[107,223,64259,173,13254,34].getD o 0
noncomputable def wtL (o:Nat):Int:=[1,2,3,0,4,1].getD o 0
noncomputable def selL (k:Nat) (p:Int × Int × Int):Int:=match k with
  | 0=>p.1
  | 1=>p.2.1
  | _=>p.2.2
noncomputable def o1 (k o:Nat):Nat:=if o = 5 then (if k = 1 then 5 else 0) else o
noncomputable def pieceL (k o:Nat):List Nat:=(preL k ++ [chL (o1 k o)]) ++ postL k
noncomputable def gStep (k o:Nat) (p:Int × Int × Int):Int × Int × Int:=put3 k (selL k p+wtL (o1 k o)) p
theorem ev_fdiv {x y:Int} (h:y ≠ 0) (hy:y.natAbs < 1073741824):EvP "int.__floordiv__" [.int x 0,.int y 0] (retI (Int.fdiv x y)):=evII fun k m=>by
  have h0:(y == 0) = false:=beq_eq_false_iff_ne.mpr h
  have hr:Builtin.roomForPylong x y = pure ():=by
    unfold Builtin.roomForPylong
    rw [PyProof.noPylong_small hy]
    rfl
  rw [den_builtin F.entry_int_floordiv]
  show (if (y == 0) = true then _ else (Builtin.roomForPylong x y >>= fun _=>_)) = _
  rw [h0,hr]; rfl
theorem ev_ediv {x y:Int} (h:0 < y) (hy:y.natAbs < 1073741824):EvP "int.__floordiv__" [.int x 0,.int y 0] (retI (Int.ediv x y)):=by
  have:=ev_fdiv (x:=x) (Int.ne_of_gt h) hy
  rw [Int.fdiv_eq_ediv_of_nonneg x (Int.le_of_lt h)] at this
  exact this
theorem ev_div3 {n:Int}:EvP "int.__floordiv__" [.int n 0,.int 3 0] (retI (Int.ediv n 3)):=ev_ediv (by decide) (by decide)
theorem len_pre (k:Nat):(preL k).length ≤ 1:=by
  match k with
  | 0=>exact Nat.zero_le _
  | 1=>exact Nat.le_refl _
  | _+2=>exact Nat.le_refl _
theorem len_post (k:Nat):(postL k).length ≤ 1:=by
  match k with
  | 0=>exact Nat.zero_le _
  | 1=>exact Nat.zero_le _
  | _+2=>exact Nat.le_refl _
theorem pre_item {k:Nat} (hk:k < 3):[Value.str z26 0,.str z17 0,.str z21 0][k]? = some (.str (strOf (preL k)) 0):=by
  match k,hk with
  | 0,_=>rfl
  | 1,_=>rfl
  | 2,_=>rfl
theorem post_item {k:Nat} (hk:k < 3):[Value.str z26 0,.str z26 0,.str z21 0][k]? = some (.str (strOf (postL k)) 0):=by
  match k,hk with
  | 0,_=>rfl
  | 1,_=>rfl
  | 2,_=>rfl
theorem sel_item {k:Nat} (hk:k < 3) {p q r:Int}:[Value.int p 0,.int q 0,.int r 0][k]? = some (.int (selL k (p,q,r)) 0):=by
  match k,hk with
  | 0,_=>rfl
  | 1,_=>rfl
  | 2,_=>rfl
theorem wt_item {o:Nat} (ho:o < 6):[Value.int 1 0,.int 2 0,.int 3 0,.int 0 0,.int 4 0,.int 1 0][o]? = some (.int (wtL o) 0):=by
  match o,ho with
  | 0,_=>rfl
  | 1,_=>rfl
  | 2,_=>rfl
  | 3,_=>rfl
  | 4,_=>rfl
  | 5,_=>rfl
theorem ch_item {o:Nat} (ho:o < 6):EvP "str.__getitem__" [.str z65 0,.int (o:Int) 0] (retS (sAt z65 (o:Int))):=by
  have h:[107,223,64259,173,13254,34][o]? = some (chL o):=by
    match o,ho with
    | 0,_=>rfl
    | 1,_=>rfl
    | 2,_=>rfl
    | 3,_=>rfl
    | 4,_=>rfl
    | 5,_=>rfl
  exact ev_item (x:=[107,223,64259,173,13254,34]) h (by decide)
structure FnZ where
  (it l gl L c0 c1 c2 c3 c4 ln t6 t7 t8 t10 t11 t12 t13 t15 t17 t18:Nat)
  (x0 x1 x2 x3 x4 x5 x6 x7:Value)
  (a b c:Int)
  bw:List (Code × Pos)
  M:List (Addr × Obj)
  G:List (Nat × GenState)
noncomputable def FnZ.C (Z:FnZ):Code:=.forLoop fLaw_t88 (.ref Z.it) fLaw_b88 [] (envF fLaws fLawq 123 [(z77,Z.c4),(z75,Z.c3),(z74,Z.c2),(z59,Z.c1),(z43,Z.c0)] Z.L)
noncomputable def FnZ.F10 (Z:FnZ) (P:Params) (x:List Nat) (t:Nat):Obj:=nsO [ent P z53 Z.t6 Z.x0,ent P z54 Z.t7 Z.x1,ent P z55 Z.t8 Z.x2,ent P z56 Z.t10 Z.x3,ent P z57 Z.t11 Z.x4,ent P z58 Z.t12 Z.x5,ent P z61 Z.t13 Z.x6,ent P z60 Z.t15 Z.x7,ent P z39 Z.t17 (.ref Z.gl),ent P z38 Z.t18 (.str (strOf x) t)] 10
noncomputable def FnZ.F13 (Z:FnZ) (P:Params) (x:List Nat) (t t20 t21 t23:Nat) (xn xo xk:Value):Obj:=nsO [ent P z53 Z.t6 Z.x0,ent P z54 Z.t7 Z.x1,ent P z55 Z.t8 Z.x2,ent P z56 Z.t10 Z.x3,ent P z57 Z.t11 Z.x4,ent P z58 Z.t12 Z.x5,ent P z61 Z.t13 Z.x6,ent P z60 Z.t15 Z.x7,ent P z39 Z.t17 (.ref Z.gl),ent P z38 Z.t18 (.str (strOf x) t),ent P z64 t20 xn,ent P z63 t21 xo,ent P z62 t23 xk] 13
section
variable (w:World) (b2:Bool) (h0:Heap) (B:List Frame) (d:Drawn) (os:OsState)
inductive FnAt (Z:FnZ) (i:Nat) (x:List Nat) (p:Int × Int × Int) (F:Nat→Obj):St→Prop
  | it (pos:Pos) (ta tb tc t3 t4 t5 t19 sz tk gn:Nat):FnAt Z i x p F (mk (den Z.C) Z.C pos [] ((Z.it,lit (.ref Z.l) (Int.ofNat i))::(Z.l,listO [.int Z.a ta,.int Z.b tb,.int Z.c tc] Z.ln)::(Z.gl,listO [.int p.1 t3,.int p.2.1 t4,.int p.2.2 t5] 0)::(Z.L,F t19)::Z.M) sz tk Z.G gn)
end
section
variable {w:World} {b2:Bool} {h0:Heap} {B:List Frame} {d:Drawn} {os:OsState} {Z:FnZ}
theorem FnAt.eq {i:Nat} {x:List Nat} {p:Int × Int × Int} {F:Nat→Obj} {y y':St} (h:FnAt Z i x p F y') (e:y = y'):FnAt Z i x p F y:=e ▸ h
theorem o1_a {k o:Nat} (h:o < 5):o1 k o = o:=if_neg (by omega)
theorem o1_b {k o:Nat} (h:o = 5) (hk:k = 1):o1 k o = o:=by subst h hk; rfl
theorem o1_c {k o:Nat} (h:o = 5) (hk:k ≠ 1):o1 k o = 0:=by unfold o1; rw [if_pos h,if_neg hk]
theorem len_a1 {a b:List Nat} (ha:a.length ≤ 1) (hb:b.length ≤ 1):a.length+b.length ≤ 60000:=by omega
theorem len_a2 {a b c:List Nat} (ha:a.length ≤ 1) (hc:c.length ≤ 1) (hb:b.length ≤ 1):(a ++ b).length+c.length ≤ 60000:=by rw [List.length_append]; omega
theorem len_a3 {x a b c:List Nat} (hx:x.length ≤ 1000) (ha:a.length ≤ 1) (hc:c.length ≤ 1) (hb:b.length ≤ 1):x.length+((a ++ b) ++ c).length ≤ 60000:=by rw [List.length_append,List.length_append]; omega
theorem set_ok' {V:Vw} {ks:List Nat} {l:Addr} {n k:Nat} {y:Int} {p q:Int × Int × Int} (hk:k < 3) (hg:q = put3 k y p):CallN V ks (.call (.builtin "list.__setitem__") ⟨[.ref l,.int (k:Int) 0,.int y 0],[]⟩) [(l,listO [.int p.1 0,.int p.2.1 0,.int p.2.2 0] n)] []
    (fun v=>⟨some [listO [.int q.1 (v 3),.int q.2.1 (v 4),.int q.2.2 (v 5)] n],[],.ok (.ret .none)⟩):=by
  subst hg
  exact set_ok hk

theorem fn_a0T (O:(view w b2 h0 B Z.bw d os).Ok) {i k o:Nat} {n:Int} (hk:Int.fmod n 3 = k) (ho:Int.ediv n 3 = o) (hk3:k < 3) (h5:o < 5) (hn:[Z.a,Z.b,Z.c][i]? = some n) {x:List Nat} (hx:x.length ≤ 1000) {p:Int × Int × Int} {y:St} (h:FnAt Z i x p (Z.F10 w.params x) y) :
    Goes (view w b2 h0 B Z.bw d os) y (fun y'=>∃ s20 s21 s23 u1 u2 u3:Nat,FnAt Z (i+1) (x ++ pieceL k o) (gStep k o p) (fun t=>Z.F13 w.params (x ++ pieceL k o) t s20 s21 s23 (.int n u1) (.int (o1 k o:Nat) u2) (.int (k:Nat) u3)) y'):=by
  obtain ⟨pos,ta,tb,tc,t3,t4,t5,t19,sz,tk,gn⟩:=h
  have e1:o1 k o = o:=o1_a h5
  have hg:gStep k o p = put3 k (selL k p+wtL o) p:=by unfold gStep; rw [e1]
  have l1:=len_pre k
  have l2:=len_post k
  refine (fn_a0 w b2 h0 B d os pos i Z.c0 Z.c1 Z.c2 Z.c3 Z.c4 Z.it Z.l Z.gl Z.L [.int Z.a ta,.int Z.b tb,.int Z.c tc] Z.ln Z.x0 Z.x1 Z.x2 Z.x3 Z.x4 Z.x5 Z.x6 Z.x7 0 0 0 t3 p.1 t4 p.2.1 t5 p.2.2 Z.t6 Z.t7 Z.t8 0 Z.t10 Z.t11 Z.t12 Z.t13 0 Z.t15 0 Z.t17 Z.t18 t19 (strOf x) (fun v=>[.int Z.a (v 4),.int Z.b (v 5),.int Z.c (v 6)]) Z.ln n (strOf (preL k)) (strOf (postL k)) (selL k p) (wtL o) (gStep k o p).1 (gStep k o p).2.1 (gStep k o p).2.2 Z.bw sz tk gn Z.M Z.G O (fun v=>lnext_ok hn) (fun v=>ev_div3) (fun v=>by rw [ho]; exact ev_ieq (beq_eq_false_iff_ne.mpr (by omega))) (fun v=>by rw [hk]; exact getS_ok (pre_item hk3) (by omega)) (fun v=>by rw [ho]; exact ch_item (by omega)) (fun v=>add_ok ((len_a1 l1 (Nat.le_refl 1)))) (fun v=>by rw [hk]; exact getS_ok (post_item hk3) (by omega)) (fun v=>add_ok ((len_a2 l1 l2 (Nat.le_refl 1)))) (fun v=>add_ok ((len_a3 hx l1 l2 (Nat.le_refl 1)))) (fun v=>by rw [hk]; exact getI_ok (sel_item hk3) (by omega)) (fun v=>by rw [ho]; exact getI_ok (wt_item (by omega)) (by omega)) (fun v=>by rw [hk]; exact set_ok' hk3 hg)).monoE fun v=>?_
  refine ⟨(v 0 1),((v 0 1)+5),((v 0 1)+6),(v 0 3),((v 0 1)+4),((v 0 1)+2),FnAt.eq ⟨⟨93,12,93,24⟩,v 0 4,v 0 5,v 0 6,v 8 3,v 8 4,v 8 5,v 5 3,v 8 0,v 8 1,v 8 2⟩ ?_⟩
  unfold pieceL
  rw [e1]
  rw [ho,hk]
  rfl

theorem fn_b0T (O:(view w b2 h0 B Z.bw d os).Ok) {i k o:Nat} {n:Int} (hk:Int.fmod n 3 = k) (ho:Int.ediv n 3 = o) (hk3:k < 3) (ho5:o = 5) (hk1:k = 1) (hn:[Z.a,Z.b,Z.c][i]? = some n) {x:List Nat} (hx:x.length ≤ 1000) {p:Int × Int × Int} {y:St} (h:FnAt Z i x p (Z.F10 w.params x) y) :
    Goes (view w b2 h0 B Z.bw d os) y (fun y'=>∃ s20 s21 s23 u1 u2 u3:Nat,FnAt Z (i+1) (x ++ pieceL k o) (gStep k o p) (fun t=>Z.F13 w.params (x ++ pieceL k o) t s20 s21 s23 (.int n u1) (.int (o1 k o:Nat) u2) (.int (k:Nat) u3)) y'):=by
  obtain ⟨pos,ta,tb,tc,t3,t4,t5,t19,sz,tk,gn⟩:=h
  have e1:o1 k o = o:=o1_b ho5 hk1
  have hg:gStep k o p = put3 k (selL k p+wtL o) p:=by unfold gStep; rw [e1]
  have l1:=len_pre k
  have l2:=len_post k
  refine (fn_b0 w b2 h0 B d os pos i Z.c0 Z.c1 Z.c2 Z.c3 Z.c4 Z.it Z.l Z.gl Z.L [.int Z.a ta,.int Z.b tb,.int Z.c tc] Z.ln Z.x0 Z.x1 Z.x2 Z.x3 Z.x4 Z.x5 Z.x6 Z.x7 0 0 0 t3 p.1 t4 p.2.1 t5 p.2.2 Z.t6 Z.t7 Z.t8 0 Z.t10 Z.t11 Z.t12 Z.t13 0 Z.t15 0 Z.t17 Z.t18 t19 (strOf x) (fun v=>[.int Z.a (v 4),.int Z.b (v 5),.int Z.c (v 6)]) Z.ln n (strOf (preL k)) (strOf (postL k)) (selL k p) (wtL o) (gStep k o p).1 (gStep k o p).2.1 (gStep k o p).2.2 Z.bw sz tk gn Z.M Z.G O (fun v=>lnext_ok hn) (fun v=>ev_div3) (fun v=>by rw [ho]; exact ev_ieq (by rw [ho5]; rfl)) (fun v=>by rw [hk]; exact ev_ine (by rw [hk1]; rfl)) (fun v=>by rw [hk]; exact getS_ok (pre_item hk3) (by omega)) (fun v=>by rw [ho]; exact ch_item (by omega)) (fun v=>add_ok ((len_a1 l1 (Nat.le_refl 1)))) (fun v=>by rw [hk]; exact getS_ok (post_item hk3) (by omega)) (fun v=>add_ok ((len_a2 l1 l2 (Nat.le_refl 1)))) (fun v=>add_ok ((len_a3 hx l1 l2 (Nat.le_refl 1)))) (fun v=>by rw [hk]; exact getI_ok (sel_item hk3) (by omega)) (fun v=>by rw [ho]; exact getI_ok (wt_item (by omega)) (by omega)) (fun v=>by rw [hk]; exact set_ok' hk3 hg)).monoE fun v=>?_
  refine ⟨(v 0 1),((v 0 1)+5),((v 0 1)+6),(v 0 3),((v 0 1)+4),((v 0 1)+2),FnAt.eq ⟨⟨93,12,93,24⟩,v 0 4,v 0 5,v 0 6,v 8 3,v 8 4,v 8 5,v 5 3,v 8 0,v 8 1,v 8 2⟩ ?_⟩
  unfold pieceL
  rw [e1]
  rw [ho,hk]
  rfl

theorem fn_c0T (O:(view w b2 h0 B Z.bw d os).Ok) {i k o:Nat} {n:Int} (hk:Int.fmod n 3 = k) (ho:Int.ediv n 3 = o) (hk3:k < 3) (ho5:o = 5) (hk1:k ≠ 1) (hn:[Z.a,Z.b,Z.c][i]? = some n) {x:List Nat} (hx:x.length ≤ 1000) {p:Int × Int × Int} {y:St} (h:FnAt Z i x p (Z.F10 w.params x) y) :
    Goes (view w b2 h0 B Z.bw d os) y (fun y'=>∃ s20 s21 s23 u1 u2 u3:Nat,FnAt Z (i+1) (x ++ pieceL k o) (gStep k o p) (fun t=>Z.F13 w.params (x ++ pieceL k o) t s20 s21 s23 (.int n u1) (.int (o1 k o:Nat) u2) (.int (k:Nat) u3)) y'):=by
  obtain ⟨pos,ta,tb,tc,t3,t4,t5,t19,sz,tk,gn⟩:=h
  have e1:o1 k o = 0:=o1_c ho5 hk1
  have hg:gStep k o p = put3 k (selL k p+wtL 0) p:=by unfold gStep; rw [e1]
  have l1:=len_pre k
  have l2:=len_post k
  refine (fn_c0 w b2 h0 B d os pos i Z.c0 Z.c1 Z.c2 Z.c3 Z.c4 Z.it Z.l Z.gl Z.L [.int Z.a ta,.int Z.b tb,.int Z.c tc] Z.ln Z.x0 Z.x1 Z.x2 Z.x3 Z.x4 Z.x5 Z.x6 Z.x7 0 0 0 t3 p.1 t4 p.2.1 t5 p.2.2 Z.t6 Z.t7 Z.t8 0 Z.t10 Z.t11 Z.t12 Z.t13 0 Z.t15 0 Z.t17 Z.t18 t19 (strOf x) (fun v=>[.int Z.a (v 4),.int Z.b (v 5),.int Z.c (v 6)]) Z.ln n (strOf (preL k)) (strOf (postL k)) (selL k p) (gStep k o p).1 (gStep k o p).2.1 (gStep k o p).2.2 Z.bw sz tk gn Z.M Z.G O (fun v=>lnext_ok hn) (fun v=>ev_div3) (fun v=>by rw [ho]; exact ev_ieq (by rw [ho5]; rfl)) (fun v=>by rw [hk]; exact ev_ine (bne_iff_ne.mpr (by omega))) (fun v=>by rw [hk]; exact getS_ok (pre_item hk3) (by omega)) (fun v=>add_ok ((len_a1 l1 (Nat.le_refl 1)))) (fun v=>by rw [hk]; exact getS_ok (post_item hk3) (by omega)) (fun v=>add_ok ((len_a2 l1 l2 (Nat.le_refl 1)))) (fun v=>add_ok ((len_a3 hx l1 l2 (Nat.le_refl 1)))) (fun v=>by rw [hk]; exact getI_ok (sel_item hk3) (by omega)) (fun v=>by rw [hk]; exact set_ok' hk3 hg)).monoE fun v=>?_
  refine ⟨(v 0 1),((v 0 1)+5),((v 0 1)+6),(v 0 3),((v 0 1)+9),((v 0 1)+2),FnAt.eq ⟨⟨93,12,93,24⟩,v 0 4,v 0 5,v 0 6,v 7 3,v 7 4,v 7 5,v 5 3,v 7 0,v 7 1,v 7 2⟩ ?_⟩
  unfold pieceL
  rw [e1]
  rw [hk]
  rfl

theorem fn_aT (O:(view w b2 h0 B Z.bw d os).Ok) {i k o:Nat} {n:Int} (hk:Int.fmod n 3 = k) (ho:Int.ediv n 3 = o) (hk3:k < 3) (h5:o < 5) (hn:[Z.a,Z.b,Z.c][i]? = some n) {x:List Nat} (hx:x.length ≤ 1000) {p:Int × Int × Int} {t20 t21 t23:Nat} {xn xo xk:Value} {y:St} (h:FnAt Z i x p (fun t=>Z.F13 w.params x t t20 t21 t23 xn xo xk) y) :
    Goes (view w b2 h0 B Z.bw d os) y (fun y'=>∃ u1 u2 u3:Nat,FnAt Z (i+1) (x ++ pieceL k o) (gStep k o p) (fun t=>Z.F13 w.params (x ++ pieceL k o) t t20 t21 t23 (.int n u1) (.int (o1 k o:Nat) u2) (.int (k:Nat) u3)) y'):=by
  obtain ⟨pos,ta,tb,tc,t3,t4,t5,t19,sz,tk,gn⟩:=h
  have e1:o1 k o = o:=o1_a h5
  have hg:gStep k o p = put3 k (selL k p+wtL o) p:=by unfold gStep; rw [e1]
  have l1:=len_pre k
  have l2:=len_post k
  refine (fn_a w b2 h0 B d os pos i Z.c0 Z.c1 Z.c2 Z.c3 Z.c4 Z.it Z.l Z.gl Z.L [.int Z.a ta,.int Z.b tb,.int Z.c tc] Z.ln Z.x0 Z.x1 Z.x2 Z.x3 Z.x4 Z.x5 Z.x6 Z.x7 xn xo xk 0 0 0 t3 p.1 t4 p.2.1 t5 p.2.2 Z.t6 Z.t7 Z.t8 0 Z.t10 Z.t11 Z.t12 Z.t13 0 Z.t15 0 Z.t17 Z.t18 t19 (strOf x) t20 t21 0 t23 0 (fun v=>[.int Z.a (v 4),.int Z.b (v 5),.int Z.c (v 6)]) Z.ln n (strOf (preL k)) (strOf (postL k)) (selL k p) (wtL o) (gStep k o p).1 (gStep k o p).2.1 (gStep k o p).2.2 Z.bw sz tk gn Z.M Z.G O (fun v=>lnext_ok hn) (fun v=>ev_div3) (fun v=>by rw [ho]; exact ev_ieq (beq_eq_false_iff_ne.mpr (by omega))) (fun v=>by rw [hk]; exact getS_ok (pre_item hk3) (by omega)) (fun v=>by rw [ho]; exact ch_item (by omega)) (fun v=>add_ok ((len_a1 l1 (Nat.le_refl 1)))) (fun v=>by rw [hk]; exact getS_ok (post_item hk3) (by omega)) (fun v=>add_ok ((len_a2 l1 l2 (Nat.le_refl 1)))) (fun v=>add_ok ((len_a3 hx l1 l2 (Nat.le_refl 1)))) (fun v=>by rw [hk]; exact getI_ok (sel_item hk3) (by omega)) (fun v=>by rw [ho]; exact getI_ok (wt_item (by omega)) (by omega)) (fun v=>by rw [hk]; exact set_ok' hk3 hg)).monoE fun v=>?_
  refine ⟨(v 0 3),((v 0 1)+4),((v 0 1)+2),FnAt.eq ⟨⟨93,12,93,24⟩,v 0 4,v 0 5,v 0 6,v 8 3,v 8 4,v 8 5,v 5 3,v 8 0,v 8 1,v 8 2⟩ ?_⟩
  unfold pieceL
  rw [e1]
  rw [ho,hk]
  rfl

theorem fn_bT (O:(view w b2 h0 B Z.bw d os).Ok) {i k o:Nat} {n:Int} (hk:Int.fmod n 3 = k) (ho:Int.ediv n 3 = o) (hk3:k < 3) (ho5:o = 5) (hk1:k = 1) (hn:[Z.a,Z.b,Z.c][i]? = some n) {x:List Nat} (hx:x.length ≤ 1000) {p:Int × Int × Int} {t20 t21 t23:Nat} {xn xo xk:Value} {y:St} (h:FnAt Z i x p (fun t=>Z.F13 w.params x t t20 t21 t23 xn xo xk) y) :
    Goes (view w b2 h0 B Z.bw d os) y (fun y'=>∃ u1 u2 u3:Nat,FnAt Z (i+1) (x ++ pieceL k o) (gStep k o p) (fun t=>Z.F13 w.params (x ++ pieceL k o) t t20 t21 t23 (.int n u1) (.int (o1 k o:Nat) u2) (.int (k:Nat) u3)) y'):=by
  obtain ⟨pos,ta,tb,tc,t3,t4,t5,t19,sz,tk,gn⟩:=h
  have e1:o1 k o = o:=o1_b ho5 hk1
  have hg:gStep k o p = put3 k (selL k p+wtL o) p:=by unfold gStep; rw [e1]
  have l1:=len_pre k
  have l2:=len_post k
  refine (fn_b w b2 h0 B d os pos i Z.c0 Z.c1 Z.c2 Z.c3 Z.c4 Z.it Z.l Z.gl Z.L [.int Z.a ta,.int Z.b tb,.int Z.c tc] Z.ln Z.x0 Z.x1 Z.x2 Z.x3 Z.x4 Z.x5 Z.x6 Z.x7 xn xo xk 0 0 0 t3 p.1 t4 p.2.1 t5 p.2.2 Z.t6 Z.t7 Z.t8 0 Z.t10 Z.t11 Z.t12 Z.t13 0 Z.t15 0 Z.t17 Z.t18 t19 (strOf x) t20 0 t21 0 t23 0 (fun v=>[.int Z.a (v 4),.int Z.b (v 5),.int Z.c (v 6)]) Z.ln n (strOf (preL k)) (strOf (postL k)) (selL k p) (wtL o) (gStep k o p).1 (gStep k o p).2.1 (gStep k o p).2.2 Z.bw sz tk gn Z.M Z.G O (fun v=>lnext_ok hn) (fun v=>ev_div3) (fun v=>by rw [ho]; exact ev_ieq (by rw [ho5]; rfl)) (fun v=>by rw [hk]; exact ev_ine (by rw [hk1]; rfl)) (fun v=>by rw [hk]; exact getS_ok (pre_item hk3) (by omega)) (fun v=>by rw [ho]; exact ch_item (by omega)) (fun v=>add_ok ((len_a1 l1 (Nat.le_refl 1)))) (fun v=>by rw [hk]; exact getS_ok (post_item hk3) (by omega)) (fun v=>add_ok ((len_a2 l1 l2 (Nat.le_refl 1)))) (fun v=>add_ok ((len_a3 hx l1 l2 (Nat.le_refl 1)))) (fun v=>by rw [hk]; exact getI_ok (sel_item hk3) (by omega)) (fun v=>by rw [ho]; exact getI_ok (wt_item (by omega)) (by omega)) (fun v=>by rw [hk]; exact set_ok' hk3 hg)).monoE fun v=>?_
  refine ⟨(v 0 3),((v 0 1)+4),((v 0 1)+2),FnAt.eq ⟨⟨93,12,93,24⟩,v 0 4,v 0 5,v 0 6,v 8 3,v 8 4,v 8 5,v 5 3,v 8 0,v 8 1,v 8 2⟩ ?_⟩
  unfold pieceL
  rw [e1]
  rw [ho,hk]
  rfl

theorem fn_cT (O:(view w b2 h0 B Z.bw d os).Ok) {i k o:Nat} {n:Int} (hk:Int.fmod n 3 = k) (ho:Int.ediv n 3 = o) (hk3:k < 3) (ho5:o = 5) (hk1:k ≠ 1) (hn:[Z.a,Z.b,Z.c][i]? = some n) {x:List Nat} (hx:x.length ≤ 1000) {p:Int × Int × Int} {t20 t21 t23:Nat} {xn xo xk:Value} {y:St} (h:FnAt Z i x p (fun t=>Z.F13 w.params x t t20 t21 t23 xn xo xk) y) :
    Goes (view w b2 h0 B Z.bw d os) y (fun y'=>∃ u1 u2 u3:Nat,FnAt Z (i+1) (x ++ pieceL k o) (gStep k o p) (fun t=>Z.F13 w.params (x ++ pieceL k o) t t20 t21 t23 (.int n u1) (.int (o1 k o:Nat) u2) (.int (k:Nat) u3)) y'):=by
  obtain ⟨pos,ta,tb,tc,t3,t4,t5,t19,sz,tk,gn⟩:=h
  have e1:o1 k o = 0:=o1_c ho5 hk1
  have hg:gStep k o p = put3 k (selL k p+wtL 0) p:=by unfold gStep; rw [e1]
  have l1:=len_pre k
  have l2:=len_post k
  refine (fn_c w b2 h0 B d os pos i Z.c0 Z.c1 Z.c2 Z.c3 Z.c4 Z.it Z.l Z.gl Z.L [.int Z.a ta,.int Z.b tb,.int Z.c tc] Z.ln Z.x0 Z.x1 Z.x2 Z.x3 Z.x4 Z.x5 Z.x6 Z.x7 xn xo xk 0 0 0 t3 p.1 t4 p.2.1 t5 p.2.2 Z.t6 Z.t7 Z.t8 0 Z.t10 Z.t11 Z.t12 Z.t13 0 Z.t15 0 Z.t17 Z.t18 t19 (strOf x) t20 t21 0 t23 0 (fun v=>[.int Z.a (v 4),.int Z.b (v 5),.int Z.c (v 6)]) Z.ln n (strOf (preL k)) (strOf (postL k)) (selL k p) (gStep k o p).1 (gStep k o p).2.1 (gStep k o p).2.2 Z.bw sz tk gn Z.M Z.G O (fun v=>lnext_ok hn) (fun v=>ev_div3) (fun v=>by rw [ho]; exact ev_ieq (by rw [ho5]; rfl)) (fun v=>by rw [hk]; exact ev_ine (bne_iff_ne.mpr (by omega))) (fun v=>by rw [hk]; exact getS_ok (pre_item hk3) (by omega)) (fun v=>add_ok ((len_a1 l1 (Nat.le_refl 1)))) (fun v=>by rw [hk]; exact getS_ok (post_item hk3) (by omega)) (fun v=>add_ok ((len_a2 l1 l2 (Nat.le_refl 1)))) (fun v=>add_ok ((len_a3 hx l1 l2 (Nat.le_refl 1)))) (fun v=>by rw [hk]; exact getI_ok (sel_item hk3) (by omega)) (fun v=>by rw [hk]; exact set_ok' hk3 hg)).monoE fun v=>?_
  refine ⟨(v 0 3),((v 0 1)+9),((v 0 1)+2),FnAt.eq ⟨⟨93,12,93,24⟩,v 0 4,v 0 5,v 0 6,v 7 3,v 7 4,v 7 5,v 5 3,v 7 0,v 7 1,v 7 2⟩ ?_⟩
  unfold pieceL
  rw [e1]
  rw [hk]
  rfl
end
end Mine
end
section
open PySem PySem.W PySem.W.X PyProof.Rows
namespace Mine
noncomputable def textL (k0 o0 k1 o1 k2 o2:Nat):List Nat:=(([] ++ pieceL k0 o0) ++ pieceL k1 o1) ++ pieceL k2 o2
noncomputable def guestL (k0 o0 k1 o1 k2 o2:Nat):Int × Int × Int:=gStep k2 o2 (gStep k1 o1 (gStep k0 o0 (0,0,0)))
theorem piece_len (k o:Nat):(pieceL k o).length ≤ 3:=by
  have:=len_pre k
  have:=len_post k
  unfold pieceL
  rw [List.length_append,List.length_append,List.length_singleton]
  omega
section
variable {w:World} {b2:Bool} {h0:Heap} {B:List Frame} {d:Drawn} {os:OsState} {Z:FnZ}
theorem fn_first (O:(view w b2 h0 B Z.bw d os).Ok) {i k o:Nat} {n:Int} (hk:Int.fmod n 3 = k) (ho:Int.ediv n 3 = o) (hk3:k < 3) (ho6:o < 6) (hn:[Z.a,Z.b,Z.c][i]? = some n) {x:List Nat} (hx:x.length ≤ 1000) {p:Int × Int × Int} {y:St} (h:FnAt Z i x p (Z.F10 w.params x) y) :
    Goes (view w b2 h0 B Z.bw d os) y (fun y'=>∃ s20 s21 s23 u1 u2 u3:Nat,FnAt Z (i+1) (x ++ pieceL k o) (gStep k o p) (fun t=>Z.F13 w.params (x ++ pieceL k o) t s20 s21 s23 (.int n u1) (.int (o1 k o:Nat) u2) (.int (k:Nat) u3)) y'):=by
  by_cases h5:o < 5
  · exact fn_a0T O hk ho hk3 h5 hn hx h
  · have ho5:o = 5:=by omega
    by_cases hk1:k = 1
    · exact fn_b0T O hk ho hk3 ho5 hk1 hn hx h
    · exact fn_c0T O hk ho hk3 ho5 hk1 hn hx h
theorem fn_next (O:(view w b2 h0 B Z.bw d os).Ok) {i k o:Nat} {n:Int} (hk:Int.fmod n 3 = k) (ho:Int.ediv n 3 = o) (hk3:k < 3) (ho6:o < 6) (hn:[Z.a,Z.b,Z.c][i]? = some n) {x:List Nat} (hx:x.length ≤ 1000) {p:Int × Int × Int} {t20 t21 t23:Nat} {xn xo xk:Value} {y:St} (h:FnAt Z i x p (fun t=>Z.F13 w.params x t t20 t21 t23 xn xo xk) y) :
    Goes (view w b2 h0 B Z.bw d os) y (fun y'=>∃ u1 u2 u3:Nat,FnAt Z (i+1) (x ++ pieceL k o) (gStep k o p) (fun t=>Z.F13 w.params (x ++ pieceL k o) t t20 t21 t23 (.int n u1) (.int (o1 k o:Nat) u2) (.int (k:Nat) u3)) y'):=by
  by_cases h5:o < 5
  · exact fn_aT O hk ho hk3 h5 hn hx h
  · have ho5:o = 5:=by omega
    by_cases hk1:k = 1
    · exact fn_bT O hk ho hk3 ho5 hk1 hn hx h
    · exact fn_cT O hk ho hk3 ho5 hk1 hn hx h
inductive FnEnd (w:World) (Z:FnZ) (x:List Nat) (p:Int × Int × Int) (n:Int) (o k s20 s21 s23:Nat):St→Prop
  | it (c:Code) (pos:Pos) (t3 t4 t5 t19 u1 u2 u3 sz tk gn:Nat):FnEnd w Z x p n o k s20 s21 s23 (mk (.pure (.done .next)) c pos [] ((Z.gl,listO [.int p.1 t3,.int p.2.1 t4,.int p.2.2 t5] 0)::(Z.L,Z.F13 w.params x t19 s20 s21 s23 (.int n u1) (.int (o:Nat) u2) (.int (k:Nat) u3))::Z.M) sz tk Z.G gn)
theorem fn_last (O:(view w b2 h0 B Z.bw d os).Ok) {x:List Nat} {p:Int × Int × Int} {n:Int} {o k s20 s21 s23:Nat} {y:St} (h:∃ u1 u2 u3:Nat,FnAt Z 3 x p (fun t=>Z.F13 w.params x t s20 s21 s23 (.int n u1) (.int (o:Nat) u2) (.int (k:Nat) u3)) y) :
    Goes (view w b2 h0 B Z.bw d os) y (FnEnd w Z x p n o k s20 s21 s23):=by
  obtain ⟨u1,u2,u3,pos,ta,tb,tc,t3,t4,t5,t19,sz,tk,gn⟩:=h
  refine (fn_end (O:=O) (w:=w) (b2:=b2) (h0:=h0) (B:=B) (d:=d) (os:=os) (pos0:=pos) (k:=3) (c0:=Z.c0) (c1:=Z.c1) (c2:=Z.c2) (c3:=Z.c3) (c4:=Z.c4) (it:=Z.it) (l:=Z.l) (gl:=Z.gl) (L:=Z.L) (lv:=[.int Z.a ta,.int Z.b tb,.int Z.c tc]) (ln:=Z.ln) (x0:=Z.x0) (x1:=Z.x1) (x2:=Z.x2) (x3:=Z.x3) (x4:=Z.x4) (x5:=Z.x5) (x6:=Z.x6) (x7:=Z.x7) (xn:=.int n u1) (xo:=.int (o:Nat) u2) (xk:=.int (k:Nat) u3) (t0:=0) (t1:=0) (t2:=0) (t3:=t3) (p:=p.1) (t4:=t4) (q:=p.2.1) (t5:=t5) (r:=p.2.2) (t6:=Z.t6) (t7:=Z.t7) (t8:=Z.t8) (t9:=0) (t10:=Z.t10) (t11:=Z.t11) (t12:=Z.t12) (t13:=Z.t13) (t14:=0) (t15:=Z.t15) (t16:=0) (t17:=Z.t17) (t18:=Z.t18) (t19:=t19) (tx:=strOf x) (t20:=s20) (t21:=s21) (t22:=0) (t23:=s23) (t24:=0) (lw:=fun v=>[.int Z.a (v 5),.int Z.b (v 6),.int Z.c (v 7)]) (lwn:=Z.ln) (bw:=Z.bw) (sz:=sz) (tk:=tk) (gn:=gn) (M:=Z.M) (G:=Z.G) (e0:=fun v=>lend_ok)).monoE fun v=>?_
  exact ⟨_,⟨88,12,88,13⟩,t3,t4,t5,t19,u1,u2,u3,v 0 0,v 0 1,v 0 2⟩
end
section
variable {w:World} {b2:Bool} {h0:Heap} {B:List Frame} {d:Drawn} {os:OsState} {bw:List (Code × Pos)} {ks:List Nat}
theorem norm_forV {c:Code} {a:PySem.Expr} {v:Value} {b l:List Stmt} {e:Env} (h:normC c = .forLoop a v b l e):c = .forLoop a v b l e:=norm_for h
theorem fn_ok {k0 o0 k1 o1v k2 o2:Nat} {n0 n1 n2:Int} (hk0:Int.fmod n0 3 = k0) (ho0:Int.ediv n0 3 = o0) (hk1:Int.fmod n1 3 = k1) (ho1:Int.ediv n1 3 = o1v) (hk2:Int.fmod n2 3 = k2) (ho2:Int.ediv n2 3 = o2)
    (b0:k0 < 3) (b1:k1 < 3) (b3:k2 < 3) (d0:o0 < 6) (d1:o1v < 6) (d3:o2 < 6)
    {it l gl L c0 c1 c2 c3 c4 ln t6 t7 t8 t10 t11 t12 t13 t15 t17 t18 t19:Nat} {x0 x1 x2 x3 x4 x5 x6 x7:Value} :
    CallN (view w b2 h0 B bw d os) ks (.forLoop fLaw_t88 (.ref it) fLaw_b88 [] (envF fLaws fLawq 123 [(z77,c4),(z75,c3),(z74,c2),(z59,c1),(z43,c0)] L))
      [(it,lit (.ref l) 0),(l,listO [.int n0 0,.int n1 0,.int n2 0] ln),(gl,listO [.int 0 0,.int 0 0,.int 0 0] 0),(L,nsO [ent w.params z53 t6 x0,ent w.params z54 t7 x1,ent w.params z55 t8 x2,ent w.params z56 t10 x3,ent w.params z57 t11 x4,ent w.params z58 t12 x5,ent w.params z61 t13 x6,ent w.params z60 t15 x7,ent w.params z39 t17 (.ref gl),ent w.params z38 t18 (.str z26 t19)] 10)] []
      (fun v=>⟨some [],[(gl,listO [.int (guestL k0 o0 k1 o1v k2 o2).1 (v 3),.int (guestL k0 o0 k1 o1v k2 o2).2.1 (v 4),.int (guestL k0 o0 k1 o1v k2 o2).2.2 (v 5)] 0),(L,nsO [ent w.params z53 t6 x0,ent w.params z54 t7 x1,ent w.params z55 t8 x2,ent w.params z56 t10 x3,ent w.params z57 t11 x4,ent w.params z58 t12 x5,ent w.params z61 t13 x6,ent w.params z60 t15 x7,ent w.params z39 t17 (.ref gl),ent w.params z38 t18 (.str (strOf (textL k0 o0 k1 o1v k2 o2)) (v 6)),ent w.params z64 (v 7) (.int n2 (v 10)),ent w.params z63 (v 8) (.int (o1 k2 o2:Nat) (v 11)),ent w.params z62 (v 9) (.int (k2:Nat) (v 12))] 13)],.ok .next⟩):=by
  intro bw' c R sz tk gn hk hc hR pos V' u M G
  obtain ⟨B',rfl,O⟩:=under_view u
  obtain rfl:=norm_for hc
  obtain ⟨q1,R1,rfl,m1,hR⟩:=norm_cons hR
  obtain ⟨q2,R2,rfl,m2,hR⟩:=norm_cons hR
  obtain ⟨q3,R3,rfl,m3,hR⟩:=norm_cons hR
  obtain ⟨q4,rfl,m4⟩:=norm_one hR
  obtain rfl:=norm_fields m1
  obtain ⟨ta,tb,tc,rfl⟩:=norm_list3 m2
  obtain ⟨t3,t4,t5,rfl⟩:=norm_list3 m3
  obtain rfl:=norm_ns m4
  rw [← den_eq]
  let Z:FnZ:=⟨it,l,gl,L,c0,c1,c2,c3,c4,ln,t6,t7,t8,t10,t11,t12,t13,t15,t17,t18,x0,x1,x2,x3,x4,x5,x6,x7,n0,n1,n2,bw',M,G⟩
  have p0:=piece_len k0 o0
  have p1:=piece_len k1 o1v
  have st:FnAt Z 0 [] (0,0,0) (Z.F10 w.params []) (mk (den Z.C) Z.C pos [] ((it,lit (.ref l) 0)::(l,listO [.int n0 ta,.int n1 tb,.int n2 tc] ln)::(gl,listO [.int 0 t3,.int 0 t4,.int 0 t5] 0)::(L,Z.F10 w.params [] t19)::M) sz tk G gn) :=
    ⟨pos,ta,tb,tc,t3,t4,t5,t19,sz,tk,gn⟩
  have key:=(fn_first (Z:=Z) (b2:=b2) (h0:=h0) (B:=B') (d:=d) (os:=os) O hk0 ho0 b0 d0 rfl (Nat.zero_le _) st).trans fun y ⟨s20,s21,s23,_,_,_,hy⟩=>(fn_next (Z:=Z) O hk1 ho1 b1 d1 rfl (by simp; omega) hy).trans fun y ⟨_,_,_,hy⟩=>(fn_next (Z:=Z) O hk2 ho2 b3 d3 rfl (by simp; omega) hy).trans fun y hy=>(fn_last (Z:=Z) O hy).mono fun y hy=>(⟨s20,s21,s23,hy⟩:∃ s20 s21 s23,FnEnd w Z _ _ _ _ _ s20 s21 s23 y)
  refine Goes.mono key fun y hy=>?_
  obtain ⟨s20,s21,s23,cc,pp,r3,r4,r5,r19,u1,u2,u3,sz',tk',gn'⟩:=hy
  exact ⟨consv sz' (consv tk' (consv gn' (consv r3 (consv r4 (consv r5 (consv r19 (consv s20 (consv s21 (consv s23 (consv u1 (consv u2 (consv u3 (fun _=>0))))))))))))),cc,pp,rfl⟩
theorem fn_ok' {k0 o0 k1 o1v k2 o2:Nat} {n0 n1 n2:Int} (hk0:Int.fmod n0 3 = k0) (ho0:Int.ediv n0 3 = o0) (hk1:Int.fmod n1 3 = k1) (ho1:Int.ediv n1 3 = o1v) (hk2:Int.fmod n2 3 = k2) (ho2:Int.ediv n2 3 = o2)
    (b0:k0 < 3) (b1:k1 < 3) (b3:k2 < 3) (d0:o0 < 6) (d1:o1v < 6) (d3:o2 < 6)
    {it l gl L c0 c1 c2 c3 c4 ln t6 t7 t8 t10 t11 t12 t13 t15 t17 t18 t19 t20 t21 t23:Nat} {x0 x1 x2 x3 x4 x5 x6 x7 xn xo xk:Value} :
    CallN (view w b2 h0 B bw d os) ks (.forLoop fLaw_t88 (.ref it) fLaw_b88 [] (envF fLaws fLawq 123 [(z77,c4),(z75,c3),(z74,c2),(z59,c1),(z43,c0)] L))
      [(it,lit (.ref l) 0),(l,listO [.int n0 0,.int n1 0,.int n2 0] ln),(gl,listO [.int 0 0,.int 0 0,.int 0 0] 0),(L,nsO [ent w.params z53 t6 x0,ent w.params z54 t7 x1,ent w.params z55 t8 x2,ent w.params z56 t10 x3,ent w.params z57 t11 x4,ent w.params z58 t12 x5,ent w.params z61 t13 x6,ent w.params z60 t15 x7,ent w.params z39 t17 (.ref gl),ent w.params z38 t18 (.str z26 t19),ent w.params z64 t20 xn,ent w.params z63 t21 xo,ent w.params z62 t23 xk] 13)] []
      (fun v=>⟨some [],[(gl,listO [.int (guestL k0 o0 k1 o1v k2 o2).1 (v 3),.int (guestL k0 o0 k1 o1v k2 o2).2.1 (v 4),.int (guestL k0 o0 k1 o1v k2 o2).2.2 (v 5)] 0),(L,nsO [ent w.params z53 t6 x0,ent w.params z54 t7 x1,ent w.params z55 t8 x2,ent w.params z56 t10 x3,ent w.params z57 t11 x4,ent w.params z58 t12 x5,ent w.params z61 t13 x6,ent w.params z60 t15 x7,ent w.params z39 t17 (.ref gl),ent w.params z38 t18 (.str (strOf (textL k0 o0 k1 o1v k2 o2)) (v 6)),ent w.params z64 t20 (.int n2 (v 7)),ent w.params z63 t21 (.int (o1 k2 o2:Nat) (v 8)),ent w.params z62 t23 (.int (k2:Nat) (v 9))] 13)],.ok .next⟩):=by
  intro bw' c R sz tk gn hk hc hR pos V' u M G
  obtain ⟨B',rfl,O⟩:=under_view u
  obtain rfl:=norm_for hc
  obtain ⟨q1,R1,rfl,m1,hR⟩:=norm_cons hR
  obtain ⟨q2,R2,rfl,m2,hR⟩:=norm_cons hR
  obtain ⟨q3,R3,rfl,m3,hR⟩:=norm_cons hR
  obtain ⟨q4,rfl,m4⟩:=norm_one hR
  obtain rfl:=norm_fields m1
  obtain ⟨ta,tb,tc,rfl⟩:=norm_list3 m2
  obtain ⟨t3,t4,t5,rfl⟩:=norm_list3 m3
  obtain rfl:=norm_ns m4
  rw [← den_eq]
  let Z:FnZ:=⟨it,l,gl,L,c0,c1,c2,c3,c4,ln,t6,t7,t8,t10,t11,t12,t13,t15,t17,t18,x0,x1,x2,x3,x4,x5,x6,x7,n0,n1,n2,bw',M,G⟩
  have p0:=piece_len k0 o0
  have p1:=piece_len k1 o1v
  have st:FnAt Z 0 [] (0,0,0) (fun t=>Z.F13 w.params [] t t20 t21 t23 xn xo xk) (mk (den Z.C) Z.C pos [] ((it,lit (.ref l) 0)::(l,listO [.int n0 ta,.int n1 tb,.int n2 tc] ln)::(gl,listO [.int 0 t3,.int 0 t4,.int 0 t5] 0)::(L,Z.F13 w.params [] t19 t20 t21 t23 xn xo xk)::M) sz tk G gn) :=
    ⟨pos,ta,tb,tc,t3,t4,t5,t19,sz,tk,gn⟩
  have key:=(fn_next (Z:=Z) (b2:=b2) (h0:=h0) (B:=B') (d:=d) (os:=os) O hk0 ho0 b0 d0 rfl (Nat.zero_le _) st).trans fun y ⟨_,_,_,hy⟩=>(fn_next (Z:=Z) O hk1 ho1 b1 d1 rfl (by simp; omega) hy).trans fun y ⟨_,_,_,hy⟩=>(fn_next (Z:=Z) O hk2 ho2 b3 d3 rfl (by simp; omega) hy).trans fun y hy=>fn_last (Z:=Z) O hy
  refine Goes.mono key fun y hy=>?_
  obtain ⟨cc,pp,r3,r4,r5,r19,u1,u2,u3,sz',tk',gn'⟩:=hy
  exact ⟨consv sz' (consv tk' (consv gn' (consv r3 (consv r4 (consv r5 (consv r19 (consv u1 (consv u2 (consv u3 (fun _=>0)))))))))),cc,pp,rfl⟩
end
end Mine
end
section
open PySem PySem.W PySem.W.X PyProof.Rows
namespace Mine
noncomputable def tupO (x y:Str):Obj:=⟨.type "tuple",none,.seq ⟨[.str x 0,.str y 0]⟩ 0,⟨[]⟩⟩
structure Row where
  b:Addr
  a:Addr
  x:Str
  y:Str
  x':Str
  y':Str
theorem norm_mem {R nR:List (Addr × Obj)} (h:R.map normM = nR) {a:Addr} {no:Obj} (hm:(a,no) ∈ nR):∃ o,(a,o) ∈ R ∧ normM (a,o) = (a,no):=by
  subst h
  obtain ⟨p,hp,e⟩:=List.mem_map.mp hm
  have e1:p.1 = a:=congrArg Prod.fst e
  subst e1
  exact ⟨p.2,hp,e⟩
theorem norm_tup {a:Addr} {o:Obj} {x y:Str} (h:normM (a,o) = (a,tupO x y)):∃ t u,o = ⟨.type "tuple",none,.seq ⟨[.str x t,.str y u]⟩ 0,⟨[]⟩⟩:=by
  obtain ⟨c,d,dt,sl⟩:=o
  cases dt <;> simp only [normM,normO,tupO,Prod.mk.injEq,Obj.mk.injEq,Data.seq.injEq,reduceCtorEq,and_false,false_and,true_and] at h
  rename_i xs ep
  obtain ⟨rfl,rfl,⟨h1,rfl⟩,rfl⟩:=h
  obtain ⟨xs⟩:=xs
  have h1:xs.map noTok = [.str x 0,.str y 0]:=by simpa using h1
  obtain ⟨p,q,rfl,e1,e2⟩:=map_two h1
  obtain ⟨t,rfl⟩:=noTok_str e1
  obtain ⟨u,rfl⟩:=noTok_str e2
  exact ⟨t,u,rfl⟩
theorem map_refs:∀ {vs:List Value} {as:List Addr},vs.map noTok = as.map Value.ref→vs = as.map Value.ref
  | [],[],_=>rfl
  | [],_::_,h=>by cases h
  | _::_,[],h=>by cases h
  | v::vs,a::as,h=>by
    simp only [List.map_cons,List.cons.injEq] at h
    rw [List.map_cons,noTok_ref h.1,map_refs h.2]
section
variable {V:Vw} {ks:List Nat}
theorem leq_ok {rows:List Row} {l l':Addr} {n n':Nat} {nR:List (Addr × Obj)} (hk:ks.length ≤ 100) (he:∀ r ∈ rows,r.x = r.x' ∧ r.y = r.y') (h1:(l,listO (rows.map fun r=>.ref r.a) n) ∈ nR) (h2:(l',listO (rows.map fun r=>.ref r.b) n') ∈ nR)
    (h3:∀ r ∈ rows,(r.a,tupO r.x r.y) ∈ nR ∧ (r.b,tupO r.x' r.y') ∈ nR) :
    CallN V ks (.call (.builtin "list.__eq__") ⟨[.ref l,.ref l'],[]⟩) nR [] (fun v=>⟨none,[],.ok (.ret (.bool true))⟩):=by
  intro bw cd R sz tk gn hks hc hR pos V' u M G
  obtain ⟨v,v',rfl,hv,hv'⟩:=norm_call2 hc
  obtain rfl:=noTok_ref hv
  obtain rfl:=noTok_ref hv'
  have hbw:bw.length = ks.length:=by rw [← hks,List.length_map]
  refine goes_callRU u fun A hh hU s r=>?_
  have key:∀ {a:Addr} {no:Obj},(a,no) ∈ nR→∃ o,s.heap.get? a = some o ∧ normM (a,o) = (a,no):=fun hm=>by
    obtain ⟨o,ho,e⟩:=norm_mem hR hm
    exact ⟨o,(r.mem _ (List.mem_append_left _ ho)).2,e⟩
  have lst:∀ {a:Addr} {as:List Addr} {n:Nat},(a,listO (as.map Value.ref) n) ∈ nR→s.heap.get? a = some (listO (as.map Value.ref) n):=fun {a as n} hm=>by
    obtain ⟨o,ho,e⟩:=key hm
    obtain ⟨vs,rfl,e2⟩:=norm_list e
    rw [map_refs e2] at ho
    exact ho
  have tup:∀ {a:Addr} {x y:Str},(a,tupO x y) ∈ nR→∃ t u,s.heap.IsTuple a ⟨[.str x t,.str y u]⟩:=fun {a x y} hm=>by
    obtain ⟨o,ho,e⟩:=key hm
    obtain ⟨t,u,rfl⟩:=norm_tup e
    exact ⟨t,u,_,ho,rfl,0,rfl⟩
  have hl:s.heap.get? l = some (listO ((rows.map (·.a)).map Value.ref) n):=lst (by rw [List.map_map]; exact h1)
  have hb:s.heap.get? l' = some (listO ((rows.map (·.b)).map Value.ref) n'):=lst (by rw [List.map_map]; exact h2)
  have hcl:A.in1.in1.units < cLine:=by
    show A.units+1+1 < 9900
    omega
  refine call_meets F.slot_list_eq ⟨_,hl,rfl⟩ F.entry_list_eq (F.args_list_eq_2 _ _) (SeqAt.list_eqAt l l' ⟨(rows.map (fun r:Row=>r.a)).map Value.ref⟩ ⟨(rows.map (fun r:Row=>r.b)).map Value.ref⟩ n n' none none ⟨[]⟩ ⟨[]⟩ (by simp) (fun _=>true)) ⟨hl,hb,?_,?_⟩
  · intro j j1 j2
    have j1:j < rows.length:=by simpa using j1
    have e1:(⟨(rows.map (·.a)).map Value.ref⟩:Array Value)[j] = .ref rows[j].a:=by simp
    have e2:(⟨(rows.map (·.b)).map Value.ref⟩:Array Value)[j] = .ref rows[j].b:=by simp
    rw [e1,e2]
    have hr:=List.getElem_mem j1
    obtain ⟨t,u,ht⟩:=tup (h3 _ hr).1
    obtain ⟨t',u',ht'⟩:=tup (h3 _ hr).2
    by_cases hab:rows[j].a = rows[j].b
    · rw [hab]; exact SeqAt.EqAt.same _
    · refine SeqAt.EqAt.of_refs hab ?_
      have:=SeqAt.RcAt.tuples (e:=fun _=>true) ht ht' (A:=A.in1) (Nat.lt_of_succ_lt hcl) fun i i1 i2=>?_
      · have t2:SeqAt.RcAt A.in1 s (.ref rows[j].a) (.ref rows[j].b) ((List.range 2).all fun _=>true):=by simpa using this
        exact t2
      · have i1:i < 2:=by simpa using i1
        match i,i1 with
        | 0,_ =>
          have:=SeqAt.EqAt.str_str (A:=A.in1.in1) (s:=s) rows[j].x t rows[j].x' t'
          rw [(he _ hr).1,beq_self_eq_true] at this
          rw [← (he _ hr).1] at this
          rw [← (he _ hr).1]
          exact this
        | 1,_ =>
          have:=SeqAt.EqAt.str_str (A:=A.in1.in1) (s:=s) rows[j].y u rows[j].y' u'
          rw [(he _ hr).2,beq_self_eq_true] at this
          rw [← (he _ hr).2] at this
          rw [← (he _ hr).2]
          exact this
  · refine ⟨fun _=>0,by simp,fun b o e _=>e,fun p hp=>(by cases hp),List.nodup_nil,rfl,fun p hp=>(r.mem p (List.mem_append_left _ hp)).2,rfl,rfl,rfl⟩
end
end Mine
end
section
open PySem PySem.W PySem.W.X PyProof.Rows
namespace Mine
noncomputable def okT (x:List Nat) (g:Int × Int × Int):Bool :=
  !x.isEmpty && !(sqEnd x).esc && (sqEnd x).op.isNone && Nat.ble ((sqEnd x).out.map List.length).sum 1000 && Nat.ble x.length 1000 &&
  lgOk false (sqOut x) && decide ((lgG false (sqOut x) (0,0)).1 = g.1) && decide ((lgG false (sqOut x) (0,0)).2 = g.2.1) && decide (0 ≤ g.1) && decide (g.1 ≤ 12) && decide (0 ≤ g.2.1) && decide (g.2.1 ≤ 12)
noncomputable def okA (k0 o0:Nat):Bool:=(List.range 3).all fun k1=>(List.range 6).all fun o1=>(List.range 3).all fun k2=>(List.range 6).all fun o2=>okT (textL k0 o0 k1 o1 k2 o2) (guestL k0 o0 k1 o1 k2 o2)
theorem okA_00:okA 0 0 = true:=by kernel_rfl
theorem okA_01:okA 0 1 = true:=by kernel_rfl
theorem okA_02:okA 0 2 = true:=by kernel_rfl
theorem okA_03:okA 0 3 = true:=by kernel_rfl
theorem okA_04:okA 0 4 = true:=by kernel_rfl
theorem okA_05:okA 0 5 = true:=by kernel_rfl
theorem okA_10:okA 1 0 = true:=by kernel_rfl
theorem okA_11:okA 1 1 = true:=by kernel_rfl
theorem okA_12:okA 1 2 = true:=by kernel_rfl
theorem okA_13:okA 1 3 = true:=by kernel_rfl
theorem okA_14:okA 1 4 = true:=by kernel_rfl
theorem okA_15:okA 1 5 = true:=by kernel_rfl
theorem okA_20:okA 2 0 = true:=by kernel_rfl
theorem okA_21:okA 2 1 = true:=by kernel_rfl
theorem okA_22:okA 2 2 = true:=by kernel_rfl
theorem okA_23:okA 2 3 = true:=by kernel_rfl
theorem okA_24:okA 2 4 = true:=by kernel_rfl
theorem okA_25:okA 2 5 = true:=by kernel_rfl
theorem okA_all {k o:Nat} (hk:k < 3) (ho:o < 6):okA k o = true:=by
  match k,o,hk,ho with
  | 0,0,_,_=>exact okA_00
  | 0,1,_,_=>exact okA_01
  | 0,2,_,_=>exact okA_02
  | 0,3,_,_=>exact okA_03
  | 0,4,_,_=>exact okA_04
  | 0,5,_,_=>exact okA_05
  | 1,0,_,_=>exact okA_10
  | 1,1,_,_=>exact okA_11
  | 1,2,_,_=>exact okA_12
  | 1,3,_,_=>exact okA_13
  | 1,4,_,_=>exact okA_14
  | 1,5,_,_=>exact okA_15
  | 2,0,_,_=>exact okA_20
  | 2,1,_,_=>exact okA_21
  | 2,2,_,_=>exact okA_22
  | 2,3,_,_=>exact okA_23
  | 2,4,_,_=>exact okA_24
  | 2,5,_,_=>exact okA_25
theorem okT_all {k0 o0 k1 o1 k2 o2:Nat} (hk0:k0 < 3) (ho0:o0 < 6) (hk1:k1 < 3) (ho1:o1 < 6) (hk2:k2 < 3) (ho2:o2 < 6):okT (textL k0 o0 k1 o1 k2 o2) (guestL k0 o0 k1 o1 k2 o2) = true:=by
  have h:=okA_all hk0 ho0
  unfold okA at h
  have h:=List.all_eq_true.mp h k1 (List.mem_range.mpr hk1)
  have h:=List.all_eq_true.mp h o1 (List.mem_range.mpr ho1)
  have h:=List.all_eq_true.mp h k2 (List.mem_range.mpr hk2)
  exact List.all_eq_true.mp h o2 (List.mem_range.mpr ho2)
theorem okT_use {x:List Nat} {g:Int × Int × Int} (h:okT x g = true):SqGood x ∧ lgOk false (sqOut x) = true ∧ lgG false (sqOut x) (0,0) = (g.1,g.2.1) ∧ (0 ≤ g.1 ∧ g.1 ≤ 12) ∧ (0 ≤ g.2.1 ∧ g.2.1 ≤ 12):=by
  unfold okT at h
  simp only [Bool.and_eq_true,Bool.not_eq_true',decide_eq_true_eq,Nat.ble_eq,Option.isNone_iff_eq_none] at h
  obtain ⟨⟨⟨⟨⟨⟨⟨⟨⟨⟨⟨h1,h2⟩,h3⟩,h4⟩,h5⟩,h6⟩,h7⟩,h8⟩,h9⟩,h10⟩,h11⟩,h12⟩:=h
  refine ⟨⟨fun e=>?_,h2,h3,h4,h5⟩,h6,Prod.ext h7 h8,⟨h9,h10⟩,h11,h12⟩
  rw [e] at h1
  cases h1
end Mine
end
section
open PySem PySem.W PySem.W.X PyProof.Rows
namespace Mine
theorem pick_one (vs:List Value) (k:Nat):slicePick ⟨vs⟩ (some (k:Int)) (some ((k:Int)+1)) none = ⟨(vs.drop k).take 1⟩:=by
  by_cases h:k+1 ≤ vs.length
  · have:=slicePick_run ⟨vs⟩ k (k+1) h (Nat.le_succ _)
    rw [show ((k+1:Nat):Int) = (k:Int)+1 by omega,show k+1 - k = 1 by omega] at this
    exact this
  · have hk:vs.length ≤ k:=by omega
    have e:sliceBounds (some (k:Int)) (some ((k:Int)+1)) none (⟨vs⟩:Array Value).size = sliceBounds (some ((vs.length:Nat):Int)) (some ((vs.length:Nat):Int)) none (⟨vs⟩:Array Value).size:=by
      have hs:(⟨vs⟩:Array Value).size = vs.length:=rfl
      rw [hs]
      simp only [sliceBounds,Option.getD_none]
      have h1:¬ ((k:Int) < 0):=by omega
      have h2:¬ ((k:Int)+1 < 0):=by omega
      have h3:¬ ((vs.length:Int) < 0):=by omega
      simp only [h1,h2,h3,if_false,show (1:Int) > 0 by decide,if_true]
      congr 1
      · omega
      · congr 1; omega
    have:=slicePick_run ⟨vs⟩ vs.length vs.length (Nat.le_refl _) (Nat.le_refl _)
    unfold slicePick at this ⊢
    rw [e,this]
    rw [Nat.sub_self,List.take_zero,List.drop_eq_nil_of_le hk,List.take_nil]
section
variable {V:Vw} {ks:List Nat}
theorem lslice_ok {l a:Addr} {ns:List Int} {k ti tj n:Nat} (hl:ns.length ≤ 1000) :
    CallN V ks (.call (.builtin "list.__getitem__") ⟨[.ref l,.ref a],[]⟩) [(a,⟨.type "slice",none,.fields ⟨[.int (k:Int) ti,.int ((k:Int)+1) tj,.none]⟩,⟨[]⟩⟩),(l,listO (ns.map fun i=>Value.int i 0) n)] []
      (fun v=>⟨none,[(v 3,listO (((ns.drop k).take 1).map fun i=>Value.int i (v 4)) 0)],.ok (.ret (.ref (v 3)))⟩):=by
  intro bw c R sz tk gn _ hc hR pos V' u M G
  obtain ⟨v,v',rfl,hv,hv'⟩:=norm_call2 hc
  obtain rfl:=noTok_ref hv
  obtain rfl:=noTok_ref hv'
  obtain ⟨o1,R1,rfl,n1,hR⟩:=norm_cons hR
  obtain ⟨o2,rfl,n2⟩:=norm_one hR
  obtain rfl:=norm_fields n1
  obtain ⟨vs,rfl,e⟩:=norm_list n2
  have hlen:vs.length = ns.length:=by
    have:=congrArg List.length e
    simpa using this
  obtain ⟨t,ht⟩:∃ t,(vs.drop k).take 1 = ((ns.drop k).take 1).map fun i=>Value.int i t:=by
    have h:((vs.drop k).take 1).map noTok = ((ns.drop k).take 1).map fun i=>Value.int i 0:=by
      rw [List.map_take,List.map_drop,e,List.map_take,List.map_drop]
    cases h1:(ns.drop k).take 1 with
    | nil =>
      rw [h1] at h
      exact ⟨0,List.map_eq_nil_iff.mp h⟩
    | cons x r =>
      have hr:r = []:=by
        have:((ns.drop k).take 1).length ≤ 1:=List.length_take_le _ _
        rw [h1,List.length_cons] at this
        exact List.length_eq_zero_iff.mp (by omega)
      subst hr
      rw [h1] at h
      obtain ⟨y,hy,e1⟩:=map1 h
      obtain ⟨t,rfl⟩:=noTok_int e1
      exact ⟨t,hy⟩
  refine goes_callR u fun A hh s r=>?_
  have hs:s.heap.get? a = some ⟨.type "slice",none,.fields ⟨[.int (k:Int) ti,.int ((k:Int)+1) tj,.none]⟩,⟨[]⟩⟩:=(r.mem _ (.head _)).2
  have hv:s.heap.get? l = some (listO vs n):=(r.mem _ (.tail _ (.head _))).2
  have hTs:s.TypeIs (.ref a) "slice":=⟨_,hs,rfl⟩
  refine wpAny_call_entry slot_list_getitem ⟨_,hv,rfl⟩ entry_list_getitem ?_ (args_list_getitem _ _)
  show wpAny _ _ (Builtin.List.listSubscript? (.ref a) >>= _) _ _ s
  refine wpAny_bind ?_
  unfold Builtin.List.listSubscript?
  refine wpAny_bind (wpAny_specialOf hTs slice_no_index ?_)
  simp only [Option.isNone_none,if_true]
  refine wpAny_pure ?_
  show wpAny _ _ (typeOf (.ref a) >>= _) _ _ s
  refine wpAny_bind (wpAny_typeOf hTs ?_)
  rw [if_neg (by decide)]
  rw [listSliceParts_eq]
  refine wpAny_bind (wpAny_bind (wpAny_field hs rfl (x:=.none) rfl (wpAny_bind (wpAny_listPart .none ?_))))
  rw [if_neg (show ¬ ((rawPart none == rawInt 0) = true) from Bool.false_ne_true)]
  refine wpAny_bind (wpAny_field hs rfl (x:=.int (k:Int) ti) rfl (wpAny_bind (wpAny_listPart (.int _ _) ?_)))
  refine wpAny_bind (wpAny_field hs rfl (x:=.int ((k:Int)+1) tj) rfl (wpAny_bind (wpAny_listPart (.int _ _) (wpAny_pure ?_))))
  refine wpAny_bind (m:=Builtin.List.listItems (.ref l)) ?_
  unfold Builtin.List.listItems
  refine wpAny_bind (wpAny_seqItems hv rfl (wpAny_pure ?_))
  refine wpAny_bind (wpAny_of_eq (sliceIndices_raw (some (k:Int)) (some ((k:Int)+1)) none (⟨vs⟩:Array Value).size (by simp)) ?_)
  have hpick:=pick_one vs k
  rw [ht] at hpick
  refine wpAny_bind (wpAny_newObj_type (wpAny_pure ⟨_,rfl,?_⟩) (Nat.le_trans (slicePick_size_le ⟨vs⟩ (some (k:Int)) (some ((k:Int)+1)) none) ?_))
  · refine ⟨fun i=>match i with | 0=>s.heap.objs.size | _=>t,rfl,fun b o e _=>Heap.get?_push_of_some _ e,fun p hp=>?_,by simp,rfl,fun p hp=>?_,rfl,rfl,rfl⟩
    · obtain rfl:=List.mem_singleton.mp hp
      refine ⟨Nat.le_refl _,?_⟩
      show Heap.get? (s.heap.push ⟨.type "list",none,.seq (slicePick ⟨vs⟩ (some (k:Int)) (some ((k:Int)+1)) none) 0,⟨[]⟩⟩) s.heap.objs.size = some (listO (((ns.drop k).take 1).map fun i=>Value.int i t) 0)
      rw [hpick]
      exact Heap.get?_push_size _ rfl
    · exact Heap.get?_push_of_some _ (r.mem p (List.mem_append_left _ hp)).2
  · show vs.length ≤ sizeLine
    rw [sizeLine_eq]; omega
end
end Mine
end
section
open PySem PySem.W PySem.W.X PyProof.Rows
namespace Mine
noncomputable def bl (n:Nat):List Nat:=List.replicate n 32
noncomputable def lnL (a b:Nat):List Nat:=bl a ++ 120::bl b
noncomputable def ln (a b:Nat):Str:=strOf (lnL a b)
theorem bl_add (a b:Nat):bl a ++ bl b = bl (a+b):=List.replicate_append_replicate
theorem bl_len (a:Nat):(bl a).length = a:=List.length_replicate
theorem lnL_len (a b:Nat):(lnL a b).length = a+b+1:=by unfold lnL; rw [List.length_append,List.length_cons,bl_len,bl_len]; omega
theorem z67_ln:z67 = ln 0 0:=rfl
theorem flat_one (n:Nat):(List.replicate n [32]).flatten = bl n:=by
  unfold bl
  induction n with
  | zero=>rfl
  | succ n ih=>rw [List.replicate_succ,List.replicate_succ,List.flatten_cons,ih]; rfl
theorem mul_bl (n:Int):sMul z10 n = strOf (bl n.toNat):=by
  show strOf ((List.replicate n.toNat [32]).flatten) = _
  rw [flat_one]
theorem add_str (a b:List Nat):sAdd (strOf a) (strOf b) = strOf (a ++ b):=rfl
theorem line_eq (n:Int) (a b:Nat):sAdd (sMul z10 n) (ln a b) = ln (n.toNat+a) b:=by
  rw [mul_bl]
  show strOf (bl n.toNat ++ (bl a ++ 120::bl b)) = strOf (bl (n.toNat+a) ++ 120::bl b)
  rw [← List.append_assoc,bl_add]
theorem right_eq (n:Int) (a b:Nat):sAdd (ln a b) (sMul z10 n) = ln a (b+n.toNat):=by
  rw [mul_bl]
  show strOf ((bl a ++ 120::bl b) ++ bl n.toNat) = strOf (bl a ++ 120::bl (b+n.toNat))
  rw [List.append_assoc,List.cons_append,bl_add]
theorem len_ln (a b:Nat):sLen (ln a b) = ((a+b+1:Nat):Int):=by
  show (((lnL a b).length:Nat):Int) = _
  rw [lnL_len]
theorem lead_ln (a:Nat) (r:List Nat):lead (bl a ++ 120::r) = a:=by
  induction a with
  | zero=>rfl
  | succ a ih =>
    show lead (32::(bl a ++ 120::r)) = a+1
    show lead (bl a ++ 120::r)+1 = a+1
    rw [ih]
theorem rev_bl (a:Nat):(bl a).reverse = bl a:=List.reverse_replicate
theorem trail_ln (a b:Nat):trail (lnL a b) (lnL a b).length = b:=by
  unfold trail
  rw [List.take_length]
  unfold lnL
  rw [List.reverse_append,List.reverse_cons,rev_bl,rev_bl,List.append_assoc]
  exact lead_ln b _
theorem spL_ln (a b m:Nat):spL (lnL a b) m = lnL (a - m) (b - (m - a)):=by
  have h1:lead (lnL a b) = a:=lead_ln a _
  have h2:=trail_ln a b
  unfold spL
  rw [h1,h2,lnL_len]
  unfold lnL
  have e1:(bl a ++ 120::bl b).drop (min m a) = bl (a - m) ++ 120::bl b:=by
    have:bl a = bl (min m a) ++ bl (a - m):=by rw [bl_add]; congr 1; omega
    rw [this,List.append_assoc,List.drop_left' (bl_len _)]
  rw [e1]
  have e2:bl (a - m) ++ 120::bl b = (bl (a - m) ++ 120::bl (b - (m - a))) ++ bl (min (m - min m a) b):=by
    rw [List.append_assoc,List.cons_append,bl_add]
    congr 3; omega
  rw [e2,List.take_left']
  rw [List.length_append,List.length_cons,bl_len,bl_len]
  omega
section
variable {w:World} {b2:Bool} {h0:Heap} {B:List Frame} {d:Drawn} {os:OsState} {V:Vw} {ks:List Nat}
theorem sp_lineV {bw:List (Code × Pos)} {x y:Str} {c:Int} {a b m a' b':Nat} (hx:x = ln a b) (hc:c = (m:Int)) (hy:y = ln a' b') (ha:a' = a - m) (hb:b' = b - (m - a)) (hl:a+b ≤ 1000) :
    CallN (view w b2 h0 B bw d os) [2,1,7] (.call (.ref 28) ⟨[.str x 0,.int c 0],[]⟩) [] [] (fun v=>⟨none,[],.ok (.ret (.str y (v 3)))⟩):=by
  subst hx hc hy ha hb
  have:=fun h=>sp_ok (w:=w) (b2:=b2) (h0:=h0) (B:=B) (d:=d) (os:=os) (bw:=bw) (x:=lnL a b) (by rw [lnL_len]; omega) m h
  rw [spL_ln] at this
  refine this ?_
  rw [trail_ln,lnL_len]
  show lead (bl a ++ 120::bl b)+b < _
  rw [lead_ln]; omega
theorem add_line {x y:Str} {a b:List Nat} (hx:x = strOf a) (hy:y = strOf b) (h:a.length+b.length ≤ 60000):CallN V ks (.call (.builtin "str.__add__") ⟨[.str x 0,.str y 0],[]⟩) [] [] (fun v=>⟨none,[],.ok (.ret (.str (sAdd x y) (v 3)))⟩):=by
  subst hx hy
  exact add_ok h
theorem mul_line {n:Int} (h1:-60000 ≤ n) (h2:n ≤ 60000):CallN V ks (.call (.builtin "str.__mul__") ⟨[.str z10 0,.int n 0],[]⟩) [] [] (fun v=>⟨none,[],.ok (.ret (.str (sMul z10 n) (v 3)))⟩) :=
  mul_ok h1 h2 (by show 1 * n.toNat ≤ 60000; omega)
theorem len_line {x:Str} {a b:Nat} (hx:x = ln a b) (h:a+b ≤ 1000):CallN V ks (.call (.builtin "len") ⟨[.str x 0],[]⟩) [] [] (fun v=>⟨none,[],.ok (.ret (.int (sLen x) (v 3)))⟩):=by
  subst hx
  exact len_ok (by show (lnL a b).length < _; rw [lnL_len]; omega)
end
theorem min_add (x y s:Int):min x y+s = min (x+s) (y+s):=by omega
theorem lo_min {a0 a1 a2 a3 a4 a5 s0 s4 r0 r1 r2 r3 r4 r5:Int} (h0:r0 = a0) (h1:r1 = min (r0+s0) a1) (h2:r2 = min (r1+s4) a2) (h3:r3 = min (r2+s4) a3) (h4:r4 = min (r3+s4) a4) (h5:r5 = min (r4+s4) a5) :
    lmin [a0+List.sum []] = r0 ∧ lmin [a0+List.sum [s0],a1+List.sum []] = r1 ∧ lmin [a0+List.sum [s0,s4],a1+List.sum [s4],a2+List.sum []] = r2 ∧
    lmin [a0+List.sum [s0,s4,s4],a1+List.sum [s4,s4],a2+List.sum [s4],a3+List.sum []] = r3 ∧
    lmin [a0+List.sum [s0,s4,s4,s4],a1+List.sum [s4,s4,s4],a2+List.sum [s4,s4],a3+List.sum [s4],a4+List.sum []] = r4 ∧
    lmin [a0+List.sum [s0,s4,s4,s4,s4],a1+List.sum [s4,s4,s4,s4],a2+List.sum [s4,s4,s4],a3+List.sum [s4,s4],a4+List.sum [s4],a5+List.sum []] = r5:=by
  subst h5 h4 h3 h2 h1 h0
  simp only [lmin,List.foldl_cons,List.foldl_nil,List.sum_cons,List.sum_nil,min_add,Int.add_assoc,Int.add_zero]
  exact ⟨trivial,trivial,trivial,trivial,trivial,trivial⟩
end Mine
end
section
open PySem PySem.W PySem.W.X PyProof.Rows
namespace Mine
noncomputable def kN (n:Int):Nat:=(Int.fmod n 3).toNat
noncomputable def oN (n:Int):Nat:=(Int.ediv n 3).toNat
noncomputable def nA (v:Int):Int:=Int.fmod v 18
noncomputable def nB (v:Int):Int:=Int.fmod (Int.ediv v 18) 18
noncomputable def nC (v:Int):Int:=Int.ediv v 324
noncomputable def tV (v:Int):List Nat:=textL (kN (nA v)) (oN (nA v)) (kN (nB v)) (oN (nB v)) (kN (nC v)) (oN (nC v))
noncomputable def gV (v:Int):Int × Int × Int:=guestL (kN (nA v)) (oN (nA v)) (kN (nB v)) (oN (nB v)) (kN (nC v)) (oN (nC v))
noncomputable def pV (v:Int):Nat:=(gV v).1.toNat
noncomputable def qV (v:Int):Nat:=(gV v).2.1.toNat
theorem n18 {n:Int} (h0:0 ≤ n) (h1:n < 18):Int.fmod n 3 = (kN n:Int) ∧ Int.ediv n 3 = (oN n:Int) ∧ kN n < 3 ∧ oN n < 6:=by
  have e:Int.fmod n 3 = n % 3:=Int.fmod_eq_emod_of_nonneg n (by decide)
  unfold kN oN
  rw [e]
  have e2:Int.ediv n 3 = n / 3:=rfl
  rw [e2]
  omega
theorem v_nums {v:Int} (h0:0 ≤ v) (h1:v < 5832):(0 ≤ nA v ∧ nA v < 18) ∧ (0 ≤ nB v ∧ nB v < 18) ∧ (0 ≤ nC v ∧ nC v < 18):=by
  unfold nA nB nC
  rw [Int.fmod_eq_emod_of_nonneg _ (by decide),Int.fmod_eq_emod_of_nonneg _ (by decide)]
  have e1:Int.ediv v 18 = v / 18:=rfl
  have e2:Int.ediv v 324 = v / 324:=rfl
  rw [e1,e2]
  omega
theorem v_good {v:Int} (h0:0 ≤ v) (h1:v < 5832):SqGood (tV v) ∧ lgOk false (sqOut (tV v)) = true ∧ lgG false (sqOut (tV v)) (0,0) = ((pV v:Int),(qV v:Int)) ∧ (gV v).1 = (pV v:Int) ∧ (gV v).2.1 = (qV v:Int) ∧ pV v ≤ 12 ∧ qV v ≤ 12:=by
  obtain ⟨⟨a0,a1⟩,⟨b0,b1⟩,c0,c1⟩:=v_nums h0 h1
  obtain ⟨_,_,ka,oa⟩:=n18 a0 a1
  obtain ⟨_,_,kb,ob⟩:=n18 b0 b1
  obtain ⟨_,_,kc,oc⟩:=n18 c0 c1
  obtain ⟨g1,g2,g3,g4,g5⟩:=okT_use (okT_all ka oa kb ob kc oc)
  have e1:(gV v).1 = (pV v:Int):=(Int.toNat_of_nonneg g4.1).symm
  have e2:(gV v).2.1 = (qV v:Int):=(Int.toNat_of_nonneg g5.1).symm
  refine ⟨g1,g2,?_,e1,e2,?_,?_⟩
  · rw [← e1,← e2]; exact g3
  · have:(gV v).1 ≤ 12:=g4.2
    omega
  · have:(gV v).2.1 ≤ 12:=g5.2
    omega
theorem fmod_bd (x:Int) {m:Int} (hm:0 < m):0 ≤ Int.fmod x m ∧ Int.fmod x m < m:=by
  rw [Int.fmod_eq_emod_of_nonneg x (Int.le_of_lt hm)]
  exact ⟨Int.emod_nonneg x (Int.ne_of_gt hm),Int.emod_lt_of_pos x hm⟩
section
variable {w:World} {b2:Bool} {h0:Heap} {B:List Frame} {d:Drawn} {os:OsState} {bw:List (Code × Pos)} {ks:List Nat} {V:Vw}
theorem fnV0 {v:Int} (hv:0 ≤ v ∧ v < 5832) {x:Str} {p q r:Int} (hx:x = strOf (tV v)) (hp:p = (pV v:Int)) (hq:q = (qV v:Int)) (hr:r = (gV v).2.2) {it l gl L c0 c1 c2 c3 c4 ln t6 t7 t8 t10 t11 t12 t13 t15 t17 t18 t19:Nat} {x0 x1 x2 x3 x4 x5 x6 x7:Value} :
    CallN (view w b2 h0 B bw d os) ks (.forLoop fLaw_t88 (.ref it) fLaw_b88 [] (envF fLaws fLawq 123 [(z77,c4),(z75,c3),(z74,c2),(z59,c1),(z43,c0)] L))
      [(it,lit (.ref l) 0),(l,listO [.int (Int.fmod v 18) 0,.int (Int.fmod (Int.ediv v 18) 18) 0,.int (Int.ediv v 324) 0] ln),(gl,listO [.int 0 0,.int 0 0,.int 0 0] 0),(L,nsO [ent w.params z53 t6 x0,ent w.params z54 t7 x1,ent w.params z55 t8 x2,ent w.params z56 t10 x3,ent w.params z57 t11 x4,ent w.params z58 t12 x5,ent w.params z61 t13 x6,ent w.params z60 t15 x7,ent w.params z39 t17 (.ref gl),ent w.params z38 t18 (.str z26 t19)] 10)] []
      (fun u=>⟨some [],[(gl,listO [.int p (u 3),.int q (u 4),.int r (u 5)] 0),(L,nsO [ent w.params z53 t6 x0,ent w.params z54 t7 x1,ent w.params z55 t8 x2,ent w.params z56 t10 x3,ent w.params z57 t11 x4,ent w.params z58 t12 x5,ent w.params z61 t13 x6,ent w.params z60 t15 x7,ent w.params z39 t17 (.ref gl),ent w.params z38 t18 (.str x (u 6)),ent w.params z64 (u 7) (.int (Int.ediv v 324) (u 10)),ent w.params z63 (u 8) (.int (o1 (kN (nC v)) (oN (nC v)):Nat) (u 11)),ent w.params z62 (u 9) (.int (kN (nC v):Nat) (u 12))] 13)],.ok .next⟩):=by
  subst hx hp hq hr
  obtain ⟨⟨a0,a1⟩,⟨b0,b1⟩,c0,c1⟩:=v_nums hv.1 hv.2
  obtain ⟨a2,a3,ka,oa⟩:=n18 a0 a1
  obtain ⟨b2,b3,kb,ob⟩:=n18 b0 b1
  obtain ⟨c2,c3,kc,oc⟩:=n18 c0 c1
  obtain ⟨_,_,_,e1,e2,_⟩:=v_good hv.1 hv.2
  rw [← e1,← e2]
  exact fn_ok a2 a3 b2 b3 c2 c3 ka kb kc oa ob oc
theorem fnV1 {v:Int} (hv:0 ≤ v ∧ v < 5832) {x:Str} {p q r:Int} (hx:x = strOf (tV v)) (hp:p = (pV v:Int)) (hq:q = (qV v:Int)) (hr:r = (gV v).2.2) {it l gl L c0 c1 c2 c3 c4 ln t6 t7 t8 t10 t11 t12 t13 t15 t17 t18 t19 t20 t21 t23:Nat} {x0 x1 x2 x3 x4 x5 x6 x7 xn xo xk:Value} :
    CallN (view w b2 h0 B bw d os) ks (.forLoop fLaw_t88 (.ref it) fLaw_b88 [] (envF fLaws fLawq 123 [(z77,c4),(z75,c3),(z74,c2),(z59,c1),(z43,c0)] L))
      [(it,lit (.ref l) 0),(l,listO [.int (Int.fmod v 18) 0,.int (Int.fmod (Int.ediv v 18) 18) 0,.int (Int.ediv v 324) 0] ln),(gl,listO [.int 0 0,.int 0 0,.int 0 0] 0),(L,nsO [ent w.params z53 t6 x0,ent w.params z54 t7 x1,ent w.params z55 t8 x2,ent w.params z56 t10 x3,ent w.params z57 t11 x4,ent w.params z58 t12 x5,ent w.params z61 t13 x6,ent w.params z60 t15 x7,ent w.params z39 t17 (.ref gl),ent w.params z38 t18 (.str z26 t19),ent w.params z64 t20 xn,ent w.params z63 t21 xo,ent w.params z62 t23 xk] 13)] []
      (fun u=>⟨some [],[(gl,listO [.int p (u 3),.int q (u 4),.int r (u 5)] 0),(L,nsO [ent w.params z53 t6 x0,ent w.params z54 t7 x1,ent w.params z55 t8 x2,ent w.params z56 t10 x3,ent w.params z57 t11 x4,ent w.params z58 t12 x5,ent w.params z61 t13 x6,ent w.params z60 t15 x7,ent w.params z39 t17 (.ref gl),ent w.params z38 t18 (.str x (u 6)),ent w.params z64 t20 (.int (Int.ediv v 324) (u 7)),ent w.params z63 t21 (.int (o1 (kN (nC v)) (oN (nC v)):Nat) (u 8)),ent w.params z62 t23 (.int (kN (nC v):Nat) (u 9))] 13)],.ok .next⟩):=by
  subst hx hp hq hr
  obtain ⟨⟨a0,a1⟩,⟨b0,b1⟩,c0,c1⟩:=v_nums hv.1 hv.2
  obtain ⟨a2,a3,ka,oa⟩:=n18 a0 a1
  obtain ⟨b2,b3,kb,ob⟩:=n18 b0 b1
  obtain ⟨c2,c3,kc,oc⟩:=n18 c0 c1
  obtain ⟨_,_,_,e1,e2,_⟩:=v_good hv.1 hv.2
  rw [← e1,← e2]
  exact fn_ok' a2 a3 b2 b3 c2 c3 ka kb kc oa ob oc
theorem lgV {v:Int} (hv:0 ≤ v ∧ v < 5832) {x:Str} {p q:Int} (hx:x = strOf (tV v)) (hp:p = (pV v:Int)) (hq:q = (qV v:Int)):CallN (view w b2 h0 B bw d os) [2,1,7] (.call (.ref 113) ⟨[.str x 0],[]⟩) [] []
    (fun v=>⟨none,[((v 3),listO [.int p (v 4),.int q (v 5)] 0)],.ok (.ret (.ref (v 3)))⟩):=by
  subst hx hp hq
  obtain ⟨g1,g2,g3,_⟩:=v_good hv.1 hv.2
  exact lg_okS g1 g2 g3
theorem cap (x:Int) {m:Int} (hm:0 < m) (h12:m ≤ 12):∃ s:Nat,Int.fmod x m+1 = (s:Int) ∧ 1 ≤ s ∧ s ≤ 12:=by
  obtain ⟨h1,h2⟩:=fmod_bd x hm
  exact ⟨(Int.fmod x m+1).toNat,by omega,by omega,by omega⟩
theorem hour_L {P A b:Nat}:sAdd (sMul z10 (P:Int)) (ln A b) = ln (P+A) b:=by rw [line_eq,Int.toNat_natCast]
theorem hour_D {P A A':Nat} (h:A' ≤ P+A):(sLen (sAdd (sMul z10 (P:Int)) (ln A 0)) - sLen (ln A' 0)) = ((P+A - A':Nat):Int):=by
  rw [hour_L,len_ln,len_ln]; omega
theorem hour_R {Q H N P A A':Nat} (h:A' ≤ P+A):sAdd (sAdd (sMul z10 (Q:Int)) (ln H N)) (sMul z10 (sLen (sAdd (sMul z10 (P:Int)) (ln A 0)) - sLen (ln A' 0))) = ln (Q+H) (N+(P+A - A')):=by
  rw [hour_D h,hour_L,right_eq,Int.toNat_natCast]
theorem h_mul {P:Nat} (h:P ≤ 1000):CallN V ks (.call (.builtin "str.__mul__") ⟨[.str z10 0,.int (P:Int) 0],[]⟩) [] [] (fun v=>⟨none,[],.ok (.ret (.str (sMul z10 (P:Int)) (v 3)))⟩):=mul_line (by omega) (by omega)
theorem h_add1 {P A b:Nat} (h:P+A+b ≤ 1000):CallN V ks (.call (.builtin "str.__add__") ⟨[.str (sMul z10 (P:Int)) 0,.str (ln A b) 0],[]⟩) [] [] (fun v=>⟨none,[],.ok (.ret (.str (sAdd (sMul z10 (P:Int)) (ln A b)) (v 3)))⟩) :=
  add_line (mul_bl _) rfl (by rw [bl_len,lnL_len,Int.toNat_natCast]; omega)
theorem h_sp1 {P A s A':Nat} {c:Int} (hc:c = (s:Int)) (hA:A' = (P+A) - s) (h:P+A ≤ 1000):CallN (view w b2 h0 B bw d os) [2,1,7] (.call (.ref 28) ⟨[.str (sAdd (sMul z10 (P:Int)) (ln A 0)) 0,.int c 0],[]⟩) [] [] (fun v=>⟨none,[],.ok (.ret (.str (ln A' 0) (v 3)))⟩) :=
  sp_lineV hour_L hc rfl hA (by rw [Nat.zero_sub]) (by omega)
theorem h_len1 {P A:Nat} (h:P+A ≤ 1000):CallN V ks (.call (.builtin "len") ⟨[.str (sAdd (sMul z10 (P:Int)) (ln A 0)) 0],[]⟩) [] [] (fun v=>⟨none,[],.ok (.ret (.int (sLen (sAdd (sMul z10 (P:Int)) (ln A 0))) (v 3)))⟩):=len_line hour_L (by omega)
theorem h_mul2 {P A A':Nat} (h:P+A ≤ 1000) (hA:A' ≤ P+A):CallN V ks (.call (.builtin "str.__mul__") ⟨[.str z10 0,.int (sLen (sAdd (sMul z10 (P:Int)) (ln A 0)) - sLen (ln A' 0)) 0],[]⟩) [] [] (fun v=>⟨none,[],.ok (.ret (.str (sMul z10 (sLen (sAdd (sMul z10 (P:Int)) (ln A 0)) - sLen (ln A' 0))) (v 3)))⟩):=by
  rw [hour_D hA]
  exact mul_line (by omega) (by omega)
theorem h_add2 {Q H N P A A':Nat} (h:P+A ≤ 1000) (hA:A' ≤ P+A) (hq:Q+H+N ≤ 1000):CallN V ks (.call (.builtin "str.__add__") ⟨[.str (sAdd (sMul z10 (Q:Int)) (ln H N)) 0,.str (sMul z10 (sLen (sAdd (sMul z10 (P:Int)) (ln A 0)) - sLen (ln A' 0))) 0],[]⟩) [] []
    (fun v=>⟨none,[],.ok (.ret (.str (sAdd (sAdd (sMul z10 (Q:Int)) (ln H N)) (sMul z10 (sLen (sAdd (sMul z10 (P:Int)) (ln A 0)) - sLen (ln A' 0)))) (v 3)))⟩):=by
  rw [hour_D hA]
  exact add_line (a:=lnL (Q+H) N) hour_L (mul_bl _) (by rw [bl_len,lnL_len,Int.toNat_natCast]; omega)
theorem h_sp2 {Q H N P A A' u H' N':Nat} {c:Int} (hc:c = (u:Int)) (hA:A' ≤ P+A) (hH:H' = (Q+H) - u) (hN:N' = (N+(P+A - A')) - (u - (Q+H))) (h:Q+H+N+(P+A) ≤ 1000):CallN (view w b2 h0 B bw d os) [2,1,7]
    (.call (.ref 28) ⟨[.str (sAdd (sAdd (sMul z10 (Q:Int)) (ln H N)) (sMul z10 (sLen (sAdd (sMul z10 (P:Int)) (ln A 0)) - sLen (ln A' 0)))) 0,.int c 0],[]⟩) [] [] (fun v=>⟨none,[],.ok (.ret (.str (ln H' N') (v 3)))⟩) :=
  sp_lineV (hour_R hA) hc rfl hH hN (by omega)
theorem f_add1 {n:Int} (h:n ≤ 1000):CallN V ks (.call (.builtin "str.__add__") ⟨[.str (sMul z10 n) 0,.str z67 0],[]⟩) [] [] (fun v=>⟨none,[],.ok (.ret (.str (sAdd (sMul z10 n) z67) (v 3)))⟩) :=
  add_line (mul_bl _) (b:=[120]) rfl (by rw [bl_len,List.length_singleton]; omega)
theorem f_eq1 {n:Int} {a:Nat} (h:n.toNat = a):sAdd (sMul z10 n) z67 = ln a 0:=by
  have:=line_eq n 0 0
  rw [h] at this
  exact this
theorem f_add2 {m n:Int} (h:n ≤ 1000) (hm:m ≤ 1000):CallN V ks (.call (.builtin "str.__add__") ⟨[.str (sAdd (sMul z10 m) z67) 0,.str (sMul z10 n) 0],[]⟩) [] [] (fun v=>⟨none,[],.ok (.ret (.str (sAdd (sAdd (sMul z10 m) z67) (sMul z10 n)) (v 3)))⟩) :=
  add_line (a:=lnL m.toNat 0) (f_eq1 rfl) (mul_bl _) (by rw [bl_len,lnL_len]; omega)
theorem f_eq2 {m n:Int} {a b:Nat} (hm:m.toNat = a) (h:n.toNat = b):sAdd (sAdd (sMul z10 m) z67) (sMul z10 n) = ln a b:=by
  rw [f_eq1 hm,right_eq,h,Nat.zero_add]
theorem suml_slice {l:Addr} {ns:List Int} {k t:Nat}:CallN V ks (.call (.builtin "sum") ⟨[.ref l],[]⟩) [(l,listO ((((ns.drop k).take 1).map fun i=>Value.int i t).map noTok) 0)] [] (fun v=>⟨none,[],.ok (.ret (.int ((ns.drop k).take 1).sum (v 3)))⟩):=by
  rw [List.map_map]
  exact suml_ok ((ns.drop k).take 1)
theorem ev_no {x y:Int} (h:x ≠ y):EvP "int.__eq__" [.int x 0,.int y 0] (retB false):=ev_ieq (beq_eq_false_iff_ne.mpr h)
theorem lo_okE {lc ls ep:Nat} {a0 a1 a2 a3 a4 a5 s0 s4 r0 r1 r2 r3 r4 r5:Int} (g0:r0 = a0) (g1:r1 = min (r0+s0) a1) (g2:r2 = min (r1+s4) a2) (g3:r3 = min (r2+s4) a3) (g4:r4 = min (r3+s4) a4) (g5:r5 = min (r4+s4) a5):CallN (view w b2 h0 B bw d os) [1,7] (.call (.ref 118) ⟨[.ref lc,.ref ls],[]⟩)
    [(lc,listO [.int a0 0,.int a1 0,.int a2 0,.int a3 0,.int a4 0,.int a5 0] ep),(ls,listO [.int s0 0,.int s4 0,.int s4 0,.int s4 0,.int s4 0] 0)] []
    (fun v=>⟨none,[((v 3),listO [.int r0 (v 4),.int r1 (v 5),.int r2 (v 6),.int r3 (v 7),.int r4 (v 8),.int r5 (v 9)] 6)],.ok (.ret (.ref (v 3)))⟩):=by
  have h:=lo_ok (w:=w) (b2:=b2) (h0:=h0) (B:=B) (d:=d) (os:=os) (bw:=bw) lc ls ep a0 a1 a2 a3 a4 a5 s0 s4
  obtain ⟨e0,e1,e2,e3,e4,e5⟩:=lo_min g0 g1 g2 g3 g4 g5
  rw [e0,e1,e2,e3,e4,e5] at h
  exact h
end
end Mine
end
section
open PySem PySem.W PySem.W.X PyProof.Rows
namespace Mine
def IsSub (a b c:Nat):Prop:=a = b - c
theorem IsSub.mk (b c:Nat):∃ a,IsSub a b c:=⟨_,rfl⟩
theorem IsSub.le {a b c:Nat} (h:IsSub a b c):a ≤ b:=by unfold IsSub at h; omega
theorem IsSub.sum {N P A N' A' c:Nat} (hA:A' ≤ P+A) (h:IsSub N' (N+(P+A - A')) c):N'+A' ≤ N+(P+A):=by unfold IsSub at h; omega
def HourV (v:Int) (P Q:Nat) (T:Str) (R:Int):Prop:=(0 ≤ v ∧ v < 5832) ∧ T = strOf (tV v) ∧ (P:Int) = (pV v:Int) ∧ (Q:Int) = (qV v:Int) ∧ R = (gV v).2.2
theorem hourV (x:Int):∃ (P Q:Nat) (T:Str) (R:Int),HourV (Int.fmod x 5832) P Q T R ∧ P ≤ 12 ∧ Q ≤ 12:=by
  have h:=fmod_bd x (m:=5832) (by decide)
  obtain ⟨_,_,_,_,_,h1,h2⟩:=v_good h.1 h.2
  exact ⟨_,_,_,_,⟨h,rfl,rfl,rfl,rfl⟩,h1,h2⟩
def IsCap (x:Int) (s:Nat):Prop:=x = (s:Int)
theorem capS (x:Int) {m:Int} (hm:0 < m) (h12:m ≤ 12):∃ s:Nat,IsCap (Int.fmod x m+1) s ∧ 1 ≤ s ∧ s ≤ 12:=cap x hm h12
theorem bd1 {P:Nat} (h:P ≤ 12):P ≤ 1000:=Nat.le_trans h (by decide)
theorem bd0 {A:Nat} (h:A ≤ 60):A+0 ≤ 1000:=Nat.le_trans h (by decide)
theorem bd2 {P A:Nat} (h:P ≤ 12) (h1:A ≤ 60):P+A ≤ 1000:=Nat.le_trans (Nat.add_le_add h h1) (by decide)
theorem bd3 {P A b:Nat} (h:P ≤ 12) (h1:A ≤ 60) (h2:b ≤ 60):P+A+b ≤ 1000:=Nat.le_trans (Nat.add_le_add (Nat.add_le_add h h1) h2) (by decide)
theorem bd4 {Q H N P A:Nat} (h:Q ≤ 12) (h1:H ≤ 60) (h2:N ≤ 60) (h3:P ≤ 12) (h4:A ≤ 60):Q+H+N+(P+A) ≤ 1000:=Nat.le_trans (Nat.add_le_add (Nat.add_le_add (Nat.add_le_add h h1) h2) (Nat.add_le_add h3 h4)) (by decide)
theorem grow {A' P A m:Nat} (h:A' ≤ P+A) (hP:P ≤ 12) (hA:A ≤ m):A' ≤ 12+m:=Nat.le_trans h (Nat.add_le_add hP hA)
theorem grow2 {N' A' N P A m:Nat} (h:N'+A' ≤ N+(P+A)) (hP:P ≤ 12) (hA:N+A ≤ m):N'+A' ≤ 12+m:=by omega
theorem to60 {A m:Nat} (h:A ≤ m) (hm:m ≤ 60):A ≤ 60:=Nat.le_trans h hm
theorem to60N {N A m:Nat} (h:N+A ≤ m) (hm:m ≤ 60):N ≤ 60:=Nat.le_trans (Nat.le_trans (Nat.le_add_right N A) h) hm
theorem fcc (c:Int) (A:Nat):c - (c - (A:Int)) = (A:Int):=by omega
theorem fc3 (p h:Int) (H N:Nat):(p - ((p+h) - ((H:Int)+(N:Int))))+(h - (H:Int)) = (N:Int):=by omega
theorem fe1 (c:Int) (A:Nat):(c - (c - (A:Int))).toNat = A:=by rw [fcc]; rfl
theorem fe2 (p h:Int) (H N:Nat):((p - ((p+h) - ((H:Int)+(N:Int))))+(h - (H:Int))).toNat = N:=by rw [fc3]; rfl
theorem le1 {c:Int} {A:Nat} (h:A ≤ 60):c - (c - (A:Int)) ≤ 1000:=by rw [fcc]; omega
theorem le3 {p h:Int} {H N:Nat} (hN:N ≤ 60):(p - ((p+h) - ((H:Int)+(N:Int))))+(h - (H:Int)) ≤ 1000:=by rw [fc3]; omega
section
variable {w:World} {b2:Bool} {h0:Heap} {B:List Frame} {d:Drawn} {os:OsState} {bw:List (Code × Pos)} {ks:List Nat} {V:Vw}
theorem ev_no127 {x:Int} {s:Nat} (h:IsCap x s) (h2:s ≤ 12):EvP "int.__eq__" [.int x 0,.int 127 0] (retB false):=ev_no (by unfold IsCap at h; omega)
theorem ev_no0 {x:Int} {s:Nat} (h:IsCap x s) (h1:1 ≤ s):EvP "int.__eq__" [.int x 0,.int 0 0] (retB false):=ev_no (by unfold IsCap at h; omega)
theorem lo_s0 {P A' s:Nat} {c:Int} (hc:IsCap c s) (h:IsSub A' (P+0) s):(((0:Int)+P) - A') = min (0+c) (0+P):=by unfold IsSub at h; unfold IsCap at hc; omega
theorem lo_s {C:Int} {P A A' s:Nat} {c:Int} (hc:IsCap c s) (h:IsSub A' (P+A) s):((C+P) - A') = min ((C - A)+c) (C+P):=by unfold IsSub at h; unfold IsCap at hc; omega
theorem lo_o0 {P A' Q H' N' u:Nat} {c:Int} (hc:IsCap c u) (hA:A' ≤ P+0) (h:IsSub H' (Q+0) u) (hn:IsSub N' (0+(P+0 - A')) (u - (Q+0))) :
    (((((0:Int)+P) - A')+(0+Q)) - (H'+N')) = min (0+c) ((((0:Int)+P) - A')+(0+Q)):=by unfold IsSub at h hn; unfold IsCap at hc; omega
theorem lo_o {C D:Int} {P A A' Q H N H' N' u:Nat} {c:Int} (hc:IsCap c u) (hA:A' ≤ P+A) (h:IsSub H' (Q+H) u) (hn:IsSub N' (N+(P+A - A')) (u - (Q+H))) :
    (((C+P) - A')+(D+Q)) - (H'+N') = min ((((C - A)+D) - (H+N))+c) (((C+P) - A')+(D+Q)):=by unfold IsSub at h hn; unfold IsCap at hc; omega
theorem lgH {v:Int} {P Q:Nat} {T:Str} {R:Int} (h:HourV v P Q T R):CallN (view w b2 h0 B bw d os) [2,1,7] (.call (.ref 113) ⟨[.str T 0],[]⟩) [] []
    (fun v=>⟨none,[((v 3),listO [.int P (v 4),.int Q (v 5)] 0)],.ok (.ret (.ref (v 3)))⟩):=lgV h.1 h.2.1 h.2.2.1 h.2.2.2.1
theorem mul_f1 {c:Int} {A:Nat} (h:A ≤ 60):CallN V ks (.call (.builtin "str.__mul__") ⟨[.str z10 0,.int (c - (c - (A:Int))) 0],[]⟩) [] [] (fun v=>⟨none,[],.ok (.ret (.str (sMul z10 (c - (c - (A:Int)))) (v 3)))⟩) :=
  mul_line (by rw [fcc]; omega) (by rw [fcc]; omega)
theorem mul_f3 {p h:Int} {H N:Nat} (hN:N ≤ 60):CallN V ks (.call (.builtin "str.__mul__") ⟨[.str z10 0,.int ((p - ((p+h) - ((H:Int)+(N:Int))))+(h - (H:Int))) 0],[]⟩) [] []
    (fun v=>⟨none,[],.ok (.ret (.str (sMul z10 ((p - ((p+h) - ((H:Int)+(N:Int))))+(h - (H:Int)))) (v 3)))⟩) :=
  mul_line (by rw [fc3]; omega) (by rw [fc3]; omega)
end
end Mine
end
section
open PySem PySem.W PySem.W.X PyProof.Rows
namespace Mine
noncomputable def law_A_sd (V:Vw) (w:World) (sl:Nat) (sv:List Value) (sn:Nat) (S0:Int) (pv2:(Nat→Nat)→List Value) (pn2:Nat) (S3:Int) (nv4 kv4 ov4:(Nat→Nat)→Value) (p4 q4 r4:Int) (tx4:Str) (pv5:(Nat→Nat)→List Value) (pn5:Nat) (S6:Int) (nv7 kv7 ov7:(Nat→Nat)→Value) (p7 q7 r7:Int) (tx7:Str) (pv8:(Nat→Nat)→List Value) (pn8:Nat) (S9:Int) (nv10 kv10 ov10:(Nat→Nat)→Value) (p10 q10 r10:Int) (tx10:Str) (pv11:(Nat→Nat)→List Value) (pn11:Nat) (S12:Int) (nv13 kv13 ov13:(Nat→Nat)→Value) (p13 q13 r13:Int) (tx13:Str) (pv14:(Nat→Nat)→List Value) (pn14:Nat) (S15:Int) (nv16 kv16 ov16:(Nat→Nat)→Value) (p16 q16 r16:Int) (tx16:Str) (ga18 gb18:Int) (ln21 ln28:Str) (ga30 gb30:Int) (ln33 ln40:Str) (ga42 gb42:Int) (ln45 ln52:Str) (ga54 gb54:Int) (ln57 ln64:Str) (ga66 gb66:Int) (ln69 ln76:Str) (oa77 ob77 oc77 od77 oe77 of77 oa84 ob84 oc84 od84 oe84 of84 oa85 ob85 oc85 od85 oe85 of85:Int) (sz tk:Nat) (v:N2):List Prop:=[CallN V ([1,7]) (cB "list.__eq__" [(.ref ((v 16 0)+2)),(.ref ((v 85 0)+2))]) [((v 115 0),(tO [(.str (sAdd (sMul z10 ((((((0+p4)+p7)+p10)+p13)+p16) - of77)) z67) 0),(.str (sAdd (sAdd (sMul z10 ((((((0+q4)+q7)+q10)+q13)+q16) - of85)) z67) (sMul z10 ((of77 - of84)+of85))) 0)])),((v 109 0),(tO [(.str (sAdd (sMul z10 (((((0+p4)+p7)+p10)+p13) - oe77)) z67) 0),(.str (sAdd (sAdd (sMul z10 (((((0+q4)+q7)+q10)+q13) - oe85)) z67) (sMul z10 ((oe77 - oe84)+oe85))) 0)])),((v 103 0),(tO [(.str (sAdd (sMul z10 ((((0+p4)+p7)+p10) - od77)) z67) 0),(.str (sAdd (sAdd (sMul z10 ((((0+q4)+q7)+q10) - od85)) z67) (sMul z10 ((od77 - od84)+od85))) 0)])),((v 97 0),(tO [(.str (sAdd (sMul z10 (((0+p4)+p7) - oc77)) z67) 0),(.str (sAdd (sAdd (sMul z10 (((0+q4)+q7) - oc85)) z67) (sMul z10 ((oc77 - oc84)+oc85))) 0)])),((v 91 0),(tO [(.str (sAdd (sMul z10 ((0+p4) - ob77)) z67) 0),(.str (sAdd (sAdd (sMul z10 ((0+q4) - ob85)) z67) (sMul z10 ((ob77 - ob84)+ob85))) 0)])),(((v 85 0)+2),listO [(.ref (v 91 0)),(.ref (v 97 0)),(.ref (v 103 0)),(.ref (v 109 0)),(.ref (v 115 0))] 5),((v 76 0),(tO [(.str ln69 0),(.str ln76 0)])),((v 64 0),(tO [(.str ln57 0),(.str ln64 0)])),((v 52 0),(tO [(.str ln45 0),(.str ln52 0)])),((v 40 0),(tO [(.str ln33 0),(.str ln40 0)])),((v 28 0),(tO [(.str ln21 0),(.str ln28 0)])),(((v 16 0)+2),listO [(.ref (v 28 0)),(.ref (v 40 0)),(.ref (v 52 0)),(.ref (v 64 0)),(.ref (v 76 0))] 5)] [] (fun v116=>oV (.bool true)),CallN V ([4,1,7]) (cB "str.__add__" [(.str (sAdd (sMul z10 ((((((0+q4)+q7)+q10)+q13)+q16) - of85)) z67) 0),(.str (sMul z10 ((of77 - of84)+of85)) 0)]) [] [] (fun v115=>oV (.str (sAdd (sAdd (sMul z10 ((((((0+q4)+q7)+q10)+q13)+q16) - of85)) z67) (sMul z10 ((of77 - of84)+of85))) (v115 3))),CallN V ([4,1,7]) (cB "str.__mul__" [(.str z10 0),(.int ((of77 - of84)+of85) 0)]) [] [] (fun v114=>oV (.str (sMul z10 ((of77 - of84)+of85)) (v114 3))),CallN V ([4,1,7]) (cB "str.__add__" [(.str (sMul z10 ((((((0+q4)+q7)+q10)+q13)+q16) - of85)) 0),(.str z67 0)]) [] [] (fun v113=>oV (.str (sAdd (sMul z10 ((((((0+q4)+q7)+q10)+q13)+q16) - of85)) z67) (v113 3))),CallN V ([4,1,7]) (cB "str.__mul__" [(.str z10 0),(.int ((((((0+q4)+q7)+q10)+q13)+q16) - of85) 0)]) [] [] (fun v112=>oV (.str (sMul z10 ((((((0+q4)+q7)+q10)+q13)+q16) - of85)) (v112 3))),CallN V ([4,1,7]) (cB "str.__add__" [(.str (sMul z10 ((((((0+p4)+p7)+p10)+p13)+p16) - of77)) 0),(.str z67 0)]) [] [] (fun v111=>oV (.str (sAdd (sMul z10 ((((((0+p4)+p7)+p10)+p13)+p16) - of77)) z67) (v111 3))),CallN V ([4,1,7]) (cB "str.__mul__" [(.str z10 0),(.int ((((((0+p4)+p7)+p10)+p13)+p16) - of77) 0)]) [] [] (fun v110=>oV (.str (sMul z10 ((((((0+p4)+p7)+p10)+p13)+p16) - of77)) (v110 3))),CallN V ([4,1,7]) (cB "str.__add__" [(.str (sAdd (sMul z10 (((((0+q4)+q7)+q10)+q13) - oe85)) z67) 0),(.str (sMul z10 ((oe77 - oe84)+oe85)) 0)]) [] [] (fun v109=>oV (.str (sAdd (sAdd (sMul z10 (((((0+q4)+q7)+q10)+q13) - oe85)) z67) (sMul z10 ((oe77 - oe84)+oe85))) (v109 3))),CallN V ([4,1,7]) (cB "str.__mul__" [(.str z10 0),(.int ((oe77 - oe84)+oe85) 0)]) [] [] (fun v108=>oV (.str (sMul z10 ((oe77 - oe84)+oe85)) (v108 3))),CallN V ([4,1,7]) (cB "str.__add__" [(.str (sMul z10 (((((0+q4)+q7)+q10)+q13) - oe85)) 0),(.str z67 0)]) [] [] (fun v107=>oV (.str (sAdd (sMul z10 (((((0+q4)+q7)+q10)+q13) - oe85)) z67) (v107 3))),CallN V ([4,1,7]) (cB "str.__mul__" [(.str z10 0),(.int (((((0+q4)+q7)+q10)+q13) - oe85) 0)]) [] [] (fun v106=>oV (.str (sMul z10 (((((0+q4)+q7)+q10)+q13) - oe85)) (v106 3))),CallN V ([4,1,7]) (cB "str.__add__" [(.str (sMul z10 (((((0+p4)+p7)+p10)+p13) - oe77)) 0),(.str z67 0)]) [] [] (fun v105=>oV (.str (sAdd (sMul z10 (((((0+p4)+p7)+p10)+p13) - oe77)) z67) (v105 3))),CallN V ([4,1,7]) (cB "str.__mul__" [(.str z10 0),(.int (((((0+p4)+p7)+p10)+p13) - oe77) 0)]) [] [] (fun v104=>oV (.str (sMul z10 (((((0+p4)+p7)+p10)+p13) - oe77)) (v104 3))),CallN V ([4,1,7]) (cB "str.__add__" [(.str (sAdd (sMul z10 ((((0+q4)+q7)+q10) - od85)) z67) 0),(.str (sMul z10 ((od77 - od84)+od85)) 0)]) [] [] (fun v103=>oV (.str (sAdd (sAdd (sMul z10 ((((0+q4)+q7)+q10) - od85)) z67) (sMul z10 ((od77 - od84)+od85))) (v103 3))),CallN V ([4,1,7]) (cB "str.__mul__" [(.str z10 0),(.int ((od77 - od84)+od85) 0)]) [] [] (fun v102=>oV (.str (sMul z10 ((od77 - od84)+od85)) (v102 3))),CallN V ([4,1,7]) (cB "str.__add__" [(.str (sMul z10 ((((0+q4)+q7)+q10) - od85)) 0),(.str z67 0)]) [] [] (fun v101=>oV (.str (sAdd (sMul z10 ((((0+q4)+q7)+q10) - od85)) z67) (v101 3))),CallN V ([4,1,7]) (cB "str.__mul__" [(.str z10 0),(.int ((((0+q4)+q7)+q10) - od85) 0)]) [] [] (fun v100=>oV (.str (sMul z10 ((((0+q4)+q7)+q10) - od85)) (v100 3))),CallN V ([4,1,7]) (cB "str.__add__" [(.str (sMul z10 ((((0+p4)+p7)+p10) - od77)) 0),(.str z67 0)]) [] [] (fun v99=>oV (.str (sAdd (sMul z10 ((((0+p4)+p7)+p10) - od77)) z67) (v99 3))),CallN V ([4,1,7]) (cB "str.__mul__" [(.str z10 0),(.int ((((0+p4)+p7)+p10) - od77) 0)]) [] [] (fun v98=>oV (.str (sMul z10 ((((0+p4)+p7)+p10) - od77)) (v98 3))),CallN V ([4,1,7]) (cB "str.__add__" [(.str (sAdd (sMul z10 (((0+q4)+q7) - oc85)) z67) 0),(.str (sMul z10 ((oc77 - oc84)+oc85)) 0)]) [] [] (fun v97=>oV (.str (sAdd (sAdd (sMul z10 (((0+q4)+q7) - oc85)) z67) (sMul z10 ((oc77 - oc84)+oc85))) (v97 3))),CallN V ([4,1,7]) (cB "str.__mul__" [(.str z10 0),(.int ((oc77 - oc84)+oc85) 0)]) [] [] (fun v96=>oV (.str (sMul z10 ((oc77 - oc84)+oc85)) (v96 3))),CallN V ([4,1,7]) (cB "str.__add__" [(.str (sMul z10 (((0+q4)+q7) - oc85)) 0),(.str z67 0)]) [] [] (fun v95=>oV (.str (sAdd (sMul z10 (((0+q4)+q7) - oc85)) z67) (v95 3))),CallN V ([4,1,7]) (cB "str.__mul__" [(.str z10 0),(.int (((0+q4)+q7) - oc85) 0)]) [] [] (fun v94=>oV (.str (sMul z10 (((0+q4)+q7) - oc85)) (v94 3))),CallN V ([4,1,7]) (cB "str.__add__" [(.str (sMul z10 (((0+p4)+p7) - oc77)) 0),(.str z67 0)]) [] [] (fun v93=>oV (.str (sAdd (sMul z10 (((0+p4)+p7) - oc77)) z67) (v93 3))),CallN V ([4,1,7]) (cB "str.__mul__" [(.str z10 0),(.int (((0+p4)+p7) - oc77) 0)]) [] [] (fun v92=>oV (.str (sMul z10 (((0+p4)+p7) - oc77)) (v92 3))),CallN V ([4,1,7]) (cB "str.__add__" [(.str (sAdd (sMul z10 ((0+q4) - ob85)) z67) 0),(.str (sMul z10 ((ob77 - ob84)+ob85)) 0)]) [] [] (fun v91=>oV (.str (sAdd (sAdd (sMul z10 ((0+q4) - ob85)) z67) (sMul z10 ((ob77 - ob84)+ob85))) (v91 3))),CallN V ([4,1,7]) (cB "str.__mul__" [(.str z10 0),(.int ((ob77 - ob84)+ob85) 0)]) [] [] (fun v90=>oV (.str (sMul z10 ((ob77 - ob84)+ob85)) (v90 3))),CallN V ([4,1,7]) (cB "str.__add__" [(.str (sMul z10 ((0+q4) - ob85)) 0),(.str z67 0)]) [] [] (fun v89=>oV (.str (sAdd (sMul z10 ((0+q4) - ob85)) z67) (v89 3))),CallN V ([4,1,7]) (cB "str.__mul__" [(.str z10 0),(.int ((0+q4) - ob85) 0)]) [] [] (fun v88=>oV (.str (sMul z10 ((0+q4) - ob85)) (v88 3))),CallN V ([4,1,7]) (cB "str.__add__" [(.str (sMul z10 ((0+p4) - ob77)) 0),(.str z67 0)]) [] [] (fun v87=>oV (.str (sAdd (sMul z10 ((0+p4) - ob77)) z67) (v87 3))),CallN V ([4,1,7]) (cB "str.__mul__" [(.str z10 0),(.int ((0+p4) - ob77) 0)]) [] [] (fun v86=>oV (.str (sMul z10 ((0+p4) - ob77)) (v86 3))),CallN V ([1,7]) (cR 118 [(.ref ((v 1 0)+3)),(.ref ((v 76 0)+6))]) [(((v 76 0)+6),listO [(.int ((Int.fmod (Int.ediv (Int.fmod (S0+17) 1000000) 12) 4)+1) 0),(.int ((Int.fmod (Int.ediv (Int.fmod (S0+17) 1000000) 48) 3)+1) 0),(.int ((Int.fmod (Int.ediv (Int.fmod (S0+17) 1000000) 48) 3)+1) 0),(.int ((Int.fmod (Int.ediv (Int.fmod (S0+17) 1000000) 48) 3)+1) 0),(.int ((Int.fmod (Int.ediv (Int.fmod (S0+17) 1000000) 48) 3)+1) 0)] 0),(((v 1 0)+3),listO [(.int 0 0),(.int (0+q4) 0),(.int ((0+q4)+q7) 0),(.int (((0+q4)+q7)+q10) 0),(.int ((((0+q4)+q7)+q10)+q13) 0),(.int (((((0+q4)+q7)+q10)+q13)+q16) 0)] 5)] [] (fun v85=>⟨none,[((v85 3),listO [(.int oa85 (v85 4)),(.int ob85 (v85 5)),(.int oc85 (v85 6)),(.int od85 (v85 7)),(.int oe85 (v85 8)),(.int of85 (v85 9))] 6)],.ok (.ret (.ref (v85 3)))⟩),CallN V ([1,7]) (cR 118 [(.ref ((v 77 0)+5)),(.ref ((v 76 0)+6))]) [(((v 77 0)+5),listO [(.int (oa77+0) 0),(.int (ob77+(0+q4)) 0),(.int (oc77+((0+q4)+q7)) 0),(.int (od77+(((0+q4)+q7)+q10)) 0),(.int (oe77+((((0+q4)+q7)+q10)+q13)) 0),(.int (of77+(((((0+q4)+q7)+q10)+q13)+q16)) 0)] 6),(((v 76 0)+6),listO [(.int ((Int.fmod (Int.ediv (Int.fmod (S0+17) 1000000) 12) 4)+1) 0),(.int ((Int.fmod (Int.ediv (Int.fmod (S0+17) 1000000) 48) 3)+1) 0),(.int ((Int.fmod (Int.ediv (Int.fmod (S0+17) 1000000) 48) 3)+1) 0),(.int ((Int.fmod (Int.ediv (Int.fmod (S0+17) 1000000) 48) 3)+1) 0),(.int ((Int.fmod (Int.ediv (Int.fmod (S0+17) 1000000) 48) 3)+1) 0)] 0)] [] (fun v84=>⟨none,[((v84 3),listO [(.int oa84 (v84 4)),(.int ob84 (v84 5)),(.int oc84 (v84 6)),(.int od84 (v84 7)),(.int oe84 (v84 8)),(.int of84 (v84 9))] 6)],.ok (.ret (.ref (v84 3)))⟩),OwnP ((v 77 0)+4) ((v 77 0)+27) (compLoad lc109_19 0 ((v 77 0)+4) ((v 77 0)+27) (.ref ((v 77 0)+5)) (envC lc109_19 fLawq [] ((v 77 0)+6) none (.ref 122) (some sz))) (compOwn lc109_19 0 ((v 77 0)+4) ((v 77 0)+27) (.ref ((v 77 0)+5)) (envC lc109_19 fLawq [] ((v 77 0)+6) none (.ref 122) (some sz))),OwnP ((v 77 0)+4) ((v 77 0)+23) (compLoad lc109_19 0 ((v 77 0)+4) ((v 77 0)+23) (.ref ((v 77 0)+5)) (envC lc109_19 fLawq [] ((v 77 0)+6) none (.ref 122) (some sz))) (compOwn lc109_19 0 ((v 77 0)+4) ((v 77 0)+23) (.ref ((v 77 0)+5)) (envC lc109_19 fLawq [] ((v 77 0)+6) none (.ref 122) (some sz))),OwnP ((v 77 0)+4) ((v 77 0)+19) (compLoad lc109_19 0 ((v 77 0)+4) ((v 77 0)+19) (.ref ((v 77 0)+5)) (envC lc109_19 fLawq [] ((v 77 0)+6) none (.ref 122) (some sz))) (compOwn lc109_19 0 ((v 77 0)+4) ((v 77 0)+19) (.ref ((v 77 0)+5)) (envC lc109_19 fLawq [] ((v 77 0)+6) none (.ref 122) (some sz))),OwnP ((v 77 0)+4) ((v 77 0)+15) (compLoad lc109_19 0 ((v 77 0)+4) ((v 77 0)+15) (.ref ((v 77 0)+5)) (envC lc109_19 fLawq [] ((v 77 0)+6) none (.ref 122) (some sz))) (compOwn lc109_19 0 ((v 77 0)+4) ((v 77 0)+15) (.ref ((v 77 0)+5)) (envC lc109_19 fLawq [] ((v 77 0)+6) none (.ref 122) (some sz))),OwnP ((v 77 0)+4) ((v 77 0)+11) (compLoad lc109_19 0 ((v 77 0)+4) ((v 77 0)+11) (.ref ((v 77 0)+5)) (envC lc109_19 fLawq [] ((v 77 0)+6) none (.ref 122) (some sz))) (compOwn lc109_19 0 ((v 77 0)+4) ((v 77 0)+11) (.ref ((v 77 0)+5)) (envC lc109_19 fLawq [] ((v 77 0)+6) none (.ref 122) (some sz))),OwnP ((v 77 0)+4) ((v 77 0)+7) (compLoad lc109_19 0 ((v 77 0)+4) ((v 77 0)+7) (.ref ((v 77 0)+5)) (envC lc109_19 fLawq [] ((v 77 0)+6) none (.ref 122) (some sz))) (compOwn lc109_19 0 ((v 77 0)+4) ((v 77 0)+7) (.ref ((v 77 0)+5)) (envC lc109_19 fLawq [] ((v 77 0)+6) none (.ref 122) (some sz))),CallN V ([1,7]) (cR 118 [(.ref ((v 1 0)+2)),(.ref ((v 76 0)+10))]) [(((v 76 0)+10),listO [(.int ((Int.fmod (Int.fmod (S0+17) 1000000) 3)+1) 0),(.int ((Int.fmod (Int.ediv (Int.fmod (S0+17) 1000000) 3) 4)+1) 0),(.int ((Int.fmod (Int.ediv (Int.fmod (S0+17) 1000000) 3) 4)+1) 0),(.int ((Int.fmod (Int.ediv (Int.fmod (S0+17) 1000000) 3) 4)+1) 0),(.int ((Int.fmod (Int.ediv (Int.fmod (S0+17) 1000000) 3) 4)+1) 0)] 0),(((v 1 0)+2),listO [(.int 0 0),(.int (0+p4) 0),(.int ((0+p4)+p7) 0),(.int (((0+p4)+p7)+p10) 0),(.int ((((0+p4)+p7)+p10)+p13) 0),(.int (((((0+p4)+p7)+p10)+p13)+p16) 0)] 5)] [] (fun v77=>⟨none,[((v77 3),listO [(.int oa77 (v77 4)),(.int ob77 (v77 5)),(.int oc77 (v77 6)),(.int od77 (v77 7)),(.int oe77 (v77 8)),(.int of77 (v77 9))] 6)],.ok (.ret (.ref (v77 3)))⟩),CallN V ([2,1,7]) (cR 28 [(.str (sAdd (sAdd (sMul z10 gb66) ln64) (sMul z10 ((sLen (sAdd (sMul z10 ga66) ln57)) - (sLen ln69)))) 0),(.int ((Int.fmod (Int.ediv (Int.fmod (S0+17) 1000000) 48) 3)+1) 0)]) [] [] (fun v76=>oV (.str ln76 (v76 3))),CallN V ([2,1,7]) (cB "str.__add__" [(.str (sAdd (sMul z10 gb66) ln64) 0),(.str (sMul z10 ((sLen (sAdd (sMul z10 ga66) ln57)) - (sLen ln69))) 0)]) [] [] (fun v75=>oV (.str (sAdd (sAdd (sMul z10 gb66) ln64) (sMul z10 ((sLen (sAdd (sMul z10 ga66) ln57)) - (sLen ln69)))) (v75 3))),CallN V ([2,1,7]) (cB "str.__mul__" [(.str z10 0),(.int ((sLen (sAdd (sMul z10 ga66) ln57)) - (sLen ln69)) 0)]) [] [] (fun v74=>oV (.str (sMul z10 ((sLen (sAdd (sMul z10 ga66) ln57)) - (sLen ln69))) (v74 3))),CallN V ([2,1,7]) (cB "len" [(.str ln69 0)]) [] [] (fun v73=>oV (.int (sLen ln69) (v73 3))),CallN V ([2,1,7]) (cB "len" [(.str (sAdd (sMul z10 ga66) ln57) 0)]) [] [] (fun v72=>oV (.int (sLen (sAdd (sMul z10 ga66) ln57)) (v72 3))),CallN V ([2,1,7]) (cB "str.__add__" [(.str (sMul z10 gb66) 0),(.str ln64 0)]) [] [] (fun v71=>oV (.str (sAdd (sMul z10 gb66) ln64) (v71 3))),CallN V ([2,1,7]) (cB "str.__mul__" [(.str z10 0),(.int gb66 0)]) [] [] (fun v70=>oV (.str (sMul z10 gb66) (v70 3))),CallN V ([2,1,7]) (cR 28 [(.str (sAdd (sMul z10 ga66) ln57) 0),(.int ((Int.fmod (Int.ediv (Int.fmod (S0+17) 1000000) 3) 4)+1) 0)]) [] [] (fun v69=>oV (.str ln69 (v69 3))),CallN V ([2,1,7]) (cB "str.__add__" [(.str (sMul z10 ga66) 0),(.str ln57 0)]) [] [] (fun v68=>oV (.str (sAdd (sMul z10 ga66) ln57) (v68 3))),CallN V ([2,1,7]) (cB "str.__mul__" [(.str z10 0),(.int ga66 0)]) [] [] (fun v67=>oV (.str (sMul z10 ga66) (v67 3))),CallN V ([2,1,7]) (cR 113 [(.str tx16 0)]) [] [] (fun v66=>⟨none,[((v66 3),listO [(.int ga66 (v66 4)),(.int gb66 (v66 5))] 0)],.ok (.ret (.ref (v66 3)))⟩),CallN V ([2,1,7]) (cR 28 [(.str (sAdd (sAdd (sMul z10 gb54) ln52) (sMul z10 ((sLen (sAdd (sMul z10 ga54) ln45)) - (sLen ln57)))) 0),(.int ((Int.fmod (Int.ediv (Int.fmod (S0+17) 1000000) 48) 3)+1) 0)]) [] [] (fun v64=>oV (.str ln64 (v64 3))),CallN V ([2,1,7]) (cB "str.__add__" [(.str (sAdd (sMul z10 gb54) ln52) 0),(.str (sMul z10 ((sLen (sAdd (sMul z10 ga54) ln45)) - (sLen ln57))) 0)]) [] [] (fun v63=>oV (.str (sAdd (sAdd (sMul z10 gb54) ln52) (sMul z10 ((sLen (sAdd (sMul z10 ga54) ln45)) - (sLen ln57)))) (v63 3))),CallN V ([2,1,7]) (cB "str.__mul__" [(.str z10 0),(.int ((sLen (sAdd (sMul z10 ga54) ln45)) - (sLen ln57)) 0)]) [] [] (fun v62=>oV (.str (sMul z10 ((sLen (sAdd (sMul z10 ga54) ln45)) - (sLen ln57))) (v62 3))),CallN V ([2,1,7]) (cB "len" [(.str ln57 0)]) [] [] (fun v61=>oV (.int (sLen ln57) (v61 3))),CallN V ([2,1,7]) (cB "len" [(.str (sAdd (sMul z10 ga54) ln45) 0)]) [] [] (fun v60=>oV (.int (sLen (sAdd (sMul z10 ga54) ln45)) (v60 3))),CallN V ([2,1,7]) (cB "str.__add__" [(.str (sMul z10 gb54) 0),(.str ln52 0)]) [] [] (fun v59=>oV (.str (sAdd (sMul z10 gb54) ln52) (v59 3))),CallN V ([2,1,7]) (cB "str.__mul__" [(.str z10 0),(.int gb54 0)]) [] [] (fun v58=>oV (.str (sMul z10 gb54) (v58 3))),CallN V ([2,1,7]) (cR 28 [(.str (sAdd (sMul z10 ga54) ln45) 0),(.int ((Int.fmod (Int.ediv (Int.fmod (S0+17) 1000000) 3) 4)+1) 0)]) [] [] (fun v57=>oV (.str ln57 (v57 3))),CallN V ([2,1,7]) (cB "str.__add__" [(.str (sMul z10 ga54) 0),(.str ln45 0)]) [] [] (fun v56=>oV (.str (sAdd (sMul z10 ga54) ln45) (v56 3))),CallN V ([2,1,7]) (cB "str.__mul__" [(.str z10 0),(.int ga54 0)]) [] [] (fun v55=>oV (.str (sMul z10 ga54) (v55 3))),CallN V ([2,1,7]) (cR 113 [(.str tx13 0)]) [] [] (fun v54=>⟨none,[((v54 3),listO [(.int ga54 (v54 4)),(.int gb54 (v54 5))] 0)],.ok (.ret (.ref (v54 3)))⟩),CallN V ([2,1,7]) (cR 28 [(.str (sAdd (sAdd (sMul z10 gb42) ln40) (sMul z10 ((sLen (sAdd (sMul z10 ga42) ln33)) - (sLen ln45)))) 0),(.int ((Int.fmod (Int.ediv (Int.fmod (S0+17) 1000000) 48) 3)+1) 0)]) [] [] (fun v52=>oV (.str ln52 (v52 3))),CallN V ([2,1,7]) (cB "str.__add__" [(.str (sAdd (sMul z10 gb42) ln40) 0),(.str (sMul z10 ((sLen (sAdd (sMul z10 ga42) ln33)) - (sLen ln45))) 0)]) [] [] (fun v51=>oV (.str (sAdd (sAdd (sMul z10 gb42) ln40) (sMul z10 ((sLen (sAdd (sMul z10 ga42) ln33)) - (sLen ln45)))) (v51 3))),CallN V ([2,1,7]) (cB "str.__mul__" [(.str z10 0),(.int ((sLen (sAdd (sMul z10 ga42) ln33)) - (sLen ln45)) 0)]) [] [] (fun v50=>oV (.str (sMul z10 ((sLen (sAdd (sMul z10 ga42) ln33)) - (sLen ln45))) (v50 3))),CallN V ([2,1,7]) (cB "len" [(.str ln45 0)]) [] [] (fun v49=>oV (.int (sLen ln45) (v49 3))),CallN V ([2,1,7]) (cB "len" [(.str (sAdd (sMul z10 ga42) ln33) 0)]) [] [] (fun v48=>oV (.int (sLen (sAdd (sMul z10 ga42) ln33)) (v48 3))),CallN V ([2,1,7]) (cB "str.__add__" [(.str (sMul z10 gb42) 0),(.str ln40 0)]) [] [] (fun v47=>oV (.str (sAdd (sMul z10 gb42) ln40) (v47 3))),CallN V ([2,1,7]) (cB "str.__mul__" [(.str z10 0),(.int gb42 0)]) [] [] (fun v46=>oV (.str (sMul z10 gb42) (v46 3))),CallN V ([2,1,7]) (cR 28 [(.str (sAdd (sMul z10 ga42) ln33) 0),(.int ((Int.fmod (Int.ediv (Int.fmod (S0+17) 1000000) 3) 4)+1) 0)]) [] [] (fun v45=>oV (.str ln45 (v45 3))),CallN V ([2,1,7]) (cB "str.__add__" [(.str (sMul z10 ga42) 0),(.str ln33 0)]) [] [] (fun v44=>oV (.str (sAdd (sMul z10 ga42) ln33) (v44 3))),CallN V ([2,1,7]) (cB "str.__mul__" [(.str z10 0),(.int ga42 0)]) [] [] (fun v43=>oV (.str (sMul z10 ga42) (v43 3))),CallN V ([2,1,7]) (cR 113 [(.str tx10 0)]) [] [] (fun v42=>⟨none,[((v42 3),listO [(.int ga42 (v42 4)),(.int gb42 (v42 5))] 0)],.ok (.ret (.ref (v42 3)))⟩),CallN V ([2,1,7]) (cR 28 [(.str (sAdd (sAdd (sMul z10 gb30) ln28) (sMul z10 ((sLen (sAdd (sMul z10 ga30) ln21)) - (sLen ln33)))) 0),(.int ((Int.fmod (Int.ediv (Int.fmod (S0+17) 1000000) 48) 3)+1) 0)]) [] [] (fun v40=>oV (.str ln40 (v40 3))),CallN V ([2,1,7]) (cB "str.__add__" [(.str (sAdd (sMul z10 gb30) ln28) 0),(.str (sMul z10 ((sLen (sAdd (sMul z10 ga30) ln21)) - (sLen ln33))) 0)]) [] [] (fun v39=>oV (.str (sAdd (sAdd (sMul z10 gb30) ln28) (sMul z10 ((sLen (sAdd (sMul z10 ga30) ln21)) - (sLen ln33)))) (v39 3))),CallN V ([2,1,7]) (cB "str.__mul__" [(.str z10 0),(.int ((sLen (sAdd (sMul z10 ga30) ln21)) - (sLen ln33)) 0)]) [] [] (fun v38=>oV (.str (sMul z10 ((sLen (sAdd (sMul z10 ga30) ln21)) - (sLen ln33))) (v38 3))),CallN V ([2,1,7]) (cB "len" [(.str ln33 0)]) [] [] (fun v37=>oV (.int (sLen ln33) (v37 3))),CallN V ([2,1,7]) (cB "len" [(.str (sAdd (sMul z10 ga30) ln21) 0)]) [] [] (fun v36=>oV (.int (sLen (sAdd (sMul z10 ga30) ln21)) (v36 3))),CallN V ([2,1,7]) (cB "str.__add__" [(.str (sMul z10 gb30) 0),(.str ln28 0)]) [] [] (fun v35=>oV (.str (sAdd (sMul z10 gb30) ln28) (v35 3))),CallN V ([2,1,7]) (cB "str.__mul__" [(.str z10 0),(.int gb30 0)]) [] [] (fun v34=>oV (.str (sMul z10 gb30) (v34 3))),CallN V ([2,1,7]) (cR 28 [(.str (sAdd (sMul z10 ga30) ln21) 0),(.int ((Int.fmod (Int.ediv (Int.fmod (S0+17) 1000000) 3) 4)+1) 0)]) [] [] (fun v33=>oV (.str ln33 (v33 3))),CallN V ([2,1,7]) (cB "str.__add__" [(.str (sMul z10 ga30) 0),(.str ln21 0)]) [] [] (fun v32=>oV (.str (sAdd (sMul z10 ga30) ln21) (v32 3))),CallN V ([2,1,7]) (cB "str.__mul__" [(.str z10 0),(.int ga30 0)]) [] [] (fun v31=>oV (.str (sMul z10 ga30) (v31 3))),CallN V ([2,1,7]) (cR 113 [(.str tx7 0)]) [] [] (fun v30=>⟨none,[((v30 3),listO [(.int ga30 (v30 4)),(.int gb30 (v30 5))] 0)],.ok (.ret (.ref (v30 3)))⟩),EvP "int.__eq__" [(.int ((Int.fmod (Int.ediv (Int.fmod (S0+17) 1000000) 48) 3)+1) 0),(.int 0 0)] (retB false),EvP "int.__eq__" [(.int ((Int.fmod (Int.ediv (Int.fmod (S0+17) 1000000) 48) 3)+1) 0),(.int 127 0)] (retB false),EvP "int.__eq__" [(.int ((Int.fmod (Int.ediv (Int.fmod (S0+17) 1000000) 3) 4)+1) 0),(.int 0 0)] (retB false),EvP "int.__eq__" [(.int ((Int.fmod (Int.ediv (Int.fmod (S0+17) 1000000) 3) 4)+1) 0),(.int 127 0)] (retB false),CallN V ([2,1,7]) (cR 28 [(.str (sAdd (sAdd (sMul z10 gb18) z67) (sMul z10 ((sLen (sAdd (sMul z10 ga18) z67)) - (sLen ln21)))) 0),(.int ((Int.fmod (Int.ediv (Int.fmod (S0+17) 1000000) 12) 4)+1) 0)]) [] [] (fun v28=>oV (.str ln28 (v28 3))),CallN V ([2,1,7]) (cB "str.__add__" [(.str (sAdd (sMul z10 gb18) z67) 0),(.str (sMul z10 ((sLen (sAdd (sMul z10 ga18) z67)) - (sLen ln21))) 0)]) [] [] (fun v27=>oV (.str (sAdd (sAdd (sMul z10 gb18) z67) (sMul z10 ((sLen (sAdd (sMul z10 ga18) z67)) - (sLen ln21)))) (v27 3))),CallN V ([2,1,7]) (cB "str.__mul__" [(.str z10 0),(.int ((sLen (sAdd (sMul z10 ga18) z67)) - (sLen ln21)) 0)]) [] [] (fun v26=>oV (.str (sMul z10 ((sLen (sAdd (sMul z10 ga18) z67)) - (sLen ln21))) (v26 3))),CallN V ([2,1,7]) (cB "len" [(.str ln21 0)]) [] [] (fun v25=>oV (.int (sLen ln21) (v25 3))),CallN V ([2,1,7]) (cB "len" [(.str (sAdd (sMul z10 ga18) z67) 0)]) [] [] (fun v24=>oV (.int (sLen (sAdd (sMul z10 ga18) z67)) (v24 3))),CallN V ([2,1,7]) (cB "str.__add__" [(.str (sMul z10 gb18) 0),(.str z67 0)]) [] [] (fun v23=>oV (.str (sAdd (sMul z10 gb18) z67) (v23 3))),CallN V ([2,1,7]) (cB "str.__mul__" [(.str z10 0),(.int gb18 0)]) [] [] (fun v22=>oV (.str (sMul z10 gb18) (v22 3))),CallN V ([2,1,7]) (cR 28 [(.str (sAdd (sMul z10 ga18) z67) 0),(.int ((Int.fmod (Int.fmod (S0+17) 1000000) 3)+1) 0)]) [] [] (fun v21=>oV (.str ln21 (v21 3))),CallN V ([2,1,7]) (cB "str.__add__" [(.str (sMul z10 ga18) 0),(.str z67 0)]) [] [] (fun v20=>oV (.str (sAdd (sMul z10 ga18) z67) (v20 3))),CallN V ([2,1,7]) (cB "str.__mul__" [(.str z10 0),(.int ga18 0)]) [] [] (fun v19=>oV (.str (sMul z10 ga18) (v19 3))),CallN V ([2,1,7]) (cR 113 [(.str tx4 0)]) [] [] (fun v18=>⟨none,[((v18 3),listO [(.int ga18 (v18 4)),(.int gb18 (v18 5))] 0)],.ok (.ret (.ref (v18 3)))⟩),EvP "int.__eq__" [(.int ((Int.fmod (Int.ediv (Int.fmod (S0+17) 1000000) 12) 4)+1) 0),(.int 0 0)] (retB false),EvP "int.__eq__" [(.int ((Int.fmod (Int.ediv (Int.fmod (S0+17) 1000000) 12) 4)+1) 0),(.int 127 0)] (retB false),EvP "int.__eq__" [(.int ((Int.fmod (Int.fmod (S0+17) 1000000) 3)+1) 0),(.int 0 0)] (retB false),EvP "int.__eq__" [(.int ((Int.fmod (Int.fmod (S0+17) 1000000) 3)+1) 0),(.int 127 0)] (retB false),CallN V ([2,1,7]) (.forLoop fLaw_t88 (.ref ((v 15 0)+2)) fLaw_b88 [] (envF fLaws fLawq 123 [(z77,(sz+5)),(z75,(sz+4)),(z74,(sz+3)),(z59,(sz+2)),(z43,(sz+1))] sz)) [(((v 15 0)+2),(fO "list_iterator" [(.ref ((v 15 0)+1)),(.int 0 0)])),(((v 15 0)+1),listO [(.int (Int.fmod (Int.fmod (38+S15) 5832) 18) 0),(.int (Int.fmod (Int.ediv (Int.fmod (38+S15) 5832) 18) 18) 0),(.int (Int.ediv (Int.fmod (38+S15) 5832) 324) 0)] 0),((v 15 0),listO [(.int 0 0),(.int 0 0),(.int 0 0)] 0),(sz,nsO [ent w.params z53 tk (.ref sl),ent w.params z54 (tk+6) (.ref (sz+6)),ent w.params z55 ((v 0 1)+6) (.int (Int.fmod (S0+17) 1000000) ((v 0 1)+5)),ent w.params z56 ((v 0 1)+18) (.ref (v 0 0)),ent w.params z57 (v 1 1) (.ref (v 1 0)),ent w.params z58 ((v 1 1)+1) (.ref ((v 1 0)+1)),ent w.params z61 ((v 1 1)+8) (.int 4 ((v 13 1)+8)),ent w.params z60 ((v 3 1)+3) (.int (Int.fmod (38+S15) 5832) ((v 15 1)+2)),ent w.params z39 ((v 3 1)+7) (.ref (v 15 0)),ent w.params z38 ((v 3 1)+9) (.str z26 ((v 15 1)+8)),ent w.params z64 (v 4 7) (nv13 (v 13)),ent w.params z63 (v 4 8) (ov13 (v 13)),ent w.params z62 (v 4 9) (kv13 (v 13))] 13)] [] (fun v16=>⟨some [],[((v 15 0),listO [(.int p16 (v16 3)),(.int q16 (v16 4)),(.int r16 (v16 5))] 0),(sz,nsO [ent w.params z53 tk (.ref sl),ent w.params z54 (tk+6) (.ref (sz+6)),ent w.params z55 ((v 0 1)+6) (.int (Int.fmod (S0+17) 1000000) ((v 0 1)+5)),ent w.params z56 ((v 0 1)+18) (.ref (v 0 0)),ent w.params z57 (v 1 1) (.ref (v 1 0)),ent w.params z58 ((v 1 1)+1) (.ref ((v 1 0)+1)),ent w.params z61 ((v 1 1)+8) (.int 4 ((v 13 1)+8)),ent w.params z60 ((v 3 1)+3) (.int (Int.fmod (38+S15) 5832) ((v 15 1)+2)),ent w.params z39 ((v 3 1)+7) (.ref (v 15 0)),ent w.params z38 ((v 3 1)+9) (.str tx16 (v16 6)),ent w.params z64 (v 4 7) (nv16 (v16)),ent w.params z63 (v 4 8) (ov16 (v16)),ent w.params z62 (v 4 9) (kv16 (v16))] 13)],.ok .next⟩),EvP "int.__floordiv__" [(.int (Int.fmod (38+S15) 5832) 0),(.int 324 0)] (retI (Int.ediv (Int.fmod (38+S15) 5832) 324)),EvP "int.__floordiv__" [(.int (Int.fmod (38+S15) 5832) 0),(.int 18 0)] (retI (Int.ediv (Int.fmod (38+S15) 5832) 18)),CallN V ([2,1,7]) (cB "sum" [(.ref (v 14 3))]) [((v 14 3),listO ((pv14 (v 14)).map noTok) pn14)] [] (fun v15=>oV (.int S15 (v15 3))),CallN V ([2,1,7]) (cB "list.__getitem__" [(.ref sl),(.ref (v 13 0))]) [((v 13 0),(fO "slice" [(.int 4 ((v 13 1)+8)),(.int 5 ((v 13 1)+11)),.none])),(sl,listO (sv.map noTok) sn)] [] (fun v14=>⟨none,[((v14 3),listO (pv14 (v14)) pn14)],.ok (.ret (.ref (v14 3)))⟩),CallN V ([2,1,7]) (.forLoop fLaw_t88 (.ref ((v 12 0)+2)) fLaw_b88 [] (envF fLaws fLawq 123 [(z77,(sz+5)),(z75,(sz+4)),(z74,(sz+3)),(z59,(sz+2)),(z43,(sz+1))] sz)) [(((v 12 0)+2),(fO "list_iterator" [(.ref ((v 12 0)+1)),(.int 0 0)])),(((v 12 0)+1),listO [(.int (Int.fmod (Int.fmod (1108+S12) 5832) 18) 0),(.int (Int.fmod (Int.ediv (Int.fmod (1108+S12) 5832) 18) 18) 0),(.int (Int.ediv (Int.fmod (1108+S12) 5832) 324) 0)] 0),((v 12 0),listO [(.int 0 0),(.int 0 0),(.int 0 0)] 0),(sz,nsO [ent w.params z53 tk (.ref sl),ent w.params z54 (tk+6) (.ref (sz+6)),ent w.params z55 ((v 0 1)+6) (.int (Int.fmod (S0+17) 1000000) ((v 0 1)+5)),ent w.params z56 ((v 0 1)+18) (.ref (v 0 0)),ent w.params z57 (v 1 1) (.ref (v 1 0)),ent w.params z58 ((v 1 1)+1) (.ref ((v 1 0)+1)),ent w.params z61 ((v 1 1)+8) (.int 3 ((v 10 1)+8)),ent w.params z60 ((v 3 1)+3) (.int (Int.fmod (1108+S12) 5832) ((v 12 1)+2)),ent w.params z39 ((v 3 1)+7) (.ref (v 12 0)),ent w.params z38 ((v 3 1)+9) (.str z26 ((v 12 1)+8)),ent w.params z64 (v 4 7) (nv10 (v 10)),ent w.params z63 (v 4 8) (ov10 (v 10)),ent w.params z62 (v 4 9) (kv10 (v 10))] 13)] [] (fun v13=>⟨some [],[((v 12 0),listO [(.int p13 (v13 3)),(.int q13 (v13 4)),(.int r13 (v13 5))] 0),(sz,nsO [ent w.params z53 tk (.ref sl),ent w.params z54 (tk+6) (.ref (sz+6)),ent w.params z55 ((v 0 1)+6) (.int (Int.fmod (S0+17) 1000000) ((v 0 1)+5)),ent w.params z56 ((v 0 1)+18) (.ref (v 0 0)),ent w.params z57 (v 1 1) (.ref (v 1 0)),ent w.params z58 ((v 1 1)+1) (.ref ((v 1 0)+1)),ent w.params z61 ((v 1 1)+8) (.int 3 ((v 10 1)+8)),ent w.params z60 ((v 3 1)+3) (.int (Int.fmod (1108+S12) 5832) ((v 12 1)+2)),ent w.params z39 ((v 3 1)+7) (.ref (v 12 0)),ent w.params z38 ((v 3 1)+9) (.str tx13 (v13 6)),ent w.params z64 (v 4 7) (nv13 (v13)),ent w.params z63 (v 4 8) (ov13 (v13)),ent w.params z62 (v 4 9) (kv13 (v13))] 13)],.ok .next⟩),EvP "int.__floordiv__" [(.int (Int.fmod (1108+S12) 5832) 0),(.int 324 0)] (retI (Int.ediv (Int.fmod (1108+S12) 5832) 324)),EvP "int.__floordiv__" [(.int (Int.fmod (1108+S12) 5832) 0),(.int 18 0)] (retI (Int.ediv (Int.fmod (1108+S12) 5832) 18)),CallN V ([2,1,7]) (cB "sum" [(.ref (v 11 3))]) [((v 11 3),listO ((pv11 (v 11)).map noTok) pn11)] [] (fun v12=>oV (.int S12 (v12 3))),CallN V ([2,1,7]) (cB "list.__getitem__" [(.ref sl),(.ref (v 10 0))]) [((v 10 0),(fO "slice" [(.int 3 ((v 10 1)+8)),(.int 4 ((v 10 1)+11)),.none])),(sl,listO (sv.map noTok) sn)] [] (fun v11=>⟨none,[((v11 3),listO (pv11 (v11)) pn11)],.ok (.ret (.ref (v11 3)))⟩),CallN V ([2,1,7]) (.forLoop fLaw_t88 (.ref ((v 9 0)+2)) fLaw_b88 [] (envF fLaws fLawq 123 [(z77,(sz+5)),(z75,(sz+4)),(z74,(sz+3)),(z59,(sz+2)),(z43,(sz+1))] sz)) [(((v 9 0)+2),(fO "list_iterator" [(.ref ((v 9 0)+1)),(.int 0 0)])),(((v 9 0)+1),listO [(.int (Int.fmod (Int.fmod (264+S9) 5832) 18) 0),(.int (Int.fmod (Int.ediv (Int.fmod (264+S9) 5832) 18) 18) 0),(.int (Int.ediv (Int.fmod (264+S9) 5832) 324) 0)] 0),((v 9 0),listO [(.int 0 0),(.int 0 0),(.int 0 0)] 0),(sz,nsO [ent w.params z53 tk (.ref sl),ent w.params z54 (tk+6) (.ref (sz+6)),ent w.params z55 ((v 0 1)+6) (.int (Int.fmod (S0+17) 1000000) ((v 0 1)+5)),ent w.params z56 ((v 0 1)+18) (.ref (v 0 0)),ent w.params z57 (v 1 1) (.ref (v 1 0)),ent w.params z58 ((v 1 1)+1) (.ref ((v 1 0)+1)),ent w.params z61 ((v 1 1)+8) (.int 2 ((v 7 1)+8)),ent w.params z60 ((v 3 1)+3) (.int (Int.fmod (264+S9) 5832) ((v 9 1)+2)),ent w.params z39 ((v 3 1)+7) (.ref (v 9 0)),ent w.params z38 ((v 3 1)+9) (.str z26 ((v 9 1)+8)),ent w.params z64 (v 4 7) (nv7 (v 7)),ent w.params z63 (v 4 8) (ov7 (v 7)),ent w.params z62 (v 4 9) (kv7 (v 7))] 13)] [] (fun v10=>⟨some [],[((v 9 0),listO [(.int p10 (v10 3)),(.int q10 (v10 4)),(.int r10 (v10 5))] 0),(sz,nsO [ent w.params z53 tk (.ref sl),ent w.params z54 (tk+6) (.ref (sz+6)),ent w.params z55 ((v 0 1)+6) (.int (Int.fmod (S0+17) 1000000) ((v 0 1)+5)),ent w.params z56 ((v 0 1)+18) (.ref (v 0 0)),ent w.params z57 (v 1 1) (.ref (v 1 0)),ent w.params z58 ((v 1 1)+1) (.ref ((v 1 0)+1)),ent w.params z61 ((v 1 1)+8) (.int 2 ((v 7 1)+8)),ent w.params z60 ((v 3 1)+3) (.int (Int.fmod (264+S9) 5832) ((v 9 1)+2)),ent w.params z39 ((v 3 1)+7) (.ref (v 9 0)),ent w.params z38 ((v 3 1)+9) (.str tx10 (v10 6)),ent w.params z64 (v 4 7) (nv10 (v10)),ent w.params z63 (v 4 8) (ov10 (v10)),ent w.params z62 (v 4 9) (kv10 (v10))] 13)],.ok .next⟩),EvP "int.__floordiv__" [(.int (Int.fmod (264+S9) 5832) 0),(.int 324 0)] (retI (Int.ediv (Int.fmod (264+S9) 5832) 324)),EvP "int.__floordiv__" [(.int (Int.fmod (264+S9) 5832) 0),(.int 18 0)] (retI (Int.ediv (Int.fmod (264+S9) 5832) 18)),CallN V ([2,1,7]) (cB "sum" [(.ref (v 8 3))]) [((v 8 3),listO ((pv8 (v 8)).map noTok) pn8)] [] (fun v9=>oV (.int S9 (v9 3))),CallN V ([2,1,7]) (cB "list.__getitem__" [(.ref sl),(.ref (v 7 0))]) [((v 7 0),(fO "slice" [(.int 2 ((v 7 1)+8)),(.int 3 ((v 7 1)+11)),.none])),(sl,listO (sv.map noTok) sn)] [] (fun v8=>⟨none,[((v8 3),listO (pv8 (v8)) pn8)],.ok (.ret (.ref (v8 3)))⟩),CallN V ([2,1,7]) (.forLoop fLaw_t88 (.ref ((v 6 0)+2)) fLaw_b88 [] (envF fLaws fLawq 123 [(z77,(sz+5)),(z75,(sz+4)),(z74,(sz+3)),(z59,(sz+2)),(z43,(sz+1))] sz)) [(((v 6 0)+2),(fO "list_iterator" [(.ref ((v 6 0)+1)),(.int 0 0)])),(((v 6 0)+1),listO [(.int (Int.fmod (Int.fmod (5349+S6) 5832) 18) 0),(.int (Int.fmod (Int.ediv (Int.fmod (5349+S6) 5832) 18) 18) 0),(.int (Int.ediv (Int.fmod (5349+S6) 5832) 324) 0)] 0),((v 6 0),listO [(.int 0 0),(.int 0 0),(.int 0 0)] 0),(sz,nsO [ent w.params z53 tk (.ref sl),ent w.params z54 (tk+6) (.ref (sz+6)),ent w.params z55 ((v 0 1)+6) (.int (Int.fmod (S0+17) 1000000) ((v 0 1)+5)),ent w.params z56 ((v 0 1)+18) (.ref (v 0 0)),ent w.params z57 (v 1 1) (.ref (v 1 0)),ent w.params z58 ((v 1 1)+1) (.ref ((v 1 0)+1)),ent w.params z61 ((v 1 1)+8) (.int 1 ((v 4 1)+8)),ent w.params z60 ((v 3 1)+3) (.int (Int.fmod (5349+S6) 5832) ((v 6 1)+2)),ent w.params z39 ((v 3 1)+7) (.ref (v 6 0)),ent w.params z38 ((v 3 1)+9) (.str z26 ((v 6 1)+8)),ent w.params z64 (v 4 7) (nv4 (v 4)),ent w.params z63 (v 4 8) (ov4 (v 4)),ent w.params z62 (v 4 9) (kv4 (v 4))] 13)] [] (fun v7=>⟨some [],[((v 6 0),listO [(.int p7 (v7 3)),(.int q7 (v7 4)),(.int r7 (v7 5))] 0),(sz,nsO [ent w.params z53 tk (.ref sl),ent w.params z54 (tk+6) (.ref (sz+6)),ent w.params z55 ((v 0 1)+6) (.int (Int.fmod (S0+17) 1000000) ((v 0 1)+5)),ent w.params z56 ((v 0 1)+18) (.ref (v 0 0)),ent w.params z57 (v 1 1) (.ref (v 1 0)),ent w.params z58 ((v 1 1)+1) (.ref ((v 1 0)+1)),ent w.params z61 ((v 1 1)+8) (.int 1 ((v 4 1)+8)),ent w.params z60 ((v 3 1)+3) (.int (Int.fmod (5349+S6) 5832) ((v 6 1)+2)),ent w.params z39 ((v 3 1)+7) (.ref (v 6 0)),ent w.params z38 ((v 3 1)+9) (.str tx7 (v7 6)),ent w.params z64 (v 4 7) (nv7 (v7)),ent w.params z63 (v 4 8) (ov7 (v7)),ent w.params z62 (v 4 9) (kv7 (v7))] 13)],.ok .next⟩),EvP "int.__floordiv__" [(.int (Int.fmod (5349+S6) 5832) 0),(.int 324 0)] (retI (Int.ediv (Int.fmod (5349+S6) 5832) 324)),EvP "int.__floordiv__" [(.int (Int.fmod (5349+S6) 5832) 0),(.int 18 0)] (retI (Int.ediv (Int.fmod (5349+S6) 5832) 18)),CallN V ([2,1,7]) (cB "sum" [(.ref (v 5 3))]) [((v 5 3),listO ((pv5 (v 5)).map noTok) pn5)] [] (fun v6=>oV (.int S6 (v6 3))),CallN V ([2,1,7]) (cB "list.__getitem__" [(.ref sl),(.ref (v 4 0))]) [((v 4 0),(fO "slice" [(.int 1 ((v 4 1)+8)),(.int 2 ((v 4 1)+11)),.none])),(sl,listO (sv.map noTok) sn)] [] (fun v5=>⟨none,[((v5 3),listO (pv5 (v5)) pn5)],.ok (.ret (.ref (v5 3)))⟩),CallN V ([2,1,7]) (.forLoop fLaw_t88 (.ref ((v 3 0)+2)) fLaw_b88 [] (envF fLaws fLawq 123 [(z77,(sz+5)),(z75,(sz+4)),(z74,(sz+3)),(z59,(sz+2)),(z43,(sz+1))] sz)) [(((v 3 0)+2),(fO "list_iterator" [(.ref ((v 3 0)+1)),(.int 0 0)])),(((v 3 0)+1),listO [(.int (Int.fmod (Int.fmod (726+S3) 5832) 18) 0),(.int (Int.fmod (Int.ediv (Int.fmod (726+S3) 5832) 18) 18) 0),(.int (Int.ediv (Int.fmod (726+S3) 5832) 324) 0)] 0),((v 3 0),listO [(.int 0 0),(.int 0 0),(.int 0 0)] 0),(sz,nsO [ent w.params z53 tk (.ref sl),ent w.params z54 (tk+6) (.ref (sz+6)),ent w.params z55 ((v 0 1)+6) (.int (Int.fmod (S0+17) 1000000) ((v 0 1)+5)),ent w.params z56 ((v 0 1)+18) (.ref (v 0 0)),ent w.params z57 (v 1 1) (.ref (v 1 0)),ent w.params z58 ((v 1 1)+1) (.ref ((v 1 0)+1)),ent w.params z61 ((v 1 1)+8) (.int 0 ((v 1 1)+7)),ent w.params z60 ((v 3 1)+3) (.int (Int.fmod (726+S3) 5832) ((v 3 1)+2)),ent w.params z39 ((v 3 1)+7) (.ref (v 3 0)),ent w.params z38 ((v 3 1)+9) (.str z26 ((v 3 1)+8))] 10)] [] (fun v4=>⟨some [],[((v 3 0),listO [(.int p4 (v4 3)),(.int q4 (v4 4)),(.int r4 (v4 5))] 0),(sz,nsO [ent w.params z53 tk (.ref sl),ent w.params z54 (tk+6) (.ref (sz+6)),ent w.params z55 ((v 0 1)+6) (.int (Int.fmod (S0+17) 1000000) ((v 0 1)+5)),ent w.params z56 ((v 0 1)+18) (.ref (v 0 0)),ent w.params z57 (v 1 1) (.ref (v 1 0)),ent w.params z58 ((v 1 1)+1) (.ref ((v 1 0)+1)),ent w.params z61 ((v 1 1)+8) (.int 0 ((v 1 1)+7)),ent w.params z60 ((v 3 1)+3) (.int (Int.fmod (726+S3) 5832) ((v 3 1)+2)),ent w.params z39 ((v 3 1)+7) (.ref (v 3 0)),ent w.params z38 ((v 3 1)+9) (.str tx4 (v4 6)),ent w.params z64 (v4 7) (nv4 (v4)),ent w.params z63 (v4 8) (ov4 (v4)),ent w.params z62 (v4 9) (kv4 (v4))] 13)],.ok .next⟩),EvP "int.__floordiv__" [(.int (Int.fmod (726+S3) 5832) 0),(.int 324 0)] (retI (Int.ediv (Int.fmod (726+S3) 5832) 324)),EvP "int.__floordiv__" [(.int (Int.fmod (726+S3) 5832) 0),(.int 18 0)] (retI (Int.ediv (Int.fmod (726+S3) 5832) 18)),CallN V ([2,1,7]) (cB "sum" [(.ref (v 2 3))]) [((v 2 3),listO ((pv2 (v 2)).map noTok) pn2)] [] (fun v3=>oV (.int S3 (v3 3))),CallN V ([2,1,7]) (cB "list.__getitem__" [(.ref sl),(.ref ((v 1 0)+6))]) [(((v 1 0)+6),(fO "slice" [(.int 0 ((v 1 1)+7)),(.int 1 ((v 1 1)+10)),.none])),(sl,listO (sv.map noTok) sn)] [] (fun v2=>⟨none,[((v2 3),listO (pv2 (v2)) pn2)],.ok (.ret (.ref (v2 3)))⟩),CallN V ([1,7]) (cB "list.__getitem__" [(.ref ((v 0 0)+1)),(.int (Int.ediv (Int.fmod (Int.ediv (Int.fmod (S0+17) 1000000) 144) 3) 2) 0)]) [(((v 0 0)+1),listO [(.int 0 0),(.int 127 0)] 0)] [] (fun v1=>oV (.int 0 (v1 3))),EvP "int.__floordiv__" [(.int (Int.fmod (Int.ediv (Int.fmod (S0+17) 1000000) 144) 3) 0),(.int 2 0)] (retI (Int.ediv (Int.fmod (Int.ediv (Int.fmod (S0+17) 1000000) 144) 3) 2)),EvP "int.__floordiv__" [(.int (Int.fmod (S0+17) 1000000) 0),(.int 144 0)] (retI (Int.ediv (Int.fmod (S0+17) 1000000) 144)),EvP "int.__floordiv__" [(.int (Int.fmod (S0+17) 1000000) 0),(.int 48 0)] (retI (Int.ediv (Int.fmod (S0+17) 1000000) 48)),EvP "int.__floordiv__" [(.int (Int.fmod (S0+17) 1000000) 0),(.int 12 0)] (retI (Int.ediv (Int.fmod (S0+17) 1000000) 12)),EvP "int.__floordiv__" [(.int (Int.fmod (S0+17) 1000000) 0),(.int 3 0)] (retI (Int.ediv (Int.fmod (S0+17) 1000000) 3)),CallN V ([1,7]) (cB "sum" [(.ref sl)]) [(sl,listO (sv.map noTok) sn)] [] (fun v0=>oV (.int S0 (v0 3)))]
noncomputable def law_A_en (n0 n1:Nat) (w:World) (sl:Nat) (sv:List Value) (sn:Nat) (S0:Int) (pv2:(Nat→Nat)→List Value) (pn2:Nat) (S3:Int) (nv4 kv4 ov4:(Nat→Nat)→Value) (p4 q4 r4:Int) (tx4:Str) (pv5:(Nat→Nat)→List Value) (pn5:Nat) (S6:Int) (nv7 kv7 ov7:(Nat→Nat)→Value) (p7 q7 r7:Int) (tx7:Str) (pv8:(Nat→Nat)→List Value) (pn8:Nat) (S9:Int) (nv10 kv10 ov10:(Nat→Nat)→Value) (p10 q10 r10:Int) (tx10:Str) (pv11:(Nat→Nat)→List Value) (pn11:Nat) (S12:Int) (nv13 kv13 ov13:(Nat→Nat)→Value) (p13 q13 r13:Int) (tx13:Str) (pv14:(Nat→Nat)→List Value) (pn14:Nat) (S15:Int) (nv16 kv16 ov16:(Nat→Nat)→Value) (p16 q16 r16:Int) (tx16:Str) (ga18 gb18:Int) (ln21 ln28:Str) (ga30 gb30:Int) (ln33 ln40:Str) (ga42 gb42:Int) (ln45 ln52:Str) (ga54 gb54:Int) (ln57 ln64:Str) (ga66 gb66:Int) (ln69 ln76:Str) (oa77 ob77 oc77 od77 oe77 of77 oa84 ob84 oc84 od84 oe84 of84 oa85 ob85 oc85 od85 oe85 of85:Int) (sz tk:Nat):List (Nat × En):=[(1,.call [7] [] (fun v0=>oV (.int S0 (v0 3))) (fun v0=>[(11,.ev (retI (Int.ediv (Int.fmod (S0+17) 1000000) 3))),(5,.ev (retI (Int.ediv (Int.fmod (S0+17) 1000000) 12))),(5,.ev (retI (Int.ediv (Int.fmod (S0+17) 1000000) 48))),(5,.ev (retI (Int.ediv (Int.fmod (S0+17) 1000000) 144))),(3,.ev (retI (Int.ediv (Int.fmod (Int.ediv (Int.fmod (S0+17) 1000000) 144) 3) 2))),(0,.call [0] [] (fun v1=>oV (.int 0 (v1 3))) (fun v1=>[(16,.call [0,9] [] (fun v2=>⟨none,[((v2 3),listO (pv2 (v2)) pn2)],.ok (.ret (.ref (v2 3)))⟩) (fun v2=>[(0,.call [0] [] (fun v3=>oV (.int S3 (v3 3))) (fun v3=>[(7,.ev (retI (Int.ediv (Int.fmod (726+S3) 5832) 18))),(3,.ev (retI (Int.ediv (Int.fmod (726+S3) 5832) 324))),(2,.call [0,1,2,20] [] (fun v4=>⟨some [],[((v3 0),listO [(.int p4 (v4 3)),(.int q4 (v4 4)),(.int r4 (v4 5))] 0),(sz,nsO [ent w.params z53 tk (.ref sl),ent w.params z54 (tk+6) (.ref (sz+6)),ent w.params z55 ((v0 1)+6) (.int (Int.fmod (S0+17) 1000000) ((v0 1)+5)),ent w.params z56 ((v0 1)+18) (.ref (v0 0)),ent w.params z57 (v1 1) (.ref (v1 0)),ent w.params z58 ((v1 1)+1) (.ref ((v1 0)+1)),ent w.params z61 ((v1 1)+8) (.int 0 ((v1 1)+7)),ent w.params z60 ((v3 1)+3) (.int (Int.fmod (726+S3) 5832) ((v3 1)+2)),ent w.params z39 ((v3 1)+7) (.ref (v3 0)),ent w.params z38 ((v3 1)+9) (.str tx4 (v4 6)),ent w.params z64 (v4 7) (nv4 (v4)),ent w.params z63 (v4 8) (ov4 (v4)),ent w.params z62 (v4 9) (kv4 (v4))] 13)],.ok .next⟩) (fun v4=>[(29,.call [0,5] [] (fun v5=>⟨none,[((v5 3),listO (pv5 (v5)) pn5)],.ok (.ret (.ref (v5 3)))⟩) (fun v5=>[(0,.call [0] [] (fun v6=>oV (.int S6 (v6 3))) (fun v6=>[(7,.ev (retI (Int.ediv (Int.fmod (5349+S6) 5832) 18))),(3,.ev (retI (Int.ediv (Int.fmod (5349+S6) 5832) 324))),(2,.call [0,1,2,7] [] (fun v7=>⟨some [],[((v6 0),listO [(.int p7 (v7 3)),(.int q7 (v7 4)),(.int r7 (v7 5))] 0),(sz,nsO [ent w.params z53 tk (.ref sl),ent w.params z54 (tk+6) (.ref (sz+6)),ent w.params z55 ((v0 1)+6) (.int (Int.fmod (S0+17) 1000000) ((v0 1)+5)),ent w.params z56 ((v0 1)+18) (.ref (v0 0)),ent w.params z57 (v1 1) (.ref (v1 0)),ent w.params z58 ((v1 1)+1) (.ref ((v1 0)+1)),ent w.params z61 ((v1 1)+8) (.int 1 ((v4 1)+8)),ent w.params z60 ((v3 1)+3) (.int (Int.fmod (5349+S6) 5832) ((v6 1)+2)),ent w.params z39 ((v3 1)+7) (.ref (v6 0)),ent w.params z38 ((v3 1)+9) (.str tx7 (v7 6)),ent w.params z64 (v4 7) (nv7 (v7)),ent w.params z63 (v4 8) (ov7 (v7)),ent w.params z62 (v4 9) (kv7 (v7))] 13)],.ok .next⟩) (fun v7=>[(29,.call [0,5] [] (fun v8=>⟨none,[((v8 3),listO (pv8 (v8)) pn8)],.ok (.ret (.ref (v8 3)))⟩) (fun v8=>[(0,.call [0] [] (fun v9=>oV (.int S9 (v9 3))) (fun v9=>[(7,.ev (retI (Int.ediv (Int.fmod (264+S9) 5832) 18))),(3,.ev (retI (Int.ediv (Int.fmod (264+S9) 5832) 324))),(2,.call [0,1,2,7] [] (fun v10=>⟨some [],[((v9 0),listO [(.int p10 (v10 3)),(.int q10 (v10 4)),(.int r10 (v10 5))] 0),(sz,nsO [ent w.params z53 tk (.ref sl),ent w.params z54 (tk+6) (.ref (sz+6)),ent w.params z55 ((v0 1)+6) (.int (Int.fmod (S0+17) 1000000) ((v0 1)+5)),ent w.params z56 ((v0 1)+18) (.ref (v0 0)),ent w.params z57 (v1 1) (.ref (v1 0)),ent w.params z58 ((v1 1)+1) (.ref ((v1 0)+1)),ent w.params z61 ((v1 1)+8) (.int 2 ((v7 1)+8)),ent w.params z60 ((v3 1)+3) (.int (Int.fmod (264+S9) 5832) ((v9 1)+2)),ent w.params z39 ((v3 1)+7) (.ref (v9 0)),ent w.params z38 ((v3 1)+9) (.str tx10 (v10 6)),ent w.params z64 (v4 7) (nv10 (v10)),ent w.params z63 (v4 8) (ov10 (v10)),ent w.params z62 (v4 9) (kv10 (v10))] 13)],.ok .next⟩) (fun v10=>[(29,.call [0,5] [] (fun v11=>⟨none,[((v11 3),listO (pv11 (v11)) pn11)],.ok (.ret (.ref (v11 3)))⟩) (fun v11=>[(0,.call [0] [] (fun v12=>oV (.int S12 (v12 3))) (fun v12=>[(7,.ev (retI (Int.ediv (Int.fmod (1108+S12) 5832) 18))),(3,.ev (retI (Int.ediv (Int.fmod (1108+S12) 5832) 324))),(2,.call [0,1,2,7] [] (fun v13=>⟨some [],[((v12 0),listO [(.int p13 (v13 3)),(.int q13 (v13 4)),(.int r13 (v13 5))] 0),(sz,nsO [ent w.params z53 tk (.ref sl),ent w.params z54 (tk+6) (.ref (sz+6)),ent w.params z55 ((v0 1)+6) (.int (Int.fmod (S0+17) 1000000) ((v0 1)+5)),ent w.params z56 ((v0 1)+18) (.ref (v0 0)),ent w.params z57 (v1 1) (.ref (v1 0)),ent w.params z58 ((v1 1)+1) (.ref ((v1 0)+1)),ent w.params z61 ((v1 1)+8) (.int 3 ((v10 1)+8)),ent w.params z60 ((v3 1)+3) (.int (Int.fmod (1108+S12) 5832) ((v12 1)+2)),ent w.params z39 ((v3 1)+7) (.ref (v12 0)),ent w.params z38 ((v3 1)+9) (.str tx13 (v13 6)),ent w.params z64 (v4 7) (nv13 (v13)),ent w.params z63 (v4 8) (ov13 (v13)),ent w.params z62 (v4 9) (kv13 (v13))] 13)],.ok .next⟩) (fun v13=>[(29,.call [0,5] [] (fun v14=>⟨none,[((v14 3),listO (pv14 (v14)) pn14)],.ok (.ret (.ref (v14 3)))⟩) (fun v14=>[(0,.call [0] [] (fun v15=>oV (.int S15 (v15 3))) (fun v15=>[(7,.ev (retI (Int.ediv (Int.fmod (38+S15) 5832) 18))),(3,.ev (retI (Int.ediv (Int.fmod (38+S15) 5832) 324))),(2,.call [0,1,2,7] [] (fun v16=>⟨some [],[((v15 0),listO [(.int p16 (v16 3)),(.int q16 (v16 4)),(.int r16 (v16 5))] 0),(sz,nsO [ent w.params z53 tk (.ref sl),ent w.params z54 (tk+6) (.ref (sz+6)),ent w.params z55 ((v0 1)+6) (.int (Int.fmod (S0+17) 1000000) ((v0 1)+5)),ent w.params z56 ((v0 1)+18) (.ref (v0 0)),ent w.params z57 (v1 1) (.ref (v1 0)),ent w.params z58 ((v1 1)+1) (.ref ((v1 0)+1)),ent w.params z61 ((v1 1)+8) (.int 4 ((v13 1)+8)),ent w.params z60 ((v3 1)+3) (.int (Int.fmod (38+S15) 5832) ((v15 1)+2)),ent w.params z39 ((v3 1)+7) (.ref (v15 0)),ent w.params z38 ((v3 1)+9) (.str tx16 (v16 6)),ent w.params z64 (v4 7) (nv16 (v16)),ent w.params z63 (v4 8) (ov16 (v16)),ent w.params z62 (v4 9) (kv16 (v16))] 13)],.ok .next⟩) (fun v16=>[(55,.ev (retB false)),(1,.ev (retB false)),(8,.ev (retB false)),(1,.ev (retB false)),(0,.own (tupE fLaw_t100) (tupK fLaw_t100) (tupP fLaw_t100) ((v16 0)+10) ((v16 0)+13) fLaw_b100 [] (envF fLaws fLawq 123 [(z77,(sz+5)),(z75,(sz+4)),(z74,(sz+3)),(z59,(sz+2)),(z43,(sz+1))] sz)),(10,.call [] [] (fun v18=>⟨none,[((v18 3),listO [(.int ga18 (v18 4)),(.int gb18 (v18 5))] 0)],.ok (.ret (.ref (v18 3)))⟩) (fun v18=>[(4,.call [] [] (fun v19=>oV (.str (sMul z10 ga18) (v19 3))) (fun v19=>[(0,.call [] [] (fun v20=>oV (.str (sAdd (sMul z10 ga18) z67) (v20 3))) (fun v20=>[(0,.call [] [] (fun v21=>oV (.str ln21 (v21 3))) (fun v21=>[(4,.call [] [] (fun v22=>oV (.str (sMul z10 gb18) (v22 3))) (fun v22=>[(0,.call [] [] (fun v23=>oV (.str (sAdd (sMul z10 gb18) z67) (v23 3))) (fun v23=>[(0,.call [] [] (fun v24=>oV (.int (sLen (sAdd (sMul z10 ga18) z67)) (v24 3))) (fun v24=>[(0,.call [] [] (fun v25=>oV (.int (sLen ln21) (v25 3))) (fun v25=>[(4,.call [] [] (fun v26=>oV (.str (sMul z10 ((sLen (sAdd (sMul z10 ga18) z67)) - (sLen ln21))) (v26 3))) (fun v26=>[(0,.call [] [] (fun v27=>oV (.str (sAdd (sAdd (sMul z10 gb18) z67) (sMul z10 ((sLen (sAdd (sMul z10 ga18) z67)) - (sLen ln21)))) (v27 3))) (fun v27=>[(0,.call [] [] (fun v28=>oV (.str ln28 (v28 3))) (fun v28=>[(13,.ev (retB false)),(1,.ev (retB false)),(6,.ev (retB false)),(1,.ev (retB false)),(0,.own (tupE fLaw_t100) (tupK fLaw_t100) (tupP fLaw_t100) ((v16 0)+10) ((v28 0)+1) fLaw_b100 [] (envF fLaws fLawq 123 [(z77,(sz+5)),(z75,(sz+4)),(z74,(sz+3)),(z59,(sz+2)),(z43,(sz+1))] sz)),(10,.call [] [] (fun v30=>⟨none,[((v30 3),listO [(.int ga30 (v30 4)),(.int gb30 (v30 5))] 0)],.ok (.ret (.ref (v30 3)))⟩) (fun v30=>[(4,.call [] [] (fun v31=>oV (.str (sMul z10 ga30) (v31 3))) (fun v31=>[(0,.call [] [] (fun v32=>oV (.str (sAdd (sMul z10 ga30) ln21) (v32 3))) (fun v32=>[(0,.call [] [] (fun v33=>oV (.str ln33 (v33 3))) (fun v33=>[(4,.call [] [] (fun v34=>oV (.str (sMul z10 gb30) (v34 3))) (fun v34=>[(0,.call [] [] (fun v35=>oV (.str (sAdd (sMul z10 gb30) ln28) (v35 3))) (fun v35=>[(0,.call [] [] (fun v36=>oV (.int (sLen (sAdd (sMul z10 ga30) ln21)) (v36 3))) (fun v36=>[(0,.call [] [] (fun v37=>oV (.int (sLen ln33) (v37 3))) (fun v37=>[(4,.call [] [] (fun v38=>oV (.str (sMul z10 ((sLen (sAdd (sMul z10 ga30) ln21)) - (sLen ln33))) (v38 3))) (fun v38=>[(0,.call [] [] (fun v39=>oV (.str (sAdd (sAdd (sMul z10 gb30) ln28) (sMul z10 ((sLen (sAdd (sMul z10 ga30) ln21)) - (sLen ln33)))) (v39 3))) (fun v39=>[(0,.call [] [] (fun v40=>oV (.str ln40 (v40 3))) (fun v40=>[(27,.own (tupE fLaw_t100) (tupK fLaw_t100) (tupP fLaw_t100) ((v16 0)+10) ((v40 0)+1) fLaw_b100 [] (envF fLaws fLawq 123 [(z77,(sz+5)),(z75,(sz+4)),(z74,(sz+3)),(z59,(sz+2)),(z43,(sz+1))] sz)),(10,.call [] [] (fun v42=>⟨none,[((v42 3),listO [(.int ga42 (v42 4)),(.int gb42 (v42 5))] 0)],.ok (.ret (.ref (v42 3)))⟩) (fun v42=>[(4,.call [] [] (fun v43=>oV (.str (sMul z10 ga42) (v43 3))) (fun v43=>[(0,.call [] [] (fun v44=>oV (.str (sAdd (sMul z10 ga42) ln33) (v44 3))) (fun v44=>[(0,.call [] [] (fun v45=>oV (.str ln45 (v45 3))) (fun v45=>[(4,.call [] [] (fun v46=>oV (.str (sMul z10 gb42) (v46 3))) (fun v46=>[(0,.call [] [] (fun v47=>oV (.str (sAdd (sMul z10 gb42) ln40) (v47 3))) (fun v47=>[(0,.call [] [] (fun v48=>oV (.int (sLen (sAdd (sMul z10 ga42) ln33)) (v48 3))) (fun v48=>[(0,.call [] [] (fun v49=>oV (.int (sLen ln45) (v49 3))) (fun v49=>[(4,.call [] [] (fun v50=>oV (.str (sMul z10 ((sLen (sAdd (sMul z10 ga42) ln33)) - (sLen ln45))) (v50 3))) (fun v50=>[(0,.call [] [] (fun v51=>oV (.str (sAdd (sAdd (sMul z10 gb42) ln40) (sMul z10 ((sLen (sAdd (sMul z10 ga42) ln33)) - (sLen ln45)))) (v51 3))) (fun v51=>[(0,.call [] [] (fun v52=>oV (.str ln52 (v52 3))) (fun v52=>[(13,.own (tupE fLaw_t100) (tupK fLaw_t100) (tupP fLaw_t100) ((v16 0)+10) ((v52 0)+1) fLaw_b100 [] (envF fLaws fLawq 123 [(z77,(sz+5)),(z75,(sz+4)),(z74,(sz+3)),(z59,(sz+2)),(z43,(sz+1))] sz)),(10,.call [] [] (fun v54=>⟨none,[((v54 3),listO [(.int ga54 (v54 4)),(.int gb54 (v54 5))] 0)],.ok (.ret (.ref (v54 3)))⟩) (fun v54=>[(4,.call [] [] (fun v55=>oV (.str (sMul z10 ga54) (v55 3))) (fun v55=>[(0,.call [] [] (fun v56=>oV (.str (sAdd (sMul z10 ga54) ln45) (v56 3))) (fun v56=>[(0,.call [] [] (fun v57=>oV (.str ln57 (v57 3))) (fun v57=>[(4,.call [] [] (fun v58=>oV (.str (sMul z10 gb54) (v58 3))) (fun v58=>[(0,.call [] [] (fun v59=>oV (.str (sAdd (sMul z10 gb54) ln52) (v59 3))) (fun v59=>[(0,.call [] [] (fun v60=>oV (.int (sLen (sAdd (sMul z10 ga54) ln45)) (v60 3))) (fun v60=>[(0,.call [] [] (fun v61=>oV (.int (sLen ln57) (v61 3))) (fun v61=>[(4,.call [] [] (fun v62=>oV (.str (sMul z10 ((sLen (sAdd (sMul z10 ga54) ln45)) - (sLen ln57))) (v62 3))) (fun v62=>[(0,.call [] [] (fun v63=>oV (.str (sAdd (sAdd (sMul z10 gb54) ln52) (sMul z10 ((sLen (sAdd (sMul z10 ga54) ln45)) - (sLen ln57)))) (v63 3))) (fun v63=>[(0,.call [] [] (fun v64=>oV (.str ln64 (v64 3))) (fun v64=>[(13,.own (tupE fLaw_t100) (tupK fLaw_t100) (tupP fLaw_t100) ((v16 0)+10) ((v64 0)+1) fLaw_b100 [] (envF fLaws fLawq 123 [(z77,(sz+5)),(z75,(sz+4)),(z74,(sz+3)),(z59,(sz+2)),(z43,(sz+1))] sz)),(10,.call [] [] (fun v66=>⟨none,[((v66 3),listO [(.int ga66 (v66 4)),(.int gb66 (v66 5))] 0)],.ok (.ret (.ref (v66 3)))⟩) (fun v66=>[(4,.call [] [] (fun v67=>oV (.str (sMul z10 ga66) (v67 3))) (fun v67=>[(0,.call [] [] (fun v68=>oV (.str (sAdd (sMul z10 ga66) ln57) (v68 3))) (fun v68=>[(0,.call [] [] (fun v69=>oV (.str ln69 (v69 3))) (fun v69=>[(4,.call [] [] (fun v70=>oV (.str (sMul z10 gb66) (v70 3))) (fun v70=>[(0,.call [] [] (fun v71=>oV (.str (sAdd (sMul z10 gb66) ln64) (v71 3))) (fun v71=>[(0,.call [] [] (fun v72=>oV (.int (sLen (sAdd (sMul z10 ga66) ln57)) (v72 3))) (fun v72=>[(0,.call [] [] (fun v73=>oV (.int (sLen ln69) (v73 3))) (fun v73=>[(4,.call [] [] (fun v74=>oV (.str (sMul z10 ((sLen (sAdd (sMul z10 ga66) ln57)) - (sLen ln69))) (v74 3))) (fun v74=>[(0,.call [] [] (fun v75=>oV (.str (sAdd (sAdd (sMul z10 gb66) ln64) (sMul z10 ((sLen (sAdd (sMul z10 ga66) ln57)) - (sLen ln69)))) (v75 3))) (fun v75=>[(0,.call [] [] (fun v76=>oV (.str ln76 (v76 3))) (fun v76=>[(32,.call [0,73] [] (fun v77=>⟨none,[((v77 3),listO [(.int oa77 (v77 4)),(.int ob77 (v77 5)),(.int oc77 (v77 6)),(.int od77 (v77 7)),(.int oe77 (v77 8)),(.int of77 (v77 9))] 6)],.ok (.ret (.ref (v77 3)))⟩) (fun v77=>[(n0,.ownC ((v77 0)+4) ((v77 0)+7) (compLoad lc109_19 0 ((v77 0)+4) ((v77 0)+7) (.ref ((v77 0)+5)) (envC lc109_19 fLawq [] ((v77 0)+6) none (.ref 122) (some sz))) (compOwn lc109_19 0 ((v77 0)+4) ((v77 0)+7) (.ref ((v77 0)+5)) (envC lc109_19 fLawq [] ((v77 0)+6) none (.ref 122) (some sz)))),(19,.ownC ((v77 0)+4) ((v77 0)+11) (compLoad lc109_19 0 ((v77 0)+4) ((v77 0)+11) (.ref ((v77 0)+5)) (envC lc109_19 fLawq [] ((v77 0)+6) none (.ref 122) (some sz))) (compOwn lc109_19 0 ((v77 0)+4) ((v77 0)+11) (.ref ((v77 0)+5)) (envC lc109_19 fLawq [] ((v77 0)+6) none (.ref 122) (some sz)))),(19,.ownC ((v77 0)+4) ((v77 0)+15) (compLoad lc109_19 0 ((v77 0)+4) ((v77 0)+15) (.ref ((v77 0)+5)) (envC lc109_19 fLawq [] ((v77 0)+6) none (.ref 122) (some sz))) (compOwn lc109_19 0 ((v77 0)+4) ((v77 0)+15) (.ref ((v77 0)+5)) (envC lc109_19 fLawq [] ((v77 0)+6) none (.ref 122) (some sz)))),(19,.ownC ((v77 0)+4) ((v77 0)+19) (compLoad lc109_19 0 ((v77 0)+4) ((v77 0)+19) (.ref ((v77 0)+5)) (envC lc109_19 fLawq [] ((v77 0)+6) none (.ref 122) (some sz))) (compOwn lc109_19 0 ((v77 0)+4) ((v77 0)+19) (.ref ((v77 0)+5)) (envC lc109_19 fLawq [] ((v77 0)+6) none (.ref 122) (some sz)))),(19,.ownC ((v77 0)+4) ((v77 0)+23) (compLoad lc109_19 0 ((v77 0)+4) ((v77 0)+23) (.ref ((v77 0)+5)) (envC lc109_19 fLawq [] ((v77 0)+6) none (.ref 122) (some sz))) (compOwn lc109_19 0 ((v77 0)+4) ((v77 0)+23) (.ref ((v77 0)+5)) (envC lc109_19 fLawq [] ((v77 0)+6) none (.ref 122) (some sz)))),(19,.ownC ((v77 0)+4) ((v77 0)+27) (compLoad lc109_19 0 ((v77 0)+4) ((v77 0)+27) (.ref ((v77 0)+5)) (envC lc109_19 fLawq [] ((v77 0)+6) none (.ref 122) (some sz))) (compOwn lc109_19 0 ((v77 0)+4) ((v77 0)+27) (.ref ((v77 0)+5)) (envC lc109_19 fLawq [] ((v77 0)+6) none (.ref 122) (some sz)))),(17,.call [27,39] [] (fun v84=>⟨none,[((v84 3),listO [(.int oa84 (v84 4)),(.int ob84 (v84 5)),(.int oc84 (v84 6)),(.int od84 (v84 7)),(.int oe84 (v84 8)),(.int of84 (v84 9))] 6)],.ok (.ret (.ref (v84 3)))⟩) (fun v84=>[(0,.call [2,108] [] (fun v85=>⟨none,[((v85 3),listO [(.int oa85 (v85 4)),(.int ob85 (v85 5)),(.int oc85 (v85 6)),(.int od85 (v85 7)),(.int oe85 (v85 8)),(.int of85 (v85 9))] 6)],.ok (.ret (.ref (v85 3)))⟩) (fun v85=>[(n1,.call [] [] (fun v86=>oV (.str (sMul z10 ((0+p4) - ob77)) (v86 3))) (fun v86=>[(0,.call [] [] (fun v87=>oV (.str (sAdd (sMul z10 ((0+p4) - ob77)) z67) (v87 3))) (fun v87=>[(8,.call [] [] (fun v88=>oV (.str (sMul z10 ((0+q4) - ob85)) (v88 3))) (fun v88=>[(0,.call [] [] (fun v89=>oV (.str (sAdd (sMul z10 ((0+q4) - ob85)) z67) (v89 3))) (fun v89=>[(12,.call [] [] (fun v90=>oV (.str (sMul z10 ((ob77 - ob84)+ob85)) (v90 3))) (fun v90=>[(0,.call [] [] (fun v91=>oV (.str (sAdd (sAdd (sMul z10 ((0+q4) - ob85)) z67) (sMul z10 ((ob77 - ob84)+ob85))) (v91 3))) (fun v91=>[(13,.call [] [] (fun v92=>oV (.str (sMul z10 (((0+p4)+p7) - oc77)) (v92 3))) (fun v92=>[(0,.call [] [] (fun v93=>oV (.str (sAdd (sMul z10 (((0+p4)+p7) - oc77)) z67) (v93 3))) (fun v93=>[(8,.call [] [] (fun v94=>oV (.str (sMul z10 (((0+q4)+q7) - oc85)) (v94 3))) (fun v94=>[(0,.call [] [] (fun v95=>oV (.str (sAdd (sMul z10 (((0+q4)+q7) - oc85)) z67) (v95 3))) (fun v95=>[(12,.call [] [] (fun v96=>oV (.str (sMul z10 ((oc77 - oc84)+oc85)) (v96 3))) (fun v96=>[(0,.call [] [] (fun v97=>oV (.str (sAdd (sAdd (sMul z10 (((0+q4)+q7) - oc85)) z67) (sMul z10 ((oc77 - oc84)+oc85))) (v97 3))) (fun v97=>[(13,.call [] [] (fun v98=>oV (.str (sMul z10 ((((0+p4)+p7)+p10) - od77)) (v98 3))) (fun v98=>[(0,.call [] [] (fun v99=>oV (.str (sAdd (sMul z10 ((((0+p4)+p7)+p10) - od77)) z67) (v99 3))) (fun v99=>[(8,.call [] [] (fun v100=>oV (.str (sMul z10 ((((0+q4)+q7)+q10) - od85)) (v100 3))) (fun v100=>[(0,.call [] [] (fun v101=>oV (.str (sAdd (sMul z10 ((((0+q4)+q7)+q10) - od85)) z67) (v101 3))) (fun v101=>[(12,.call [] [] (fun v102=>oV (.str (sMul z10 ((od77 - od84)+od85)) (v102 3))) (fun v102=>[(0,.call [] [] (fun v103=>oV (.str (sAdd (sAdd (sMul z10 ((((0+q4)+q7)+q10) - od85)) z67) (sMul z10 ((od77 - od84)+od85))) (v103 3))) (fun v103=>[(13,.call [] [] (fun v104=>oV (.str (sMul z10 (((((0+p4)+p7)+p10)+p13) - oe77)) (v104 3))) (fun v104=>[(0,.call [] [] (fun v105=>oV (.str (sAdd (sMul z10 (((((0+p4)+p7)+p10)+p13) - oe77)) z67) (v105 3))) (fun v105=>[(8,.call [] [] (fun v106=>oV (.str (sMul z10 (((((0+q4)+q7)+q10)+q13) - oe85)) (v106 3))) (fun v106=>[(0,.call [] [] (fun v107=>oV (.str (sAdd (sMul z10 (((((0+q4)+q7)+q10)+q13) - oe85)) z67) (v107 3))) (fun v107=>[(12,.call [] [] (fun v108=>oV (.str (sMul z10 ((oe77 - oe84)+oe85)) (v108 3))) (fun v108=>[(0,.call [] [] (fun v109=>oV (.str (sAdd (sAdd (sMul z10 (((((0+q4)+q7)+q10)+q13) - oe85)) z67) (sMul z10 ((oe77 - oe84)+oe85))) (v109 3))) (fun v109=>[(13,.call [] [] (fun v110=>oV (.str (sMul z10 ((((((0+p4)+p7)+p10)+p13)+p16) - of77)) (v110 3))) (fun v110=>[(0,.call [] [] (fun v111=>oV (.str (sAdd (sMul z10 ((((((0+p4)+p7)+p10)+p13)+p16) - of77)) z67) (v111 3))) (fun v111=>[(8,.call [] [] (fun v112=>oV (.str (sMul z10 ((((((0+q4)+q7)+q10)+q13)+q16) - of85)) (v112 3))) (fun v112=>[(0,.call [] [] (fun v113=>oV (.str (sAdd (sMul z10 ((((((0+q4)+q7)+q10)+q13)+q16) - of85)) z67) (v113 3))) (fun v113=>[(12,.call [] [] (fun v114=>oV (.str (sMul z10 ((of77 - of84)+of85)) (v114 3))) (fun v114=>[(0,.call [] [] (fun v115=>oV (.str (sAdd (sAdd (sMul z10 ((((((0+q4)+q7)+q10)+q13)+q16) - of85)) z67) (sMul z10 ((of77 - of84)+of85))) (v115 3))) (fun v115=>[(5,.call [2,3,4,5,6,8,59,65,71,77,83,99] [] (fun v116=>oV (.bool true)) (fun v116=>[]))]))]))]))]))]))]))]))]))]))]))]))]))]))]))]))]))]))]))]))]))]))]))]))]))]))]))]))]))]))]))]))]))]))]))]))]))]))]))]))]))]))]))]))]))]))]))]))]))]))]))]))]))]))]))]))]))]))]))]))]))]))]))]))]))]))]))]))]))]))]))]))]))]))]))]))]))]))]))]))]))]))]))]))]))]))]))]))]))]))]))]))]))]))]))]))]))]))]))]))]))]))]))]))]))]))]
noncomputable def law_i0:List Nat:=[0,0,6,6,0,7,7,0,0,7,8,8,8,8,9,9,9,9,10,1,1,1,11,11,12,12,12,12,12,12,0,0,1,1,1,1,1,1,1,1,1,1,1,1,1,1,1,1,1,1,1,1,16,16,16,16,10,10,10,10,10,0,0,16,16,16,10,10,10,18,18,19,19,19,19,19,19,19,1,1,1,1,2,10,10,10,10,2,10,10,10,10,19,9,9,9,9,19,9,9,9,9,9,2,1,1,1,1,1,9,9,9,9,18,8,8,8,8,18,8,8,8,8,8,2,1,1,1,1,1,8,8,8,8,6,6,6,6,6,6,6,6,6,2,2,2,2,14,14,14,14,14,0,0,2,2,2,6,6,6,5,5,6,6,6,6,6,6,6,1,1,1,1,2,13,13,13,13,2,13,13,13,13,22,12,12,12,12,22,12,12,12,12,12,2,1,1,1,1,1,12,12,12,12,21,11,11,11,11,21,11,11,11,11,11,2,1,1,1,1,1,11,11,11,11,9,9,9,9,9,9,9,9,9,2,2,2,2,17,17,17,17,17,0,0,2,2,2,6,6,6,5,5,6,6,6,6,6,6,6,1,1,1,1,2,16,16,16,16,2,16,16,16,16,25,15,15,15,15,25,15,15,15,15,15,2,1,1,1,1,1,15,15,15,15,24,14,14,14,14,24,14,14,14,14,14,2,1,1,1,1,1,14,14,14,14,12,12,12,12,12,12,12,12,12,2,2,2,2,20,20,20,20,20,0,0,2,2,2,6,6,6,5,5,6,6,6,6,6,6,6,1,1,1,1,2,19,19,19,19,2,19,19,19,19,28,18,18,18,18,28,18,18,18,18,18,2,1,1,1,1,1,18,18,18,18,27,17,17,17,17,27,17,17,17,17,17,2,1,1,1,1,1,17,17,17,17,15,15,15,15,15,15,15,15,15,2,2,2,2,23,23,23,23,23,0,0,2,2,2,6,6,6,5,5,6,6,6,6,6,6,6,1,1,1,1,2,22,22,22,22,2,22,22,22,22,31,21,21,21,21,31,21,21,21,21,21,2,1,1,1,1,1,21,21,21,21,30,20,20,20,20,30,20,20,20,20,20,2,1,1,1,1,1,20,20,20,20,18,18,18,18,18,1,4,4,4,4,5,5,0,0,5,0,5,0,0,0,1,1,0,0,7,0,0,0,1,1,0,29,29,29,1,4,4,4,4,2,2,2,2,1,1,1,1,1,1,1,1,1,1,1,1,3,1,1,1,1,4,4,4,4,33,4,4,2,2,2,2,7,7,7,1,0,1,8,8,8,36,36,36,1,1,1,1,1,37,1,1,9,9,9,0,9,9,1,3,3,3,3,6,6,6,0,0,0,7,7,7,35,35,35,1,1,1,1,1,36,1,1,8,8,8,0,8,8,0,4,4,4,4,4,4,4,4,4,4,4,4,1,1,1,1,1,1,1,1,1,2,1,1,1,1,1,1,2,1,1,1,1,1,1,2,1,1,1,1,1,1,2,1,1,1,19,19,19,19,19,19,0,19,0,20,20,20,1,1,1,1,1,20,20,20,0,20,20,0,20,20,0,20,1,1,1,1,1,20,0,0,20,0,0,20,20,0,20,20,20,16,16,16,16,20,20,17,17,17,17,9,9,9,9,11,9,9,9,9,12,12,12,12,41,12,12,10,10,10,10,15,15,15,1,0,1,16,16,16,8,8,8,8,44,8,8,16,16,16,0,16,16,1,10,10,10,10,13,13,13,0,0,0,14,14,14,7,7,7,7,42,7,7,14,14,14,0,14,14,0,10,10,10,10,10,10,10,10,10,10,10,10,1,1,1,1,1,1,1,1,1,2,1,1,1,1,1,1,2,1,1,1,1,1,1,2,1,1,1,1,1,1,2,1,1,1,25,25,25,25,25,25,0,25,0,26,26,26,1,1,1,1,1,26,26,26,0,26,26,0,26,26,0,26,1,1,1,1,1,26,0,0,26,0,0,26,26,0,26,26,26,22,22,22,22,26,26,23,23,23,23,15,15,15,15,17,15,15,15,15,18,18,18,18,47,18,18,16,16,16,16,21,21,21,1,0,1,22,22,22,14,14,14,14,50,14,14,22,22,22,0,22,22,22,1,16,16,16,16,19,19,19,0,0,0,20,20,20,13,13,13,13,48,13,13,20,20,20,0]
noncomputable def law_i1:List Nat:=[20,20,20,0,16,16,16,16,16,16,16,16,16,16,16,16,1,1,1,1,1,1,1,1,1,2,1,1,1,1,1,1,2,1,1,1,1,1,1,2,1,1,1,1,1,1,2,1,1,1,31,31,31,31,31,31,0,31,0,32,32,32,1,1,1,1,1,32,32,32,0,32,32,0,32,32,0,32,1,1,1,1,1,32,0,0,32,0,0,32,32,0,32,32,32,28,28,28,28,32,32,29,29,29,29,21,21,21,21,23,21,21,21,21,24,24,24,24,53,24,24,22,22,22,22,27,27,27,1,0,1,28,1,22,22,22,22,25,25,25,0,0,0,26,0,22,22,22,22,22,22,22,22,22,22,22,22,1,1,1,1,1,1,1,1,1,2,1,1,1,1,1,1,2,1,1,1,1,1,1,2,1,1,1,1,1,1,2,1,1,1,37,37,37,37,37,37,0,37,0,38,38,38,1,1,1,1,1,38,38,38,0,38,38,0,38,38,0,38,1,1,1,1,1,38,0,0,38,0,0,38,38,0,38,38,38,34,34,34,34,38,38,35,35,35,35,27,27,27,27,29,27,27,27,27,30,30,30,30,59,30,30,28,28,28,28,33,33,33,1,0,1,34,1,28,28,28,28,31,31,31,0,0,0,32,0,28,28,28,28,28,28,28,28,28,28,28,28,1,1,1,1,1,1,1,1,1,2,1,1,1,1,1,1,2,1,1,1,1,1,1,2,1,1,1,1,1,1,2,1,1,1,43,43,43,43,43,43,0,43,0,44,44,44,1,1,1,1,1,44,44,44,0,44,44,0,44,44,0,44,1,1,1,1,1,44,0,0,44,0,0,44,44,0,44,44,44,40,40,40,40,44,44,41,41,41,41,33,33,33,33,35,33,33,33,33,36,36,36,36,65,36,36,35,35,1,47,68,68,68,68,68,47,47,47,68,68,68,68,68,48,69,69,69,69,69,1,1,1,1,1,3,1,3,3,1,3,1,51,51,0,80,51,74,74,74,74,74,52,75,75,75,75,75,1,1,1,1,1,3,1,3,3,1,3,1,0,83,83,0,0,0,83,84,1,1,1,1,76,76,76]
noncomputable def law_i2:List Nat:=[1,1,1,1,1,1,1,1,1,3,3,3,3]
noncomputable def law_i3:List Nat:=[3,3,3,3]
noncomputable def law_i4:List Nat:=[5,3,3,3,3,7,7,7,7,8,7,7,4,4,4,4,6,6,6,6]
noncomputable def law_i5:List Nat:=[82]
noncomputable def law_i6:List Nat:=[6,6,4,4,4,4,4,4,4,4,4,4,4,4,1,1,1,1,1,1,1,1,1,2,1,1,1,1,1,1,2,1,1,1,1,1,1,2,1,1,1,5,5,5,5,5,5,6,6,6,6,7,7,7,7,9,7,7,7,7,11,11,11,11,12,11,11,8,8,8,8,10,10,10,10]
noncomputable def law_i7:List Nat:=[86]
noncomputable def law_i8:List Nat:=[10,10,8,8,8,8,8,8,8,8,8,8,8,8,1,1,1,1,1,1,1,1,1,2,1,1,1,1,1,1,2,1,1,1,1,1,1,2,1,1,1,9,9,9,9,9,9,10,10,10,10,11,11,11,11,13,11,11,11,11,15,15,15,15,16,15,15,12,12,12,12,14,14,14,14]
noncomputable def law_i9:List Nat:=[90]
noncomputable def law_i10:List Nat:=[14,14,12,12,12,12,12,12,12,12,12,12,12,12,1,1,1,1,1,1,1,1,1,2,1,1,1,1,1,1,2,1,1,1,1,1,1,2,1,1,1,13,13,13,13,13,13,14,14,14,14,15,15,15,15,17,15,15,15,15,19,19,19,19,20,19,19,16,16,16,16,18,18,18,18]
noncomputable def law_i11:List Nat:=[94]
noncomputable def law_i12:List Nat:=[18,18,16,16,16,16,16,16,16,16,16,16,16,16,1,1,1,1,1,1,1,1,1,2,1,1,1,1,1,1,2,1,1,1,1,1,1,2,1,1,1,17,17,17,17,17,17,18,18,18,18,19,19,19,19,21,19,19,19,19,23,23,23,23,24,23,23,20,20,20,20,22,22,22,22]
noncomputable def law_i13:List Nat:=[98]
noncomputable def law_i14:List Nat:=[22,22,20,20,20,20,20,20,20,20,20,20,20,20,1,1,1,1,1,1,1,1,1,2,1,1,1,1,1,1,2,1,1,1,1,1,1,2,1,1,1,21,21,21,21,21,21,22,22,22,22,23,23,23,23,25,23,23,23,23,27,27,27,27,28,27,27,24,24,24,24,26,26,26,26]
noncomputable def law_i15:List Nat:=[102]
noncomputable def law_i16:List Nat:=[26,26,24,24,24,24,24,24,24,24,24,24,24,24,1,1,1,1,1,1,1,1,1,2,1,1,1,1,1,1,2,1,1,1,1,1,1,2,1,1,1,25,25,25,25,25,25,26,26,26,26,27,27,27,27,29,27,27,27,27,31,31,31,31,32,31,31,29,29,1,27,27,27,27,27,27]
noncomputable def law_i17:List Nat:=[90,0,116,116,0,118,91,0,116,116,93,0,0,93]
noncomputable def law_i18:List Nat:=[1,1,1,1,1,1,1,1,1,1,1,3,3,3,3,3,3,3,3,3]
noncomputable def law_i19:List Nat:=[3,3,3,3]
noncomputable def law_i20:List Nat:=[1,1]
noncomputable def law_i21:List Nat:=[124,1,44,44,44,44,44,122,1,42,42,42,42,42,123,1,7,7,7,7,7,120,1,5,5,5,5,5,122,1,42,42,42,42,42,121,1,8,8,8,8,8,120]
noncomputable def law_i22:List Nat:=[1,5,5,5,5,5,3,3,3,3,4,4,4,4,4,4,4,4,4,2,2]
noncomputable def law_i23:List Nat:=[125,2,45,45,45,45,45,123,2,43,43,43,43,43,124,2,8,8,8,8,8,121,2,6,6,6,6,6,123,2,43,43,43,43,43,122,2,9,9,9,9,9,121,2,6,6,6,6,6,4,4,4,4,5,5,5,5,5,5,5,5,5,3,3,126,3,46,46,46,46,46,124,3,44,44,44,44,44,125,3,9,9,9,9,9,122,3,7,7,7,7,7,124,3,44,44,44,44,44,123,3,10,10,10,10,10,122,3,7,7,7,7,7,5,5,5,5,6,6,6,6,6,6,6,6,6,4,4,127,4,47,47,47,47,47,125,4,45,45,45,45,45,126,4,10,10,10,10,10,123,4,8,8,8,8,8,125,4,45,45,45,45,45,124,4,11,11,11,11,11,123,4,8,8,8,8,8,6,6,6,6,7,7,7,7,7,7,7,7,7,5,5,128,5,48,48,48,48,48,126,5,46,46,46,46,46,127,5,11,11,11,11,11,124,5,9,9,9,9,9,126,5,46,46,46,46,46,125,5,12,12,12,12,12,124,5,9,9,9,9,9,7,7,7,7,8,8,8,8,8,1,8,8,8,100,9,100]
theorem law_A (w:World) (b2:Bool) (h0:Heap) (B:List Frame) (d:Drawn) (os:OsState) (pos0:Pos) (sl:Nat) (sv:List Value) (sn t0 t1 t2 t3 t4 t5:Nat) (S0:Int) (pv2:(Nat→Nat)→List Value) (pn2:Nat) (S3:Int) (nv4 kv4 ov4:(Nat→Nat)→Value) (p4 q4 r4:Int) (tx4:Str) (pv5:(Nat→Nat)→List Value) (pn5:Nat) (S6:Int) (nv7 kv7 ov7:(Nat→Nat)→Value) (p7 q7 r7:Int) (tx7:Str) (pv8:(Nat→Nat)→List Value) (pn8:Nat) (S9:Int) (nv10 kv10 ov10:(Nat→Nat)→Value) (p10 q10 r10:Int) (tx10:Str) (pv11:(Nat→Nat)→List Value) (pn11:Nat) (S12:Int) (nv13 kv13 ov13:(Nat→Nat)→Value) (p13 q13 r13:Int) (tx13:Str) (pv14:(Nat→Nat)→List Value) (pn14:Nat) (S15:Int) (nv16 kv16 ov16:(Nat→Nat)→Value) (p16 q16 r16:Int) (tx16:Str) (ga18 gb18:Int) (ln21 ln28:Str) (ga30 gb30:Int) (ln33 ln40:Str) (ga42 gb42:Int) (ln45 ln52:Str) (ga54 gb54:Int) (ln57 ln64:Str) (ga66 gb66:Int) (ln69 ln76:Str) (oa77 ob77 oc77 od77 oe77 of77 oa84 ob84 oc84 od84 oe84 of84 oa85 ob85 oc85 od85 oe85 of85:Int) (qa0:Args) (qq0:Pos) (sz tk gn:Nat) (M:List (Addr × Obj)) (G:List (Nat × GenState)) (O:(view w false h0 B [(.builtin "claim.caller" qa0,qq0)] d os).Ok)
    (hs:∀ v,AllP (law_A_sd (view w false h0 B [(.builtin "claim.caller" qa0,qq0)] d os) w sl sv sn S0 pv2 pn2 S3 nv4 kv4 ov4 p4 q4 r4 tx4 pv5 pn5 S6 nv7 kv7 ov7 p7 q7 r7 tx7 pv8 pn8 S9 nv10 kv10 ov10 p10 q10 r10 tx10 pv11 pn11 S12 nv13 kv13 ov13 p13 q13 r13 tx13 pv14 pn14 S15 nv16 kv16 ov16 p16 q16 r16 tx16 ga18 gb18 ln21 ln28 ga30 gb30 ln33 ln40 ga42 gb42 ln45 ln52 ga54 gb54 ln57 ln64 ga66 gb66 ln69 ln76 oa77 ob77 oc77 od77 oe77 of77 oa84 ob84 oc84 od84 oe84 of84 oa85 ob85 oc85 od85 oe85 of85 sz tk v)) :
    Goes (view w false h0 B [(.builtin "claim.caller" qa0,qq0)] d os) (mkD (cR 123 [(.ref sl)]) pos0 [] ((sl,listO sv sn)::M) sz tk (G) gn)
      (fun y=>∃ v:N2,y = mk (.pure (.done (.ret (.bool true)))) (.func fLaw_ (envF fLaws fLawq 123 [(z77,(sz+5)),(z75,(sz+4)),(z74,(sz+3)),(z59,(sz+2)),(z43,(sz+1))] sz)) ⟨111,11,111,163⟩ [] ((sl,listO sv sn)::M) (v 116 0) (v 116 1) (G) (v 116 2)) :=
  goes_run (it:=law_i0++law_i1++law_i2++law_i3++law_i4++law_i5++law_i6++law_i7++law_i8++law_i9++law_i10++law_i11++law_i12++law_i13++law_i14++law_i15++law_i16++law_i17++law_i18++law_i19++law_i20++law_i21++law_i22++law_i23) (en:=law_A_en 22 24 w sl sv sn S0 pv2 pn2 S3 nv4 kv4 ov4 p4 q4 r4 tx4 pv5 pn5 S6 nv7 kv7 ov7 p7 q7 r7 tx7 pv8 pn8 S9 nv10 kv10 ov10 p10 q10 r10 tx10 pv11 pn11 S12 nv13 kv13 ov13 p13 q13 r13 tx13 pv14 pn14 S15 nv16 kv16 ov16 p16 q16 r16 tx16 ga18 gb18 ln21 ln28 ga30 gb30 ln33 ln40 ga42 gb42 ln45 ln52 ga54 gb54 ln57 ln64 ga66 gb66 ln69 ln76 oa77 ob77 oc77 od77 oe77 of77 oa84 ob84 oc84 od84 oe84 of84 oa85 ob85 oc85 od85 oe85 of85 sz tk)
    (d:=131) (ms:=[106]) (e:=2) (gs:=[]) (mv:=[])
    O den_eq 5784 117 (fun v=>⟨by kernel_rfl,by kernel_rfl,by kernel_rfl,by kernel_rfl⟩) hs
theorem law_B (w:World) (b2:Bool) (h0:Heap) (B:List Frame) (d:Drawn) (os:OsState) (pos0:Pos) (sl:Nat) (sv:List Value) (sn t0 t1 t2 t3 t4 t5:Nat) (S0:Int) (pv2:(Nat→Nat)→List Value) (pn2:Nat) (S3:Int) (nv4 kv4 ov4:(Nat→Nat)→Value) (p4 q4 r4:Int) (tx4:Str) (pv5:(Nat→Nat)→List Value) (pn5:Nat) (S6:Int) (nv7 kv7 ov7:(Nat→Nat)→Value) (p7 q7 r7:Int) (tx7:Str) (pv8:(Nat→Nat)→List Value) (pn8:Nat) (S9:Int) (nv10 kv10 ov10:(Nat→Nat)→Value) (p10 q10 r10:Int) (tx10:Str) (pv11:(Nat→Nat)→List Value) (pn11:Nat) (S12:Int) (nv13 kv13 ov13:(Nat→Nat)→Value) (p13 q13 r13:Int) (tx13:Str) (pv14:(Nat→Nat)→List Value) (pn14:Nat) (S15:Int) (nv16 kv16 ov16:(Nat→Nat)→Value) (p16 q16 r16:Int) (tx16:Str) (ga18 gb18:Int) (ln21 ln28:Str) (ga30 gb30:Int) (ln33 ln40:Str) (ga42 gb42:Int) (ln45 ln52:Str) (ga54 gb54:Int) (ln57 ln64:Str) (ga66 gb66:Int) (ln69 ln76:Str) (oa77 ob77 oc77 od77 oe77 of77 oa84 ob84 oc84 od84 oe84 of84 oa85 ob85 oc85 od85 oe85 of85:Int) (qa0:Args) (qq0:Pos) (sz tk gn:Nat) (M:List (Addr × Obj)) (G:List (Nat × GenState)) (O:(view w true h0 B [(.builtin "claim.caller" qa0,qq0)] d os).Ok)
    (hs:∀ v,AllP (law_A_sd (view w true h0 B [(.builtin "claim.caller" qa0,qq0)] d os) w sl sv sn S0 pv2 pn2 S3 nv4 kv4 ov4 p4 q4 r4 tx4 pv5 pn5 S6 nv7 kv7 ov7 p7 q7 r7 tx7 pv8 pn8 S9 nv10 kv10 ov10 p10 q10 r10 tx10 pv11 pn11 S12 nv13 kv13 ov13 p13 q13 r13 tx13 pv14 pn14 S15 nv16 kv16 ov16 p16 q16 r16 tx16 ga18 gb18 ln21 ln28 ga30 gb30 ln33 ln40 ga42 gb42 ln45 ln52 ga54 gb54 ln57 ln64 ga66 gb66 ln69 ln76 oa77 ob77 oc77 od77 oe77 of77 oa84 ob84 oc84 od84 oe84 of84 oa85 ob85 oc85 od85 oe85 of85 sz tk v)) :
    Goes (view w true h0 B [(.builtin "claim.caller" qa0,qq0)] d os) (mkD (cR 123 [(.ref sl)]) pos0 [] ((sl,listO sv sn)::M) sz tk (G) gn)
      (fun y=>∃ v:N2,y = mk (.pure (.done (.ret (.bool true)))) (.func fLaw_ (envF fLaws fLawq 123 [(z77,(sz+5)),(z75,(sz+4)),(z74,(sz+3)),(z59,(sz+2)),(z43,(sz+1))] sz)) ⟨111,11,111,163⟩ [] ((sl,listO sv sn)::M) (v 116 0) (v 116 1) (G) (v 116 2)) :=
  goes_run (it:=law_i0++law_i1++law_i2++law_i4++law_i5++law_i6++law_i7++law_i8++law_i9++law_i10++law_i11++law_i12++law_i13++law_i14++law_i15++law_i16++law_i17++law_i18++law_i20++law_i21++law_i22++law_i23) (en:=law_A_en 20 22 w sl sv sn S0 pv2 pn2 S3 nv4 kv4 ov4 p4 q4 r4 tx4 pv5 pn5 S6 nv7 kv7 ov7 p7 q7 r7 tx7 pv8 pn8 S9 nv10 kv10 ov10 p10 q10 r10 tx10 pv11 pn11 S12 nv13 kv13 ov13 p13 q13 r13 tx13 pv14 pn14 S15 nv16 kv16 ov16 p16 q16 r16 tx16 ga18 gb18 ln21 ln28 ga30 gb30 ln33 ln40 ga42 gb42 ln45 ln52 ga54 gb54 ln57 ln64 ga66 gb66 ln69 ln76 oa77 ob77 oc77 od77 oe77 of77 oa84 ob84 oc84 od84 oe84 of84 oa85 ob85 oc85 od85 oe85 of85 sz tk)
    (d:=131) (ms:=[106]) (e:=2) (gs:=[]) (mv:=[])
    O den_eq 5764 117 (fun v=>⟨by kernel_rfl,by kernel_rfl,by kernel_rfl,by kernel_rfl⟩) hs
noncomputable def law_C_sd (V:Vw) (w:World) (sl:Nat) (sv:List Value) (sn:Nat) (S0:Int) (pv2:(Nat→Nat)→List Value) (pn2:Nat) (S3:Int) (nv4 kv4 ov4:(Nat→Nat)→Value) (p4 q4 r4:Int) (tx4:Str) (pv5:(Nat→Nat)→List Value) (pn5:Nat) (S6:Int) (nv7 kv7 ov7:(Nat→Nat)→Value) (p7 q7 r7:Int) (tx7:Str) (pv8:(Nat→Nat)→List Value) (pn8:Nat) (S9:Int) (nv10 kv10 ov10:(Nat→Nat)→Value) (p10 q10 r10:Int) (tx10:Str) (pv11:(Nat→Nat)→List Value) (pn11:Nat) (S12:Int) (nv13 kv13 ov13:(Nat→Nat)→Value) (p13 q13 r13:Int) (tx13:Str) (pv14:(Nat→Nat)→List Value) (pn14:Nat) (S15:Int) (nv16 kv16 ov16:(Nat→Nat)→Value) (p16 q16 r16:Int) (tx16:Str) (ga18 gb18:Int) (ln21 ln28:Str) (ga30 gb30:Int) (ln33 ln40:Str) (oa41 ob41 oc41 od41 oe41 of41 oa48 ob48 oc48 od48 oe48 of48 oa49 ob49 oc49 od49 oe49 of49:Int) (sz tk:Nat) (v:N2):List Prop:=[CallN V ([1,7]) (cB "list.__eq__" [(.ref ((v 16 0)+2)),(.ref ((v 49 0)+2))]) [((v 61 0),(tO [(.str (sAdd (sMul z10 (((0+p4)+p7) - oc41)) z67) 0),(.str (sAdd (sAdd (sMul z10 (((0+q4)+q7) - oc49)) z67) (sMul z10 ((oc41 - oc48)+oc49))) 0)])),((v 55 0),(tO [(.str (sAdd (sMul z10 ((0+p4) - ob41)) z67) 0),(.str (sAdd (sAdd (sMul z10 ((0+q4) - ob49)) z67) (sMul z10 ((ob41 - ob48)+ob49))) 0)])),(((v 49 0)+2),listO [(.ref (v 55 0)),(.ref (v 61 0))] 2),((v 40 0),(tO [(.str ln33 0),(.str ln40 0)])),((v 28 0),(tO [(.str ln21 0),(.str ln28 0)])),(((v 16 0)+2),listO [(.ref (v 28 0)),(.ref (v 40 0))] 2)] [] (fun v62=>oV (.bool true)),CallN V ([4,1,7]) (cB "str.__add__" [(.str (sAdd (sMul z10 (((0+q4)+q7) - oc49)) z67) 0),(.str (sMul z10 ((oc41 - oc48)+oc49)) 0)]) [] [] (fun v61=>oV (.str (sAdd (sAdd (sMul z10 (((0+q4)+q7) - oc49)) z67) (sMul z10 ((oc41 - oc48)+oc49))) (v61 3))),CallN V ([4,1,7]) (cB "str.__mul__" [(.str z10 0),(.int ((oc41 - oc48)+oc49) 0)]) [] [] (fun v60=>oV (.str (sMul z10 ((oc41 - oc48)+oc49)) (v60 3))),CallN V ([4,1,7]) (cB "str.__add__" [(.str (sMul z10 (((0+q4)+q7) - oc49)) 0),(.str z67 0)]) [] [] (fun v59=>oV (.str (sAdd (sMul z10 (((0+q4)+q7) - oc49)) z67) (v59 3))),CallN V ([4,1,7]) (cB "str.__mul__" [(.str z10 0),(.int (((0+q4)+q7) - oc49) 0)]) [] [] (fun v58=>oV (.str (sMul z10 (((0+q4)+q7) - oc49)) (v58 3))),CallN V ([4,1,7]) (cB "str.__add__" [(.str (sMul z10 (((0+p4)+p7) - oc41)) 0),(.str z67 0)]) [] [] (fun v57=>oV (.str (sAdd (sMul z10 (((0+p4)+p7) - oc41)) z67) (v57 3))),CallN V ([4,1,7]) (cB "str.__mul__" [(.str z10 0),(.int (((0+p4)+p7) - oc41) 0)]) [] [] (fun v56=>oV (.str (sMul z10 (((0+p4)+p7) - oc41)) (v56 3))),CallN V ([4,1,7]) (cB "str.__add__" [(.str (sAdd (sMul z10 ((0+q4) - ob49)) z67) 0),(.str (sMul z10 ((ob41 - ob48)+ob49)) 0)]) [] [] (fun v55=>oV (.str (sAdd (sAdd (sMul z10 ((0+q4) - ob49)) z67) (sMul z10 ((ob41 - ob48)+ob49))) (v55 3))),CallN V ([4,1,7]) (cB "str.__mul__" [(.str z10 0),(.int ((ob41 - ob48)+ob49) 0)]) [] [] (fun v54=>oV (.str (sMul z10 ((ob41 - ob48)+ob49)) (v54 3))),CallN V ([4,1,7]) (cB "str.__add__" [(.str (sMul z10 ((0+q4) - ob49)) 0),(.str z67 0)]) [] [] (fun v53=>oV (.str (sAdd (sMul z10 ((0+q4) - ob49)) z67) (v53 3))),CallN V ([4,1,7]) (cB "str.__mul__" [(.str z10 0),(.int ((0+q4) - ob49) 0)]) [] [] (fun v52=>oV (.str (sMul z10 ((0+q4) - ob49)) (v52 3))),CallN V ([4,1,7]) (cB "str.__add__" [(.str (sMul z10 ((0+p4) - ob41)) 0),(.str z67 0)]) [] [] (fun v51=>oV (.str (sAdd (sMul z10 ((0+p4) - ob41)) z67) (v51 3))),CallN V ([4,1,7]) (cB "str.__mul__" [(.str z10 0),(.int ((0+p4) - ob41) 0)]) [] [] (fun v50=>oV (.str (sMul z10 ((0+p4) - ob41)) (v50 3))),CallN V ([1,7]) (cR 118 [(.ref ((v 1 0)+3)),(.ref ((v 40 0)+6))]) [(((v 40 0)+6),listO [(.int ((Int.fmod (Int.ediv (Int.fmod (S0+17) 1000000) 12) 4)+1) 0),(.int ((Int.fmod (Int.ediv (Int.fmod (S0+17) 1000000) 48) 3)+1) 0),(.int ((Int.fmod (Int.ediv (Int.fmod (S0+17) 1000000) 48) 3)+1) 0),(.int ((Int.fmod (Int.ediv (Int.fmod (S0+17) 1000000) 48) 3)+1) 0),(.int ((Int.fmod (Int.ediv (Int.fmod (S0+17) 1000000) 48) 3)+1) 0)] 0),(((v 1 0)+3),listO [(.int 0 0),(.int (0+q4) 0),(.int ((0+q4)+q7) 0),(.int (((0+q4)+q7)+q10) 0),(.int ((((0+q4)+q7)+q10)+q13) 0),(.int (((((0+q4)+q7)+q10)+q13)+q16) 0)] 5)] [] (fun v49=>⟨none,[((v49 3),listO [(.int oa49 (v49 4)),(.int ob49 (v49 5)),(.int oc49 (v49 6)),(.int od49 (v49 7)),(.int oe49 (v49 8)),(.int of49 (v49 9))] 6)],.ok (.ret (.ref (v49 3)))⟩),CallN V ([1,7]) (cR 118 [(.ref ((v 41 0)+5)),(.ref ((v 40 0)+6))]) [(((v 41 0)+5),listO [(.int (oa41+0) 0),(.int (ob41+(0+q4)) 0),(.int (oc41+((0+q4)+q7)) 0),(.int (od41+(((0+q4)+q7)+q10)) 0),(.int (oe41+((((0+q4)+q7)+q10)+q13)) 0),(.int (of41+(((((0+q4)+q7)+q10)+q13)+q16)) 0)] 6),(((v 40 0)+6),listO [(.int ((Int.fmod (Int.ediv (Int.fmod (S0+17) 1000000) 12) 4)+1) 0),(.int ((Int.fmod (Int.ediv (Int.fmod (S0+17) 1000000) 48) 3)+1) 0),(.int ((Int.fmod (Int.ediv (Int.fmod (S0+17) 1000000) 48) 3)+1) 0),(.int ((Int.fmod (Int.ediv (Int.fmod (S0+17) 1000000) 48) 3)+1) 0),(.int ((Int.fmod (Int.ediv (Int.fmod (S0+17) 1000000) 48) 3)+1) 0)] 0)] [] (fun v48=>⟨none,[((v48 3),listO [(.int oa48 (v48 4)),(.int ob48 (v48 5)),(.int oc48 (v48 6)),(.int od48 (v48 7)),(.int oe48 (v48 8)),(.int of48 (v48 9))] 6)],.ok (.ret (.ref (v48 3)))⟩),OwnP ((v 41 0)+4) ((v 41 0)+27) (compLoad lc109_19 0 ((v 41 0)+4) ((v 41 0)+27) (.ref ((v 41 0)+5)) (envC lc109_19 fLawq [] ((v 41 0)+6) none (.ref 122) (some sz))) (compOwn lc109_19 0 ((v 41 0)+4) ((v 41 0)+27) (.ref ((v 41 0)+5)) (envC lc109_19 fLawq [] ((v 41 0)+6) none (.ref 122) (some sz))),OwnP ((v 41 0)+4) ((v 41 0)+23) (compLoad lc109_19 0 ((v 41 0)+4) ((v 41 0)+23) (.ref ((v 41 0)+5)) (envC lc109_19 fLawq [] ((v 41 0)+6) none (.ref 122) (some sz))) (compOwn lc109_19 0 ((v 41 0)+4) ((v 41 0)+23) (.ref ((v 41 0)+5)) (envC lc109_19 fLawq [] ((v 41 0)+6) none (.ref 122) (some sz))),OwnP ((v 41 0)+4) ((v 41 0)+19) (compLoad lc109_19 0 ((v 41 0)+4) ((v 41 0)+19) (.ref ((v 41 0)+5)) (envC lc109_19 fLawq [] ((v 41 0)+6) none (.ref 122) (some sz))) (compOwn lc109_19 0 ((v 41 0)+4) ((v 41 0)+19) (.ref ((v 41 0)+5)) (envC lc109_19 fLawq [] ((v 41 0)+6) none (.ref 122) (some sz))),OwnP ((v 41 0)+4) ((v 41 0)+15) (compLoad lc109_19 0 ((v 41 0)+4) ((v 41 0)+15) (.ref ((v 41 0)+5)) (envC lc109_19 fLawq [] ((v 41 0)+6) none (.ref 122) (some sz))) (compOwn lc109_19 0 ((v 41 0)+4) ((v 41 0)+15) (.ref ((v 41 0)+5)) (envC lc109_19 fLawq [] ((v 41 0)+6) none (.ref 122) (some sz))),OwnP ((v 41 0)+4) ((v 41 0)+11) (compLoad lc109_19 0 ((v 41 0)+4) ((v 41 0)+11) (.ref ((v 41 0)+5)) (envC lc109_19 fLawq [] ((v 41 0)+6) none (.ref 122) (some sz))) (compOwn lc109_19 0 ((v 41 0)+4) ((v 41 0)+11) (.ref ((v 41 0)+5)) (envC lc109_19 fLawq [] ((v 41 0)+6) none (.ref 122) (some sz))),OwnP ((v 41 0)+4) ((v 41 0)+7) (compLoad lc109_19 0 ((v 41 0)+4) ((v 41 0)+7) (.ref ((v 41 0)+5)) (envC lc109_19 fLawq [] ((v 41 0)+6) none (.ref 122) (some sz))) (compOwn lc109_19 0 ((v 41 0)+4) ((v 41 0)+7) (.ref ((v 41 0)+5)) (envC lc109_19 fLawq [] ((v 41 0)+6) none (.ref 122) (some sz))),CallN V ([1,7]) (cR 118 [(.ref ((v 1 0)+2)),(.ref ((v 40 0)+10))]) [(((v 40 0)+10),listO [(.int ((Int.fmod (Int.fmod (S0+17) 1000000) 3)+1) 0),(.int ((Int.fmod (Int.ediv (Int.fmod (S0+17) 1000000) 3) 4)+1) 0),(.int ((Int.fmod (Int.ediv (Int.fmod (S0+17) 1000000) 3) 4)+1) 0),(.int ((Int.fmod (Int.ediv (Int.fmod (S0+17) 1000000) 3) 4)+1) 0),(.int ((Int.fmod (Int.ediv (Int.fmod (S0+17) 1000000) 3) 4)+1) 0)] 0),(((v 1 0)+2),listO [(.int 0 0),(.int (0+p4) 0),(.int ((0+p4)+p7) 0),(.int (((0+p4)+p7)+p10) 0),(.int ((((0+p4)+p7)+p10)+p13) 0),(.int (((((0+p4)+p7)+p10)+p13)+p16) 0)] 5)] [] (fun v41=>⟨none,[((v41 3),listO [(.int oa41 (v41 4)),(.int ob41 (v41 5)),(.int oc41 (v41 6)),(.int od41 (v41 7)),(.int oe41 (v41 8)),(.int of41 (v41 9))] 6)],.ok (.ret (.ref (v41 3)))⟩),CallN V ([2,1,7]) (cR 28 [(.str (sAdd (sAdd (sMul z10 gb30) ln28) (sMul z10 ((sLen (sAdd (sMul z10 ga30) ln21)) - (sLen ln33)))) 0),(.int ((Int.fmod (Int.ediv (Int.fmod (S0+17) 1000000) 48) 3)+1) 0)]) [] [] (fun v40=>oV (.str ln40 (v40 3))),CallN V ([2,1,7]) (cB "str.__add__" [(.str (sAdd (sMul z10 gb30) ln28) 0),(.str (sMul z10 ((sLen (sAdd (sMul z10 ga30) ln21)) - (sLen ln33))) 0)]) [] [] (fun v39=>oV (.str (sAdd (sAdd (sMul z10 gb30) ln28) (sMul z10 ((sLen (sAdd (sMul z10 ga30) ln21)) - (sLen ln33)))) (v39 3))),CallN V ([2,1,7]) (cB "str.__mul__" [(.str z10 0),(.int ((sLen (sAdd (sMul z10 ga30) ln21)) - (sLen ln33)) 0)]) [] [] (fun v38=>oV (.str (sMul z10 ((sLen (sAdd (sMul z10 ga30) ln21)) - (sLen ln33))) (v38 3))),CallN V ([2,1,7]) (cB "len" [(.str ln33 0)]) [] [] (fun v37=>oV (.int (sLen ln33) (v37 3))),CallN V ([2,1,7]) (cB "len" [(.str (sAdd (sMul z10 ga30) ln21) 0)]) [] [] (fun v36=>oV (.int (sLen (sAdd (sMul z10 ga30) ln21)) (v36 3))),CallN V ([2,1,7]) (cB "str.__add__" [(.str (sMul z10 gb30) 0),(.str ln28 0)]) [] [] (fun v35=>oV (.str (sAdd (sMul z10 gb30) ln28) (v35 3))),CallN V ([2,1,7]) (cB "str.__mul__" [(.str z10 0),(.int gb30 0)]) [] [] (fun v34=>oV (.str (sMul z10 gb30) (v34 3))),CallN V ([2,1,7]) (cR 28 [(.str (sAdd (sMul z10 ga30) ln21) 0),(.int ((Int.fmod (Int.ediv (Int.fmod (S0+17) 1000000) 3) 4)+1) 0)]) [] [] (fun v33=>oV (.str ln33 (v33 3))),CallN V ([2,1,7]) (cB "str.__add__" [(.str (sMul z10 ga30) 0),(.str ln21 0)]) [] [] (fun v32=>oV (.str (sAdd (sMul z10 ga30) ln21) (v32 3))),CallN V ([2,1,7]) (cB "str.__mul__" [(.str z10 0),(.int ga30 0)]) [] [] (fun v31=>oV (.str (sMul z10 ga30) (v31 3))),CallN V ([2,1,7]) (cR 113 [(.str tx7 0)]) [] [] (fun v30=>⟨none,[((v30 3),listO [(.int ga30 (v30 4)),(.int gb30 (v30 5))] 0)],.ok (.ret (.ref (v30 3)))⟩),EvP "int.__eq__" [(.int ((Int.fmod (Int.ediv (Int.fmod (S0+17) 1000000) 48) 3)+1) 0),(.int 0 0)] (retB false),EvP "int.__eq__" [(.int ((Int.fmod (Int.ediv (Int.fmod (S0+17) 1000000) 48) 3)+1) 0),(.int 127 0)] (retB false),EvP "int.__eq__" [(.int ((Int.fmod (Int.ediv (Int.fmod (S0+17) 1000000) 3) 4)+1) 0),(.int 0 0)] (retB false),EvP "int.__eq__" [(.int ((Int.fmod (Int.ediv (Int.fmod (S0+17) 1000000) 3) 4)+1) 0),(.int 127 0)] (retB false),CallN V ([2,1,7]) (cR 28 [(.str (sAdd (sAdd (sMul z10 gb18) z67) (sMul z10 ((sLen (sAdd (sMul z10 ga18) z67)) - (sLen ln21)))) 0),(.int ((Int.fmod (Int.ediv (Int.fmod (S0+17) 1000000) 12) 4)+1) 0)]) [] [] (fun v28=>oV (.str ln28 (v28 3))),CallN V ([2,1,7]) (cB "str.__add__" [(.str (sAdd (sMul z10 gb18) z67) 0),(.str (sMul z10 ((sLen (sAdd (sMul z10 ga18) z67)) - (sLen ln21))) 0)]) [] [] (fun v27=>oV (.str (sAdd (sAdd (sMul z10 gb18) z67) (sMul z10 ((sLen (sAdd (sMul z10 ga18) z67)) - (sLen ln21)))) (v27 3))),CallN V ([2,1,7]) (cB "str.__mul__" [(.str z10 0),(.int ((sLen (sAdd (sMul z10 ga18) z67)) - (sLen ln21)) 0)]) [] [] (fun v26=>oV (.str (sMul z10 ((sLen (sAdd (sMul z10 ga18) z67)) - (sLen ln21))) (v26 3))),CallN V ([2,1,7]) (cB "len" [(.str ln21 0)]) [] [] (fun v25=>oV (.int (sLen ln21) (v25 3))),CallN V ([2,1,7]) (cB "len" [(.str (sAdd (sMul z10 ga18) z67) 0)]) [] [] (fun v24=>oV (.int (sLen (sAdd (sMul z10 ga18) z67)) (v24 3))),CallN V ([2,1,7]) (cB "str.__add__" [(.str (sMul z10 gb18) 0),(.str z67 0)]) [] [] (fun v23=>oV (.str (sAdd (sMul z10 gb18) z67) (v23 3))),CallN V ([2,1,7]) (cB "str.__mul__" [(.str z10 0),(.int gb18 0)]) [] [] (fun v22=>oV (.str (sMul z10 gb18) (v22 3))),CallN V ([2,1,7]) (cR 28 [(.str (sAdd (sMul z10 ga18) z67) 0),(.int ((Int.fmod (Int.fmod (S0+17) 1000000) 3)+1) 0)]) [] [] (fun v21=>oV (.str ln21 (v21 3))),CallN V ([2,1,7]) (cB "str.__add__" [(.str (sMul z10 ga18) 0),(.str z67 0)]) [] [] (fun v20=>oV (.str (sAdd (sMul z10 ga18) z67) (v20 3))),CallN V ([2,1,7]) (cB "str.__mul__" [(.str z10 0),(.int ga18 0)]) [] [] (fun v19=>oV (.str (sMul z10 ga18) (v19 3))),CallN V ([2,1,7]) (cR 113 [(.str tx4 0)]) [] [] (fun v18=>⟨none,[((v18 3),listO [(.int ga18 (v18 4)),(.int gb18 (v18 5))] 0)],.ok (.ret (.ref (v18 3)))⟩),EvP "int.__eq__" [(.int ((Int.fmod (Int.ediv (Int.fmod (S0+17) 1000000) 12) 4)+1) 0),(.int 0 0)] (retB false),EvP "int.__eq__" [(.int ((Int.fmod (Int.ediv (Int.fmod (S0+17) 1000000) 12) 4)+1) 0),(.int 127 0)] (retB false),EvP "int.__eq__" [(.int ((Int.fmod (Int.fmod (S0+17) 1000000) 3)+1) 0),(.int 0 0)] (retB false),EvP "int.__eq__" [(.int ((Int.fmod (Int.fmod (S0+17) 1000000) 3)+1) 0),(.int 127 0)] (retB false),CallN V ([2,1,7]) (.forLoop fLaw_t88 (.ref ((v 15 0)+2)) fLaw_b88 [] (envF fLaws fLawq 123 [(z77,(sz+5)),(z75,(sz+4)),(z74,(sz+3)),(z59,(sz+2)),(z43,(sz+1))] sz)) [(((v 15 0)+2),(fO "list_iterator" [(.ref ((v 15 0)+1)),(.int 0 0)])),(((v 15 0)+1),listO [(.int (Int.fmod (Int.fmod (38+S15) 5832) 18) 0),(.int (Int.fmod (Int.ediv (Int.fmod (38+S15) 5832) 18) 18) 0),(.int (Int.ediv (Int.fmod (38+S15) 5832) 324) 0)] 0),((v 15 0),listO [(.int 0 0),(.int 0 0),(.int 0 0)] 0),(sz,nsO [ent w.params z53 tk (.ref sl),ent w.params z54 (tk+6) (.ref (sz+6)),ent w.params z55 ((v 0 1)+6) (.int (Int.fmod (S0+17) 1000000) ((v 0 1)+5)),ent w.params z56 ((v 0 1)+18) (.ref (v 0 0)),ent w.params z57 (v 1 1) (.ref (v 1 0)),ent w.params z58 ((v 1 1)+1) (.ref ((v 1 0)+1)),ent w.params z61 ((v 1 1)+8) (.int 4 ((v 13 1)+8)),ent w.params z60 ((v 3 1)+3) (.int (Int.fmod (38+S15) 5832) ((v 15 1)+2)),ent w.params z39 ((v 3 1)+7) (.ref (v 15 0)),ent w.params z38 ((v 3 1)+9) (.str z26 ((v 15 1)+8)),ent w.params z64 (v 4 7) (nv13 (v 13)),ent w.params z63 (v 4 8) (ov13 (v 13)),ent w.params z62 (v 4 9) (kv13 (v 13))] 13)] [] (fun v16=>⟨some [],[((v 15 0),listO [(.int p16 (v16 3)),(.int q16 (v16 4)),(.int r16 (v16 5))] 0),(sz,nsO [ent w.params z53 tk (.ref sl),ent w.params z54 (tk+6) (.ref (sz+6)),ent w.params z55 ((v 0 1)+6) (.int (Int.fmod (S0+17) 1000000) ((v 0 1)+5)),ent w.params z56 ((v 0 1)+18) (.ref (v 0 0)),ent w.params z57 (v 1 1) (.ref (v 1 0)),ent w.params z58 ((v 1 1)+1) (.ref ((v 1 0)+1)),ent w.params z61 ((v 1 1)+8) (.int 4 ((v 13 1)+8)),ent w.params z60 ((v 3 1)+3) (.int (Int.fmod (38+S15) 5832) ((v 15 1)+2)),ent w.params z39 ((v 3 1)+7) (.ref (v 15 0)),ent w.params z38 ((v 3 1)+9) (.str tx16 (v16 6)),ent w.params z64 (v 4 7) (nv16 (v16)),ent w.params z63 (v 4 8) (ov16 (v16)),ent w.params z62 (v 4 9) (kv16 (v16))] 13)],.ok .next⟩),EvP "int.__floordiv__" [(.int (Int.fmod (38+S15) 5832) 0),(.int 324 0)] (retI (Int.ediv (Int.fmod (38+S15) 5832) 324)),EvP "int.__floordiv__" [(.int (Int.fmod (38+S15) 5832) 0),(.int 18 0)] (retI (Int.ediv (Int.fmod (38+S15) 5832) 18)),CallN V ([2,1,7]) (cB "sum" [(.ref (v 14 3))]) [((v 14 3),listO ((pv14 (v 14)).map noTok) pn14)] [] (fun v15=>oV (.int S15 (v15 3))),CallN V ([2,1,7]) (cB "list.__getitem__" [(.ref sl),(.ref (v 13 0))]) [((v 13 0),(fO "slice" [(.int 4 ((v 13 1)+8)),(.int 5 ((v 13 1)+11)),.none])),(sl,listO (sv.map noTok) sn)] [] (fun v14=>⟨none,[((v14 3),listO (pv14 (v14)) pn14)],.ok (.ret (.ref (v14 3)))⟩),CallN V ([2,1,7]) (.forLoop fLaw_t88 (.ref ((v 12 0)+2)) fLaw_b88 [] (envF fLaws fLawq 123 [(z77,(sz+5)),(z75,(sz+4)),(z74,(sz+3)),(z59,(sz+2)),(z43,(sz+1))] sz)) [(((v 12 0)+2),(fO "list_iterator" [(.ref ((v 12 0)+1)),(.int 0 0)])),(((v 12 0)+1),listO [(.int (Int.fmod (Int.fmod (1108+S12) 5832) 18) 0),(.int (Int.fmod (Int.ediv (Int.fmod (1108+S12) 5832) 18) 18) 0),(.int (Int.ediv (Int.fmod (1108+S12) 5832) 324) 0)] 0),((v 12 0),listO [(.int 0 0),(.int 0 0),(.int 0 0)] 0),(sz,nsO [ent w.params z53 tk (.ref sl),ent w.params z54 (tk+6) (.ref (sz+6)),ent w.params z55 ((v 0 1)+6) (.int (Int.fmod (S0+17) 1000000) ((v 0 1)+5)),ent w.params z56 ((v 0 1)+18) (.ref (v 0 0)),ent w.params z57 (v 1 1) (.ref (v 1 0)),ent w.params z58 ((v 1 1)+1) (.ref ((v 1 0)+1)),ent w.params z61 ((v 1 1)+8) (.int 3 ((v 10 1)+8)),ent w.params z60 ((v 3 1)+3) (.int (Int.fmod (1108+S12) 5832) ((v 12 1)+2)),ent w.params z39 ((v 3 1)+7) (.ref (v 12 0)),ent w.params z38 ((v 3 1)+9) (.str z26 ((v 12 1)+8)),ent w.params z64 (v 4 7) (nv10 (v 10)),ent w.params z63 (v 4 8) (ov10 (v 10)),ent w.params z62 (v 4 9) (kv10 (v 10))] 13)] [] (fun v13=>⟨some [],[((v 12 0),listO [(.int p13 (v13 3)),(.int q13 (v13 4)),(.int r13 (v13 5))] 0),(sz,nsO [ent w.params z53 tk (.ref sl),ent w.params z54 (tk+6) (.ref (sz+6)),ent w.params z55 ((v 0 1)+6) (.int (Int.fmod (S0+17) 1000000) ((v 0 1)+5)),ent w.params z56 ((v 0 1)+18) (.ref (v 0 0)),ent w.params z57 (v 1 1) (.ref (v 1 0)),ent w.params z58 ((v 1 1)+1) (.ref ((v 1 0)+1)),ent w.params z61 ((v 1 1)+8) (.int 3 ((v 10 1)+8)),ent w.params z60 ((v 3 1)+3) (.int (Int.fmod (1108+S12) 5832) ((v 12 1)+2)),ent w.params z39 ((v 3 1)+7) (.ref (v 12 0)),ent w.params z38 ((v 3 1)+9) (.str tx13 (v13 6)),ent w.params z64 (v 4 7) (nv13 (v13)),ent w.params z63 (v 4 8) (ov13 (v13)),ent w.params z62 (v 4 9) (kv13 (v13))] 13)],.ok .next⟩),EvP "int.__floordiv__" [(.int (Int.fmod (1108+S12) 5832) 0),(.int 324 0)] (retI (Int.ediv (Int.fmod (1108+S12) 5832) 324)),EvP "int.__floordiv__" [(.int (Int.fmod (1108+S12) 5832) 0),(.int 18 0)] (retI (Int.ediv (Int.fmod (1108+S12) 5832) 18)),CallN V ([2,1,7]) (cB "sum" [(.ref (v 11 3))]) [((v 11 3),listO ((pv11 (v 11)).map noTok) pn11)] [] (fun v12=>oV (.int S12 (v12 3))),CallN V ([2,1,7]) (cB "list.__getitem__" [(.ref sl),(.ref (v 10 0))]) [((v 10 0),(fO "slice" [(.int 3 ((v 10 1)+8)),(.int 4 ((v 10 1)+11)),.none])),(sl,listO (sv.map noTok) sn)] [] (fun v11=>⟨none,[((v11 3),listO (pv11 (v11)) pn11)],.ok (.ret (.ref (v11 3)))⟩),CallN V ([2,1,7]) (.forLoop fLaw_t88 (.ref ((v 9 0)+2)) fLaw_b88 [] (envF fLaws fLawq 123 [(z77,(sz+5)),(z75,(sz+4)),(z74,(sz+3)),(z59,(sz+2)),(z43,(sz+1))] sz)) [(((v 9 0)+2),(fO "list_iterator" [(.ref ((v 9 0)+1)),(.int 0 0)])),(((v 9 0)+1),listO [(.int (Int.fmod (Int.fmod (264+S9) 5832) 18) 0),(.int (Int.fmod (Int.ediv (Int.fmod (264+S9) 5832) 18) 18) 0),(.int (Int.ediv (Int.fmod (264+S9) 5832) 324) 0)] 0),((v 9 0),listO [(.int 0 0),(.int 0 0),(.int 0 0)] 0),(sz,nsO [ent w.params z53 tk (.ref sl),ent w.params z54 (tk+6) (.ref (sz+6)),ent w.params z55 ((v 0 1)+6) (.int (Int.fmod (S0+17) 1000000) ((v 0 1)+5)),ent w.params z56 ((v 0 1)+18) (.ref (v 0 0)),ent w.params z57 (v 1 1) (.ref (v 1 0)),ent w.params z58 ((v 1 1)+1) (.ref ((v 1 0)+1)),ent w.params z61 ((v 1 1)+8) (.int 2 ((v 7 1)+8)),ent w.params z60 ((v 3 1)+3) (.int (Int.fmod (264+S9) 5832) ((v 9 1)+2)),ent w.params z39 ((v 3 1)+7) (.ref (v 9 0)),ent w.params z38 ((v 3 1)+9) (.str z26 ((v 9 1)+8)),ent w.params z64 (v 4 7) (nv7 (v 7)),ent w.params z63 (v 4 8) (ov7 (v 7)),ent w.params z62 (v 4 9) (kv7 (v 7))] 13)] [] (fun v10=>⟨some [],[((v 9 0),listO [(.int p10 (v10 3)),(.int q10 (v10 4)),(.int r10 (v10 5))] 0),(sz,nsO [ent w.params z53 tk (.ref sl),ent w.params z54 (tk+6) (.ref (sz+6)),ent w.params z55 ((v 0 1)+6) (.int (Int.fmod (S0+17) 1000000) ((v 0 1)+5)),ent w.params z56 ((v 0 1)+18) (.ref (v 0 0)),ent w.params z57 (v 1 1) (.ref (v 1 0)),ent w.params z58 ((v 1 1)+1) (.ref ((v 1 0)+1)),ent w.params z61 ((v 1 1)+8) (.int 2 ((v 7 1)+8)),ent w.params z60 ((v 3 1)+3) (.int (Int.fmod (264+S9) 5832) ((v 9 1)+2)),ent w.params z39 ((v 3 1)+7) (.ref (v 9 0)),ent w.params z38 ((v 3 1)+9) (.str tx10 (v10 6)),ent w.params z64 (v 4 7) (nv10 (v10)),ent w.params z63 (v 4 8) (ov10 (v10)),ent w.params z62 (v 4 9) (kv10 (v10))] 13)],.ok .next⟩),EvP "int.__floordiv__" [(.int (Int.fmod (264+S9) 5832) 0),(.int 324 0)] (retI (Int.ediv (Int.fmod (264+S9) 5832) 324)),EvP "int.__floordiv__" [(.int (Int.fmod (264+S9) 5832) 0),(.int 18 0)] (retI (Int.ediv (Int.fmod (264+S9) 5832) 18)),CallN V ([2,1,7]) (cB "sum" [(.ref (v 8 3))]) [((v 8 3),listO ((pv8 (v 8)).map noTok) pn8)] [] (fun v9=>oV (.int S9 (v9 3))),CallN V ([2,1,7]) (cB "list.__getitem__" [(.ref sl),(.ref (v 7 0))]) [((v 7 0),(fO "slice" [(.int 2 ((v 7 1)+8)),(.int 3 ((v 7 1)+11)),.none])),(sl,listO (sv.map noTok) sn)] [] (fun v8=>⟨none,[((v8 3),listO (pv8 (v8)) pn8)],.ok (.ret (.ref (v8 3)))⟩),CallN V ([2,1,7]) (.forLoop fLaw_t88 (.ref ((v 6 0)+2)) fLaw_b88 [] (envF fLaws fLawq 123 [(z77,(sz+5)),(z75,(sz+4)),(z74,(sz+3)),(z59,(sz+2)),(z43,(sz+1))] sz)) [(((v 6 0)+2),(fO "list_iterator" [(.ref ((v 6 0)+1)),(.int 0 0)])),(((v 6 0)+1),listO [(.int (Int.fmod (Int.fmod (5349+S6) 5832) 18) 0),(.int (Int.fmod (Int.ediv (Int.fmod (5349+S6) 5832) 18) 18) 0),(.int (Int.ediv (Int.fmod (5349+S6) 5832) 324) 0)] 0),((v 6 0),listO [(.int 0 0),(.int 0 0),(.int 0 0)] 0),(sz,nsO [ent w.params z53 tk (.ref sl),ent w.params z54 (tk+6) (.ref (sz+6)),ent w.params z55 ((v 0 1)+6) (.int (Int.fmod (S0+17) 1000000) ((v 0 1)+5)),ent w.params z56 ((v 0 1)+18) (.ref (v 0 0)),ent w.params z57 (v 1 1) (.ref (v 1 0)),ent w.params z58 ((v 1 1)+1) (.ref ((v 1 0)+1)),ent w.params z61 ((v 1 1)+8) (.int 1 ((v 4 1)+8)),ent w.params z60 ((v 3 1)+3) (.int (Int.fmod (5349+S6) 5832) ((v 6 1)+2)),ent w.params z39 ((v 3 1)+7) (.ref (v 6 0)),ent w.params z38 ((v 3 1)+9) (.str z26 ((v 6 1)+8)),ent w.params z64 (v 4 7) (nv4 (v 4)),ent w.params z63 (v 4 8) (ov4 (v 4)),ent w.params z62 (v 4 9) (kv4 (v 4))] 13)] [] (fun v7=>⟨some [],[((v 6 0),listO [(.int p7 (v7 3)),(.int q7 (v7 4)),(.int r7 (v7 5))] 0),(sz,nsO [ent w.params z53 tk (.ref sl),ent w.params z54 (tk+6) (.ref (sz+6)),ent w.params z55 ((v 0 1)+6) (.int (Int.fmod (S0+17) 1000000) ((v 0 1)+5)),ent w.params z56 ((v 0 1)+18) (.ref (v 0 0)),ent w.params z57 (v 1 1) (.ref (v 1 0)),ent w.params z58 ((v 1 1)+1) (.ref ((v 1 0)+1)),ent w.params z61 ((v 1 1)+8) (.int 1 ((v 4 1)+8)),ent w.params z60 ((v 3 1)+3) (.int (Int.fmod (5349+S6) 5832) ((v 6 1)+2)),ent w.params z39 ((v 3 1)+7) (.ref (v 6 0)),ent w.params z38 ((v 3 1)+9) (.str tx7 (v7 6)),ent w.params z64 (v 4 7) (nv7 (v7)),ent w.params z63 (v 4 8) (ov7 (v7)),ent w.params z62 (v 4 9) (kv7 (v7))] 13)],.ok .next⟩),EvP "int.__floordiv__" [(.int (Int.fmod (5349+S6) 5832) 0),(.int 324 0)] (retI (Int.ediv (Int.fmod (5349+S6) 5832) 324)),EvP "int.__floordiv__" [(.int (Int.fmod (5349+S6) 5832) 0),(.int 18 0)] (retI (Int.ediv (Int.fmod (5349+S6) 5832) 18)),CallN V ([2,1,7]) (cB "sum" [(.ref (v 5 3))]) [((v 5 3),listO ((pv5 (v 5)).map noTok) pn5)] [] (fun v6=>oV (.int S6 (v6 3))),CallN V ([2,1,7]) (cB "list.__getitem__" [(.ref sl),(.ref (v 4 0))]) [((v 4 0),(fO "slice" [(.int 1 ((v 4 1)+8)),(.int 2 ((v 4 1)+11)),.none])),(sl,listO (sv.map noTok) sn)] [] (fun v5=>⟨none,[((v5 3),listO (pv5 (v5)) pn5)],.ok (.ret (.ref (v5 3)))⟩),CallN V ([2,1,7]) (.forLoop fLaw_t88 (.ref ((v 3 0)+2)) fLaw_b88 [] (envF fLaws fLawq 123 [(z77,(sz+5)),(z75,(sz+4)),(z74,(sz+3)),(z59,(sz+2)),(z43,(sz+1))] sz)) [(((v 3 0)+2),(fO "list_iterator" [(.ref ((v 3 0)+1)),(.int 0 0)])),(((v 3 0)+1),listO [(.int (Int.fmod (Int.fmod (726+S3) 5832) 18) 0),(.int (Int.fmod (Int.ediv (Int.fmod (726+S3) 5832) 18) 18) 0),(.int (Int.ediv (Int.fmod (726+S3) 5832) 324) 0)] 0),((v 3 0),listO [(.int 0 0),(.int 0 0),(.int 0 0)] 0),(sz,nsO [ent w.params z53 tk (.ref sl),ent w.params z54 (tk+6) (.ref (sz+6)),ent w.params z55 ((v 0 1)+6) (.int (Int.fmod (S0+17) 1000000) ((v 0 1)+5)),ent w.params z56 ((v 0 1)+18) (.ref (v 0 0)),ent w.params z57 (v 1 1) (.ref (v 1 0)),ent w.params z58 ((v 1 1)+1) (.ref ((v 1 0)+1)),ent w.params z61 ((v 1 1)+8) (.int 0 ((v 1 1)+7)),ent w.params z60 ((v 3 1)+3) (.int (Int.fmod (726+S3) 5832) ((v 3 1)+2)),ent w.params z39 ((v 3 1)+7) (.ref (v 3 0)),ent w.params z38 ((v 3 1)+9) (.str z26 ((v 3 1)+8))] 10)] [] (fun v4=>⟨some [],[((v 3 0),listO [(.int p4 (v4 3)),(.int q4 (v4 4)),(.int r4 (v4 5))] 0),(sz,nsO [ent w.params z53 tk (.ref sl),ent w.params z54 (tk+6) (.ref (sz+6)),ent w.params z55 ((v 0 1)+6) (.int (Int.fmod (S0+17) 1000000) ((v 0 1)+5)),ent w.params z56 ((v 0 1)+18) (.ref (v 0 0)),ent w.params z57 (v 1 1) (.ref (v 1 0)),ent w.params z58 ((v 1 1)+1) (.ref ((v 1 0)+1)),ent w.params z61 ((v 1 1)+8) (.int 0 ((v 1 1)+7)),ent w.params z60 ((v 3 1)+3) (.int (Int.fmod (726+S3) 5832) ((v 3 1)+2)),ent w.params z39 ((v 3 1)+7) (.ref (v 3 0)),ent w.params z38 ((v 3 1)+9) (.str tx4 (v4 6)),ent w.params z64 (v4 7) (nv4 (v4)),ent w.params z63 (v4 8) (ov4 (v4)),ent w.params z62 (v4 9) (kv4 (v4))] 13)],.ok .next⟩),EvP "int.__floordiv__" [(.int (Int.fmod (726+S3) 5832) 0),(.int 324 0)] (retI (Int.ediv (Int.fmod (726+S3) 5832) 324)),EvP "int.__floordiv__" [(.int (Int.fmod (726+S3) 5832) 0),(.int 18 0)] (retI (Int.ediv (Int.fmod (726+S3) 5832) 18)),CallN V ([2,1,7]) (cB "sum" [(.ref (v 2 3))]) [((v 2 3),listO ((pv2 (v 2)).map noTok) pn2)] [] (fun v3=>oV (.int S3 (v3 3))),CallN V ([2,1,7]) (cB "list.__getitem__" [(.ref sl),(.ref ((v 1 0)+6))]) [(((v 1 0)+6),(fO "slice" [(.int 0 ((v 1 1)+7)),(.int 1 ((v 1 1)+10)),.none])),(sl,listO (sv.map noTok) sn)] [] (fun v2=>⟨none,[((v2 3),listO (pv2 (v2)) pn2)],.ok (.ret (.ref (v2 3)))⟩),CallN V ([1,7]) (cB "list.__getitem__" [(.ref ((v 0 0)+1)),(.int (Int.ediv (Int.fmod (Int.ediv (Int.fmod (S0+17) 1000000) 144) 3) 2) 0)]) [(((v 0 0)+1),listO [(.int 0 0),(.int 127 0)] 0)] [] (fun v1=>oV (.int 127 (v1 3))),EvP "int.__floordiv__" [(.int (Int.fmod (Int.ediv (Int.fmod (S0+17) 1000000) 144) 3) 0),(.int 2 0)] (retI (Int.ediv (Int.fmod (Int.ediv (Int.fmod (S0+17) 1000000) 144) 3) 2)),EvP "int.__floordiv__" [(.int (Int.fmod (S0+17) 1000000) 0),(.int 144 0)] (retI (Int.ediv (Int.fmod (S0+17) 1000000) 144)),EvP "int.__floordiv__" [(.int (Int.fmod (S0+17) 1000000) 0),(.int 48 0)] (retI (Int.ediv (Int.fmod (S0+17) 1000000) 48)),EvP "int.__floordiv__" [(.int (Int.fmod (S0+17) 1000000) 0),(.int 12 0)] (retI (Int.ediv (Int.fmod (S0+17) 1000000) 12)),EvP "int.__floordiv__" [(.int (Int.fmod (S0+17) 1000000) 0),(.int 3 0)] (retI (Int.ediv (Int.fmod (S0+17) 1000000) 3)),CallN V ([1,7]) (cB "sum" [(.ref sl)]) [(sl,listO (sv.map noTok) sn)] [] (fun v0=>oV (.int S0 (v0 3)))]
noncomputable def law_C_en (n0 n1:Nat) (w:World) (sl:Nat) (sv:List Value) (sn:Nat) (S0:Int) (pv2:(Nat→Nat)→List Value) (pn2:Nat) (S3:Int) (nv4 kv4 ov4:(Nat→Nat)→Value) (p4 q4 r4:Int) (tx4:Str) (pv5:(Nat→Nat)→List Value) (pn5:Nat) (S6:Int) (nv7 kv7 ov7:(Nat→Nat)→Value) (p7 q7 r7:Int) (tx7:Str) (pv8:(Nat→Nat)→List Value) (pn8:Nat) (S9:Int) (nv10 kv10 ov10:(Nat→Nat)→Value) (p10 q10 r10:Int) (tx10:Str) (pv11:(Nat→Nat)→List Value) (pn11:Nat) (S12:Int) (nv13 kv13 ov13:(Nat→Nat)→Value) (p13 q13 r13:Int) (tx13:Str) (pv14:(Nat→Nat)→List Value) (pn14:Nat) (S15:Int) (nv16 kv16 ov16:(Nat→Nat)→Value) (p16 q16 r16:Int) (tx16:Str) (ga18 gb18:Int) (ln21 ln28:Str) (ga30 gb30:Int) (ln33 ln40:Str) (oa41 ob41 oc41 od41 oe41 of41 oa48 ob48 oc48 od48 oe48 of48 oa49 ob49 oc49 od49 oe49 of49:Int) (sz tk:Nat):List (Nat × En):=[(1,.call [7] [] (fun v0=>oV (.int S0 (v0 3))) (fun v0=>[(11,.ev (retI (Int.ediv (Int.fmod (S0+17) 1000000) 3))),(5,.ev (retI (Int.ediv (Int.fmod (S0+17) 1000000) 12))),(5,.ev (retI (Int.ediv (Int.fmod (S0+17) 1000000) 48))),(5,.ev (retI (Int.ediv (Int.fmod (S0+17) 1000000) 144))),(3,.ev (retI (Int.ediv (Int.fmod (Int.ediv (Int.fmod (S0+17) 1000000) 144) 3) 2))),(0,.call [0] [] (fun v1=>oV (.int 127 (v1 3))) (fun v1=>[(16,.call [0,9] [] (fun v2=>⟨none,[((v2 3),listO (pv2 (v2)) pn2)],.ok (.ret (.ref (v2 3)))⟩) (fun v2=>[(0,.call [0] [] (fun v3=>oV (.int S3 (v3 3))) (fun v3=>[(7,.ev (retI (Int.ediv (Int.fmod (726+S3) 5832) 18))),(3,.ev (retI (Int.ediv (Int.fmod (726+S3) 5832) 324))),(2,.call [0,1,2,20] [] (fun v4=>⟨some [],[((v3 0),listO [(.int p4 (v4 3)),(.int q4 (v4 4)),(.int r4 (v4 5))] 0),(sz,nsO [ent w.params z53 tk (.ref sl),ent w.params z54 (tk+6) (.ref (sz+6)),ent w.params z55 ((v0 1)+6) (.int (Int.fmod (S0+17) 1000000) ((v0 1)+5)),ent w.params z56 ((v0 1)+18) (.ref (v0 0)),ent w.params z57 (v1 1) (.ref (v1 0)),ent w.params z58 ((v1 1)+1) (.ref ((v1 0)+1)),ent w.params z61 ((v1 1)+8) (.int 0 ((v1 1)+7)),ent w.params z60 ((v3 1)+3) (.int (Int.fmod (726+S3) 5832) ((v3 1)+2)),ent w.params z39 ((v3 1)+7) (.ref (v3 0)),ent w.params z38 ((v3 1)+9) (.str tx4 (v4 6)),ent w.params z64 (v4 7) (nv4 (v4)),ent w.params z63 (v4 8) (ov4 (v4)),ent w.params z62 (v4 9) (kv4 (v4))] 13)],.ok .next⟩) (fun v4=>[(29,.call [0,5] [] (fun v5=>⟨none,[((v5 3),listO (pv5 (v5)) pn5)],.ok (.ret (.ref (v5 3)))⟩) (fun v5=>[(0,.call [0] [] (fun v6=>oV (.int S6 (v6 3))) (fun v6=>[(7,.ev (retI (Int.ediv (Int.fmod (5349+S6) 5832) 18))),(3,.ev (retI (Int.ediv (Int.fmod (5349+S6) 5832) 324))),(2,.call [0,1,2,7] [] (fun v7=>⟨some [],[((v6 0),listO [(.int p7 (v7 3)),(.int q7 (v7 4)),(.int r7 (v7 5))] 0),(sz,nsO [ent w.params z53 tk (.ref sl),ent w.params z54 (tk+6) (.ref (sz+6)),ent w.params z55 ((v0 1)+6) (.int (Int.fmod (S0+17) 1000000) ((v0 1)+5)),ent w.params z56 ((v0 1)+18) (.ref (v0 0)),ent w.params z57 (v1 1) (.ref (v1 0)),ent w.params z58 ((v1 1)+1) (.ref ((v1 0)+1)),ent w.params z61 ((v1 1)+8) (.int 1 ((v4 1)+8)),ent w.params z60 ((v3 1)+3) (.int (Int.fmod (5349+S6) 5832) ((v6 1)+2)),ent w.params z39 ((v3 1)+7) (.ref (v6 0)),ent w.params z38 ((v3 1)+9) (.str tx7 (v7 6)),ent w.params z64 (v4 7) (nv7 (v7)),ent w.params z63 (v4 8) (ov7 (v7)),ent w.params z62 (v4 9) (kv7 (v7))] 13)],.ok .next⟩) (fun v7=>[(29,.call [0,5] [] (fun v8=>⟨none,[((v8 3),listO (pv8 (v8)) pn8)],.ok (.ret (.ref (v8 3)))⟩) (fun v8=>[(0,.call [0] [] (fun v9=>oV (.int S9 (v9 3))) (fun v9=>[(7,.ev (retI (Int.ediv (Int.fmod (264+S9) 5832) 18))),(3,.ev (retI (Int.ediv (Int.fmod (264+S9) 5832) 324))),(2,.call [0,1,2,7] [] (fun v10=>⟨some [],[((v9 0),listO [(.int p10 (v10 3)),(.int q10 (v10 4)),(.int r10 (v10 5))] 0),(sz,nsO [ent w.params z53 tk (.ref sl),ent w.params z54 (tk+6) (.ref (sz+6)),ent w.params z55 ((v0 1)+6) (.int (Int.fmod (S0+17) 1000000) ((v0 1)+5)),ent w.params z56 ((v0 1)+18) (.ref (v0 0)),ent w.params z57 (v1 1) (.ref (v1 0)),ent w.params z58 ((v1 1)+1) (.ref ((v1 0)+1)),ent w.params z61 ((v1 1)+8) (.int 2 ((v7 1)+8)),ent w.params z60 ((v3 1)+3) (.int (Int.fmod (264+S9) 5832) ((v9 1)+2)),ent w.params z39 ((v3 1)+7) (.ref (v9 0)),ent w.params z38 ((v3 1)+9) (.str tx10 (v10 6)),ent w.params z64 (v4 7) (nv10 (v10)),ent w.params z63 (v4 8) (ov10 (v10)),ent w.params z62 (v4 9) (kv10 (v10))] 13)],.ok .next⟩) (fun v10=>[(29,.call [0,5] [] (fun v11=>⟨none,[((v11 3),listO (pv11 (v11)) pn11)],.ok (.ret (.ref (v11 3)))⟩) (fun v11=>[(0,.call [0] [] (fun v12=>oV (.int S12 (v12 3))) (fun v12=>[(7,.ev (retI (Int.ediv (Int.fmod (1108+S12) 5832) 18))),(3,.ev (retI (Int.ediv (Int.fmod (1108+S12) 5832) 324))),(2,.call [0,1,2,7] [] (fun v13=>⟨some [],[((v12 0),listO [(.int p13 (v13 3)),(.int q13 (v13 4)),(.int r13 (v13 5))] 0),(sz,nsO [ent w.params z53 tk (.ref sl),ent w.params z54 (tk+6) (.ref (sz+6)),ent w.params z55 ((v0 1)+6) (.int (Int.fmod (S0+17) 1000000) ((v0 1)+5)),ent w.params z56 ((v0 1)+18) (.ref (v0 0)),ent w.params z57 (v1 1) (.ref (v1 0)),ent w.params z58 ((v1 1)+1) (.ref ((v1 0)+1)),ent w.params z61 ((v1 1)+8) (.int 3 ((v10 1)+8)),ent w.params z60 ((v3 1)+3) (.int (Int.fmod (1108+S12) 5832) ((v12 1)+2)),ent w.params z39 ((v3 1)+7) (.ref (v12 0)),ent w.params z38 ((v3 1)+9) (.str tx13 (v13 6)),ent w.params z64 (v4 7) (nv13 (v13)),ent w.params z63 (v4 8) (ov13 (v13)),ent w.params z62 (v4 9) (kv13 (v13))] 13)],.ok .next⟩) (fun v13=>[(29,.call [0,5] [] (fun v14=>⟨none,[((v14 3),listO (pv14 (v14)) pn14)],.ok (.ret (.ref (v14 3)))⟩) (fun v14=>[(0,.call [0] [] (fun v15=>oV (.int S15 (v15 3))) (fun v15=>[(7,.ev (retI (Int.ediv (Int.fmod (38+S15) 5832) 18))),(3,.ev (retI (Int.ediv (Int.fmod (38+S15) 5832) 324))),(2,.call [0,1,2,7] [] (fun v16=>⟨some [],[((v15 0),listO [(.int p16 (v16 3)),(.int q16 (v16 4)),(.int r16 (v16 5))] 0),(sz,nsO [ent w.params z53 tk (.ref sl),ent w.params z54 (tk+6) (.ref (sz+6)),ent w.params z55 ((v0 1)+6) (.int (Int.fmod (S0+17) 1000000) ((v0 1)+5)),ent w.params z56 ((v0 1)+18) (.ref (v0 0)),ent w.params z57 (v1 1) (.ref (v1 0)),ent w.params z58 ((v1 1)+1) (.ref ((v1 0)+1)),ent w.params z61 ((v1 1)+8) (.int 4 ((v13 1)+8)),ent w.params z60 ((v3 1)+3) (.int (Int.fmod (38+S15) 5832) ((v15 1)+2)),ent w.params z39 ((v3 1)+7) (.ref (v15 0)),ent w.params z38 ((v3 1)+9) (.str tx16 (v16 6)),ent w.params z64 (v4 7) (nv16 (v16)),ent w.params z63 (v4 8) (ov16 (v16)),ent w.params z62 (v4 9) (kv16 (v16))] 13)],.ok .next⟩) (fun v16=>[(55,.ev (retB false)),(1,.ev (retB false)),(8,.ev (retB false)),(1,.ev (retB false)),(0,.own (tupE fLaw_t100) (tupK fLaw_t100) (tupP fLaw_t100) ((v16 0)+10) ((v16 0)+13) fLaw_b100 [] (envF fLaws fLawq 123 [(z77,(sz+5)),(z75,(sz+4)),(z74,(sz+3)),(z59,(sz+2)),(z43,(sz+1))] sz)),(10,.call [] [] (fun v18=>⟨none,[((v18 3),listO [(.int ga18 (v18 4)),(.int gb18 (v18 5))] 0)],.ok (.ret (.ref (v18 3)))⟩) (fun v18=>[(4,.call [] [] (fun v19=>oV (.str (sMul z10 ga18) (v19 3))) (fun v19=>[(0,.call [] [] (fun v20=>oV (.str (sAdd (sMul z10 ga18) z67) (v20 3))) (fun v20=>[(0,.call [] [] (fun v21=>oV (.str ln21 (v21 3))) (fun v21=>[(4,.call [] [] (fun v22=>oV (.str (sMul z10 gb18) (v22 3))) (fun v22=>[(0,.call [] [] (fun v23=>oV (.str (sAdd (sMul z10 gb18) z67) (v23 3))) (fun v23=>[(0,.call [] [] (fun v24=>oV (.int (sLen (sAdd (sMul z10 ga18) z67)) (v24 3))) (fun v24=>[(0,.call [] [] (fun v25=>oV (.int (sLen ln21) (v25 3))) (fun v25=>[(4,.call [] [] (fun v26=>oV (.str (sMul z10 ((sLen (sAdd (sMul z10 ga18) z67)) - (sLen ln21))) (v26 3))) (fun v26=>[(0,.call [] [] (fun v27=>oV (.str (sAdd (sAdd (sMul z10 gb18) z67) (sMul z10 ((sLen (sAdd (sMul z10 ga18) z67)) - (sLen ln21)))) (v27 3))) (fun v27=>[(0,.call [] [] (fun v28=>oV (.str ln28 (v28 3))) (fun v28=>[(13,.ev (retB false)),(1,.ev (retB false)),(6,.ev (retB false)),(1,.ev (retB false)),(0,.own (tupE fLaw_t100) (tupK fLaw_t100) (tupP fLaw_t100) ((v16 0)+10) ((v28 0)+1) fLaw_b100 [] (envF fLaws fLawq 123 [(z77,(sz+5)),(z75,(sz+4)),(z74,(sz+3)),(z59,(sz+2)),(z43,(sz+1))] sz)),(10,.call [] [] (fun v30=>⟨none,[((v30 3),listO [(.int ga30 (v30 4)),(.int gb30 (v30 5))] 0)],.ok (.ret (.ref (v30 3)))⟩) (fun v30=>[(4,.call [] [] (fun v31=>oV (.str (sMul z10 ga30) (v31 3))) (fun v31=>[(0,.call [] [] (fun v32=>oV (.str (sAdd (sMul z10 ga30) ln21) (v32 3))) (fun v32=>[(0,.call [] [] (fun v33=>oV (.str ln33 (v33 3))) (fun v33=>[(4,.call [] [] (fun v34=>oV (.str (sMul z10 gb30) (v34 3))) (fun v34=>[(0,.call [] [] (fun v35=>oV (.str (sAdd (sMul z10 gb30) ln28) (v35 3))) (fun v35=>[(0,.call [] [] (fun v36=>oV (.int (sLen (sAdd (sMul z10 ga30) ln21)) (v36 3))) (fun v36=>[(0,.call [] [] (fun v37=>oV (.int (sLen ln33) (v37 3))) (fun v37=>[(4,.call [] [] (fun v38=>oV (.str (sMul z10 ((sLen (sAdd (sMul z10 ga30) ln21)) - (sLen ln33))) (v38 3))) (fun v38=>[(0,.call [] [] (fun v39=>oV (.str (sAdd (sAdd (sMul z10 gb30) ln28) (sMul z10 ((sLen (sAdd (sMul z10 ga30) ln21)) - (sLen ln33)))) (v39 3))) (fun v39=>[(0,.call [] [] (fun v40=>oV (.str ln40 (v40 3))) (fun v40=>[(49,.call [0,55] [] (fun v41=>⟨none,[((v41 3),listO [(.int oa41 (v41 4)),(.int ob41 (v41 5)),(.int oc41 (v41 6)),(.int od41 (v41 7)),(.int oe41 (v41 8)),(.int of41 (v41 9))] 6)],.ok (.ret (.ref (v41 3)))⟩) (fun v41=>[(n0,.ownC ((v41 0)+4) ((v41 0)+7) (compLoad lc109_19 0 ((v41 0)+4) ((v41 0)+7) (.ref ((v41 0)+5)) (envC lc109_19 fLawq [] ((v41 0)+6) none (.ref 122) (some sz))) (compOwn lc109_19 0 ((v41 0)+4) ((v41 0)+7) (.ref ((v41 0)+5)) (envC lc109_19 fLawq [] ((v41 0)+6) none (.ref 122) (some sz)))),(19,.ownC ((v41 0)+4) ((v41 0)+11) (compLoad lc109_19 0 ((v41 0)+4) ((v41 0)+11) (.ref ((v41 0)+5)) (envC lc109_19 fLawq [] ((v41 0)+6) none (.ref 122) (some sz))) (compOwn lc109_19 0 ((v41 0)+4) ((v41 0)+11) (.ref ((v41 0)+5)) (envC lc109_19 fLawq [] ((v41 0)+6) none (.ref 122) (some sz)))),(19,.ownC ((v41 0)+4) ((v41 0)+15) (compLoad lc109_19 0 ((v41 0)+4) ((v41 0)+15) (.ref ((v41 0)+5)) (envC lc109_19 fLawq [] ((v41 0)+6) none (.ref 122) (some sz))) (compOwn lc109_19 0 ((v41 0)+4) ((v41 0)+15) (.ref ((v41 0)+5)) (envC lc109_19 fLawq [] ((v41 0)+6) none (.ref 122) (some sz)))),(19,.ownC ((v41 0)+4) ((v41 0)+19) (compLoad lc109_19 0 ((v41 0)+4) ((v41 0)+19) (.ref ((v41 0)+5)) (envC lc109_19 fLawq [] ((v41 0)+6) none (.ref 122) (some sz))) (compOwn lc109_19 0 ((v41 0)+4) ((v41 0)+19) (.ref ((v41 0)+5)) (envC lc109_19 fLawq [] ((v41 0)+6) none (.ref 122) (some sz)))),(19,.ownC ((v41 0)+4) ((v41 0)+23) (compLoad lc109_19 0 ((v41 0)+4) ((v41 0)+23) (.ref ((v41 0)+5)) (envC lc109_19 fLawq [] ((v41 0)+6) none (.ref 122) (some sz))) (compOwn lc109_19 0 ((v41 0)+4) ((v41 0)+23) (.ref ((v41 0)+5)) (envC lc109_19 fLawq [] ((v41 0)+6) none (.ref 122) (some sz)))),(19,.ownC ((v41 0)+4) ((v41 0)+27) (compLoad lc109_19 0 ((v41 0)+4) ((v41 0)+27) (.ref ((v41 0)+5)) (envC lc109_19 fLawq [] ((v41 0)+6) none (.ref 122) (some sz))) (compOwn lc109_19 0 ((v41 0)+4) ((v41 0)+27) (.ref ((v41 0)+5)) (envC lc109_19 fLawq [] ((v41 0)+6) none (.ref 122) (some sz)))),(17,.call [27,39] [] (fun v48=>⟨none,[((v48 3),listO [(.int oa48 (v48 4)),(.int ob48 (v48 5)),(.int oc48 (v48 6)),(.int od48 (v48 7)),(.int oe48 (v48 8)),(.int of48 (v48 9))] 6)],.ok (.ret (.ref (v48 3)))⟩) (fun v48=>[(0,.call [2,90] [] (fun v49=>⟨none,[((v49 3),listO [(.int oa49 (v49 4)),(.int ob49 (v49 5)),(.int oc49 (v49 6)),(.int od49 (v49 7)),(.int oe49 (v49 8)),(.int of49 (v49 9))] 6)],.ok (.ret (.ref (v49 3)))⟩) (fun v49=>[(n1,.call [] [] (fun v50=>oV (.str (sMul z10 ((0+p4) - ob41)) (v50 3))) (fun v50=>[(0,.call [] [] (fun v51=>oV (.str (sAdd (sMul z10 ((0+p4) - ob41)) z67) (v51 3))) (fun v51=>[(8,.call [] [] (fun v52=>oV (.str (sMul z10 ((0+q4) - ob49)) (v52 3))) (fun v52=>[(0,.call [] [] (fun v53=>oV (.str (sAdd (sMul z10 ((0+q4) - ob49)) z67) (v53 3))) (fun v53=>[(12,.call [] [] (fun v54=>oV (.str (sMul z10 ((ob41 - ob48)+ob49)) (v54 3))) (fun v54=>[(0,.call [] [] (fun v55=>oV (.str (sAdd (sAdd (sMul z10 ((0+q4) - ob49)) z67) (sMul z10 ((ob41 - ob48)+ob49))) (v55 3))) (fun v55=>[(13,.call [] [] (fun v56=>oV (.str (sMul z10 (((0+p4)+p7) - oc41)) (v56 3))) (fun v56=>[(0,.call [] [] (fun v57=>oV (.str (sAdd (sMul z10 (((0+p4)+p7) - oc41)) z67) (v57 3))) (fun v57=>[(8,.call [] [] (fun v58=>oV (.str (sMul z10 (((0+q4)+q7) - oc49)) (v58 3))) (fun v58=>[(0,.call [] [] (fun v59=>oV (.str (sAdd (sMul z10 (((0+q4)+q7) - oc49)) z67) (v59 3))) (fun v59=>[(12,.call [] [] (fun v60=>oV (.str (sMul z10 ((oc41 - oc48)+oc49)) (v60 3))) (fun v60=>[(0,.call [] [] (fun v61=>oV (.str (sAdd (sAdd (sMul z10 (((0+q4)+q7) - oc49)) z67) (sMul z10 ((oc41 - oc48)+oc49))) (v61 3))) (fun v61=>[(5,.call [2,3,5,56,62,78] [] (fun v62=>oV (.bool true)) (fun v62=>[]))]))]))]))]))]))]))]))]))]))]))]))]))]))]))]))]))]))]))]))]))]))]))]))]))]))]))]))]))]))]))]))]))]))]))]))]))]))]))]))]))]))]))]))]))]))]))]))]))]))]))]))]))]))]))]
theorem law_C (w:World) (b2:Bool) (h0:Heap) (B:List Frame) (d:Drawn) (os:OsState) (pos0:Pos) (sl:Nat) (sv:List Value) (sn t0 t1 t2 t3 t4 t5:Nat) (S0:Int) (pv2:(Nat→Nat)→List Value) (pn2:Nat) (S3:Int) (nv4 kv4 ov4:(Nat→Nat)→Value) (p4 q4 r4:Int) (tx4:Str) (pv5:(Nat→Nat)→List Value) (pn5:Nat) (S6:Int) (nv7 kv7 ov7:(Nat→Nat)→Value) (p7 q7 r7:Int) (tx7:Str) (pv8:(Nat→Nat)→List Value) (pn8:Nat) (S9:Int) (nv10 kv10 ov10:(Nat→Nat)→Value) (p10 q10 r10:Int) (tx10:Str) (pv11:(Nat→Nat)→List Value) (pn11:Nat) (S12:Int) (nv13 kv13 ov13:(Nat→Nat)→Value) (p13 q13 r13:Int) (tx13:Str) (pv14:(Nat→Nat)→List Value) (pn14:Nat) (S15:Int) (nv16 kv16 ov16:(Nat→Nat)→Value) (p16 q16 r16:Int) (tx16:Str) (ga18 gb18:Int) (ln21 ln28:Str) (ga30 gb30:Int) (ln33 ln40:Str) (oa41 ob41 oc41 od41 oe41 of41 oa48 ob48 oc48 od48 oe48 of48 oa49 ob49 oc49 od49 oe49 of49:Int) (qa0:Args) (qq0:Pos) (sz tk gn:Nat) (M:List (Addr × Obj)) (G:List (Nat × GenState)) (O:(view w false h0 B [(.builtin "claim.caller" qa0,qq0)] d os).Ok)
    (hs:∀ v,AllP (law_C_sd (view w false h0 B [(.builtin "claim.caller" qa0,qq0)] d os) w sl sv sn S0 pv2 pn2 S3 nv4 kv4 ov4 p4 q4 r4 tx4 pv5 pn5 S6 nv7 kv7 ov7 p7 q7 r7 tx7 pv8 pn8 S9 nv10 kv10 ov10 p10 q10 r10 tx10 pv11 pn11 S12 nv13 kv13 ov13 p13 q13 r13 tx13 pv14 pn14 S15 nv16 kv16 ov16 p16 q16 r16 tx16 ga18 gb18 ln21 ln28 ga30 gb30 ln33 ln40 oa41 ob41 oc41 od41 oe41 of41 oa48 ob48 oc48 od48 oe48 of48 oa49 ob49 oc49 od49 oe49 of49 sz tk v)) :
    Goes (view w false h0 B [(.builtin "claim.caller" qa0,qq0)] d os) (mkD (cR 123 [(.ref sl)]) pos0 [] ((sl,listO sv sn)::M) sz tk (G) gn)
      (fun y=>∃ v:N2,y = mk (.pure (.done (.ret (.bool true)))) (.func fLaw_ (envF fLaws fLawq 123 [(z77,(sz+5)),(z75,(sz+4)),(z74,(sz+3)),(z59,(sz+2)),(z43,(sz+1))] sz)) ⟨111,11,111,163⟩ [] ((sl,listO sv sn)::M) (v 62 0) (v 62 1) (G) (v 62 2)) :=
  goes_run (it:=law_i0++[0,17,17,1,29,50,50,50,50,50,29,29,29,50,50,50,50,50,30,51,51,51,51,51,1,1,1,1,1,3,1,3,3,1,3,1,33,33,0,62,33,56,56,56,56,56,34,57,57,57,57,57,1,1,1,1,1,3,1,3,3,1,3,1,0,65,65,0,0,0,65,66,1,1,1,1,58,58,58]++law_i2++law_i3++law_i4++[64]++law_i6++[68]++law_i8++[72]++law_i10++[76]++law_i12++[80]++law_i14++[84]++law_i16++[72,0,98,98,0,100,73,0,98,98,75,0,0,75]++law_i18++law_i19++law_i20++[106,1,44,44,44,44,44,104,1,42,42,42,42,42,105,1,7,7,7,7,7,102,1,5,5,5,5,5,104,1,42,42,42,42,42,103,1,8,8,8,8,8,102]++law_i22++[107,2,45,45,45,45,45,105,2,43,43,43,43,43,106,2,8,8,8,8,8,103,2,6,6,6,6,6,105,2,43,43,43,43,43,104,2,9,9,9,9,9,103,2,6,6,6,6,6,4,4,4,4,5,5,5,5,5,1,5,5,5,79,6,79]) (en:=law_C_en 22 24 w sl sv sn S0 pv2 pn2 S3 nv4 kv4 ov4 p4 q4 r4 tx4 pv5 pn5 S6 nv7 kv7 ov7 p7 q7 r7 tx7 pv8 pn8 S9 nv10 kv10 ov10 p10 q10 r10 tx10 pv11 pn11 S12 nv13 kv13 ov13 p13 q13 r13 tx13 pv14 pn14 S15 nv16 kv16 ov16 p16 q16 r16 tx16 ga18 gb18 ln21 ln28 ga30 gb30 ln33 ln40 oa41 ob41 oc41 od41 oe41 of41 oa48 ob48 oc48 od48 oe48 of48 oa49 ob49 oc49 od49 oe49 of49 sz tk)
    (d:=110) (ms:=[85]) (e:=2) (gs:=[]) (mv:=[])
    O den_eq 4303 63 (fun v=>⟨by kernel_rfl,by kernel_rfl,by kernel_rfl,by kernel_rfl⟩) hs
theorem law_D (w:World) (b2:Bool) (h0:Heap) (B:List Frame) (d:Drawn) (os:OsState) (pos0:Pos) (sl:Nat) (sv:List Value) (sn t0 t1 t2 t3 t4 t5:Nat) (S0:Int) (pv2:(Nat→Nat)→List Value) (pn2:Nat) (S3:Int) (nv4 kv4 ov4:(Nat→Nat)→Value) (p4 q4 r4:Int) (tx4:Str) (pv5:(Nat→Nat)→List Value) (pn5:Nat) (S6:Int) (nv7 kv7 ov7:(Nat→Nat)→Value) (p7 q7 r7:Int) (tx7:Str) (pv8:(Nat→Nat)→List Value) (pn8:Nat) (S9:Int) (nv10 kv10 ov10:(Nat→Nat)→Value) (p10 q10 r10:Int) (tx10:Str) (pv11:(Nat→Nat)→List Value) (pn11:Nat) (S12:Int) (nv13 kv13 ov13:(Nat→Nat)→Value) (p13 q13 r13:Int) (tx13:Str) (pv14:(Nat→Nat)→List Value) (pn14:Nat) (S15:Int) (nv16 kv16 ov16:(Nat→Nat)→Value) (p16 q16 r16:Int) (tx16:Str) (ga18 gb18:Int) (ln21 ln28:Str) (ga30 gb30:Int) (ln33 ln40:Str) (oa41 ob41 oc41 od41 oe41 of41 oa48 ob48 oc48 od48 oe48 of48 oa49 ob49 oc49 od49 oe49 of49:Int) (qa0:Args) (qq0:Pos) (sz tk gn:Nat) (M:List (Addr × Obj)) (G:List (Nat × GenState)) (O:(view w true h0 B [(.builtin "claim.caller" qa0,qq0)] d os).Ok)
    (hs:∀ v,AllP (law_C_sd (view w true h0 B [(.builtin "claim.caller" qa0,qq0)] d os) w sl sv sn S0 pv2 pn2 S3 nv4 kv4 ov4 p4 q4 r4 tx4 pv5 pn5 S6 nv7 kv7 ov7 p7 q7 r7 tx7 pv8 pn8 S9 nv10 kv10 ov10 p10 q10 r10 tx10 pv11 pn11 S12 nv13 kv13 ov13 p13 q13 r13 tx13 pv14 pn14 S15 nv16 kv16 ov16 p16 q16 r16 tx16 ga18 gb18 ln21 ln28 ga30 gb30 ln33 ln40 oa41 ob41 oc41 od41 oe41 of41 oa48 ob48 oc48 od48 oe48 of48 oa49 ob49 oc49 od49 oe49 of49 sz tk v)) :
    Goes (view w true h0 B [(.builtin "claim.caller" qa0,qq0)] d os) (mkD (cR 123 [(.ref sl)]) pos0 [] ((sl,listO sv sn)::M) sz tk (G) gn)
      (fun y=>∃ v:N2,y = mk (.pure (.done (.ret (.bool true)))) (.func fLaw_ (envF fLaws fLawq 123 [(z77,(sz+5)),(z75,(sz+4)),(z74,(sz+3)),(z59,(sz+2)),(z43,(sz+1))] sz)) ⟨111,11,111,163⟩ [] ((sl,listO sv sn)::M) (v 62 0) (v 62 1) (G) (v 62 2)) :=
  goes_run (it:=law_i0++[0,17,17,1,29,50,50,50,50,50,29,29,29,50,50,50,50,50,30,51,51,51,51,51,1,1,1,1,1,3,1,3,3,1,3,1,33,33,0,62,33,56,56,56,56,56,34,57,57,57,57,57,1,1,1,1,1,3,1,3,3,1,3,1,0,65,65,0,0,0,65,66,1,1,1,1,58,58,58,1,1,1,1,1,1,1,1,1]++law_i3++law_i4++[64]++law_i6++[68]++law_i8++[72]++law_i10++[76]++law_i12++[80]++law_i14++[84]++law_i16++[72,0,98,98,0,100,73,0,98,98,75,0,0,75]++law_i18++[1,1,106,1,44,44,44,44,44,104,1,42,42,42,42,42,105,1,7,7,7,7,7,102,1,5,5,5,5,5,104,1,42,42,42,42,42,103,1,8,8,8,8,8,102]++law_i22++[107,2,45,45,45,45,45,105,2,43,43,43,43,43,106,2,8,8,8,8,8,103,2,6,6,6,6,6,105,2,43,43,43,43,43,104,2,9,9,9,9,9,103,2,6,6,6,6,6,4,4,4,4,5,5,5,5,5,1,5,5,5,79,6,79]) (en:=law_C_en 20 22 w sl sv sn S0 pv2 pn2 S3 nv4 kv4 ov4 p4 q4 r4 tx4 pv5 pn5 S6 nv7 kv7 ov7 p7 q7 r7 tx7 pv8 pn8 S9 nv10 kv10 ov10 p10 q10 r10 tx10 pv11 pn11 S12 nv13 kv13 ov13 p13 q13 r13 tx13 pv14 pn14 S15 nv16 kv16 ov16 p16 q16 r16 tx16 ga18 gb18 ln21 ln28 ga30 gb30 ln33 ln40 oa41 ob41 oc41 od41 oe41 of41 oa48 ob48 oc48 od48 oe48 of48 oa49 ob49 oc49 od49 oe49 of49 sz tk)
    (d:=110) (ms:=[85]) (e:=2) (gs:=[]) (mv:=[])
    O den_eq 4283 63 (fun v=>⟨by kernel_rfl,by kernel_rfl,by kernel_rfl,by kernel_rfl⟩) hs
end Mine
end
section
open PySem PySem.W PySem.W.X PyProof.Rows
set_option maxHeartbeats 2000000
namespace Mine
section
variable {w:World} {b2:Bool} {h0:Heap} {B:List Frame} {d:Drawn} {os:OsState} {bw:List (Code × Pos)}
theorem law_A_ok {ns:List Int} (hl:ns.length ≤ 63) {sl sn:Nat} (hidx:Int.ediv (Int.fmod (Int.ediv (Int.fmod (ns.sum+17) 1000000) 144) 3) 2 = 0):CallN (view w b2 h0 B bw d os) [7] (.call (.ref 123) ⟨[.ref sl],[]⟩) [(sl,listO (ns.map fun i=>Value.int i 0) sn)] [] (fun v=>⟨none,[],.ok (.ret (.bool true))⟩):=by
  intro bw' c R sz tk gn hk hc hR pos V' u M G
  obtain ⟨B',rfl,O⟩:=under_view u
  obtain ⟨v,rfl,hv⟩:=norm_call1 hc
  obtain rfl:=noTok_ref hv
  obtain ⟨o,rfl,ho⟩:=norm_one hR
  obtain ⟨vs,rfl,hvs⟩:=norm_list ho
  obtain ⟨c1,pq,r1,rfl,k1,hk⟩:=ks_cons hk
  obtain rfl:=ks_nil hk
  obtain ⟨qa,rfl⟩:=shp_caller k1
  rw [← den_eq]
  obtain ⟨s0,hs0,bs0⟩:=capS (Int.fmod (ns.sum+17) 1000000) (m:=3) (by decide) (by decide)
  obtain ⟨s1,hs1,bs1⟩:=capS (Int.ediv (Int.fmod (ns.sum+17) 1000000) 3) (m:=4) (by decide) (by decide)
  obtain ⟨u0,hu0,bu0⟩:=capS (Int.ediv (Int.fmod (ns.sum+17) 1000000) 12) (m:=4) (by decide) (by decide)
  obtain ⟨u1,hu1,bu1⟩:=capS (Int.ediv (Int.fmod (ns.sum+17) 1000000) 48) (m:=3) (by decide) (by decide)
  obtain ⟨P0,Q0,T0,R0,hv0,bP0,bQ0⟩:=hourV (726+((ns.drop 0).take 1).sum)
  obtain ⟨P1,Q1,T1,R1,hv1,bP1,bQ1⟩:=hourV (5349+((ns.drop 1).take 1).sum)
  obtain ⟨P2,Q2,T2,R2,hv2,bP2,bQ2⟩:=hourV (264+((ns.drop 2).take 1).sum)
  obtain ⟨P3,Q3,T3,R3,hv3,bP3,bQ3⟩:=hourV (1108+((ns.drop 3).take 1).sum)
  obtain ⟨P4,Q4,T4,R4,hv4,bP4,bQ4⟩:=hourV (38+((ns.drop 4).take 1).sum)
  obtain ⟨A1,hA1⟩:=IsSub.mk (P0+0) s0
  have cA1:=hA1.le
  obtain ⟨H1,hH1⟩:=IsSub.mk (Q0+0) u0
  have bA1:A1 ≤ 12:=grow cA1 bP0 (Nat.le_refl 0)
  have dA1:=to60 bA1 (by decide)
  have bH1:H1 ≤ 12:=grow hH1.le bQ0 (Nat.le_refl 0)
  have dH1:=to60 bH1 (by decide)
  obtain ⟨N1,hN1⟩:=IsSub.mk (0+(P0+0 - A1)) (u0 - (Q0+0))
  have sN1:N1+A1 ≤ 12:=grow2 (IsSub.sum cA1 hN1) bP0 (Nat.le_refl 0)
  have dN1:=to60N sN1 (by decide)
  obtain ⟨A2,hA2⟩:=IsSub.mk (P1+A1) s1
  have cA2:=hA2.le
  obtain ⟨H2,hH2⟩:=IsSub.mk (Q1+H1) u1
  have bA2:A2 ≤ 24:=grow cA2 bP1 bA1
  have dA2:=to60 bA2 (by decide)
  have bH2:H2 ≤ 24:=grow hH2.le bQ1 bH1
  have dH2:=to60 bH2 (by decide)
  obtain ⟨N2,hN2⟩:=IsSub.mk (N1+(P1+A1 - A2)) (u1 - (Q1+H1))
  have sN2:N2+A2 ≤ 24:=grow2 (IsSub.sum cA2 hN2) bP1 sN1
  have dN2:=to60N sN2 (by decide)
  obtain ⟨A3,hA3⟩:=IsSub.mk (P2+A2) s1
  have cA3:=hA3.le
  obtain ⟨H3,hH3⟩:=IsSub.mk (Q2+H2) u1
  have bA3:A3 ≤ 36:=grow cA3 bP2 bA2
  have dA3:=to60 bA3 (by decide)
  have bH3:H3 ≤ 36:=grow hH3.le bQ2 bH2
  have dH3:=to60 bH3 (by decide)
  obtain ⟨N3,hN3⟩:=IsSub.mk (N2+(P2+A2 - A3)) (u1 - (Q2+H2))
  have sN3:N3+A3 ≤ 36:=grow2 (IsSub.sum cA3 hN3) bP2 sN2
  have dN3:=to60N sN3 (by decide)
  obtain ⟨A4,hA4⟩:=IsSub.mk (P3+A3) s1
  have cA4:=hA4.le
  obtain ⟨H4,hH4⟩:=IsSub.mk (Q3+H3) u1
  have bA4:A4 ≤ 48:=grow cA4 bP3 bA3
  have dA4:=to60 bA4 (by decide)
  have bH4:H4 ≤ 48:=grow hH4.le bQ3 bH3
  have dH4:=to60 bH4 (by decide)
  obtain ⟨N4,hN4⟩:=IsSub.mk (N3+(P3+A3 - A4)) (u1 - (Q3+H3))
  have sN4:N4+A4 ≤ 48:=grow2 (IsSub.sum cA4 hN4) bP3 sN3
  have dN4:=to60N sN4 (by decide)
  obtain ⟨A5,hA5⟩:=IsSub.mk (P4+A4) s1
  have cA5:=hA5.le
  obtain ⟨H5,hH5⟩:=IsSub.mk (Q4+H4) u1
  have bA5:A5 ≤ 60:=grow cA5 bP4 bA4
  have dA5:=to60 bA5 (by decide)
  have bH5:H5 ≤ 60:=grow hH5.le bQ4 bH4
  have dH5:=to60 bH5 (by decide)
  obtain ⟨N5,hN5⟩:=IsSub.mk (N4+(P4+A4 - A5)) (u1 - (Q4+H4))
  have sN5:N5+A5 ≤ 60:=grow2 (IsSub.sum cA5 hN5) bP4 sN4
  have dN5:=to60N sN5 (by decide)
  have told:∀ v,AllP (law_A_sd (view w b2 h0 B' [(.builtin "claim.caller" qa,pq)] d os) w sl vs sn ns.sum (fun v=>((ns.drop 0).take 1).map fun i=>Value.int i (v 4)) 0 ((ns.drop 0).take 1).sum (fun u=>.int (Int.ediv (Int.fmod (726+((ns.drop 0).take 1).sum) 5832) 324) (u 10)) (fun u=>.int (kN (nC (Int.fmod (726+((ns.drop 0).take 1).sum) 5832)):Nat) (u 12)) (fun u=>.int (o1 (kN (nC (Int.fmod (726+((ns.drop 0).take 1).sum) 5832))) (oN (nC (Int.fmod (726+((ns.drop 0).take 1).sum) 5832))):Nat) (u 11)) (P0:Int) (Q0:Int) R0 T0 (fun v=>((ns.drop 1).take 1).map fun i=>Value.int i (v 4)) 0 ((ns.drop 1).take 1).sum (fun u=>.int (Int.ediv (Int.fmod (5349+((ns.drop 1).take 1).sum) 5832) 324) (u 7)) (fun u=>.int (kN (nC (Int.fmod (5349+((ns.drop 1).take 1).sum) 5832)):Nat) (u 9)) (fun u=>.int (o1 (kN (nC (Int.fmod (5349+((ns.drop 1).take 1).sum) 5832))) (oN (nC (Int.fmod (5349+((ns.drop 1).take 1).sum) 5832))):Nat) (u 8)) (P1:Int) (Q1:Int) R1 T1 (fun v=>((ns.drop 2).take 1).map fun i=>Value.int i (v 4)) 0 ((ns.drop 2).take 1).sum (fun u=>.int (Int.ediv (Int.fmod (264+((ns.drop 2).take 1).sum) 5832) 324) (u 7)) (fun u=>.int (kN (nC (Int.fmod (264+((ns.drop 2).take 1).sum) 5832)):Nat) (u 9)) (fun u=>.int (o1 (kN (nC (Int.fmod (264+((ns.drop 2).take 1).sum) 5832))) (oN (nC (Int.fmod (264+((ns.drop 2).take 1).sum) 5832))):Nat) (u 8)) (P2:Int) (Q2:Int) R2 T2 (fun v=>((ns.drop 3).take 1).map fun i=>Value.int i (v 4)) 0 ((ns.drop 3).take 1).sum (fun u=>.int (Int.ediv (Int.fmod (1108+((ns.drop 3).take 1).sum) 5832) 324) (u 7)) (fun u=>.int (kN (nC (Int.fmod (1108+((ns.drop 3).take 1).sum) 5832)):Nat) (u 9)) (fun u=>.int (o1 (kN (nC (Int.fmod (1108+((ns.drop 3).take 1).sum) 5832))) (oN (nC (Int.fmod (1108+((ns.drop 3).take 1).sum) 5832))):Nat) (u 8)) (P3:Int) (Q3:Int) R3 T3 (fun v=>((ns.drop 4).take 1).map fun i=>Value.int i (v 4)) 0 ((ns.drop 4).take 1).sum (fun u=>.int (Int.ediv (Int.fmod (38+((ns.drop 4).take 1).sum) 5832) 324) (u 7)) (fun u=>.int (kN (nC (Int.fmod (38+((ns.drop 4).take 1).sum) 5832)):Nat) (u 9)) (fun u=>.int (o1 (kN (nC (Int.fmod (38+((ns.drop 4).take 1).sum) 5832))) (oN (nC (Int.fmod (38+((ns.drop 4).take 1).sum) 5832))):Nat) (u 8)) (P4:Int) (Q4:Int) R4 T4 (P0:Int) (Q0:Int) (ln A1 0) (ln H1 N1) (P1:Int) (Q1:Int) (ln A2 0) (ln H2 N2) (P2:Int) (Q2:Int) (ln A3 0) (ln H3 N3) (P3:Int) (Q3:Int) (ln A4 0) (ln H4 N4) (P4:Int) (Q4:Int) (ln A5 0) (ln H5 N5) 0 ((0+(P0:Int)) - (A1:Int)) (((0+(P0:Int))+(P1:Int)) - (A2:Int)) ((((0+(P0:Int))+(P1:Int))+(P2:Int)) - (A3:Int)) (((((0+(P0:Int))+(P1:Int))+(P2:Int))+(P3:Int)) - (A4:Int)) ((((((0+(P0:Int))+(P1:Int))+(P2:Int))+(P3:Int))+(P4:Int)) - (A5:Int)) 0 ((((0+(P0:Int)) - (A1:Int))+(0+(Q0:Int))) - ((H1:Int)+(N1:Int))) (((((0+(P0:Int))+(P1:Int)) - (A2:Int))+((0+(Q0:Int))+(Q1:Int))) - ((H2:Int)+(N2:Int))) ((((((0+(P0:Int))+(P1:Int))+(P2:Int)) - (A3:Int))+(((0+(Q0:Int))+(Q1:Int))+(Q2:Int))) - ((H3:Int)+(N3:Int))) (((((((0+(P0:Int))+(P1:Int))+(P2:Int))+(P3:Int)) - (A4:Int))+((((0+(Q0:Int))+(Q1:Int))+(Q2:Int))+(Q3:Int))) - ((H4:Int)+(N4:Int))) ((((((((0+(P0:Int))+(P1:Int))+(P2:Int))+(P3:Int))+(P4:Int)) - (A5:Int))+(((((0+(Q0:Int))+(Q1:Int))+(Q2:Int))+(Q3:Int))+(Q4:Int))) - ((H5:Int)+(N5:Int))) 0 ((0+(Q0:Int)) - (H1:Int)) (((0+(Q0:Int))+(Q1:Int)) - (H2:Int)) ((((0+(Q0:Int))+(Q1:Int))+(Q2:Int)) - (H3:Int)) (((((0+(Q0:Int))+(Q1:Int))+(Q2:Int))+(Q3:Int)) - (H4:Int)) ((((((0+(Q0:Int))+(Q1:Int))+(Q2:Int))+(Q3:Int))+(Q4:Int)) - (H5:Int)) sz tk v):=by
    intro v
    unfold law_A_sd
    refine AllP.cons ?_ ?_
    · exact leq_ok (rows:=[⟨(v 91 0),(v 28 0),ln A1 0,ln H1 N1,sAdd (sMul z10 ((0+(P0:Int)) - ((0+(P0:Int)) - (A1:Int)))) z67,sAdd (sAdd (sMul z10 ((0+(Q0:Int)) - ((0+(Q0:Int)) - (H1:Int)))) z67) (sMul z10 ((((0+(P0:Int)) - (A1:Int)) - ((((0+(P0:Int)) - (A1:Int))+(0+(Q0:Int))) - ((H1:Int)+(N1:Int))))+((0+(Q0:Int)) - (H1:Int))))⟩,⟨(v 97 0),(v 40 0),ln A2 0,ln H2 N2,sAdd (sMul z10 (((0+(P0:Int))+(P1:Int)) - (((0+(P0:Int))+(P1:Int)) - (A2:Int)))) z67,sAdd (sAdd (sMul z10 (((0+(Q0:Int))+(Q1:Int)) - (((0+(Q0:Int))+(Q1:Int)) - (H2:Int)))) z67) (sMul z10 (((((0+(P0:Int))+(P1:Int)) - (A2:Int)) - (((((0+(P0:Int))+(P1:Int)) - (A2:Int))+((0+(Q0:Int))+(Q1:Int))) - ((H2:Int)+(N2:Int))))+(((0+(Q0:Int))+(Q1:Int)) - (H2:Int))))⟩,⟨(v 103 0),(v 52 0),ln A3 0,ln H3 N3,sAdd (sMul z10 ((((0+(P0:Int))+(P1:Int))+(P2:Int)) - ((((0+(P0:Int))+(P1:Int))+(P2:Int)) - (A3:Int)))) z67,sAdd (sAdd (sMul z10 ((((0+(Q0:Int))+(Q1:Int))+(Q2:Int)) - ((((0+(Q0:Int))+(Q1:Int))+(Q2:Int)) - (H3:Int)))) z67) (sMul z10 ((((((0+(P0:Int))+(P1:Int))+(P2:Int)) - (A3:Int)) - ((((((0+(P0:Int))+(P1:Int))+(P2:Int)) - (A3:Int))+(((0+(Q0:Int))+(Q1:Int))+(Q2:Int))) - ((H3:Int)+(N3:Int))))+((((0+(Q0:Int))+(Q1:Int))+(Q2:Int)) - (H3:Int))))⟩,⟨(v 109 0),(v 64 0),ln A4 0,ln H4 N4,sAdd (sMul z10 (((((0+(P0:Int))+(P1:Int))+(P2:Int))+(P3:Int)) - (((((0+(P0:Int))+(P1:Int))+(P2:Int))+(P3:Int)) - (A4:Int)))) z67,sAdd (sAdd (sMul z10 (((((0+(Q0:Int))+(Q1:Int))+(Q2:Int))+(Q3:Int)) - (((((0+(Q0:Int))+(Q1:Int))+(Q2:Int))+(Q3:Int)) - (H4:Int)))) z67) (sMul z10 (((((((0+(P0:Int))+(P1:Int))+(P2:Int))+(P3:Int)) - (A4:Int)) - (((((((0+(P0:Int))+(P1:Int))+(P2:Int))+(P3:Int)) - (A4:Int))+((((0+(Q0:Int))+(Q1:Int))+(Q2:Int))+(Q3:Int))) - ((H4:Int)+(N4:Int))))+(((((0+(Q0:Int))+(Q1:Int))+(Q2:Int))+(Q3:Int)) - (H4:Int))))⟩,⟨(v 115 0),(v 76 0),ln A5 0,ln H5 N5,sAdd (sMul z10 ((((((0+(P0:Int))+(P1:Int))+(P2:Int))+(P3:Int))+(P4:Int)) - ((((((0+(P0:Int))+(P1:Int))+(P2:Int))+(P3:Int))+(P4:Int)) - (A5:Int)))) z67,sAdd (sAdd (sMul z10 ((((((0+(Q0:Int))+(Q1:Int))+(Q2:Int))+(Q3:Int))+(Q4:Int)) - ((((((0+(Q0:Int))+(Q1:Int))+(Q2:Int))+(Q3:Int))+(Q4:Int)) - (H5:Int)))) z67) (sMul z10 ((((((((0+(P0:Int))+(P1:Int))+(P2:Int))+(P3:Int))+(P4:Int)) - (A5:Int)) - ((((((((0+(P0:Int))+(P1:Int))+(P2:Int))+(P3:Int))+(P4:Int)) - (A5:Int))+(((((0+(Q0:Int))+(Q1:Int))+(Q2:Int))+(Q3:Int))+(Q4:Int))) - ((H5:Int)+(N5:Int))))+((((((0+(Q0:Int))+(Q1:Int))+(Q2:Int))+(Q3:Int))+(Q4:Int)) - (H5:Int))))⟩]) (by decide) (List.forall_mem_cons.mpr ⟨⟨(f_eq1 (fe1 _ _)).symm,(f_eq2 (fe1 _ _) (fe2 _ _ _ _)).symm⟩,List.forall_mem_cons.mpr ⟨⟨(f_eq1 (fe1 _ _)).symm,(f_eq2 (fe1 _ _) (fe2 _ _ _ _)).symm⟩,List.forall_mem_cons.mpr ⟨⟨(f_eq1 (fe1 _ _)).symm,(f_eq2 (fe1 _ _) (fe2 _ _ _ _)).symm⟩,List.forall_mem_cons.mpr ⟨⟨(f_eq1 (fe1 _ _)).symm,(f_eq2 (fe1 _ _) (fe2 _ _ _ _)).symm⟩,List.forall_mem_cons.mpr ⟨⟨(f_eq1 (fe1 _ _)).symm,(f_eq2 (fe1 _ _) (fe2 _ _ _ _)).symm⟩,fun _ h=>absurd h (List.not_mem_nil)⟩⟩⟩⟩⟩) (.tail _ (.tail _ (.tail _ (.tail _ (.tail _ (.tail _ (.tail _ (.tail _ (.tail _ (.tail _ (.tail _ (.head _)))))))))))) (.tail _ (.tail _ (.tail _ (.tail _ (.tail _ (.head _)))))) (List.forall_mem_cons.mpr ⟨⟨(.tail _ (.tail _ (.tail _ (.tail _ (.tail _ (.tail _ (.tail _ (.tail _ (.tail _ (.tail _ (.head _))))))))))),(.tail _ (.tail _ (.tail _ (.tail _ (.head _)))))⟩,List.forall_mem_cons.mpr ⟨⟨(.tail _ (.tail _ (.tail _ (.tail _ (.tail _ (.tail _ (.tail _ (.tail _ (.tail _ (.head _)))))))))),(.tail _ (.tail _ (.tail _ (.head _))))⟩,List.forall_mem_cons.mpr ⟨⟨(.tail _ (.tail _ (.tail _ (.tail _ (.tail _ (.tail _ (.tail _ (.tail _ (.head _))))))))),(.tail _ (.tail _ (.head _)))⟩,List.forall_mem_cons.mpr ⟨⟨(.tail _ (.tail _ (.tail _ (.tail _ (.tail _ (.tail _ (.tail _ (.head _)))))))),(.tail _ (.head _))⟩,List.forall_mem_cons.mpr ⟨⟨(.tail _ (.tail _ (.tail _ (.tail _ (.tail _ (.tail _ (.head _))))))),(.head _)⟩,fun _ h=>absurd h (List.not_mem_nil)⟩⟩⟩⟩⟩)
    refine AllP.cons ?_ ?_
    · exact f_add2 (le3 dN5) (le1 dH5)
    refine AllP.cons ?_ ?_
    · exact mul_f3 dN5
    refine AllP.cons ?_ ?_
    · exact f_add1 (le1 dH5)
    refine AllP.cons ?_ ?_
    · exact mul_f1 dH5
    refine AllP.cons ?_ ?_
    · exact f_add1 (le1 dA5)
    refine AllP.cons ?_ ?_
    · exact mul_f1 dA5
    refine AllP.cons ?_ ?_
    · exact f_add2 (le3 dN4) (le1 dH4)
    refine AllP.cons ?_ ?_
    · exact mul_f3 dN4
    refine AllP.cons ?_ ?_
    · exact f_add1 (le1 dH4)
    refine AllP.cons ?_ ?_
    · exact mul_f1 dH4
    refine AllP.cons ?_ ?_
    · exact f_add1 (le1 dA4)
    refine AllP.cons ?_ ?_
    · exact mul_f1 dA4
    refine AllP.cons ?_ ?_
    · exact f_add2 (le3 dN3) (le1 dH3)
    refine AllP.cons ?_ ?_
    · exact mul_f3 dN3
    refine AllP.cons ?_ ?_
    · exact f_add1 (le1 dH3)
    refine AllP.cons ?_ ?_
    · exact mul_f1 dH3
    refine AllP.cons ?_ ?_
    · exact f_add1 (le1 dA3)
    refine AllP.cons ?_ ?_
    · exact mul_f1 dA3
    refine AllP.cons ?_ ?_
    · exact f_add2 (le3 dN2) (le1 dH2)
    refine AllP.cons ?_ ?_
    · exact mul_f3 dN2
    refine AllP.cons ?_ ?_
    · exact f_add1 (le1 dH2)
    refine AllP.cons ?_ ?_
    · exact mul_f1 dH2
    refine AllP.cons ?_ ?_
    · exact f_add1 (le1 dA2)
    refine AllP.cons ?_ ?_
    · exact mul_f1 dA2
    refine AllP.cons ?_ ?_
    · exact f_add2 (le3 dN1) (le1 dH1)
    refine AllP.cons ?_ ?_
    · exact mul_f3 dN1
    refine AllP.cons ?_ ?_
    · exact f_add1 (le1 dH1)
    refine AllP.cons ?_ ?_
    · exact mul_f1 dH1
    refine AllP.cons ?_ ?_
    · exact f_add1 (le1 dA1)
    refine AllP.cons ?_ ?_
    · exact mul_f1 dA1
    refine AllP.cons ?_ ?_
    · exact CallN.swap (fun _=>rfl) (lo_okE rfl (lo_s0 hu0 hH1) (lo_s hu1 hH2) (lo_s hu1 hH3) (lo_s hu1 hH4) (lo_s hu1 hH5))
    refine AllP.cons ?_ ?_
    · exact lo_okE rfl (lo_o0 hu0 cA1 hH1 hN1) (lo_o hu1 cA2 hH2 hN2) (lo_o hu1 cA3 hH3 hN3) (lo_o hu1 cA4 hH4 hN4) (lo_o hu1 cA5 hH5 hN5)
    refine AllP.cons ?_ ?_
    · exact comp_own rfl _ _ _ _ _
    refine AllP.cons ?_ ?_
    · exact comp_own rfl _ _ _ _ _
    refine AllP.cons ?_ ?_
    · exact comp_own rfl _ _ _ _ _
    refine AllP.cons ?_ ?_
    · exact comp_own rfl _ _ _ _ _
    refine AllP.cons ?_ ?_
    · exact comp_own rfl _ _ _ _ _
    refine AllP.cons ?_ ?_
    · exact comp_own rfl _ _ _ _ _
    refine AllP.cons ?_ ?_
    · exact CallN.swap (fun _=>rfl) (lo_okE rfl (lo_s0 hs0 hA1) (lo_s hs1 hA2) (lo_s hs1 hA3) (lo_s hs1 hA4) (lo_s hs1 hA5))
    refine AllP.cons ?_ ?_
    · exact h_sp2 (H:=H4) (N:=N4) (A:=A4) hu1 cA5 hH5 hN5 (bd4 bQ4 dH4 dN4 bP4 dA4)
    refine AllP.cons ?_ ?_
    · exact h_add2 (H:=H4) (N:=N4) (A:=A4) (bd2 bP4 dA4) cA5 (bd3 bQ4 dH4 dN4)
    refine AllP.cons ?_ ?_
    · exact h_mul2 (A:=A4) (bd2 bP4 dA4) cA5
    refine AllP.cons ?_ ?_
    · exact len_line (a:=A5) (b:=0) rfl (bd0 dA5)
    refine AllP.cons ?_ ?_
    · exact h_len1 (A:=A4) (bd2 bP4 dA4)
    refine AllP.cons ?_ ?_
    · exact h_add1 (P:=Q4) (A:=H4) (b:=N4) (bd3 bQ4 dH4 dN4)
    refine AllP.cons ?_ ?_
    · exact h_mul (bd1 bQ4)
    refine AllP.cons ?_ ?_
    · exact h_sp1 (A:=A4) hs1 hA5 (bd2 bP4 dA4)
    refine AllP.cons ?_ ?_
    · exact h_add1 (P:=P4) (A:=A4) (b:=0) (bd3 bP4 dA4 (Nat.zero_le _))
    refine AllP.cons ?_ ?_
    · exact h_mul (bd1 bP4)
    refine AllP.cons ?_ ?_
    · exact lgH hv4
    refine AllP.cons ?_ ?_
    · exact h_sp2 (H:=H3) (N:=N3) (A:=A3) hu1 cA4 hH4 hN4 (bd4 bQ3 dH3 dN3 bP3 dA3)
    refine AllP.cons ?_ ?_
    · exact h_add2 (H:=H3) (N:=N3) (A:=A3) (bd2 bP3 dA3) cA4 (bd3 bQ3 dH3 dN3)
    refine AllP.cons ?_ ?_
    · exact h_mul2 (A:=A3) (bd2 bP3 dA3) cA4
    refine AllP.cons ?_ ?_
    · exact len_line (a:=A4) (b:=0) rfl (bd0 dA4)
    refine AllP.cons ?_ ?_
    · exact h_len1 (A:=A3) (bd2 bP3 dA3)
    refine AllP.cons ?_ ?_
    · exact h_add1 (P:=Q3) (A:=H3) (b:=N3) (bd3 bQ3 dH3 dN3)
    refine AllP.cons ?_ ?_
    · exact h_mul (bd1 bQ3)
    refine AllP.cons ?_ ?_
    · exact h_sp1 (A:=A3) hs1 hA4 (bd2 bP3 dA3)
    refine AllP.cons ?_ ?_
    · exact h_add1 (P:=P3) (A:=A3) (b:=0) (bd3 bP3 dA3 (Nat.zero_le _))
    refine AllP.cons ?_ ?_
    · exact h_mul (bd1 bP3)
    refine AllP.cons ?_ ?_
    · exact lgH hv3
    refine AllP.cons ?_ ?_
    · exact h_sp2 (H:=H2) (N:=N2) (A:=A2) hu1 cA3 hH3 hN3 (bd4 bQ2 dH2 dN2 bP2 dA2)
    refine AllP.cons ?_ ?_
    · exact h_add2 (H:=H2) (N:=N2) (A:=A2) (bd2 bP2 dA2) cA3 (bd3 bQ2 dH2 dN2)
    refine AllP.cons ?_ ?_
    · exact h_mul2 (A:=A2) (bd2 bP2 dA2) cA3
    refine AllP.cons ?_ ?_
    · exact len_line (a:=A3) (b:=0) rfl (bd0 dA3)
    refine AllP.cons ?_ ?_
    · exact h_len1 (A:=A2) (bd2 bP2 dA2)
    refine AllP.cons ?_ ?_
    · exact h_add1 (P:=Q2) (A:=H2) (b:=N2) (bd3 bQ2 dH2 dN2)
    refine AllP.cons ?_ ?_
    · exact h_mul (bd1 bQ2)
    refine AllP.cons ?_ ?_
    · exact h_sp1 (A:=A2) hs1 hA3 (bd2 bP2 dA2)
    refine AllP.cons ?_ ?_
    · exact h_add1 (P:=P2) (A:=A2) (b:=0) (bd3 bP2 dA2 (Nat.zero_le _))
    refine AllP.cons ?_ ?_
    · exact h_mul (bd1 bP2)
    refine AllP.cons ?_ ?_
    · exact lgH hv2
    refine AllP.cons ?_ ?_
    · exact h_sp2 (H:=H1) (N:=N1) (A:=A1) hu1 cA2 hH2 hN2 (bd4 bQ1 dH1 dN1 bP1 dA1)
    refine AllP.cons ?_ ?_
    · exact h_add2 (H:=H1) (N:=N1) (A:=A1) (bd2 bP1 dA1) cA2 (bd3 bQ1 dH1 dN1)
    refine AllP.cons ?_ ?_
    · exact h_mul2 (A:=A1) (bd2 bP1 dA1) cA2
    refine AllP.cons ?_ ?_
    · exact len_line (a:=A2) (b:=0) rfl (bd0 dA2)
    refine AllP.cons ?_ ?_
    · exact h_len1 (A:=A1) (bd2 bP1 dA1)
    refine AllP.cons ?_ ?_
    · exact h_add1 (P:=Q1) (A:=H1) (b:=N1) (bd3 bQ1 dH1 dN1)
    refine AllP.cons ?_ ?_
    · exact h_mul (bd1 bQ1)
    refine AllP.cons ?_ ?_
    · exact h_sp1 (A:=A1) hs1 hA2 (bd2 bP1 dA1)
    refine AllP.cons ?_ ?_
    · exact h_add1 (P:=P1) (A:=A1) (b:=0) (bd3 bP1 dA1 (Nat.zero_le _))
    refine AllP.cons ?_ ?_
    · exact h_mul (bd1 bP1)
    refine AllP.cons ?_ ?_
    · exact lgH hv1
    refine AllP.cons ?_ ?_
    · exact ev_no0 hu1 bu1.1
    refine AllP.cons ?_ ?_
    · exact ev_no127 hu1 bu1.2
    refine AllP.cons ?_ ?_
    · exact ev_no0 hs1 bs1.1
    refine AllP.cons ?_ ?_
    · exact ev_no127 hs1 bs1.2
    refine AllP.cons ?_ ?_
    · exact h_sp2 (H:=0) (N:=0) (A:=0) hu0 cA1 hH1 hN1 (bd4 bQ0 (Nat.zero_le _) (Nat.zero_le _) bP0 (Nat.zero_le _))
    refine AllP.cons ?_ ?_
    · exact h_add2 (H:=0) (N:=0) (A:=0) (bd2 bP0 (Nat.zero_le _)) cA1 (bd3 bQ0 (Nat.zero_le _) (Nat.zero_le _))
    refine AllP.cons ?_ ?_
    · exact h_mul2 (A:=0) (bd2 bP0 (Nat.zero_le _)) cA1
    refine AllP.cons ?_ ?_
    · exact len_line (a:=A1) (b:=0) rfl (bd0 dA1)
    refine AllP.cons ?_ ?_
    · exact h_len1 (A:=0) (bd2 bP0 (Nat.zero_le _))
    refine AllP.cons ?_ ?_
    · exact h_add1 (P:=Q0) (A:=0) (b:=0) (bd3 bQ0 (Nat.zero_le _) (Nat.zero_le _))
    refine AllP.cons ?_ ?_
    · exact h_mul (bd1 bQ0)
    refine AllP.cons ?_ ?_
    · exact h_sp1 (A:=0) hs0 hA1 (bd2 bP0 (Nat.zero_le _))
    refine AllP.cons ?_ ?_
    · exact h_add1 (P:=P0) (A:=0) (b:=0) (bd3 bP0 (Nat.zero_le _) (Nat.zero_le _))
    refine AllP.cons ?_ ?_
    · exact h_mul (bd1 bP0)
    refine AllP.cons ?_ ?_
    · exact lgH hv0
    refine AllP.cons ?_ ?_
    · exact ev_no0 hu0 bu0.1
    refine AllP.cons ?_ ?_
    · exact ev_no127 hu0 bu0.2
    refine AllP.cons ?_ ?_
    · exact ev_no0 hs0 bs0.1
    refine AllP.cons ?_ ?_
    · exact ev_no127 hs0 bs0.2
    refine AllP.cons ?_ ?_
    · exact fnV1 hv4.1 hv4.2.1 hv4.2.2.1 hv4.2.2.2.1 hv4.2.2.2.2
    refine AllP.cons ?_ ?_
    · exact ev_ediv (by decide) (by decide)
    refine AllP.cons ?_ ?_
    · exact ev_ediv (by decide) (by decide)
    refine AllP.cons ?_ ?_
    · exact suml_slice
    refine AllP.cons ?_ ?_
    · exact by rw [hvs]; exact lslice_ok (k:=4) (Nat.le_trans hl (by decide))
    refine AllP.cons ?_ ?_
    · exact fnV1 hv3.1 hv3.2.1 hv3.2.2.1 hv3.2.2.2.1 hv3.2.2.2.2
    refine AllP.cons ?_ ?_
    · exact ev_ediv (by decide) (by decide)
    refine AllP.cons ?_ ?_
    · exact ev_ediv (by decide) (by decide)
    refine AllP.cons ?_ ?_
    · exact suml_slice
    refine AllP.cons ?_ ?_
    · exact by rw [hvs]; exact lslice_ok (k:=3) (Nat.le_trans hl (by decide))
    refine AllP.cons ?_ ?_
    · exact fnV1 hv2.1 hv2.2.1 hv2.2.2.1 hv2.2.2.2.1 hv2.2.2.2.2
    refine AllP.cons ?_ ?_
    · exact ev_ediv (by decide) (by decide)
    refine AllP.cons ?_ ?_
    · exact ev_ediv (by decide) (by decide)
    refine AllP.cons ?_ ?_
    · exact suml_slice
    refine AllP.cons ?_ ?_
    · exact by rw [hvs]; exact lslice_ok (k:=2) (Nat.le_trans hl (by decide))
    refine AllP.cons ?_ ?_
    · exact fnV1 hv1.1 hv1.2.1 hv1.2.2.1 hv1.2.2.2.1 hv1.2.2.2.2
    refine AllP.cons ?_ ?_
    · exact ev_ediv (by decide) (by decide)
    refine AllP.cons ?_ ?_
    · exact ev_ediv (by decide) (by decide)
    refine AllP.cons ?_ ?_
    · exact suml_slice
    refine AllP.cons ?_ ?_
    · exact by rw [hvs]; exact lslice_ok (k:=1) (Nat.le_trans hl (by decide))
    refine AllP.cons ?_ ?_
    · exact fnV0 hv0.1 hv0.2.1 hv0.2.2.1 hv0.2.2.2.1 hv0.2.2.2.2
    refine AllP.cons ?_ ?_
    · exact ev_ediv (by decide) (by decide)
    refine AllP.cons ?_ ?_
    · exact ev_ediv (by decide) (by decide)
    refine AllP.cons ?_ ?_
    · exact suml_slice
    refine AllP.cons ?_ ?_
    · exact by rw [hvs]; exact lslice_ok (k:=0) (Nat.le_trans hl (by decide))
    refine AllP.cons ?_ ?_
    · exact by rw [hidx]; exact getI_ok (k:=0) rfl (by decide)
    refine AllP.cons ?_ ?_
    · exact ev_ediv (by decide) (by decide)
    refine AllP.cons ?_ ?_
    · exact ev_ediv (by decide) (by decide)
    refine AllP.cons ?_ ?_
    · exact ev_ediv (by decide) (by decide)
    refine AllP.cons ?_ ?_
    · exact ev_ediv (by decide) (by decide)
    refine AllP.cons ?_ ?_
    · exact ev_ediv (by decide) (by decide)
    refine AllP.cons ?_ ?_
    · exact by rw [hvs]; exact suml_ok ns
    exact AllP.nil
  cases b2 with
  | false =>
    refine (law_A (b2:=false) (pos0:=pos) (qa0:=qa) (qq0:=pq) (gn:=gn) (t0:=0) (t1:=0) (t2:=0) (t3:=0) (t4:=0) (t5:=0) (M:=M) (G:=G) (O:=O) (hs:=told)).monoE fun v=>?_
    exact ⟨fun i=>match i with | 0=>(v 116 0) | 1=>(v 116 1) | _=>(v 116 2),_,_,rfl⟩
  | true =>
    refine (law_B (b2:=false) (pos0:=pos) (qa0:=qa) (qq0:=pq) (gn:=gn) (t0:=0) (t1:=0) (t2:=0) (t3:=0) (t4:=0) (t5:=0) (M:=M) (G:=G) (O:=O) (hs:=told)).monoE fun v=>?_
    exact ⟨fun i=>match i with | 0=>(v 116 0) | 1=>(v 116 1) | _=>(v 116 2),_,_,rfl⟩
theorem law_C_ok {ns:List Int} (hl:ns.length ≤ 63) {sl sn:Nat} (hidx:Int.ediv (Int.fmod (Int.ediv (Int.fmod (ns.sum+17) 1000000) 144) 3) 2 = 1):CallN (view w b2 h0 B bw d os) [7] (.call (.ref 123) ⟨[.ref sl],[]⟩) [(sl,listO (ns.map fun i=>Value.int i 0) sn)] [] (fun v=>⟨none,[],.ok (.ret (.bool true))⟩):=by
  intro bw' c R sz tk gn hk hc hR pos V' u M G
  obtain ⟨B',rfl,O⟩:=under_view u
  obtain ⟨v,rfl,hv⟩:=norm_call1 hc
  obtain rfl:=noTok_ref hv
  obtain ⟨o,rfl,ho⟩:=norm_one hR
  obtain ⟨vs,rfl,hvs⟩:=norm_list ho
  obtain ⟨c1,pq,r1,rfl,k1,hk⟩:=ks_cons hk
  obtain rfl:=ks_nil hk
  obtain ⟨qa,rfl⟩:=shp_caller k1
  rw [← den_eq]
  obtain ⟨s0,hs0,bs0⟩:=capS (Int.fmod (ns.sum+17) 1000000) (m:=3) (by decide) (by decide)
  obtain ⟨s1,hs1,bs1⟩:=capS (Int.ediv (Int.fmod (ns.sum+17) 1000000) 3) (m:=4) (by decide) (by decide)
  obtain ⟨u0,hu0,bu0⟩:=capS (Int.ediv (Int.fmod (ns.sum+17) 1000000) 12) (m:=4) (by decide) (by decide)
  obtain ⟨u1,hu1,bu1⟩:=capS (Int.ediv (Int.fmod (ns.sum+17) 1000000) 48) (m:=3) (by decide) (by decide)
  obtain ⟨P0,Q0,T0,R0,hv0,bP0,bQ0⟩:=hourV (726+((ns.drop 0).take 1).sum)
  obtain ⟨P1,Q1,T1,R1,hv1,bP1,bQ1⟩:=hourV (5349+((ns.drop 1).take 1).sum)
  obtain ⟨P2,Q2,T2,R2,hv2,bP2,bQ2⟩:=hourV (264+((ns.drop 2).take 1).sum)
  obtain ⟨P3,Q3,T3,R3,hv3,bP3,bQ3⟩:=hourV (1108+((ns.drop 3).take 1).sum)
  obtain ⟨P4,Q4,T4,R4,hv4,bP4,bQ4⟩:=hourV (38+((ns.drop 4).take 1).sum)
  obtain ⟨A1,hA1⟩:=IsSub.mk (P0+0) s0
  have cA1:=hA1.le
  obtain ⟨H1,hH1⟩:=IsSub.mk (Q0+0) u0
  have bA1:A1 ≤ 12:=grow cA1 bP0 (Nat.le_refl 0)
  have dA1:=to60 bA1 (by decide)
  have bH1:H1 ≤ 12:=grow hH1.le bQ0 (Nat.le_refl 0)
  have dH1:=to60 bH1 (by decide)
  obtain ⟨N1,hN1⟩:=IsSub.mk (0+(P0+0 - A1)) (u0 - (Q0+0))
  have sN1:N1+A1 ≤ 12:=grow2 (IsSub.sum cA1 hN1) bP0 (Nat.le_refl 0)
  have dN1:=to60N sN1 (by decide)
  obtain ⟨A2,hA2⟩:=IsSub.mk (P1+A1) s1
  have cA2:=hA2.le
  obtain ⟨H2,hH2⟩:=IsSub.mk (Q1+H1) u1
  have bA2:A2 ≤ 24:=grow cA2 bP1 bA1
  have dA2:=to60 bA2 (by decide)
  have bH2:H2 ≤ 24:=grow hH2.le bQ1 bH1
  have dH2:=to60 bH2 (by decide)
  obtain ⟨N2,hN2⟩:=IsSub.mk (N1+(P1+A1 - A2)) (u1 - (Q1+H1))
  have sN2:N2+A2 ≤ 24:=grow2 (IsSub.sum cA2 hN2) bP1 sN1
  have dN2:=to60N sN2 (by decide)
  obtain ⟨A3,hA3⟩:=IsSub.mk (P2+A2) s1
  have cA3:=hA3.le
  obtain ⟨H3,hH3⟩:=IsSub.mk (Q2+H2) u1
  have bA3:A3 ≤ 36:=grow cA3 bP2 bA2
  have dA3:=to60 bA3 (by decide)
  have bH3:H3 ≤ 36:=grow hH3.le bQ2 bH2
  have dH3:=to60 bH3 (by decide)
  obtain ⟨N3,hN3⟩:=IsSub.mk (N2+(P2+A2 - A3)) (u1 - (Q2+H2))
  have sN3:N3+A3 ≤ 36:=grow2 (IsSub.sum cA3 hN3) bP2 sN2
  have dN3:=to60N sN3 (by decide)
  obtain ⟨A4,hA4⟩:=IsSub.mk (P3+A3) s1
  have cA4:=hA4.le
  obtain ⟨H4,hH4⟩:=IsSub.mk (Q3+H3) u1
  have bA4:A4 ≤ 48:=grow cA4 bP3 bA3
  have dA4:=to60 bA4 (by decide)
  have bH4:H4 ≤ 48:=grow hH4.le bQ3 bH3
  have dH4:=to60 bH4 (by decide)
  obtain ⟨N4,hN4⟩:=IsSub.mk (N3+(P3+A3 - A4)) (u1 - (Q3+H3))
  have sN4:N4+A4 ≤ 48:=grow2 (IsSub.sum cA4 hN4) bP3 sN3
  have dN4:=to60N sN4 (by decide)
  obtain ⟨A5,hA5⟩:=IsSub.mk (P4+A4) s1
  have cA5:=hA5.le
  obtain ⟨H5,hH5⟩:=IsSub.mk (Q4+H4) u1
  have bA5:A5 ≤ 60:=grow cA5 bP4 bA4
  have dA5:=to60 bA5 (by decide)
  have bH5:H5 ≤ 60:=grow hH5.le bQ4 bH4
  have dH5:=to60 bH5 (by decide)
  obtain ⟨N5,hN5⟩:=IsSub.mk (N4+(P4+A4 - A5)) (u1 - (Q4+H4))
  have sN5:N5+A5 ≤ 60:=grow2 (IsSub.sum cA5 hN5) bP4 sN4
  have dN5:=to60N sN5 (by decide)
  have told:∀ v,AllP (law_C_sd (view w b2 h0 B' [(.builtin "claim.caller" qa,pq)] d os) w sl vs sn ns.sum (fun v=>((ns.drop 0).take 1).map fun i=>Value.int i (v 4)) 0 ((ns.drop 0).take 1).sum (fun u=>.int (Int.ediv (Int.fmod (726+((ns.drop 0).take 1).sum) 5832) 324) (u 10)) (fun u=>.int (kN (nC (Int.fmod (726+((ns.drop 0).take 1).sum) 5832)):Nat) (u 12)) (fun u=>.int (o1 (kN (nC (Int.fmod (726+((ns.drop 0).take 1).sum) 5832))) (oN (nC (Int.fmod (726+((ns.drop 0).take 1).sum) 5832))):Nat) (u 11)) (P0:Int) (Q0:Int) R0 T0 (fun v=>((ns.drop 1).take 1).map fun i=>Value.int i (v 4)) 0 ((ns.drop 1).take 1).sum (fun u=>.int (Int.ediv (Int.fmod (5349+((ns.drop 1).take 1).sum) 5832) 324) (u 7)) (fun u=>.int (kN (nC (Int.fmod (5349+((ns.drop 1).take 1).sum) 5832)):Nat) (u 9)) (fun u=>.int (o1 (kN (nC (Int.fmod (5349+((ns.drop 1).take 1).sum) 5832))) (oN (nC (Int.fmod (5349+((ns.drop 1).take 1).sum) 5832))):Nat) (u 8)) (P1:Int) (Q1:Int) R1 T1 (fun v=>((ns.drop 2).take 1).map fun i=>Value.int i (v 4)) 0 ((ns.drop 2).take 1).sum (fun u=>.int (Int.ediv (Int.fmod (264+((ns.drop 2).take 1).sum) 5832) 324) (u 7)) (fun u=>.int (kN (nC (Int.fmod (264+((ns.drop 2).take 1).sum) 5832)):Nat) (u 9)) (fun u=>.int (o1 (kN (nC (Int.fmod (264+((ns.drop 2).take 1).sum) 5832))) (oN (nC (Int.fmod (264+((ns.drop 2).take 1).sum) 5832))):Nat) (u 8)) (P2:Int) (Q2:Int) R2 T2 (fun v=>((ns.drop 3).take 1).map fun i=>Value.int i (v 4)) 0 ((ns.drop 3).take 1).sum (fun u=>.int (Int.ediv (Int.fmod (1108+((ns.drop 3).take 1).sum) 5832) 324) (u 7)) (fun u=>.int (kN (nC (Int.fmod (1108+((ns.drop 3).take 1).sum) 5832)):Nat) (u 9)) (fun u=>.int (o1 (kN (nC (Int.fmod (1108+((ns.drop 3).take 1).sum) 5832))) (oN (nC (Int.fmod (1108+((ns.drop 3).take 1).sum) 5832))):Nat) (u 8)) (P3:Int) (Q3:Int) R3 T3 (fun v=>((ns.drop 4).take 1).map fun i=>Value.int i (v 4)) 0 ((ns.drop 4).take 1).sum (fun u=>.int (Int.ediv (Int.fmod (38+((ns.drop 4).take 1).sum) 5832) 324) (u 7)) (fun u=>.int (kN (nC (Int.fmod (38+((ns.drop 4).take 1).sum) 5832)):Nat) (u 9)) (fun u=>.int (o1 (kN (nC (Int.fmod (38+((ns.drop 4).take 1).sum) 5832))) (oN (nC (Int.fmod (38+((ns.drop 4).take 1).sum) 5832))):Nat) (u 8)) (P4:Int) (Q4:Int) R4 T4 (P0:Int) (Q0:Int) (ln A1 0) (ln H1 N1) (P1:Int) (Q1:Int) (ln A2 0) (ln H2 N2) 0 ((0+(P0:Int)) - (A1:Int)) (((0+(P0:Int))+(P1:Int)) - (A2:Int)) ((((0+(P0:Int))+(P1:Int))+(P2:Int)) - (A3:Int)) (((((0+(P0:Int))+(P1:Int))+(P2:Int))+(P3:Int)) - (A4:Int)) ((((((0+(P0:Int))+(P1:Int))+(P2:Int))+(P3:Int))+(P4:Int)) - (A5:Int)) 0 ((((0+(P0:Int)) - (A1:Int))+(0+(Q0:Int))) - ((H1:Int)+(N1:Int))) (((((0+(P0:Int))+(P1:Int)) - (A2:Int))+((0+(Q0:Int))+(Q1:Int))) - ((H2:Int)+(N2:Int))) ((((((0+(P0:Int))+(P1:Int))+(P2:Int)) - (A3:Int))+(((0+(Q0:Int))+(Q1:Int))+(Q2:Int))) - ((H3:Int)+(N3:Int))) (((((((0+(P0:Int))+(P1:Int))+(P2:Int))+(P3:Int)) - (A4:Int))+((((0+(Q0:Int))+(Q1:Int))+(Q2:Int))+(Q3:Int))) - ((H4:Int)+(N4:Int))) ((((((((0+(P0:Int))+(P1:Int))+(P2:Int))+(P3:Int))+(P4:Int)) - (A5:Int))+(((((0+(Q0:Int))+(Q1:Int))+(Q2:Int))+(Q3:Int))+(Q4:Int))) - ((H5:Int)+(N5:Int))) 0 ((0+(Q0:Int)) - (H1:Int)) (((0+(Q0:Int))+(Q1:Int)) - (H2:Int)) ((((0+(Q0:Int))+(Q1:Int))+(Q2:Int)) - (H3:Int)) (((((0+(Q0:Int))+(Q1:Int))+(Q2:Int))+(Q3:Int)) - (H4:Int)) ((((((0+(Q0:Int))+(Q1:Int))+(Q2:Int))+(Q3:Int))+(Q4:Int)) - (H5:Int)) sz tk v):=by
    intro v
    unfold law_C_sd
    refine AllP.cons ?_ ?_
    · exact leq_ok (rows:=[⟨(v 55 0),(v 28 0),ln A1 0,ln H1 N1,sAdd (sMul z10 ((0+(P0:Int)) - ((0+(P0:Int)) - (A1:Int)))) z67,sAdd (sAdd (sMul z10 ((0+(Q0:Int)) - ((0+(Q0:Int)) - (H1:Int)))) z67) (sMul z10 ((((0+(P0:Int)) - (A1:Int)) - ((((0+(P0:Int)) - (A1:Int))+(0+(Q0:Int))) - ((H1:Int)+(N1:Int))))+((0+(Q0:Int)) - (H1:Int))))⟩,⟨(v 61 0),(v 40 0),ln A2 0,ln H2 N2,sAdd (sMul z10 (((0+(P0:Int))+(P1:Int)) - (((0+(P0:Int))+(P1:Int)) - (A2:Int)))) z67,sAdd (sAdd (sMul z10 (((0+(Q0:Int))+(Q1:Int)) - (((0+(Q0:Int))+(Q1:Int)) - (H2:Int)))) z67) (sMul z10 (((((0+(P0:Int))+(P1:Int)) - (A2:Int)) - (((((0+(P0:Int))+(P1:Int)) - (A2:Int))+((0+(Q0:Int))+(Q1:Int))) - ((H2:Int)+(N2:Int))))+(((0+(Q0:Int))+(Q1:Int)) - (H2:Int))))⟩]) (by decide) (List.forall_mem_cons.mpr ⟨⟨(f_eq1 (fe1 _ _)).symm,(f_eq2 (fe1 _ _) (fe2 _ _ _ _)).symm⟩,List.forall_mem_cons.mpr ⟨⟨(f_eq1 (fe1 _ _)).symm,(f_eq2 (fe1 _ _) (fe2 _ _ _ _)).symm⟩,fun _ h=>absurd h (List.not_mem_nil)⟩⟩) (.tail _ (.tail _ (.tail _ (.tail _ (.tail _ (.head _)))))) (.tail _ (.tail _ (.head _))) (List.forall_mem_cons.mpr ⟨⟨(.tail _ (.tail _ (.tail _ (.tail _ (.head _))))),(.tail _ (.head _))⟩,List.forall_mem_cons.mpr ⟨⟨(.tail _ (.tail _ (.tail _ (.head _)))),(.head _)⟩,fun _ h=>absurd h (List.not_mem_nil)⟩⟩)
    refine AllP.cons ?_ ?_
    · exact f_add2 (le3 dN2) (le1 dH2)
    refine AllP.cons ?_ ?_
    · exact mul_f3 dN2
    refine AllP.cons ?_ ?_
    · exact f_add1 (le1 dH2)
    refine AllP.cons ?_ ?_
    · exact mul_f1 dH2
    refine AllP.cons ?_ ?_
    · exact f_add1 (le1 dA2)
    refine AllP.cons ?_ ?_
    · exact mul_f1 dA2
    refine AllP.cons ?_ ?_
    · exact f_add2 (le3 dN1) (le1 dH1)
    refine AllP.cons ?_ ?_
    · exact mul_f3 dN1
    refine AllP.cons ?_ ?_
    · exact f_add1 (le1 dH1)
    refine AllP.cons ?_ ?_
    · exact mul_f1 dH1
    refine AllP.cons ?_ ?_
    · exact f_add1 (le1 dA1)
    refine AllP.cons ?_ ?_
    · exact mul_f1 dA1
    refine AllP.cons ?_ ?_
    · exact CallN.swap (fun _=>rfl) (lo_okE rfl (lo_s0 hu0 hH1) (lo_s hu1 hH2) (lo_s hu1 hH3) (lo_s hu1 hH4) (lo_s hu1 hH5))
    refine AllP.cons ?_ ?_
    · exact lo_okE rfl (lo_o0 hu0 cA1 hH1 hN1) (lo_o hu1 cA2 hH2 hN2) (lo_o hu1 cA3 hH3 hN3) (lo_o hu1 cA4 hH4 hN4) (lo_o hu1 cA5 hH5 hN5)
    refine AllP.cons ?_ ?_
    · exact comp_own rfl _ _ _ _ _
    refine AllP.cons ?_ ?_
    · exact comp_own rfl _ _ _ _ _
    refine AllP.cons ?_ ?_
    · exact comp_own rfl _ _ _ _ _
    refine AllP.cons ?_ ?_
    · exact comp_own rfl _ _ _ _ _
    refine AllP.cons ?_ ?_
    · exact comp_own rfl _ _ _ _ _
    refine AllP.cons ?_ ?_
    · exact comp_own rfl _ _ _ _ _
    refine AllP.cons ?_ ?_
    · exact CallN.swap (fun _=>rfl) (lo_okE rfl (lo_s0 hs0 hA1) (lo_s hs1 hA2) (lo_s hs1 hA3) (lo_s hs1 hA4) (lo_s hs1 hA5))
    refine AllP.cons ?_ ?_
    · exact h_sp2 (H:=H1) (N:=N1) (A:=A1) hu1 cA2 hH2 hN2 (bd4 bQ1 dH1 dN1 bP1 dA1)
    refine AllP.cons ?_ ?_
    · exact h_add2 (H:=H1) (N:=N1) (A:=A1) (bd2 bP1 dA1) cA2 (bd3 bQ1 dH1 dN1)
    refine AllP.cons ?_ ?_
    · exact h_mul2 (A:=A1) (bd2 bP1 dA1) cA2
    refine AllP.cons ?_ ?_
    · exact len_line (a:=A2) (b:=0) rfl (bd0 dA2)
    refine AllP.cons ?_ ?_
    · exact h_len1 (A:=A1) (bd2 bP1 dA1)
    refine AllP.cons ?_ ?_
    · exact h_add1 (P:=Q1) (A:=H1) (b:=N1) (bd3 bQ1 dH1 dN1)
    refine AllP.cons ?_ ?_
    · exact h_mul (bd1 bQ1)
    refine AllP.cons ?_ ?_
    · exact h_sp1 (A:=A1) hs1 hA2 (bd2 bP1 dA1)
    refine AllP.cons ?_ ?_
    · exact h_add1 (P:=P1) (A:=A1) (b:=0) (bd3 bP1 dA1 (Nat.zero_le _))
    refine AllP.cons ?_ ?_
    · exact h_mul (bd1 bP1)
    refine AllP.cons ?_ ?_
    · exact lgH hv1
    refine AllP.cons ?_ ?_
    · exact ev_no0 hu1 bu1.1
    refine AllP.cons ?_ ?_
    · exact ev_no127 hu1 bu1.2
    refine AllP.cons ?_ ?_
    · exact ev_no0 hs1 bs1.1
    refine AllP.cons ?_ ?_
    · exact ev_no127 hs1 bs1.2
    refine AllP.cons ?_ ?_
    · exact h_sp2 (H:=0) (N:=0) (A:=0) hu0 cA1 hH1 hN1 (bd4 bQ0 (Nat.zero_le _) (Nat.zero_le _) bP0 (Nat.zero_le _))
    refine AllP.cons ?_ ?_
    · exact h_add2 (H:=0) (N:=0) (A:=0) (bd2 bP0 (Nat.zero_le _)) cA1 (bd3 bQ0 (Nat.zero_le _) (Nat.zero_le _))
    refine AllP.cons ?_ ?_
    · exact h_mul2 (A:=0) (bd2 bP0 (Nat.zero_le _)) cA1
    refine AllP.cons ?_ ?_
    · exact len_line (a:=A1) (b:=0) rfl (bd0 dA1)
    refine AllP.cons ?_ ?_
    · exact h_len1 (A:=0) (bd2 bP0 (Nat.zero_le _))
    refine AllP.cons ?_ ?_
    · exact h_add1 (P:=Q0) (A:=0) (b:=0) (bd3 bQ0 (Nat.zero_le _) (Nat.zero_le _))
    refine AllP.cons ?_ ?_
    · exact h_mul (bd1 bQ0)
    refine AllP.cons ?_ ?_
    · exact h_sp1 (A:=0) hs0 hA1 (bd2 bP0 (Nat.zero_le _))
    refine AllP.cons ?_ ?_
    · exact h_add1 (P:=P0) (A:=0) (b:=0) (bd3 bP0 (Nat.zero_le _) (Nat.zero_le _))
    refine AllP.cons ?_ ?_
    · exact h_mul (bd1 bP0)
    refine AllP.cons ?_ ?_
    · exact lgH hv0
    refine AllP.cons ?_ ?_
    · exact ev_no0 hu0 bu0.1
    refine AllP.cons ?_ ?_
    · exact ev_no127 hu0 bu0.2
    refine AllP.cons ?_ ?_
    · exact ev_no0 hs0 bs0.1
    refine AllP.cons ?_ ?_
    · exact ev_no127 hs0 bs0.2
    refine AllP.cons ?_ ?_
    · exact fnV1 hv4.1 hv4.2.1 hv4.2.2.1 hv4.2.2.2.1 hv4.2.2.2.2
    refine AllP.cons ?_ ?_
    · exact ev_ediv (by decide) (by decide)
    refine AllP.cons ?_ ?_
    · exact ev_ediv (by decide) (by decide)
    refine AllP.cons ?_ ?_
    · exact suml_slice
    refine AllP.cons ?_ ?_
    · exact by rw [hvs]; exact lslice_ok (k:=4) (Nat.le_trans hl (by decide))
    refine AllP.cons ?_ ?_
    · exact fnV1 hv3.1 hv3.2.1 hv3.2.2.1 hv3.2.2.2.1 hv3.2.2.2.2
    refine AllP.cons ?_ ?_
    · exact ev_ediv (by decide) (by decide)
    refine AllP.cons ?_ ?_
    · exact ev_ediv (by decide) (by decide)
    refine AllP.cons ?_ ?_
    · exact suml_slice
    refine AllP.cons ?_ ?_
    · exact by rw [hvs]; exact lslice_ok (k:=3) (Nat.le_trans hl (by decide))
    refine AllP.cons ?_ ?_
    · exact fnV1 hv2.1 hv2.2.1 hv2.2.2.1 hv2.2.2.2.1 hv2.2.2.2.2
    refine AllP.cons ?_ ?_
    · exact ev_ediv (by decide) (by decide)
    refine AllP.cons ?_ ?_
    · exact ev_ediv (by decide) (by decide)
    refine AllP.cons ?_ ?_
    · exact suml_slice
    refine AllP.cons ?_ ?_
    · exact by rw [hvs]; exact lslice_ok (k:=2) (Nat.le_trans hl (by decide))
    refine AllP.cons ?_ ?_
    · exact fnV1 hv1.1 hv1.2.1 hv1.2.2.1 hv1.2.2.2.1 hv1.2.2.2.2
    refine AllP.cons ?_ ?_
    · exact ev_ediv (by decide) (by decide)
    refine AllP.cons ?_ ?_
    · exact ev_ediv (by decide) (by decide)
    refine AllP.cons ?_ ?_
    · exact suml_slice
    refine AllP.cons ?_ ?_
    · exact by rw [hvs]; exact lslice_ok (k:=1) (Nat.le_trans hl (by decide))
    refine AllP.cons ?_ ?_
    · exact fnV0 hv0.1 hv0.2.1 hv0.2.2.1 hv0.2.2.2.1 hv0.2.2.2.2
    refine AllP.cons ?_ ?_
    · exact ev_ediv (by decide) (by decide)
    refine AllP.cons ?_ ?_
    · exact ev_ediv (by decide) (by decide)
    refine AllP.cons ?_ ?_
    · exact suml_slice
    refine AllP.cons ?_ ?_
    · exact by rw [hvs]; exact lslice_ok (k:=0) (Nat.le_trans hl (by decide))
    refine AllP.cons ?_ ?_
    · exact by rw [hidx]; exact getI_ok (k:=1) rfl (by decide)
    refine AllP.cons ?_ ?_
    · exact ev_ediv (by decide) (by decide)
    refine AllP.cons ?_ ?_
    · exact ev_ediv (by decide) (by decide)
    refine AllP.cons ?_ ?_
    · exact ev_ediv (by decide) (by decide)
    refine AllP.cons ?_ ?_
    · exact ev_ediv (by decide) (by decide)
    refine AllP.cons ?_ ?_
    · exact ev_ediv (by decide) (by decide)
    refine AllP.cons ?_ ?_
    · exact by rw [hvs]; exact suml_ok ns
    exact AllP.nil
  cases b2 with
  | false =>
    refine (law_C (b2:=false) (pos0:=pos) (qa0:=qa) (qq0:=pq) (gn:=gn) (t0:=0) (t1:=0) (t2:=0) (t3:=0) (t4:=0) (t5:=0) (M:=M) (G:=G) (O:=O) (hs:=told)).monoE fun v=>?_
    exact ⟨fun i=>match i with | 0=>(v 62 0) | 1=>(v 62 1) | _=>(v 62 2),_,_,rfl⟩
  | true =>
    refine (law_D (b2:=false) (pos0:=pos) (qa0:=qa) (qq0:=pq) (gn:=gn) (t0:=0) (t1:=0) (t2:=0) (t3:=0) (t4:=0) (t5:=0) (M:=M) (G:=G) (O:=O) (hs:=told)).monoE fun v=>?_
    exact ⟨fun i=>match i with | 0=>(v 62 0) | 1=>(v 62 1) | _=>(v 62 2),_,_,rfl⟩
end
end Mine
end
section
open PySem PySem.W PySem.W.X PyProof.Rows
namespace Mine
theorem third (x:Int):Int.ediv (Int.fmod x 3) 2 = 0 ∨ Int.ediv (Int.fmod x 3) 2 = 1:=by
  obtain ⟨h1,h2⟩:=fmod_bd x (m:=3) (by decide)
  have e:Int.ediv (Int.fmod x 3) 2 = Int.fmod x 3 / 2:=rfl
  rw [e]
  omega
theorem law_ok {w:World} {b2:Bool} {h0:Heap} {B:List Frame} {d:Drawn} {os:OsState} {bw:List (Code × Pos)} {ns:List Int} (hl:ns.length ≤ 63) {sl sn:Nat} :
    CallN (view w b2 h0 B bw d os) [7] (.call (.ref 123) ⟨[.ref sl],[]⟩) [(sl,listO (ns.map fun i=>Value.int i 0) sn)] [] (fun v=>⟨none,[],.ok (.ret (.bool true))⟩):=by
  rcases third (Int.ediv (Int.fmod (ns.sum+17) 1000000) 144) with h | h
  · exact law_A_ok hl h
  · exact law_C_ok hl h
end Mine
end
noncomputable section
open PySem PySem.W PySem.W.X PySem.W.ZRun PyProof.Rows
namespace Mine
theorem rowF_ok (P:Params):P = rowP true (P.followText "comprehension-iter-twice") P ∨ P = rowP false (P.followText "comprehension-iter-twice") P:=by
  have key:∀ b1,P.followText "special-get-raises" = b1→P = rowP b1 (P.followText "comprehension-iter-twice") P:=by
    intro b1 h
    obtain ⟨⟩:=P
    unfold rowP
    congr 1
    funext r
    unfold rowF
    split
    · rename_i q _; subst q; exact h
    · split
      · rename_i q _; subst q; rfl
      · rfl
  cases h:P.followText "special-get-raises" with
  | true=>exact .inl (key _ h)
  | false=>exact .inr (key _ h)
noncomputable def callerT (vs:List Value):Sem Fin:=do
  match ← nsGet mainNs "law" with
  | some f=>do ret (← PySem.call f vs)
  | none=>unsupported "claim.caller:no-such-global"
theorem caller_goes (w:World) (h0:Heap) (d:Drawn) (os:OsState) (O:(view w (w.params.followText "comprehension-iter-twice") h0 [] [] d os).Ok) {ns:List Int} (hl:ns.length ≤ 63) {vs:List Value} (hvs:vs.map noTok = ns.map fun i=>Value.int i 0) (sn tk:Nat) :
    Goes (view w (w.params.followText "comprehension-iter-twice") h0 [] [] d os) (mk (callerT [.ref 124]) (.builtin "claim.caller" ⟨[],[]⟩) default [] [(124,listO vs sn)] 125 tk [] 0)
      (fun y=>∃ v:Nat→Nat→Nat,y = mk (.pure (.done (.ret (.bool true)))) (.builtin "claim.caller" ⟨[],[]⟩) default [] [(124,listO vs sn)] (v 0 0) (v 0 1) [] (v 0 2)) :=
  goes_run (it:=[0]) (en:=[(0,.call [0] [] (fun v=>⟨none,[],.ok (.ret (.bool true))⟩) fun _=>[])]) (d:=1) (ms:=[0]) (e:=0) (gs:=[]) (mv:=[])
    (sd:=fun v=>[CallN (view w (w.params.followText "comprehension-iter-twice") h0 [] [] d os) [7] (.call (.ref 123) ⟨[.ref 124],[]⟩) [(124,listO (vs.map noTok) sn)] [] (fun v=>⟨none,[],.ok (.ret (.bool true))⟩)])
    O den_eq 2 1 (fun v=>⟨by kernel_rfl,by kernel_rfl,by kernel_rfl,by kernel_rfl⟩) (fun v=>⟨by rw [hvs]; exact law_ok hl,trivial⟩)
end Mine
end
noncomputable section
open PySem PySem.W PySem.W.X PySem.W.ZRun PyProof.Rows
namespace Mine
theorem ints_norm {vs:List Value} {ns:List Int} (h:IntsAre vs ns):vs.map noTok = ns.map fun i=>Value.int i 0:=by
  induction h with
  | nil=>rfl
  | cons n t _ ih=>simp only [List.map_cons,ih]; rfl
theorem halts_here {p:Program} {w:World} {s:Shared} {f:Flow} {c:Code} {pos:Pos} (h:AllBare s.gens):runNI (denote table) p w 1 s ⟨.pure (.done f),c,pos,[]⟩ = .halted (outcomeOf (.ok f)) s:=by
  have e:stepI (denote table) p w s ⟨.pure (.done f),c,pos,[]⟩ = finish (outcomeOf (.ok f)) s:=step_leaf_nil (M:=model p w) s c pos (.ok f)
  unfold runNI
  rw [e]
  unfold finish
  rw [leftWithCleanup_false_of_bare h]
  rfl
theorem keysP (P:Params):asP = (KP P).map (·.1):=rfl
theorem script_only {R:WRecords} {w:World} {s₀ s₁:Shared} {ns:List Int} {a:Addr} {as:List Addr} (L:Laid R w s₀ s₁ [ofPy (PyData.list (ns.map PyData.int))] [.ref a] as) {b:Addr} {o:Obj} (e:s₁.heap.get? b = some o):b = a ∨ s₀.heap.get? b = some o:=by
  obtain ⟨ord,_,h⟩:=L.laid
  simp only [ofPy,layAllW,layW] at h
  cases q:layAllW R (classAt s₀.heap) w.params ord (ofPys (List.map PyData.int ns)) s₀ with
  | none=>rw [q] at h; cases h
  | some r =>
    have hh:=lay_ints ns s₀ r q
    have ha:=(script_at L).1
    rw [q] at h
    simp only [Option.some.injEq,Prod.mk.injEq] at h
    rw [← h.2] at e
    rcases Heap.get?_push_cases e with ⟨h1,_⟩ | h1
    · exact .inl (h1.trans ((congrArg (fun h:Heap=>h.objs.size) hh).trans ha.symm))
    · right; rw [← hh]; exact h1
theorem kt_holds {P:Params} {h:Heap} (A:AllIn h (KP P)):KT.Holds h 1 0 (kt P):=by
  have e:=kt_ok P
  generalize KP P = K at A e
  generalize kt P = t at e ⊢
  subst e
  exact holds_of A
theorem law_run {R:WRecords} {w:World} {s₀ s₁:Shared} {ns:List Int} {a:Addr} {vs:List Value} {as:List Addr} (y:obsZ asP s₀ = valZ KP 124 2286 w)
    (L:Laid R w s₀ s₁ [ofPy (PyData.list (ns.map PyData.int))] [.ref a] as) (hL:s₁.heap.IsList a vs.toArray) (hi:IntsAre vs ns) (hl:ns.length ≤ 63) :
    ∃ n s',runNI (denote table) PySem.Challenge.pw_wa0036_01 w n s₁ ⟨callerT [.ref a],.builtin "claim.caller" {},default,[]⟩ = .halted (outcomeOf (.ok (.ret (.bool true)))) s' ∧
      (∀ b o,s₁.heap.get? b = some o→s'.heap.get? b = some o) ∧ s'.os = s₁.os ∧ AllBare s'.gens:=by
  obtain ⟨A,_,hsz,htk⟩:=z_facts keysP y
  obtain ⟨ha,hs1⟩:=script_at L
  have ho:=script_obj L hL
  rw [hsz] at ha hs1
  subst ha
  have O:(view w (w.params.followText "comprehension-iter-twice") s₀.heap [] [] s₁.drawn s₁.os).Ok :=
    ⟨kt_holds A,rfl,fun b=>by cases b <;> rfl,rowF_ok w.params⟩
  have r:Rep (view w (w.params.followText "comprehension-iter-twice") s₀.heap [] [] s₁.drawn s₁.os) (mk (callerT [.ref 124]) (.builtin "claim.caller" ⟨[],[]⟩) default [] [(124,listO vs 0)] 125 s₁.toks [] 0) s₁:=by
    refine ⟨L.keeps,?_,hs1,fun p hp=>?_,by simp,?_,fun p hp=>(nomatch hp),by simp,AllBare.of_eq L.gens,rfl,rfl,rfl⟩
    · show s₀.heap.objs.size ≤ 125
      omega
    · obtain rfl:=List.mem_singleton.mp hp
      exact ⟨by show s₀.heap.objs.size ≤ 124; omega,ho⟩
    · rw [L.gens]; rfl
  obtain ⟨y',s',⟨n,hn⟩,r',v,rfl⟩:=caller_goes w s₀.heap s₁.drawn s₁.os O hl (ints_norm hi) 0 s₁.toks s₁ r
  refine ⟨n+1,s',(hn 1).trans (halts_here r'.bare),fun b o e=>?_,r'.os,r'.bare⟩
  rcases script_only L e with rfl | e'
  · have:=(r'.mem _ (List.mem_singleton.mpr rfl)).2
    rw [ho] at e
    cases e
    exact this
  · exact r'.keep b o e'
end Mine
end
noncomputable section
open PySem PySem.Spec PySem.W PySem.W.X PySem.W.ZRun PyProof.Rows
namespace Mine
theorem callFrom_run {c:ClaimW} {tree:List Value→Sem Fin} {w:World} {s:Shared} {free:Addr→Prop} {gens:Prop} {kept:Heap→Prop} (hz:s.asleep) (hg:s.gens = #[])
    (H:∀ args,c.pre args = true→WData.layableAll args = true→∀ ord:List DictEntry→List DictEntry,(∀ l,(ord l).Perm l) →
      ∃ vs s₁,layAllW c.records (classAt s.heap) w.params ord args s = some (vs,s₁) ∧
        ∃ n v s',runNI (denote table) c.prog w n s₁ ⟨tree vs,.builtin "claim.caller" {},default,[]⟩ = .halted (outcomeOf (.ok (.ret v))) s' ∧ c.Ends s args vs s₁ (.ok (.ret v)) s' ∧ s'.os = s.os ∧ kept s'.heap) :
    c.CallFrom (fun vs=>⟨tree vs,.builtin "claim.caller" {},default,[]⟩) w free gens kept s:=by
  intro args hpre hlay ord hord
  obtain ⟨vs,s₁,hlaid,n,v,s₂,hn,hc,ho,hk⟩:=H args hpre hlay ord hord
  obtain ⟨_,_,_,hl⟩:=layAllW_rest _ _ _ hlaid
  obtain ⟨s',hs,hr,hf⟩:=runNI_full (denote table) c.prog w hn (outcomeOf_ends _) (Shared.asleep_of_life hl hz)
  obtain ⟨eh,_,_,eo,_⟩:=Shared.forget_eq hf
  have hc:=hc.congr eh
  rw [← eh] at hk
  rw [← eo] at ho
  have hlife:s'.heap.life = s.heap.life:=(runN_life _ _ _ hr).trans hl
  refine ⟨vs,s₁,hlaid,n,_,s',hs,?_,fun _ i x hx=>by rw [hg] at hx; simp at hx,hk,by rw [hlife],Shared.rest_eq ho⟩
  rcases hc with ⟨v',e,d1,d2,d3,d4,d5⟩ | ⟨_,_,_,e,_⟩
  · cases e
    exact .inl ⟨v,rfl,d1,d2,d3,fun b o y _=>d4 b o y,d5⟩
  · cases e
abbrev rowL:OpenRow:=PySem.Challenge.rw_wa0036_01.row
theorem row_holds {d:DefRec} {kwd:List (Str × PySem.Expr)} (k1:rowL.wellSaid = true) (hw:rowL.toRowW.promised) (ok:(chainsOk qP && opensWell pw && (frees rowL.toRowW && rowL.within.isEmpty)) = true) (hb:pw.bare)
    (hdef:defOf qP rowL.name = some (d,kwd)) (hp:pw.theDef rowL.name = some (d.params,d.body,d.scope)) (hk:kwWritten? d.params.kwonlyargs d.params.kw_defaults = some kwd)
    (run:∀ (w:World) (s₀ s₁:Shared),obsZ asP s₀ = valZ KP 124 2286 w→∀ (args:List WData) (vals:List Value) (as:List Addr),Laid rowL.records w s₀ s₁ args vals as→rowL.toRowW.claim.pre args = true→WData.layableAll args = true →
      ReadsAllW rowL.records (classAt s₀.heap) s₁.heap vals args as→WellAll w.params s₁.heap vals args→(∀ a ∈ as,(a == sysModules) = false) →
      ∃ n v s',runNI (denote table) pw w n s₁ ⟨callerT vals,.builtin "claim.caller" {},default,[]⟩ = .halted (outcomeOf (.ok (.ret v))) s' ∧ GoodWG rowL.toRowW.claim (classAt s₀.heap) (ExcName.means s₀.heap) args s₁ (.ok (.ret v)) s'):rowL.Holds:=by
  obtain ⟨ok,k5⟩:=Bool.and_eq_true_iff.mp ok
  obtain ⟨hch,o1⟩:=Bool.and_eq_true_iff.mp ok
  obtain ⟨k5,k6⟩:=Bool.and_eq_true_iff.mp k5
  obtain ⟨hsame,hu,ha,hap,hm⟩:=frees_parts k5
  have hX:∀ s,XtP s = true→XL qP [] (s.heap.nsMap mainGlobals) s.heap ∧ RecFacts rowL.records s.heap:=fun s e=>⟨xl_of s (Bool.and_eq_true_iff.mp e).1,recFacts_of (Bool.and_eq_true_iff.mp e).2⟩
  refine ⟨k1,hw,⟨hb,o1,rfl⟩,hw.witness,fun w=>⟨(left.behind (XP:=fun mg h=>XL qP [] mg h ∧ RecFacts rowL.records h) hX hch w).1,fun s' hs'=>?_⟩⟩
  obtain ⟨s₀,hf,hg0,s,hT,hz,hgens,hg,G00,y⟩:=(left.behind (XP:=fun mg h=>XL qP [] mg h ∧ RecFacts rowL.records h) hX hch w).2 s' hs'
  have G0:Ground qP looseP [] (XL qP []) w s (s.heap.nsMap mainGlobals) (s.heap.nsMap builtinsNs) s.heap:=⟨G00.T,G00.B,G00.D,G00.TE,G00.TD,G00.W,G00.X.1,G00.cls,G00.has,G00.apart,G00.once,G00.K⟩
  have RF:=G00.X.2
  have hgens:s.gens = #[]:=Array.eq_empty_of_size_eq_zero (beq_iff_eq.mp hgens)
  have G:Ground qP looseP rowL.records (XL qP []) w s _ _ s.heap:=RF.ground G0
  refine ⟨s₀,hf,hg0,s,hT,fun n hn=>?_,RF.1,RF.2.1,?_⟩
  · obtain rfl:n = rowL.name:=by split at hn <;> simp_all
    exact pinned_of_view hg G0 hdef hp hk
  refine callFrom_run (c:=rowL.toRowW.claim) hz hgens fun args hpre hlay ord hord=>?_
  obtain ⟨⟨vs,s₁⟩,hlaid⟩:=Option.isSome_iff_exists.mp (layAllW_isSome (P:=w.params) (ord:=ord) G.has args rowL.args s (pre_splitW hpre).1)
  have keeps:=layAllW_keeps _ _ _ hlaid
  have hal:=layAllW_rest _ _ _ hlaid
  obtain ⟨as,hrd,hin,hold⟩:=reads_layAllW hord _ _ _ hlaid hlay s₁.heap (fun _ _ e=>e)
  have L:Laid rowL.records w s s₁ args vs as:=⟨⟨ord,hord,hlaid⟩,hrd,hin,hold,keeps,hal.1.trans hgens,hal.2.2.1⟩
  obtain ⟨n,v,s₂,hrun,g⟩:=run w s s₁ y args vs as L hpre hlay L.reads L.well (L.low G.low)
  have z:=g.laid (c:=rowL.toRowW.claim) hsame (List.isEmpty_iff.mp k6) (ident_freeW hu ha hap) L
  exact ⟨vs,s₁,hlaid,n,v,s₂,hrun,z.1,z.2.1,fun q=>⟨namesKept_of hT hg rowL.keeps keeps g.2.1.old,noTable (by rfl) q⟩⟩
end Mine
end
section
open PySem PySem.Spec PySem.W PySem.W.X PySem.W.ZRun PyProof.Rows
namespace Mine
theorem sd_names:namesResolve PySem.Challenge.rw_wa0036_01.row.prog = true:=by kernel_rfl
theorem sd_roads:noRoadLSs { strict:=!(importedModules PySem.Challenge.rw_wa0036_01.row.prog.main.body).all cThrough.contains,foot:=none,bare:=(["vars", "dir", "locals"]:List Str).filter (readsOut PySem.Challenge.rw_wa0036_01.row.prog PySem.Challenge.rw_wa0036_01.row.prog.main.body) } PySem.Challenge.rw_wa0036_01.row.prog.main.body = true:=by
  rw [PySem.W.Fast.te8326940854005059898]
  kernel_rfl
theorem sd_attrs:namesMeet PySem.Challenge.rw_wa0036_01.row.prog PySem.Challenge.rw_wa0036_01.row.prog.main.body (fun _ n=>attrL n) = true:=by kernel_rfl
theorem sd_looks:looksOpen PySem.Challenge.rw_wa0036_01.row.prog = true:=by
  unfold looksOpen
  exact look_both (look_both (look_both (look_both (by kernel_rfl) sd_names) (by kernel_rfl)) sd_roads) sd_attrs
theorem sd_part:PySem.Challenge.rw_wa0036_01.row.partSaid = true:=by
  unfold OpenRow.partSaid
  rw [sd_looks]
  kernel_rfl
theorem law_said:PySem.Challenge.rw_wa0036_01.wellSaid = true:=by
  unfold OpenLaw.wellSaid OpenRow.wellSaid
  rw [sd_part,PySem.W.Fast.named_eq,PySem.W.Fast.te8326940854005059898]
  kernel_rfl
end Mine
set_option maxHeartbeats 0 in
theorem PySem.Challenge.cw_wa0036_01_holds : PySem.Challenge.rw_wa0036_01.Holds := by
  w_on
  refine holds_law Mine.law_said fun said=>?_
  refine Mine.row_holds (by first | assumption | rfl) ?hw (by decide +kernel) ⟨rfl,rfl,rfl,rfl,rfl,by decide +kernel⟩ (by rfl) (by rfl) (by rfl) ?hc
  case hw=>w_witness2
  intro w s₀ s₁ y args vals as L hpre hlay hrd hwl hlo
  wrow_args hpre hlay hrd hwl hlo
  obtain ⟨n,s',hrun,hk,ho,hb⟩:=Mine.law_run y L (by assumption) (by assumption) (by omega)
  refine ⟨n,.bool true,s',hrun,.inl ⟨_,.bool true,[],rfl,fun _=>rfl,.bool _,?_,fun _=>⟨List.nodup_nil,fun a h=>nomatch h⟩⟩,.of_keep hk,ho,hb⟩
  wrow_post
end
