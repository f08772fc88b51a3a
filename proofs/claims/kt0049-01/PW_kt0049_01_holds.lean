import PyProof.Rows.All
import Wide.FinOn
import OpenK.AllK
import Wide.All
import Lean
import PySem.Challenge.RW_kt0049_01
set_option Elab.async false
set_option maxRecDepth 100000
set_option maxHeartbeats 4000000
set_option linter.all false
set_option backward.match.sparseCases false
set_option bootstrap.genMatcherCode false
set_option genSizeOf false
set_option genSizeOfSpec false
set_option genInjectivity false
set_option tactic.hygienic false
open PySem PySem.W PyProof.Rows
namespace Mine
noncomputable abbrev Tx:=List Nat
noncomputable abbrev S (t:Tx):Str:=⟨t.toArray⟩
theorem ns {α:Type}{d:α}{P:Prop}(h:none=some d):P:=nomatch h
theorem nf {P:Prop}(h:false=true):P:=nomatch h
theorem nx {α:Type}{a b:α}{P:Prop}(t:α->Nat)(h:a=b)(e:Nat.beq (t a) (t b)=false):P:=absurd (congrArg t h) (Nat.ne_of_beq_eq_false e)
theorem sqp {α β:Type}{a c:α}{b d:β}(h:some (a,b)=some (c,d)):a=c/\b=d:=⟨congrArg Prod.fst (Option.some.inj h),congrArg Prod.snd (Option.some.inj h)⟩
theorem sq {α:Type}{a b:α}(h:some a=some b):a=b:=Option.some.inj h
theorem opt_val {α β:Type}{o:Option α}{f:α->Option β}{r:β}(h:(match o with | some x=>f x | none=>none)=some r):∃ x,o=some x/\f x=some r:=by
 cases o with
 | none=>exact ns h
 | some x=>exact ⟨x,rfl,h⟩
theorem ite_no {α:Type}{c:Bool}{a:Option α}{r:α}(h:(if c=true then none else a)=some r):c=false/\a=some r:=by
 cases c
 ·exact ⟨rfl,h⟩
 ·exact ns h
theorem ite_val {α:Type}{c:Bool}{a:Option α}{r:α}(h:(if c=true then a else none)=some r):c=true/\a=some r:=by
 cases c
 ·cases h
 ·exact ⟨rfl,h⟩
theorem mem1 {P:Addr->Prop}{p:Addr}(h:P p):∀ a∈[p],P a:=λ_ q=>(List.mem_singleton.mp q).symm▸h
theorem xAA {p0 p1 p2:Prop}{P:Prop}(h:p0/\p1/\p2)(k:p0->p1->p2->P):P:=k h.1 h.2.1 h.2.2
theorem xAAA {p0 p1 p2 p3:Prop}{P:Prop}(h:p0/\p1/\p2/\p3)(k:p0->p1->p2->p3->P):P:=k h.1 h.2.1 h.2.2.1 h.2.2.2
theorem xAAAA {p0 p1 p2 p3 p4:Prop}{P:Prop}(h:p0/\p1/\p2/\p3/\p4)(k:p0->p1->p2->p3->p4->P):P:=k h.1 h.2.1 h.2.2.1 h.2.2.2.1 h.2.2.2.2
theorem xAAAAA {p0 p1 p2 p3 p4 p5:Prop}{P:Prop}(h:p0/\p1/\p2/\p3/\p4/\p5)(k:p0->p1->p2->p3->p4->p5->P):P:=k h.1 h.2.1 h.2.2.1 h.2.2.2.1 h.2.2.2.2.1 h.2.2.2.2.2
theorem xEA {α0:Type}{p0 p1:α0->Prop}{P:Prop}(h:∃ x,p0 x/\p1 x)(k:∀ x,p0 x->p1 x->P):P:=h.elim λy0 h0=>k y0 h0.1 h0.2
theorem xEAA {α0:Type}{p0 p1 p2:α0->Prop}{P:Prop}(h:∃ x,p0 x/\p1 x/\p2 x)(k:∀ x,p0 x->p1 x->p2 x->P):P:=h.elim λy0 h0=>k y0 h0.1 h0.2.1 h0.2.2
theorem xEAAA {α0:Type}{p0 p1 p2 p3:α0->Prop}{P:Prop}(h:∃ x,p0 x/\p1 x/\p2 x/\p3 x)(k:∀ x,p0 x->p1 x->p2 x->p3 x->P):P:=h.elim λy0 h0=>k y0 h0.1 h0.2.1 h0.2.2.1 h0.2.2.2
theorem xEE {α0 α1:Type}{p0:α0->α1->Prop}{P:Prop}(h:∃ x,∃ y,p0 x y)(k:∀ x,∀ y,p0 x y->P):P:=h.elim λy0 h0=>h0.elim λy1 h1=>k y0 y1 h1
theorem xEEA {α0 α1:Type}{p0 p1:α0->α1->Prop}{P:Prop}(h:∃ x,∃ y,p0 x y/\p1 x y)(k:∀ x,∀ y,p0 x y->p1 x y->P):P:=h.elim λy0 h0=>h0.elim λy1 h1=>k y0 y1 h1.1 h1.2
theorem xEEAA {α0 α1:Type}{p0 p1 p2:α0->α1->Prop}{P:Prop}(h:∃ x,∃ y,p0 x y/\p1 x y/\p2 x y)(k:∀ x,∀ y,p0 x y->p1 x y->p2 x y->P):P:=h.elim λy0 h0=>h0.elim λy1 h1=>k y0 y1 h1.1 h1.2.1 h1.2.2
theorem xEEAAA {α0 α1:Type}{p0 p1 p2 p3:α0->α1->Prop}{P:Prop}(h:∃ x,∃ y,p0 x y/\p1 x y/\p2 x y/\p3 x y)(k:∀ x,∀ y,p0 x y->p1 x y->p2 x y->p3 x y->P):P:=h.elim λy0 h0=>h0.elim λy1 h1=>k y0 y1 h1.1 h1.2.1 h1.2.2.1 h1.2.2.2
theorem xEEAAAA {α0 α1:Type}{p0 p1 p2 p3 p4:α0->α1->Prop}{P:Prop}(h:∃ x,∃ y,p0 x y/\p1 x y/\p2 x y/\p3 x y/\p4 x y)(k:∀ x,∀ y,p0 x y->p1 x y->p2 x y->p3 x y->p4 x y->P):P:=h.elim λy0 h0=>h0.elim λy1 h1=>k y0 y1 h1.1 h1.2.1 h1.2.2.1 h1.2.2.2.1 h1.2.2.2.2
theorem xEEEEA {α0 α1 α2 α3:Type}{p0 p1:α0->α1->α2->α3->Prop}{P:Prop}(h:∃ x,∃ y,∃ z,∃ u,p0 x y z u/\p1 x y z u)(k:∀ x,∀ y,∀ z,∀ u,p0 x y z u->p1 x y z u->P):P:=h.elim λy0 h0=>h0.elim λy1 h1=>h1.elim λy2 h2=>h2.elim λy3 h3=>k y0 y1 y2 y3 h3.1 h3.2
inductive ME where
 | bad
 | loc (x:Tx) | glo (x:Tx) | none | bool (b:Bool) | int (i:Int) | str (s:Tx)
 | bin (o:Nat) (a b:ME)
 | cmp (o:Nat) (a b:ME)
 | and (es:List ME) | or (es:List ME) | not (e:ME) | neg (e:ME)
 | ite (c a b:ME)
 | idx (a i:ME) | sli (a:ME) (l u:Option ME)
 | lst (es:List ME) | tup (es:List ME)
 | comp (el:ME) (gs:List (Tx×ME×List ME)) (fr:List Tx)
 | scomp (el:ME) (gs:List (Tx×ME×List ME)) (fr:List Tx)
 | call (f:ME) (as:List ME)
 | meth (o:ME) (m:Tx) (as:List ME)
 | lam (ps:List Tx) (e:ME)
 | tmap (f x:ME)
 | ksort (x f:ME)
inductive D where
 | none
 | bool (b:Bool)
 | int (i:Int)
 | str (s:Tx)
 | list (xs:List D)
 | tup (xs:List D)
 | ty (k:Nat)
 | bi (k:Nat)
 | at (a:Nat)
 | dict0
 | bset
 | lam (ps:List Tx) (e:ME)
 | rd (ds c:List Tx)
 | rng (a b:Int)
 | rdW (g:Nat) (ds:List Tx)
 | got (g:Nat) (k:Tx) (i:Int)
theorem optD {β:Type}{o:Option D}{f:D->Option β}{r:β}(h:(match o with | some x=>f x | none=>none)=some r):∃ x,o=some x/\f x=some r:=by
 cases o with
 | none=>exact ns h
 | some x=>exact ⟨x,rfl,h⟩
theorem optB {β:Type}{o:Option Bool}{f:Bool->Option β}{r:β}(h:(match o with | some x=>f x | none=>none)=some r):∃ x,o=some x/\f x=some r:=by
 cases o with
 | none=>exact ns h
 | some x=>exact ⟨x,rfl,h⟩
theorem optL {β:Type}{o:Option (List D)}{f:(List D)->Option β}{r:β}(h:(match o with | some x=>f x | none=>none)=some r):∃ x,o=some x/\f x=some r:=by
 cases o with
 | none=>exact ns h
 | some x=>exact ⟨x,rfl,h⟩
theorem optN {β:Type}{o:Option Nat}{f:Nat->Option β}{r:β}(h:(match o with | some x=>f x | none=>none)=some r):∃ x,o=some x/\f x=some r:=by
 cases o with
 | none=>exact ns h
 | some x=>exact ⟨x,rfl,h⟩
theorem optP {β:Type}{o:Option (List (Tx×ME×List ME))}{f:(List (Tx×ME×List ME))->Option β}{r:β}(h:(match o with | some x=>f x | none=>none)=some r):∃ x,o=some x/\f x=some r:=by
 cases o with
 | none=>exact ns h
 | some x=>exact ⟨x,rfl,h⟩
noncomputable def tyN:Nat->String
 | 0 => "str"
 | 1 => "bytes"
 | 2 => "type"
 | 3 => "range"
 | 8 => "int"
 | 9 => "bool"
 | _ => "list"
noncomputable def biN:Nat->String
 | 0 => "len"
 | 1 => "isinstance"
 | 2 => "issubclass"
 | 3 => "iter"
 | 4 => "min"
 | _ => "max"structure Wd where
 h:Heap
 ig:List (Addr×List Tx)
 pv:List Addr
noncomputable def tabs:List Addr:=[165,228,257]
noncomputable def clsIg:Addr:=159
noncomputable def ans (ds:List Tx)(k:Tx):Int:=if ds.any (λd=>(d++[47]).isPrefixOf (k++[47,102])) then 1 else 0
noncomputable def tag:Tx:=[60,115,116,114,105,110,103,62]
noncomputable def plc:List Tx:=[[47,116],[47,116,47,97],[47,116,47,97,98],[47,116,47,97,47,97],[47,116,47,97,47,97,98],[47,116,47,97,98,47,97],[47,116,47,97,98,47,97,98]]
noncomputable def lim:Nat:=100000
inductive MS where
 | bad
 | asg (x:Tx) (e:ME)
 | asgT (xs:List Tx) (e:ME)
 | aug (x:Tx) (e:ME)
 | ret (e:ME)
 | iff (c:ME) (a b:List MS)
 | loop (x:Tx) (it:ME) (body:List MS)
 | loopE (i c:Tx) (it:ME) (body:List MS)
 | brk | cont
 | app (x:Tx) (e:ME)
 | pop (x:Tx)
 | popTo (y x:Tx)
 | try_ (body:List MS)
noncomputable def eqT:Tx->Tx->Bool
 | [],[]=>true
 | a::r,b::q=>Nat.beq a b&&eqT r q
 | _,_=>false
theorem eqT_iff:∀ {a b:Tx},eqT a b=true↔a=b
 | [],[]=>by simp [eqT]
 | [],b::q=>by simp [eqT]
 | a::r,[]=>by simp [eqT]
 | a::r,b::q=>by simp only [eqT,Bool.and_eq_true,Nat.beq_eq,eqT_iff,List.cons.injEq]
theorem ite_or {α:Type}{c:Bool}{a b r:α}(h:(if c=true then a else b)=r):(c=true/\a=r)\/(c=false/\b=r):=by
 cases c
 ·exact .inr ⟨rfl,h⟩
 ·exact .inl ⟨rfl,h⟩
inductive EV where
 | d (x:D)
 | mut (xs:List D)
 | itr (xs:List D)
noncomputable abbrev Rho:=List (Tx×EV)
noncomputable def getR:Rho->Tx->Option EV
 | [],_=>none
 | (y,v)::r,x=>if eqT y x then some v else getR r x
noncomputable def isN {α:Type}:Option α->Bool
 | none=>true
 | _=>false
noncomputable def dropR:Rho->Tx->Rho
 | [],_=>[]
 | (y,v)::r,x=>if eqT y x then dropR r x else (y,v)::dropR r x
noncomputable def setR (r:Rho)(x:Tx)(v:EV):Rho:=(x,v)::dropR r x
noncomputable def ob {α β:Type}(o:Option α)(f:α->Option β)(e:Option β):Option β:=match o with
 | some x=>f x
 | none=>e
theorem ob_inv {α β:Type}{o:Option α}{f:α->Option β}{e:Option β}{r:β}(h:ob o f e=some r):(∃ x,o=some x/\f x=some r)\/(o=none/\e=some r):=by
 cases o with
 | none=>exact .inr ⟨rfl,h⟩
 | some x=>exact .inl ⟨x,rfl,h⟩
theorem bd_inv {α β:Type}{o:Option α}{f:α->Option β}{r:β}(h:o.bind f=some r):∃ x,o=some x/\f x=some r:=by
 cases o with
 | none=>exact ns h
 | some x=>exact ⟨x,rfl,h⟩
structure IntC (d:D) where
 i:Int
 e:d=.int i
noncomputable def intC:(d:D)->Option (IntC d)
 | .int i=>some ⟨i,rfl⟩
 | _=>none
structure ListC (d:D) where
 xs:List D
 e:d=.list xs
noncomputable def listC:(d:D)->Option (ListC d)
 | .list xs=>some ⟨xs,rfl⟩
 | _=>none
structure TupD (d:D) where
 xs:List D
 e:d=.tup xs
noncomputable def tupC:(d:D)->Option (TupD d)
 | .tup xs=>some ⟨xs,rfl⟩
 | _=>none
structure StrC (d:D) where
 s:Tx
 e:d=.str s
noncomputable def strC:(d:D)->Option (StrC d)
 | .str s=>some ⟨s,rfl⟩
 | _=>none
noncomputable def pairD {β:Type}(f:Int->Int->β)(g:Tx->Tx->β)(a b:D):Option β :=
 ob (intC a) (λx=>(intC b).bind λy=>some (f x.i y.i)) ((strC a).bind λx=>(strC b).bind λy=>some (g x.s y.s))
theorem pairD_inv {β:Type}{f:Int->Int->β}{g:Tx->Tx->β}{a b:D}{r:β}(h:pairD f g a b=some r):(∃ x y,a=.int x/\b=.int y/\r=f x y)\/(∃ x y,a=.str x/\b=.str y/\r=g x y):=by
 rcases ob_inv h with ⟨x,-,h1⟩ | ⟨-,h1⟩
 ·refine xEA (bd_inv h1) λy _ h2=>?_
  exact .inl ⟨x.i,y.i,x.e,y.e,(sq h2).symm⟩
 ·refine xEA (bd_inv h1) λx _ h1=>?_
  refine xEA (bd_inv h1) λy _ h2=>?_
  exact .inr ⟨x.s,y.s,x.e,y.e,(sq h2).symm⟩
noncomputable def eq0 (a b:D):Option Bool:=pairD (λx y=>decide (x=y)) eqT a b
noncomputable def eqL (f:D->D->Option Bool):List D->List D->Option Bool
 | [],[]=>some true
 | [],_::_=>some false
 | _::_,[]=>some false
 | a::r,b::q=>match f a b with
  | some x=>(eqL f r q).map (x&&·)
  | none=>none
noncomputable def eqW (f:D->D->Option Bool)(a b:D):Option Bool:=ob (listC a) (λx=>(listC b).bind λy=>eqL f x.xs y.xs) (eq0 a b)
theorem eqW_inv {f:D->D->Option Bool}{a b:D}{r:Bool}(h:eqW f a b=some r):(∃ xs ys,a=.list xs/\b=.list ys/\eqL f xs ys=some r)\/eq0 a b=some r:=by
 rcases ob_inv h with ⟨x,-,h1⟩ | ⟨-,h1⟩
 ·refine xEA (bd_inv h1) λy _ h2=>?_
  exact .inl ⟨x.xs,y.xs,x.e,y.e,h2⟩
 ·exact .inr h1
noncomputable def eq1 (a b:D):Option Bool:=eqW eq0 a b
noncomputable def eqD (a b:D):Option Bool:=eqW eq1 a b
noncomputable def ltT:Tx->Tx->Bool
 | [],[]=>false
 | [],_::_=>true
 | _::_,[]=>false
 | a::r,b::q=>if Nat.blt a b then true else if Nat.beq a b then ltT r q else false
noncomputable def ltD (a b:D):Option Bool:=pairD (λx y=>decide (x < y)) ltT a b
noncomputable def ltTs:List D->List D->Option Bool
 | [],[]=>some false
 | [],_::_=>some true
 | _::_,[]=>some false
 | x::r,y::q=>(strC x).bind λa=>(strC y).bind λb=>if eqT a.s b.s then ltTs r q else some (ltT a.s b.s)
noncomputable def truth0:D->Option Bool
 | .none=>some false
 | .bool b=>some b
 | .dict0=>some false
 | _=>none
noncomputable def truthD (d:D):Option Bool:=ob (intC d) (λx=>some (decide (x.i≠0))) (ob (strC d) (λx=>some (!x.s.isEmpty)) (ob (listC d) (λx=>some (!x.xs.isEmpty)) (ob (tupC d) (λx=>some (!x.xs.isEmpty)) (truth0 d))))
noncomputable def small (i:Int):Bool:=decide (-(2 ^ 40) < i)&&decide (i < 2 ^ 40)
noncomputable def binI (o:Nat)(x y:Int):Option D:=match o with
 | 0=>if small x&&small y then some (.int (x+y)) else none
 | 1=>if small x&&small y then some (.int (x - y)) else none
 | 2=>if decide (0 < y)&&decide (y < 1000) then some (.int (Int.fdiv x y)) else none
 | 3=>if decide (0 < y)&&decide (y < 1000) then some (.int (Int.fmod x y)) else none
 | _=>none
noncomputable def binB (o:Nat)(a b:D):Option D:=match a with
 | .bool x=>(match b with
  | .bool y=>if Nat.beq o 1 then some (.int ((if x then 1 else 0) - (if y then 1 else 0))) else none
  | _=>none)
 | _=>none
noncomputable def binD (o:Nat)(a b:D):Option D :=
 ob (intC a) (λx=>(intC b).bind λy=>binI o x.i y.i)
 (ob (strC a) (λx=>(strC b).bind λy=>if Nat.beq o 0&&Nat.ble (x.s.length+y.s.length) lim then some (.str (x.s++y.s)) else none)
 (ob (listC a) (λx=>(listC b).bind λy=>if Nat.beq o 0&&Nat.ble (x.xs.length+y.xs.length) lim then some (.list (x.xs++y.xs)) else none) (binB o a b)))
noncomputable def isTy (n:Nat):D->Bool
 | .ty k=>Nat.beq k n
 | _=>false
noncomputable def isNone:D->Bool
 | .none=>true
 | _=>false
noncomputable def isD (a b:D):Option Bool:=match a with
 | .none=>if isNone b then some true else none
 | .str _=>if isNone b then some false else none
 | .int _=>if isNone b then some false else none
 | .list _=>(match b with
  | .none=>some false
  | .at k=>if Nat.beq k 171 then some false else none
  | _=>none)
 | .ty k=>if isTy k b then some true else none
 | _=>none
noncomputable def inD (a:D):List D->Option Bool
 | []=>(intC a).bind λ_=>some false
 | b::r=>(intC a).bind λx=>(intC b).bind λy=>(inD a r).bind λq=>some (decide (x.i=y.i)||q)
noncomputable def inS (a b:D):Option Bool:=ob (listC b) (λx=>inD a x.xs) ((tupC b).bind λx=>inD a x.xs)
theorem inS_inv {a b:D}{r:Bool}(h:inS a b=some r):∃ xs,(b=.list xs\/b=.tup xs)/\inD a xs=some r:=by
 rcases ob_inv h with ⟨x,-,h1⟩ | ⟨-,h1⟩
 ·exact ⟨x.xs,.inl x.e,h1⟩
 ·refine xEA (bd_inv h1) λx _ h2=>?_
  exact ⟨x.xs,.inr x.e,h2⟩
noncomputable def cmpD (o:Nat)(a b:D):Option Bool:=match o with
 | 0=>eqD a b
 | 1=>(eqD a b).map (!·)
 | 2=>ltD a b
 | 3=>ltD b a
 | 4=>isD a b
 | 5=>(isD a b).map (!·)
 | 6=>inS a b
 | 7=>(inS a b).map (!·)
 | _=>none
noncomputable def atD (xs:List D)(i:Int):Option D:=match i with
 | .ofNat n=>xs[n]?
 | .negSucc n=>if Nat.blt n xs.length then xs[xs.length - (n+1)]? else none
noncomputable def idxD (a i:D):Option D:=(intC i).bind λk=>ob (listC a) (λx=>atD x.xs k.i) ((tupC a).bind λx=>atD x.xs k.i)
noncomputable def bnd (n:Nat)(i:Int):Nat:=match i with
 | .ofNat k=>if Nat.blt k n then k else n
 | .negSucc k=>n - (k+1)
noncomputable def cut {α:Type}(xs:List α)(l u:Option Int):List α :=
 let a:=match l with | some i=>bnd xs.length i | none=>0
 let b:=match u with | some i=>bnd xs.length i | none=>xs.length
 (xs.take b).drop a
noncomputable def optI:Option D->Option (Option Int)
 | none=>some none
 | some d=>ob (intC d) (λx=>if small x.i then some (some x.i) else none) (if isNone d then some none else none)
noncomputable def sliD (a:D)(l u:Option Int):Option D:=ob (listC a) (λx=>some (.list (cut x.xs l u))) ((strC a).bind λx=>some (.str (cut x.s l u)))
structure RngC (d:D) where
 a:Int
 b:Int
 e:d=.rng a b
noncomputable def rngC:(d:D)->Option (RngC d)
 | .rng a b=>some ⟨a,b,rfl⟩
 | _=>none
noncomputable def itemsD (d:D):Option (List D):=ob (listC d) (λx=>some x.xs) (ob (tupC d) (λx=>some x.xs)
 ((rngC d).bind λx=>if small x.a&&small x.b&&decide (x.b - x.a<=1000) then some ((List.range (x.b - x.a).toNat).map λ(k:Nat)=>.int (x.a+(k:Int))) else none))
noncomputable def hitT (c:Nat)(x:Tx)(i:Nat):Bool:=match x[i]? with
 | some a=>Nat.beq a c
 | none=>false
noncomputable def posT (c:Nat)(x:Tx):List Nat:=(List.range' 0 (x.length+1)).filter (hitT c x)
noncomputable def partsT (x:Tx):Nat->List Nat->List Tx
 | a,[]=>[(x.drop a).take (x.length - a)]
 | a,i::r=>((x.drop a).take (i - a))::partsT x (i+1) r
noncomputable def splitT (c:Nat)(x:Tx):List Tx:=partsT x 0 (posT c x)
noncomputable def joinT (sep:Tx):List Tx->Tx
 | []=>[]
 | [a]=>a
 | a::r=>a++sep++joinT sep r
noncomputable def countT (c:Nat)(x:Tx):Nat:=(posT c x).length
noncomputable def lastT:List Nat->Option Nat->Option Nat
 | [],b=>b
 | a::r,_=>lastT r (some a)
noncomputable def rfindT (c:Nat)(x:Tx):Int:=match lastT (posT c x) none with
 | some i=>(i:Int)
 | none=>-1
noncomputable def strsD:List D->Option (List Tx)
 | []=>some []
 | d::r=>(strC d).bind λx=>(strsD r).map (x.s::·)
noncomputable def prefT:Tx->Tx->Bool
 | [],_=>true
 | _::_,[]=>false
 | a::r,b::q=>Nat.beq a b&&prefT r q
noncomputable def mNames:Tx:=[110,97,109,101,115]
noncomputable def arg1 (f:D->Option D):List D->Option D
 | [a]=>f a
 | _=>none
noncomputable def arg2 (f:D->D->Option D):List D->Option D
 | [a,b]=>f a b
 | _=>none
noncomputable def methS (x:Tx)(m:Tx)(y:Tx):Option D :=
  if eqT m [115,116,97,114,116,115,119,105,116,104] then some (.bool (prefT y x))
  else if eqT m [101,110,100,115,119,105,116,104] then some (.bool (prefT y.reverse x.reverse))
  else match y with
   | [c]=>if eqT m [115,112,108,105,116] then (if Nat.blt c 256&&Nat.ble (splitT c x).length lim then some (.list ((splitT c x).map .str)) else none)
    else if eqT m [99,111,117,110,116] then some (.int (countT c x))
    else if eqT m [114,102,105,110,100] then some (.int (rfindT c x))
    else none
   | _=>none
noncomputable def methJ (x:Tx)(m:Tx)(ys:List D):Option D :=
  if eqT m [106,111,105,110] then (match strsD ys with | some ts=>if Nat.ble (joinT x ts).length lim&&Nat.ble ts.length 1000&&Nat.ble x.length 1&&ts.all (λt=>Nat.ble t.length 1000) then some (.str (joinT x ts)) else none | none=>none)
  else none
noncomputable def args2:List D->Option (D×Tx)
 | [f,k]=>(match k with
  | .str k=>some (f,k)
  | _=>none)
 | _=>none
noncomputable def methR (ds c:List Tx)(m:Tx)(f:D)(k:Tx):Option D:=if eqT m mNames&&plc.any (eqT k) then
 ob (strC f) (λy=>if eqT y.s (k++[47,102]) then some (.int (ans ds k)) else none) (if isNone f&&c.any (eqT k) then some (.int (ans ds k)) else none) else none
noncomputable def methW (g:Nat)(ds:List Tx)(m:Tx)(f:D)(k:Tx):Option D:=(strC f).bind λy=>if eqT m mNames&&plc.any (eqT k)&&eqT y.s (k++[47,102]) then some (.got g k (ans ds k)) else none
noncomputable def methD (o:D)(m:Tx)(as:List D):Option D:=match o with
 | .str x=>arg1 (λa=>match a with
  | .str y=>methS x m y
  | .list ys=>methJ x m ys
  | _=>none) as
 | .rd ds c=>(args2 as).bind λq=>methR ds c m q.1 q.2
 | .rdW g ds=>(args2 as).bind λq=>methW g ds m q.1 q.2
 | _=>none
noncomputable def isRd:D->Bool
 | .rd _ _ | .rdW _ _=>true
 | _=>false
noncomputable def typeD:D->Option D
 | .none=>none
 | .bool _=>some (.ty 9)
 | .int _=>some (.ty 8)
 | .str _=>some (.ty 0)
 | .list _=>some (.ty 10)
 | _=>none
noncomputable def ordR (less:Bool)(xs ys:List D):Option Bool:=if less then ltTs xs ys else ltTs ys xs
noncomputable def min2 (less:Bool)(x y:D):Option D:=(listC x).bind λa=>(listC y).bind λb=>(ordR less b.xs a.xs).bind λq=>some (if q then .list b.xs else .list a.xs)
noncomputable def minD (less:Bool)(l:List D):Option D:=match l with
 | [x,y]=>min2 less x y
 | _=>none
noncomputable def lenD:D->Option D
 | .list xs=>some (.int xs.length)
 | .tup xs=>some (.int xs.length)
 | _=>none
noncomputable def isStr0:D->Bool
 | .str _=>true
 | _=>false
noncomputable def insD (a b:D):Option D:=if isStr0 a&&isTy 0 b then some (.bool true) else if isStr0 a&&isTy 1 b then some (.bool false) else none
noncomputable def ty01:D->Bool
 | .tup xs=>(match xs with
  | [a,b]=>isTy 0 a&&isTy 1 b
  | _=>false)
 | _=>false
noncomputable def mmD (less:Bool):D->Option D
 | .list xs=>minD less xs
 | _=>none
noncomputable def biD (k:Nat)(as:List D):Option D:=match k with
 | 0=>arg1 lenD as
 | 1=>arg2 insD as
 | 2=>arg2 (λa b=>if isTy 0 a&&ty01 b then some (.bool true) else none) as
 | 4=>arg1 (mmD true) as
 | 5=>arg1 (mmD false) as
 | _=>none
noncomputable def strInts:List D->Option (List Int)
 | []=>some []
 | d::r=>(intC d).bind λx=>(strInts r).map (x.i::·)
noncomputable def repB (xs:List D):Option Tx:=match strInts xs with
 | some l=>if l.all small&&Nat.ble (PyData.shown (.list (l.map .int))).cps.toList.length lim then some (PyData.shown (.list (l.map .int))).cps.toList else none
 | none=>none
noncomputable def rngD (a b:D):Option D:=match a with
 | .int a=>(match b with
  | .int b=>if small a&&small b then some (.rng a b) else none
  | _=>none)
 | _=>none
noncomputable def strD:D->Option D
 | .list xs=>(repB xs).map .str
 | _=>none
noncomputable def tyD (k:Nat)(as:List D):Option D:=match k with
 | 0=>arg1 strD as
 | 2=>arg1 typeD as
 | 3=>arg2 rngD as
 | _=>none
noncomputable def runK {α:Type}(lt:Nat->Nat->Option Bool):KasT α->Option α
 | .ret a=>some a
 | .ask i j k=>match lt i j with
  | some b=>runK lt (k b)
  | none=>none
noncomputable def getsD (xs:List D):List Nat->Option (List D)
 | []=>some []
 | i::r=>match xs[i]? with
  | some d=>(getsD xs r).map (d::·)
  | none=>none
noncomputable def isStr:D->Bool
 | .str _=>true
 | _=>false
noncomputable def ltS (cmp:D->D->Option D)(xs:List D)(i j:Nat):Option Bool :=
 xs[i]?.bind λa=>xs[j]?.bind λb=>(cmp a b).bind λd=>(intC d).map λc=>decide (c.i < 0)
theorem ltS_inv {cmp:D->D->Option D}{xs:List D}{i j:Nat}{b:Bool}(h:ltS cmp xs i j=some b):∃ x y r,xs[i]? = some x/\xs[j]? = some y/\cmp x y=some (.int r)/\decide (r < 0)=b:=by
 refine xEA (bd_inv h) λx h1 h=>?_
 refine xEA (bd_inv h) λy h2 h=>?_
 refine xEA (bd_inv h) λd h3 h=>?_
 refine xEA (Option.map_eq_some_iff.mp h) λhh0 _ h=>?_
 obtain ⟨r,rfl⟩:=hh0
 exact ⟨x,y,r,h1,h2,h3,h⟩
noncomputable def sortD (cmp:D->D->Option D)(xs:List D):Option (List D) :=
 if xs.all isStr then if Nat.blt xs.length 2 then some xs else if Nat.blt xs.length 64 then (runK (ltS cmp xs) (kas_sort xs.length)).bind λp=>getsD xs p.toList else none else none
theorem sortD_inv {cmp:D->D->Option D}{xs ds:List D}(h:sortD cmp xs=some ds) :
  (Nat.blt xs.length 2=true/\xs=ds)\/Nat.blt xs.length 2=false/\Nat.blt xs.length 64=true/\∃ p,runK (ltS cmp xs) (kas_sort xs.length)=some p/\getsD xs p.toList=some ds:=by
 rcases ite_or (ite_val h).2 with ⟨h1,h⟩ | ⟨h1,h⟩
 ·exact .inl ⟨h1,sq h⟩
 ·obtain ⟨h2,h⟩:=ite_val h
  exact .inr ⟨h1,h2,bd_inv h⟩
theorem sortD_len {cmp:D->D->Option D}{xs ds:List D}(h:sortD cmp xs=some ds):xs.length < 64:=by
 rcases sortD_inv h with ⟨h,_⟩ | ⟨_,h,_⟩
 ·exact Nat.lt_trans (Nat.blt_eq.mp h) (by decide)
 ·exact Nat.blt_eq.mp h
section
variable (cal:D->List D->Option D)(G:Tx->Option D)
noncomputable def appD (f:D)(as:List D):Option D:=match f with
 | .bi k=>biD k as
 | .ty k=>tyD k as
 | f=>cal f as
noncomputable def frees (fr:List Tx)(ρ:Rho):Rho:=fr.filterMap λx=>match getR ρ x with
 | some (.d v)=>some (x,.d v)
 | _=>none
noncomputable def evl (f:ME->Option D):List ME->Option (List D)
 | []=>some []
 | e::r=>match f e with
  | some d=>(evl f r).map (d::·)
  | none=>none
noncomputable def tvl (f:ME->Option Bool):List ME->Option Bool
 | []=>some true
 | e::r=>match f e with
  | some true=>tvl f r
  | some false=>some false
  | none=>none
noncomputable def tvo (f:ME->Option Bool):List ME->Option Bool
 | []=>some false
 | e::r=>match f e with
  | some true=>some true
  | some false=>tvo f r
  | none=>none
noncomputable def flat (f:D->Option (List D)):List D->Option (List D)
 | []=>some []
 | d::r=>match f d with
  | some xs=>(flat f r).map (xs++·)
  | none=>none
structure LocC (m:ME) where
 y:Tx
 e:m=.loc y
noncomputable def locOf:(m:ME)->Option (LocC m)
 | .loc y=>some ⟨y,rfl⟩
 | _=>none
noncomputable def monD:EV->Option D
 | .d d=>some d
 | .mut xs=>some (.list xs)
 | .itr _=>none
noncomputable def isLen:D->Bool
 | .bi k=>Nat.beq k 0
 | _=>false
theorem isLen_eq {d:D}(h:isLen d=true):d=.bi 0:=by
 cases d with
 | bi k=>exact congrArg D.bi (Nat.eq_of_beq_eq_true h)
 | _=>exact nf h
noncomputable def evo (f:ME->Option D):Option ME->Option (Option D)
 | none=>some none
 | some e=>(f e).map some
mutual
noncomputable def ev:Nat->Rho->ME->Option D
 | 0,_,_=>none
 | n+1,ρ,e=>match e with
  | .loc x=>(match getR ρ x with | some (.d d)=>some d | _=>none)
  | .glo x=>G x
  | .none=>some .none
  | .bool b=>some (.bool b)
  | .int i=>some (.int i)
  | .str s=>if Nat.ble s.length lim then some (.str s) else none
  | .bin o a b=>(match ev n ρ a with
   | some x=>(match ev n ρ b with | some y=>binD o x y | none=>none)
   | none=>none)
  | .cmp o a b=>(match evt n ρ a with
   | some x=>(match ev n ρ b with | some y=>(cmpD o x y).map .bool | none=>none)
   | none=>none)
  | .neg (.int i)=>if decide (0 < i)&&small i then some (.int (-i)) else none
  | .ite c a b=>(match tv n ρ c with | some true=>ev n ρ a | some false=>ev n ρ b | none=>none)
  | .idx a i=>(match evt n ρ a with
   | some x=>(match ev n ρ i with | some y=>idxD x y | none=>none)
   | none=>none)
  | .sli a l u=>(match ev n ρ a with
   | some x=>(match evo (ev n ρ) l with
    | some dl=>(match evo (ev n ρ) u with
     | some du=>(match optI dl with | some i=>(match optI du with | some j=>sliD x i j | none=>none) | none=>none)
     | none=>none)
    | none=>none)
   | none=>none)
  | .lst es=>if Nat.ble es.length lim then (evl (ev n ρ) es).map .list else none
  | .tup es=>if Nat.ble es.length lim then (evl (ev n ρ) es).map .tup else none
  | .comp el ((x,it,ifs)::gs) fr=>if isN (getR (frees fr ρ) x) then (match ev n ρ it with
   | some d=>(match itemsD d with
    | some xs=>(match flat (λi=>eg n (setR (frees fr ρ) x (.d i)) el ifs gs) xs with
     | some r=>if Nat.ble r.length lim then some (.list r) else none
     | none=>none)
    | none=>none)
   | none=>none) else none
  | .scomp el [(x,it,[])] fr=>if isN (getR (frees fr ρ) x) then (match ev n ρ it with
   | some d=>(match itemsD d with
    | some xs=>(match flat (λi=>(ev n (setR (frees fr ρ) x (.d i)) el).map λv=>[v]) xs with
     | some r=>if !r.isEmpty&&r.all (λd=>match d with | .bool true=>true | _=>false) then some .bset else none
     | none=>none)
    | none=>none)
   | none=>none) else none
  | .call f [a]=>(match ev n ρ f with
   | some fv=>if isLen fv then (match evt n ρ a with | some x=>biD 0 [x] | none=>none) else (match ev n ρ a with | some x=>appD cal fv [x] | none=>none)
   | none=>none)
  | .call f as=>(match ev n ρ f with
   | some fv=>(match evl (ev n ρ) as with | some xs=>appD cal fv xs | none=>none)
   | none=>none)
  | .meth o m as=>(match ev n ρ o with
   | some ov=>(match evl (ev n ρ) as with | some xs=>methD ov m xs | none=>none)
   | none=>none)
  | .tmap f x=>(match ev n ρ f with
   | some fv=>(match ev n ρ x with
    | some xd=>(listC xd).bind λc=>(flat (λi=>(cal fv [i]).map λr=>[r]) c.xs).map .tup
    | none=>none)
   | none=>none)
  | .ksort x f=>(match ev n ρ x with
   | some xd=>(listC xd).bind λc=>(match ev n ρ f with
    | some fv=>(sortD (λa b=>cal fv [a,b]) c.xs).map .list
    | none=>none)
   | none=>none)
  | .lam ps e=>some (.lam ps e)
  | _=>none
noncomputable def evt:Nat->Rho->ME->Option D
 | 0,_,_=>none
 | n+1,ρ,e=>ob (locOf e) (λc=>(getR ρ c.y).bind monD) (ev n ρ e)
noncomputable def tv:Nat->Rho->ME->Option Bool
 | 0,_,_=>none
 | n+1,ρ,e=>match e with
  | .not a=>(tv n ρ a).map (!·)
  | .and es=>tvl (tv n ρ) es
  | .or es=>tvo (tv n ρ) es
  | .ite ..=>none
  | e=>(match evt n ρ e with | some d=>truthD d | none=>none)
noncomputable def eg:Nat->Rho->ME->List ME->List (Tx×ME×List ME)->Option (List D)
 | 0,_,_,_,_=>none
 | n+1,ρ,el,ifs,gs=>(match tvl (tv n ρ) ifs with
  | some true=>(match gs with
   | []=>(ev n ρ el).map λd=>[d]
   | (x,it,ifs')::gs'=>if isN (getR ρ x) then (match ev n ρ it with
    | some d=>(match itemsD d with
     | some xs=>flat (λi=>eg n (setR ρ x (.d i)) el ifs' gs') xs
     | none=>none)
    | none=>none) else none)
  | some false=>some []
  | none=>none)
end
end
noncomputable abbrev tx (x:Str):Tx:=x.cps.toList
noncomputable def lkp (names:List (Str×NameKind))(x:Tx):Option NameKind:=match names with
 | []=>none
 | (y,k)::r=>if eqT (tx y) x then some k else lkp r x
noncomputable def isLoc (k:Option NameKind):Bool:=match k with
 | some .local | some .cell | some .free=>true
 | _=>false
noncomputable def isLocal (k:Option NameKind):Bool:=match k with
 | some .local=>true
 | _=>false
noncomputable def isOwn (k:Option NameKind):Bool:=match k with
 | some .local | some .cell=>true
 | _=>false
noncomputable def isGlo (k:Option NameKind):Bool:=match k with
 | some .globalImplicit=>true
 | _=>false
noncomputable def tDebug:Tx:=[95,95,100,101,98,117,103,95,95]
noncomputable def tClassDict:Tx:=[95,95,99,108,97,115,115,100,105,99,116,95,95]
noncomputable def noStar (es:List Expr):Bool:=es.all λe=>!Nat.beq e.ctorIdx 22
structure NameC (v:Expr) where
 i:Str
 p:Pos
 e:v=.Name i p
noncomputable def nameOf:(v:Expr)->Option (NameC v)
 | .Name i p=>some ⟨i,p,rfl⟩
 | _=>none
noncomputable def noneDup:List Tx->Bool
 | []=>true
 | x::r=>!r.any (eqT x)&&noneDup r
section
variable (names:List (Str×NameKind))
noncomputable def isNm (t:Tx)(e:Expr):Bool:=match nameOf e with
 | some q=>eqT (tx q.i) t&&isGlo (lkp names t)
 | none=>false
end
noncomputable def tgt (names:List (Str×NameKind))(e:Expr):Option Tx:=match nameOf e with
 | some q=>if isOwn (lkp names (tx q.i)) then some (tx q.i) else none
 | none=>none
noncomputable def tTuple:Tx:=[116,117,112,108,101]
noncomputable def tMap:Tx:=[109,97,112]
noncomputable def tSorted:Tx:=[115,111,114,116,101,100]
noncomputable def tKey:Tx:=[107,101,121]
noncomputable def tCmp:Tx:=[99,109,112,95,116,111,95,107,101,121]
noncomputable def tEnum:Tx:=[101,110,117,109,101,114,97,116,101]
noncomputable def tIter:Tx:=[105,116,101,114]
noncomputable def tAppend:Tx:=[97,112,112,101,110,100]
noncomputable def tPop:Tx:=[112,111,112]
noncomputable def opOf:Operator->Option Nat
 | .Add=>some 0 | .Sub=>some 1 | .FloorDiv=>some 2 | .Mod=>some 3 | _=>none
noncomputable def cmpOf:CmpOp->Option Nat
 | .Eq=>some 0 | .NotEq=>some 1 | .Lt=>some 2 | .Gt=>some 3 | .Is=>some 4 | .IsNot=>some 5 | .In=>some 6 | .NotIn=>some 7 | _=>none
noncomputable def codeOf (names:List (Str×NameKind)):Option Nat:=match names with
 | (x,_)::_=>if eqT (tx x) [102,111,108,100,101,114,115] then some 232 else if eqT (tx x) [115,99,114,105,112,116] then some 259 else none
 | []=>none
noncomputable def qOf (c:Nat):Str:=if c=232 then "_law_least.<locals>." else "law.<locals>."
noncomputable def okNames (names:List (Str×NameKind)):Bool:=noneDup (names.map λx=>tx x.1)&&names.all λx=>match x.2 with | .local | .cell | .globalImplicit=>true | _=>false
noncomputable def lamChk (nm:List (Str×NameKind))(ps:Arguments)(sc:Scope):Bool :=
 ps.posonlyargs.isEmpty&&(isN ps.vararg&&(ps.kwonlyargs.isEmpty&&(isN ps.kwarg&&(ps.defaults.isEmpty&&(ps.kw_defaults.isEmpty&&((match sc.kind with | .function=>true | _=>false)&&(!sc.isCoroutine&&(!sc.isGenerator&&(okNames sc.names &&
  (noneDup (ps.args.map λa=>tx a.arg)&&(ps.args.all (λa=>isOwn (lkp sc.names (tx a.arg)))&&(isN (codeOf sc.names)&&!isN (codeOf nm)))))))))))))
noncomputable def okScope (sc:Scope):Bool:=(match sc.kind with | .function=>true | _=>false)&&noneDup (sc.names.map λx=>tx x.1)&&(sc.names.all λx=>(match x.2 with | .local | .cell | .free | .globalImplicit=>true | _=>false))&&isN (codeOf sc.names)
noncomputable def freeOk (nm:List (Str×NameKind))(sc:Scope):Bool:=sc.names.all λx=>match x.2 with | .free=>isLoc (lkp nm (tx x.1))&&!isLocal (lkp nm (tx x.1)) | _=>true
noncomputable def freesOf (sc:Scope):List Tx:=(sc.names.filter λx=>match x.2 with | .free=>true | _=>false).map λx=>tx x.1
noncomputable def isSet (e:Expr):Bool:=Nat.beq e.ctorIdx 7
noncomputable def isZero:Int->Bool
 | .ofNat n=>Nat.beq n 0
 | _=>false
noncomputable def cvG (f:List (Str×NameKind)->Expr->ME)(out inn:List (Str×NameKind)):List Comprehension->Option (List (Tx×ME×List ME))
 | []=>some []
 | c::r=>if isSet c.iter||!isZero c.is_async then none else (match tgt inn c.target with
  | some x=>(match cvG f inn inn r with
   | some l=>some ((x,f out c.iter,c.ifs.map (f inn))::l)
   | none=>none)
  | none=>none)
noncomputable def badBase:Expr->Bool
 | .Call (.Name ..) [] [] _=>true
 | _=>false
structure Call2 (v:Expr) where
 g:Expr
 h:Expr
 x:Expr
 p:Pos
 e:v=.Call g [h,x] [] p
noncomputable def call2:(v:Expr)->Option (Call2 v)
 | .Call g as ks p=>(match as with
  | [h,x]=>(match ks with
   | []=>some ⟨g,h,x,p,rfl⟩
   | _=>none)
  | _=>none)
 | _=>none
structure Tmap (as:List Expr) where
 g:Expr
 h:Expr
 x:Expr
 p:Pos
 e:as=[.Call g [h,x] [] p]
noncomputable def tmapArg:(as:List Expr)->Option (Tmap as)
 | [a]=>(match call2 a with
  | some c=>some ⟨c.g,c.h,c.x,c.p,by rw [<-c.e]⟩
  | none=>none)
 | _=>none
structure Call1 (v:Expr) where
 g:Expr
 h:Expr
 p:Pos
 e:v=.Call g [h] [] p
noncomputable def call1:(v:Expr)->Option (Call1 v)
 | .Call g as ks p=>(match as with
  | [h]=>(match ks with
   | []=>some ⟨g,h,p,rfl⟩
   | _=>none)
  | _=>none)
 | _=>none
structure KeyC (ks:List Keyword) where
 k:Str
 g:Expr
 h:Expr
 p:Pos
 q:Pos
 e:ks=[⟨some k,.Call g [h] [] p,q⟩]
noncomputable def keyArg:(ks:List Keyword)->Option (KeyC ks)
 | [⟨some k,v,q⟩]=>(match call1 v with
  | some c=>some ⟨k,c.g,c.h,c.p,q,by rw [<-c.e]⟩
  | none=>none)
 | _=>none
noncomputable def oneArg:List Expr->Option Expr
 | [x]=>some x
 | _=>none
noncomputable def cvCall0 (c:Expr->ME)(nm:List (Str×NameKind))(f:Expr)(as:List Expr):ME:=match tmapArg as with
 | some t=>if isNm nm tTuple f&&isNm nm tMap t.g&&noStar [t.h,t.x] then .tmap (c t.h) (c t.x) else .bad
 | none=>if noStar as&&Nat.blt as.length 20 then .call (c f) (as.map c) else .bad
noncomputable def cvCallK (c:Expr->ME)(nm:List (Str×NameKind))(f:Expr)(as:List Expr)(ks:List Keyword):ME:=match keyArg ks with
 | some t=>(match oneArg as with
  | some x=>if isNm nm tSorted f&&eqT (tx t.k) tKey&&isNm nm tCmp t.g&&noStar [x,t.h] then .ksort (c x) (c t.h) else .bad
  | none=>.bad)
 | none=>.bad
noncomputable def cvCall (c:Expr->ME)(nm:List (Str×NameKind))(f:Expr)(as:List Expr)(ks:List Keyword)(pos:Pos):ME:=match f with
 | .Attribute o m apos=>if ks.isEmpty&&!badBase o&&noStar as&&Nat.beq apos.endLine pos.line&&Nat.blt as.length 20 then .meth (c o) (tx m) (as.map c) else .bad
 | .Name i p=>if ks.isEmpty then cvCall0 c nm (.Name i p) as else cvCallK c nm (.Name i p) as ks
 | _=>.bad
noncomputable def cv:Nat->List (Str×NameKind)->Expr->ME
 | 0,_,_=>.bad
 | n+1,nm,e=>match e with
  | .Name id _=>if eqT (tx id) tDebug||eqT (tx id) tClassDict then .bad else if isLoc (lkp nm (tx id)) then .loc (tx id) else if isGlo (lkp nm (tx id)) then .glo (tx id) else .bad
  | .Constant c _ _=>(match c with | .none=>.none | .bool b=>.bool b | .int i=>.int i | .str s=>.str (tx s) | _=>.bad)
  | .BinOp l op r _=>(match opOf op with | some o=>.bin o (cv n nm l) (cv n nm r) | none=>.bad)
  | .Compare l [op] [c] _=>(match c with
   | .Set ..=>.bad
   | c=>match cmpOf op with | some o=>.cmp o (cv n nm l) (cv n nm c) | none=>.bad)
  | .BoolOp .And vs _=>.and (vs.map (cv n nm))
  | .BoolOp .Or vs _=>.or (vs.map (cv n nm))
  | .UnaryOp .Not a _=>.not (cv n nm a)
  | .UnaryOp .USub a _=>.neg (cv n nm a)
  | .IfExp c a b _=>.ite (cv n nm c) (cv n nm a) (cv n nm b)
  | .Subscript v (.Slice l u none _) _=>.sli (cv n nm v) (l.map (cv n nm)) (u.map (cv n nm))
  | .Subscript v i _=>(match i with
   | .Slice ..=>.bad
   | i=>.idx (cv n nm v) (cv n nm i))
  | .List es _=>if noStar es then .lst (es.map (cv n nm)) else .bad
  | .Tuple es _ _=>if noStar es then .tup (es.map (cv n nm)) else .bad
  | .ListComp el gs sc _=>if okScope sc&&freeOk nm sc then (match cvG (cv n) nm sc.names gs with | some l=>.comp (cv n sc.names el) l (freesOf sc) | none=>.bad) else .bad
  | .SetComp el gs sc _=>if okScope sc&&freeOk nm sc then (match cvG (cv n) nm sc.names gs with | some l=>.scomp (cv n sc.names el) l (freesOf sc) | none=>.bad) else .bad
  | .Lambda ps body sc _=>if lamChk nm ps sc then .lam (ps.args.map λa=>tx a.arg) (cv n sc.names body) else .bad
  | .Call f as ks pos=>cvCall (cv n nm) nm f as ks pos
  | _=>.bad
noncomputable def cvT (names:List (Str×NameKind)):List Expr->Option (List Tx)
 | []=>some []
 | e::r=>match tgt names e with
  | some x=>(cvT names r).map (x::·)
  | none=>none
structure AC (v:Expr) where
 o:Str
 p:Pos
 m:Str
 apos:Pos
 as:List Expr
 cp:Pos
 e:v=.Call (.Attribute (.Name o p) m apos) as [] cp
noncomputable def attrCall:(v:Expr)->Option (AC v)
 | .Call f as ks cp=>(match f with
  | .Attribute o m apos=>(match o with
   | .Name o p=>(match ks with
    | []=>some ⟨o,p,m,apos,as,cp,rfl⟩
    | _=>none)
   | _=>none)
  | _=>none)
 | _=>none
structure TupC (v:Expr) where
 ts:List Expr
 k:Nat
 p:Pos
 e:v=.Tuple ts k p
noncomputable def tupOf:(v:Expr)->Option (TupC v)
 | .Tuple ts k p=>some ⟨ts,k,p,rfl⟩
 | _=>none
noncomputable def isTup (e:Expr):Bool:=Nat.beq e.ctorIdx 25
noncomputable def ownAt (nm:List (Str×NameKind))(o:Str)(apos cp:Pos):Bool:=isOwn (lkp nm (tx o))&&!eqT (tx o) tDebug&&!eqT (tx o) tClassDict&&Nat.beq apos.endLine cp.line
structure Names2 (ts:List Expr) where
 i:Str
 p:Pos
 c:Str
 q:Pos
 e:ts=[.Name i p,.Name c q]
noncomputable def names2:(ts:List Expr)->Option (Names2 ts)
 | [a,b]=>(match nameOf a with
  | some x=>(match nameOf b with
   | some y=>some ⟨x.i,x.p,y.i,y.p,by rw [<-x.e,← y.e]⟩
   | none=>none)
  | none=>none)
 | _=>none
noncomputable def oneName:List Expr->Option Expr
 | [a]=>some a
 | _=>none
noncomputable def om {α:Type}(o:Option α)(f:α->MS)(e:MS):MS:=match o with
 | some x=>f x
 | none=>e
noncomputable def cvAsg (c:Expr->ME)(nm:List (Str×NameKind))(t v:Expr):MS :=
 om (nameOf t) (λ_=>om (tgt nm t) (λx=>om (attrCall v) (λq=>if q.as.isEmpty&&eqT (tx q.m) tPop then (if ownAt nm q.o q.apos q.cp then .popTo x (tx q.o) else .bad) else .asg x (c v)) (.asg x (c v))) .bad)
  (om (tupOf t) (λq=>if isTup v then .bad else if noStar q.ts then om (cvT nm q.ts) (λxs=>.asgT xs (c v)) .bad else .bad) .bad)
noncomputable def cvFor (c:Expr->ME)(nm:List (Str×NameKind))(t it:Expr)(body:List MS):MS:=if isSet it then .bad else
 om (nameOf t) (λ_=>om (tgt nm t) (λx=>.loop x (c it) body) .bad)
  (om (tupOf t) (λz=>om (names2 z.ts) (λt=>om (tgt nm (.Name t.i t.p)) (λx=>om (tgt nm (.Name t.c t.q)) (λy=>om (call1 it) (λq =>
   if isNm nm tEnum q.g&&noStar [q.h]&&!eqT x y then .loopE x y (c q.h) body else .bad) .bad) .bad) .bad) .bad) .bad)
noncomputable def cvExp (c:Expr->ME)(nm:List (Str×NameKind))(v:Expr):MS:=om (attrCall v) (λq=>if ownAt nm q.o q.apos q.cp then
   (if q.as.isEmpty then (if eqT (tx q.m) tPop then .pop (tx q.o) else .bad)
   else om (oneArg q.as) (λe=>if eqT (tx q.m) tAppend&&noStar [e] then .app (tx q.o) (c e) else .bad) .bad) else .bad) .bad
noncomputable def isAdd:Operator->Bool
 | .Add=>true
 | _=>false
noncomputable def cvAug (c:Expr->ME)(nm:List (Str×NameKind))(t:Expr)(op:Operator)(v:Expr):MS :=
 om (nameOf t) (λq=>if isAdd op then (if eqT (tx q.i) tClassDict then .bad else om (tgt nm t) (λx=>.aug x (c v)) .bad) else .bad) .bad
noncomputable def cvS:Nat->List (Str×NameKind)->Stmt->MS
 | 0,_,_=>.bad
 | n+1,nm,st=>match st with
  | .Assign ts v _=>(match oneName ts with
   | some t=>cvAsg (cv n nm) nm t v
   | none=>.bad)
  | .AugAssign t op v _=>cvAug (cv n nm) nm t op v
  | .Return e _=>(match e with
   | some e=>.ret (cv n nm e)
   | none=>.bad)
  | .If c a b _=>.iff (cv n nm c) (a.map (cvS n nm)) (b.map (cvS n nm))
  | .For t it body els _=>if els.isEmpty then cvFor (cv n nm) nm t it (body.map (cvS n nm)) else .bad
  | .Break _=>.brk
  | .Continue _=>.cont
  | .Expr v _=>cvExp (cv n nm) nm v
  | .Try body hs els fin _=>if hs.isEmpty then .bad else if els.isEmpty&&fin.isEmpty then .try_ (body.map (cvS n nm)) else .bad
  | _=>.bad
inductive Fl where
 | next | brk | cont
 | ret (d:D)
noncomputable def isMut:Option EV->Bool
 | some (.mut _)=>true
 | _=>false
noncomputable def isItr:Option EV->Bool
 | some (.itr _)=>true
 | _=>false
noncomputable def dropM (ρ:Rho):Rho:=ρ.filter λp=>!isMut (getR ρ p.1)
noncomputable def dropI (ρ:Rho):Rho:=ρ.filter λp=>!isItr (getR ρ p.1)
section
variable (cal:D->List D->Option D)(G:Tx->Option D)
noncomputable def K:Nat:=40
noncomputable def setsR:Rho->List Tx->List D->Rho
 | ρ,x::xs,d::ds=>setsR (setR ρ x (.d d)) xs ds
 | ρ,_,_=>ρ
noncomputable def mutE:EV->Option (List D)
 | .mut xs=>some xs
 | _=>none
noncomputable def mutR (ρ:Rho)(x:Tx):Option (List D):=(getR ρ x).bind mutE
theorem mutR_inv {ρ:Rho}{x:Tx}{xs:List D}(h:mutR ρ x=some xs):getR ρ x=some (.mut xs):=by
 refine xEA (bd_inv h) λv e h1=>?_
 rw [e]
 cases v with
 | «mut» ys=>rw [sq (show some ys=some xs from h1)]
 | d _=>exact ns h1
 | itr _=>exact ns h1
theorem mutR_of {ρ:Rho}{x:Tx}{xs:List D}(h:getR ρ x=some (.mut xs)):mutR ρ x=some xs:=by
 unfold mutR
 rw [h]
 rfl
noncomputable def isNil0:ME->Bool
 | .lst es=>es.isEmpty
 | _=>false
noncomputable def isSc (m:ME):Bool:=Nat.beq m.ctorIdx 19
structure GloC (m:ME) where
 f:Tx
 a:ME
 e:m=.call (.glo f) [a]
noncomputable def gloOf:(m:ME)->Option (GloC m)
 | .call g as=>(match g with
  | .glo f=>(match as with
   | [a]=>some ⟨f,a,rfl⟩
   | _=>none)
  | _=>none)
 | _=>none
structure StrE (v:EV) where
 s:Tx
 e:v=.d (.str s)
noncomputable def strE:(v:EV)->Option (StrE v)
 | .d d=>(match strC d with
  | some c=>some ⟨c.s,by rw [<-c.e]⟩
  | none=>none)
 | .mut _=>none
 | .itr _=>none
noncomputable def isBi3:D->Bool
 | .bi k=>Nat.beq k 3
 | _=>false
noncomputable def asgLoc (ρ:Rho)(x y:Tx):Option EV->Option (Rho×Fl)
 | some v=>(match v with
  | .d d=>some (setR ρ x (.d d),.next)
  | .mut xs=>some (setR (setR ρ y (.d (.list xs))) x (.d (.list xs)),.next)
  | .itr _=>none)
 | none=>none
noncomputable def retLoc (ρ:Rho)(y:Tx):Option EV->Option (Rho×Fl)
 | some v=>(match v with
  | .d d=>some (ρ,.ret d)
  | .mut xs=>some (setR ρ y (.d (.list xs)),.ret (.list xs))
  | .itr _=>none)
 | none=>none
noncomputable def asgV (ρ:Rho)(x:Tx):Option D->Option (Rho×Fl)
 | some d=>some (setR ρ x (.d d),.next)
 | none=>none
noncomputable def asgIt (ρ:Rho)(x:Tx)(g v:Option D):Option (Rho×Fl):=match g with
 | some g=>if isBi3 g then (match v with
  | some d=>(match listC d with | some c=>some (setR (dropI ρ) x (.itr c.xs),.next) | none=>none)
  | none=>none) else none
 | none=>none
noncomputable def asgTD (ρ:Rho)(xs:List Tx)(d:D):Option (Rho×Fl):=match tupC d with
 | some c=>if Nat.beq xs.length c.xs.length then some (setsR ρ xs c.xs,.next) else none
 | none=>if Nat.beq d.ctorIdx 10 then (match xs with | [x]=>some (setR ρ x (.d (.bool true)),.next) | _=>none) else none
noncomputable def loopD (f:Rho->D->Option (Rho×Fl)):Rho->List D->Option (Rho×Fl)
 | ρ,[]=>some (ρ,.next)
 | ρ,d::r=>match f ρ d with
  | some (ρ',.next)=>loopD f ρ' r
  | some (ρ',.cont)=>loopD f ρ' r
  | some (ρ',.brk)=>some (ρ',.next)
  | some (ρ',.ret d)=>some (ρ',.ret d)
  | none=>none
noncomputable def loopN (f:Rho->Nat->D->Option (Rho×Fl)):Rho->Nat->List D->Option (Rho×Fl)
 | ρ,_,[]=>some (ρ,.next)
 | ρ,k,d::r=>match f ρ k d with
  | some (ρ',.next)=>loopN f ρ' (k+1) r
  | some (ρ',.cont)=>loopN f ρ' (k+1) r
  | some (ρ',.brk)=>some (ρ',.next)
  | some (ρ',.ret d)=>some (ρ',.ret d)
  | none=>none
noncomputable def exl (f:Rho->MS->Option (Rho×Fl)):Rho->List MS->Option (Rho×Fl)
 | ρ,[]=>some (ρ,.next)
 | ρ,s::r=>match f ρ s with
  | some (ρ',.next)=>exl f ρ' r
  | x=>x
noncomputable def ex:Nat->Rho->MS->Option (Rho×Fl)
 | 0,_,_=>none
 | n+1,ρ,st=>match st with
  | .asg x e=>(match locOf e with
   | some c=>asgLoc ρ x c.y (getR ρ c.y)
   | none=>if isNil0 e then some (setR (dropM ρ) x (.mut []),.next) else if isSc e then none else (match gloOf e with
    | some c=>if eqT c.f tIter then asgIt ρ x (G c.f) (ev cal G K ρ c.a) else asgV ρ x (ev cal G K ρ e)
    | none=>asgV ρ x (ev cal G K ρ e)))
  | .asgT xs e=>(match ev cal G K ρ e with
   | some d=>asgTD ρ xs d
   | none=>none)
  | .aug x e=>(match getR ρ x with
   | some v=>(match strE v with
    | some a=>(match ev cal G K ρ e with
     | some d=>(match strC d with
      | some b=>if Nat.ble (a.s.length+b.s.length) lim then some (setR ρ x (.d (.str (a.s++b.s))),.next) else none
      | none=>none)
     | none=>none)
    | none=>none)
   | none=>none)
  | .ret e=>(match locOf e with
   | some c=>retLoc ρ c.y (getR ρ c.y)
   | none=>(match ev cal G K ρ e with | some d=>some (ρ,.ret d) | none=>none))
  | .iff c a b=>(match tv cal G K ρ c with
   | some true=>exl (ex n) ρ a
   | some false=>exl (ex n) ρ b
   | none=>none)
  | .loop x it body=>(match locOf it with
   | some c=>(match getR ρ c.y with
    | some v=>(match v with
     | .itr xs=>loopD (λρ d=>exl (ex n) (setR ρ x (.d d)) body) (dropI ρ) xs
     | .d d=>(match itemsD d with | some xs=>loopD (λρ d=>exl (ex n) (setR ρ x (.d d)) body) ρ xs | none=>none)
     | .mut _=>none)
    | none=>none)
   | none=>(match ev cal G K ρ it with
    | some d=>(match itemsD d with | some xs=>loopD (λρ d=>exl (ex n) (setR ρ x (.d d)) body) ρ xs | none=>none)
    | none=>none))
  | .loopE i c it body=>(ev cal G K ρ it).bind λd=>(listC d).bind λq=>loopN (λρ k d=>exl (ex n) (setR (setR ρ i (.d (.int k))) c (.d d)) body) ρ 0 q.xs
  | .brk=>some (ρ,.brk)
  | .cont=>some (ρ,.cont)
  | .app x e=>(mutR ρ x).bind λxs=>(ev cal G K ρ e).bind λd=>if Nat.blt xs.length lim then some (setR ρ x (.mut (xs++[d])),.next) else none
  | .pop x=>(mutR ρ x).bind λxs=>if xs.isEmpty then none else some (setR ρ x (.mut xs.dropLast),.next)
  | .popTo y x=>if eqT y x then none else (mutR ρ x).bind λxs=>xs.getLast?.bind λd=>some (setR (setR ρ x (.mut xs.dropLast)) y (.d d),.next)
  | .try_ body=>(match exl (ex n) ρ body with
   | some r=>some r
   | none=>none)
  | .bad=>none
end
structure MF where
 ps:List Tx
 va:Option Tx
 kw:Option Tx
 body:List MS
noncomputable def bindR:List Tx->List D->Rho->Option (Rho×List D)
 | [],ds,ρ=>some (ρ,ds)
 | x::xs,d::ds,ρ=>bindR xs ds (setR ρ x (.d d))
 | _::_,[],_=>none
noncomputable def binds (f:MF)(as:List D):Option Rho:=match bindR f.ps as [] with
 | some (ρ,rest)=>(match f.va with
  | some v=>if Nat.ble rest.length lim then some (match f.kw with | some k=>setR (setR ρ v (.d (.tup rest))) k (.d .dict0) | none=>setR ρ v (.d (.tup rest))) else none
  | none=>(match rest with | []=>(match f.kw with | some k=>some (setR ρ k (.d .dict0)) | none=>some ρ) | _=>none))
 | none=>none
section
variable (G:Tx->Option D)(fns:Nat->Option MF)(own:(D->List D->Option D)->D->List D->Option D)
noncomputable def callD:Nat->D->List D->Option D
 | 0,_,_=>none
 | n+1,f,as=>match f with
  | .at a=>(match fns a with
   | some mf=>(match binds mf as with
    | some ρ=>(match exl (ex (callD n) G K) ρ mf.body with
     | some (_,.ret d)=>some d
     | some (_,.next)=>some .none
     | _=>none)
    | none=>none)
   | none=>own (callD n) f as)
  | .lam ps e=>(match bindR ps as [] with
   | some (ρ,[])=>ev (callD n) G K ρ e
   | _=>none)
  | _=>none
end
section
noncomputable abbrev pw:Program:=PySem.Challenge.pw_kt0049_01
noncomputable def fd:Stmt->Arguments×List Stmt×Scope
 | .FunctionDef _ a b _ _ _ sc _ _ _=>(a,b,sc)
 | _=>default
noncomputable def cb (f:Str):Stmt->Arguments×List Stmt×Scope
 | .ClassDef _ _ _ b _ _ _ _ _ _ _=>b.foldr (λt r=>match t with | .FunctionDef n a b _ _ _ sc _ _ _=>(match decide (n=f) with | true=>(a,b,sc) | false=>r) | _=>r) default
 | _=>default
noncomputable def dS (i:Nat):Arguments×List Stmt×Scope:=match pw.main.body.drop i with | t::_=>fd t | []=>default
noncomputable def dM (i:Nat)(f:String):Arguments×List Stmt×Scope:=match pw.main.body.drop i with | t::_=>cb (.ofString f) t | []=>default
namespace Hd
noncomputable abbrev s (x:String)(n:Nat):Value:=.str (.ofString x) n
noncomputable abbrev i (x:Int)(n:Nat):Value:=.int x n
noncomputable abbrev r (n:Nat):Value:=.ref n
noncomputable abbrev n:Value:=.none
noncomputable abbrev oT (l:List Value):Obj:={ cls:=.type "tuple",data:=.seq ⟨l⟩ }
noncomputable abbrev oF (l:List Value):Obj:={ cls:=.none,data:=.fields ⟨l⟩ }
noncomputable abbrev oC (l:List Value):Obj:={ cls:=.type "code",data:=.fields ⟨l⟩ }
noncomputable def oM (x q:String)(d:Arguments×List Stmt×Scope)(g:Nat):Obj:={ cls:=.none,data:=.func { name:=.ofString x,qualname:=.ofString q,params:=d.1,body:=.stmts d.2.1,scope:=d.2.2,globals:=g,closure:=[],defaults:=.none,kwdefaults:=.none } }
noncomputable def oG (x q:String)(d:Arguments×List Stmt×Scope)(g:Nat)(df m c:Value):Obj:={ cls:=.type "function",data:=.func { name:=.ofString x,qualname:=.ofString q,params:=d.1,body:=.stmts d.2.1,scope:=d.2.2,globals:=g,closure:=[],defaults:=df,kwdefaults:=.none,pyModule:=m,code:=c } }
noncomputable abbrev e (P:Params)(k:String)(t:Nat)(v:Value):DictEntry:={ hash:=PyData.keyHash P (.ofString k),key:=.str (.ofString k) t,val:=v }
noncomputable abbrev oD (v:Nat)(l:List DictEntry):Obj:={ cls:=.type "dict",data:=.dict ⟨l⟩ v }
noncomputable def hp0 (P:Params):List Obj :=
 [PySem.W.boot_o_0 P,
  PySem.W.boot_o_1 P,
  PySem.W.boot_o_2 P,
  oD 39 [e P "__name__" 165 (s "law_kt0049_01" 472),e P "__doc__" 166 (n),e P "__package__" 167 (n),e P "__loader__" 168 (Value.builtin "__main__.__loader__#opaque"),e P "__spec__" 169 (n),e P "__annotations__" 170 (r 6),e P "__builtins__" 171 (r 4),e P "__file__" 173 (s "/claim/cut.py" 172),e P "__cached__" 174 (n),e P "_wall" 193 (r 21),e P "sep" 197 (s "/" 196),e P "_plain_name" 206 (r 28),e P "ABCMeta" 232 (r 45),e P "_ABCLike" 275 (r 78),e P "_abc_plain_meta" 282 (r 87),e P "fspath" 294 (r 94),e P "_kind" 305 (r 101),e P "_c_path" 318 (r 108),e P "_shelf_fresh" 325 (r 115),e P "_splitroot" 334 (r 122),e P "_normpath" 349 (r 129),e P "normpath" 357 (r 136),e P "_Ignore" 399 (r 159),e P "cmp_to_key" 410 (r 170),e P "_initial_missing" 411 (r 171),e P "reduce" 423 (r 179),e P "_check_arg_types" 436 (r 186),e P "_get_sep" 445 (r 193),e P "join" 456 (r 200),e P "basename" 465 (r 207),e P "commonpath" 471 (r 212),e P "_law_places" 479 (r 219),e P "_law_ahead" 487 (r 226),e P "_law_least" 494 (r 233),e P "_law_deeper" 503 (r 240),e P "_law_if" 509 (r 245),e P "_law_deed" 515 (r 250),e P "_law_meant" 521 (r 255),e P "law" 527 (r 260)],
  PySem.W.boot_o_4 P,
  PySem.W.boot_o_5 P,
  PySem.W.boot_o_6 P,
  PySem.W.boot_o_7 P,
  PySem.W.boot_o_8 P,
  PySem.W.boot_o_9 P,
  PySem.W.boot_o_10 P,
  oT [],
  oF [i 1 0,i 0 0,r 20,i 6 0,i 0 0,r 27,i 12 0,i 0 0,r 34,i 17 0,i 0 0,r 53,i 32 0,i 0 0,r 86,i 36 0,i 0 0,r 93,i 53 0,i 0 0,r 100,i 74 0,i 0 0,r 107,i 85 0,i 0 0,r 114,i 87 0,i 0 0,r 121,i 96 0,i 0 0,r 128,i 117 0,i 0 0,r 135,i 120 0,i 0 0,r 142,i 147 0,i 0 0,r 169,i 173 0,i 0 0,r 178,i 186 0,i 0 0,r 185,i 198 0,i 0 0,r 192,i 203 0,i 0 0,r 199,i 220 0,i 0 0,r 206,i 225 0,i 0 0,r 211,i 255 0,i 0 0,r 218,i 257 0,i 0 0,r 225,i 261 0,i 0 0,r 232,i 263 0,i 0 0,r 239,i 270 0,i 0 0,r 244,i 278 0,i 0 0,r 249,i 289 0,i 0 0,r 254,i 306 0,i 0 0,r 259],
  oC [s "<module>" 182,s "<module>" 183,s "/claim/cut.py" 184,i 1 0,i 0 0,i 0 0,i 0 0,i 0 0,r 11,Value.bool false,i 181 0,r 12,n,n,n,n,i 185 0,i 1 0,s "/claim/cut.py" 186],
  { cls:=Value.type "frame",slots:=#[some (r 13),some (r 3),some (r 3),none,some (s "__main__" 164),none,some (r 0)] },
  oT [],
  oF [],
  oT [s "k" 190],
  oT [],
  oM "_wall" "_wall" (dS 0) 0,
  oC [s "_wall" 187,s "_wall" 188,s "/claim/cut.py" 189,i 1 0,i 1 0,i 0 0,i 0 0,i 3 0,r 15,Value.bool true,i 181 0,r 16,n,r 17,r 18,r 19,i 191 0,i 1 0,s "/claim/cut.py" 192],
  oG "_wall" "_wall" (dS 0) 3 (n) (s "__main__" 164) (r 20),
  oT [],
  oF [],
  oT [s "x" 201,s "what" 202,s "kind" 203],
  oT [],
  oM "_plain_name" "_plain_name" (dS 3) 0,
  oC [s "_plain_name" 198,s "_plain_name" 199,s "/claim/cut.py" 200,i 6 0,i 2 0,i 0 0,i 0 0,i 3 0,r 22,Value.bool true,i 181 0,r 23,n,r 24,r 25,r 26,i 204 0,i 6 0,s "/claim/cut.py" 205],
  oG "_plain_name" "_plain_name" (dS 3) 3 (n) (s "os" 194) (r 27),
  oT [Value.type "type"],
  { cls:=Value.type "builtin_function_or_method",data:=Data.fields #[Value.builtin "type.__prepare__",Value.type "type"] },
  oD 5 [e P "__module__" 216 (s "abc" 207),e P "__qualname__" 218 (s "ABCMeta" 217),e P "__firstlineno__" 220 (i 12 219),e P "register" 228 (r 42),e P "__static_attributes__" 229 (r 43)],
  oT [],
  oF [i 14 0,i 4 0,r 41],
  oC [s "ABCMeta" 211,s "ABCMeta" 212,s "/claim/cut.py" 213,i 12 0,i 0 0,i 0 0,i 0 0,i 0 0,r 32,Value.bool false,i 181 0,r 33,n,n,n,n,i 214 0,i 12 0,s "/claim/cut.py" 215],
  { cls:=Value.type "frame",slots:=#[some (r 34),some (r 3),some (r 31),none,some (s "abc" 207),none,some (r 0)] },
  oT [],
  oF [],
  oT [s "cls" 224,s "subclass" 225],
  oT []]
noncomputable def hp1 (P:Params):List Obj :=
 [oM "register" "ABCMeta.register" (dM 5 "register") 0,
  oC [s "register" 221,s "ABCMeta.register" 222,s "/claim/cut.py" 223,i 14 0,i 2 0,i 0 0,i 0 0,i 3 0,r 36,Value.bool true,i 181 0,r 37,n,r 38,r 39,r 40,i 226 0,i 14 0,s "/claim/cut.py" 227],
  oG "register" "ABCMeta.register" (dM 5 "register") 3 (n) (s "abc" 207) (r 41),
  oT [],
  oD 2 [e P "__module__" 216 (s "abc" 207),e P "__firstlineno__" 220 (i 12 219),e P "register" 228 (r 42),e P "__static_attributes__" 229 (r 43),e P "__doc__" 230 (n)],
  { cls:=Value.type "type",data:=Data.cls { name:=(Str.ofString "ABCMeta"),bases:=[Value.type "type"],mro:=[r 45,Value.type "type",Value.type "object"],ns:=44,qualname:=(Str.ofString "ABCMeta"),subclasses:=[r 78] },slots:=#[some (r 29),none,some (s "ABCMeta" 209),some (s "ABCMeta" 217),some (Value.builtin "type.__new__"),some (Value.bool true)] },
  { cls:=Value.type "super",data:=Data.fields #[r 45,r 45,r 45] },
  { cls:=Value.type "builtin_function_or_method",data:=Data.fields #[Value.builtin "object.__init_subclass__",r 45] },
  oT [r 45],
  { cls:=Value.type "builtin_function_or_method",data:=Data.fields #[Value.builtin "type.__prepare__",Value.type "type"] },
  oD 7 [e P "__module__" 242 (s "collections.abc" 233),e P "__qualname__" 244 (s "_ABCLike" 243),e P "__firstlineno__" 246 (i 17 245),e P "__instancecheck__" 255 (r 61),e P "__subclasscheck__" 263 (r 68),e P "register" 271 (r 75),e P "__static_attributes__" 272 (r 76)],
  oT [],
  oF [i 19 0,i 4 0,r 60,i 25 0,i 4 0,r 67,i 30 0,i 4 0,r 74],
  oC [s "_ABCLike" 237,s "_ABCLike" 238,s "/claim/cut.py" 239,i 17 0,i 0 0,i 0 0,i 0 0,i 0 0,r 51,Value.bool false,i 181 0,r 52,n,n,n,n,i 240 0,i 17 0,s "/claim/cut.py" 241],
  { cls:=Value.type "frame",slots:=#[some (r 53),some (r 3),some (r 50),none,some (s "collections.abc" 233),none,some (r 0)] },
  oT [],
  oF [],
  oT [s "cls" 250,s "instance" 251,s "C" 252],
  oT [],
  oM "__instancecheck__" "_ABCLike.__instancecheck__" (dM 7 "__instancecheck__") 0,
  oC [s "__instancecheck__" 247,s "_ABCLike.__instancecheck__" 248,s "/claim/cut.py" 249,i 19 0,i 2 0,i 0 0,i 0 0,i 3 0,r 55,Value.bool true,i 181 0,r 56,n,r 57,r 58,r 59,i 253 0,i 19 0,s "/claim/cut.py" 254],
  oG "__instancecheck__" "_ABCLike.__instancecheck__" (dM 7 "__instancecheck__") 3 (n) (s "collections.abc" 233) (r 60),
  oT [],
  oF [],
  oT [s "cls" 259,s "C" 260],
  oT [],
  oM "__subclasscheck__" "_ABCLike.__subclasscheck__" (dM 7 "__subclasscheck__") 0,
  oC [s "__subclasscheck__" 256,s "_ABCLike.__subclasscheck__" 257,s "/claim/cut.py" 258,i 25 0,i 2 0,i 0 0,i 0 0,i 3 0,r 62,Value.bool true,i 181 0,r 63,n,r 64,r 65,r 66,i 261 0,i 25 0,s "/claim/cut.py" 262],
  oG "__subclasscheck__" "_ABCLike.__subclasscheck__" (dM 7 "__subclasscheck__") 3 (n) (s "collections.abc" 233) (r 67),
  oT [],
  oF [],
  oT [s "cls" 267,s "subclass" 268],
  oT [],
  oM "register" "_ABCLike.register" (dM 7 "register") 0,
  oC [s "register" 264,s "_ABCLike.register" 265,s "/claim/cut.py" 266,i 30 0,i 2 0,i 0 0,i 0 0,i 3 0,r 69,Value.bool true,i 181 0,r 70,n,r 71,r 72,r 73,i 269 0,i 30 0,s "/claim/cut.py" 270],
  oG "register" "_ABCLike.register" (dM 7 "register") 3 (n) (s "collections.abc" 233) (r 74),
  oT [],
  oD 2 [e P "__module__" 242 (s "collections.abc" 233),e P "__firstlineno__" 246 (i 17 245),e P "__instancecheck__" 255 (r 61),e P "__subclasscheck__" 263 (r 68),e P "register" 271 (r 75),e P "__static_attributes__" 272 (r 76),e P "__doc__" 273 (n)],
  { cls:=Value.type "type",data:=Data.cls { name:=(Str.ofString "_ABCLike"),bases:=[r 45],mro:=[r 78,r 45,Value.type "type",Value.type "object"],ns:=77,qualname:=(Str.ofString "_ABCLike") },slots:=#[some (r 48),none,some (s "_ABCLike" 235),some (s "_ABCLike" 243),some (Value.builtin "type.__new__"),some (Value.bool true)] },
  { cls:=Value.type "super",data:=Data.fields #[r 78,r 78,r 78] }]
noncomputable def hp2 (P:Params):List Obj :=
 [{ cls:=Value.type "builtin_function_or_method",data:=Data.fields #[Value.builtin "object.__init_subclass__",r 78] },
  oT [],
  oF [],
  oT [s "C" 279],
  oT [],
  oM "_abc_plain_meta" "_abc_plain_meta" (dS 8) 0,
  oC [s "_abc_plain_meta" 276,s "_abc_plain_meta" 277,s "/claim/cut.py" 278,i 32 0,i 1 0,i 0 0,i 0 0,i 3 0,r 81,Value.bool true,i 181 0,r 82,n,r 83,r 84,r 85,i 280 0,i 32 0,s "/claim/cut.py" 281],
  oG "_abc_plain_meta" "_abc_plain_meta" (dS 8) 3 (n) (s "collections.abc" 233) (r 86),
  oT [],
  oF [],
  oT [s "path" 288,s "kind" 289,s "hook" 290,s "given" 291],
  oT [],
  oM "fspath" "fspath" (dS 10) 0,
  oC [s "fspath" 285,s "fspath" 286,s "/claim/cut.py" 287,i 36 0,i 1 0,i 0 0,i 0 0,i 3 0,r 88,Value.bool true,i 181 0,r 89,n,r 90,r 91,r 92,i 292 0,i 36 0,s "/claim/cut.py" 293],
  oG "fspath" "fspath" (dS 10) 3 (n) (s "os" 283) (r 93),
  oT [],
  oF [],
  oT [s "name" 300,s "x" 301,s "t" 302],
  oT [],
  oM "_kind" "_kind" (dS 12) 0,
  oC [s "_kind" 297,s "_kind" 298,s "/claim/cut.py" 299,i 53 0,i 2 0,i 0 0,i 0 0,i 3 0,r 95,Value.bool true,i 181 0,r 96,n,r 97,r 98,r 99,i 303 0,i 53 0,s "/claim/cut.py" 304],
  oG "_kind" "_kind" (dS 12) 3 (n) (s "os.path" 295) (r 100),
  oT [],
  oF [],
  oT [s "name" 309,s "cname" 310,s "argname" 311,s "args" 312,s "kwargs" 313,s "x" 314,s "k" 315],
  oT [],
  oM "_c_path" "_c_path" (dS 13) 0,
  oC [s "_c_path" 306,s "_c_path" 307,s "/claim/cut.py" 308,i 74 0,i 5 0,i 0 0,i 0 0,i 3 0,r 102,Value.bool true,i 181 0,r 103,n,r 104,r 105,r 106,i 316 0,i 74 0,s "/claim/cut.py" 317],
  oG "_c_path" "_c_path" (dS 13) 3 (n) (s "os.path" 295) (r 107),
  oT [],
  oF [],
  oT [s "s" 322],
  oT [],
  oM "_shelf_fresh" "_shelf_fresh" (dS 14) 0,
  oC [s "_shelf_fresh" 319,s "_shelf_fresh" 320,s "/claim/cut.py" 321,i 85 0,i 1 0,i 0 0,i 0 0,i 3 0,r 109,Value.bool true,i 181 0,r 110,n,r 111,r 112,r 113,i 323 0,i 85 0,s "/claim/cut.py" 324],
  oG "_shelf_fresh" "_shelf_fresh" (dS 14) 3 (n) (s "os.path" 295) (r 114),
  oT [],
  oF [],
  oT [s "p" 329,s "sep" 330,s "empty" 331],
  oT []]
noncomputable def hp3 (P:Params):List Obj :=
 [oM "_splitroot" "_splitroot" (dS 15) 0,
  oC [s "_splitroot" 326,s "_splitroot" 327,s "/claim/cut.py" 328,i 87 0,i 1 0,i 0 0,i 0 0,i 3 0,r 116,Value.bool true,i 181 0,r 117,n,r 118,r 119,r 120,i 332 0,i 87 0,s "/claim/cut.py" 333],
  oG "_splitroot" "_splitroot" (dS 15) 3 (n) (s "os.path" 295) (r 121),
  oT [],
  oF [],
  oT [s "path" 338,s "sep" 339,s "dot" 340,s "dotdot" 341,s "_" 342,s "initial_slashes" 343,s "comps" 344,s "new_comps" 345,s "comp" 346],
  oT [],
  oM "_normpath" "_normpath" (dS 16) 0,
  oC [s "_normpath" 335,s "_normpath" 336,s "/claim/cut.py" 337,i 96 0,i 1 0,i 0 0,i 0 0,i 3 0,r 123,Value.bool true,i 181 0,r 124,n,r 125,r 126,r 127,i 347 0,i 96 0,s "/claim/cut.py" 348],
  oG "_normpath" "_normpath" (dS 16) 3 (n) (s "os.path" 295) (r 128),
  oT [],
  oF [],
  oT [s "args" 353,s "kwargs" 354],
  oT [],
  oM "normpath" "normpath" (dS 17) 0,
  oC [s "normpath" 350,s "normpath" 351,s "/claim/cut.py" 352,i 117 0,i 0 0,i 0 0,i 0 0,i 15 0,r 130,Value.bool true,i 181 0,r 131,n,r 132,r 133,r 134,i 355 0,i 117 0,s "/claim/cut.py" 356],
  oG "normpath" "normpath" (dS 17) 3 (n) (s "os.path" 295) (r 135),
  oT [],
  { cls:=Value.type "builtin_function_or_method",data:=Data.fields #[Value.builtin "type.__prepare__",Value.type "type"] },
  oD 6 [e P "__module__" 367 (s "cpy313.trace" 358),e P "__qualname__" 369 (s "_Ignore" 368),e P "__firstlineno__" 371 (i 120 370),e P "__init__" 377 (r 149),e P "names" 388 (r 156),e P "__static_attributes__" 392 (r 157)],
  oT [],
  oF [i 122 0,i 4 0,r 148,i 127 0,i 4 0,r 155],
  oC [s "_Ignore" 362,s "_Ignore" 363,s "/claim/cut.py" 364,i 120 0,i 0 0,i 0 0,i 0 0,i 0 0,r 140,Value.bool false,i 181 0,r 141,n,n,n,n,i 365 0,i 120 0,s "/claim/cut.py" 366],
  { cls:=Value.type "frame",slots:=#[some (r 142),some (r 3),some (r 139),none,some (s "cpy313.trace" 358),none,some (r 0)] },
  oT [n,n],
  oT [],
  oF [],
  oM "__init__" "_Ignore.__init__" (dM 19 "__init__") 0,
  oC [s "__init__" 372,s "_Ignore.__init__" 373,s "/claim/cut.py" 374,i 122 0,i 3 0,i 0 0,i 0 0,i 3 0,r 145,Value.bool true,i 181 0,r 146,n,n,n,r 147,i 375 0,i 122 0,s "/claim/cut.py" 376],
  oG "__init__" "_Ignore.__init__" (dM 19 "__init__") 3 (r 144) (s "cpy313.trace" 358) (r 148),
  oT [],
  oF [],
  oT [s "self" 381,s "filename" 382,s "modulename" 383,s "mod" 384,s "d" 385],
  oT [],
  oM "names" "_Ignore.names" (dM 19 "names") 0,
  oC [s "names" 378,s "_Ignore.names" 379,s "/claim/cut.py" 380,i 127 0,i 3 0,i 0 0,i 0 0,i 3 0,r 150,Value.bool true,i 181 0,r 151,n,r 152,r 153,r 154,i 386 0,i 127 0,s "/claim/cut.py" 387],
  oG "names" "_Ignore.names" (dM 19 "names") 3 (n) (s "cpy313.trace" 358) (r 155),
  oT [s "_dirs" 389,s "_ignore" 390,s "_mods" 391],
  oD 4 [e P "__module__" 367 (s "cpy313.trace" 358),e P "__firstlineno__" 371 (i 120 370),e P "__init__" 377 (r 149),e P "names" 388 (r 156),e P "__static_attributes__" 392 (r 157),e P "__dict__" 394 (r 160),e P "__weakref__" 396 (r 161),e P "__doc__" 397 (n)],
  { cls:=Value.type "type",data:=Data.cls { name:=(Str.ofString "_Ignore"),bases:=[Value.type "object"],mro:=[r 159,Value.type "object"],ns:=158,qualname:=(Str.ofString "_Ignore") },slots:=#[none,none,some (s "_Ignore" 360),some (s "_Ignore" 368),some (Value.builtin "object.__new__"),some (Value.bool true)] }]
noncomputable def hp4 (P:Params):List Obj :=
 [{ cls:=Value.type "getset_descriptor",data:=Data.fields #[s "__dict__" 393,r 159,Value.builtin "function.__dict__",Value.builtin "function.__dict__#set"] },
  { cls:=Value.type "getset_descriptor",data:=Data.fields #[s "__weakref__" 395,r 159,Value.builtin "ExceptionGroup.__weakref__",n] },
  { cls:=Value.type "super",data:=Data.fields #[r 159,r 159,r 159] },
  { cls:=Value.type "builtin_function_or_method",data:=Data.fields #[Value.builtin "object.__init_subclass__",r 159] },
  oT [],
  oF [],
  oT [s "mycmp" 405,s "K" 406],
  oT [s "mycmp" 407],
  oM "cmp_to_key" "cmp_to_key" (dS 21) 0,
  oC [s "cmp_to_key" 402,s "cmp_to_key" 403,s "/claim/cut.py" 404,i 147 0,i 1 0,i 0 0,i 0 0,i 3 0,r 164,Value.bool true,i 181 0,r 165,n,r 166,r 167,r 168,i 408 0,i 147 0,s "/claim/cut.py" 409],
  oG "cmp_to_key" "cmp_to_key" (dS 21) 3 (n) (s "cpy313.functools" 400) (r 169),
  { cls:=Value.type "object" },
  oT [r 171],
  oT [],
  oF [],
  oT [s "function" 415,s "sequence" 416,s "initial" 417,s "it" 418,s "value" 419,s "element" 420],
  oT [],
  oM "reduce" "reduce" (dS 23) 0,
  oC [s "reduce" 412,s "reduce" 413,s "/claim/cut.py" 414,i 173 0,i 3 0,i 0 0,i 0 0,i 3 0,r 173,Value.bool true,i 181 0,r 174,n,r 175,r 176,r 177,i 421 0,i 173 0,s "/claim/cut.py" 422],
  oG "reduce" "reduce" (dS 23) 3 (r 172) (s "cpy313.functools" 400) (r 178),
  oT [],
  oF [],
  oT [s "funcname" 429,s "args" 430,s "hasstr" 431,s "hasbytes" 432,s "s" 433],
  oT [],
  oM "_check_arg_types" "_check_arg_types" (dS 25) 0,
  oC [s "_check_arg_types" 426,s "_check_arg_types" 427,s "/claim/cut.py" 428,i 186 0,i 1 0,i 0 0,i 0 0,i 7 0,r 180,Value.bool true,i 181 0,r 181,n,r 182,r 183,r 184,i 434 0,i 186 0,s "/claim/cut.py" 435],
  oG "_check_arg_types" "_check_arg_types" (dS 25) 3 (n) (s "cpy313.genericpath" 424) (r 185),
  oT [],
  oF [],
  oT [s "path" 442],
  oT [],
  oM "_get_sep" "_get_sep" (dS 27) 0,
  oC [s "_get_sep" 439,s "_get_sep" 440,s "/claim/cut.py" 441,i 198 0,i 1 0,i 0 0,i 0 0,i 3 0,r 187,Value.bool true,i 181 0,r 188,n,r 189,r 190,r 191,i 443 0,i 198 0,s "/claim/cut.py" 444],
  oG "_get_sep" "_get_sep" (dS 27) 3 (n) (s "cpy313.posixpath" 437) (r 192),
  oT [],
  oF [],
  oT [s "a" 449,s "p" 450,s "sep" 451,s "path" 452,s "b" 453],
  oT [],
  oM "join" "join" (dS 28) 0,
  oC [s "join" 446,s "join" 447,s "/claim/cut.py" 448,i 203 0,i 1 0,i 0 0,i 0 0,i 7 0,r 194,Value.bool true,i 181 0,r 195,n,r 196,r 197,r 198,i 454 0,i 203 0,s "/claim/cut.py" 455]]
noncomputable def hp5 (P:Params):List Obj :=
 [oG "join" "join" (dS 28) 3 (n) (s "cpy313.posixpath" 437) (r 199),
  oT [],
  oF [],
  oT [s "p" 460,s "sep" 461,s "i" 462],
  oT [],
  oM "basename" "basename" (dS 29) 0,
  oC [s "basename" 457,s "basename" 458,s "/claim/cut.py" 459,i 220 0,i 1 0,i 0 0,i 0 0,i 3 0,r 201,Value.bool true,i 181 0,r 202,n,r 203,r 204,r 205,i 463 0,i 220 0,s "/claim/cut.py" 464],
  oG "basename" "basename" (dS 29) 3 (n) (s "cpy313.posixpath" 437) (r 206),
  oT [],
  oF [],
  oM "commonpath" "commonpath" (dS 30) 0,
  oC [s "commonpath" 466,s "commonpath" 467,s "/claim/cut.py" 468,i 225 0,i 1 0,i 0 0,i 0 0,i 3 0,r 208,Value.bool true,i 181 0,r 209,n,n,n,r 210,i 469 0,i 225 0,s "/claim/cut.py" 470],
  oG "commonpath" "commonpath" (dS 30) 3 (n) (s "cpy313.posixpath" 437) (r 211),
  oT [],
  oF [],
  oT [],
  oT [],
  oM "_law_places" "_law_places" (dS 32) 0,
  oC [s "_law_places" 474,s "_law_places" 475,s "/claim/cut.py" 476,i 255 0,i 0 0,i 0 0,i 0 0,i 3 0,r 213,Value.bool true,i 181 0,r 214,n,r 215,r 216,r 217,i 477 0,i 255 0,s "/claim/cut.py" 478],
  oG "_law_places" "_law_places" (dS 32) 3 (n) (s "law_kt0049_01" 472) (r 218),
  oT [],
  oF [],
  oT [s "one" 483,s "other" 484],
  oT [],
  oM "_law_ahead" "_law_ahead" (dS 33) 0,
  oC [s "_law_ahead" 480,s "_law_ahead" 481,s "/claim/cut.py" 482,i 257 0,i 2 0,i 0 0,i 0 0,i 3 0,r 220,Value.bool true,i 181 0,r 221,n,r 222,r 223,r 224,i 485 0,i 257 0,s "/claim/cut.py" 486],
  oG "_law_ahead" "_law_ahead" (dS 33) 3 (n) (s "law_kt0049_01" 472) (r 225),
  oT [],
  oF [],
  oT [s "folders" 491],
  oT [],
  oM "_law_least" "_law_least" (dS 34) 0,
  oC [s "_law_least" 488,s "_law_least" 489,s "/claim/cut.py" 490,i 261 0,i 1 0,i 0 0,i 0 0,i 3 0,r 227,Value.bool true,i 181 0,r 228,n,r 229,r 230,r 231,i 492 0,i 261 0,s "/claim/cut.py" 493],
  oG "_law_least" "_law_least" (dS 34) 3 (n) (s "law_kt0049_01" 472) (r 232),
  oT [],
  oF [],
  oT [s "one" 498,s "other" 499,s "shared" 500],
  oT [],
  oM "_law_deeper" "_law_deeper" (dS 35) 0,
  oC [s "_law_deeper" 495,s "_law_deeper" 496,s "/claim/cut.py" 497,i 263 0,i 2 0,i 0 0,i 0 0,i 3 0,r 234,Value.bool true,i 181 0,r 235,n,r 236,r 237,r 238,i 501 0,i 263 0,s "/claim/cut.py" 502]]
noncomputable def hp6 (P:Params):List Obj :=
 [oG "_law_deeper" "_law_deeper" (dS 35) 3 (n) (s "law_kt0049_01" 472) (r 239),
  oT [],
  oF [],
  oM "_law_if" "_law_if" (dS 36) 0,
  oC [s "_law_if" 504,s "_law_if" 505,s "/claim/cut.py" 506,i 270 0,i 2 0,i 0 0,i 0 0,i 3 0,r 241,Value.bool true,i 181 0,r 242,n,n,n,r 243,i 507 0,i 270 0,s "/claim/cut.py" 508],
  oG "_law_if" "_law_if" (dS 36) 3 (n) (s "law_kt0049_01" 472) (r 244),
  oT [],
  oF [],
  oM "_law_deed" "_law_deed" (dS 37) 0,
  oC [s "_law_deed" 510,s "_law_deed" 511,s "/claim/cut.py" 512,i 278 0,i 2 0,i 0 0,i 0 0,i 3 0,r 246,Value.bool true,i 181 0,r 247,n,n,n,r 248,i 513 0,i 278 0,s "/claim/cut.py" 514],
  oG "_law_deed" "_law_deed" (dS 37) 3 (n) (s "law_kt0049_01" 472) (r 249),
  oT [],
  oF [],
  oM "_law_meant" "_law_meant" (dS 38) 0,
  oC [s "_law_meant" 516,s "_law_meant" 517,s "/claim/cut.py" 518,i 289 0,i 1 0,i 0 0,i 0 0,i 3 0,r 251,Value.bool true,i 181 0,r 252,n,n,n,r 253,i 519 0,i 289 0,s "/claim/cut.py" 520],
  oG "_law_meant" "_law_meant" (dS 38) 3 (n) (s "law_kt0049_01" 472) (r 254),
  oT [],
  oF [],
  oM "law" "law" (dS 39) 0,
  oC [s "law" 522,s "law" 523,s "/claim/cut.py" 524,i 306 0,i 1 0,i 0 0,i 0 0,i 3 0,r 256,Value.bool true,i 181 0,r 257,n,n,n,r 258,i 525 0,i 306 0,s "/claim/cut.py" 526],
  oG "law" "law" (dS 39) 3 (n) (s "law_kt0049_01" 472) (r 259)]
end Hd
open Hd in
noncomputable def H1 (P:Params):Heap:={ objs:=⟨hp0 P++(hp1 P++(hp2 P++(hp3 P++(hp4 P++(hp5 P++(hp6 P))))))⟩ }
end
section
set_option tactic.hygienic true
theorem run (w:World)(os:OsState):topRun treeTable pw w 11 (some (.ref 6)) 1700 ⟨boot_heap w.params,#[],boot_drawn,boot_toks,os⟩ (topStub pw)=some ⟨H1 w.params,#[],{},528,os⟩:=by
 rw [PySem.W.Fast.te14082659384304107361,PySem.W.Fast.te14364793385576792824]
 kernel_rfl
end
section
set_option tactic.hygienic true
noncomputable def keepIdx:List Nat:=[39]
noncomputable def q:Program:=view pw keepIdx
noncomputable def loose:List Str:=["_wall","sep","_plain_name","ABCMeta","_ABCLike","_abc_plain_meta","fspath","_kind","_c_path","_shelf_fresh","_splitroot","_normpath","normpath","_Ignore","cmp_to_key","_initial_missing","reduce","_check_arg_types","_get_sep","join","basename","commonpath","_law_places","_law_ahead","_law_least","_law_deeper","_law_if","_law_deed","_law_meant"].map .ofString
theorem open1:opening pw=plainProg (Scope.names (Module.scope pw.main)):=by kernel_rfl
theorem open2 (s:Shared):fenceModules? pw s=some s:=by kernel_rfl
theorem size_ (w:World):((boot_heap w.params).isNs mainGlobals&&(#[]:Array GenState).size == 0,(boot_heap w.params).objs.size,(boot_heap w.params).nsMap mainGlobals "__annotations__")=(true,11,some (.ref 6)):=by kernel_rfl
theorem looks1 (w:World)(os:OsState):(staticsOk (importedModules pw.main.body) (boot_heap w.params) (H1 w.params)&&namesBound pw (H1 w.params)&&gensDone ⟨H1 w.params,#[],{},528,os⟩&&laidKept (boot_heap w.params) (H1 w.params))=true:=by kernel_rfl
theorem looks2 (w:World)(os:OsState):openSeen q loose (importedModules pw.main.body) (λ_=>true) true ⟨H1 w.params,#[],{},528,os⟩=openGood q loose:=by
 rw [PySem.W.Fast.te4187177175401517315]
 kernel_rfl
end
section
open PySem.W.X
theorem said:OpenLaw.wellSaid PySem.Challenge.rw_kt0049_01=true:=by kernel_rfl
theorem left:LeftO pw q loose (λ_=>true) (λs=>(s.heap,s.toks)) (λw=>(H1 w.params,528)) 4000 :=
 LeftO.of_pieces (H₀:=boot_heap) (H₁:=H1) (gs₀:=⟨[]⟩) (gs₁:=#[]) (d₀:=boot_drawn) (d₁:={}) (k₀:=boot_toks) (k₁:=528) (m₀:=11) (ann:=some (.ref 6)) (M:=1700)
  (boot_open open1 (by decide +kernel) open2) size_ run (by decide +kernel) (λw=>by
   funext os
   rw [looks1,looks2])
structure Start (w:World)(s:Shared)(ns:List Int)(vs:List Value):Prop where
 keep:∀ a o,(H1 w.params).get? a=some o->s.heap.get? a=some o
 size:s.heap.objs.size=262
 lst:s.heap.IsList 261 vs.toArray
 its:IntsAre vs ns
 len:ns.length<=63
 gens:s.gens=#[]
 nolimit:s.heap.NoLimit
theorem head (walk:∀ w s ns vs,Start w s ns vs->wpAny (model pw w) callerA (call (.ref 260) [.ref 261]) (λv s'=>v=.bool true/\OldK s.heap s'.heap/\s'.os=s.os/\s'.gens=#[]) (λ_ _=>False) s):PySem.Challenge.rw_kt0049_01.Holds:=by
 refine holds_law said λok=>?_
 refine holds_openX (q:=q) (loose:=loose) (Xt:=λ_=>true) (XP:=λ_ _=>True) (Yf:=λs=>(s.heap,s.toks)) (Ya:=λw=>(H1 w.params,528)) (N:=4000) left (λ_ _=>trivial) (λ_ _ _ _ _=>trivial) (by rfl) (by rfl) (by rfl) (λ_ _=>recFacts_nil rfl) (by rfl) ok (by decide +kernel) ⟨rfl,rfl,rfl,rfl,rfl,by decide +kernel⟩ ?hw ?hc
 case hw=>w_witness2
 intro w s₀ s₁ mg mb G y fa o pm cd doc dV kV ho hd hcd hD hmg hg args vals as L hpre hlay hrd hwl hlo
 clear hd hcd hD ho
 refine Ground.open G ?_
 intro T B D TE TW
 clear B D TE TW
 have e1:s₀.heap=H1 w.params:=congrArg Prod.fst y
 have lim:=T.nolimit
 have ffa:fa=260:=by
  have g:=T.g
  obtain ⟨og,es,ep,hgo,hgd,_,hf⟩:=g
  have h3:s₁.heap.get? 3=_:=L.keeps 3 _ (by rw [e1];exact (rfl:(H1 w.params).get? 3=some _))
  have h4:=hgo.symm.trans h3
  cases h4
  cases hgd
  have:mg "law" = some (.ref 260):=by rw [<-hf];kernel_rfl
  have h2:mg "law" = some (.ref fa):=hmg
  rw [this] at h2
  cases h2
  rfl
 subst ffa
 clear hmg G T y
 wrow_args hpre hlay hrd hwl hlo
 obtain ⟨hat,hsz⟩:=script_at L
 rw [e1] at hat hsz
 subst hat
 have hsize:(H1 w.params).objs.size=261:=rfl
 have st:Start w s₁ _ _:=⟨λa o e=>L.keeps a o (by rw [e1];exact e),by rw [hsz,hsize],by rw [<-hsize];exact ‹Heap.IsList _ _ _›,‹IntsAre _ _›,by omega,hg,lim⟩
 refine wpAny_mono (walk w s₁ _ _ st) (λv s' h=>?_) (λ_ _ h=>h.elim)
 obtain ⟨rfl,h1,h2,h3⟩:=h
 exact ⟨.inl ⟨_,_,[],rfl,λ_=>rfl,ReadsW.bool true,by first | rfl | wrow_post,λ_=>⟨List.nodup_nil,λ_ hm=>(nomatch hm)⟩⟩,h1,h2,.of_eq h3⟩
end
structure ParOk (fd:FuncData)(ps:List Str)(va kw:Option Str):Prop where
 e1:fd.params.posonlyargs=[]
 e2:fd.params.args.map (λx=>x.arg)=ps
 e3:fd.params.vararg.map (λx=>x.arg)=va
 e4:fd.params.kwonlyargs=[]
 e5:fd.params.kwarg.map (λx=>x.arg)=kw
 nd:ps.Nodup
structure SigOk (fd:FuncData)(mf:MF)(ps:List Str)(va kw:Option Str):Prop where
 par:ParOk fd ps va kw
 hps:ps=mf.ps.map S
 hva:va=mf.va.map S
 hkw:kw=mf.kw.map S
 clo:fd.closure=[]
 gl:fd.globals=3
 bi:fd.builtins=0
 kind:fd.scope.kind=.function
 co:fd.scope.isCoroutine=false
 gen:fd.scope.isGenerator=false
 names:okNames fd.scope.names=true
 cd:∀ c,codeOf fd.scope.names=some c->fd.code=.ref c/\fd.qualname ++ ".<locals>." = qOf c
 own:∀ x∈mf.ps++mf.va.toList++mf.kw.toList,isOwn (lkp fd.scope.names x)=true
noncomputable def lamOkR (xs:List Tx)(e:ME)(fd:FuncData):Prop:=∃ mk be,fd.body=.expr be/\e=cv mk fd.scope.names be/\SigOk fd ⟨xs,none,none,[]⟩ (xs.map S) none none/\fd.defaults=.none
noncomputable def Walk (w:World)(s:Shared):Prop:=wpAny (model pw w) callerA (call (.ref 260) [.ref 261]) (λv s'=>v=.bool true/\OldK s.heap s'.heap/\s'.os=s.os/\s'.gens=#[]) (λ_ _=>False) s
noncomputable def Bad (x:World×Shared×List Int×List Value):Prop:=Start x.1 x.2.1 x.2.2.1 x.2.2.2/\¬ Walk x.1 x.2.1
theorem any0:Nonempty (World×Shared×List Int×List Value):=⟨{ draws:=λ_ _=>0,params:={ strHash:=λ_=>0,shareClass:=λ_=>0,mergeTok:=id,idOf:=λ_=>0,idOfShared:=λ_ _=>0,followText:=λ_=>false,idOfImm:=λ_=>0 } },{},[],[]⟩
noncomputable def zx:World×Shared×List Int×List Value:=@Classical.epsilon _ any0 Bad
noncomputable def zw:World:=zx.1
noncomputable def zS:Shared:=zx.2.1
noncomputable def zh:Heap:=zS.heap
noncomputable def zo:OsState:=zS.os
noncomputable def zp:Program:=pw
theorem head1 (walk:Start zw zS zx.2.2.1 zx.2.2.2->Walk zw zS):PySem.Challenge.rw_kt0049_01.Holds :=
 head λw s ns vs st=>Classical.byContradiction λh=>have k:Bad zx:=@Classical.epsilon_spec _ Bad ⟨(w,s,ns,vs),st,h⟩;k.2 (walk k.1)
noncomputable def IgAt (h:Heap)(g:Addr)(ds c:List Tx):Prop :=
 ∃ kvs,h.DictOf (strKind zp zw) g kvs/\(∀ p∈kvs,p.1=S tag\/∃ k∈plc,p.1=S k/\∃ t,p.2=.int (ans ds k) t)/\∀ k∈c,∃ v,(S k,v)∈kvs
noncomputable def xMods:Tx:=[95,109,111,100,115]
noncomputable def xDirs:Tx:=[95,100,105,114,115]
noncomputable def xIgn:Tx:=[95,105,103,110,111,114,101]
noncomputable abbrev igX (d:Addr):Obj:={ cls:=.ref clsIg,dict:=some d,data:=.plain,slots:=#[] }
noncomputable abbrev ke (x:Tx)(t:Tok)(v:Value):DictEntry:={ hash:=PyData.keyHash zw.params (S x),key:=.str (S x) t,val:=v }
noncomputable abbrev igD (t1 t2 t3:Tok)(ms vl g:Addr)(n:Nat):Obj:={ cls:=.type "dict",data:=.dict #[ke xMods t1 (.ref ms),ke xDirs t2 (.ref vl),ke xIgn t3 (.ref g)] n }
noncomputable abbrev igS (l:Bool):Obj:={ cls:=.type "set",data:=.set #[] 0 (.fresh 0 0 l) }
noncomputable abbrev setB (n:Nat)(b:Bool):Obj:={ cls:=.type "set",data:=.set #[(1,.bool true)] n { mask:=7,place:=#[1],dummies:=#[],finger:=0,led:=b,moves:=0,plain:=true } }
noncomputable def Txs:List Tx->List Value->Prop
 | [],vs=>vs=[]
 | d::ds,vs=>∃ v r,vs=v::r/\(d.length<=1000/\∃ t,v=.str (S d) t)/\Txs ds r
inductive RdAt (W:Wd)(g:Addr)(ds c:List Tx)(v:Value):Prop
 | mk (x d ms a:Addr) (n:Nat) (t1 t2 t3:Tok) (b:Bool) (items:Array Value) (e:v=.ref x) (hx:x∉W.pv) (ho:W.h.get? x=some (igX d)) (hd:d∉W.pv) (hdi:W.ig.lookup d=none) (hgd:W.h.get? d=some (igD t1 t2 t3 ms a g n))
  (hms:ms∉W.pv) (hos:W.h.get? ms=some (igS b)) (ha:a∉W.pv) (hl:W.h.IsList a items) (hz:items.size<=lim) (ht:Txs ds items.toList) (hg:g∉W.pv) (hgi:W.ig.lookup g=some ds) (hig:IgAt W.h g ds c)
inductive ListR (W:Wd)(R:List Value->Prop)(v:Value):Prop
 | mk (a:Addr) (items:Array Value) (e:v=.ref a) (hp:a∉W.pv) (hl:W.h.IsList a items) (hz:items.size<=lim) (hr:R items.toList)
inductive TupR (W:Wd)(R:List Value->Prop)(v:Value):Prop
 | mk (a:Addr) (items:Array Value) (n:Nat) (e:v=.ref a) (hp:a∉W.pv) (ht:IsT W.h a items n) (hz:items.size<=lim) (hr:R items.toList)
inductive DictR (W:Wd)(v:Value):Prop
 | mk (a:Addr) (e:v=.ref a) (ne:a≠1) (hp:a∉W.pv) (hi:W.ig.lookup a=none) (hd:W.h.DictOf (strKind zp zw) a [])
inductive RngR (W:Wd)(a b:Int)(v:Value):Prop
 | mk (r:Addr) (t u q:Tok) (e:v=.ref r) (hp:r∉W.pv) (h:IsRange W.h r a b 1 t u q)
inductive LamR (W:Wd)(ps:List Tx)(e:ME)(v:Value):Prop
 | mk (a:Addr) (o:Obj) (fd:FuncData) (c:Addr) (oc:Obj) (vs:Array Value) (t:Tok) (ev:v=.ref a) (ha:a∉W.pv) (ho:W.h.get? a=some o) (hc:o.cls=.type "function") (hd:o.data=.func fd) (hl:lamOkR ps e fd) (hk:fd.code=.ref c)
  (hcp:c∉W.pv) (hoc:W.h.get? c=some oc) (hcc:c∉tabs/\W.ig.lookup c=none) (hdc:oc.data=.fields vs) (hq:vs[1]? = some (.str fd.qualname t))
inductive GotR (W:Wd)(g:Nat)(k:Tx)(i:Int)(v:Value):Prop
 | mk (hv:∃ t,v=.int i t) (ds:List Tx) (e:W.ig.lookup g=some ds) (ia:IgAt W.h g ds [k])
mutual
noncomputable def Rep (W:Wd):D->Value->Prop
 | .none,v=>v=.none
 | .bool b,v=>v=.bool b
 | .int i,v=>∃ t,v=.int i t
 | .str s,v=>s.length<=lim/\∃ t,v=.str (S s) t
 | .list xs,v=>ListR W (λl=>Reps W xs l) v
 | .tup xs,v=>TupR W (λl=>Reps W xs l) v
 | .ty k,v=>v=.type (tyN k)
 | .bi k,v=>v=.builtin (biN k)
 | .at a,v=>v=.ref a
 | .dict0,v=>DictR W v
 | .bset,v=>∃ a n,v=.ref a/\a∉W.pv/\W.h.get? a=some (setB n (!zw.params.followText "set-order"))
 | .rng a b,v=>RngR W a b v
 | .lam ps e,v=>LamR W ps e v
 | .rd ds c,v=>∃ g,RdAt W g ds c v
 | .rdW g ds,v=>RdAt W g ds [] v
 | .got g k i,v=>GotR W g k i v
noncomputable def Reps (W:Wd):List D->List Value->Prop
 | [],vs=>vs=[]
 | d::ds,vs=>∃ v r,vs=v::r/\Rep W d v/\Reps W ds r
end
structure Le0 (P:List Addr)(W W':Wd):Prop where
 keep:∀ a o,W.h.get? a=some o->a∉tabs->a∉P->W.ig.lookup a=none->W'.h.get? a=some o
 ig:∀ a ds,W.ig.lookup a=some ds->W'.ig.lookup a=some ds
 igNew:∀ a o,W.h.get? a=some o->a∉P->W.ig.lookup a=none->W'.ig.lookup a=none
 igMono:∀ a ds c,W.ig.lookup a=some ds->IgAt W.h a ds c->IgAt W'.h a ds c
 pv:∀ a o,W.h.get? a=some o->a∉P->a∈W'.pv->a∈W.pv
 alive:∀ a o,W.h.get? a=some o->a∉P->∃ o',W'.h.get? a=some o'
structure Le (P:List Addr)(W W':Wd):Prop extends Le0 P W W' where
 pvK:∀ a∈W.pv,a∉P->a∈W'.pv
theorem Le0.refl {P:List Addr}(W:Wd):Le0 P W W :=
 ⟨λ_ _ e _ _ _=>e,λ_ _ e=>e,λ_ _ _ _ e=>e,λ_ _ _ _ e=>e,λ_ _ _ _ e=>e,λ_ o e _=>⟨o,e⟩⟩
theorem Le.refl {P:List Addr}(W:Wd):Le P W W:=⟨Le0.refl W,λ_ h _=>h⟩
theorem Le0.trans {P:List Addr}{W W' W'':Wd}(a:Le0 P W W')(b:Le0 P W' W''):Le0 P W W'' :=
 ⟨λx o e h1 h2 h3=>b.keep x o (a.keep x o e h1 h2 h3) h1 h2 (a.igNew x o e h2 h3),
  λx ds e=>b.ig x ds (a.ig x ds e),
  λx o e hp h=>let ⟨o',e'⟩:=a.alive x o e hp;b.igNew x o' e' hp (a.igNew x o e hp h),
  λx ds c e h=>b.igMono x ds c (a.ig x ds e) (a.igMono x ds c e h),
  λx o e hp h=>let ⟨o',e'⟩:=a.alive x o e hp;a.pv x o e hp (b.pv x o' e' hp h),
  λx o e hp=>let ⟨o',e'⟩:=a.alive x o e hp;b.alive x o' e' hp⟩
theorem Le.trans {P:List Addr}{W W' W'':Wd}(a:Le P W W')(b:Le P W' W''):Le P W W'' :=
 ⟨a.toLe0.trans b.toLe0,λx h hp=>b.pvK x (a.pvK x h hp) hp⟩
theorem Le0.wide {P P':List Addr}{W W':Wd}(a:Le0 P W W')(h:∀ x∈P,x∈P'):Le0 P' W W' :=
 ⟨λx o e h1 h2 h3=>a.keep x o e h1 (λq=>h2 (h x q)) h3,a.ig,λx o e hp=>a.igNew x o e λq=>hp (h x q),a.igMono,λx o e hp=>a.pv x o e λq=>hp (h x q),λx o e hp=>a.alive x o e λq=>hp (h x q)⟩
theorem Le.wide {P P':List Addr}{W W':Wd}(a:Le P W W')(h:∀ x∈P,x∈P'):Le P' W W' :=
 ⟨a.toLe0.wide h,λx hx hp=>a.pvK x hx λq=>hp (h x q)⟩
theorem Le.nil {P:List Addr}{W W':Wd}(a:Le [] W W'):Le P W W':=a.wide (λ_ h=>nomatch h)
noncomputable def CodeW (W:Wd)(q:Str)(cv:Value):Prop:=∃ c oc fs tk,cv=.ref c/\c∉W.pv/\W.h.get? c=some oc/\(c∉tabs/\W.ig.lookup c=none)/\oc.data=.fields fs/\fs[1]? = some (.str q tk)
noncomputable def qualOf (t:Addr):Str:=if t=228 then "_law_least.<locals>.<lambda>" else if t=257 then "law.<locals>.<lambda>" else "cmp_to_key.<locals>.K"
noncomputable def kCode (tk:Addr)(f:Nat->Value):Obj:={ cls:=.type "code",data:=.fields #[f 0,f 1,f 2,f 3,f 4,f 5,f 6,f 7,f 8,f 9,f 10,.ref tk,f 12,f 13,f 14,f 15,f 16,f 17,f 18] }
noncomputable def kTab (u:Nat->Nat)(cs:Nat->Addr):Obj:={ cls:=.none,data:=.fields #[.int 153 (u 0),.int 8 (u 1),.ref (cs 0+262),.int 156 (u 2),.int 8 (u 3),.ref (cs 1+262),.int 159 (u 4),.int 8 (u 5),.ref (cs 2+262),.int 162 (u 6),.int 8 (u 7),.ref (cs 3+262),.int 165 (u 8),.int 8 (u 9),.ref (cs 4+262),.int 168 (u 10),.int 8 (u 11),.ref (cs 5+262)] }
structure St (W:Wd)(a:Addr)(o:Obj):Prop where
 get:W.h.get? a=some o
 pv:a∉W.pv
 tab:a∉tabs
 ig:W.ig.lookup a=none
noncomputable def KT (W:Wd)(vs:Array Value):Prop:=vs=#[]\/∃ (k tk:Nat) (f:Nat->Value) (u:Nat->Nat) (cs:Nat->Nat),vs=#[.int 149 (u 12),.int 4 (u 13),.ref (k+262)]/\St W (k+262) (kCode (tk+262) f)/\St W (tk+262) (kTab u cs)/\k≠tk /\
 CodeW W "cmp_to_key.<locals>.K.__init__" (.ref (cs 0+262))/\CodeW W "cmp_to_key.<locals>.K.__lt__" (.ref (cs 1+262))
noncomputable def TabAt (W:Wd)(t:Addr):Prop:=∃ vs,W.h.get? t=some { cls:=.none,data:=.fields vs }/\TriplesOk vs.toList/\(∀ pos cv,codeAmong pos vs.toList=some cv->CodeW W (qualOf t) cv)/\(t=165->KT W vs)
theorem CodeW.mono {W W':Wd}{q:Str}{cv:Value}(x:CodeW W q cv)(k:∀ c o,W.h.get? c=some o->c∉W.pv->c∉tabs->W.ig.lookup c=none->W'.h.get? c=some o/\c∉W'.pv/\W'.ig.lookup c=none):CodeW W' q cv:=by
 obtain ⟨c,oc,fs,tk,e,h1,h2,h3,h4⟩:=x
 refine xAA (k c oc h2 h1 h3.1 h3.2) λg1 g2 g3=>?_
 exact ⟨c,oc,fs,tk,e,g2,g1,⟨h3.1,g3⟩,h4⟩
theorem KT.mono {W W':Wd}{vs:Array Value}(x:KT W vs)
  (k:∀ c o,W.h.get? c=some o->c∉W.pv->c∉tabs->W.ig.lookup c=none->W'.h.get? c=some o/\c∉W'.pv/\W'.ig.lookup c=none):KT W' vs:=by
 have st:∀ {a:Addr} {o:Obj},St W a o->St W' a o:=λ{a o} y=>let ⟨g1,g2,g3⟩:=k a o y.get y.pv y.tab y.ig;⟨g1,g2,y.tab,g3⟩
 rcases x with h | ⟨kk,tk,f,u,cs,e,h1,h2,h3,h4,h5⟩
 ·exact .inl h
 ·exact .inr ⟨kk,tk,f,u,cs,e,st h1,st h2,h3,h4.mono k,h5.mono k⟩
theorem TabAt.mono {W W':Wd}{t:Addr}(x:TabAt W t)(kt:∀ o,W.h.get? t=some o->W'.h.get? t=some o)
  (k:∀ c o,W.h.get? c=some o->c∉W.pv->c∉tabs->W.ig.lookup c=none->W'.h.get? c=some o/\c∉W'.pv/\W'.ig.lookup c=none):TabAt W' t:=by
 obtain ⟨vs,e,h1,h2,h3⟩:=x
 exact ⟨vs,kt _ e,h1,λpos cv h=>(h2 pos cv h).mono k,λh=>(h3 h).mono k⟩
structure Inv (W:Wd):Prop where
 base:Le0 [] ⟨zh,[],[]⟩ W
 pvAl:∀ a∈W.pv,∃ o,W.h.get? a=some o
 ig:∀ a ds,W.ig.lookup a=some ds->IgAt W.h a ds []
 igPv:∀ a ds,W.ig.lookup a=some ds->a∉W.pv
 tab:∀ t∈tabs,TabAt W t
 tabPv:∀ t∈tabs,t∉W.pv
theorem Inv.at {W:Wd}(I:Inv W){a:Addr}{o:Obj}(e:zh.get? a=some o)(ht:a∉tabs):W.h.get? a=some o :=
 I.base.keep a o e ht (by simp) rfl
theorem Inv.noTab {W:Wd}(I:Inv W){a:Addr}{o:Obj}(e:W.h.get? a=some o)(hc:o.cls≠.none):a∉tabs:=λh=>by
 obtain ⟨vs,q,_⟩:=I.tab a h
 rw [e] at q
 cases q
 exact hc rfl
theorem Inv.noIg {W:Wd}(I:Inv W){a:Addr}{o:Obj}(e:W.h.get? a=some o)(hc:o.cls≠.type "dict"):W.ig.lookup a=none:=by
 cases h:W.ig.lookup a with
 | none=>rfl
 | some ds =>
  obtain ⟨f,hm,_⟩:=I.ig a ds h
  obtain ⟨o',es,ep,ho,hx,_⟩:=hm
  rw [e] at ho
  cases ho
  exact absurd hx.1 hc
section
variable {W W':Wd}{P:List Addr}
theorem Le.fresh (I:Inv W)(a:Le P W W'){P':List Addr}(h:∀ x∈P,x∈P'\/W.h.get? x=none):Le P' W W' :=
 have hn:∀ x o,W.h.get? x=some o->x∉P'->x∉P:=λx o e hp q=>(h x q).elim hp λz=>by rw [e] at z;cases z
 ⟨⟨λx o e h1 h2 h3=>a.keep x o e h1 (hn x o e h2) h3,a.ig,λx o e hp=>a.igNew x o e (hn x o e hp),a.igMono,λx o e hp=>a.pv x o e (hn x o e hp),λx o e hp=>a.alive x o e (hn x o e hp)⟩,
  λx hx hp=>a.pvK x hx λq=>(h x q).elim hp λz=>by obtain ⟨o,e⟩:=I.pvAl x hx;rw [e] at z;cases z⟩
theorem Le0.obj (I:Inv W)(L:Le0 P W W')(hP:∀ a∈P,a∈W.pv){a:Addr}{o:Obj}(ha:a∉W.pv)(e:W.h.get? a=some o)(h1:o.cls≠.none)(h2:o.cls≠.type "dict"):W'.h.get? a=some o :=
 L.keep a o e (I.noTab e h1) (λq=>ha (hP a q)) (I.noIg e h2)
theorem Le0.notPv (L:Le0 P W W')(hP:∀ a∈P,a∈W.pv){a:Addr}{o:Obj}(e:W.h.get? a=some o)(ha:a∉W.pv):a∉W'.pv:=λq=>ha (L.pv a o e (λz=>ha (hP a z)) q)
theorem Le0.isList (I:Inv W)(L:Le0 P W W')(hP:∀ a∈P,a∈W.pv){a:Addr}{items:Array Value}(ha:a∉W.pv)(e:W.h.IsList a items):W'.h.IsList a items/\a∉W'.pv:=by
 obtain ⟨o,ho,hc,n,hd⟩:=e
 exact ⟨⟨o,L.obj I hP ha ho (by rw [hc];nofun) (by rw [hc];decide),hc,n,hd⟩,L.notPv hP ho ha⟩
end
section
variable {W W':Wd}{P:List Addr}
theorem Le0.dictObj (I:Inv W)(L:Le0 P W W')(hP:∀ a∈P,a∈W.pv){a:Addr}{o:Obj}(ha:a∉W.pv)(hi:W.ig.lookup a=none)(e:W.h.get? a=some o)(h1:o.cls≠.none):W'.h.get? a=some o :=
 L.keep a o e (I.noTab e h1) (λq=>ha (hP a q)) hi
theorem RdAt.mono (I:Inv W)(L:Le0 P W W')(hP:∀ a∈P,a∈W.pv){g:Addr}{ds c:List Tx}{v:Value}(h:RdAt W g ds c v):RdAt W' g ds c v:=by
 obtain ⟨x,d,ms,a,n,t1,t2,t3,b,items,rfl,hx,ho,hd,hdi,hgd,hms,hos,ha,hl,hz,ht,hg,hgi,hig⟩:=h
 have q:=L.isList I hP ha hl
 refine ⟨x,d,ms,a,n,t1,t2,t3,b,items,rfl,L.notPv hP ho hx,L.obj I hP hx ho nofun nofun,L.notPv hP hgd hd,L.igNew d _ hgd (λq=>hd (hP d q)) hdi,L.dictObj I hP hd hdi hgd nofun,
  L.notPv hP hos hms,L.obj I hP hms hos nofun (by show Value.type "set" ≠ Value.type "dict";decide),q.2,q.1,hz,ht,?_,L.ig g ds hgi,L.igMono g ds c hgi hig⟩
 obtain ⟨f,⟨og,eg,epg,hgg,_⟩,_⟩:=hig
 exact L.notPv hP hgg hg
mutual
theorem Rep.mono (I:Inv W)(L:Le0 P W W')(hP:∀ a∈P,a∈W.pv):∀ {d:D} {v:Value},Rep W d v->Rep W' d v
 | .none,_,h=>h
 | .bool _,_,h=>h
 | .int _,_,h=>h
 | .str _,_,h=>h
 | .list xs,_,h=>by
  obtain ⟨a,items,rfl,ha,hl,hz,hr⟩:=h
  have q:=L.isList I hP ha hl
  exact ⟨a,items,rfl,q.2,q.1,hz,Reps.mono I L hP hr⟩
 | .tup xs,_,h=>by
  obtain ⟨a,items,n,rfl,ha,hl,hz,hr⟩:=h
  exact ⟨a,items,n,rfl,L.notPv hP hl ha,L.obj I hP ha hl nofun (by show Value.type "tuple" ≠ Value.type "dict";decide),hz,Reps.mono I L hP hr⟩
 | .ty _,_,h=>h
 | .bi _,_,h=>h
 | .at _,_,h=>h
 | .dict0,_,h=>by
  obtain ⟨a,rfl,h1,ha,hi,hm⟩:=h
  obtain ⟨o,es,ep,ho,hx,r⟩:=hm
  exact ⟨a,rfl,h1,L.notPv hP ho ha,L.igNew a o ho (λq=>ha (hP a q)) hi,o,es,ep,L.dictObj I hP ha hi ho (by rw [hx.1];nofun),hx,r⟩
 | .bset,_,h=>by
  obtain ⟨a,n,rfl,ha,ho⟩:=h
  exact ⟨a,n,rfl,L.notPv hP ho ha,L.obj I hP ha ho nofun (by show Value.type "set" ≠ Value.type "dict";decide)⟩
 | .rng a b,_,h=>by
  obtain ⟨r,t,u,q,rfl,hr,ho⟩:=h
  exact ⟨r,t,u,q,rfl,L.notPv hP ho hr,L.obj I hP hr ho nofun (by show Value.type "range" ≠ Value.type "dict";decide)⟩
 | .lam _ _,_,h=>by
  obtain ⟨a,o,fd,c,oc,vs,t,rfl,ha,ho,hc,hd,hl,e1,hcp,e2,e3,e4,e5⟩:=h
  exact ⟨a,o,fd,c,oc,vs,t,rfl,L.notPv hP ho ha,L.obj I hP ha ho (by rw [hc];nofun) (by rw [hc];decide),hc,hd,hl,e1,L.notPv hP e2 hcp,
   L.keep c oc e2 e3.1 (λq=>hcp (hP c q)) e3.2,⟨e3.1,L.igNew c oc e2 (λq=>hcp (hP c q)) e3.2⟩,e4,e5⟩
 | .rd _ _,_,h=>by
  obtain ⟨g,h⟩:=h
  exact ⟨g,h.mono I L hP⟩
 | .rdW _ _,_,h=>RdAt.mono I L hP h
 | .got g k i,_,h=>by
  obtain ⟨h1,ds,h2,h3⟩:=h
  exact ⟨h1,ds,L.ig g ds h2,L.igMono g ds [k] h2 h3⟩
theorem Reps.mono (I:Inv W)(L:Le0 P W W')(hP:∀ a∈P,a∈W.pv):∀ {ds:List D} {vs:List Value},Reps W ds vs->Reps W' ds vs
 | [],_,h=>h
 | d::ds,_,h=>by
  obtain ⟨v,r,rfl,h1,h2⟩:=h
  exact ⟨v,r,rfl,Rep.mono I L hP h1,Reps.mono I L hP h2⟩
end
end
section
variable {W W' W0:Wd}{P:List Addr}
theorem IgAt.keep {h h':Heap}{g:Addr}{ds c:List Tx}(x:IgAt h g ds c)(hk:∀ o,h.get? g=some o->h'.get? g=some o):IgAt h' g ds c:=by
 obtain ⟨kvs,hm,r⟩:=x
 exact ⟨kvs,hm.at hk,r⟩
theorem IgAt.nil {h:Heap}{g:Addr}{ds c:List Tx}(x:IgAt h g ds c):IgAt h g ds []:=by
 obtain ⟨kvs,hm,h1,_⟩:=x
 exact ⟨kvs,hm,h1,λ_ h=>nomatch h⟩
theorem IgAt.obj {h:Heap}{g:Addr}{ds c:List Tx}(x:IgAt h g ds c):∃ o,h.get? g=some o/\o.cls=.type "dict" := by
 obtain ⟨kvs,⟨o,es,ep,ho,hx,_⟩,_⟩:=x
 exact ⟨o,ho,hx.1⟩
theorem fresh_none (h:Heap):h.get? h.objs.size=none:=by
 cases e:h.get? h.objs.size with
 | none=>rfl
 | some o=>exact absurd (Heap.lt_size e) (Nat.lt_irrefl _)
theorem tab_ne (I:Inv W){t p:Addr}(ht:t∈tabs)(hp:p∈W.pv):t≠p:=λe=>I.tabPv t ht (e▸hp)
noncomputable def Wd.push (W:Wd)(o:Obj):Wd:={ W with h:=W.h.push o }
noncomputable def Wd.pushP (W:Wd)(o:Obj):Wd:={ W with h:=W.h.push o,pv:=W.h.objs.size::W.pv }
theorem push_le (o:Obj):Le P W (W.push o) :=
 ⟨⟨λa _ e _ _ _=>Heap.get?_push_of_some _ e,λ_ _ e=>e,λ_ _ _ _ e=>e,λ_ _ _ _ x=>x.keep λ_ e=>Heap.get?_push_of_some _ e,λ_ _ _ _ e=>e,λ_ o' e _=>⟨o',Heap.get?_push_of_some _ e⟩⟩,λ_ h _=>h⟩
theorem pushP_le (o:Obj):Le P W (W.pushP o) :=
 ⟨⟨λa _ e _ _ _=>Heap.get?_push_of_some _ e,λ_ _ e=>e,λ_ _ _ _ e=>e,λ_ _ _ _ x=>x.keep λ_ e=>Heap.get?_push_of_some _ e,
  λa o' e _ h=>by
   rcases List.mem_cons.mp h with q | q
   ·rw [q,fresh_none] at e;exact ns e
   ·exact q,
  λ_ o' e _=>⟨o',Heap.get?_push_of_some _ e⟩⟩,λ_ h _=>.tail _ h⟩
theorem push_inv (I:Inv W)(o:Obj):Inv (W.push o) :=
 ⟨I.base.trans (push_le (P:=[]) o).toLe0,λa ha=>let ⟨o',e⟩:=I.pvAl a ha;⟨o',Heap.get?_push_of_some _ e⟩,λa ds e=>(I.ig a ds e).keep λ_ e=>Heap.get?_push_of_some _ e,I.igPv,
  λt ht=>(I.tab t ht).mono (λ_ e=>Heap.get?_push_of_some _ e) λ_ _ e h1 _ h3=>⟨Heap.get?_push_of_some _ e,h1,h3⟩,I.tabPv⟩
theorem pushP_inv (I:Inv W)(o:Obj)(hf:o.isFreed=false):Inv (W.pushP o) :=
 ⟨I.base.trans (pushP_le (P:=[]) o).toLe0,λa ha=>by
   rcases List.mem_cons.mp ha with q | q
   ·exact ⟨o,by rw [q];exact Heap.get?_push_size _ hf⟩
   ·exact let ⟨o',e⟩:=I.pvAl a q;⟨o',Heap.get?_push_of_some _ e⟩,
  λa ds e=>(I.ig a ds e).keep λ_ e=>Heap.get?_push_of_some _ e,
  λa ds e h=>by
   rcases List.mem_cons.mp h with q | q
   ·refine xEA ((I.ig a ds e).obj) λo' e' _=>?_
    rw [q,fresh_none] at e';exact ns e'
   ·exact I.igPv a ds e q,
  λt ht=>(I.tab t ht).mono (λ_ e=>Heap.get?_push_of_some _ e) λ_ _ e h1 _ h3=>⟨Heap.get?_push_of_some _ e,λq=>(List.mem_cons.mp q).elim (λz=>by rw [z,fresh_none] at e;cases e) h1,h3⟩,
  λt ht h=>by
   rcases List.mem_cons.mp h with q | q
   ·obtain ⟨vs,e,_⟩:=I.tab t ht
    rw [q,fresh_none] at e;exact ns e
   ·exact I.tabPv t ht q⟩
theorem turn_le (I:Inv W){p:Addr}{h':Heap}(hp:p∈W.pv)(hx:Heap.ExtBut p W.h h'):Le [p] W { W with h:=h' } :=
 ⟨⟨λa o e _ h _=>hx a o (λq=>h (by rw [q];exact .head _)) e,λ_ _ e=>e,λ_ _ _ _ e=>e,
  λa ds c e x=>x.keep λo e'=>hx a o (λq=>I.igPv a ds e (q▸hp)) e',
  λ_ _ _ _ e=>e,λa o e h=>⟨o,hx a o (λq=>h (by rw [q];exact .head _)) e⟩⟩,λ_ h _=>h⟩
theorem base_ne (I:Inv W){a p:Addr}{o:Obj}(e:zh.get? a=some o)(hp:p∈W.pv):a≠p:=λq=>nomatch I.base.pv a o e (λz=>nomatch z) (q▸hp)
theorem turn_inv (I:Inv W){p:Addr}{h':Heap}(hp:p∈W.pv)(hx:Heap.ExtBut p W.h h')(ha:∃ o',h'.get? p=some o'):Inv { W with h:=h' }:=by
 refine ⟨⟨λa o e h1 _ h3=>hx a o (base_ne I e hp) (I.base.keep a o e h1 (λh=>(nomatch h)) h3),λ_ _ e=>(nomatch e),I.base.igNew,λ_ _ _ e=>(nomatch e),I.base.pv,
   λa o e hn=>let ⟨o',e'⟩:=I.base.alive a o e hn;⟨o',hx a o' (base_ne I e hp) e'⟩⟩,λa h=>?_,
  λa ds e=>(I.ig a ds e).keep λo e'=>hx a o (λq=>I.igPv a ds e (q▸hp)) e',I.igPv,λt ht=>(I.tab t ht).mono (λ_ e=>hx t _ (tab_ne I ht hp) e) λc _ e h1 _ h3=>⟨hx c _ (λq=>h1 (q▸hp)) e,h1,h3⟩,I.tabPv⟩
 obtain ⟨o,e⟩:=I.pvAl a h
 by_cases q:a=p
 ·rw [q];exact ha
 ·exact ⟨o,hx a o q e⟩
noncomputable def Wd.drop (W:Wd)(p:Addr):Wd:={ W with pv:=W.pv.filter (· != p) }
theorem mem_drop {a p:Addr}:a∈(W.drop p).pv↔a∈W.pv/\a≠p:=by
 show a∈W.pv.filter (· != p)↔_
 simp [List.mem_filter]
theorem drop_le {p:Addr}:Le [p] W (W.drop p) :=
 ⟨⟨λ_ _ e _ _ _=>e,λ_ _ e=>e,λ_ _ _ _ e=>e,λ_ _ _ _ x=>x,λ_ _ _ _ h=>(mem_drop.mp h).1,λ_ o e _=>⟨o,e⟩⟩,λa h hn=>mem_drop.mpr ⟨h,λq=>hn (by rw [q];exact .head _)⟩⟩
theorem drop_inv (I:Inv W){p:Addr}:Inv (W.drop p) :=
 ⟨⟨I.base.keep,I.base.ig,I.base.igNew,I.base.igMono,λa o e hn h=>I.base.pv a o e hn (mem_drop.mp h).1,I.base.alive⟩,λa h=>I.pvAl a (mem_drop.mp h).1,I.ig,
  λa ds e h=>I.igPv a ds e (mem_drop.mp h).1,λt ht=>(I.tab t ht).mono (λ_ e=>e) λ_ _ e h1 _ h3=>⟨e,λq=>h1 (mem_drop.mp q).1,h3⟩,λt ht h=>I.tabPv t ht (mem_drop.mp h).1⟩
theorem end_le (I:Inv W){p:Addr}{h':Heap}(hp:p∈W.pv)(hx:Heap.ExtBut p W.h h'):Le [p] W (({ W with h:=h' }:Wd).drop p) :=
 (turn_le I hp hx).trans drop_le
theorem end_inv (I:Inv W){p:Addr}{h':Heap}(hp:p∈W.pv)(hx:Heap.ExtBut p W.h h'):Inv (({ W with h:=h' }:Wd).drop p):=by
 refine ⟨⟨λa o e h1 _ h3=>hx a o (base_ne I e hp) (I.base.keep a o e h1 (λh=>(nomatch h)) h3),λ_ _ e=>(nomatch e),I.base.igNew,λ_ _ _ e=>(nomatch e),λa o e hn h=>I.base.pv a o e hn (mem_drop.mp h).1,
   λa o e hn=>let ⟨o',e'⟩:=I.base.alive a o e hn;⟨o',hx a o' (base_ne I e hp) e'⟩⟩,λa h=>?_,
  λa ds e=>?_,λa ds e h=>I.igPv a ds e (mem_drop.mp h).1,λt ht=>(I.tab t ht).mono (λ_ e=>hx t _ (tab_ne I ht hp) e) λc _ e h1 _ h3=>⟨hx c _ (λq=>h1 (q▸hp)) e,λq=>h1 (mem_drop.mp q).1,h3⟩,λt ht h=>I.tabPv t ht (mem_drop.mp h).1⟩
 ·obtain ⟨h1,h2⟩:=mem_drop.mp h
  obtain ⟨o,e⟩:=I.pvAl a h1
  exact ⟨o,hx a o h2 e⟩
 ·exact (I.ig a ds e).keep λo e'=>hx a o (λq=>I.igPv a ds e (q▸hp)) e'
end
noncomputable def Ok (W:Wd)(s:Shared):Prop:=s.heap=W.h/\s.gens=#[]/\s.os=zo
noncomputable def Post (W:Wd)(d:D)(Q:Value->Shared->Prop):Prop:=∀ v W' s',Le [] W W'->Inv W'->Ok W' s'->Rep W' d v->Q v s'
noncomputable def RepT (W:Wd)(d:D)(v:Value):Prop:=Rep W d v\/∃ xs a items,d=.list xs/\v=.ref a/\W.h.IsList a items/\items.size<=lim/\Reps W xs items.toList
noncomputable abbrev Mo:Model:=model zp zw
section
variable (A:Around)
noncomputable def Gv (t:Sem Value)(W:Wd)(d:D):Prop:=∀ s Q E,Ok W s->Post W d Q->wpAny Mo A t Q E s
noncomputable def GvA (t:Sem Value)(W:Wd)(d:D):Prop:=∀ W',Le [] W W'->Inv W'->Gv A t W' d
noncomputable def GvT (t:Sem Value)(W:Wd)(d:D):Prop:=∀ s Q E,Ok W s->(∀ v W' s',Le [] W W'->Inv W'->Ok W' s'->RepT W' d v->Q v s')->wpAny Mo A t Q E s
noncomputable def GvTA (t:Sem Value)(W:Wd)(d:D):Prop:=∀ W',Le [] W W'->Inv W'->GvT A t W' d
noncomputable def Tv (t:Sem Bool)(W:Wd)(b:Bool):Prop:=∀ s Q E,Ok W s->(∀ W' s',Le [] W W'->Inv W'->Ok W' s'->Q b s')->wpAny Mo A t Q E s
noncomputable def TvA (t:Sem Bool)(W:Wd)(b:Bool):Prop:=∀ W',Le [] W W'->Inv W'->Tv A t W' b
end
structure AOk (A:Around):Prop where
 h:A.handled=none
 g:A.guards=some []
 u:A.units+60 < cLine
 d:A.depth < recursionLimit
section
variable {A:Around}{W W':Wd}{t u:Sem Value}{d:D}{s:Shared}{Q:Value->Shared->Prop}{E:Value->Shared->Prop}
theorem Ok.tok (o:Ok W s)(n:Nat):Ok W { s with toks:=n }:=o
theorem Post.at (p:Post W d Q)(I:Inv W){v:Value}(o:Ok W s)(r:Rep W d v):Q v s:=p v W s (Le.refl W) I o r
theorem Post.later (p:Post W d Q)(L:Le [] W W'):Post W' d Q:=λv W'' s'' L'=>p v W'' s'' (L.trans L')
theorem GvA.later (h:GvA A t W d)(L:Le [] W W'):GvA A t W' d:=λW'' L'=>h W'' (L.trans L')
theorem GvTA.later (h:GvTA A t W d)(L:Le [] W W'):GvTA A t W' d:=λW'' L'=>h W'' (L.trans L')
theorem TvA.later {t:Sem Bool}{b:Bool}(h:TvA A t W b)(L:Le [] W W'):TvA A t W' b:=λW'' L'=>h W'' (L.trans L')
theorem GvA.T (h:GvA A t W d):GvTA A t W d:=λW' L I s _ _ o p=>h W' L I s _ _ o λv W'' s'' L' I' o' r=>p v W'' s'' L' I' o' (.inl r)
theorem Rep.later (I:Inv W)(L:Le [] W W'){d:D}{v:Value}(r:Rep W d v):Rep W' d v:=r.mono I L.toLe0 (λ_ h=>nomatch h)
theorem Reps.later (I:Inv W)(L:Le [] W W'){ds:List D}{vs:List Value}(r:Reps W ds vs):Reps W' ds vs:=r.mono I L.toLe0 (λ_ h=>nomatch h)
theorem RepT.later (I:Inv W)(L:Le [] W W'){d:D}{v:Value}(r:RepT W d v):RepT W' d v:=by
 rcases r with r | ⟨xs,a,items,rfl,rfl,⟨o,ho,hc,n,hd⟩,hz,hr⟩
 ·exact .inl (r.later I L)
 ·exact .inr ⟨xs,a,items,rfl,rfl,⟨o,L.keep a o ho (I.noTab ho (by rw [hc];nofun)) (λh=>nomatch h) (I.noIg ho (by rw [hc];decide)),hc,n,hd⟩,hz,hr.later I L⟩
theorem RepT.plain {d:D}{v:Value}(r:RepT W d v)(h:∀ xs,d≠.list xs):Rep W d v:=by
 rcases r with r | ⟨xs,_,_,rfl,_⟩
 ·exact r
 ·exact absurd rfl (h xs)
theorem RepT.list {xs:List D}{v:Value}(r:RepT W (.list xs) v):∃ a items,v=.ref a/\W.h.IsList a items/\items.size<=lim/\Reps W xs items.toList:=by
 rcases r with r | ⟨ys,a,items,e,hv,h1,h2,h3⟩
 ·obtain ⟨a,items,hv,_,h1,h2,h3⟩:=r
  exact ⟨a,items,hv,h1,h2,h3⟩
 ·cases e;exact ⟨a,items,hv,h1,h2,h3⟩
theorem Reps.length:∀ {ds:List D} {vs:List Value},Reps W ds vs->vs.length=ds.length
 | [],_,h=>by subst h;rfl
 | _::_,_,h=>by
  obtain ⟨v,r,rfl,_,h2⟩:=h
  rw [List.length_cons,List.length_cons,h2.length]
theorem Reps.append:∀ {ds es:List D} {vs us:List Value},Reps W ds vs->Reps W es us->Reps W (ds++es) (vs++us)
 | [],_,_,_,h,h'=>by subst h;exact h'
 | _::_,_,_,_,h,h'=>by
  obtain ⟨v,r,rfl,h1,h2⟩:=h
  exact ⟨v,r++_,rfl,h1,h2.append h'⟩
theorem Reps.get:∀ {ds:List D} {vs:List Value} {k:Nat} {d:D},Reps W ds vs->ds[k]? = some d->∃ v,vs[k]? = some v/\Rep W d v
 | [],_,_,_,_,e=>by simp at e
 | _::_,_,0,_,h,e=>by
  obtain ⟨v,r,rfl,h1,h2⟩:=h
  simp at e
  subst e
  exact ⟨v,rfl,h1⟩
 | _::_,_,k+1,_,h,e=>by
  obtain ⟨v,r,rfl,h1,h2⟩:=h
  simp at e
  simpa using h2.get e
theorem Reps.take:∀ {ds:List D} {vs:List Value} (k:Nat),Reps W ds vs->Reps W (ds.take k) (vs.take k)
 | [],_,_,h=>by subst h;simp only [List.drop_nil,List.take_nil];rfl
 | _::_,_,0,_=>rfl
 | _::_,_,k+1,h=>by
  obtain ⟨v,r,rfl,h1,h2⟩:=h
  exact ⟨v,_,rfl,h1,h2.take k⟩
theorem Reps.drop:∀ {ds:List D} {vs:List Value} (k:Nat),Reps W ds vs->Reps W (ds.drop k) (vs.drop k)
 | [],_,_,h=>by subst h;simp only [List.drop_nil,List.take_nil];rfl
 | _::_,_,0,h=>by simpa using h
 | _::_,_,k+1,h=>by
  obtain ⟨v,r,rfl,h1,h2⟩:=h
  simpa using h2.drop k
theorem gv_two0 {x y:D}{k:Value->Value->Sem Value}(ha:GvA A t W x)(hb:GvA A u W y)
  (hk:∀ v v' W',Le [] W W'->Inv W'->Rep W' x v->Rep W' y v'->Gv A (k v v') W' d) (I:Inv W):Gv A (t>>=λv=>holding [v] u>>=λv'=>k v v') W d:=by
 intro s Q E o p
 refine wpAny_bind (ha W (Le.refl W) I s _ _ o λv W1 s1 L1 I1 o1 r1=>?_)
 refine wpAny_bind (wpAny_holding (hb W1 L1 I1 s1 _ _ o1 λv' W2 s2 L2 I2 o2 r2=>?_))
 exact hk v v' W2 (L1.trans L2) I2 (r1.later I1 L2) r2 s2 _ _ o2 (p.later (L1.trans L2))
theorem small_iff {i:Int}(h:small i=true):-(2 ^ 40) < i/\i < 2 ^ 40:=by
 unfold small at h
 simpa using h
theorem S_append (a b:Tx):(S a++S b:Str)=S (a++b):=by
 first | rfl | (show Str.append (S a) (S b)=_;simp [Str.append,S])
theorem S_len (a:Tx):(S a).length=a.length:=by
 first | rfl | simp [Str.length,S]
theorem push_ok (o:Ok W s)(ob:Obj)(n:Nat):Ok (W.push ob) { s with heap:=s.heap.push ob,toks:=n }:=⟨by show s.heap.push ob=W.h.push ob;rw [o.1],o.2.1,o.2.2⟩
theorem new_notPv (I:Inv W):W.h.objs.size∉W.pv:=λh=>by
 obtain ⟨o,e⟩:=I.pvAl _ h
 rw [fresh_none] at e;exact ns e
theorem Post.new (p:Post W d Q)(I:Inv W)(o:Ok W s)(ob:Obj)(n:Nat)(hr:Rep (W.push ob) d (.ref W.h.objs.size)):Q (.ref s.heap.objs.size) { s with heap:=s.heap.push ob,toks:=n }:=by
 refine p _ (W.push ob) _ (push_le ob) (push_inv I ob) (push_ok o ob n) ?_
 rw [o.1];exact hr
theorem lim_ok {n:Nat}(h:n<=lim):n<=sizeLine:=Nat.le_trans h (by decide)
theorem rep_newList {vs:List Value}{ds:List D}(I:Inv W)(h:Reps W ds vs)(hz:vs.length<=lim):Rep (W.push { cls:=.type "list",data:=.seq vs.toArray }) (.list ds) (.ref W.h.objs.size):=by
 refine ⟨_,vs.toArray,rfl,new_notPv I,⟨_,Heap.get?_push_size _ rfl,rfl,_,rfl⟩,by simpa using hz,?_⟩
 exact (h.later I (push_le _):_)
theorem rep_newTuple {vs:List Value}{ds:List D}(I:Inv W)(h:Reps W ds vs)(hz:vs.length<=lim):Rep (W.push { cls:=.type "tuple",data:=.seq vs.toArray }) (.tup ds) (.ref W.h.objs.size):=by
 refine ⟨_,vs.toArray,0,rfl,new_notPv I,Heap.get?_push_size _ rfl,by simpa using hz,?_⟩
 exact (h.later I (push_le _):_)
theorem newTuple_gv {vs:List Value}{ds:List D}(I:Inv W)(h:Reps W ds vs)(hz:vs.length<=lim):Gv A (newTuple vs) W (.tup ds):=λs _ _ o p =>
 wpAny_newTuple (p.new I o _ s.toks (rep_newTuple I h hz)) (lim_ok hz)
theorem op_add {op:Operator}(h:opOf op=some 0):op=.Add:=by cases op<;>first | rfl | cases h
theorem op_sub {op:Operator}(h:opOf op=some 1):op=.Sub:=by cases op<;>first | rfl | cases h
theorem op_div {op:Operator}(h:opOf op=some 2):op=.FloorDiv:=by cases op<;>first | rfl | cases h
theorem op_mod {op:Operator}(h:opOf op=some 3):op=.Mod:=by cases op<;>first | rfl | cases h
theorem binI_gv {o:Nat}{op:Operator}{x y:Int}{t u:Tok}(ho:opOf op=some o)(I:Inv W)(h:binI o x y=some d):Gv A (binaryOp op (.int x t) (.int y u)) W d:=by
 intro s Q E o' p
 rcases o with _ | _ | _ | _ | o
 ·rw [op_add ho]
  cases (ite_val (show (if (small x&&small y)=true then some (D.int (x+y)) else none)=some d from h)).2
  exact add_int (p.at I o' ⟨_,rfl⟩)
 ·rw [op_sub ho]
  cases (ite_val (show (if (small x&&small y)=true then some (D.int (x - y)) else none)=some d from h)).2
  exact sub_int (p.at I o' ⟨_,rfl⟩)
 ·rw [op_div ho]
  obtain ⟨hz,e⟩:=ite_val (show (if (decide (0 < y)&&decide (y < 1000))=true then some (D.int (Int.fdiv x y)) else none)=some d from h)
  obtain rfl:=sq e
  simp only [Bool.and_eq_true,decide_eq_true_eq] at hz
  exact floordiv_int (Int.ne_of_gt hz.1) (p.at I o' ⟨_,rfl⟩) (.inl (PyProof.noPylong_small (Int.ofNat_lt.mp (by rw [Int.natAbs_of_nonneg (Int.le_of_lt hz.1)];exact Int.lt_trans hz.2 (by decide)))))
 ·rw [op_mod ho]
  obtain ⟨hz,e⟩:=ite_val (show (if (decide (0 < y)&&decide (y < 1000))=true then some (D.int (Int.fmod x y)) else none)=some d from h)
  obtain rfl:=sq e
  simp only [Bool.and_eq_true,decide_eq_true_eq] at hz
  exact mod_int' (Int.ne_of_gt hz.1) (p.at I o' ⟨_,rfl⟩)
 ·exact ns h
theorem binL_gv {xs ys:List D}{v v':Value}(I:Inv W)(hx:Rep W (.list xs) v)(hy:Rep W (.list ys) v')(hz':xs.length+ys.length<=lim):Gv A (binaryOp .Add v v') W (.list (xs++ys)):=by
 intro s Q E o' p
 obtain ⟨a,ia,rfl,_,la,za,ra⟩:=hx
 obtain ⟨b,ib,rfl,_,lb,zb,rb⟩:=hy
 have n1:=ra.length
 have n2:=rb.length
 rw [Array.length_toList] at n1 n2
 obtain ⟨⟨cls,dd,data,sl⟩,ho1,hc,n,hd⟩:=id la
 obtain ⟨⟨cls2,dd2,data2,sl2⟩,ho2,hc2,n2,hd2⟩:=id lb
 simp only at hc hd hc2 hd2
 subst hc hd hc2 hd2
 have e:ia++ib=(ia.toList++ib.toList).toArray:=by simp
 refine concat_meets (s:=s) ⟨_,by rw [o'.1];exact ho1,rfl⟩ ⟨_,by rw [o'.1];exact ho2,rfl⟩ noFill_list_add seq_list_add PySem.F.slot_list_add PySem.F.entry_list_add (PySem.F.args_list_add_2 _ _) (list_addW a b ia ib n n2 dd dd2 sl sl2 (by have:=lim_ok hz';omega)) ⟨by rw [o'.1];exact ho1,by rw [o'.1];exact ho2,?_⟩
 rw [e]
 exact p.new I o' _ s.toks (rep_newList I (ra.append rb) (by rw [List.length_append,Array.length_toList,Array.length_toList];omega))
theorem op_of {op:Operator}{o:Nat}(h:opOf op=some o)(k:Nat)(e:Nat.beq o k=true):opOf op=some k:=by rw [h,Nat.eq_of_beq_eq_true e]
theorem binB_gv (I:Inv W){o:Nat}{op:Operator}{x y:D}{v v':Value}(ho:opOf op=some o)(hx:Rep W x v)(hy:Rep W y v')(h:binB o x y=some d):Gv A (binaryOp op v v') W d:=by
 cases x with
 | bool x =>
  cases y with
  | bool y =>
   obtain ⟨hz,e⟩:=ite_val (show (if Nat.beq o 1=true then some (D.int ((if x then 1 else 0) - (if y then 1 else 0))) else none)=some d from h)
   obtain rfl:=sq e
   subst hx hy
   rw [op_sub (op_of ho 1 hz)]
   exact λs Q E o' p=>sub_bool (p.at I o' ⟨_,rfl⟩)
  | _=>exact ns h
 | _=>exact ns h
theorem binOp_gv {o:Nat}{op:Operator}{x y:D}{v v':Value}(ho:opOf op=some o)(I:Inv W)(hx:Rep W x v)(hy:Rep W y v')(h:binD o x y=some d):Gv A (binaryOp op v v') W d:=by
 rcases ob_inv h with ⟨q,-,h1⟩ | ⟨-,h1⟩
 ·refine xEA (bd_inv h1) λq' _ h2=>?_
  obtain ⟨t,rfl⟩:=(show Rep W (.int q.i) v from q.e▸hx)
  obtain ⟨u,rfl⟩:=(show Rep W (.int q'.i) v' from q'.e▸hy)
  exact binI_gv ho I h2
 clear h
 rcases ob_inv h1 with ⟨q,-,h1⟩ | ⟨-,h1⟩
 ·refine xEA (bd_inv h1) λq' _ h2=>?_
  obtain ⟨hz,e⟩:=ite_val h2
  obtain rfl:=sq e
  rw [Bool.and_eq_true] at hz
  have hz':=Nat.le_of_ble_eq_true hz.2
  obtain ⟨_,t,rfl⟩:=(show Rep W (.str q.s) v from q.e▸hx)
  obtain ⟨_,u,rfl⟩:=(show Rep W (.str q'.s) v' from q'.e▸hy)
  rw [op_add (op_of ho 0 hz.1)]
  refine λs Q E o' p=>add_str (λt' tk=>p.at I (o'.tok tk) ?_) (by exact lim_ok hz')
  rw [S_append]
  exact ⟨by rw [List.length_append];exact hz',_,rfl⟩
 rcases ob_inv h1 with ⟨q,-,h1⟩ | ⟨-,h1⟩
 ·refine xEA (bd_inv h1) λq' _ h2=>?_
  obtain ⟨hz,e⟩:=ite_val h2
  clear h2
  obtain rfl:=sq e
  rw [Bool.and_eq_true] at hz
  rw [op_add (op_of ho 0 hz.1)]
  exact binL_gv I (show Rep W (.list q.xs) v from q.e▸hx) (show Rep W (.list q'.xs) v' from q'.e▸hy) (Nat.le_of_ble_eq_true hz.2)
 ·exact binB_gv I ho hx hy h1
theorem gv_BinOp {l r:Expr}{op:Operator}{pos:Pos}{env:Env}{o:Nat}{x y:D}(I:Inv W)(ha:GvA A (eval l env) W x)(hb:GvA A (eval r env) W y)(ho:opOf op=some o)(h:binD o x y=some d):Gv A (eval (.BinOp l op r pos) env) W d:=by
 exact gv_two0 ha hb (λv v' W' L I' hv hv'=>λs Q E o' p=>wpAny_bind (wpAny_standAt (wpAny_operate' (binOp_gv ho I' hv hv' h s Q E o' p)))) I
end
section
open PySem.SeqAt
section
variable {A:Around}{W W':Wd}{d:D}{s:Shared}{Q:Value->Shared->Prop}{E:Value->Shared->Prop}
theorem S_inj {a b:Tx}(h:S a=S b):a=b:=by
 have:(S a).cps.toList=(S b).cps.toList:=by rw [h]
 simpa using this
theorem S_beq (a b:Tx):((S a:Str) == S b)=eqT a b:=by
 rw [Bool.eq_iff_iff,beq_iff_eq,eqT_iff]
 exact ⟨S_inj,λh=>by rw [h]⟩
theorem eqT_dec (a b:Tx):eqT a b=decide (a=b):=by
 rw [Bool.eq_iff_iff,eqT_iff,decide_eq_true_eq]
theorem eq0_at {a b:D}{v u:Value}{r:Bool}(ha:Rep W a v)(hb:Rep W b u)(h:eq0 a b=some r):EqAt A s v u r/\RcAt A s v u r/\SeqAt.RcNeAt A s v u (!r):=by
 rcases pairD_inv h with ⟨x,y,rfl,rfl,rfl⟩ | ⟨x,y,rfl,rfl,rfl⟩
 ·obtain ⟨t,rfl⟩:=ha
  obtain ⟨t',rfl⟩:=hb
  exact ⟨EqAt.int_int _ _ _ _,RcAt.int_int _ _ _ _,RcNeAt.int_int _ _ _ _⟩
 ·obtain ⟨_,t,rfl⟩:=ha
  obtain ⟨_,t',rfl⟩:=hb
  rw [<-S_beq]
  exact ⟨EqAt.str_str _ _ _ _,RcAt.str_str _ _ _ _,RcNeAt.str_str _ _ _ _⟩
theorem range_all_succ (n:Nat)(e:Nat->Bool):(List.range (n+1)).all e=(e 0&&(List.range n).all λj=>e (j+1)):=by
 rw [List.range_succ_eq_map,List.all_cons,List.all_map];rfl
theorem eqL_parts {f:D->D->Option Bool}(hf:∀ a b v u r,Rep W a v->Rep W b u->f a b=some r->EqAt A s v u r):∀ {xs ys:List D} {vs us:List Value} {r:Bool},Reps W xs vs->Reps W ys us->eqL f xs ys=some r ->
  (vs.length=us.length->∃ e:Nat->Bool,(∀ j v u,vs[j]? = some v->us[j]? = some u->EqAt A s v u (e j))/\(List.range vs.length).all e=r)/\(vs.length≠us.length->r=false)
 | [],[],_,_,_,h1,h2,h=>by
  subst h1 h2
  obtain rfl:=sq h
  exact ⟨λ_=>⟨λ_=>true,λ_ _ _ e=>by simp at e,rfl⟩,λh=>absurd rfl h⟩
 | [],_::_,_,_,_,h1,h2,h=>by
  obtain ⟨v,r,rfl,_⟩:=h2
  subst h1
  obtain rfl:=sq h
  exact ⟨λh=>by simp at h,λ_=>rfl⟩
 | _::_,[],_,_,_,h1,h2,h=>by
  obtain ⟨v,r,rfl,_⟩:=h1
  subst h2
  obtain rfl:=sq h
  exact ⟨λh=>by simp at h,λ_=>rfl⟩
 | a::xs,b::ys,_,_,q,h1,h2,h=>by
  obtain ⟨v,vs,rfl,hv,hvs⟩:=h1
  obtain ⟨u,us,rfl,hu,hus⟩:=h2
  refine xEA (optB h) λx hx h=>?_
  refine xEA (opt_val h) λy hq h=>?_
  simp only [Option.map_some,Option.some.injEq] at h
  obtain ⟨i1,i2⟩:=eqL_parts hf hvs hus hq
  refine ⟨λhl=>?_,λhl=>?_⟩
  ·refine xEA (i1 (by simpa using hl)) λe he ha=>?_
   refine ⟨λj=>match j with | 0=>x | j+1=>e j,λj v' u' e1 e2=>?_,?_⟩
   ·cases j with
    | zero =>
     simp at e1 e2
     subst e1 e2
     exact hf _ _ _ _ _ hv hu hx
    | succ j=>exact he j v' u' (by simpa using e1) (by simpa using e2)
   ·rw [List.length_cons,range_all_succ,← h,← ha]
  ·rw [<-h,i2 (by simpa using hl),Bool.and_false]
theorem lists_at {f:D->D->Option Bool}(hf:∀ a b v u r,Rep W a v->Rep W b u->f a b=some r->EqAt A.in1 s v u r){xs ys:List D}{l m:Addr}{is js:Array Value}{r:Bool}(hu:A.units < cLine)
  (hl:s.heap.IsList l is) (hm:s.heap.IsList m js) (h1:Reps W xs is.toList) (h2:Reps W ys js.toList) (h:eqL f xs ys=some r):RcAt A s (.ref l) (.ref m) r/\RcNeAt A s (.ref l) (.ref m) (!r):=by
 clear lists_at
 obtain ⟨p1,p2⟩:=eqL_parts hf h1 h2 h
 by_cases hz:is.size=js.size
 ·refine xEA (p1 hz) λe he ha=>?_
  have key:∀ j (q1:j < is.size) (q2:j < js.size),EqAt A.in1 s is[j] js[j] (e j):=λj q1 q2=>he j _ _ (by simp [q1]) (by simp [q2])
  rw [<-ha]
  exact ⟨RcAt.lists hl hm hz hu key,RcNeAt.lists hl hm hz hu key⟩
 ·have:=p2 hz
  clear p2 p1 h h2 h1 hf ys xs f W
  subst this
  exact ⟨RcAt.lists_lengths hl hm (by simpa using hz) hu,RcNeAt.lists_lengths hl hm (by simpa using hz) hu⟩
theorem eq0_same {a b:D}{v:Value}{r:Bool}(ha:Rep W a v)(hb:Rep W b v)(h:eq0 a b=some r):r=true:=by
 rcases pairD_inv h with ⟨x,y,rfl,rfl,rfl⟩ | ⟨x,y,rfl,rfl,rfl⟩
 ·obtain ⟨t,rfl⟩:=ha
  obtain ⟨t',e⟩:=hb
  injection e with e
  exact decide_eq_true e
 ·clear h eq0_same
  obtain ⟨_,t,rfl⟩:=ha
  obtain ⟨_,t',e⟩:=hb
  injection e with e
  exact eqT_iff.mpr (S_inj e)
theorem eqL_same {f:D->D->Option Bool}(hf:∀ a b v r,Rep W a v->Rep W b v->f a b=some r->r=true):∀ {xs ys:List D} {vs:List Value} {r:Bool},Reps W xs vs->Reps W ys vs->eqL f xs ys=some r->r=true
 | [],[],_,_,_,_,h=>by cases h;rfl
 | [],_::_,_,_,h1,h2,_=>by
  obtain ⟨_,_,e,_⟩:=h2
  rw [h1] at e;cases e
 | _::_,[],_,_,h1,h2,_=>by
  obtain ⟨_,_,e,_⟩:=h1
  rw [h2] at e;cases e
 | a::xs,b::ys,_,_,h1,h2,h=>by
  obtain ⟨v,vs,rfl,hv,hvs⟩:=h1
  obtain ⟨u,us,e,hu,hus⟩:=h2
  injection e with e1 e2
  subst e1 e2
  refine xEA (optB h) λx hx h=>?_
  refine xEA (opt_val h) λy hq h=>?_
  simp only [Option.map_some,Option.some.injEq] at h
  rw [<-h,hf _ _ _ _ hv hu hx,eqL_same hf hvs hus hq];rfl
theorem isList_same {h:Heap}{a:Addr}{is js:Array Value}(x:h.IsList a is)(y:h.IsList a js):is=js:=by
 obtain ⟨o,ho,_,n,hd⟩:=x
 obtain ⟨o',ho',_,n',hd'⟩:=y
 rw [ho] at ho'
 obtain rfl:=sq ho'
 rw [hd] at hd'
 injection hd'
theorem eq1_at (o:Ok W s)(hu:A.units < cLine){a b:D}{v u:Value}{r:Bool}(ha:Rep W a v)(hb:Rep W b u)(h:eq1 a b=some r):EqAt A s v u r:=by
 rcases eqW_inv h with ⟨xs,ys,rfl,rfl,h⟩ | h
 ·obtain ⟨l,is,rfl,_,hl,_,h1⟩:=ha
  obtain ⟨m,js,rfl,_,hm,_,h2⟩:=hb
  by_cases hlm:l=m
  ·subst hlm
   have e:=isList_same hl hm
   subst e
   rw [eqL_same (λ_ _ _ _=>eq0_same) h1 h2 h]
   exact EqAt.same _
  ·rw [<-o.1] at hl hm
   exact EqAt.of_refs hlm (lists_at (λa b v u r p q e=>(eq0_at p q e).1) hu hl hm h1 h2 h).1
 ·exact (eq0_at ha hb h).1
theorem eqD_at (o:Ok W s)(hu:A.units+2 < cLine){a b:D}{v u:Value}{r:Bool}(ha:RepT W a v)(hb:Rep W b u)(h:eqD a b=some r):RcAt A s v u r/\RcNeAt A s v u (!r):=by
 rcases eqW_inv h with ⟨xs,ys,rfl,rfl,h⟩ | h
 ·refine xEEAAA (ha.list) λl is ee2 hl _ h1=>?_
  subst ee2
  obtain ⟨m,js,rfl,_,hm,_,h2⟩:=hb
  rw [<-o.1] at hl hm
  exact lists_at (λa b v u r p q e=>eq1_at o (by show A.units+1 < cLine;exact Nat.lt_of_succ_lt hu) p q e) (Nat.lt_of_succ_lt (Nat.lt_of_succ_lt hu)) hl hm h1 h2 h
 ·rcases ha with ha | ⟨xs,_,_,rfl,_⟩
  ·exact (eq0_at ha hb h).2
  ·exact ns h
end
end
section
open PySem.SeqAt
structure Bs:Prop where
 missing:∃ o,zh.get? 171=some o/\o.cls=.type "object"
section
variable {A:Around}{W W':Wd}{d:D}{s:Shared}{Q:Value->Shared->Prop}{E:Value->Shared->Prop}
theorem ltT_iff:∀ a b:Tx,ltT a b=true↔a < b
 | [],[]=>by simp [ltT]
 | [],_::_=>by simp [ltT]
 | _::_,[]=>by simp [ltT]
 | a::r,b::q=>by
  unfold ltT
  rw [List.cons_lt_cons_iff,← ltT_iff r q]
  by_cases h:a < b
  ·have:Nat.blt a b=true:=by simpa [Nat.blt_eq] using h
   simp [this,h]
  ·have h1:Nat.blt a b=false:=by
    cases e:Nat.blt a b with
    | true=>exact absurd (by simpa [Nat.blt_eq] using e) h
    | false=>rfl
   by_cases h2:a=b
   ·subst h2;simp [h1]
   ·have h3:Nat.beq a b=false:=by
     cases e:Nat.beq a b with
     | true=>exact absurd (Nat.eq_of_beq_eq_true e) h2
     | false=>rfl
    simp [h1,h3,h2,h]
theorem inD_ints:∀ {a:D} {xs:List D} {r:Bool},inD a xs=some r->∃ x,a=.int x/\∃ ys:List Int,xs=ys.map .int/\r=ys.any (λy=>decide (x=y)):=by
 intro a xs
 induction xs with
 | nil =>
  intro r h
  refine xEA (bd_inv (show ((intC a).bind λ_=>some false)=some r from h)) λx _ h1=>?_
  exact ⟨x.i,x.e,[],rfl,(sq h1).symm⟩
 | cons b q ih =>
  intro r h
  refine xEA (bd_inv (show ((intC a).bind λx=>(intC b).bind λy=>(inD a q).bind λz=>some (decide (x.i=y.i)||z))=some r from h)) λx _ h1=>?_
  clear h
  refine xEA (bd_inv h1) λy _ h2=>?_
  clear h1
  refine xEA (bd_inv h2) λz hz h3=>?_
  clear h2
  obtain ⟨x',e,ys,rfl,rfl⟩:=ih hz
  have e2:x.i=x':=by injection x.e.symm.trans e
  refine ⟨x',e,y.i::ys,congrArg (·::ys.map D.int) y.e,?_⟩
  rw [<-sq h3,e2]
  rfl
noncomputable def isI (x:Int):Value->Bool
 | .int y _=>decide (x=y)
 | _=>false
theorem ints_any {x:Int}:∀ {ys:List Int} {vs:List Value},Reps W (ys.map D.int) vs->vs.any (isI x)=ys.any (λy=>decide (x=y))/\∀ v∈vs,∃ y t,v=.int y t
 | [],_,h=>by
  subst h;exact ⟨rfl,λ_ h=>nomatch h⟩
 | y::ys,_,h=>by
  obtain ⟨v,r,rfl,⟨t,rfl⟩,h2⟩:=h
  obtain ⟨i1,i2⟩:=ints_any (x:=x) h2
  refine ⟨by rw [List.any_cons,List.any_cons,i1];rfl,λv hv=>?_⟩
  rcases List.mem_cons.mp hv with rfl | hv
  ·exact ⟨_,_,rfl⟩
  ·exact i2 v hv
theorem int_eqAt (x y:Int)(t u:Tok):EqAt A s (.int y t) (.int x u) (isI x (.int y t)):=by
 have:isI x (.int y t)=(y == x):=by
  show decide (x=y)=(y == x)
  rw [Bool.eq_iff_iff,decide_eq_true_eq,beq_iff_eq];exact eq_comm
 rw [this];exact EqAt.int_int _ _ _ _
theorem in_ints {a:Addr}{x:Int}{u:Tok}{ys:List Int}{is:Array Value}(o:Ok W s)(hl:W.h.IsList a is)(hr:Reps W (ys.map D.int) is.toList)(hq:Q (.bool (ys.any λy=>decide (x=y))) s):wpAny Mo A (compareOp .In (.int x u) (.ref a)) Q E s:=by
 obtain ⟨i1,i2⟩:=ints_any (x:=x) hr
 refine in_listAt (isI x) (by rw [o.1];exact hl) (λy hy=>?_) (by rw [<-Array.any_toList,i1];exact hq)
 refine xEE (i2 y (by simpa using hy)) λy' t ee2=>?_
 subst ee2
 exact int_eqAt _ _ _ _
theorem notIn_ints {a:Addr}{x:Int}{u:Tok}{ys:List Int}{is:Array Value}(o:Ok W s)(hl:W.h.IsList a is)(hr:Reps W (ys.map D.int) is.toList)(hq:Q (.bool (!ys.any λy=>decide (x=y))) s):wpAny Mo A (compareOp .NotIn (.int x u) (.ref a)) Q E s:=by
 obtain ⟨i1,i2⟩:=ints_any (x:=x) hr
 refine notIn_listAt (isI x) (by rw [o.1];exact hl) (λy hy=>?_) (by rw [<-Array.any_toList,i1];exact hq)
 refine xEE (i2 y (by simpa using hy)) λy' t ee2=>?_
 subst ee2
 exact int_eqAt _ _ _ _
theorem in_tints {a:Addr}{x:Int}{u:Tok}{ys:List Int}{is:Array Value}(o:Ok W s)(hl:W.h.IsTuple a is)(hr:Reps W (ys.map D.int) is.toList)(hq:Q (.bool (ys.any λy=>decide (x=y))) s):wpAny Mo A (compareOp .In (.int x u) (.ref a)) Q E s:=by
 obtain ⟨i1,i2⟩:=ints_any (x:=x) hr
 refine in_tupleAt (isI x) (by rw [o.1];exact hl) (λy hy=>?_) (by rw [<-Array.any_toList,i1];exact hq)
 refine xEE (i2 y (by simpa using hy)) λy' t ee2=>?_
 subst ee2
 exact int_eqAt _ _ _ _
theorem notIn_tints {a:Addr}{x:Int}{u:Tok}{ys:List Int}{is:Array Value}(o:Ok W s)(hl:W.h.IsTuple a is)(hr:Reps W (ys.map D.int) is.toList)(hq:Q (.bool (!ys.any λy=>decide (x=y))) s):wpAny Mo A (compareOp .NotIn (.int x u) (.ref a)) Q E s:=by
 obtain ⟨i1,i2⟩:=ints_any (x:=x) hr
 refine notIn_tupleAt (isI x) (by rw [o.1];exact hl) (λy hy=>?_) (by rw [<-Array.any_toList,i1];exact hq)
 refine xEE (i2 y (by simpa using hy)) λy' t ee2=>?_
 subst ee2
 exact int_eqAt _ _ _ _
theorem isNone_ok {a:D}(h:isNone a=true):a=.none:=by
 cases a with
 | none=>rfl
 | _=>exact nf h
theorem isTy_ok {n:Nat}{a:D}(h:isTy n a=true):a=.ty n:=by
 cases a with
 | ty k=>rw [Nat.eq_of_beq_eq_true h]
 | _=>exact nf h
theorem rep_none {u:Value}{b:D}(hb:Rep W b u)(h:isNone b=true):u=.none:=by
 rw [isNone_ok h] at hb
 exact hb
theorem same_missing (B:Bs)(I:Inv W)(o:Ok W s){a:Addr}{items:Array Value}(hl:W.h.IsList a items):∀ Q:Bool->Shared->Prop,Q false s->wpAny Mo A (isSame (.ref a) (.ref 171)) Q E s:=by
 intro Q hq
 clear same_missing
 refine xEA (B.missing) λom e hc=>?_
 have hm:=I.at e (by decide)
 clear e I B
 obtain ⟨ol,hol,hcl,n,hd⟩:=hl
 have hne:(a == (171:Nat))=false:=by
  rw [beq_eq_false_iff_ne]
  intro q
  subst q
  rw [hol] at hm
  obtain rfl:=sq hm
  rw [hcl] at hc;exact absurd hc (by decide)
 unfold isSame
 dsimp only
 rw [if_neg (by rw [hne];exact Bool.false_ne_true)]
 refine wpAny_bind (wpAny_load (by rw [o.1];exact hol) (wpAny_bind (wpAny_load (by rw [o.1];exact hm) ?_)))
 rw [hcl,hc]
 exact wpAny_pure hq
theorem isD_at (B:Bs)(I:Inv W)(o:Ok W s){a b:D}{v u:Value}{r:Bool}(ha:RepT W a v)(hb:Rep W b u)(h:isD a b=some r):∀ Q:Bool->Shared->Prop,Q r s->wpAny Mo A (isSame v u) Q E s:=by
 intro Q hq
 cases a with
 | none =>
  obtain ⟨h1,e⟩:=ite_val (show (if isNone b=true then some true else none)=some r from h)
  obtain rfl:=sq e
  have ha:=ha.plain (λ_=>nofun)
  rw [ha,rep_none hb h1]
  exact wpAny_pure hq
 | str x =>
  obtain ⟨h1,e⟩:=ite_val (show (if isNone b=true then some false else none)=some r from h)
  obtain rfl:=sq e
  have ha:=ha.plain (λ_=>nofun)
  obtain ⟨_,t,rfl⟩:=ha
  rw [rep_none hb h1]
  exact wpAny_pure hq
 | int x =>
  obtain ⟨h1,e⟩:=ite_val (show (if isNone b=true then some false else none)=some r from h)
  obtain rfl:=sq e
  have ha:=ha.plain (λ_=>nofun)
  obtain ⟨t,rfl⟩:=ha
  rw [rep_none hb h1]
  exact wpAny_pure hq
 | list xs =>
  refine xEEAA (ha.list) λa items ee2 hl _=>?_
  subst ee2
  cases b with
  | none =>
   obtain rfl:=sq h
   subst hb
   exact wpAny_pure hq
  | «at» k =>
   obtain ⟨h1,e⟩:=ite_val (show (if Nat.beq k 171=true then some false else none)=some r from h)
   obtain rfl:=sq e
   have e:u=.ref k:=hb
   rw [e,Nat.eq_of_beq_eq_true h1]
   exact same_missing B I o hl Q hq
  | _=>exact ns h
 | ty k =>
  obtain ⟨h1,e⟩:=ite_val (show (if isTy k b=true then some true else none)=some r from h)
  obtain rfl:=sq e
  have ha:=ha.plain (λ_=>nofun)
  rw [isTy_ok h1] at hb
  subst ha hb
  have e2:isSame (.type (tyN k)) (.type (tyN k))=(pure (Value.type (tyN k) == Value.type (tyN k)):Sem Bool):=rfl
  refine wpAny_pure ?_
  simpa using hq
 | _=>exact ns h
noncomputable def opN:Nat->CmpOp
 | 0=>.Eq | 1=>.NotEq | 2=>.Lt | 3=>.Gt | 4=>.Is | 5=>.IsNot | 6=>.In | _=>.NotIn
theorem cmpOf_op {op:CmpOp}{k:Nat}(h:cmpOf op=some k):op=opN k:=by
 cases op<;>first | (obtain rfl:=sq h;rfl) | exact ns h
theorem lt_at {a b:D}{v u:Value}{r:Bool}(h:ltD a b=some r)(ha:Rep W a v)(hb:Rep W b u):(Q (.bool r) s->wpAny Mo A (compareOp .Lt v u) Q E s)/\(Q (.bool r) s->wpAny Mo A (compareOp .Gt u v) Q E s):=by
 rcases pairD_inv h with ⟨x,y,rfl,rfl,rfl⟩ | ⟨x,y,rfl,rfl,rfl⟩
 ·obtain ⟨t,rfl⟩:=ha
  obtain ⟨t',rfl⟩:=hb
  exact ⟨lt_int,gt_int⟩
 ·obtain ⟨_,t,rfl⟩:=ha
  obtain ⟨_,t',rfl⟩:=hb
  have e:decide ((S x).cps.toList < (S y).cps.toList)=ltT x y:=by
   rw [Bool.eq_iff_iff,decide_eq_true_eq,ltT_iff]
  rw [<-e]
  exact ⟨lt_str,P.gt_str⟩
theorem in_at (o:Ok W s){a b:D}{v u:Value}{r:Bool}(h:inS a b=some r)(ha:RepT W a v)(hb:Rep W b u):(Q (.bool r) s->wpAny Mo A (compareOp .In v u) Q E s)/\(Q (.bool (!r)) s->wpAny Mo A (compareOp .NotIn v u) Q E s):=by
 refine xEA (inS_inv h) λxs hs h1=>?_
 clear h
 obtain ⟨x,rfl,ys,rfl,rfl⟩:=inD_ints h1
 clear h1
 obtain ⟨t,rfl⟩:=ha.plain (λ_=>nofun)
 clear ha
 rcases hs with rfl | rfl
 ·obtain ⟨l,is,rfl,_,hl,_,hr⟩:=hb
  exact ⟨in_ints o hl hr,notIn_ints o hl hr⟩
 ·obtain ⟨l,is,n,rfl,_,hl,_,hr⟩:=hb
  exact ⟨in_tints o ⟨_,hl,rfl,n,rfl⟩ hr,notIn_tints o ⟨_,hl,rfl,n,rfl⟩ hr⟩
theorem lt_plain {a b:D}{r:Bool}{v:Value}(h:ltD a b=some r)(ha:RepT W a v):Rep W a v:=by
 rcases pairD_inv h with ⟨x,y,rfl,_⟩ | ⟨x,y,rfl,_⟩<;>exact ha.plain (λ_=>nofun)
theorem gt_plain {a b:D}{r:Bool}{v:Value}(h:ltD b a=some r)(ha:RepT W a v):Rep W a v:=by
 rcases pairD_inv h with ⟨x,y,_,rfl,_⟩ | ⟨x,y,_,rfl,_⟩<;>exact ha.plain (λ_=>nofun)
theorem cmp_at (B:Bs)(I:Inv W)(o:Ok W s)(hu:A.units+2 < cLine){op:CmpOp}{k:Nat}(hk:cmpOf op=some k){a b:D}{v u:Value}{r:Bool}(ha:RepT W a v)(hb:Rep W b u)(h:cmpD k a b=some r)(hq:Q (.bool r) s):wpAny Mo A (compareOp op v u) Q E s:=by
 obtain rfl:=cmpOf_op hk
 clear hk
 match k,h with
 | 0,h=>exact (eqD_at o hu ha hb h).1 _ _ _ _ hq
 | 1,h =>
  refine xEA (opt_val h) λx hx h=>?_
  obtain rfl:=sq h
  exact (eqD_at o hu ha hb hx).2 _ _ _ _ hq
 | 2,h=>exact (lt_at h (lt_plain h ha) hb).1 hq
 | 3,h=>exact (lt_at h hb (gt_plain h ha)).2 hq
 | 4,h=>exact wpAny_bind (isD_at B I o ha hb h _ (wpAny_pure hq))
 | 5,h =>
  refine xEA (opt_val h) λx hx h=>?_
  obtain rfl:=sq h
  exact wpAny_bind (isD_at B I o ha hb hx _ (wpAny_pure hq))
 | 6,h=>exact (in_at o h ha hb).1 hq
 | 7,h =>
  refine xEA (opt_val h) λx hx h=>?_
  obtain rfl:=sq h
  exact (in_at o hx ha hb).2 hq
end
end
theorem S_tx (x:Str):S (tx x)=x:=by
 obtain ⟨a⟩:=x
 simp [S,tx]
theorem tx_S (x:Tx):tx (S x)=x:=by simp [tx]
theorem tx_beq (x y:Str):(x == y)=eqT (tx x) (tx y):=by rw [<-S_beq,S_tx,S_tx]
noncomputable def IsF (h:Heap)(I:Addr):Prop:=∃ o vs,h.get? I=some o/\o.data=.fields vs
noncomputable def RowF (h:Heap)(J:Addr):Prop:=∃ o,h.get? J=some o/\((∃ i n,o.data=.seq i n)\/∃ vs,o.data=.fields vs)
theorem IsF.rowF {h:Heap}{J:Addr}(x:IsF h J):RowF h J:=let ⟨o,vs,e,d⟩:=x;⟨o,e,.inr ⟨vs,d⟩⟩
theorem RowF.notCell {h:Heap}{J c:Addr}{v:Option Value}(x:RowF h J)(y:h.IsCell c v):c≠J:=λq=>by
 obtain ⟨o,e,h⟩:=x
 obtain ⟨o',e',h'⟩:=y
 rw [q,e] at e';obtain rfl:=sq e'
 rcases h with ⟨i,n,h⟩ | ⟨vs,h⟩<;>(rw [h] at h';cases h')
theorem RowF.notNs {h:Heap}{J c:Addr}{m}(x:RowF h J)(y:h.Ns c m):c≠J:=λq=>by
 obtain ⟨o,e,h⟩:=x
 obtain ⟨o',es,ep,e',h',_⟩:=y
 rw [q,e] at e';obtain rfl:=sq e'
 rcases h with ⟨i,n,h⟩ | ⟨vs,h⟩<;>(rw [h] at h';cases h')
structure ItrD (I:Addr)(fp:List Addr)(n:Nat)(Pd:Nat->Value->Prop)(St:Nat->Heap->Prop):Prop where
 wk:∀ A:Around,A.handled=none->Walks zp zw A I fp [I] n Pd St
 fld:∀ k h,St k h->IsF h I
inductive Itr (W:Wd)(I:Addr)(xs:List D):Prop
 | mk (fp:List Addr) (n:Nat) (Pd:Nat->Value->Prop) (St:Nat->Heap->Prop) (k:Nat) (hD:ItrD I fp n Pd St) (hf:∀ b∈fp,b=I\/(b∉W.pv/\∃ o,W.h.get? b=some o/\o.cls≠.none/\o.cls≠.type "dict")) (hs:St k W.h) (hn:n=k+xs.length)
  (hr:∀ j v d,xs[j]? = some d->Pd (k+j) v->Rep W d v)
inductive MutR (B:List Addr)(W:Wd)(xs:List D)(v:Value):Prop
 | mk (p:Addr) (items:Array Value) (e:v=.ref p) (hp:p∈W.pv) (hb:p∉B) (hl:W.h.PlainList p items) (hz:items.size<=lim) (hr:Reps W xs items.toList)
inductive ItrR (B:List Addr)(W:Wd)(xs:List D)(v:Value):Prop
 | mk (p:Addr) (e:v=.ref p) (hp:p∈W.pv) (hb:p∉B) (hi:Itr W p xs)
noncomputable def EVR (B:List Addr)(W:Wd):EV->Value->Prop
 | .d x,v=>Rep W x v
 | .mut xs,v=>MutR B W xs v
 | .itr xs,v=>ItrR B W xs v
inductive ValR (B:List Addr)(W:Wd)(ev:EV)(o:Option Value):Prop
 | mk (v:Value) (e:o=some v) (r:EVR B W ev v)
inductive NsR (B:List Addr)(nm:List (Str×NameKind))(env:Env)(W:Wd)(ρ:Rho):Prop
 | mk (m:Str->Option Value) (hn:W.h.Ns env.locals m) (hm:∀ x ev,lkp nm x=some .local->getR ρ x=some ev->ValR B W ev (m (S x)))
inductive CellR (B:List Addr)(env:Env)(W:Wd)(ρ:Rho)(x:Tx):Prop
 | mk (c:Addr) (v0:Option Value) (hl:env.cells.lookup (S x)=some c) (hp:c∈W.pv) (hc:W.h.IsCell c v0) (hv:∀ ev,getR ρ x=some ev->ValR B W ev v0)
section
variable {A:Around}{W W':Wd}{P B:List Addr}
theorem Itr.isF {I:Addr}{xs:List D}(x:Itr W I xs):IsF W.h I:=by
 obtain ⟨fp,n,Pd,St,k,D,_,h,_⟩:=x
 exact D.fld k _ h
theorem Le0.priv (I:Inv W)(L:Le0 P W W'){a:Addr}{o:Obj}(hp:a∈W.pv)(hn:a∉P)(e:W.h.get? a=some o):W'.h.get? a=some o:=by
 refine L.keep a o e (λh=>I.tabPv a h hp) hn ?_
 cases h:W.ig.lookup a with
 | none=>rfl
 | some ds=>exact absurd hp (I.igPv a ds h)
theorem Itr.mono (I:Inv W)(L:Le0 P W W')(hP:∀ a∈P,a∈W.pv){i:Addr}{xs:List D}(hi:i∈W.pv)(hn:i∉P)(x:Itr W i xs):Itr W' i xs:=by
 obtain ⟨fp,n,Pd,St,k,D,hf,hs,e,hr⟩:=x
 refine ⟨fp,n,Pd,St,k,D,λb hb=>?_,?_,e,λj v d e h=>(hr j v d e h).mono I L hP⟩
 ·rcases hf b hb with q | ⟨h1,o,h2,h3,h4⟩
  ·exact .inl q
  ·exact .inr ⟨L.notPv hP h2 h1,o,L.obj I hP h1 h2 h3 h4,h3,h4⟩
 ·refine (D.wk ⟨none,0,none,none,0⟩ rfl).frame k _ _ hs λb hb o ho=>?_
  clear hs D e hr St Pd n xs
  rcases hf b hb with q | ⟨h1,o',h2,h3,h4⟩
  ·clear hb hf k fp
   subst q;exact L.priv I hi hn ho
  ·rw [h2] at ho;obtain rfl:=sq ho
   exact L.obj I hP h1 h2 h3 h4
theorem EVR.mono (I:Inv W)(L:Le P W W')(hP:∀ a∈P,a∈W.pv):∀ {ev:EV} {v:Value},((∀ x,ev≠.d x)->∀ q∈P,v≠.ref q)->EVR B W ev v->EVR B W' ev v
 | .d x,v,_,h=>Rep.mono I L.toLe0 hP h
 | .mut xs,v,hq,h=>by
  obtain ⟨p,items,rfl,hp,hb,⟨n,ho⟩,hz,hr⟩:=h
  have hn:p∉P:=λh=>hq (λ_=>nofun) p h rfl
  exact ⟨p,items,rfl,L.pvK p hp hn,hb,⟨n,L.toLe0.priv I hp hn ho⟩,hz,hr.mono I L.toLe0 hP⟩
 | .itr xs,v,hq,h=>by
  obtain ⟨p,rfl,hp,hb,hi⟩:=h
  have hn:p∉P:=λh=>hq (λ_=>nofun) p h rfl
  exact ⟨p,rfl,L.pvK p hp hn,hb,hi.mono I L.toLe0 hP hp hn⟩
theorem EVR.kinds {ev:EV}{v:Value}(h:EVR B W ev v)(hn:∀ x,ev≠.d x):∃ p o,v=.ref p/\W.h.get? p=some o/\((∃ i n,o.data=.seq i n)\/∃ vs,o.data=.fields vs):=by
 match ev,h with
 | .d x,_=>exact absurd rfl (hn x)
 | .mut xs,h =>
  obtain ⟨p,items,rfl,hp,_,⟨n,ho⟩,_⟩:=h
  exact ⟨p,_,rfl,ho,.inl ⟨_,_,rfl⟩⟩
 | .itr xs,h =>
  obtain ⟨p,rfl,hp,_,hi⟩:=h
  obtain ⟨o,vs,ho,hd⟩:=hi.isF
  exact ⟨p,o,rfl,ho,.inr ⟨vs,hd⟩⟩
structure Fm (B:List Addr)(nm:List (Str×NameKind))(env:Env)(W:Wd)(ρ:Rho):Prop where
 kind:env.scope.kind=.function
 gl:env.globals=3
 bi:env.builtins=0
 kl:∀ x,lkp nm x=some .local->env.kindOf (S x)=some .local
 kc:∀ x,lkp nm x=some .cell->env.kindOf (S x)=some .cell
 kf:∀ x,lkp nm x=some .free->env.kindOf (S x)=some .free\/env.kindOf (S x)=some .cell
 kg:∀ x,lkp nm x=some .globalImplicit->env.kindOf (S x)=some .globalImplicit
 lp:env.locals∈W.pv
 lb:env.locals∉B
 cb:∀ x c,lkp nm x=some .cell->env.cells.lookup (S x)=some c->c∉B
 ns:NsR B nm env W ρ
 ce:∀ x,(lkp nm x=some .cell\/lkp nm x=some .free)->CellR B env W ρ x
 cd:∀ c,codeOf nm=some c->env.code=.ref c/\env.qual=qOf c
 apart:∀ x y c,lkp nm x=some .cell->(lkp nm y=some .cell\/lkp nm y=some .free)->env.cells.lookup (S x)=some c->env.cells.lookup (S y)=some c->x=y
theorem getR_cons (z y:Tx)(u:EV)(r:Rho):getR ((z,u)::r) y=if eqT z y then some u else getR r y:=rfl
theorem getR_setR (ρ:Rho)(x y:Tx)(ev:EV):getR (setR ρ x ev) y=if eqT x y then some ev else getR ρ y:=by
 have key:∀ ρ:Rho,eqT x y=false->getR (dropR ρ x) y=getR ρ y:=by
  intro ρ h
  induction ρ with
  | nil=>rfl
  | cons p r ih =>
   obtain ⟨z,u⟩:=p
   unfold dropR
   split
   ·rename_i e
    have ez:=eqT_iff.mp e
    clear e
    subst ez
    rw [ih,getR_cons,h];rfl
   ·rw [getR_cons,getR_cons,ih]
 show getR ((x,ev)::dropR ρ x) y=_
 rw [getR_cons]
 split
 ·rfl
 ·rename_i h
  exact key ρ (by simpa using h)
theorem Fm.sub {nm env}{ρ ρ':Rho}(F:Fm B nm env W ρ)(h:∀ x ev,getR ρ' x=some ev->getR ρ x=some ev):Fm B nm env W ρ' :=
 { F with
  ns:=let ⟨m,h1,h2⟩:=F.ns;⟨m,h1,λx ev k e=>h2 x ev k (h x ev e)⟩
  ce:=λx k=>let ⟨c,v0,h1,h2,h3,h4⟩:=F.ce x k;⟨c,v0,h1,h2,h3,λev e=>h4 ev (h x ev e)⟩ }
theorem Fm.later {nm env}{ρ:Rho}(I:Inv W)(L:Le [] W W')(F:Fm B nm env W ρ):Fm B nm env W' ρ :=
 { F with
  lp:=L.pvK _ F.lp (λh=>nomatch h)
  ns:=by
   obtain ⟨m,⟨o,es,ep,ho,r⟩,h2⟩:=F.ns
   exact ⟨m,⟨o,es,ep,L.toLe0.priv I F.lp (λh=>nomatch h) ho,r⟩,λx ev k e=>let ⟨v,e1,e2⟩:=h2 x ev k e;⟨v,e1,e2.mono I L (λ_ h=>nomatch h) (λ_ _ h=>nomatch h)⟩⟩
  ce:=λx k=>by
   obtain ⟨c,v0,h1,h2,⟨o,ho,hd⟩,h4⟩:=F.ce x k
   exact ⟨c,v0,h1,L.pvK _ h2 (λh=>nomatch h),⟨o,L.toLe0.priv I h2 (λh=>nomatch h) ho,hd⟩,λev e=>let ⟨v,e1,e2⟩:=h4 ev e;⟨v,e1,e2.mono I L (λ_ h=>nomatch h) (λ_ _ h=>nomatch h)⟩⟩ }
theorem isLoc_iff {k:Option NameKind}(h:isLoc k=true):k=some .local\/k=some .cell\/k=some .free:=by
 unfold isLoc at h
 split at h
 ·exact .inl rfl
 ·exact .inr (.inl rfl)
 ·exact .inr (.inr rfl)
 ·exact nf h
theorem isOwn_iff {k:Option NameKind}(h:isOwn k=true):k=some .local\/k=some .cell:=by
 unfold isOwn at h
 split at h
 ·exact .inl rfl
 ·exact .inr rfl
 ·exact nf h
theorem isGlo_iff {k:Option NameKind}(h:isGlo k=true):k=some .globalImplicit:=by
 unfold isGlo at h
 split at h
 ·rfl
 ·exact nf h
theorem Fm.notClass {nm env}{ρ:Rho}(F:Fm B nm env W ρ):(env.scope.kind == .class||(env.scope.kind == .module&&env.locals != env.globals))=false:=by
 rw [F.kind];rfl
variable {s:Shared}{E:Value->Shared->Prop}
theorem Fm.load {nm env}{ρ:Rho}(F:Fm B nm env W ρ)(o:Ok W s){x:Tx}{ev:EV}(hl:isLoc (lkp nm x)=true)(hg:getR ρ x=some ev)(hcd:eqT x [95,95,99,108,97,115,115,100,105,99,116,95,95]=false){Q:Value->Shared->Prop}(h:∀ v,EVR B W ev v->Q v s):wpAny Mo A (loadName env (S x)) Q E s:=by
 rcases isLoc_iff hl with k | k | k
 ·obtain ⟨m,h1,h2⟩:=F.ns
  obtain ⟨v,e1,e2⟩:=h2 x ev k hg
  exact wpAny_loadName_local F.kind (F.kl x k) (by rw [o.1];exact h1) e1 (h v e2)
 ·obtain ⟨c,v0,h1,h2,h3,h4⟩:=F.ce x (.inl k)
  obtain ⟨v,rfl,e2⟩:=h4 ev hg
  exact wpAny_loadName_cell F.kind (F.kc x k) h1 (by rw [o.1];exact h3) (h v e2)
 ·obtain ⟨c,v0,h1,h2,h3,h4⟩:=F.ce x (.inr k)
  obtain ⟨v,rfl,e2⟩:=h4 ev hg
  rcases F.kf x k with q | q
  ·refine wpAny_loadName_free F.kind q h1 (by rw [o.1];exact h3) (h v e2) ?_
   rw [show (S x == ("__classdict__" : Str))=eqT x [95,95,99,108,97,115,115,100,105,99,116,95,95] from S_beq x _]
   exact hcd
  ·exact wpAny_loadName_cell F.kind q h1 (by rw [o.1];exact h3) (h v e2)
theorem Fm.put' {nm env}{ρ:Rho}(I:Inv W)(F:Fm B nm env W ρ)(o:Ok W s){x:Tx}{ev:EV}{v:Value}(hl:isOwn (lkp nm x)=true)(hv:EVR B W ev v){Q:Unit->Shared->Prop}
  (h:∀ q W' s',q∈W.pv->q∉B->¬ RowF W.h q->Le [q] W W'->Inv W'->Ok W' s'->W'.pv=W.pv->Fm B nm env W' (setR ρ x ev)->Q () s'):wpAny Mo A (storeName env (S x) v) Q E s:=by
 have hne:∀ {q:Addr} {oq:Obj},W.h.get? q=some oq->(∀ i n,oq.data≠.seq i n)->(∀ vs,oq.data≠.fields vs)->∀ {ev:EV} {v:Value},EVR B W ev v->(∀ x,ev≠.d x)->∀ q'∈[q],v≠.ref q':=by
  intro q oq e h1 h2 ev v hv hn q' hq' e'
  rw [List.mem_singleton] at hq'
  subst hq'
  refine xEEAA (hv.kinds hn) λp op e1 e2 e3=>?_
  rw [e1] at e';cases e'
  rw [e] at e2;obtain rfl:=sq e2
  rcases e3 with ⟨i,n,e3⟩ | ⟨vs,e3⟩
  ·exact h1 i n e3
  ·exact h2 vs e3
 obtain ⟨m,hns,hm⟩:=F.ns
 obtain ⟨oL,es,ep,hoL,hdL,_⟩:=id hns
 rcases isOwn_iff hl with k | k
 ·refine wpAny_storeName_local (F.kl x k) (by rw [o.1];exact hns) (λh' hn' hs'=>?_) F.notClass
  rw [o.1] at hs'
  have al:∃ o',h'.get? env.locals=some o':=by obtain ⟨o',_,_,e,_⟩:=hn';exact ⟨o',e⟩
  have L:Le [env.locals] W { W with h:=h' }:=turn_le I F.lp hs'.extBut
  have I':=turn_inv I F.lp hs'.extBut al
  have hP:∀ a∈[env.locals],a∈W.pv:=mem1 F.lp
  have mono:∀ {ev v},EVR B W ev v->EVR B { W with h:=h' } ev v:=λr=>r.mono I L hP (hne hoL (by rw [hdL];nofun) (by rw [hdL];nofun) r)
  refine h env.locals _ _ F.lp F.lb (λz=>z.notNs hns rfl) L I' ⟨rfl,o.2.1,o.2.2⟩ rfl { F with lp:=F.lp,ns:=⟨_,hn',λy ev' ky e=>?_⟩,ce:=λy ky=>?_ }
  ·rw [getR_setR] at e
   split at e
   ·rename_i q
    obtain rfl:=sq e
    have q':=eqT_iff.mp q
    subst q'
    exact ⟨v,by simp,mono hv⟩
   ·rename_i q
    obtain ⟨u,e1,e2⟩:=hm y ev' ky e
    refine ⟨u,?_,mono e2⟩
    rw [if_neg (λz=>q (eqT_iff.mpr (S_inj z).symm))]
    exact e1
  ·obtain ⟨c,v0,h1,h2,h3,h4⟩:=F.ce y ky
   have hcl:c≠env.locals:=λq=>by
    obtain ⟨oc,hoc,hdc⟩:=h3
    rw [q,hoL] at hoc;obtain rfl:=sq hoc
    rw [hdL] at hdc;cases hdc
   refine ⟨c,v0,h1,h2,h3.sameBut hs' hcl,λev' e=>?_⟩
   rw [getR_setR] at e
   split at e
   ·rename_i q
    have q':=eqT_iff.mp q
    subst q'
    rw [k] at ky
    rcases ky with ky | ky<;>cases ky
   ·obtain ⟨u,e1,e2⟩:=h4 ev' e
    exact ⟨u,e1,mono e2⟩
 ·obtain ⟨c,v0,h1,h2,h3,h4⟩:=F.ce x (.inl k)
  obtain ⟨oc,hoc,hdc⟩:=id h3
  refine wpAny_storeName_cell F.kind (F.kc x k) h1 (by rw [o.1];exact h3) λh' hn' hs'=>?_
  rw [o.1] at hs'
  have al:∃ o',h'.get? c=some o':=by obtain ⟨o',e,_⟩:=hn';exact ⟨o',e⟩
  have L:Le [c] W { W with h:=h' }:=turn_le I h2 hs'.extBut
  have I':=turn_inv I h2 hs'.extBut al
  have hP:∀ a∈[c],a∈W.pv:=mem1 h2
  have mono:∀ {ev v},EVR B W ev v->EVR B { W with h:=h' } ev v:=λr=>r.mono I L hP (hne hoc (by rw [hdc];nofun) (by rw [hdc];nofun) r)
  have hlc:env.locals≠c:=λq=>by
   rw [q,hoc] at hoL;obtain rfl:=sq hoL
   rw [hdL] at hdc;cases hdc
  refine h c _ _ h2 (F.cb x c k h1) (λz=>z.notCell h3 rfl) L I' ⟨rfl,o.2.1,o.2.2⟩ rfl { F with lp:=F.lp,ns:=⟨m,hns.sameBut hs' hlc,λy ev' ky e=>?_⟩,ce:=λy ky=>?_ }
  ·rw [getR_setR] at e
   split at e
   ·rename_i q
    have q':=eqT_iff.mp q
    subst q'
    rw [k] at ky;cases ky
   ·obtain ⟨u,e1,e2⟩:=hm y ev' ky e
    exact ⟨u,e1,mono e2⟩
  ·obtain ⟨d,w0,g1,g2,g3,g4⟩:=F.ce y ky
   by_cases hxy:x=y
   ·subst hxy
    refine ⟨c,some v,h1,h2,hn',λev' e=>?_⟩
    rw [getR_setR,if_pos (eqT_iff.mpr rfl)] at e
    obtain rfl:=sq e
    exact ⟨v,rfl,mono hv⟩
   ·have hdc':d≠c:=λq=>hxy (F.apart x y c k ky h1 (q▸g1))
    refine ⟨d,w0,g1,g2,g3.sameBut hs' hdc',λev' e=>?_⟩
    rw [getR_setR,if_neg (λz=>hxy (eqT_iff.mp z))] at e
    obtain ⟨u,e1,e2⟩:=g4 ev' e
    exact ⟨u,e1,mono e2⟩
theorem Le.none {W0:Wd}(L:Le [] W0 W){q:Addr}(h:q∈W.pv)(hb:q∉W0.pv):W0.h.get? q=none:=by
 cases e:W0.h.get? q with
 | none=>rfl
 | some o=>exact absurd (L.pv q o e (λz=>nomatch z) h) hb
theorem Le.own {W0:Wd}(I0:Inv W0)(L:Le [] W0 W)(L':Le P W W')(h:∀ q∈P,q∈W.pv/\q∉W0.pv):Le [] W0 W' :=
 (L.nil.trans L').fresh I0 λx hx=>.inr (L.none (h x hx).1 (h x hx).2)
end
section
open PySem.Builtin PySem.Builtin.Str
section
variable {A:Around}{W W':Wd}{d:D}{s:Shared}{Q:Value->Shared->Prop}{E:Value->Shared->Prop}{env:Env}
theorem lim_fit {n:Nat}(h:n<=lim):(n:Int) < 2 ^ 63:=by unfold lim at h;exact Int.lt_of_le_of_lt (Int.ofNat_le.mpr h) (by decide)
theorem empty_eq {ds:List D}{items:Array Value}(hn:items.toList.length=ds.length):(!ds.isEmpty)=(!items.isEmpty):=by
 rw [<-Array.isEmpty_toList]
 cases ds with
 | nil=>rw [List.length_eq_zero_iff.mp hn];rfl
 | cons _ _ =>
  cases e:items.toList with
  | nil=>rw [e] at hn;exact absurd hn.symm (Nat.succ_ne_zero _)
  | cons _ _=>rfl
theorem truth0_at {v:Value}{b:Bool}{Q:Bool->Shared->Prop}(o:Ok W s)(h:RepT W d v)(hb:truth0 d=some b)(hq:∀ n,Q b { s with toks:=n }):wpAny Mo A (truthy v) Q E s:=by
 cases d with
 | none =>
  obtain rfl:=sq hb
  obtain rfl:v=.none:=h.plain (λ_=>nofun)
  exact λ_ _ _=>hq s.toks
 | bool c =>
  obtain rfl:=sq hb
  obtain rfl:v=.bool c:=h.plain (λ_=>nofun)
  exact wpAny_truthy_bool (hq s.toks)
 | dict0 =>
  obtain rfl:=sq hb
  obtain ⟨a,rfl,h1,ha,hi,hm⟩:=h.plain (λ_=>nofun)
  exact wpAny_truthy_dict (knd:=strKind zp zw) (kvs:=[]) (by rw [beq_eq_false_iff_ne];exact h1) (by rw [o.1];exact hm) (by decide) (hq _)
 | _=>exact ns hb
theorem truthy_at (o:Ok W s){v:Value}{b:Bool}{Q:Bool->Shared->Prop}(h:RepT W d v)(hb:truthD d=some b)(hq:∀ n,Q b { s with toks:=n }):wpAny Mo A (truthy v) Q E s:=by
 rcases ob_inv hb with ⟨x,-,h1⟩ | ⟨-,h1⟩
 ·obtain ⟨i,rfl⟩:=x
  obtain ⟨t,rfl⟩:=h.plain (λ_=>nofun)
  refine P.truthy_int ?_
  have:decide (i≠0)=(i != 0):=by rw [Bool.eq_iff_iff];simp
  rw [<-this,show decide (i≠0)=b from sq h1];exact hq s.toks
 clear hb
 rcases ob_inv h1 with ⟨x,-,h1⟩ | ⟨-,h1⟩
 ·obtain ⟨x,rfl⟩:=x
  obtain ⟨hz,t,rfl⟩:=h.plain (λ_=>nofun)
  have hz':=lim_fit hz
  refine P.truthy_str (by rw [S_len];exact Int.not_le.mpr hz') ?_
  have:(!x.isEmpty)=(((S x).length:Int) != 0):=by
   rw [S_len]
   cases x with
   | nil=>rfl
   | cons a r=>simp only [List.isEmpty_cons,Bool.not_false,List.length_cons];symm;rw [bne_iff_ne];exact Int.ne_of_gt (Int.natCast_pos.mpr (Nat.succ_pos _))
  rw [<-this,show (!x.isEmpty)=b from sq h1];exact hq _
 rcases ob_inv h1 with ⟨x,-,h1⟩ | ⟨-,h1⟩
 ·obtain ⟨xs,rfl⟩:=x
  refine xEEAAA (h.list) λa items ee2 hl hz hr=>?_
  subst ee2
  refine wpAny_truthy_list (by rw [o.1];exact hl) (lim_fit hz) ?_
  rw [<-empty_eq hr.length,show (!xs.isEmpty)=b from sq h1];exact hq _
 rcases ob_inv h1 with ⟨x,-,h1⟩ | ⟨-,h1⟩
 ·obtain ⟨xs,rfl⟩:=x
  obtain ⟨a,items,n,rfl,_,hl,hz,hr⟩:=h.plain (λ_=>nofun)
  refine ktl_truthy (by rw [o.1];exact hl) (by have:=lim_fit hz;exact Int.not_le.mpr this) ?_
  rw [<-empty_eq hr.length,show (!xs.isEmpty)=b from sq h1];exact hq _
 ·exact truth0_at o h h1 hq
theorem gv_Compare {l r:Expr}{op:CmpOp}{pos:Pos}{k:Nat}{x y:D}{b:Bool}(B:Bs)(hu:A.units+2 < cLine)(I:Inv W)(ha:GvTA A (eval l env) W x)(hb:GvA A (eval r env) W y)(hk:cmpOf op=some k)(hm:behindInMarks op r=false)(h:cmpD k x y=some b):Gv A (eval (.Compare l [op] [r] pos) env) W (.bool b):=by
 intro s Q E o p
 refine wpAny_Compare1 (ha W (Le.refl W) I s _ _ o λv W1 s1 L1 I1 o1 r1=>hb W1 L1 I1 s1 _ _ o1 λv' W2 s2 L2 I2 o2 r2=>?_) hm
 exact cmp_at B I2 o2 hu hk (r1.later I1 L2) r2 h (p _ W2 _ (L1.trans L2) I2 o2 rfl)
theorem tv_Compare {l r:Expr}{op:CmpOp}{pos:Pos}{k:Nat}{x y:D}{b:Bool}{whole:Sem Value}(B:Bs)(hu:A.units+2 < cLine)(I:Inv W)(ha:GvTA A (eval l env) W x)(hb:GvA A (eval r env) W y)(hk:cmpOf op=some k)(hm:behindInMarks op r=false)(h:cmpD k x y=some b):Tv A (isTrue (.Compare l [op] [r] pos) env whole) W b:=by
 intro s Q E o p
 refine wpAny_isTrue_Compare1 (ha W (Le.refl W) I s _ _ o λv W1 s1 L1 I1 o1 r1=>hb W1 L1 I1 s1 _ _ o1 λv' W2 s2 L2 I2 o2 r2=>?_) hm
 exact cmp_at B I2 o2 hu hk (r1.later I1 L2) r2 h (wpAny_truthy_bool (p W2 _ (L1.trans L2) I2 o2))
theorem tv_value {e:Expr}{whole:Sem Value}{x:D}{b:Bool}(I:Inv W)(ha:GvTA A whole W x)(hb:truthD x=some b)(he:isTrue e env whole=(do let v ← whole;standAt e.pos;holding [v] (truthy v))):Tv A (isTrue e env whole) W b:=by
 intro s Q E o p
 refine wpAny_isTrue_value (ha W (Le.refl W) I s _ _ o λv W1 s1 L1 I1 o1 r1=>?_) he
 exact truthy_at o1 r1 hb λn=>p W1 _ L1 I1 (o1.tok n)
theorem tv_Not {e:Expr}{pos:Pos}{whole:Sem Value}{b:Bool}(I:Inv W)(ha:TvA A (isTrue e env (eval e env)) W b):Tv A (isTrue (.UnaryOp .Not e pos) env whole) W (!b):=by
 intro s Q E o p
 exact wpAny_isTrue_Not (ha W (Le.refl W) I s _ _ o λW1 s1 L1 I1 o1=>p W1 s1 L1 I1 o1)
theorem gv_IfExp {t a b:Expr}{pos:Pos}{c:Bool}(I:Inv W)(hc:TvA A (isTrue t env (eval t env)) W c)(h:GvA A (if c then eval a env else eval b env) W d):Gv A (eval (.IfExp t a b pos) env) W d:=by
 intro s Q E o p
 refine wpAny_IfExp (hc W (Le.refl W) I s _ _ o λW1 s1 L1 I1 o1=>?_)
 have:=h W1 L1 I1 s1 Q E o1 (p.later L1)
 cases c<;>exact this
theorem noStar_cons {e:Expr}{r:List Expr}(hn:noStar (e::r)=true):noStar [e]=true/\noStar r=true:=by
 unfold noStar at hn ⊢
 rw [List.all_cons,Bool.and_eq_true] at hn
 exact ⟨by rw [List.all_cons,hn.1];rfl,hn.2⟩
theorem star1 {e:Expr}(hn:noStar [e]=true)(r:List Expr)(env:Env):starEach (e::r) env=(false,eval e env)::starEach r env:=by
 cases e<;>first | rfl | exact nf hn
theorem sub_op {i:Expr}(hs:∀ l u st p,i≠.Slice l u st p)(ov iv:Value):subscripted i false ov iv=operate [ov,iv] (getItem ov iv):=by
 cases i<;>first | rfl | exact absurd rfl (hs _ _ _ _)
theorem items_at {es:List Expr}{ds:List D}{pos:Pos}(I:Inv W)(hn:noStar es=true) :
  ∀ {Q:List Value->Shared->Prop},(∀ (k:Nat) (e:Expr) (d:D),es[k]? = some e->ds[k]? = some d->GvA A (eval e env) W d)->es.length=ds.length->Ok W s ->
   (∀ vs W' s',Le [] W W'->Inv W'->Ok W' s'->Reps W' ds vs->Q vs s')->wpAny Mo A (spliced (backTo pos (starEach es env))) Q E s:=by
 induction es generalizing ds W s with
 | nil =>
  intro Q _ hl o q
  cases ds with
  | nil=>exact wpAny_items_nil (q [] W s (Le.refl W) I o rfl)
  | cons _ _=>simp at hl
 | cons e r ih =>
  intro Q he hl o q
  cases ds with
  | nil=>simp at hl
  | cons d ds =>
   have hn':=(noStar_cons hn).2
   refine wpAny_items_cons (he 0 e d rfl rfl W (Le.refl W) I s _ _ o λv W1 s1 L1 I1 o1 r1=>?_) ?_
   ·refine ih I1 hn' (λk e' d' h1 h2=>(he (k+1) e' d' h1 h2).later L1) (by simpa using hl) o1 λvs W2 s2 L2 I2 o2 r2=>?_
    exact q _ W2 s2 (L1.trans L2) I2 o2 (by exact ⟨v,vs,rfl,r1.later I1 L2,r2⟩)
   ·exact star1 (noStar_cons hn).1 r env
theorem gv_List {es:List Expr}{ds:List D}{pos:Pos}(I:Inv W)(hn:noStar es=true)(he:∀ (k:Nat) (e:Expr) (d:D),es[k]? = some e->ds[k]? = some d->GvA A (eval e env) W d)(hl:es.length=ds.length)(hz:ds.length<=lim):Gv A (eval (.List es pos) env) W (.list ds):=by
 intro s Q E o p
 refine wpAny_List (items_at I hn he hl o λvs W1 s1 L1 I1 o1 r1=>?_)
 have hz':vs.length<=lim:=by rw [r1.length];exact hz
 exact ⟨lim_ok hz',(p.later L1).new I1 o1 _ s1.toks (rep_newList I1 r1 hz')⟩
theorem gv_Tuple {es:List Expr}{ds:List D}{k:Nat}{pos:Pos}(I:Inv W)(hn:noStar es=true)(he:∀ (k:Nat) (e:Expr) (d:D),es[k]? = some e->ds[k]? = some d->GvA A (eval e env) W d)(hl:es.length=ds.length)(hz:ds.length<=lim):Gv A (eval (.Tuple es k pos) env) W (.tup ds):=by
 intro s Q E o p
 refine wpAny_Tuple (items_at I hn he hl o λvs W1 s1 L1 I1 o1 r1=>?_)
 have hz':vs.length<=lim:=by rw [r1.length];exact hz
 exact ⟨lim_ok hz',(p.later L1).new I1 o1 _ s1.toks (rep_newTuple I1 r1 hz')⟩
theorem gv_USub {i:Int}{k:Nat}{p0 pos:Pos}(I:Inv W):Gv A (eval (.UnaryOp .USub (.Constant (.int i) k p0) pos) env) W (.int (-i)):=by
 intro s Q E o p
 exact wpAny_bind (wpAny_Constant_int (wpAny_bind (wpAny_standAt (wpAny_holding (P.neg_int (p.at I (o.tok _) ⟨_,rfl⟩))))))
theorem neg_fit {n m:Nat}(h:n < m):-(m:Int)<=Int.negSucc n:=by rw [Int.negSucc_eq];exact Int.neg_le_neg (Int.add_one_le_of_lt (Int.ofNat_lt.mpr h))
theorem neg_idx {n m:Nat}(h:n < m):(Int.negSucc n+(m:Int)).toNat=m - (n+1):=by omega
set_option tactic.hygienic true in
theorem getItem_at (I:Inv W)(o:Ok W s){x i:D}{v u:Value}(hx:RepT W x v)(hi:Rep W i u)(h:idxD x i=some d)(p:Post W d Q):wpAny Mo A (getItem v u) Q E s/\∃ T id,s.TypeIs v T/\typeLookup (.type T) "__getitem__" = pure (some (.builtin id)):=by
 obtain ⟨k,-,h0⟩:=bd_inv h
 clear h
 obtain ⟨k,rfl⟩:=k
 rcases ob_inv h0 with ⟨xs,-,h⟩ | ⟨-,h1⟩
 ·obtain ⟨xs,rfl⟩:=xs
  dsimp only at h
  obtain ⟨a,items,rfl,hl,hz,hr⟩:=hx.list
  obtain ⟨t,rfl⟩:=hi
  have hs:s.heap.IsList a items:=by rw [o.1];exact hl
  have hn:=hr.length
  rw [Array.length_toList] at hn
  have hz':=lim_fit hz
  refine ⟨?_,"list",_,hs.typeIs,slot_list_getitem.lookup⟩
  unfold atD at h
  split at h
  ·rename_i n
   obtain ⟨y,hy,ry⟩:=hr.get h
   rw [Array.getElem?_toList] at hy
   have hlt:n < items.size:=by
    rcases Nat.lt_or_ge n items.size with q | q
    ·exact q
    ·rw [Array.getElem?_eq_none q] at hy;exact ns hy
   exact wpAny_getItem_list hs (Int.natCast_nonneg n) (by show (n:Int) < 2 ^ 63;exact Int.lt_trans (Int.ofNat_lt.mpr hlt) hz') (by show items[n]? = some y;exact hy) (p.at I o ry)
  ·rename_i n
   obtain ⟨hlt,h⟩:=ite_val h
   have hlt':n < xs.length:=by simpa [Nat.blt_eq] using hlt
   obtain ⟨y,hy,ry⟩:=hr.get h
   rw [Array.getElem?_toList] at hy
   refine wpAny_getItem_list_neg hs (Int.negSucc_lt_zero n) (by rw [hn];exact neg_fit hlt') (Int.le_trans (Int.neg_le_neg (Int.le_of_lt hz')) (neg_fit (by rw [hn];exact hlt'))) ?_ (p.at I o ry)
   rw [hn,show (Int.negSucc n+(xs.length:Int)).toNat=xs.length - (n+1) by exact neg_idx hlt']
   exact hy
 ·refine xEA (bd_inv h1) λxs _ h=>?_
  obtain ⟨xs,rfl⟩:=xs
  dsimp only at h
  have hx:=hx.plain (λ_=>nofun)
  obtain ⟨a,items,n0,rfl,_,hl,hz,hr⟩:=hx
  obtain ⟨t,rfl⟩:=hi
  have hs:IsT s.heap a items n0:=by rw [o.1];exact hl
  have hn:=hr.length
  rw [Array.length_toList] at hn
  have hz':=lim_fit hz
  refine ⟨?_,"tuple",_,⟨_,hs,rfl⟩,PySem.F.slot_tuple_getitem.lookup⟩
  unfold atD at h
  split at h
  ·rename_i n
   refine xEA (hr.get h) λy hy ry=>?_
   rw [Array.getElem?_toList] at hy
   have hlt:n < items.size:=by
    rcases Nat.lt_or_ge n items.size with q | q
    ·exact q
    ·rw [Array.getElem?_eq_none q] at hy;exact ns hy
   refine P.getItem_tuple hs (by show -2 ^ 63<=(n:Int);exact Int.le_trans (by decide) (Int.natCast_nonneg n)) (by show (n:Int) < 2 ^ 63;exact Int.lt_trans (Int.ofNat_lt.mpr hlt) hz') (k:=n) ?_ hy (p.at I o ry)
   unfold seqIndex?
   rw [if_pos (by simp only [Bool.and_eq_true,decide_eq_true_eq];exact ⟨Int.natCast_nonneg n,Int.ofNat_lt.mpr hlt⟩)]
   rfl
  ·rename_i n
   obtain ⟨hlt,h⟩:=ite_val h
   have hlt':n < xs.length:=by simpa [Nat.blt_eq] using hlt
   refine xEA (hr.get h) λy hy ry=>?_
   rw [Array.getElem?_toList] at hy
   refine P.getItem_tuple hs (Int.le_trans (Int.neg_le_neg (Int.le_of_lt hz')) (neg_fit (by rw [hn];exact hlt'))) (Int.lt_trans (Int.negSucc_lt_zero n) (by decide)) (seqIndex_neg (Int.negSucc_lt_zero n) (by rw [hn];exact neg_fit hlt')) ?_ (p.at I o ry)
   rw [hn,show (Int.negSucc n+(xs.length:Int)).toNat=xs.length - (n+1) by exact neg_idx hlt']
   exact hy
theorem gv_Subscript {v i:Expr}{pos:Pos}{x y:D}(I:Inv W)(ha:GvTA A (eval v env) W x)(hb:GvA A (eval i env) W y)(hs:∀ l u st p,i≠.Slice l u st p)(h:idxD x y=some d):Gv A (eval (.Subscript v i pos) env) W d:=by
 intro s Q E o p
 refine wpAny_bind (ha W (Le.refl W) I s _ _ o λov W1 s1 L1 I1 o1 r1=>?_)
 refine wpAny_bind (wpAny_holding (hb W1 L1 I1 s1 _ _ o1 λiv W2 s2 L2 I2 o2 r2=>wpAny_bind (wpAny_standAt ?_)))
 have r1':=r1.later I1 L2
 obtain ⟨_,T,id,hT,hl⟩:=getItem_at (A:=A) (E:=E) I2 o2 r1' r2 h (Q:=λ_ _=>True) (λ_ _ _ _ _ _ _=>trivial)
 have g:=(getItem_at (A:=A) (E:=E) (Q:=λr s'=>wpAny Mo A (letTemporaryGo v ov r>>=λ_=>pure r) Q E s') I2 o2 r1' r2 h (λr W3 s3 L3 I3 o3 r3=>wpAny_bind (wpAny_letTemporaryGo (wpAny_pure (p r W3 s3 ((L1.trans L2).trans L3) I3 o3 r3))))).1
 have fin:wpAny Mo A (operate [ov,iv] (getItem ov iv)) (λr s₃=>wpAny Mo A (letTemporaryGo v ov r>>=λ_=>pure r) Q E s₃) E s2:=wpAny_operating g
 have hsub:=sub_op hs ov iv
 refine wpAny_bind ?_
 rw [getitemInPython_of_ne hT.not_modules]
 refine wpAny_bind (wpAny_specialOf hT hl ?_)
 refine wpAny_pure ?_
 rw [hsub]
 exact wpAny_bind fin
theorem bnd_eq (n:Nat)(i:Int):(max 0 (min (if i < 0 then i+(n:Int) else i) (n:Int)))=((bnd n i:Nat):Int):=by
 unfold bnd
 cases i with
 | ofNat k =>
  have h0:¬ (Int.ofNat k < 0):=Int.not_lt.mpr (Int.natCast_nonneg k)
  show max 0 (min (k:Int) (n:Int))=_
  by_cases h:k < n
  ·have:Nat.blt k n=true:=by simpa [Nat.blt_eq] using h
   simp only [this,if_true];rw [Int.min_eq_left (Int.le_of_lt (Int.ofNat_lt.mpr h)),Int.max_eq_right (Int.natCast_nonneg k)]
  ·have:Nat.blt k n=false:=by
    cases e:Nat.blt k n with
    | true=>exact absurd (by simpa [Nat.blt_eq] using e) h
    | false=>rfl
   simp only [this];simp;rw [Int.min_eq_right (Int.ofNat_le.mpr (Nat.le_of_not_lt h)),Int.max_eq_right (Int.natCast_nonneg n)]
 | negSucc k =>
  have h0:(Int.negSucc k) < 0:=Int.negSucc_lt_zero k
  simp only [h0,if_true]
  omega
theorem bnd_le (n:Nat)(i:Int):bnd n i<=n:=by
 have:=bnd_eq n i
 omega
noncomputable def lowB (n:Nat):Option Int->Nat
 | some i=>bnd n i
 | none=>0
noncomputable def highB (n:Nat):Option Int->Nat
 | some i=>bnd n i
 | none=>n
theorem cut_eq {α:Type}(xs:List α)(l u:Option Int):cut xs l u=(xs.drop (lowB xs.length l)).take (highB xs.length u - lowB xs.length l):=by
 rw [<-List.drop_take]
 cases l<;>cases u<;>rfl
theorem lowB_eq (n:Nat)(l:Option Int):(match l with | none=>(0:Int) | some i=>max 0 (min (if i < 0 then i+(n:Int) else i) (n:Int)))=((lowB n l:Nat):Int):=by
 cases l with
 | none=>rfl
 | some i=>exact bnd_eq n i
theorem highB_eq (n:Nat)(l:Option Int):(match l with | none=>(n:Int) | some i=>max 0 (min (if i < 0 then i+(n:Int) else i) (n:Int)))=((highB n l:Nat):Int):=by
 cases l with
 | none=>rfl
 | some i=>exact bnd_eq n i
theorem slicePick_cut (items:Array Value)(l u:Option Int):slicePick items l u none=(cut items.toList l u).toArray:=by
 have e:sliceBounds l u none items.size=(((lowB items.size l:Nat):Int),((highB items.size u:Nat):Int),1):=by
  rw [<-lowB_eq,← highB_eq]
  cases l<;>cases u<;>rfl
 unfold slicePick
 rw [e,sliceRange_one,pick_run,cut_eq,Array.length_toList]
theorem strIdx_cut (x:Tx)(l u:Option Int):(strSliceIndices l u 1 x.length).filterMap ((S x).cps[·]?)=cut x l u:=by
 have e:strSliceIndices l u 1 x.length=sliceRange ((lowB x.length l:Nat):Int) ((highB x.length u:Nat):Int) 1:=by
  rw [<-lowB_eq,← highB_eq]
  cases l<;>cases u<;>rfl
 rw [e,sliceRange_one,pick_run,cut_eq]
theorem strIdx_whole (x:Tx)(l u:Option Int)(h:(strSliceIndices l u 1 x.length).length=x.length):cut x l u=x:=by
 have e:strSliceIndices l u 1 x.length=sliceRange ((lowB x.length l:Nat):Int) ((highB x.length u:Nat):Int) 1:=by
  rw [<-lowB_eq,← highB_eq]
  cases l<;>cases u<;>rfl
 rw [e,sliceRange_one,List.length_map,List.length_range] at h
 rw [cut_eq,h]
 have h2:highB x.length u<=x.length:=by cases u with | none=>exact Nat.le_refl _ | some i=>exact bnd_le _ i
 rcases Nat.eq_zero_or_pos x.length with z | z
 ·have:x=[]:=List.length_eq_zero_iff.mp z
  subst this;simp
 ·have:lowB x.length l=0:=by omega
  rw [this];simp
theorem cut_len {α:Type}(xs:List α)(l u:Option Int):(cut xs l u).length<=xs.length:=by
 unfold cut
 rw [List.length_drop,List.length_take];exact Nat.le_trans (Nat.sub_le _ _) (Nat.min_le_right _ _)
theorem Reps.cut {ds:List D}{vs:List Value}(l u:Option Int)(h:Reps W ds vs):Reps W (cut ds l u) (cut vs l u):=by
 rw [cut_eq,cut_eq,h.length]
 exact (h.drop _).take _
theorem part_at {e:Option Expr}{od:Option D}{i:Option Int}(I:Inv W)(he:∀ x d,e=some x->od=some d->GvA A (eval x env) W d)(hs:e.isSome=od.isSome)(h:optI od=some i){Q:Value->Shared->Prop}(o:Ok W s)
  (q:∀ p W' s',Le [] W W'->Inv W'->Ok W' s'->i=p.map (·.1)->Q (partValue p) s'):wpAny Mo A (evalPart e env) Q E s:=by
 clear part_at
 cases e with
 | none =>
  cases od with
  | none=>cases h;exact wpAny_pure (q none W s (Le.refl W) I o rfl)
  | some d=>exact nf hs
 | some x =>
  cases od with
  | none=>cases hs
  | some d =>
   refine he x d rfl rfl W (Le.refl W) I s _ _ o λv W1 s1 L1 I1 o1 r1=>?_
   clear o s I he hs E env A
   rcases ob_inv (show ob (intC d) (λx=>if small x.i then some (some x.i) else none) (if isNone d then some none else none)=some i from h) with ⟨k,-,h1⟩ | ⟨-,h1⟩
   ·clear h x
    obtain ⟨_,h2⟩:=ite_val h1
    obtain rfl:=sq h2
    obtain ⟨t,rfl⟩:=(show Rep W1 (.int k.i) v from k.e▸r1)
    exact q (some (k.i,t)) W1 s1 L1 I1 o1 rfl
   ·clear h x
    obtain ⟨h3,h2⟩:=ite_val h1
    clear h1
    obtain rfl:=sq h2
    obtain rfl:=rep_none r1 h3
    exact q none W1 s1 L1 I1 o1 rfl
theorem part_is (p:Option (Int×Tok)):IsPart (partValue p) (p.map (·.1)):=by
 cases p with
 | none=>exact .none
 | some q=>exact .int _ _
theorem sub_slice {v:Expr}{l u:Option Expr}{p0 pos:Pos}{T id:String}(hl:typeLookup (.type T) "__getitem__" = pure (some (.builtin id)))
  (h:wpAny Mo A (eval v env) (λo s₁=>wpAny Mo A (eval (.Slice l u none p0) env) (λi s₂=>s₂.TypeIs o T/\wpAny Mo A (getItem o i) Q E s₂) E s₁) E s) :
  wpAny Mo A (eval (.Subscript v (.Slice l u none p0) pos) env) Q E s:=by
 refine wpAny_bind (wpAny_mono h (λo s₁ h₁=>wpAny_bind (wpAny_holding (wpAny_mono h₁ (λi s₂ h₂=>wpAny_bind (wpAny_standAt ?_)) λ_ _ x=>x))) λ_ _ x=>x)
 have fin:wpAny Mo A (operate [i,o] (getItem o i)) (λr s₃=>wpAny Mo A (letTemporaryGo v o r>>=λ_=>pure r) Q E s₃) E s₂ :=
  wpAny_operating (wpAny_mono h₂.2 (λr s₃ h₃=>wpAny_bind (wpAny_letTemporaryGo (wpAny_pure h₃))) λ_ _ x=>x)
 refine wpAny_bind ?_
 rw [getitemInPython_of_ne h₂.1.not_modules]
 exact wpAny_bind (wpAny_specialOf h₂.1 hl (wpAny_pure (wpAny_bind fin)))
theorem gv_Slice {v:Expr}{l u:Option Expr}{p0 pos:Pos}{x:D}{dl du:Option D}{i j:Option Int}(I:Inv W)(ha:GvA A (eval v env) W x)
  (hl:∀ x d,l=some x->dl=some d->GvA A (eval x env) W d) (hls:l.isSome=dl.isSome) (hi:optI dl=some i)
  (hu:∀ x d,u=some x->du=some d->GvA A (eval x env) W d) (hus:u.isSome=du.isSome) (hj:optI du=some j) (h:sliD x i j=some d):Gv A (eval (.Subscript v (.Slice l u none p0) pos) env) W d:=by
 intro s Q E o p
 rcases ob_inv h with ⟨xs,-,h1⟩ | ⟨-,h1⟩
 ·obtain ⟨xs,rfl⟩:=xs
  obtain rfl:=sq h1
  clear h
  refine sub_slice (T := "list") list_getitem_lookup (ha W (Le.refl W) I s _ _ o λov W1 s1 L1 I1 o1 r1=>wpAny_Slice ?_)
  refine part_at I1 (λx d e1 e2=>(hl x d e1 e2).later L1) hls hi o1 λpl W2 s2 L2 I2 o2 e2=>?_
  refine part_at I2 (λx d e1 e2=>(hu x d e1 e2).later (L1.trans L2)) hus hj o2 λpu W3 s3 L3 I3 o3 e3=>?_
  have r3:=r1.later I1 (L2.trans L3)
  obtain ⟨a,items,rfl,hap,hla,hz,hr⟩:=r3
  have hla':s3.heap.IsList a items:=by rw [o3.1];exact hla
  refine wpAny_pure ⟨(hla'.push _).typeIs,wpAny_getItem_list_slice (hla'.push _) (Heap.IsSliceOf.new _ _ _ _) (part_is pl) (part_is pu) .none (by simp) ?_ (lim_ok hz)⟩
  rw [<-e2,← e3,slicePick_cut]
  have hc:=hr.cut i j
  have hz2:(cut items.toList i j).length<=lim:=Nat.le_trans (cut_len _ _ _) (by exact hz)
  have o4:=push_ok o3 { cls:=.type "slice",data:=.fields #[partValue pl,partValue pu,.none] } s3.toks
  have I4:=push_inv I3 { cls:=.type "slice",data:=.fields #[partValue pl,partValue pu,.none] }
  have L4:=push_le (P:=[]) (W:=W3) { cls:=.type "slice",data:=.fields #[partValue pl,partValue pu,.none] }
  exact (p.later (((L1.trans L2).trans L3).trans L4)).new I4 o4 _ s3.toks (rep_newList I4 (hc.later I3 L4) hz2)
 ·refine xEA (bd_inv h1) λx _ h2=>?_
  obtain ⟨x,rfl⟩:=x
  obtain rfl:=sq h2
  clear h h1 h2
  refine sub_slice (T := "str") PySem.F.slot_str_getitem.lookup (ha W (Le.refl W) I s _ _ o λov W1 s1 L1 I1 o1 r1=>wpAny_Slice ?_)
  refine part_at I1 (λx d e1 e2=>(hl x d e1 e2).later L1) hls hi o1 λpl W2 s2 L2 I2 o2 e2=>?_
  refine part_at I2 (λx d e1 e2=>(hu x d e1 e2).later (L1.trans L2)) hus hj o2 λpu W3 s3 L3 I3 o3 e3=>?_
  obtain ⟨hz,t,rfl⟩:=r1
  refine wpAny_pure ⟨typeIs_str _ _ t,wpAny_getItem_str_slice (l:=pl) (u:=pu) (st:=none) ⟨_,Heap.get?_push_size _ rfl,rfl,rfl⟩ rfl ?_⟩
  have o4:=push_ok o3 { cls:=.type "slice",data:=.fields #[partValue pl,partValue pu,.none] }
  have I4:=push_inv I3 { cls:=.type "slice",data:=.fields #[partValue pl,partValue pu,.none] }
  have L4:=push_le (P:=[]) (W:=W3) { cls:=.type "slice",data:=.fields #[partValue pl,partValue pu,.none] }
  have hz2:(cut x i j).length<=lim:=Nat.le_trans (cut_len _ _ _) hz
  unfold sliceMade slicePicked
  rw [<-e2,← e3,S_len]
  simp only [Option.map_none,Option.getD_none]
  by_cases hw:(strSliceIndices i j 1 x.length).length=x.length
  ·rw [if_pos (by simp [hw])]
   have:=strIdx_whole x i j hw
   rw [this] at p
   exact p _ _ _ (((L1.trans L2).trans L3).trans L4) I4 (o4 s3.toks) ⟨hz,t,rfl⟩
  ·rw [if_neg (by simp [hw]),strIdx_cut]
   exact ⟨by show (S (cut x i j)).length<=_;exact lim_ok hz2,p _ _ _ (((L1.trans L2).trans L3).trans L4) I4 (o4 (s3.toks+1)) ⟨hz2,_,rfl⟩⟩
end
end
section
open PySem.Builtin PySem.Builtin.Str
section
variable {A:Around}{W W':Wd}{P B:List Addr}{d:D}{s:Shared}{Q:Value->Shared->Prop}{E:Value->Shared->Prop}{env:Env}
theorem pushP_ok (o:Ok W s)(ob:Obj)(n:Nat):Ok (W.pushP ob) { s with heap:=s.heap.push ob,toks:=n }:=⟨by show s.heap.push ob=W.h.push ob;rw [o.1],o.2.1,o.2.2⟩
theorem itrD_list (J l:Addr)(hne:l≠J)(items:Array Value):ItrD J [J,l] items.size (λi v=>items[i]? = some v) (λi h=>h.IsListIter J l i/\h.IsList l items) :=
 ⟨λ_ hh=>Walks.list hh J l hne items,λ_ _ h=>let ⟨o,ho,_,hd⟩:=h.1;⟨o,_,ho,hd⟩⟩
theorem itrD_tuple (J l:Addr)(hne:l≠J)(items:Array Value):ItrD J [J,l] items.size (λi v=>items[i]? = some v) (λi h=>h.IsTupleIter J l i/\h.IsTuple l items) :=
 ⟨λ_ hh=>Walks.tuple hh J l hne items,λ_ _ h=>let ⟨o,ho,_,hd⟩:=h.1;⟨o,_,ho,hd⟩⟩
theorem itrD_range (J:Addr)(a:Int)(n:Nat):ItrD J [J] n (λi v=>∃ t,v=.int (a+i * 1) t) (λi h=>IsRangeIter h J (a+(i:Nat) * 1) ((n:Int) - (i:Nat)) 1) :=
 ⟨λ_ hh=>Walks.range hh J a 1 n,λ_ _ h=>⟨_,_,h,rfl⟩⟩
theorem reps_items {xs:List D}{items:Array Value}(hr:Reps W xs items.toList):∀ j v d,xs[j]? = some d->items[0+j]? = some v->Rep W d v:=λj v d e1 e2=>by
 refine xEA (hr.get e1) λu h1 h2=>?_
 rw [Nat.zero_add] at e2
 rw [Array.getElem?_toList,e2] at h1
 obtain rfl:=sq h1
 exact h2
theorem iter_at (I:Inv W)(o:Ok W s){xs:List D}{v:Value}(h:itemsD d=some xs)(r:Rep W d v)
  (q:∀ J W' s',Le [] W W'->Inv W'->Ok W' s'->J∈W'.pv->W.h.get? J=none->Itr W' J xs->Q (.ref J) s'):wpAny Mo A (pyIter v) Q E s:=by
 have key:∀ (ob:Obj) (hf:ob.isFreed=false),Itr (W.pushP ob) W.h.objs.size xs->Q (.ref s.heap.objs.size) { s with heap:=s.heap.push ob }:=λob hf hi=>by
  have:=q W.h.objs.size (W.pushP ob) { s with heap:=s.heap.push ob } (pushP_le ob) (pushP_inv I ob hf) (pushP_ok o ob s.toks) (.head _) (fresh_none _) hi
  rw [o.1] at this ⊢;exact this
 have ne:∀ {a:Addr} {ob:Obj},W.h.get? a=some ob->a≠W.h.objs.size:=λe z=>by rw [z,fresh_none] at e;exact ns e
 rcases ob_inv h with ⟨x,-,h1⟩ | ⟨-,h1⟩
 ·obtain ⟨xs',rfl⟩:=x
  obtain rfl:=sq h1
  clear h
  obtain ⟨a,items,rfl,ha,hl,hz,hr⟩:=r
  obtain ⟨ol,hol,hcl,nl,hdl⟩:=id hl
  refine wpAny_pyIter_list (by rw [o.1];exact hl) (key _ rfl ?_)
  have L:=pushP_le (P:=[]) (W:=W) { cls:=.type "list_iterator",data:=.fields #[.ref a,.int 0 0] }
  refine ⟨_,_,_,_,0,itrD_list _ a (ne hol) items,λb hb=>?_,⟨⟨_,Heap.get?_push_size _ rfl,rfl,rfl⟩,hl.push _⟩,?_,reps_items (hr.later I L)⟩
  ·simp only [List.mem_cons,List.not_mem_nil,or_false] at hb
   rcases hb with rfl | rfl
   ·exact .inl rfl
   ·exact .inr ⟨L.toLe0.notPv (λ_ h=>nomatch h) hol ha,ol,Heap.get?_push_of_some _ hol,by rw [hcl];nofun,by rw [hcl];decide⟩
  ·rw [Nat.zero_add,← hr.length,Array.length_toList]
 rcases ob_inv h1 with ⟨x,-,h2⟩ | ⟨-,h2⟩
 ·obtain ⟨xs',rfl⟩:=x
  obtain rfl:=sq h2
  clear h h1
  obtain ⟨a,items,n,rfl,ha,hl,hz,hr⟩:=r
  have hl':W.h.IsTuple a items:=⟨_,hl,rfl,n,rfl⟩
  refine wpAny_pyIter_tuple (by rw [o.1];exact hl') (key _ rfl ?_)
  have L:=pushP_le (P:=[]) (W:=W) { cls:=.type "tuple_iterator",data:=.fields #[.ref a,.int 0 0] }
  refine ⟨_,_,_,_,0,itrD_tuple _ a (ne hl) items,λb hb=>?_,⟨⟨_,Heap.get?_push_size _ rfl,rfl,rfl⟩,hl'.push _⟩,?_,reps_items (hr.later I L)⟩
  ·simp only [List.mem_cons,List.not_mem_nil,or_false] at hb
   rcases hb with rfl | rfl
   ·exact .inl rfl
   ·exact .inr ⟨L.toLe0.notPv (λ_ h=>nomatch h) hl ha,_,Heap.get?_push_of_some _ hl,nofun,by show Value.type "tuple" ≠ Value.type "dict";decide⟩
  ·rw [Nat.zero_add,← hr.length,Array.length_toList]
 ·refine xEA (bd_inv h2) λx _ h3=>?_
  clear h h1 h2
  obtain ⟨a,b,rfl⟩:=x
  obtain ⟨hs,h⟩:=ite_val h3
  dsimp only at hs h
  obtain rfl:=sq h
  clear h3 h
  simp only [Bool.and_eq_true,decide_eq_true_eq] at hs
  obtain ⟨⟨h1,h2⟩,h3⟩:=hs
  have h1:=small_iff h1
  have h2:=small_iff h2
  obtain ⟨r,t,u,z,rfl,ha,hr⟩:=r
  have hlen:(List.map (λ(k:Nat)=>D.int (a+(k:Int))) (List.range (b - a).toNat)).length=(b - a).toNat:=by rw [List.length_map,List.length_range]
  have hsz:Builtin.Range.rangeSize a b 1=(((b - a).toNat:Nat):Int):=by
   rw [rangeSize_one];split<;>omega
  refine wpAny_pyIter_range (by rw [o.1];exact hr) (small_one (Int.le_of_lt (Int.lt_of_le_of_lt (by decide) h1.1)) (Int.lt_trans h1.2 (by decide)) (Int.le_of_lt (Int.lt_of_le_of_lt (by decide) h2.1)) (Int.lt_trans h2.2 (by decide))) (key _ rfl ?_)
  refine ⟨_,_,_,_,0,itrD_range _ a (b - a).toNat,λb hb=>?_,?_,by rw [hlen,Nat.zero_add],λj v d e1 e2=>?_⟩
  ·simp only [List.mem_cons,List.not_mem_nil,or_false] at hb
   exact .inl hb
  ·rw [hsz]
   show (W.h.push _).get? _=_
   rw [Heap.get?_push_size _ rfl]
   simp
  ·rw [List.getElem?_map] at e1
   by_cases hj:j < (b - a).toNat
   ·rw [List.getElem?_range hj] at e1
    obtain rfl:=sq e1
    obtain ⟨t,rfl⟩:=e2
    refine ⟨t,?_⟩
    rw [Nat.zero_add,Int.mul_one]
   ·rw [List.getElem?_eq_none (by rw [List.length_range];omega)] at e1
    exact ns e1
theorem Itr.next (hh:A.handled=none)(I:Inv W)(o:Ok W s){J:Addr}{xs:List D}(hJ:J∈W.pv)(x:Itr W J (d::xs)){Q:Option Value->Shared->Prop}
  (q:∀ v W' s',Le [J] W W'->Inv W'->Ok W' s'->W'.pv=W.pv->Rep W' d v->Itr W' J xs->Q (some v) s'):wpAny Mo A (pyNext (.ref J)) Q E s:=by
 obtain ⟨fp,n,Pd,St,k,dd,hf,hs,e,hr⟩:=x
 refine (dd.wk A hh).item k s _ _ (by rw [e,List.length_cons];exact Nat.lt_add_of_pos_right (Nat.succ_pos _)) (by rw [o.1];exact hs) λv h' tk hv hst hk=>?_
 rw [o.1] at hk
 have hx:Heap.ExtBut J W.h h':=λa ob hne ho=>hk a ob (λh=>hne (List.mem_singleton.mp h)) ho
 have al:∃ o',h'.get? J=some o':=let ⟨o',_,e,_⟩:=dd.fld _ _ hst;⟨o',e⟩
 have L:=turn_le I hJ hx
 have I':=turn_inv I hJ hx al
 have hP:∀ a∈[J],a∈W.pv:=mem1 hJ
 refine q v _ _ L I' ⟨rfl,o.2.1,o.2.2⟩ rfl ((hr 0 v d rfl hv).mono I L.toLe0 hP) ⟨fp,n,Pd,St,k+1,dd,λb hb=>?_,hst,by rw [e,List.length_cons];rw [Nat.add_assoc,Nat.add_comm 1],λj v d e1 e2=>(hr (j+1) v d e1 (by rw [show k+(j+1)=k+1+j by rw [Nat.add_assoc,Nat.add_comm 1]];exact e2)).mono I L.toLe0 hP⟩
 rcases hf b hb with z | ⟨h1,ob,h2,h3,h4⟩
 ·exact .inl z
 ·exact .inr ⟨h1,ob,hx b ob (λz=>h1 (z▸hJ)) h2,h3,h4⟩
theorem Itr.stop (hh:A.handled=none)(I:Inv W)(o:Ok W s){J:Addr}(hJ:J∈W.pv)(x:Itr W J []){Q:Option Value->Shared->Prop}
  (q:∀ W' s',Le [J] W W'->Inv W'->Ok W' s'->Q none s'):wpAny Mo A (pyNext (.ref J)) Q E s:=by
 obtain ⟨fp,n,Pd,St,k,dd,hf,hs,e,hr⟩:=x
 have e':k=n:=by rw [e];rfl
 clear e hr hf
 subst e'
 refine (dd.wk A hh).done s _ _ (by rw [o.1];exact hs) λh' tk hk=>?_
 rw [o.1] at hk
 have hx:Heap.ExtBut J W.h h':=λa ob hne ho=>hk a ob (λh=>hne (List.mem_singleton.mp h)) ho
 exact q _ _ (end_le I hJ hx) (end_inv I hJ hx) ⟨rfl,o.2.1,o.2.2⟩
theorem Fm.turn {nm:List (Str×NameKind)}{ρ:Rho}{J:Addr}(I:Inv W)(F:Fm B nm env W ρ)(L:Le [J] W W')(hJ:J∈W.pv)(hR:RowF W.h J)
  (h3:∀ x ev v,getR ρ x=some ev->(∀ d,ev≠.d d)->EVR B W ev v->v≠.ref J):Fm B nm env W' ρ:=by
 have hP:∀ a∈[J],a∈W.pv:=mem1 hJ
 have mono:∀ {x ev v},getR ρ x=some ev->EVR B W ev v->EVR B W' ev v:=λe r=>r.mono I L hP λhn q hq z=>by
  rw [List.mem_singleton] at hq
  clear hP hJ
  subst hq
  exact h3 _ _ _ e hn r z
 have nj:∀ {a},a≠J->a∉[J]:=λh z=>h (List.mem_singleton.mp z)
 have h1:env.locals≠J:=let ⟨_,hn,_⟩:=F.ns;hR.notNs hn
 exact { F with
  lp:=L.pvK _ F.lp (nj h1)
  ns:=by
   obtain ⟨m,⟨o,es,ep,ho,r⟩,h2⟩:=F.ns
   exact ⟨m,⟨o,es,ep,L.toLe0.priv I F.lp (nj h1) ho,r⟩,λx ev k e=>let ⟨v,e1,e2⟩:=h2 x ev k e;⟨v,e1,mono e e2⟩⟩
  ce:=λx k=>by
   obtain ⟨c,v0,g1,g2,g3,h4⟩:=F.ce x k
   have hc:=hR.notCell g3
   obtain ⟨o,ho,hd⟩:=g3
   exact ⟨c,v0,g1,L.pvK _ g2 (nj hc),⟨o,L.toLe0.priv I g2 (nj hc) ho,hd⟩,λev e=>let ⟨v,e1,e2⟩:=h4 ev e;⟨v,e1,mono e e2⟩⟩ }
end
end
section
open PySem.Builtin PySem.Builtin.Str
theorem eqT_symm (a b:Tx):eqT a b=eqT b a:=by
 rw [Bool.eq_iff_iff,eqT_iff,eqT_iff];exact eq_comm
theorem eqT_refl (a:Tx):eqT a a=true:=eqT_iff.mpr rfl
theorem S_beq' (x:Tx)(y:Str):(S x == y)=eqT (tx y) x:=by rw [tx_beq,tx_S,eqT_symm]
theorem lkp_lookup:∀ (names:List (Str×NameKind)) (x:Tx),lkp names x=names.lookup (S x)
 | [],_=>rfl
 | (y,k)::r,x=>by
  unfold lkp
  rw [List.lookup_cons,S_beq']
  cases eqT (tx y) x with
  | true=>rfl
  | false=>exact lkp_lookup r x
theorem noneDup_lookup:∀ {names:List (Str×NameKind)},noneDup (names.map λx=>tx x.1)=true->∀ {n:Str} {k:NameKind},(n,k)∈names->names.lookup n=some k
 | (y,j)::r,h,n,k,hm=>by
  rw [List.map_cons] at h
  unfold noneDup at h
  rw [Bool.and_eq_true,Bool.not_eq_true'] at h
  rw [List.lookup_cons]
  rcases List.mem_cons.mp hm with e | hm'
  ·cases e
   rw [beq_self_eq_true]
  ·have:(n == y)=false:=by
    cases e:n == y with
    | false=>rfl
    | true =>
     rw [beq_iff_eq] at e
     subst e
     have:(r.map λx=>tx x.1).any (eqT (tx n))=true:=List.any_eq_true.mpr ⟨tx n,List.mem_map.mpr ⟨(n,k),hm',rfl⟩,eqT_refl _⟩
     rw [this] at h
     cases h.1
   rw [this]
   exact noneDup_lookup h.2 hm'
theorem lookup_append {α:Type}:∀ (l r:List (Str×α)) (n:Str),(l++r).lookup n=(l.lookup n).or (r.lookup n)
 | [],_,_=>rfl
 | (y,a)::l,r,n=>by
  rw [List.cons_append,List.lookup_cons,List.lookup_cons]
  cases n == y with
  | true=>rfl
  | false=>exact lookup_append l r n
theorem lookup_of_mem {α:Type}:∀ {l:List (Str×α)} {n:Str} {c:α},(n,c)∈l->∃ c',l.lookup n=some c'
 | (y,a)::l,n,c,h=>by
  rw [List.lookup_cons]
  cases e:n == y with
  | true=>exact ⟨a,rfl⟩
  | false =>
   rcases List.mem_cons.mp h with q | q
   ·cases q;rw [beq_self_eq_true] at e;cases e
   ·exact lookup_of_mem q
theorem relabel_lookup {env:Env}:∀ {names:List (Str×NameKind)} {x:Str} {k:NameKind},names.lookup x=some k ->
  (names.map λ(n,k)=>if (k == NameKind.free&&env.scope.kind == .function&&env.kindOf n == some .cell) then (n,NameKind.cell) else (n,k)).lookup x=some k\/(k=.free /\
  (names.map λ(n,k)=>if (k == NameKind.free&&env.scope.kind == .function&&env.kindOf n == some .cell) then (n,NameKind.cell) else (n,k)).lookup x=some .cell)
 | [],_,_,h=>by simp at h
 | (n,j)::r,x,k,h=>by
  have ih:=@relabel_lookup env r x k
  show List.lookup x ((if (j == NameKind.free&&env.scope.kind == .function&&env.kindOf n == some .cell)=true then (n,NameKind.cell) else (n,j))::_)=_\/_/\List.lookup x ((if (j == NameKind.free&&env.scope.kind == .function&&env.kindOf n == some .cell)=true then (n,NameKind.cell) else (n,j))::_)=_
  cases hx:x == n with
  | true =>
   simp only [List.lookup_cons,hx] at h
   obtain rfl:=sq h
   by_cases hc:(j == NameKind.free&&env.scope.kind == .function&&env.kindOf n == some .cell)=true
   ·rw [if_pos hc]
    simp only [List.lookup_cons,hx]
    rw [Bool.and_eq_true,Bool.and_eq_true] at hc
    exact .inr ⟨by simpa using hc.1.1,trivial⟩
   ·rw [if_neg hc]
    simp only [List.lookup_cons,hx]
    exact .inl trivial
  | false =>
   simp only [List.lookup_cons,hx] at h
   by_cases hc:(j == NameKind.free&&env.scope.kind == .function&&env.kindOf n == some .cell)=true
   ·rw [if_pos hc];simp only [List.lookup_cons,hx];exact ih h
   ·rw [if_neg hc];simp only [List.lookup_cons,hx];exact ih h
theorem closure_go {env:Env}(f:Str×NameKind->List (Str×Addr)->Sem (ForInStep (List (Str×Addr))))
  (hf:∀ n k cs,f (n,k) cs=if k == .free then (do let a ← cellOf env n;pure (.yield ((n,a)::cs))) else pure (.yield cs)) :
  ∀ (names:List (Str×NameKind)) (acc:List (Str×Addr)),(∀ n,(n,NameKind.free)∈names->∃ c,env.cells.lookup n=some c) ->
   ∃ own:List (Str×Addr),forIn names acc f=pure (own++acc)/\(∀ n c,(n,c)∈own->(n,NameKind.free)∈names/\env.cells.lookup n=some c)/\∀ n,(n,NameKind.free)∈names->∃ c,(n,c)∈own
 | [],acc,_=>⟨[],by rfl,λ_ _ h=>(nomatch h),λ_ h=>(nomatch h)⟩
 | (n,k)::r,acc,h=>by
  rw [List.forIn_cons,hf]
  by_cases hk:k=.free
  ·subst hk
   obtain ⟨c,hc⟩:=h n (.head _)
   refine xEAA (closure_go f hf r ((n,c)::acc) λn hn=>h n (.tail _ hn)) λown e h1 h2=>?_
   refine ⟨own++[(n,c)],?_,λm d hm=>?_,λm hm=>?_⟩
   ·have:(cellOf env n)=pure c:=by unfold cellOf;rw [hc]
    rw [this]
    show forIn r ((n,c)::acc) f=_
    rw [e,List.append_assoc];rfl
   ·rcases List.mem_append.mp hm with q | q
    ·exact ⟨.tail _ (h1 m d q).1,(h1 m d q).2⟩
    ·rw [List.mem_singleton] at q
     cases q
     exact ⟨.head _,hc⟩
   ·rcases List.mem_cons.mp hm with q | q
    ·cases q;exact ⟨c,List.mem_append.mpr (.inr (.head _))⟩
    ·obtain ⟨d,hd⟩:=h2 m q
     exact ⟨d,List.mem_append.mpr (.inl hd)⟩
  ·refine xEAA (closure_go f hf r acc λn hn=>h n (.tail _ hn)) λown e h1 h2=>?_
   have hb:(k == NameKind.free)=false:=by simpa using hk
   refine ⟨own,?_,λm d hm=>⟨.tail _ (h1 m d hm).1,(h1 m d hm).2⟩,λm hm=>?_⟩
   ·rw [hb]
    exact e
   ·rcases List.mem_cons.mp hm with q | q
    ·cases q;exact absurd rfl hk
    ·exact h2 m q
theorem closure_at {env:Env}{scope:Scope}(h:∀ n,(n,NameKind.free)∈scope.names->∃ c,env.cells.lookup n=some c) :
  ∃ cl:List (Str×Addr),closureFor scope env=pure cl/\(∀ n c,(n,c)∈cl->(n,NameKind.free)∈scope.names/\env.cells.lookup n=some c)/\∀ n,(n,NameKind.free)∈scope.names->∃ c,(n,c)∈cl:=by
 obtain ⟨own,e,h1,h2⟩:=closure_go (env:=env) (λx cs=>match x with | (name,kind)=>if kind == .free then (do let a ← cellOf env name;pure (.yield ((name,a)::cs))) else pure (.yield cs)) (λ_ _ _=>rfl) scope.names [] h
 refine ⟨own,?_,h1,h2⟩
 rw [List.append_nil] at e
 show (forIn scope.names [] _>>=λcs=>pure cs)=_
 have:∀ (f g:Str×NameKind->List (Str×Addr)->Sem (ForInStep (List (Str×Addr)))),f=g->forIn scope.names [] g=(pure own:Sem _)->(forIn scope.names [] f>>=λcs=>pure cs)=(pure own:Sem (List (Str×Addr))):=by
  intro f g h1 h2
  rw [h1,h2];rfl
 refine this _ _ ?_ e
 funext x cs
 obtain ⟨n,k⟩:=x
 rfl
section
variable {A:Around}{W W':Wd}{P B:List Addr}{d:D}{s:Shared}{E:Value->Shared->Prop}{env:Env}
theorem lay_at (f:Str×NameKind->List (Str×Addr)->Sem (ForInStep (List (Str×Addr))))
  (hf:∀ name kind cells,f (name,kind) cells=if kind == .cell then (do let a ← alloc { cls:=.type "cell",data:=.cell none };pure (.yield ((name,a)::cells))) else pure (.yield cells)) :
  ∀ (names:List (Str×NameKind)) (acc:List (Str×Addr)) (W:Wd) (s:Shared) (Q:List (Str×Addr)->Shared->Prop),Inv W->Ok W s ->
   (∀ own W' s',Le [] W W'->Inv W'->Ok W' s'->(∀ n c,(n,c)∈own->(n,NameKind.cell)∈names/\c∈W'.pv/\W.h.get? c=none/\W'.h.IsCell c none)->(∀ n,(n,NameKind.cell)∈names->∃ c,(n,c)∈own) ->
    own.Pairwise (λx y=>x.2≠y.2)->(∀ a∈W.pv,a∈W'.pv)->Q (own++acc) s')->wpAny Mo A (forIn names acc f) Q E s
 | [],acc,W,s,Q,I,o,h=>by
  exact wpAny_pure (h [] W s (Le.refl W) I o (λ_ _ h=>nomatch h) (λ_ h=>nomatch h) .nil λ_ h=>h)
 | (n,k)::r,acc,W,s,Q,I,o,h=>by
  rw [List.forIn_cons,hf]
  by_cases hk:k=.cell
  ·subst hk
   refine wpAny_bind (wpAny_bind (wpAny_alloc (wpAny_pure ?_)))
   have ob:Obj:={ cls:=.type "cell",data:=.cell none }
   have I1:=pushP_inv I { cls:=.type "cell",data:=.cell none } rfl
   have L1:=pushP_le (P:=[]) (W:=W) { cls:=.type "cell",data:=.cell none }
   have o1:=pushP_ok o { cls:=.type "cell",data:=.cell none } s.toks
   refine lay_at f hf r _ _ _ Q I1 o1 λown W' s' L I' o' h1 h2 h3 h4=>?_
   have hne:∀ m c,(m,c)∈own->c≠s.heap.objs.size:=λm c hm q=>by
    have:=(h1 m c hm).2.2.1
    rw [q,o.1] at this
    have e:(W.pushP { cls:=.type "cell",data:=.cell none }).h.get? W.h.objs.size=some { cls:=.type "cell",data:=.cell none }:=Heap.get?_push_size _ rfl
    rw [e] at this;cases this
   have:=h (own++[(n,s.heap.objs.size)]) W' s' (L1.trans L) I' o' (λm c hm=>?_) (λm hm=>?_) ?_ (λa ha=>h4 a (.tail _ ha))
   ·rw [List.append_assoc] at this;exact this
   ·rcases List.mem_append.mp hm with q | q
    ·refine xAAA (h1 m c q) λg1 g2 g3 g4=>?_
     refine ⟨.tail _ g1,g2,?_,g4⟩
     cases e:W.h.get? c with
     | none=>rfl
     | some ob =>
      have e':(W.pushP { cls:=.type "cell",data:=.cell none }).h.get? c=some ob:=Heap.get?_push_of_some _ e
      rw [e'] at g3;cases g3
    ·rw [List.mem_singleton] at q
     cases q
     refine ⟨.head _,h4 _ (by rw [o.1];exact .head _),by rw [o.1];exact fresh_none _,?_⟩
     refine ⟨_,L.toLe0.priv I1 (a:=s.heap.objs.size) (by rw [o.1];exact .head _) (λz=>nomatch z) (by rw [o.1];exact Heap.get?_push_size _ rfl),rfl⟩
   ·rcases List.mem_cons.mp hm with q | q
    ·cases q;exact ⟨_,List.mem_append.mpr (.inr (.head _))⟩
    ·obtain ⟨c,hc⟩:=h2 m q
     exact ⟨c,List.mem_append.mpr (.inl hc)⟩
   ·rw [List.pairwise_append]
    refine ⟨h3,List.pairwise_singleton _ _,λx hx y hy=>?_⟩
    rw [List.mem_singleton] at hy
    subst hy
    exact hne x.1 x.2 hx
  ·have hb:(k == NameKind.cell)=false:=by simpa using hk
   rw [hb]
   refine wpAny_bind (wpAny_pure (lay_at f hf r acc W s Q I o λown W' s' L I' o' h1 h2 h3 h4=>h own W' s' L I' o' (λm c hm=>⟨.tail _ (h1 m c hm).1,(h1 m c hm).2⟩) (λm hm=>?_) h3 h4))
   rcases List.mem_cons.mp hm with q | q
   ·cases q;exact absurd rfl hk
   ·exact h2 m q
structure EnvOk (W W':Wd)(names:List (Str×NameKind))(cl:List (Str×Addr))(L:Addr)(cs:List (Str×Addr)):Prop where
 lp:L∈W'.pv
 ln:W.h.get? L=none
 ns:W'.h.Ns L (λ_=>none)
 cell:∀ x,names.lookup x=some .cell->∃ c,cs.lookup x=some c/\c∈W'.pv/\W.h.get? c=none/\W'.h.IsCell c none
 rest:∀ x,names.lookup x≠some .cell->cs.lookup x=cl.lookup x
 apart:∀ x y c,names.lookup x=some .cell->names.lookup y=some .cell->cs.lookup x=some c->cs.lookup y=some c->x=y
theorem newEnv_at {scope:Scope}{globals:Addr}{cl:List (Str×Addr)}{qual:Str}{func:Option Addr}{code:Value}{around:Option Env}{builtins:Addr}{binds:List (Str×Value)}{Q:Env->Shared->Prop}(I:Inv W)(o:Ok W s)
  (hnd:noneDup (scope.names.map λx=>tx x.1)=true)
  (h:∀ L cs W' s',Le [] W W'->Inv W'->Ok W' s'->EnvOk W W' scope.names cl L cs ->
   wpAny Mo A (do
    let env:Env:=match around with
     | some outer=>{ scope,locals:=L,globals,cells:=cs,qual,func,code:=outer.code,frame:=outer.frame,builtins:=outer.builtins }
     | none=>{ scope,locals:=L,globals,cells:=cs,qual,func,code,frame:=some L,builtins }
    for (name,v) in binds do storeName env name v
    return env) Q E s'):wpAny Mo A (newFunctionEnv scope globals cl binds qual func code around builtins) Q E s:=by
 refine wpAny_bind (wpAny_alloc ?_)
 have hf:({ cls:=.type (if around.isSome=true then "dict" else "frame"),data:=.dict #[] }:Obj).isFreed=false:=by cases around<;>rfl
 have I1:=pushP_inv I { cls:=.type (if around.isSome=true then "dict" else "frame"),data:=.dict #[] } hf
 have L1:=pushP_le (P:=[]) (W:=W) { cls:=.type (if around.isSome=true then "dict" else "frame"),data:=.dict #[] }
 have o1:=pushP_ok o { cls:=.type (if around.isSome=true then "dict" else "frame"),data:=.dict #[] } s.toks
 refine wpAny_bind (lay_at _ (λname kind cells=>?_) _ _ _ _ _ I1 o1 λown W' s' L I' o' h1 h2 h3 h4=>?_)
 ·by_cases hk:(kind == NameKind.cell)=true
  ·simp only [hk,if_true]
  ·simp only [hk]
 ·rw [o.1]
  have mem:∀ x,scope.names.lookup x=some .cell->∃ c,own.lookup x=some c/\(x,c)∈own:=λx hx=>by
   obtain ⟨c,hc⟩:=h2 x (mem_of_lookup hx)
   obtain ⟨c',hc'⟩:=lookup_of_mem hc
   exact ⟨c',hc',mem_of_lookup hc'⟩
  refine h W.h.objs.size (own++cl) W' s' (L1.trans L) I' o' ⟨h4 _ (.head _),fresh_none _,?_,λx hx=>?_,λx hx=>?_,λx y c hx hy e1 e2=>?_⟩
  ·refine (Heap.Ns.new W.h (.type (if around.isSome=true then "dict" else "frame"))).at' λob e=>L.toLe0.priv I1 (.head _) (λz=>nomatch z) e
  ·refine xEA (mem x hx) λc e hm=>?_
   refine xAAA (h1 x c hm) λ_ g2 g3 g4=>?_
   refine ⟨c,by rw [lookup_append,e];rfl,g2,?_,g4⟩
   cases e:W.h.get? c with
   | none=>rfl
   | some ob =>
    have e':=Heap.get?_push_of_some { cls:=.type (if around.isSome=true then "dict" else "frame"),data:=.dict #[] } e
    have g3':(W.h.push { cls:=.type (if around.isSome=true then "dict" else "frame"),data:=.dict #[] }).get? c=none:=g3
    rw [e'] at g3';cases g3'
  ·have:own.lookup x=none:=by
    cases e:own.lookup x with
    | none=>rfl
    | some c =>
     obtain ⟨g1,_⟩:=h1 x c (mem_of_lookup e)
     exact absurd (noneDup_lookup hnd g1) hx
   rw [lookup_append,this];rfl
  ·refine xEA (mem x hx) λc1 e3 m1=>?_
   refine xEA (mem y hy) λc2 e4 m2=>?_
   rw [lookup_append,e3] at e1
   rw [lookup_append,e4] at e2
   cases e1;obtain rfl:=sq e2
   exact name_of_addr h3 m1 m2
end
end
section
open PySem.Builtin PySem.Builtin.Str
section
variable {A:Around}{W W' W0 W1 W2:Wd}{P B:List Addr}{d:D}{s:Shared}{E:Value->Shared->Prop}{env:Env}{R:Result->Shared->Prop}
theorem okScope_parts {sc:Scope}(h:okScope sc=true):sc.kind=.function/\noneDup (sc.names.map λx=>tx x.1)=true/\(∀ c,codeOf sc.names≠some c)/\∀ n k,(n,k)∈sc.names->k=.local\/k=.cell\/k=.free\/k=.globalImplicit:=by
 unfold okScope at h
 rw [Bool.and_eq_true,Bool.and_eq_true,Bool.and_eq_true] at h
 obtain ⟨⟨⟨h1,h2⟩,h3⟩,h4⟩:=h
 have h5:∀ c,codeOf sc.names≠some c:=λc e=>by rw [e] at h4;exact nf h4
 refine ⟨?_,h2,h5,λn k hm=>?_⟩
 ·split at h1
  ·rename_i e;exact e
  ·exact nf h1
 ·have:=List.all_eq_true.mp h3 (n,k) hm
  dsimp only at this
  split at this
  ·exact .inl rfl
  ·exact .inr (.inl rfl)
  ·exact .inr (.inr (.inl rfl))
  ·exact .inr (.inr (.inr rfl))
  ·exact nf this
set_option tactic.hygienic true in
theorem getR_frees {fr:List Tx}{ρ:Rho}{x:Tx}{ev:EV}(h:getR (frees fr ρ) x=some ev):x∈fr/\getR ρ x=some ev/\∃ v,ev=.d v:=by
 induction fr with
 | nil=>exact ns h
 | cons y r ih =>
  unfold frees at h
  rw [List.filterMap_cons] at h
  split at h
  ·obtain ⟨h1,h2⟩:=ih h
   exact ⟨.tail _ h1,h2⟩
  ·rename_i z e
   split at e
   ·rename_i v e'
    obtain rfl:=sq e
    rw [getR_cons] at h
    split at h
    ·rename_i q
     obtain rfl:=sq h
     have q':=eqT_iff.mp q
     subst q'
     exact ⟨.head _,e',v,rfl⟩
    ·obtain ⟨h1,h2⟩:=ih h
     exact ⟨.tail _ h1,h2⟩
   ·exact ns e
theorem free_outer {nm:List (Str×NameKind)}{sc:Scope}(h:freeOk nm sc=true){n:Str}(hm:(n,NameKind.free)∈sc.names):lkp nm (tx n)=some .cell\/lkp nm (tx n)=some .free:=by
 have:=List.all_eq_true.mp h (n,.free) hm
 dsimp only at this
 rw [Bool.and_eq_true,Bool.not_eq_true'] at this
 rcases isLoc_iff this.1 with e | e
 ·rw [e] at this;cases this.2
 ·exact e
theorem comp_fm {nm:List (Str×NameKind)}{ρ:Rho}{sc:Scope}{cl cs:List (Str×Addr)}{L:Addr}(I:Inv W)(F:Fm B nm env W ρ)(hs:okScope sc=true)(hf:freeOk nm sc=true)
  (hc:∀ n c,(n,c)∈cl->(n,NameKind.free)∈sc.names/\env.cells.lookup n=some c) (hc':∀ n,(n,NameKind.free)∈sc.names->∃ c,(n,c)∈cl) (L1:Le [] W W') (I1:Inv W') (e:EnvOk W W' sc.names cl L cs) :
  Fm W.pv sc.names (compEnvC sc cs L env) W' (frees (freesOf sc) ρ):=by
 refine xAAA (okScope_parts hs) λk1 k2 k4 k3=>?_
 have fresh:∀ a,W.h.get? a=none->a∉W.pv:=λa e h=>by obtain ⟨o,e'⟩:=I.pvAl a h;rw [e] at e';exact ns e'
 have kd:∀ x k,lkp sc.names x=some k->(compEnvC sc cs L env).kindOf (S x)=some k\/(k=.free/\(compEnvC sc cs L env).kindOf (S x)=some .cell):=λx k h=>by
  rw [lkp_lookup] at h
  exact relabel_lookup h
 have frl:∀ x ev,getR (frees (freesOf sc) ρ) x=some ev->lkp sc.names x=some .free/\getR ρ x=some ev:=λx ev h=>by
  refine xAA (getR_frees h) λh1 h2 _=>?_
  refine ⟨?_,h2⟩
  unfold freesOf at h1
  rw [List.mem_map] at h1
  refine xEA h1 λhh0 hm ee2=>?_
  try clear h1
  obtain ⟨n,k⟩:=hh0
  subst ee2
  rw [List.mem_filter] at hm
  have hk:k=.free:=by
   have:=hm.2
   dsimp only at this
   split at this
   ·rfl
   ·cases this
  subst hk
  rw [lkp_lookup,S_tx]
  exact noneDup_lookup k2 hm.1
 have freeCell:∀ x,lkp sc.names x=some .free->∃ c v0,cs.lookup (S x)=some c/\c∈W.pv/\W.h.IsCell c v0/\∀ ev,getR ρ x=some ev->ValR B W ev v0:=λx hx=>by
  rw [lkp_lookup] at hx
  have hm:=mem_of_lookup hx
  have ho:=free_outer hf hm
  obtain ⟨c,v0,h1,h2,h3,h4⟩:=F.ce x ho
  obtain ⟨c',hc''⟩:=hc' _ hm
  obtain ⟨c2,e2⟩:=lookup_of_mem hc''
  have e3:=(hc _ _ (mem_of_lookup e2)).2
  rw [h1] at e3
  obtain rfl:=sq e3
  refine ⟨c,v0,?_,h2,h3,h4⟩
  rw [e.rest _ (by rw [hx];nofun),e2]
 refine ⟨k1,F.gl,F.bi,λx h=>?_,λx h=>?_,λx h=>?_,λx h=>?_,e.lp,fresh _ e.ln,λx c h1 h2=>?_,⟨_,e.ns,λx ev h1 h2=>?_⟩,λx h=>?_,λc h=>absurd h (k4 c),λx y c h1 h2 h3 h4=>?_⟩
 ·rcases kd x _ h with q | ⟨q,_⟩
  ·exact q
  ·cases q
 ·rcases kd x _ h with q | ⟨q,_⟩
  ·exact q
  ·cases q
 ·rcases kd x _ h with q | ⟨_,q⟩
  ·exact .inl q
  ·exact .inr q
 ·rcases kd x _ h with q | ⟨q,_⟩
  ·exact q
  ·cases q
 ·rw [lkp_lookup] at h1
  refine xEAAA (e.cell _ h1) λc' g1 _ g3 _=>?_
  have h2':cs.lookup (S x)=some c:=h2
  rw [g1] at h2';obtain rfl:=sq h2'
  exact fresh _ g3
 ·have:=(frl x ev h2).1
  rw [h1] at this;cases this
 ·rcases h with h | h
  ·rw [lkp_lookup] at h
   refine xEAAA (e.cell _ h) λc' g1 g2 g3 g4=>?_
   refine ⟨c',_,g1,g2,g4,λev hev=>?_⟩
   have:=(frl x ev hev).1
   rw [lkp_lookup,h] at this;cases this
  ·refine xEEAAA (freeCell x h) λc v0 g1 g2 hh4 g4=>?_
   obtain ⟨o,ho,hd⟩:=hh4
   refine ⟨c,v0,g1,L1.pvK c g2 (λz=>nomatch z),⟨o,L1.toLe0.priv I g2 (λz=>nomatch z) ho,hd⟩,λev hev=>?_⟩
   obtain ⟨_,h2,vd,rfl⟩:=getR_frees hev
   obtain ⟨v,e1,e2⟩:=g4 _ h2
   exact ⟨v,e1,Rep.later I L1 e2⟩
 ·rw [lkp_lookup] at h1
  have h3':cs.lookup (S x)=some c:=h3
  have h4':cs.lookup (S y)=some c:=h4
  rcases h2 with h2 | h2
  ·rw [lkp_lookup] at h2
   exact S_inj (e.apart _ _ _ h1 h2 h3' h4')
  ·refine xEEAAA (freeCell y h2) λc2 v0 g1 g2 hh4 _=>?_
   obtain ⟨o,ho,_⟩:=hh4
   rw [h4'] at g1;obtain rfl:=sq g1
   refine xEAAA (e.cell _ h1) λc1 f1 _ f3 _=>?_
   rw [h3'] at f1;obtain rfl:=sq f1
   rw [f3] at ho;exact ns ho
noncomputable def Kp (J:Addr)(W W':Wd):Prop:=(∀ a∈W.pv,a≠J->a∈W'.pv)/\∃ X,Le X W W'/\∀ a∈X,a∈W.pv/\(a=J\/¬ IsF W.h a)
theorem Kp.le {J:Addr}(L:Le [] W W'):Kp J W W':=⟨λa h _=>L.pvK a h (λz=>nomatch z),[],L,λ_ h=>nomatch h⟩
theorem Kp.one {J q:Addr}(L:Le [q] W W')(hq:q∈W.pv)(h:q=J\/(¬ IsF W.h q/\W'.pv=W.pv)):Kp J W W' :=
 ⟨λa ha hn=>by
  rcases h with h | h
  ·exact L.pvK a ha λz=>hn ((List.mem_singleton.mp z).trans h)
  ·rw [h.2];exact ha,
  [q],L,mem1 ⟨hq,h.imp id And.left⟩⟩
theorem Kp.trans {J J2:Addr}(I:Inv W)(a:Kp J W W1)(b:Kp J2 W1 W2)(hJ:J2=J\/J2∉W.pv):Kp J W W2:=by
 obtain ⟨d1,X1,L1,h1⟩:=a
 obtain ⟨d2,X2,L2,h2⟩:=b
 have L:Le (X1++X2) W W2:=(L1.wide λx h=>List.mem_append.mpr (.inl h)).trans (L2.wide λx h=>List.mem_append.mpr (.inr h))
 refine ⟨λa ha hn=>d2 a (d1 a ha hn) λz=>?_,X1++X2.filter λa=>(W.h.get? a).isSome,L.fresh I λx hx=>?_,λx hx=>?_⟩
 ·rcases hJ with q | q
  ·exact hn (z.trans q)
  ·exact q (z▸ha)
 ·cases e:W.h.get? x with
  | none=>exact .inr rfl
  | some o =>
   refine .inl (List.mem_append.mpr ?_)
   rcases List.mem_append.mp hx with q | q
   ·exact .inl q
   ·exact .inr (List.mem_filter.mpr ⟨q,by rw [e];rfl⟩)
 ·by_cases hx1:x∈X1
  ·exact h1 x hx1
  ·rcases List.mem_append.mp hx with q | q
   ·exact absurd q hx1
   ·rw [List.mem_filter] at q
    obtain ⟨q,al⟩:=q
    obtain ⟨o,e⟩:=Option.isSome_iff_exists.mp al
    obtain ⟨g1,g2⟩:=h2 x q
    have hp:=L1.pv x o e hx1 g1
    refine ⟨hp,?_⟩
    rcases g2 with g2 | g2
    ·rcases hJ with hJ | hJ
     ·exact .inl (g2.trans hJ)
     ·exact absurd (g2▸hp) hJ
    ·refine .inr λz=>g2 ?_
     obtain ⟨o',vs,e',hd⟩:=z
     exact ⟨o',vs,L1.toLe0.priv I hp hx1 e',hd⟩
theorem Kp.itr {J J':Addr}{xs:List D}(I:Inv W)(a:Kp J W W1)(hJ:J'∈W.pv)(hne:J'≠J)(x:Itr W J' xs):Itr W1 J' xs/\J'∈W1.pv:=by
 obtain ⟨_,X,L,h⟩:=a
 have hn:J'∉X:=λz=>by
  rcases (h J' z).2 with q | q
  ·exact hne q
  ·exact q x.isF
 exact ⟨x.mono I L.toLe0 (λa ha=>(h a ha).1) hJ hn,L.pvK J' hJ hn⟩
theorem notF_list {h:Heap}{a:Addr}{is}(x:h.PlainList a is):¬ IsF h a:=λ⟨o,vs,e,hd⟩=>by
 obtain ⟨n,e'⟩:=x
 rw [e] at e';obtain rfl:=sq e'
 cases hd
theorem rowF_list {h:Heap}{a:Addr}{is}(x:h.PlainList a is):RowF h a:=let ⟨n,e⟩:=x;⟨_,e,.inl ⟨_,_,rfl⟩⟩
theorem append_at (I:Inv W)(o:Ok W s){p:Addr}{items:Array Value}{v:Value}(hp:p∈W.pv)(hl:W.h.PlainList p items)(hz:items.size<=lim){Q:Value->Shared->Prop}
  (q:∀ W' s',Le [p] W W'->Inv W'->Ok W' s'->W'.pv=W.pv->W'.h.PlainList p (items.push v)->Q .none s'):wpAny Mo A (call (.builtin "list.append") [.ref p,v]) Q E s:=by
 refine wpAny_list_append_plain (by rw [o.1];exact hl) (λh' hl' hs'=>?_) (lim_ok hz)
 rw [o.1] at hs'
 have al:∃ o',h'.get? p=some o':=let ⟨n,e⟩:=hl';⟨_,e⟩
 exact q { W with h:=h' } _ (turn_le I hp hs'.extBut) (turn_inv I hp hs'.extBut al) ⟨rfl,o.2.1,o.2.2⟩ rfl hl'
theorem assign_at {nm:List (Str×NameKind)}{ρ:Rho}{id:Str}{px:Pos}{x:Tx}{ev:EV}{v:Value}(I:Inv W)(F:Fm B nm env W ρ)(o:Ok W s)(ht:tgt nm (.Name id px)=some x)(hv:EVR B W ev v){Q:Unit->Shared->Prop}
  (h:∀ q W' s',q∈W.pv->q∉B->¬ RowF W.h q->Le [q] W W'->Inv W'->Ok W' s'->W'.pv=W.pv->Fm B nm env W' (setR ρ x ev)->Q () s'):wpAny Mo A (assign (.Name id px) env v) Q E s:=by
 have ht':(if isOwn (lkp nm (tx id))=true then some (tx id) else none)=some x:=ht
 by_cases hl:isOwn (lkp nm (tx id))=true
 ·rw [if_pos hl] at ht'
  obtain rfl:=sq ht'
  refine wpAny_assign_Name ?_
  have key:=F.put' (A:=A) (E:=E) I o hl hv λq W' s' h1 h2 h3 h4 h5 h6 h7 h8=>h q W' s' h1 h2 h3 h4 h5 h6 h7 h8
  exact key
 ·rw [if_neg hl] at ht'
  exact ns ht'
end
end
section
open PySem.Builtin PySem.Builtin.Str
theorem turn_last {elt t iter:Expr}{ifs:List Expr}{gens:List Comprehension}{scope:Scope}{pos:Pos}{depth:Nat}(hg:gens[depth]? = some ⟨t,iter,ifs,0⟩)(hn:gens[depth+1]? = none)(it acc:Value)(env:Env) :
  compTurn (.ListComp elt gens scope pos) depth it acc env=(standAt iter.pos>>=λ_=>pyNext it>>=λr=>match r with
   | none=>pure (.done .next)
   | some v=>letOwnedTupleGo t it v>>=λ_=>assign t env v>>=λ_ =>
    (forIn ifs true λc r=>if r=true then do let ok ← isTrue c env (eval c env);pure (ForInStep.yield ok) else pure (ForInStep.yield r))>>=λok =>
    if ok=true then (eval elt env>>=λx=>call (.builtin "list.append") [acc,x]>>=λ_=>pure ())>>=λ_=>again (.compLoop (.ListComp elt gens scope pos) depth it acc env)
    else again (.compLoop (.ListComp elt gens scope pos) depth it acc env)):=by
 unfold compTurn
 simp only [hg,hn]
 rfl
theorem turn_inner {elt t iter t' iter':Expr}{ifs ifs':List Expr}{gens:List Comprehension}{scope:Scope}{pos:Pos}{depth:Nat}(hg:gens[depth]? = some ⟨t,iter,ifs,0⟩)(hn:gens[depth+1]? = some ⟨t',iter',ifs',0⟩)(it acc:Value)(env:Env) :
  compTurn (.ListComp elt gens scope pos) depth it acc env=(standAt iter.pos>>=λ_=>pyNext it>>=λr=>match r with
   | none=>pure (.done .next)
   | some v=>letOwnedTupleGo t it v>>=λ_=>assign t env v>>=λ_ =>
    (forIn ifs true λc r=>if r=true then do let ok ← isTrue c env (eval c env);pure (ForInStep.yield ok) else pure (ForInStep.yield r))>>=λok =>
    if ok=true then (do
     let x ← eval iter' env
     standAt iter'.pos
     let x ← foldedSetIterable iter' env x
     let j ← holding [x] (pyIter x)
     let _ ← runOwn (.compStart (.ListComp elt gens scope pos) (depth+1) j acc env) env
     again (.compLoop (.ListComp elt gens scope pos) depth it acc env))
    else again (.compLoop (.ListComp elt gens scope pos) depth it acc env)):=by
 unfold compTurn
 simp only [hg,hn]
 rfl
theorem folded_pure {e:Expr}{env:Env}(h:∀ a b c,e≠.Set a b c)(x:Value):foldedSetIterable e env x=pure x:=by
 cases e<;>first | rfl | exact absurd rfl (h _ _ _)
section
variable {A:Around}{W W' W0 W1 W2:Wd}{P B:List Addr}{d:D}{s:Shared}{E:Value->Shared->Prop}{env:Env}{R:Result->Shared->Prop}
theorem mark_none (A:Around):A.mark none=A:=by cases A;rfl
theorem start_at {elt t iter:Expr}{ifs:List Expr}{gens:List Comprehension}{scope:Scope}{pos:Pos}{depth:Nat}{J:Addr}{acc:Value}{xs:List D}(hh:A.handled=none)(hg:gens[depth]? = some ⟨t,iter,ifs,0⟩)(o:Ok W s)(x:Itr W J xs)
  (h:codeAny Mo A (.compLoop (.ListComp elt gens scope pos) depth (.ref J) acc env) R s):codeAny Mo A (.compStart (.ListComp elt gens scope pos) depth (.ref J) acc env) R s:=by
 refine codeAny_of_tree ?_
 show wpAny _ A ((compStart (.ListComp elt gens scope pos) depth (.ref J) acc env).onRaise (λx=>do noteFrame x env;standAt theWindowsPlace)) _ _ s
 refine wpAny_notedAt ?_
 show wpAny _ _ (if (gens[depth]?.elim false λx=>x.is_async != 0)=true then _ else _) _ _ _
 rw [if_neg (by rw [hg];exact Bool.false_ne_true)]
 refine wpAny_bind (wpAny_askSetting (wpAny_ite ?_))
 split
 ·exact wpAny_pure ⟨rfl,h⟩
 ·refine wpAny_bind (wpAny_rule ?_)
  have e:(clausesOf (.ListComp elt gens scope pos))[depth]? = some ⟨t,iter,ifs,0⟩:=hg
  rw [e]
  refine wpAny_bind (wpAny_standAt (wpAny_bind ?_))
  obtain ⟨fp,n,Pd,St,k,dd,hf,hs,_⟩:=x
  exact (dd.wk A hh).self k s _ _ (by rw [o.1];exact hs) (wpAny_pure ⟨rfl,h⟩)
theorem tests_false {f:Expr->Bool->Sem (ForInStep Bool)}(hf:∀ c,f c false=pure (ForInStep.yield false)):∀ (l:List Expr),(forIn l false f:Sem Bool)=pure false
 | []=>rfl
 | c::r=>by
  rw [List.forIn_cons,hf]
  exact tests_false hf r
theorem tests_at {g:ME->Option Bool}{cvf:Expr->ME}:∀ {ifs:List Expr} {W:Wd} {s:Shared} {b:Bool} {Q:Bool->Shared->Prop},Inv W->Ok W s ->
  (∀ e,∀ b,g (cvf e)=some b->TvA A (isTrue e env (eval e env)) W b)->tvl g (ifs.map cvf)=some b ->
  (∀ W' s',Le [] W W'->Inv W'->Ok W' s'->Q b s') ->
  wpAny Mo A (forIn ifs true λc r=>if r=true then do let ok ← isTrue c env (eval c env);pure (ForInStep.yield ok) else pure (ForInStep.yield r)) Q E s:=by
 intro qq
 induction qq with
 | nil =>
  intro W s b Q I o h e q
  obtain rfl:=sq e
  exact wpAny_pure (q W s (Le.refl W) I o)
 | cons c r ih =>
  intro W s b Q I o h e q
  rw [List.map_cons] at e
  unfold tvl at e
  rw [List.forIn_cons]
  refine wpAny_bind ?_
  split at e
  ·rename_i hg
   refine wpAny_bind (h c _ hg W (Le.refl W) I s _ _ o λW1 s1 L1 I1 o1=>wpAny_pure ?_)
   exact ih I1 o1 (λe b hb=>(h e b hb).later L1) e λW2 s2 L2=>q W2 s2 (L1.trans L2)
  ·rename_i hg
   obtain rfl:=sq e
   refine wpAny_bind (h c _ hg W (Le.refl W) I s _ _ o λW1 s1 L1 I1 o1=>wpAny_pure ?_)
   show wpAny _ _ (forIn r false _) _ _ _
   rw [tests_false (λc=>by rw [if_neg Bool.false_ne_true])]
   exact wpAny_pure (q W1 s1 L1 I1 o1)
  ·exact ns e
end
end
section
open PySem.Builtin PySem.Builtin.Str
section
variable {A:Around}{W W' W0 W1 W2:Wd}{P B:List Addr}{d:D}{s:Shared}{E:Value->Shared->Prop}{env:Env}{R:Result->Shared->Prop}
variable (A)(cal:D->List D->Option D)(G:Tx->Option D)
noncomputable def EvOk (n:Nat):Prop:=∀ k nm env B W ρ e d,ev cal G n ρ (cv k nm e)=some d->Fm B nm env W ρ->Inv W->Gv A (eval e env) W d
noncomputable def TvOk (n:Nat):Prop:=∀ k nm env B W ρ e b,tv cal G n ρ (cv k nm e)=some b->Fm B nm env W ρ->Inv W->Tv A (PySem.isTrue e env (eval e env)) W b
variable {A cal G}
theorem EvOk.go {n k nm B ρ}{e:Expr}(h:EvOk A cal G n)(hd:ev cal G n ρ (cv k nm e)=some d)(F:Fm B nm env W ρ)(I:Inv W):GvA A (eval e env) W d :=
 λ_ L I'=>h k nm env B _ ρ e d hd (F.later I L) I'
theorem TvOk.go {n k nm B ρ}{e:Expr}{b:Bool}(h:TvOk A cal G n)(hd:tv cal G n ρ (cv k nm e)=some b)(F:Fm B nm env W ρ)(I:Inv W):TvA A (PySem.isTrue e env (eval e env)) W b :=
 λ_ L I'=>h k nm env B _ ρ e b hd (F.later I L) I'
structure CSt (W0:Wd)(nm:List (Str×NameKind))(env:Env)(p:Addr)(W:Wd)(ρ:Rho)(J:Addr)(xs:List D)(items:Array Value)(acc:List D):Prop where
 I:Inv W
 L:Le [] W0 W
 F:Fm W0.pv nm env W ρ
 hJ:J∈W.pv
 hJ0:J∉W0.pv
 it:Itr W J xs
 hp:p∈W.pv
 hp0:p∉W0.pv
 pl:W.h.PlainList p items
 ac:Reps W acc items.toList
variable {nm:List (Str×NameKind)}{p J:Addr}{ρ ρ':Rho}{xs acc:List D}{items:Array Value}
theorem PlainList.priv (I:Inv W)(L:Le0 P W W')(hp:p∈W.pv)(hn:p∉P)(x:W.h.PlainList p items):W'.h.PlainList p items:=let ⟨n,e⟩:=x;⟨n,L.priv I hp hn e⟩
theorem CSt.le (x:CSt W0 nm env p W ρ J xs items acc)(L:Le [] W W')(I':Inv W'):CSt W0 nm env p W' ρ J xs items acc :=
 ⟨I',x.L.trans L,x.F.later x.I L,L.pvK _ x.hJ (λz=>nomatch z),x.hJ0,x.it.mono x.I L.toLe0 (λ_ z=>nomatch z) x.hJ (λz=>nomatch z),L.pvK _ x.hp (λz=>nomatch z),x.hp0,PlainList.priv x.I L.toLe0 x.hp (λz=>nomatch z) x.pl,x.ac.later x.I L⟩
theorem CSt.put (x:CSt W0 nm env p W ρ J xs items acc)(I0:Inv W0){q:Addr}(hq:q∈W.pv)(hq0:q∉W0.pv)(hr:¬ RowF W.h q)(L:Le [q] W W')(I':Inv W')(F':Fm W0.pv nm env W' ρ'):CSt W0 nm env p W' ρ' J xs items acc:=by
 have hP:∀ a∈[q],a∈W.pv:=mem1 hq
 have nJ:J∉[q]:=λh=>by rw [List.mem_singleton] at h;subst h;exact hr x.it.isF.rowF
 have np:p∉[q]:=λh=>by rw [List.mem_singleton] at h;subst h;exact hr (rowF_list x.pl)
 exact ⟨I',Le.own I0 x.L L (mem1 ⟨hq,hq0⟩),F',L.pvK _ x.hJ nJ,x.hJ0,x.it.mono x.I L.toLe0 hP x.hJ nJ,L.pvK _ x.hp np,x.hp0,PlainList.priv x.I L.toLe0 x.hp np x.pl,x.ac.mono x.I L.toLe0 hP⟩
theorem CSt.sub (x:CSt W0 nm env p W ρ J xs items acc)(h:∀ y ev,getR ρ' y=some ev->getR ρ y=some ev):CSt W0 nm env p W ρ' J xs items acc :=
 { x with F:=x.F.sub h }
theorem isN_iff {α:Type}{o:Option α}(h:isN o=true):o=none:=by
 cases o with
 | none=>rfl
 | some _=>exact nf h
theorem sub_set {x:Tx}{ev:EV}(h:isN (getR ρ x)=true):∀ y ev',getR ρ y=some ev'->getR (setR ρ x ev) y=some ev':=λy ev' e=>by
 rw [getR_setR]
 split
 ·rename_i q
  rw [<-eqT_iff.mp q,isN_iff h] at e;exact ns e
 ·exact e
noncomputable def AllD (ρ:Rho):Prop:=∀ y ev,getR ρ y=some ev->∃ v,ev=.d v
theorem AllD.set (h:AllD ρ){x:Tx}:AllD (setR ρ x (.d d)):=λy ev e=>by
 rw [getR_setR] at e
 split at e
 ·exact ⟨d,(sq e).symm⟩
 ·exact h y ev e
noncomputable def CEnd (W0:Wd)(nm:List (Str×NameKind))(env:Env)(p J:Addr)(W:Wd)(ρ:Rho)(as:List D)(F:Shared->Prop):Prop :=
 ∀ W' s' items',Inv W'->Le [] W0 W'->Ok W' s'->Fm W0.pv nm env W' ρ->p∈W'.pv->W'.h.PlainList p items'->Reps W' as items'.toList->Kp J W W'->F s'
noncomputable def LoopOk (A:Around)(cal:D->List D->Option D)(G:Tx->Option D)(n:Nat):Prop :=
 ∀ (k:Nat) (nm:List (Str×NameKind)) (env:Env) (W0:Wd) (p:Addr) (elt:Expr) (gens:List Comprehension) (scope:Scope) (pos:Pos),Inv W0 ->
  ∀ (rest:List Comprehension) (depth:Nat) (id:Str) (px:Pos) (iter:Expr) (ifs:List Expr) (x:Tx) (l:List (Tx×ME×List ME)),gens.drop depth=⟨.Name id px,iter,ifs,0⟩::rest->tgt nm (.Name id px)=some x->cvG (cv k) nm nm rest=some l ->
  ∀ (xs:List D) (ρ:Rho) (r:List D),flat (λi=>eg cal G n (setR ρ x (.d i)) (cv k nm elt) (ifs.map (cv k nm)) l) xs=some r->isN (getR ρ x)=true->AllD ρ ->
  ∀ (W:Wd) (s:Shared) (J:Addr) (items:Array Value) (acc:List D) (R:Result->Shared->Prop),CSt W0 nm env p W ρ J xs items acc->Ok W s->items.size+r.length<=lim ->
   CEnd W0 nm env p J W ρ (acc++r) (R (.ok .next)) ->
   codeAny Mo A (.compLoop (.ListComp elt gens scope pos) depth (.ref J) (.ref p) env) R s
theorem drop_get {α:Type}:∀ {l:List α} {n:Nat} {a:α} {r:List α},l.drop n=a::r->l[n]? = some a/\l[n+1]? = r.head?/\l.drop (n+1)=r
 | [],n,a,r,h=>by simp at h
 | b::l,0,a,r,h=>by
  simp at h
  obtain ⟨rfl,rfl⟩:=h
  refine ⟨rfl,?_,rfl⟩
  cases l<;>rfl
 | b::l,n+1,a,r,h=>by
  have h':l.drop n=a::r:=by simpa using h
  refine xAA (drop_get h') λh1 h2 h3=>?_
  exact ⟨by simpa using h1,by simpa using h2,by simpa using h3⟩
theorem isZero_ok {a:Int}(h:isZero a=true):a=0:=by
 cases a with
 | ofNat n=>rw [Nat.eq_of_beq_eq_true h];rfl
 | negSucc n=>exact nf h
theorem isSet_ok {v:Expr}(h:isSet v=false)(a:List Expr)(b:Nat)(c:Pos):v≠.Set a b c:=λe=>by subst e;exact nf h.symm
theorem tgt_name {t:Expr}{x:Tx}(h:tgt nm t=some x):∃ id p,t=.Name id p:=by
 have h':(match nameOf t with | some q=>if isOwn (lkp nm (tx q.i)) then some (tx q.i) else none | none=>none)=some x:=h
 clear h
 cases hn:nameOf t with
 | none=>rw [hn] at h';exact ns h'
 | some q=>exact ⟨q.i,q.p,q.e⟩
theorem cvG_cons {k:Nat}{out inn:List (Str×NameKind)}{c:Comprehension}{r:List Comprehension}{l:List (Tx×ME×List ME)}(h:cvG (cv k) out inn (c::r)=some l) :
  ∃ id px iter ifs x l',c=⟨.Name id px,iter,ifs,0⟩/\(∀ a b c,iter≠.Set a b c)/\tgt inn (.Name id px)=some x/\cvG (cv k) inn inn r=some l'/\l=(x,cv k out iter,ifs.map (cv k inn))::l':=by
 obtain ⟨t,iter,ifs,a⟩:=c
 obtain ⟨hc,h⟩:=ite_no (show (if (isSet iter||!isZero a)=true then none else (match tgt inn t with
  | some x=>(match cvG (cv k) inn inn r with
   | some l=>some ((x,cv k out iter,ifs.map (cv k inn))::l)
   | none=>none)
  | none=>none))=some l from h)
 rw [Bool.or_eq_false_iff,Bool.not_eq_false'] at hc
 cases e:tgt inn t with
 | none=>rw [e] at h;exact ns h
 | some x =>
  rw [e] at h
  cases hl:cvG (cv k) inn inn r with
  | none=>rw [hl] at h;exact ns h
  | some l' =>
   rw [hl] at h
   obtain rfl:=sq h
   have ea:=isZero_ok hc.2
   subst ea
   refine xEE (tgt_name e) λid0 px0 ee2=>?_
   subst ee2
   exact ⟨id0,px0,iter,ifs,x,l',rfl,isSet_ok hc.1,e,rfl,rfl⟩
theorem CSt.rows (x:CSt W0 nm env p W ρ J xs items acc)(hall:AllD ρ){L':Le [J] W W'}:Fm W0.pv nm env W' ρ :=
 x.F.turn x.I L' x.hJ x.it.isF.rowF λy ev v e hn _=>let ⟨v',q⟩:=hall y ev e;absurd q (hn v')
theorem np_J (x:CSt W0 nm env p W ρ J xs items acc):p∉[J]:=λh=>by
 rw [List.mem_singleton] at h
 have:=x.it.isF
 rw [<-h] at this
 exact notF_list x.pl this
theorem loop_end (hh:A.handled=none)(I0:Inv W0)(x:CSt W0 nm env p W ρ J [] items acc)(o:Ok W s)(hall:AllD ρ){pos0:Pos}{K:Value->Sem Fin}{post:Fin->Shared->Prop}
  (hR:CEnd W0 nm env p J W ρ (acc++[]) (post (.done .next))) :
  wpAny Mo A (standAt pos0>>=λ_=>pyNext (.ref J)>>=λr=>match r with | none=>pure (.done .next) | some v=>K v) post E s:=by
 refine wpAny_bind (wpAny_standAt (wpAny_bind (Itr.stop hh x.I o x.hJ x.it λW' s' L' I' o'=>wpAny_pure ?_)))
 have hP:∀ a∈[J],a∈W.pv:=mem1 x.hJ
 exact hR W' s' items I' (Le.own I0 x.L L' (mem1 ⟨x.hJ,x.hJ0⟩)) o' (x.rows hall (L':=L')) (L'.pvK _ x.hp (np_J x)) (PlainList.priv x.I L'.toLe0 x.hp (np_J x) x.pl)
  (by rw [List.append_nil];exact x.ac.mono x.I L'.toLe0 hP) (Kp.one L' x.hJ (.inl rfl))
theorem loop_next (hh:A.handled=none)(I0:Inv W0)(x:CSt W0 nm env p W ρ J (d::xs) items acc)(o:Ok W s)(hall:AllD ρ){pos0:Pos}{id:Str}{px:Pos}{y:Tx}(ht:tgt nm (.Name id px)=some y){T:Sem Fin}{post:Fin->Shared->Prop}
  (h:∀ W2 s2,CSt W0 nm env p W2 (setR ρ y (.d d)) J xs items acc->Ok W2 s2->Kp J W W2->wpAny Mo A T post E s2) :
  wpAny Mo A (standAt pos0>>=λ_=>pyNext (.ref J)>>=λr=>match r with | none=>pure (.done .next) | some v=>letOwnedTupleGo (.Name id px) (.ref J) v>>=λ_=>assign (.Name id px) env v>>=λ_=>T) post E s:=by
 refine wpAny_bind (wpAny_standAt (wpAny_bind (Itr.next hh x.I o x.hJ x.it λv W1 s1 L1 I1 o1 e1 r1 it1=>?_)))
 have hP:∀ a∈[J],a∈W.pv:=mem1 x.hJ
 have x1:CSt W0 nm env p W1 ρ J xs items acc:=⟨I1,Le.own I0 x.L L1 (mem1 ⟨x.hJ,x.hJ0⟩),x.rows hall (L':=L1),by rw [e1];exact x.hJ,x.hJ0,it1,
  L1.pvK _ x.hp (np_J x),x.hp0,PlainList.priv x.I L1.toLe0 x.hp (np_J x) x.pl,x.ac.mono x.I L1.toLe0 hP⟩
 refine wpAny_bind (wpAny_pure ?_)
 refine wpAny_bind (assign_at (ev:=.d d) I1 x1.F o1 ht r1 λq W2 s2 h1 h2 h3 L2 I2 o2 e2 F2=>?_)
 exact h W2 s2 (x1.put I0 h1 h2 h3 L2 I2 F2) o2 (Kp.trans x.I (Kp.one L1 x.hJ (.inl rfl)) (Kp.one (J:=J) L2 h1 (.inr ⟨λz=>h3 z.rowF,e2⟩)) (.inl rfl))
theorem flat_cons {f:D->Option (List D)}{r:List D}(h:flat f (d::xs)=some r):∃ a b,f d=some a/\flat f xs=some b/\r=a++b:=by
 unfold flat at h
 refine xEA (optL h) λa e h=>?_
 cases hb:flat f xs with
 | none=>rw [hb] at h;exact ns h
 | some b=>rw [hb] at h;cases h;exact ⟨a,b,e,rfl,rfl⟩
theorem loop_nil (hh:A.handled=none){k:Nat}{elt:Expr}{gens:List Comprehension}{scope:Scope}{pos:Pos}(I0:Inv W0){rest:List Comprehension}{depth:Nat}{id:Str}{px:Pos}{iter:Expr}{ifs:List Expr}{l:List (Tx×ME×List ME)}
  (hg:gens[depth]? = some ⟨.Name id px,iter,ifs,0⟩) (hn:gens[depth+1]? = rest.head?) (hl:cvG (cv k) nm nm rest=some l) (hall:AllD ρ) (S:CSt W0 nm env p W ρ J [] items acc) (o:Ok W s)
  (hR:CEnd W0 nm env p J W ρ (acc++[]) (R (.ok .next))) :
  codeAny Mo A (.compLoop (.ListComp elt gens scope pos) depth (.ref J) (.ref p) env) R s:=by
 refine codeAny_of_tree ?_
 show wpAny _ A ((compTurn (.ListComp elt gens scope pos) depth (.ref J) (.ref p) env).onRaise (λx=>do noteFrame x env;theTreesLotGoes x)) _ _ s
 refine wpAny_noted ?_
 cases rest with
 | nil =>
  rw [turn_last hg hn]
  exact loop_end hh I0 S o hall hR
 | cons c rest =>
  obtain ⟨id',px',iter',ifs',x',l',rfl,_⟩:=cvG_cons hl
  rw [turn_inner hg hn]
  exact loop_end hh I0 S o hall hR
theorem egq_last {n:Nat}{el:ME}{ifs:List ME}{r:List D}(h:eg cal G (n+1) ρ el ifs []=some r):(tvl (tv cal G n ρ) ifs=some false/\r=[])\/(tvl (tv cal G n ρ) ifs=some true/\∃ v,ev cal G n ρ el=some v/\r=[v]):=by
 have h':(match tvl (tv cal G n ρ) ifs with
  | some true=>(ev cal G n ρ el).map λd=>[d]
  | some false=>some []
  | none=>none)=some r:=h
 clear h
 generalize tvl (tv cal G n ρ) ifs=q at h' ⊢
 cases q with
 | none=>exact ns h'
 | some b =>
  cases b with
  | false=>exact .inl ⟨rfl,(sq h').symm⟩
  | true =>
   have h2:(ev cal G n ρ el).map (λd=>[d])=some r:=h'
   clear h'
   generalize ev cal G n ρ el=q at h2 ⊢
   cases q with
   | none=>exact ns h2
   | some v=>exact .inr ⟨rfl,v,rfl,(sq h2).symm⟩
theorem egq_inner {n:Nat}{el:ME}{ifs:List ME}{x:Tx}{it:ME}{ifs':List ME}{gs:List (Tx×ME×List ME)}{r:List D}(h:eg cal G (n+1) ρ el ifs ((x,it,ifs')::gs)=some r):(tvl (tv cal G n ρ) ifs=some false/\r=[]) \/
  (tvl (tv cal G n ρ) ifs=some true/\isN (getR ρ x)=true/\∃ d xs,ev cal G n ρ it=some d/\itemsD d=some xs/\flat (λi=>eg cal G n (setR ρ x (.d i)) el ifs' gs) xs=some r):=by
 have h':(match tvl (tv cal G n ρ) ifs with
  | some true=>(if isN (getR ρ x) then (match ev cal G n ρ it with
    | some d=>(match itemsD d with
     | some xs=>flat (λi=>eg cal G n (setR ρ x (.d i)) el ifs' gs) xs
     | none=>none)
    | none=>none) else none)
  | some false=>some []
  | none=>none)=some r:=h
 clear h
 generalize tvl (tv cal G n ρ) ifs=q at h' ⊢
 cases q with
 | none=>exact ns h'
 | some b =>
  cases b with
  | false=>exact .inl ⟨rfl,(sq h').symm⟩
  | true =>
   obtain ⟨hx,h1⟩:=ite_val h'
   refine xEA (optD h1) λd e h2=>?_
   refine xEA (optL h2) λxs e2 h3=>?_
   exact .inr ⟨rfl,hx,d,xs,e,e2,h3⟩
noncomputable def CGo (W0:Wd)(nm:List (Str×NameKind))(env:Env)(p J:Addr)(W:Wd)(ρ:Rho)(xs as:List D)(T:Shared->Prop):Prop :=
 ∀ W3 s3 items3,CSt W0 nm env p W3 ρ J xs items3 as->Ok W3 s3->Kp J W W3->T s3
section
variable {W3:Wd}{x:Tx}{ra:List D}{T:Sem Fin}{F:Shared->Prop}{post:Fin->Shared->Prop}
theorem app_done (I0:Inv W0)(hall:AllD ρ)(hx:isN (getR ρ x)=true)(S:CSt W0 nm env p W1 (setR ρ x (.d d)) J xs items acc)(o:Ok W1 s)(IW:Inv W)(K:Kp J W W1)(hz:items.size<=lim){u:Value}{v:D}(r:Rep W1 v u)
  (again:CGo W0 nm env p J W ρ xs (acc++[v]) F) {PU:Unit->Shared->Prop} (hT:∀ s,F s->PU () s):wpAny Mo A (call (.builtin "list.append") [.ref p,u]>>=λ_=>(pure ():Sem Unit)) PU E s:=by
 refine wpAny_bind (append_at S.I o S.hp S.pl hz λW5 s5 L5 I5 o5 e5 hl5=>wpAny_pure (hT s5 ?_))
 have hP:∀ a∈[p],a∈W1.pv:=mem1 S.hp
 have nJ:J∉[p]:=λh=>by
  rw [List.mem_singleton] at h
  have:=S.it.isF
  rw [h] at this
  exact notF_list S.pl this
 have I4:=S.I
 exact again W5 s5 _ ⟨I5,Le.own I0 S.L L5 (mem1 ⟨S.hp,S.hp0⟩),
   (S.F.turn I4 L5 S.hp (rowF_list S.pl) λy ev w e hn _=>let ⟨v',q⟩:=hall.set y ev e;absurd q (hn v')).sub (sub_set hx),
   L5.pvK _ S.hJ nJ,S.hJ0,S.it.mono I4 L5.toLe0 hP S.hJ nJ,e5▸S.hp,S.hp0,hl5,
   by rw [Array.toList_push];exact (S.ac.mono I4 L5.toLe0 hP).append ⟨u,[],rfl,r.mono I4 L5.toLe0 hP,rfl⟩⟩ o5
  (Kp.trans IW K (Kp.one (J:=J) L5 S.hp (.inr ⟨notF_list S.pl,e5⟩)) (.inl rfl))
theorem no_turn (hx:isN (getR ρ x)=true)(S2:CSt W0 nm env p W2 (setR ρ x (.d d)) J xs items acc)(IW:Inv W)(K2:Kp J W W2)(again:CGo W0 nm env p J W ρ xs (acc++[]) F)(L3:Le [] W2 W3)(I3:Inv W3)(o3:Ok W3 s):F s :=
 again W3 s items (by rw [List.append_nil];exact (S2.le L3 I3).sub (sub_set hx)) o3 (Kp.trans IW K2 (Kp.le (J:=J) L3) (.inl rfl))
theorem last_turn {n k:Nat}{elt:Expr}{ifs:List Expr}(HE:EvOk A cal G n)(HT:TvOk A cal G n)(I0:Inv W0)(hall:AllD ρ)(hx:isN (getR ρ x)=true)(ha:eg cal G (n+1) (setR ρ x (.d d)) (cv k nm elt) (ifs.map (cv k nm)) []=some ra)
  (IW:Inv W) (S2:CSt W0 nm env p W2 (setR ρ x (.d d)) J xs items acc) (o2:Ok W2 s) (K2:Kp J W W2) (hz:items.size<=lim) (again:CGo W0 nm env p J W ρ xs (acc++ra) F) (hT:∀ s,F s->wpAny Mo A T post E s) :
  wpAny Mo A ((forIn ifs true λc r=>if r=true then do let ok ← PySem.isTrue c env (eval c env);pure (ForInStep.yield ok) else pure (ForInStep.yield r))>>=λok =>
    if ok=true then (eval elt env>>=λx=>call (.builtin "list.append") [.ref p,x]>>=λ_=>pure ())>>=λ_=>T else T) post E s:=by
 rcases egq_last ha with ⟨hok,rfl⟩ | ⟨hok,v,he,rfl⟩
 ·clear ha HE
  refine wpAny_bind (tests_at S2.I o2 (λe b hb=>HT.go hb S2.F S2.I) hok λW3 s3 L3 I3 o3=>?_)
  rw [if_neg Bool.false_ne_true]
  exact hT _ (no_turn hx S2 IW K2 again L3 I3 o3)
 ·clear ha
  refine wpAny_bind (tests_at S2.I o2 (λe b hb=>HT.go hb S2.F S2.I) hok λW3 s3 L3 I3 o3=>?_)
  rw [if_pos rfl]
  have S3:=S2.le L3 I3
  refine wpAny_bind (wpAny_bind (HE k nm env _ W3 _ elt v he S3.F I3 s3 _ _ o3 λu W4 s4 L4 I4 o4 r4=>?_))
  exact app_done I0 hall hx (S3.le L4 I4) o4 IW (Kp.trans IW (Kp.trans IW K2 (Kp.le (J:=J) L3) (.inl rfl)) (Kp.le (J:=J) L4) (.inl rfl)) hz r4 again hT
theorem inner_run (hh:A.handled=none){n k:Nat}{elt:Expr}{gens rest:List Comprehension}{scope:Scope}{pos px':Pos}{depth:Nat}{id':Str}{iter':Expr}{ifs':List Expr}{x':Tx}{l':List (Tx×ME×List ME)}{ys:List D}{W4 W5:Wd}{J':Addr}
  (ih:LoopOk A cal G n) (hdrop:gens.drop (depth+1)=⟨.Name id' px',iter',ifs',0⟩::rest) (ht':tgt nm (.Name id' px')=some x') (hl':cvG (cv k) nm nm rest=some l') (hnx:gens[depth+1]? = some ⟨.Name id' px',iter',ifs',0⟩)
  (I0:Inv W0) (hall:AllD ρ) (hx:isN (getR ρ x)=true) (hx':isN (getR (setR ρ x (.d d)) x')=true) (hf:flat (λi=>eg cal G n (setR (setR ρ x (.d d)) x' (.d i)) (cv k nm elt) (ifs'.map (cv k nm)) l') ys=some ra)
  (IW:Inv W) (S4:CSt W0 nm env p W4 (setR ρ x (.d d)) J xs items acc) (S5:CSt W0 nm env p W5 (setR ρ x (.d d)) J xs items acc) (o5:Ok W5 s) (K4:Kp J W W4) (L5:Le [] W4 W5) (hJ':J'∈W5.pv) (hJn:W4.h.get? J'=none) (it5:Itr W5 J' ys)
  (hz:items.size+ra.length<=lim) (again:CGo W0 nm env p J W ρ xs (acc++ra) F) (hT:∀ s,F s->wpAny Mo A T post E s) :
  wpAny Mo A (runOwn (.compStart (.ListComp elt gens scope pos) (depth+1) (.ref J') (.ref p) env) env>>=λ_=>T) post E s:=by
 have none:∀ {a:Addr} {o:Obj},W4.h.get? a=some o->J'≠a:=λe z=>by rw [z,e] at hJn;exact ns hJn.symm
 have hJne:J'≠J:=let ⟨_,e⟩:=S4.I.pvAl J S4.hJ;none e
 have hJW4:J'∉W4.pv:=λz=>let ⟨_,e⟩:=S4.I.pvAl J' z;none e rfl
 have hJW:J'∉W.pv:=λz=>hJW4 (K4.1 J' z hJne)
 have hJ0:J'∉W0.pv:=λz=>hJW4 (S4.L.pvK J' z λq=>nomatch q)
 have K5:Kp J W W5:=Kp.trans IW K4 (Kp.le (J:=J) L5) (.inl rfl)
 clear none hJW4 S4 K4 L5 hJn
 refine wpAny_bind (wpAny_runOwn ?_)
 rw [mark_none]
 refine start_at hh hnx o5 it5 ?_
 refine ih k nm env W0 p elt gens scope pos I0 rest (depth+1) id' px' iter' ifs' x' l' hdrop ht' hl' ys _ ra hf hx' hall.set W5 s J' items acc _ { S5 with hJ:=hJ',hJ0:=hJ0,it:=it5 } o5 hz λW6 s6 items6 I6 L6 o6 F6 hp6 hl6 hr6 K6=>hT _ ?_
 obtain ⟨it6,hJ6⟩:=Kp.itr S5.I K6 S5.hJ (Ne.symm hJne) S5.it
 exact again W6 s6 items6 ⟨I6,L6,F6.sub (sub_set hx),hJ6,S5.hJ0,it6,hp6,S5.hp0,hl6,hr6⟩ o6 (Kp.trans IW K5 K6 (.inr hJW))
theorem inner_turn (hh:A.handled=none){n k:Nat}{elt:Expr}{ifs:List Expr}{gens rest:List Comprehension}{scope:Scope}{pos px':Pos}{depth:Nat}{id':Str}{iter':Expr}{ifs':List Expr}{x':Tx}{l':List (Tx×ME×List ME)}
  (ih:LoopOk A cal G n) (hdrop:gens.drop (depth+1)=⟨.Name id' px',iter',ifs',0⟩::rest) (hns:∀ a b c,iter'≠.Set a b c) (ht':tgt nm (.Name id' px')=some x') (hl':cvG (cv k) nm nm rest=some l') (hnx:gens[depth+1]? = some ⟨.Name id' px',iter',ifs',0⟩)
  (HE:EvOk A cal G n) (HT:TvOk A cal G n) (I0:Inv W0) (hall:AllD ρ) (hx:isN (getR ρ x)=true) (ha:eg cal G (n+1) (setR ρ x (.d d)) (cv k nm elt) (ifs.map (cv k nm)) ((x',cv k nm iter',ifs'.map (cv k nm))::l')=some ra)
  (IW:Inv W) (S2:CSt W0 nm env p W2 (setR ρ x (.d d)) J xs items acc) (o2:Ok W2 s) (K2:Kp J W W2) (hz:items.size+ra.length<=lim) (again:CGo W0 nm env p J W ρ xs (acc++ra) F) (hT:∀ s,F s->wpAny Mo A T post E s) :
  wpAny Mo A ((forIn ifs true λc r=>if r=true then do let ok ← PySem.isTrue c env (eval c env);pure (ForInStep.yield ok) else pure (ForInStep.yield r))>>=λok =>
    if ok=true then (do
     let x ← eval iter' env
     standAt iter'.pos
     let x ← foldedSetIterable iter' env x
     let j ← holding [x] (pyIter x)
     let _ ← runOwn (.compStart (.ListComp elt gens scope pos) (depth+1) j (.ref p) env) env
     T)
    else T) post E s:=by
 rcases egq_inner ha with ⟨hok,rfl⟩ | ⟨hok,hx',v,ys,he,hi,hf⟩
 ·clear ha HE ih
  refine wpAny_bind (tests_at S2.I o2 (λe b hb=>HT.go hb S2.F S2.I) hok λW3 s3 L3 I3 o3=>?_)
  rw [if_neg Bool.false_ne_true]
  exact hT _ (no_turn hx S2 IW K2 again L3 I3 o3)
 ·clear ha
  refine wpAny_bind (tests_at S2.I o2 (λe b hb=>HT.go hb S2.F S2.I) hok λW3 s3 L3 I3 o3=>?_)
  rw [if_pos rfl]
  have S3:=S2.le L3 I3
  refine wpAny_bind (HE k nm env _ W3 _ iter' v he S3.F I3 s3 _ _ o3 λu W4 s4 L4 I4 o4 r4=>?_)
  have S4:=S3.le L4 I4
  refine wpAny_bind (wpAny_standAt (wpAny_bind (wpAny_of_eq (folded_pure hns u) (wpAny_bind (wpAny_holding (iter_at I4 o4 hi r4 λJ' W5 s5 L5 I5 o5 hJ' hJn it5=>?_))))))
  have K4:Kp J W W4:=Kp.trans IW (Kp.trans IW K2 (Kp.le (J:=J) L3) (.inl rfl)) (Kp.le (J:=J) L4) (.inl rfl)
  exact inner_run hh ih hdrop ht' hl' hnx I0 hall hx hx' hf IW S4 (S4.le L5 I5) o5 K4 L5 hJ' hJn it5 hz again (λs h=>hT s h)
end
theorem comp_loop (hh:A.handled=none):∀ n,(∀ m,m < n->EvOk A cal G m)->(∀ m,m < n->TvOk A cal G m)->LoopOk A cal G n:=by
 intro n
 induction n with
 | zero =>
  intro _ _ k nm env W0 p elt gens scope pos I0 rest depth id px iter ifs x l hd ht hl xs ρ r hf hx hall W s J items acc R S o hz hR
  refine xAA (drop_get hd) λhg hn _=>?_
  cases xs with
  | cons d xs =>
   refine xEEA (flat_cons hf) λa b e _=>?_
   exact ns (show none=some a from e)
  | nil =>
   obtain rfl:=sq hf
   exact loop_nil hh I0 hg hn hl hall S o hR
 | succ n ih =>
  intro hE hT k nm env W0 p elt gens scope pos I0 rest depth id px iter ifs x l hd ht hl xs
  have ih:=ih (λm h=>hE m (Nat.lt_succ_of_lt h)) (λm h=>hT m (Nat.lt_succ_of_lt h))
  have HE:=hE n (Nat.lt_succ_self n)
  have HT:=hT n (Nat.lt_succ_self n)
  clear hE hT
  refine xAA (drop_get hd) λhg hn hdrop=>?_
  clear hd
  induction xs with
  | nil =>
   intro ρ r hf hx hall W s J items acc R S o hz hR
   obtain rfl:=sq hf
   exact loop_nil hh I0 hg hn hl hall S o hR
  | cons d xs ihx =>
   intro ρ r hf hx hall W s J items acc R S o hz hR
   refine xEEAA (flat_cons hf) λra rb ha hb ee4=>?_
   subst ee4
   clear hf
   rw [List.length_append,← Nat.add_assoc] at hz
   have hz1:items.size+ra.length<=lim:=Nat.le_trans (Nat.le_add_right _ _) hz
   have again:CGo W0 nm env p J W ρ xs (acc++ra) (λs3=>codeAny Mo A (.compLoop (.ListComp elt gens scope pos) depth (.ref J) (.ref p) env) R s3):=λW3 s3 items3 S3 o3 K3=>by
    have hz3:items3.size=items.size+ra.length:=by
     have h1:=S3.ac.length
     have h2:=S.ac.length
     rw [Array.length_toList] at h1 h2
     rw [h1,List.length_append,h2]
    refine ihx ρ rb hb hx hall W3 s3 J items3 (acc++ra) R S3 o3 (hz3▸hz) λW' s' items' I' L' o' F' h1 h2 h3 K'=>?_
    exact hR W' s' items' I' L' o' F' h1 h2 (by rw [<-List.append_assoc];exact h3) (Kp.trans S.I K3 K' (.inl rfl))
   have IW:=S.I
   clear ihx hR hb hz
   refine codeAny_of_tree ?_
   show wpAny _ A ((compTurn (.ListComp elt gens scope pos) depth (.ref J) (.ref p) env).onRaise (λx=>do noteFrame x env;theTreesLotGoes x)) _ _ s
   refine wpAny_noted ?_
   cases rest with
   | nil =>
    rw [turn_last hg hn]
    obtain rfl:=sq (show some []=some l from hl)
    exact loop_next hh I0 S o hall ht λW2 s2 S2 o2 K2=>last_turn HE HT I0 hall hx ha IW S2 o2 K2 (Nat.le_trans (Nat.le_add_right _ _) hz1) again λ_ h=>wpAny_pure ⟨rfl,h⟩
   | cons c rest =>
    obtain ⟨id',px',iter',ifs',x',l',rfl,hns,ht',hl',rfl⟩:=cvG_cons hl
    rw [turn_inner hg hn]
    exact loop_next hh I0 S o hall ht λW2 s2 S2 o2 K2=>inner_turn hh ih hdrop hns ht' hl' hn HE HT I0 hall hx ha IW S2 o2 K2 hz1 again λ_ h=>wpAny_pure ⟨rfl,h⟩
end
end
section
open PySem.Builtin PySem.Builtin.Str
section
variable {A:Around}{W W' W0 W1 W2:Wd}{P B X:List Addr}{d:D}{s:Shared}{E:Value->Shared->Prop}{env:Env}
variable {cal:D->List D->Option D}{G:Tx->Option D}
variable {nm:List (Str×NameKind)}{p J:Addr}{ρ ρ':Rho}{xs acc:List D}{items:Array Value}
theorem EVR.weak {ev:EV}{v:Value}{B':List Addr}(h:EVR B W ev v)(hb:∀ q,q∈W.pv->q∉B->q∉B'):EVR B' W ev v:=by
 match ev,h with
 | .d x,h=>exact h
 | .mut xs,h =>
  obtain ⟨p,items,e,hp,hn,r,hz,hr⟩:=h
  exact ⟨p,items,e,hp,hb p hp hn,r,hz,hr⟩
 | .itr xs,h =>
  obtain ⟨p,e,hp,hn,r⟩:=h
  exact ⟨p,e,hp,hb p hp hn,r⟩
theorem Fm.weak {B':List Addr}(F:Fm B nm env W ρ)(hb:∀ q,q∈W.pv->q∉B->q∉B'):Fm B' nm env W ρ :=
 { F with
  lb:=hb _ F.lp F.lb
  cb:=λx c h1 h2=>by
   obtain ⟨c',v0,g1,g2,_⟩:=F.ce x (.inl h1)
   rw [h2] at g1;obtain rfl:=sq g1
   exact hb c g2 (F.cb x c h1 h2)
  ns:=let ⟨m,h1,h2⟩:=F.ns;⟨m,h1,λx ev k e=>let ⟨v,e1,e2⟩:=h2 x ev k e;⟨v,e1,e2.weak hb⟩⟩
  ce:=λx k=>let ⟨c,v0,h1,h2,h3,h4⟩:=F.ce x k;⟨c,v0,h1,h2,h3,λev e=>let ⟨v,e1,e2⟩:=h4 ev e;⟨v,e1,e2.weak hb⟩⟩ }
theorem Fm.pass (I:Inv W)(F:Fm B nm env W ρ)(L:Le P W W')(hP:∀ a∈P,a∈W.pv)(hB:∀ a∈P,a∈B)(hc:∀ a∈P,∀ v,¬ W.h.IsCell a v):Fm B nm env W' ρ:=by
 have mono:∀ {ev v},EVR B W ev v->EVR B W' ev v:=λ{ev v} r=>r.mono I L hP λhn q hq z=>by
  match ev,r with
  | .d x,_=>exact hn x rfl
  | .mut xs,h =>
   obtain ⟨p,items,e,hp,hnb,r⟩:=h
   rw [z] at e;cases e
   exact hnb (hB q hq)
  | .itr xs,h =>
   obtain ⟨p,e,hp,hnb,r⟩:=h
   rw [z] at e;cases e
   exact hnb (hB q hq)
 have nl:env.locals∉P:=λh=>F.lb (hB _ h)
 exact { F with
  lp:=L.pvK _ F.lp nl
  ns:=by
   obtain ⟨m,⟨o,es,ep,ho,r⟩,h2⟩:=F.ns
   exact ⟨m,⟨o,es,ep,L.toLe0.priv I F.lp nl ho,r⟩,λx ev k e=>let ⟨v,e1,e2⟩:=h2 x ev k e;⟨v,e1,mono e2⟩⟩
  ce:=λx k=>by
   obtain ⟨c,v0,g1,g2,g3,h4⟩:=F.ce x k
   have hcn:c∉P:=λh=>hc c h v0 g3
   obtain ⟨o,ho,hd⟩:=g3
   exact ⟨c,v0,g1,L.pvK _ g2 hcn,⟨o,L.toLe0.priv I g2 hcn ho,hd⟩,λev e=>let ⟨v,e1,e2⟩:=h4 ev e;⟨v,e1,mono e2⟩⟩ }
theorem comp_core {n k:Nat}(hh:A.handled=none)(hl:LoopOk A cal G n)(hE:EvOk A cal G n){elt iter:Expr}{id:Str}{px:Pos}{ifs:List Expr}{rest:List Comprehension}{scope:Scope}{pos:Pos}{x:Tx}{l:List (Tx×ME×List ME)}
  (I:Inv W) (F:Fm B nm env W ρ) (o:Ok W s) (hsc:okScope scope=true) (hfr:freeOk nm scope=true) (hns:∀ a b c,iter≠.Set a b c) (ht:tgt scope.names (.Name id px)=some x) (hcg:cvG (cv k) scope.names scope.names rest=some l)
  {dv:D} {r:List D} (hd:ev cal G n ρ (cv k nm iter)=some dv) (hi:itemsD dv=some xs) (hx:isN (getR (frees (freesOf scope) ρ) x)=true)
  (hf:flat (λi=>eg cal G n (setR (frees (freesOf scope) ρ) x (.d i)) (cv k scope.names elt) (ifs.map (cv k scope.names)) l) xs=some r) (hz:r.length<=lim) {use:Option (Value->Sem Unit)} {Q:Value->Shared->Prop}
  (q:∀ p L W' s' items,Le [] W W'->Inv W'->Ok W' s'->p∈W'.pv->p∉W.pv->L∈W'.pv->L∉W.pv->W'.h.PlainList p items->Reps W' r items.toList->(∃ m,W'.h.Ns L m)->compPost Mo A E use Q (.ref p) L (.ok .next) s') :
  wpAny Mo A (comprehension (.ListComp elt (⟨.Name id px,iter,ifs,0⟩::rest) scope pos) scope env iter.pos (newList []) false (eval iter env) use) Q E s:=by
 refine xAAA (okScope_parts hsc) λk1 k2 _ k3=>?_
 obtain ⟨cl,hcl,hc1,hc2⟩:=closure_at (env:=env) (scope:=scope) λm hm=>by
  obtain ⟨c,_,e,_⟩:=F.ce (tx m) (free_outer hfr hm)
  exact ⟨c,e⟩
 refine wpAny_comprehension_free rfl (folded_pure hns) hcl k1 (λy hy e=>noneDup_lookup k2 (k:=.local) (n:=y.1) (by rw [<-e];exact hy)) ?_
 refine hE k nm env B W ρ iter dv hd F I s _ _ o λv W1 s1 L1 I1 o1 r1=>?_
 refine iter_at I1 o1 hi r1 λJ W2 s2 L2 I2 o2 hJ hJn it=>?_
 refine wpAny_newObj_type ?_
 have I3:=pushP_inv I2 { cls:=.type "list",data:=.seq ([]:List Value).toArray } rfl
 have L3:=pushP_le (P:=[]) (W:=W2) { cls:=.type "list",data:=.seq ([]:List Value).toArray }
 have o3:=pushP_ok o2 { cls:=.type "list",data:=.seq ([]:List Value).toArray } s2.toks
 have F3:=F.later I (L1.trans (L2.trans L3))
 refine newEnv_at I3 o3 k2 λLc cs W4 s4 L4 I4 o4 e4=>?_
 refine wpAny_bind (wpAny_pure (wpAny_pure ?_))
 have Fc:=comp_fm I3 F3 hsc hfr hc1 hc2 L4 I4 e4
 have hpn:W.h.get? W2.h.objs.size=none:=by
  cases e:W.h.get? W2.h.objs.size with
  | none=>rfl
  | some ob =>
   obtain ⟨o',e'⟩:=(L1.trans L2).alive _ ob e (λz=>nomatch z)
   rw [fresh_none] at e';exact ns e'
 have npv:∀ {a},W.h.get? a=none->a∉W.pv:=λe h=>by obtain ⟨ob,e'⟩:=I.pvAl _ h;rw [e] at e';exact ns e'
 have hJ0:J∉W.pv:=λh=>by
  obtain ⟨ob,e⟩:=I1.pvAl J (L1.pvK J h λz=>nomatch z)
  rw [hJn] at e;exact ns e
 have L13:=L1.trans (L2.trans L3)
 have hLn:W.h.get? Lc=none:=by
  cases e:W.h.get? Lc with
  | none=>rfl
  | some ob =>
   obtain ⟨o',e'⟩:=L13.alive _ ob e (λz=>nomatch z)
   rw [e4.ln] at e';exact ns e'
 have L03:Le [] W W4:=L13.trans L4
 have Fc':Fm W.pv scope.names (compEnvC scope cs Lc env) W4 (frees (freesOf scope) ρ):=Fc.weak λa _ hn h=>hn (L13.pvK a h λz=>nomatch z)
 have it4:Itr W4 J xs:=(it.mono I2 L3.toLe0 (λ_ z=>nomatch z) hJ (λz=>nomatch z)).mono I3 L4.toLe0 (λ_ z=>nomatch z) (L3.pvK J hJ λz=>nomatch z) (λz=>nomatch z)
 have S4:CSt W scope.names (compEnvC scope cs Lc env) W2.h.objs.size W4 (frees (freesOf scope) ρ) J xs #[] [] :=
  ⟨I4,L03,Fc',(L3.trans L4).pvK J hJ (λz=>nomatch z),hJ0,it4,L4.pvK _ (.head _) (λz=>nomatch z),npv hpn,
   PlainList.priv I3 L4.toLe0 (.head _) (λz=>nomatch z) ⟨0,Heap.get?_push_size _ rfl⟩,rfl⟩
 have hall:∀ y ev,getR (frees (freesOf scope) ρ) y=some ev->∃ v,ev=.d v:=λy ev e=>(getR_frees e).2.2
 have e2:s2.heap.objs.size=W2.h.objs.size:=by rw [o2.1]
 rw [e2]
 have S5:CSt W scope.names (compEnvC scope cs Lc env) W2.h.objs.size W4 (frees (freesOf scope) ρ) J xs #[] []:=S4
 show codeAny Mo A (.compStart _ 0 (.ref J) (.ref W2.h.objs.size) (compEnvC scope cs Lc env)) _ s4
 refine start_at hh rfl o4 it4 ?_
 refine hl k scope.names (compEnvC scope cs Lc env) W W2.h.objs.size elt _ scope pos I rest 0 id px iter ifs x l rfl ht hcg xs _ r hf hx hall W4 s4 J #[] [] _ S5 o4 (by simpa using hz) λW' s' items' I' L' o' F' hp' hl' hr' K'=>?_
 obtain ⟨m,hm,_⟩:=F'.ns
 exact q _ _ W' s' items' L' I' o' hp' (npv hpn) F'.lp (npv hLn) hl' hr' ⟨m,hm⟩
theorem gv_ListComp {n k:Nat}(hh:A.handled=none)(hl:LoopOk A cal G n)(hE:EvOk A cal G n){elt iter:Expr}{id:Str}{px:Pos}{ifs:List Expr}{rest:List Comprehension}{scope:Scope}{pos:Pos}{x:Tx}{l:List (Tx×ME×List ME)}
  (I:Inv W) (F:Fm B nm env W ρ) (hsc:okScope scope=true) (hfr:freeOk nm scope=true) (hns:∀ a b c,iter≠.Set a b c) (ht:tgt scope.names (.Name id px)=some x) (hcg:cvG (cv k) scope.names scope.names rest=some l)
  {dv:D} {r:List D} (hd:ev cal G n ρ (cv k nm iter)=some dv) (hi:itemsD dv=some xs) (hx:isN (getR (frees (freesOf scope) ρ) x)=true)
  (hf:flat (λi=>eg cal G n (setR (frees (freesOf scope) ρ) x (.d i)) (cv k scope.names elt) (ifs.map (cv k scope.names)) l) xs=some r) (hz:r.length<=lim) :
  Gv A (eval (.ListComp elt (⟨.Name id px,iter,ifs,0⟩::rest) scope pos) env) W (.list r):=by
 intro s Q E o po
 refine comp_core hh hl hE I F o hsc hfr hns ht hcg hd hi hx hf hz λp L W' s' items L' I' o' hp hp0 hL hL0 hpl hr ⟨m,hm⟩=>?_
 refine ⟨m,by rw [o'.1];exact hm,λh' hs'=>?_⟩
 rw [o'.1] at hs'
 have hne:p≠L:=λz=>by
  subst z
  exact (rowF_list hpl).notNs hm rfl
 have Ld:=drop_le (W:=W') (p:=p)
 have Id:=drop_inv I' (p:=p)
 have hLd:L∈(W'.drop p).pv:=mem_drop.mpr ⟨hL,Ne.symm hne⟩
 have Le':=end_le Id hLd hs'.extBut
 have Ie:=end_inv Id hLd hs'.extBut
 have Lall:Le [] W ((({ W'.drop p with h:=h' }:Wd).drop L)) :=
  Le.own I (Le.own I L' Ld λa h=>by rw [List.mem_singleton] at h;subst h;exact ⟨hp,hp0⟩) Le' λa h=>by rw [List.mem_singleton] at h;subst h;exact ⟨hLd,hL0⟩
 have hP1:∀ a∈[p],a∈W'.pv:=mem1 hp
 have hP2:∀ a∈[L],a∈(W'.drop p).pv:=mem1 hLd
 refine po (.ref p) _ _ Lall Ie ⟨rfl,o'.2.1,o'.2.2⟩ ?_
 have hz':items.size<=lim:=by
  have:=hr.length
  rw [Array.length_toList] at this
  rw [this];exact hz
 refine ⟨p,items,rfl,λh=>(mem_drop.mp (mem_drop.mp h).1).2 rfl,?_,hz',(hr.mono I' Ld.toLe0 hP1).mono Id Le'.toLe0 hP2⟩
 obtain ⟨nn,e⟩:=hpl
 exact (Heap.PlainList.isList ⟨nn,hs'.extBut p _ hne e⟩)
end
end
section
open PySem.Builtin PySem.Builtin.Str
section
variable {A:Around}{W W' W0 W1 W2:Wd}{P B X:List Addr}{d:D}{s:Shared}{E:Value->Shared->Prop}{env:Env}
noncomputable def Keep (A:Around)(W:Wd)(f:Value):Prop:=∀ W',Le [] W W'->Inv W'->∃ k,(k=Keeper.frame\/k=Keeper.machine\/k=Keeper.boundFrame)/\∀ (Q:Keeper->Shared->Prop) (E:Value->Shared->Prop) s,Ok W' s->Q k s->wpAny Mo A (keeperOf f) Q E s
theorem Keep.builtin (id:String):Keep A W (.builtin id):=λ_ _ _=>⟨.machine,.inr (.inl rfl),λ_ _ _ _ h=>wpAny_pure h⟩
theorem Keep.type (t:String):Keep A W (.type t):=λ_ _ _=>⟨.machine,.inr (.inl rfl),λ_ _ _ _ h=>wpAny_pure h⟩
theorem Keep.func {a:Addr}{o:Obj}{fd:FuncData}(I:Inv W)(e:W.h.get? a=some o)(ha:a∉W.pv)(h1:o.cls≠.none)(h2:o.cls≠.type "dict") (hd:o.data=.func fd):Keep A W (.ref a):=λW' L I'=>by
 refine ⟨.frame,.inl rfl,λQ E s ok h=>?_⟩
 have e':=L.toLe0.obj I (λ_ h=>nomatch h) ha e h1 h2
 unfold keeperOf
 refine wpAny_bind (wpAny_load (by rw [ok.1];exact e') ?_)
 rw [hd]
 exact wpAny_pure h
theorem any_false {es:List Expr}{pos:Pos}(hn:noStar es=true):(backTo pos (starEach es env)).any (·.1)=false:=by
 induction es with
 | nil=>rfl
 | cons e r ih =>
  obtain ⟨h1,h2⟩:=noStar_cons hn
  rw [star1 h1 r env]
  exact ih h2
theorem evalArgs_at {f:Value}{es:List Expr}{pos:Pos}(hn:noStar es=true){Q:Args->Shared->Prop}(h:wpAny Mo A (spliced (backTo pos (starEach es env))) (λvs s'=>Q ⟨vs,[]⟩ s') E s) :
  wpAny Mo A (evalArgs f true (backTo pos (starEach es env)) []) Q E s:=by
 cases es with
 | nil =>
  show wpAny Mo A (spliced (backTo pos (starEach [] env))>>=_) Q E s
  refine wpAny_bind (wpAny_mono h (λvs s₁ h₁=>wpAny_bind (wpAny_pure (wpAny_holding ?_))) λ_ _ x=>x)
  exact wpAny_bind (wpAny_pure (wpAny_bind (wpAny_pure (wpAny_pure h₁))))
 | cons e r =>
  rw [star1 (noStar_cons hn).1 r env] at h ⊢
  exact Calls.evalArgs_plain h
theorem callWith_core {f:Value}{first:List Value}{es:List Expr}{pos:Pos}(hn:noStar es=true){Q:Value->Shared->Prop}
  (h:wpAny Mo A (spliced (backTo pos (starEach es env))) (λvs s1=>∃ k,(k=Keeper.frame\/k=Keeper.machine\/k=Keeper.boundFrame)/\(∀ (Q:Keeper->Shared->Prop) E,Q k s1->wpAny Mo A (keeperOf f) Q E s1)/\wpAny Mo A (call f (first++vs)) Q E s1) E s) :
  wpAny Mo A (callWith pos f first (backTo pos (starEach es env)) []) Q E s:=by
 refine wpAny_bind (wpAny_holding (evalArgs_at hn (wpAny_mono h (λvs s1 h1=>wpAny_bind (wpAny_standAt ?_)) λ_ _ x=>x)))
 refine xEAA h1 λk hk' hkk hc=>?_
 try clear h1
 have hplain:((backTo pos (starEach es env)).any (·.1)||([]:List (Option Str×Sem Value)).any (·.1.isNone))=false:=by rw [any_false hn];rfl
 simp only [hplain]
 refine wpAny_bind (hkk _ _ ?_)
 have g:wpAny Mo A (call f (first++vs)) (λr s'=>wpAny Mo A (holding [r] point>>=λ_=>pure r) Q E s') E s1:=wpAny_mono hc (λv s2 r2=>wpAny_bind (wpAny_holding (wpAny_point (wpAny_pure r2)))) λ_ _ x=>x
 have marked (mk:Value):wpAny Mo A (callMarked mk f (first++vs) []) (λr s'=>wpAny Mo A (holding [r] point>>=λ_=>pure r) Q E s') E s1:=by exact Calls.wpAny_keep g
 rcases hk' with rfl | rfl | rfl<;>dsimp only<;>first | exact wpAny_bind g | (split<;>first | exact wpAny_bind g | exact wpAny_bind (marked _))
theorem callWith_at {f:Value}{first:List Value}{es:List Expr}{ds:List D}{pos:Pos}(I:Inv W)(hn:noStar es=true)
  (he:∀ (k:Nat) (e:Expr) (d:D),es[k]? = some e->ds[k]? = some d->GvA A (eval e env) W d) (hl:es.length=ds.length) (hk:Keep A W f)
  (hc:∀ vs W',Le [] W W'->Inv W'->Reps W' ds vs->Gv A (call f (first++vs)) W' d):Gv A (callWith pos f first (backTo pos (starEach es env)) []) W d:=by
 intro s Q E o p
 refine callWith_core hn (items_at I hn he hl o λvs W1 s1 L1 I1 o1 r1=>?_)
 refine xEA (hk W1 L1 I1) λk hk' hkk=>?_
 exact ⟨k,hk',λQ E q=>hkk Q E s1 o1 q,hc vs W1 L1 I1 r1 s1 Q E o1 (p.later L1)⟩
theorem gv_Call {id:Str}{p0 pos:Pos}{es:List Expr}{fd:D}{ds:List D}(I:Inv W)(hf:GvA A (eval (.Name id p0) env) W fd)(hn:noStar es=true)
  (he:∀ (k:Nat) (e:Expr) (d:D),es[k]? = some e->ds[k]? = some d->GvA A (eval e env) W d) (hl:es.length=ds.length)
  (hk:∀ W' fv,Le [] W W'->Inv W'->Rep W' fd fv->Keep A W' fv)
  (hc:∀ fv vs W',Le [] W W'->Inv W'->Rep W' fd fv->Reps W' ds vs->Gv A (call fv vs) W' d):Gv A (eval (.Call (.Name id p0) es [] pos) env) W d:=by
 intro s Q E o p
 refine wpAny_Call_Name_kw (hf W (Le.refl W) I s _ _ o λfv W1 s1 L1 I1 o1 r1=>?_)
 refine callWith_at (first:=[]) (f:=fv) I1 hn (λk e d h1 h2=>(he k e d h1 h2).later L1) hl (hk W1 fv L1 I1 r1) (λvs W' L I' r=>?_) s1 Q E o1 (p.later L1)
 exact hc fv vs W' (L1.trans L) I' (r1.later I1 L) r
theorem gv_Meth {oe:Expr}{name:Str}{apos pos:Pos}{es:List Expr}{od:D}{ds:List D}(I:Inv W)(hbase:attributeBase oe name env (eval oe env)=eval oe env)(hline:(apos.endLine == pos.line)=true)
  (ho:GvTA A (eval oe env) W od) (hn:noStar es=true) (hlen:es.length < 20)
  (he:∀ (k:Nat) (e:Expr) (d:D),es[k]? = some e->ds[k]? = some d->GvA A (eval e env) W d) (hl:es.length=ds.length)
  (hm:∀ ov W1,Le [] W W1->Inv W1->RepT W1 od ov->∃ f first,(∀ pl s (Q:Value×List Value->Shared->Prop) E,Ok W1 s->Q (f,first) s->wpAny Mo A (getMethod ov name pl) Q E s)/\Keep A W1 f /\
   ∀ vs W2,Le [] W1 W2->Inv W2->Reps W2 ds vs->Gv A (call f (first++vs)) W2 d):Gv A (eval (.Call (.Attribute oe name apos) es [] pos) env) W d:=by
 intro s Q E o p
 rw [arm_eval_Call,hbase]
 refine wpAny_bind (ho W (Le.refl W) I s _ _ o λov W1 s1 L1 I1 o1 r1=>wpAny_bind (wpAny_standAt ?_))
 refine xEEAA (hm ov W1 L1 I1 r1) λf first hg hk hc=>?_
 have hform:methodCallForm (es.length+([]:List Keyword).length) (backTo pos (starEach es env)) (backToKw pos (keywordEach [] env))=true:=by
  unfold methodCallForm
  have h1:(backTo pos (starEach es env)).all (!·.1)=true:=by
   have:=any_false (env:=env) (pos:=pos) hn
   simpa using this
  have h2:decide (es.length+([]:List Keyword).length+(if (backToKw pos (keywordEach [] env)).isEmpty then 0 else 1) < 30)=true:=by
   rw [decide_eq_true_eq]
   have:(backToKw pos (keywordEach [] env)).isEmpty=true:=rfl
   rw [if_pos this]
   simp;exact Nat.lt_trans hlen (by decide)
  rw [h1,h2];rfl
 have hpos:methodCallPos true oe env apos pos=pure pos:=by unfold methodCallPos;simp [hline]
 unfold methodCall
 rw [hform]
 refine wpAny_bind (wpAny_holding (hg _ _ _ _ o1 ?_))
 refine wpAny_bind (wpAny_of_eq hpos ?_)
 exact callWith_at I1 hn (λk e d h1 h2=>(he k e d h1 h2).later L1) hl hk hc s1 Q E o1 (p.later L1)
end
end
section
open PySem.Builtin PySem.Builtin.Str PySem.StrLaws
theorem S_toList (x:Tx):(S x).cps.toList=x:=by simp [S]
theorem take1 (x:Tx)(c i:Nat):((x.drop i).take 1 == [c])=hitT c x i:=by
 unfold hitT
 have e:(x.drop i).take 1=(match x[i]? with | some a=>[a] | none=>[]):=by
  rw [show (x.drop i).take 1=((x.drop i)[0]?).toList by cases x.drop i<;>rfl,List.getElem?_drop]
  simp only [Nat.add_zero]
  cases x[i]?<;>rfl
 rw [e]
 cases x[i]? with
 | none=>rfl
 | some a =>
  rw [Bool.eq_iff_iff,beq_iff_eq,Nat.beq_eq]
  constructor
  ·intro h;injection h
  ·intro h;rw [h]
theorem subAt_one (x:Tx)(c i:Nat):subAt (S x) (S [c]) i=hitT c x i:=by
 rw [subAt_eq,S_toList,S_toList,← take1];rfl
theorem hit_lt {x:Tx}{c i:Nat}(h:hitT c x i=true):i < x.length:=by
 unfold hitT at h
 split at h
 ·rename_i e
  rcases Nat.lt_or_ge i x.length with q | q
  ·exact q
  ·rw [List.getElem?_eq_none q] at e;exact ns e
 ·exact nf h
theorem occ_run (x:Tx)(c lim:Nat):∀ (k a:Nat) (found:Array Nat) (free:Nat),found.size<=a->free<=a->a+k<=lim ->
  (forIn (List.range' a k) (found,free) (occBody (S x) (S [c]) x.length lim)).run.fst.toList=found.toList++(List.range' a k).filter (hitT c x)
 | 0,a,found,free,_,_,_=>by simp
 | k+1,a,found,free,h1,h2,h3=>by
  rw [List.range'_succ,List.forIn_cons]
  unfold occBody
  have hl:(S [c]).length=1:=rfl
  by_cases hh:hitT c x a=true
  ·have hlt:=hit_lt hh
   rw [if_pos ⟨⟨⟨by show found.size < lim;exact Nat.lt_of_le_of_lt h1 (Nat.lt_of_lt_of_le (Nat.lt_add_of_pos_right (Nat.succ_pos k)) h3),h2⟩,by rw [hl];exact hlt⟩,by rw [subAt_one];exact hh⟩]
   show (forIn (List.range' (a+1) k) (found.push a,a+(S [c]).length) (occBody (S x) (S [c]) x.length lim)).run.fst.toList=_
   rw [occ_run x c lim k (a+1) (found.push a) (a+(S [c]).length) (by rw [Array.size_push];exact Nat.succ_le_succ h1) (by rw [hl];exact Nat.le_refl _) (by (rw [Nat.add_assoc,Nat.add_comm 1];exact h3)),List.filter_cons,if_pos hh,Array.toList_push,List.append_assoc]
   rfl
  ·rw [if_neg (λz=>hh (by rw [<-subAt_one];exact z.2))]
   show (forIn (List.range' (a+1) k) (found,free) (occBody (S x) (S [c]) x.length lim)).run.fst.toList=_
   rw [occ_run x c lim k (a+1) found free (Nat.le_succ_of_le h1) (Nat.le_succ_of_le h2) (by (rw [Nat.add_assoc,Nat.add_comm 1];exact h3)),List.filter_cons,if_neg hh]
theorem occ_pos (x:Tx)(c:Nat):occurrences (S x) (S [c]) 0 (S x).length ((S x).length+1)=posT c x:=by
 rw [occ_eq,S_len,Nat.sub_zero,occ_run x c _ _ 0 #[] 0 (Nat.le_refl _) (Nat.le_refl _) (Nat.le_of_eq (Nat.zero_add _))]
 rfl
theorem last_run' (x:Tx)(c:Nat):∀ (l:List Nat) (st:Option Nat),(forIn l st (lastBody (S x) (S [c]) x.length)).run=lastT (l.filter (hitT c x)) st
 | [],st=>rfl
 | a::l,st=>by
  rw [List.forIn_cons]
  unfold lastBody
  have hl:(S [c]).length=1:=rfl
  by_cases hh:hitT c x a=true
  ·have hlt:=hit_lt hh
   rw [if_pos ⟨by rw [hl];exact hlt,by rw [subAt_one];exact hh⟩,List.filter_cons,if_pos hh]
   exact last_run' x c l (some a)
  ·rw [if_neg (λz=>hh (by rw [<-subAt_one];exact z.2)),List.filter_cons,if_neg hh]
   exact last_run' x c l st
theorem rfind_eq (x:Tx)(c:Nat):Txt.rfind (S x) (S [c])=rfindT c x:=by
 unfold Txt.rfind rfindT
 rw [S_len,last_eq,Nat.sub_zero,last_run']
 rfl
theorem count_eq (x:Tx)(c:Nat):Txt.count (S x) (S [c])=(countT c x:Int):=by
 unfold Txt.count countT
 rw [occ_pos]
theorem strSub_S (x:Tx)(i j:Nat):strSub (S x) i j=S ((x.drop i).take (j - i)):=by
 apply mk_of_toList
 rw [strSub_toList,S_toList]
theorem partsFrom_S (x:Tx):∀ (cuts:List Nat) (a:Nat),partsFrom (S x) 1 a cuts=(partsT x a cuts).map S
 | [],a=>by
  show [strSub (S x) a (S x).length]=[S _]
  rw [strSub_S,S_len]
 | i::r,a=>by
  show strSub (S x) a i::partsFrom (S x) 1 (i+1) r=S _::_
  rw [strSub_S,partsFrom_S x r (i+1)]
theorem split_eq (x:Tx)(c:Nat)(hc:c < 256):Txt.split (S x) (S [c])=(splitT c x).map S:=by
 have whole:posT c x=[]->splitT c x=[x]:=λh=>by
  unfold splitT
  rw [h]
  unfold partsT
  simp
 have one:posT c x=[]->[S x]=(splitT c x).map S:=λh=>by rw [whole h];rfl
 unfold Txt.split
 split
 ·rename_i h
  refine one ?_
  rw [Bool.or_eq_true,decide_eq_true_eq,decide_eq_true_eq] at h
  rcases h with h | h
  ·rw [S_len] at h
   have:x.length=0:=by
    have:(S [c]).length=1:=rfl
    omega
   have:x=[]:=List.length_eq_zero_iff.mp this
   subst this
   rfl
  ·exfalso
   have h1:Str.strKind (S [c])=1:=by
    unfold Str.strKind
    rw [if_pos (by simp [S,hc])]
   rw [h1] at h
   unfold Str.strKind at h
   split at h
   ·omega
   ·split at h<;>omega
 ·rw [occ_pos]
  split
  ·rename_i h
   exact one (List.isEmpty_iff.mp h)
  ·rw [partsBetween_eq]
   exact partsFrom_S x (posT c x) 0
theorem join_eq (x:Tx):∀ ts:List Tx,Str.join (S x) (ts.map S)=S (joinT x ts)
 | []=>rfl
 | [a]=>rfl
 | a::b::r=>by
  show S a++S x++Str.join (S x) ((b::r).map S)=S (a++x++joinT x (b::r))
  rw [join_eq x (b::r),S_append,S_append]
theorem prefT_iff:∀ (y x:Tx),prefT y x=true↔∃ z,x=y++z
 | [],x=>⟨λ_=>⟨x,rfl⟩,λ_=>rfl⟩
 | _::_,[]=>by
  constructor
  ·intro h;exact nf h
  ·rintro ⟨z,h⟩;simp at h
 | a::r,b::q=>by
  unfold prefT
  rw [Bool.and_eq_true,Nat.beq_eq,prefT_iff r q]
  constructor
  ·rintro ⟨rfl,z,rfl⟩;exact ⟨z,rfl⟩
  ·rintro ⟨z,h⟩
   injection h with h1 h2
   exact ⟨h1.symm,z,h2⟩
theorem startswith_eq (x y:Tx):Txt.startswith (S x) (S y)=prefT y x:=by
 unfold Txt.startswith
 rw [Bool.eq_iff_iff,prefT_iff,Bool.and_eq_true,decide_eq_true_eq,subAt_eq,S_toList,S_toList,S_len,S_len,beq_iff_eq]
 simp only [List.drop_zero,Nat.zero_add]
 constructor
 ·rintro ⟨h1,h2⟩
  refine ⟨x.drop y.length,?_⟩
  have:=List.take_append_drop y.length x
  rw [h2] at this
  exact this.symm
 ·rintro ⟨z,rfl⟩
  simp
theorem endswith_eq (x y:Tx):Txt.endswith (S x) (S y)=prefT y.reverse x.reverse:=by
 unfold Txt.endswith
 rw [Bool.eq_iff_iff,prefT_iff,Bool.and_eq_true,decide_eq_true_eq,subAt_eq,S_toList,S_toList,S_len,S_len,beq_iff_eq]
 simp only [Nat.zero_add]
 constructor
 ·rintro ⟨h1,h2⟩
  refine ⟨(x.take (x.length - y.length)).reverse,?_⟩
  rw [<-List.reverse_append]
  congr 1
  have h3:x.drop (x.length - y.length)=y:=by
   have e:=List.take_of_length_le (l:=x.drop (x.length - y.length)) (i:=y.length) (by rw [List.length_drop];exact Nat.le_of_eq (Nat.sub_sub_self h1))
   exact e.symm.trans h2
  have:=List.take_append_drop (x.length - y.length) x
  rw [h3] at this
  exact this.symm
 ·rintro ⟨z,h⟩
  have hx:x=z.reverse++y:=by
   have:=congrArg List.reverse h
   rw [List.reverse_reverse,List.reverse_append,List.reverse_reverse] at this
   exact this
  subst hx
  simp
end
section
open PySem.Builtin PySem.Builtin.Str PySem.StrLaws
section
variable {A:Around}{W W' W0 W1 W2:Wd}{P B X:List Addr}{d:D}{s:Shared}{E:Value->Shared->Prop}{env:Env}
theorem partsT_len (x:Tx):∀ (cuts:List Nat) (a:Nat),∀ t∈partsT x a cuts,t.length<=x.length
 | [],a,t,h=>by
  unfold partsT at h
  rw [List.mem_singleton] at h
  subst h
  rw [List.length_take,List.length_drop];exact Nat.le_trans (Nat.min_le_left _ _) (Nat.sub_le _ _)
 | i::r,a,t,h=>by
  unfold partsT at h
  rcases List.mem_cons.mp h with h | h
  ·subst h
   rw [List.length_take,List.length_drop];exact Nat.le_trans (Nat.min_le_right _ _) (Nat.sub_le _ _)
  ·exact partsT_len x r _ t h
theorem reps_strs:∀ {ts:List Tx} {l:List (Str×Tok)},l.map (·.1)=ts.map S->(∀ t∈ts,t.length<=lim)->Reps W (ts.map .str) (strValues l)
 | [],[],_,_=>by simp [Reps,strValues]
 | [],_::_,h,_=>by simp at h
 | _::_,[],h,_=>by simp at h
 | t::ts,(y,k)::l,h,hz=>by
  rw [List.map_cons,List.map_cons] at h
  injection h with h1 h2
  subst h1
  exact ⟨_,strValues l,rfl,⟨hz t (.head _),k,rfl⟩,reps_strs h2 λt ht=>hz t (.tail _ ht)⟩
theorem strs_reps:∀ {xs:List D} {vs:List Value} {ts:List Tx},strsD xs=some ts->Reps W xs vs->∃ l:List (Str×Tok),vs=strValues l/\l.map (·.1)=ts.map S:=by
 intro qq
 induction qq with
 | nil =>
  intro _ _ h r
  obtain rfl:=sq h
  exact ⟨[],r,rfl⟩
 | cons d xs ih =>
  intro _ ts h r
  refine xEA (bd_inv h) λhh0 _ h=>?_
  obtain ⟨y,rfl⟩:=hh0
  refine xEA (Option.map_eq_some_iff.mp h) λts' hq ee2=>?_
  subst ee2
  obtain ⟨v,vs,rfl,⟨_,t,rfl⟩,r2⟩:=r
  refine xEA (ih hq r2) λl ee1 hl=>?_
  subst ee1
  exact ⟨(S y,t)::l,rfl,by rw [List.map_cons,List.map_cons,hl]⟩
theorem split_at (I:Inv W){x:Tx}{c:Nat}{t u:Tok}(hx:x.length<=lim)(hc:c < 256)(hz:(splitT c x).length<=lim):Gv A (call (.builtin "str.split") [.str (S x) t,.str (S [c]) u]) W (.list ((splitT c x).map .str)):=by
 intro s Q E o p
 have hy:((S [c]).length == 0)=false:=rfl
 have fin:∀ (l:List (Str×Tok)) (n:Nat),l.map (·.1)=Txt.split (S x) (S [c])->Q (.ref s.heap.objs.size) { s with toks:=n,heap:=s.heap.push { cls:=.type "list",data:=.seq (strValues l).toArray } }:=λl n hl=>by
  rw [split_eq x c hc] at hl
  have hr:Reps W ((splitT c x).map .str) (strValues l):=reps_strs hl λt ht=>Nat.le_trans (partsT_len x _ _ t ht) hx
  exact p.new I o _ n (rep_newList I hr (by rw [hr.length,List.length_map];exact hz))
 have hsz:(S x).length<=sizeLine:=by rw [S_len];exact lim_ok hx
 cases h1:(decide ((S x).length < (S [c]).length)||decide (Str.strKind (S x) < Str.strKind (S [c])))
 ·cases hf:(occurrences (S x) (S [c]) 0 (S x).length ((S x).length+1)).isEmpty
  ·have hsp:Txt.split (S x) (S [c])=partsBetween (S x) (occurrences (S x) (S [c]) 0 (S x).length ((S x).length+1)) (S [c]).length:=(if_neg (by rw [h1];exact Bool.false_ne_true)).trans (if_neg (by rw [hf];exact Bool.false_ne_true))
   have hn:(partsBetween (S x) (occurrences (S x) (S [c]) 0 (S x).length ((S x).length+1)) (S [c]).length).length<=sizeLine:=by
    rw [<-hsp,split_eq x c hc,List.length_map];exact lim_ok hz
   refine call_meets PySem.F.slot_str_split (typeIs_str _ _ _) PySem.F.entry_str_split (PySem.F.args_str_split_2 _ _) (meets_str_split_sep (S x) (S [c]) t u h1 hy hf hsz hn) ?_
   show wants Q E _ { s with toks:=_,heap:=s.heap.push { cls:=.type "list",data:=.seq (strsFrom s.toks (partsBetween (S x) (occurrences (S x) (S [c]) 0 (S x).length ((S x).length+1)) (S [c]).length)).toArray } }
   rw [strsFrom_eq]
   exact fin (numbered s.toks _) _ ((numbered_texts _ _).trans hsp.symm)
  ·exact call_meets PySem.F.slot_str_split (typeIs_str _ _ _) PySem.F.entry_str_split (PySem.F.args_str_split_2 _ _) (meets_str_split_not_found (S x) (S [c]) t u h1 hy hf)
    (fin [(S x,t)] s.toks ((if_neg (by rw [h1];exact Bool.false_ne_true)).trans (if_pos hf)).symm)
 ·exact call_meets PySem.F.slot_str_split (typeIs_str _ _ _) PySem.F.entry_str_split (PySem.F.args_str_split_2 _ _) (meets_str_split_cannot_occur (S x) (S [c]) t u h1)
   (fin [(S x,t)] s.toks (if_pos h1).symm)
noncomputable def MethAt (A:Around)(W:Wd)(ov:Value)(name:Str)(ds:List D)(d:D):Prop :=
 ∃ f first,(∀ pl s (Q:Value×List Value->Shared->Prop) E,Ok W s->Q (f,first) s->wpAny Mo A (getMethod ov name pl) Q E s)/\Keep A W f /\
  ∀ vs W2,Le [] W W2->Inv W2->Reps W2 ds vs->Gv A (call f (first++vs)) W2 d
theorem m_is {m:Str}{y:Tx}{z:Str}(h:eqT (tx m) y=true)(e:S y=z):m=z:=by
 rw [<-e,← eqT_iff.mp h,S_tx]
theorem arg_str {y:Tx}{vs:List Value}(r:Reps W [.str y] vs):∃ u,vs=[.str (S y) u]:=by
 obtain ⟨v,r,rfl,⟨_,u,rfl⟩,rfl⟩:=r
 exact ⟨u,rfl⟩
theorem meth_S {x y:Tx}{t:Tok}{m:Str}(hx:x.length<=lim)(h:methS x (tx m) y=some d):MethAt A W (.str (S x) t) m [.str y] d:=by
 rcases ite_or h with ⟨e,h⟩ | ⟨_,h⟩
 ·obtain rfl:=sq h
  rw [m_is (z := "startswith") e rfl]
  refine ⟨_,_,λpl s Q E o q=>GM.startswith q,Keep.builtin _,λvs W2 L2 I2 r s Q E o p=>?_⟩
  obtain ⟨u,rfl⟩:=arg_str r
  refine SC.startswith ?_
  rw [startswith_eq]
  exact p.at I2 o rfl
 ·rcases ite_or h with ⟨e,h⟩ | ⟨_,h⟩
  ·obtain rfl:=sq h
   rw [m_is (z := "endswith") e rfl]
   refine ⟨_,_,λpl s Q E o q=>GM.endswith q,Keep.builtin _,λvs W2 L2 I2 r s Q E o p=>?_⟩
   obtain ⟨u,rfl⟩:=arg_str r
   refine SC.endswith ?_
   rw [endswith_eq]
   exact p.at I2 o rfl
  ·rcases y with _ | ⟨c,_ | ⟨c2,y⟩⟩
   ·exact ns h
   ·rcases ite_or h with ⟨e,h⟩ | ⟨_,h⟩
    ·obtain ⟨hz,h⟩:=ite_val h
     obtain rfl:=sq h
     rw [Bool.and_eq_true] at hz
     rw [m_is (z := "split") e rfl]
     refine ⟨_,_,λpl s Q E o q=>GM.split q,Keep.builtin _,λvs W2 L2 I2 r=>?_⟩
     obtain ⟨u,rfl⟩:=arg_str r
     exact split_at I2 hx (by simpa [Nat.blt_eq] using hz.1) (Nat.le_of_ble_eq_true hz.2)
    ·rcases ite_or h with ⟨e,h⟩ | ⟨_,h⟩
     ·obtain rfl:=sq h
      rw [m_is (z := "count") e rfl]
      refine ⟨_,_,λpl s Q E o q=>GM.count q,Keep.builtin _,λvs W2 L2 I2 r s Q E o p=>?_⟩
      obtain ⟨u,rfl⟩:=arg_str r
      refine SC.count ?_
      rw [count_eq]
      exact p.at I2 (o.tok _) ⟨_,rfl⟩
     ·obtain ⟨e,h⟩:=ite_val h
      obtain rfl:=sq h
      rw [m_is (z := "rfind") e rfl]
      refine ⟨_,_,λpl s Q E o q=>GM.rfind q,Keep.builtin _,λvs W2 L2 I2 r s Q E o p=>?_⟩
      obtain ⟨u,rfl⟩:=arg_str r
      refine SC.rfind ?_
      rw [rfind_eq]
      exact p.at I2 (o.tok _) ⟨_,rfl⟩
   ·exact ns h
theorem meth_J {x:Tx}{t:Tok}{m:Str}{ys:List D}(h:methJ x (tx m) ys=some d):MethAt A W (.str (S x) t) m [.list ys] d:=by
 obtain ⟨e,h⟩:=ite_val h
 cases hts:strsD ys with
 | none=>rw [hts] at h;exact ns h
 | some ts =>
  rw [hts] at h
  obtain ⟨hz,h⟩:=ite_val h
  obtain rfl:=sq h
  simp only [Bool.and_eq_true] at hz
  obtain ⟨⟨⟨h1,h2⟩,h3⟩,h4⟩:=hz
  rw [m_is (z := "join") e rfl]
  refine ⟨_,_,λpl s Q E o q=>GM.join q,Keep.builtin _,λvs W2 L2 I2 r s Q E o p=>?_⟩
  obtain ⟨v,r,rfl,⟨a,items,rfl,ha,hl,hsz,hr⟩,rfl⟩:=r
  refine xEA (strs_reps hts hr) λl hl1 hl2=>?_
  have hl':s.heap.IsList a (strValues l).toArray:=by
   rw [o.1,← hl1]
   simpa using hl
  refine SC.join hl' hl2 ?_ λt' k=>?_
  ·unfold JoinOk
   rw [joinFits (B:=1000)]
   ·rfl
   ·intro y hy
    rw [List.mem_map] at hy
    refine xEA hy λz hz ee2=>?_
    try clear hy
    subst ee2
    rw [S_len]
    exact Nat.le_of_ble_eq_true (List.all_eq_true.mp h4 z hz)
   ·have h2':=Nat.le_of_ble_eq_true h2
    have h3':=Nat.le_of_ble_eq_true h3
    rw [List.length_map,S_len]
    have:ts.length * x.length<=1000 * 1:=Nat.mul_le_mul h2' h3'
    lia
  ·unfold Txt.join
   rw [glued_eq_join,join_eq]
   exact p.at I2 (o.tok _) ⟨Nat.le_of_ble_eq_true h1,_,rfl⟩
theorem arg1_ok {f:D->Option D}{as:List D}(h:arg1 f as=some d):∃ a,as=[a]/\f a=some d:=by
 rcases as with _ | ⟨a,_ | ⟨b,r⟩⟩
 ·exact ns h
 ·exact ⟨a,rfl,h⟩
 ·exact ns h
theorem arg2_ok {f:D->D->Option D}{as:List D}(h:arg2 f as=some d):∃ a b,as=[a,b]/\f a b=some d:=by
 rcases as with _ | ⟨a,_ | ⟨b,_ | ⟨c,r⟩⟩⟩
 ·exact ns h
 ·exact ns h
 ·exact ⟨a,b,rfl,h⟩
 ·exact ns h
theorem args2_ok {as:List D}{f:D}{k:Tx}(h:args2 as=some (f,k)):as=[f,.str k]:=by
 rcases as with _ | ⟨a,_ | ⟨b,_ | ⟨c,r⟩⟩⟩
 ·exact ns h
 ·exact ns h
 ·cases b with
  | str k=>cases h;rfl
  | _=>exact ns h
 ·exact ns h
theorem meth_str {x:Tx}{t:Tok}{m:Str}{ds:List D}(hx:x.length<=lim)(h:methD (.str x) (tx m) ds=some d):MethAt A W (.str (S x) t) m ds d:=by
 refine xEA (arg1_ok h) λa ee1 h=>?_
 subst ee1
 cases a with
 | str y=>exact meth_S hx h
 | list ys=>exact meth_J h
 | _=>exact ns h
end
end
section
open PySem.Builtin PySem.Builtin.Str PySem.StrLaws
structure Ops (A:Around)(cal:D->List D->Option D)(G:Tx->Option D):Prop where
 b:Bs
 h:A.handled=none
 u:A.units+2 < cLine
 glo:∀ x d,G x=some d->∀ (env:Env) W s (Q:Value->Shared->Prop) E,env.globals=3->env.builtins=0->Inv W->Ok W s->(∀ v,Rep W d v->Q v s)->wpAny Mo A (loadGlobal env (S x)) Q E s
 keep:∀ f as d,appD cal f as=some d->∀ W fv,Inv W->Rep W f fv->Keep A W fv
 app:∀ f as d,appD cal f as=some d->∀ W fv vs,Inv W->Rep W f fv->Reps W as vs->Gv A (call fv vs) W d
 rd:∀ od m as d,isRd od=true->methD od m as=some d->∀ W ov,Inv W->Rep W od ov->MethAt A W ov (S m) as d
 len:∀ x d,biD 0 [x]=some d->∀ W v,Inv W->RepT W x v->Gv A (call (.builtin "len") [v]) W d
 lam:∀ k nm ps bd sc pos xs e,cv k nm (.Lambda ps bd sc pos)=.lam xs e->∀ (env:Env) B W ρ,Fm B nm env W ρ->Inv W->Gv A (eval (.Lambda ps bd sc pos) env) W (.lam xs e)
 tmap:∀ f xs ds,flat (λi=>(cal f [i]).map λr=>[r]) xs=some ds->∀ (nm:List (Str×NameKind)) (env:Env) B W ρ i1 p1 i2 p2 (he xe:Expr) pos1 pos2,Fm B nm env W ρ->Inv W->isNm nm tTuple (.Name i1 p1)=true->isNm nm tMap (.Name i2 p2)=true->noStar [he,xe]=true ->
  GvA A (eval he env) W f->GvA A (eval xe env) W (.list xs)->Gv A (eval (.Call (.Name i1 p1) [.Call (.Name i2 p2) [he,xe] [] pos1] [] pos2) env) W (.tup ds)
 ksort:∀ f xs ds,sortD (λa b=>cal f [a,b]) xs=some ds->∀ (nm:List (Str×NameKind)) (env:Env) B W ρ i1 p1 i2 p2 (he xe:Expr) kn kp pos1 pos2,Fm B nm env W ρ->Inv W->isNm nm tSorted (.Name i1 p1)=true->isNm nm tCmp (.Name i2 p2)=true->eqT (tx kn) tKey=true->noStar [xe,he]=true ->
  GvA A (eval xe env) W (.list xs)->GvA A (eval he env) W f->Gv A (eval (.Call (.Name i1 p1) [xe] [⟨some kn,.Call (.Name i2 p2) [he] [] pos1,kp⟩] pos2) env) W (.list ds)
noncomputable def SetOk (A:Around)(cal:D->List D->Option D)(G:Tx->Option D)(n:Nat):Prop :=
 ∀ k nm env B W ρ el gs sc pos d,ev cal G (n+1) ρ (cv (k+1) nm (.SetComp el gs sc pos))=some d->Fm B nm env W ρ->Inv W->Gv A (eval (.SetComp el gs sc pos) env) W d
section
variable {A:Around}{W W' W0 W1 W2:Wd}{P B X:List Addr}{d:D}{s:Shared}{E:Value->Shared->Prop}{env:Env}
variable {cal:D->List D->Option D}{G:Tx->Option D}{nm:List (Str×NameKind)}{ρ:Rho}
noncomputable def EvtOk (A:Around)(cal:D->List D->Option D)(G:Tx->Option D)(n:Nat):Prop:=∀ k nm env B W ρ e d,evt cal G n ρ (cv k nm e)=some d->Fm B nm env W ρ->Inv W->GvT A (eval e env) W d
theorem EvtOk.go {n k}{e:Expr}(h:EvtOk A cal G n)(hd:evt cal G n ρ (cv k nm e)=some d)(F:Fm B nm env W ρ)(I:Inv W):GvTA A (eval e env) W d :=
 λ_ L I'=>h k nm env B _ ρ e d hd (F.later I L) I'
theorem name_dbg {id:Str}(h:eqT (tx id) tDebug=false):(id == ("__debug__" : Str))=false:=by
 rw [tx_beq]
 exact h
theorem name_local {id:Str}{p:Pos}{ev:EV}(F:Fm B nm env W ρ)(o:Ok W s)(hdb:eqT (tx id) tDebug=false)(hcd:eqT (tx id) tClassDict=false)(hl:isLoc (lkp nm (tx id))=true)(hg:getR ρ (tx id)=some ev){Q:Value->Shared->Prop}(q:∀ v,EVR B W ev v->Q v s):wpAny Mo A (eval (.Name id p) env) Q E s:=by
 refine wpAny_Name ?_ (name_dbg hdb)
 have:=F.load (A:=A) (E:=E) o hl hg hcd q
 rw [S_tx] at this
 exact this
theorem name_global {id:Str}{p:Pos}(F:Fm B nm env W ρ)(o:Ops A cal G)(I:Inv W)(hdb:eqT (tx id) tDebug=false)(hl:isGlo (lkp nm (tx id))=true)(hg:G (tx id)=some d):Gv A (eval (.Name id p) env) W d:=by
 intro s Q E ok po
 refine wpAny_Name ?_ (name_dbg hdb)
 have key:=o.glo (tx id) d hg env W s Q E F.gl F.bi I ok λv r=>po.at I ok r
 rw [S_tx] at key
 have hk:=F.kg (tx id) (isGlo_iff hl)
 rw [S_tx] at hk
 unfold loadName
 simp only [Env.blockKind,F.kind,hk,ScopeKind.isAnnotationScope,Bool.false_and,Bool.false_eq_true,if_false]
 exact key
theorem evl_get {f:ME->Option D}{cvf:Expr->ME}:∀ {es:List Expr} {ds:List D},evl f (es.map cvf)=some ds->es.length=ds.length/\∀ (k:Nat) (e:Expr) (d:D),es[k]? = some e->ds[k]? = some d->f (cvf e)=some d:=by
 intro qq
 induction qq with
 | nil =>
  intro ds h
  obtain rfl:=sq h
  exact ⟨rfl,λk e d h1 h2=>by simp at h1⟩
 | cons e r ih =>
  intro ds h
  rw [List.map_cons] at h
  unfold evl at h
  refine xEA (optD h) λd hd h=>?_
  refine xEA (opt_val h) λds' hr h=>?_
  obtain rfl:=sq h
  obtain ⟨h1,h2⟩:=ih hr
  refine ⟨by rw [List.length_cons,List.length_cons,h1],λk e' d' e1 e2=>?_⟩
  cases k with
  | zero=>simp at e1 e2;subst e1 e2;exact hd
  | succ k=>exact h2 k e' d' (by simpa using e1) (by simpa using e2)
theorem allTrue_and {f:ME->Option Bool}{cvf:Expr->ME}:∀ {vs:List Expr} {W:Wd} {s:Shared} {b:Bool} {Q:Bool->Shared->Prop},Inv W->Ok W s->(∀ e b,f (cvf e)=some b->TvA A (PySem.isTrue e env (eval e env)) W b)->tvl f (vs.map cvf)=some b ->
  (∀ W' s',Le [] W W'->Inv W'->Ok W' s'->Q b s')->wpAny Mo A (allTrue .And vs env) Q E s:=by
 intro qq
 induction qq with
 | nil =>
  intro W s b Q I o h e q
  obtain rfl:=sq e
  exact wpAny_allTrue_And_nil (q W s (Le.refl W) I o)
 | cons c r ih =>
  intro W s b Q I o h e q
  rw [List.map_cons] at e
  unfold tvl at e
  split at e
  ·rename_i hg
   refine wpAny_allTrue_And_cons (h c _ hg W (Le.refl W) I s _ _ o λW1 s1 L1 I1 o1=>?_)
   rw [if_pos rfl]
   exact ih I1 o1 (λe b hb=>(h e b hb).later L1) e λW2 s2 L2=>q W2 s2 (L1.trans L2)
  ·rename_i hg
   obtain rfl:=sq e
   refine wpAny_allTrue_And_cons (h c _ hg W (Le.refl W) I s _ _ o λW1 s1 L1 I1 o1=>?_)
   rw [if_neg Bool.false_ne_true]
   exact q W1 s1 L1 I1 o1
  ·exact ns e
theorem allTrue_or {f:ME->Option Bool}{cvf:Expr->ME}:∀ {vs:List Expr} {W:Wd} {s:Shared} {b:Bool} {Q:Bool->Shared->Prop},Inv W->Ok W s->(∀ e b,f (cvf e)=some b->TvA A (PySem.isTrue e env (eval e env)) W b)->tvo f (vs.map cvf)=some b ->
  (∀ W' s',Le [] W W'->Inv W'->Ok W' s'->Q b s')->wpAny Mo A (allTrue .Or vs env) Q E s:=by
 intro qq
 induction qq with
 | nil =>
  intro W s b Q I o h e q
  obtain rfl:=sq e
  exact wpAny_allTrue_Or_nil (q W s (Le.refl W) I o)
 | cons c r ih =>
  intro W s b Q I o h e q
  rw [List.map_cons] at e
  unfold tvo at e
  split at e
  ·rename_i hg
   obtain rfl:=sq e
   refine wpAny_allTrue_Or_cons (h c _ hg W (Le.refl W) I s _ _ o λW1 s1 L1 I1 o1=>?_)
   rw [if_pos rfl]
   exact q W1 s1 L1 I1 o1
  ·rename_i hg
   refine wpAny_allTrue_Or_cons (h c _ hg W (Le.refl W) I s _ _ o λW1 s1 L1 I1 o1=>?_)
   rw [if_neg Bool.false_ne_true]
   exact ih I1 o1 (λe b hb=>(h e b hb).later L1) e λW2 s2 L2=>q W2 s2 (L1.trans L2)
  ·exact ns e
theorem cmp_cv {k:Nat}{l c:Expr}{op:CmpOp}{pos:Pos}(hc:∀ a b q,c≠.Set a b q):cv (k+1) nm (.Compare l [op] [c] pos)=(match cmpOf op with | some o=>.cmp o (cv k nm l) (cv k nm c) | none=>.bad):=by
 cases c<;>first | rfl | exact absurd rfl (hc _ _ _)
theorem compare_inv {k:Nat}{l:Expr}{ops:List CmpOp}{cs:List Expr}{pos:Pos}:cv (k+1) nm (.Compare l ops cs pos)=.bad\/∃ op c o,ops=[op]/\cs=[c]/\(∀ a b q,c≠.Set a b q)/\cmpOf op=some o/\cv (k+1) nm (.Compare l ops cs pos)=.cmp o (cv k nm l) (cv k nm c):=by
 rcases ops with _ | ⟨op,_ | ⟨op2,ops⟩⟩
 ·left;rfl
 ·rcases cs with _ | ⟨c,_ | ⟨c2,cs⟩⟩
  ·left;rfl
  ·by_cases hc:∃ a b q,c=.Set a b q
   ·obtain ⟨a,b,q,rfl⟩:=hc
    left;rfl
   ·have hc':∀ a b q,c≠.Set a b q:=λa b q e=>hc ⟨a,b,q,e⟩
    rw [cmp_cv hc']
    cases ho:cmpOf op with
    | none=>left;rfl
    | some o=>right;exact ⟨op,c,o,rfl,rfl,hc',ho,rfl⟩
  ·left;rfl
 ·left;rcases cs with _ | ⟨c,cs⟩<;>rfl
noncomputable def tagM:ME->Nat
 | .bad=>0
 | .loc _ | .glo _=>1
 | .none | .bool _ | .int _ | .str _=>2
 | .bin ..=>3
 | .cmp ..=>4
 | .and _ | .or _=>5
 | .not _ | .neg _=>6
 | .ite ..=>7
 | .idx .. | .sli ..=>8
 | .lst _=>9
 | .tup _=>10
 | .comp ..=>11
 | .scomp ..=>12
 | .lam ..=>13
 | .call .. | .meth .. | .tmap .. | .ksort ..=>14
noncomputable def tagX:Expr->Nat
 | .Name ..=>1
 | .Constant ..=>2
 | .BinOp ..=>3
 | .Compare ..=>4
 | .BoolOp ..=>5
 | .UnaryOp ..=>6
 | .IfExp ..=>7
 | .Subscript ..=>8
 | .List ..=>9
 | .Tuple ..=>10
 | .ListComp ..=>11
 | .SetComp ..=>12
 | .Lambda ..=>13
 | .Call ..=>14
 | _=>0
noncomputable def Tg (t:Nat)(m:ME):Prop:=tagM m=0\/tagM m=t
theorem Tg.bad {t:Nat}:Tg t .bad:=.inl rfl
theorem Tg.ite {t:Nat}{c:Bool}{a b:ME}(h1:Tg t a)(h2:Tg t b):Tg t (if c=true then a else b):=by
 cases c
 ·exact h2
 ·exact h1
theorem cvCall_tag {c:Expr->ME}{f:Expr}{as:List Expr}{ks:List Keyword}{pos:Pos}:Tg 14 (cvCall c nm f as ks pos):=by
 cases f with
 | Attribute o m p=>exact .ite (.inr rfl) .bad
 | Name i p =>
  refine .ite ?_ ?_
  ·show Tg 14 (match tmapArg as with
    | some t=>if isNm nm tTuple (.Name i p)&&isNm nm tMap t.g&&noStar [t.h,t.x] then .tmap (c t.h) (c t.x) else .bad
    | none=>if noStar as&&Nat.blt as.length 20 then .call (c (.Name i p)) (as.map c) else .bad)
   cases tmapArg as with
   | none=>exact .ite (.inr rfl) .bad
   | some q=>exact .ite (.inr rfl) .bad
  ·show Tg 14 (match keyArg ks with
    | some t=>(match oneArg as with
     | some x=>if isNm nm tSorted (.Name i p)&&eqT (tx t.k) tKey&&isNm nm tCmp t.g&&noStar [x,t.h] then .ksort (c x) (c t.h) else .bad
     | none=>.bad)
    | none=>.bad)
   cases keyArg ks with
   | none=>exact .bad
   | some q=>cases oneArg as with
    | none=>exact .bad
    | some x=>exact .ite (.inr rfl) .bad
 | _=>exact .bad
theorem cv_tag (k:Nat)(e:Expr):Tg (tagX e) (cv (k+1) nm e):=by
 cases e with
 | Name id p=>exact .ite .bad (.ite (.inr rfl) (.ite (.inr rfl) .bad))
 | Constant c t p=>cases c<;>first | exact .inr rfl | exact .bad
 | BinOp l op r p=>cases op<;>first | exact .inr rfl | exact .bad
 | Compare l ops cs p =>
  rcases compare_inv (nm:=nm) (k:=k) (l:=l) (ops:=ops) (cs:=cs) (pos:=p) with e | ⟨_,_,_,_,_,_,_,e⟩
  ·rw [e];exact .bad
  ·rw [e];exact .inr rfl
 | BoolOp op vs p=>cases op<;>exact .inr rfl
 | UnaryOp op a p=>cases op<;>first | exact .inr rfl | exact .bad
 | IfExp c a b p=>exact .inr rfl
 | Subscript v i p =>
  cases i with
  | Slice l u st q=>cases st<;>first | exact .inr rfl | exact .bad
  | _=>exact .inr rfl
 | List es p=>exact .ite (.inr rfl) .bad
 | Tuple es t p=>exact .ite (.inr rfl) .bad
 | ListComp el gs sc p =>
  refine .ite ?_ .bad
  cases cvG (cv k) nm sc.names gs with
  | none=>exact .bad
  | some l=>exact .inr rfl
 | SetComp el gs sc p =>
  refine .ite ?_ .bad
  cases cvG (cv k) nm sc.names gs with
  | none=>exact .bad
  | some l=>exact .inr rfl
 | Lambda ps bd sc p=>exact .ite (.inr rfl) .bad
 | Call f as ks p=>exact cvCall_tag
 | _=>exact .bad
theorem cv_kind {k:Nat}{e:Expr}{m:ME}(h:cv k nm e=m)(hm:tagM m≠0):tagX e=tagM m:=by
 cases k with
 | zero=>exact absurd (congrArg tagM h).symm hm
 | succ k =>
  rcases cv_tag (nm:=nm) k e with q | q
  ·rw [h] at q;exact absurd q hm
  ·rw [h] at q;exact q.symm
noncomputable def plainT (n:Nat):Bool:=Nat.blt n 5||Nat.blt 7 n
theorem tv_plain {n:Nat}{m:ME}(h:plainT (tagM m)=true)(ρ:Rho):tv cal G (n+1) ρ m=(match evt cal G n ρ m with | some d=>truthD d | none=>none):=by
 cases m<;>first | rfl | exact absurd h Bool.false_ne_true
theorem cv_plain {k:Nat}{e:Expr}(h:plainT (tagX e)=true):plainT (tagM (cv (k+1) nm e))=true:=by
 rcases cv_tag (nm:=nm) k e with q | q
 ·rw [q];rfl
 ·rw [q];exact h
theorem cv_loc {k:Nat}{e:Expr}{x:Tx}(h:cv k nm e=.loc x):∃ id p,e=.Name id p/\x=tx id/\eqT (tx id) tDebug=false/\eqT (tx id) tClassDict=false/\isLoc (lkp nm (tx id))=true:=by
 have hx:tagX e=1:=cv_kind h (Nat.ne_of_beq_eq_false rfl)
 cases k with
 | zero=>exact nx ME.ctorIdx h rfl
 | succ k =>
  cases e with
  | Name id p =>
   have h':(if (eqT (tx id) tDebug||eqT (tx id) tClassDict)=true then ME.bad else if isLoc (lkp nm (tx id))=true then .loc (tx id) else if isGlo (lkp nm (tx id))=true then .glo (tx id) else .bad)=.loc x:=h
   clear h k
   split at h'
   ·exact nx ME.ctorIdx h' rfl
   ·rename_i h1
    split at h'
    ·rename_i h2
     cases h'
     rw [Bool.or_eq_true,not_or] at h1
     exact ⟨id,p,rfl,rfl,by simpa using h1.1,by simpa using h1.2,h2⟩
    ·split at h'<;>exact nx ME.ctorIdx h' rfl
  | _=>exact absurd hx (Nat.ne_of_beq_eq_false rfl)
set_option tactic.hygienic true in
theorem evt_ok {n:Nat}(hE:EvOk A cal G n):EvtOk A cal G (n+1):=by
 intro k nm env B W ρ e d h F I s Q E o p
 rcases ob_inv h with ⟨⟨x,hx⟩,_,h'⟩ | ⟨_,h'⟩
 ·clear h
  refine xEEAAAA (cv_loc hx) λid p0 ee2 ee3 h1 h2 h3=>?_
  subst ee2
  subst ee3
  refine xEA (bd_inv h') λv hg h'=>?_
  cases v with
  | d d' =>
   obtain rfl:=sq h'
   exact name_local F o h1 h2 h3 hg λv r=>p v W s (Le.refl W) I o (.inl r)
  | «mut» xs =>
   obtain rfl:=sq h'
   refine name_local F o h1 h2 h3 hg λv r=>p v W s (Le.refl W) I o (.inr ?_)
   obtain ⟨q,items,rfl,_,_,hl,hz,hr⟩:=r
   exact ⟨xs,q,items,rfl,rfl,hl.isList,hz,hr⟩
  | itr _=>exact ns h'
 ·exact hE k nm env B W ρ e d h' F I s _ _ o λv W' s' L I' o' r=>p v W' s' L I' o' (.inl r)
theorem ev_bad (n:Nat)(ρ:Rho):ev cal G n ρ .bad=none:=by cases n<;>rfl
theorem evt_bad (n:Nat)(ρ:Rho):evt cal G n ρ .bad=none:=by
 cases n with
 | zero=>rfl
 | succ n=>exact ev_bad n ρ
theorem tv_bad (n:Nat)(ρ:Rho):tv cal G n ρ .bad=none:=by
 cases n with
 | zero=>rfl
 | succ n =>
  show (match evt cal G n ρ .bad with | some d=>truthD d | none=>none)=none
  rw [evt_bad]
theorem tv_else {n:Nat}{e:Expr}{k:Nat}{b:Bool}(hV:EvtOk A cal G n)(h:(match evt cal G n ρ (cv k nm e) with | some d=>truthD d | none=>none)=some b)(F:Fm B nm env W ρ)(I:Inv W)
  (he:∀ whole,PySem.isTrue e env whole=(do let v ← whole;standAt e.pos;holding [v] (truthy v))):Tv A (PySem.isTrue e env (eval e env)) W b:=by
 refine xEA (optD h) λd hd h=>?_
 exact tv_value I (hV.go hd F I) h (he _)
theorem marks_false {op:CmpOp}{c:Expr}(hc:∀ a b q,c≠.Set a b q):behindInMarks op c=false:=by
 cases c<;>first | rfl | exact absurd rfl (hc _ _ _)
noncomputable def TvAt (A:Around)(cal:D->List D->Option D)(G:Tx->Option D)(n k:Nat)(e:Expr):Prop :=
 ∀ (nm:List (Str×NameKind)) (env:Env) (B:List Addr) (W:Wd) (ρ:Rho) (b:Bool),tv cal G (n+1) ρ (cv (k+1) nm e)=some b->Fm B nm env W ρ->Inv W->Tv A (PySem.isTrue e env (eval e env)) W b
theorem tv_no {n:Nat}{b:Bool}{P:Prop}(h:tv cal G n ρ .bad=some b):P:=by rw [tv_bad] at h;exact ns h
theorem TvAt.plain {n k:Nat}{e:Expr}(hV:EvtOk A cal G n)(hp:plainT (tagX e)=true)(he:∀ env whole,PySem.isTrue e env whole=(do let v ← whole;standAt e.pos;holding [v] (truthy v))):TvAt A cal G n k e:=λnm env B W ρ b h F I=>by
 rw [tv_plain (cv_plain hp)] at h
 exact tv_else (k:=k+1) hV h F I (he env)
section
variable {n k:Nat}
theorem tat_Compare (o:Ops A cal G)(hV:∀ m,m<=n->EvtOk A cal G m)(hE:∀ m,m<=n->EvOk A cal G m)(l:Expr)(ops:List CmpOp)(cs:List Expr)(pos:Pos):TvAt A cal G n k (.Compare l ops cs pos):=by
 intro nm env B W ρ b h F I
 rcases compare_inv (nm:=nm) (k:=k) (l:=l) (ops:=ops) (cs:=cs) (pos:=pos) with e | ⟨op,c,oo,rfl,rfl,hc,ho,e⟩
 ·rw [e,tv_bad] at h;exact ns h
 ·rw [e] at h
  have h':(match evt cal G n ρ (.cmp oo (cv k nm l) (cv k nm c)) with | some d=>truthD d | none=>none)=some b:=h
  cases n with
  | zero=>exact ns h'
  | succ n =>
   cases n with
   | zero=>exact ns h'
   | succ n =>
    have h2:(match (match evt cal G n ρ (cv k nm l) with
     | some x=>(match ev cal G n ρ (cv k nm c) with | some y=>(cmpD oo x y).map D.bool | none=>none)
     | none=>none) with | some d=>truthD d | none=>none)=some b:=h'
    cases hx:evt cal G n ρ (cv k nm l) with
    | none=>rw [hx] at h2;exact ns h2
    | some x =>
     cases hy:ev cal G n ρ (cv k nm c) with
     | none=>rw [hx,hy] at h2;exact ns h2
     | some y =>
      rw [hx,hy] at h2
      dsimp only at h2
      cases hb:cmpD oo x y with
      | none=>rw [hb] at h2;exact ns h2
      | some r =>
       rw [hb] at h2
       obtain rfl:=sq h2
       exact tv_Compare o.b o.u I ((hV n (Nat.le_add_right n 2)).go hx F I) ((hE n (Nat.le_add_right n 2)).go hy F I) ho (marks_false hc) hb
theorem tat_Unary (hT:TvOk A cal G n)(HV:EvtOk A cal G n)(op:UnaryOp)(x:Expr)(pos:Pos):TvAt A cal G n k (.UnaryOp op x pos):=by
 cases op with
 | Not =>
  intro nm env B W ρ b h F I
  refine xEA (opt_val (show (tv cal G n ρ (cv k nm x)).map (!·)=some b from h)) λr hx h'=>?_
  obtain rfl:=sq h'
  exact tv_Not I (hT.go hx F I)
 | _=>exact λnm env B W ρ b h F I=>tv_else (k:=k+1) HV h F I λ_=>rfl
theorem tat_BoolOp (hT:TvOk A cal G n)(op:BoolOp)(vs:List Expr)(pos:Pos):TvAt A cal G n k (.BoolOp op vs pos):=by
 intro nm env B W ρ b h F I
 cases op with
 | And=>exact λs Q E ok p=>wpAny_isTrue_BoolOp (allTrue_and I ok (λe b hb=>hT.go hb F I) (show tvl (tv cal G n ρ) (vs.map (cv k nm))=some b from h) p)
 | Or=>exact λs Q E ok p=>wpAny_isTrue_BoolOp (allTrue_or I ok (λe b hb=>hT.go hb F I) (show tvo (tv cal G n ρ) (vs.map (cv k nm))=some b from h) p)
theorem tv_at (o:Ops A cal G)(hT:TvOk A cal G n)(hV:∀ m,m<=n->EvtOk A cal G m)(hE:∀ m,m<=n->EvOk A cal G m)(e:Expr):TvAt A cal G n k e:=by
 have HV:=hV n (Nat.le_refl _)
 cases e with
 | Compare l ops cs pos=>exact tat_Compare o hV hE l ops cs pos
 | UnaryOp op x pos=>exact tat_Unary hT HV op x pos
 | BoolOp op vs pos=>exact tat_BoolOp hT op vs pos
 | IfExp c a b' pos=>exact λnm env B W ρ b h F I=>ns (show none=some b from h)
 | _=>exact .plain HV rfl λ_ _=>rfl
end
theorem tv_ok (o:Ops A cal G){n:Nat}(hT:TvOk A cal G n)(hV:∀ m,m<=n->EvtOk A cal G m)(hE:∀ m,m<=n->EvOk A cal G m):TvOk A cal G (n+1):=λk nm env B W ρ e b h F I =>
 match k,h with
 | 0,h=>tv_no h
 | _+1,h=>tv_at o hT hV hE e nm env B W ρ b h F I
end
end
section
open PySem.Builtin PySem.Builtin.Str PySem.StrLaws
section
variable {A:Around}{W W' W0 W1 W2:Wd}{P B X:List Addr}{d:D}{s:Shared}{E:Value->Shared->Prop}{env:Env}
variable {cal:D->List D->Option D}{G:Tx->Option D}{nm:List (Str×NameKind)}{ρ:Rho}
theorem evo_inv {f:ME->Option D}{cvf:Expr->ME}{l:Option Expr}{o:Option D}(h:evo f (l.map cvf)=some o):l.isSome=o.isSome/\∀ x d,l=some x->o=some d->f (cvf x)=some d:=by
 cases l with
 | none=>cases h;exact ⟨rfl,λ_ _ e=>nomatch e⟩
 | some e =>
  have h':(f (cvf e)).map some=some o:=h
  refine xEA (opt_val h') λd hf h'=>?_
  obtain rfl:=sq h'
  exact ⟨rfl,λx d' e1 e2=>by cases e1;cases e2;exact hf⟩
set_option tactic.hygienic true in
theorem ev_call {n k:Nat}(o:Ops A cal G)(hE:EvOk A cal G n)(hV:EvtOk A cal G n){id:Str}{p0 pos:Pos}{as:List Expr}(hn:noStar as=true)(hlen:as.length < 20)
  (h:ev cal G (n+1) ρ (.call (cv k nm (.Name id p0)) (as.map (cv k nm)))=some d) (F:Fm B nm env W ρ) (I:Inv W):Gv A (eval (.Call (.Name id p0) as [] pos) env) W d:=by
 have gen:∀ fv xs,ev cal G n ρ (cv k nm (.Name id p0))=some fv->evl (ev cal G n ρ) (as.map (cv k nm))=some xs->appD cal fv xs=some d->Gv A (eval (.Call (.Name id p0) as [] pos) env) W d:=λfv xs h1 h2 h3=>by
  obtain ⟨hl,hg⟩:=evl_get h2
  exact gv_Call I (hE.go h1 F I) hn (λj e d e1 e2=>hE.go (hg j e d e1 e2) F I) hl (λW' v _ I' r=>o.keep fv xs d h3 W' v I' r) (λv vs W' _ I' r rs=>o.app fv xs d h3 W' v vs I' r rs)
 rcases as with _ | ⟨a,_ | ⟨a2,as⟩⟩
 ·have h':(match ev cal G n ρ (cv k nm (.Name id p0)) with
   | some fv=>(match evl (ev cal G n ρ) [] with | some xs=>appD cal fv xs | none=>none)
   | none=>none)=some d:=h
  cases hf:ev cal G n ρ (cv k nm (.Name id p0)) with
  | none=>rw [hf] at h';exact ns h'
  | some fv=>rw [hf] at h';exact gen fv [] hf rfl h'
 ·have h':(match ev cal G n ρ (cv k nm (.Name id p0)) with
   | some fv=>if isLen fv then (match evt cal G n ρ (cv k nm a) with | some x=>biD 0 [x] | none=>none) else (match ev cal G n ρ (cv k nm a) with | some x=>appD cal fv [x] | none=>none)
   | none=>none)=some d:=h
  refine xEA (optD h') λfv hf h'=>?_
  rcases ite_or h' with ⟨hb,h'⟩ | ⟨_,h'⟩
  ·obtain rfl:=isLen_eq hb
   refine xEA (optD h') λx hx h'=>?_
   intro s Q E ok po
   have hk:Keep A W (.builtin "len"):=Keep.builtin _
   refine wpAny_Call_Name_kw ((hE.go hf F I) W (Le.refl W) I s _ _ ok λfv W1 s1 L1 I1 o1 r1=>?_)
   have r1':fv=.builtin "len" := r1
   subst r1'
   have hn1:=star1 hn [] env
   refine callWith_core (first:=[]) hn ?_
   refine wpAny_items_cons ((hV.go hx F I).later L1 W1 (Le.refl W1) I1 s1 _ _ o1 λv W2 s2 L2 I2 o2 r2=>wpAny_items_nil ?_) hn1
   exact ⟨.machine,.inr (.inl rfl),λQ E q=>wpAny_pure q,o.len x d h' W2 v I2 r2 s2 _ _ o2 λv W3 s3 L3 I3 o3 r3=>po v W3 s3 ((L1.trans L2).trans L3) I3 o3 r3⟩
  ·refine xEA (optD h') λx hx h'=>?_
   refine gen fv [x] hf ?_ h'
   show (match ev cal G n ρ (cv k nm a) with | some d=>(evl (ev cal G n ρ) []).map (d::·) | none=>none)=_
   rw [hx];rfl
 ·have h':(match ev cal G n ρ (cv k nm (.Name id p0)) with
   | some fv=>(match evl (ev cal G n ρ) ((a::a2::as).map (cv k nm)) with | some xs=>appD cal fv xs | none=>none)
   | none=>none)=some d:=h
  refine xEA (optD h') λfv hf h'=>?_
  cases hx:evl (ev cal G n ρ) ((a::a2::as).map (cv k nm)) with
  | none=>rw [hx] at h';exact ns h'
  | some xs=>rw [hx] at h';exact gen fv xs hf hx h'
theorem meth_ok (o:Ops A cal G){ov:D}{m:Str}{xs:List D}(h:methD ov (tx m) xs=some d){v:Value}(I:Inv W)(r:Rep W ov v):MethAt A W v m xs d:=by
 match ov,h,r with
 | .str x,h,r =>
  obtain ⟨hx,t,rfl⟩:=r
  exact meth_str hx h
 | .rd ds c,h,r =>
  have:=o.rd (.rd ds c) (tx m) xs d rfl h W v I r
  rw [S_tx] at this
  exact this
 | .rdW g ds,h,r =>
  have:=o.rd (.rdW g ds) (tx m) xs d rfl h W v I r
  rw [S_tx] at this
  exact this
 | .none,h,_ | .bool _,h,_ | .int _,h,_ | .list _,h,_ | .tup _,h,_ | .ty _,h,_ | .bi _,h,_ | .at _,h,_ | .dict0,h,_ | .bset,h,_ | .lam _ _,h,_ | .rng _ _,h,_ | .got _ _ _,h,_=>exact ns h
theorem ev_meth {n k:Nat}(o:Ops A cal G)(hE:EvOk A cal G n){oe:Expr}{m:Str}{apos pos:Pos}{as:List Expr}(hb:attributeBase oe m env (eval oe env)=eval oe env)(hline:(apos.endLine == pos.line)=true)(hn:noStar as=true)(hlen:as.length < 20)
  (h:ev cal G (n+1) ρ (.meth (cv k nm oe) (tx m) (as.map (cv k nm)))=some d) (F:Fm B nm env W ρ) (I:Inv W):Gv A (eval (.Call (.Attribute oe m apos) as [] pos) env) W d:=by
 have h':(match ev cal G n ρ (cv k nm oe) with
   | some ov=>(match evl (ev cal G n ρ) (as.map (cv k nm)) with | some xs=>methD ov (tx m) xs | none=>none)
   | none=>none)=some d:=h
 refine xEA (optD h') λov hf h'=>?_
 refine xEA (optL h') λxs hx h'=>?_
 obtain ⟨hl,hg⟩:=evl_get hx
 have hnl:∀ ys,ov≠.list ys:=λys e=>by subst e;exact ns h'
 exact gv_Meth I hb hline (hE.go hf F I).T hn hlen (λj e d e1 e2=>hE.go (hg j e d e1 e2) F I) hl λv W1 L1 I1 r1=>meth_ok o h' I1 (r1.plain hnl)
set_option tactic.hygienic true in
theorem comp_ev {n k:Nat}(o:Ops A cal G)(hE:∀ m,m<=n->EvOk A cal G m)(hT:∀ m,m<=n->TvOk A cal G m){el:Expr}{gs:List Comprehension}{sc:Scope}{pos:Pos}
  (h:ev cal G (n+1) ρ (cv (k+1) nm (.ListComp el gs sc pos))=some d) (F:Fm B nm env W ρ) (I:Inv W):Gv A (eval (.ListComp el gs sc pos) env) W d:=by
 have e:cv (k+1) nm (.ListComp el gs sc pos)=if (okScope sc&&freeOk nm sc)=true then (match cvG (cv k) nm sc.names gs with | some l=>.comp (cv k sc.names el) l (freesOf sc) | none=>.bad) else .bad:=rfl
 rw [e] at h
 split at h
 ·rename_i hok
  rw [Bool.and_eq_true] at hok
  split at h
  ·rename_i l hl
   cases gs with
   | nil =>
    obtain rfl:=sq hl
    exact ns h
   | cons c rest =>
    obtain ⟨id,px,iter,ifs,x,l',rfl,hns,ht,hl',rfl⟩:=cvG_cons hl
    have h':(if isN (getR (frees (freesOf sc) ρ) x) then (match ev cal G n ρ (cv k nm iter) with
     | some d=>(match itemsD d with
      | some xs=>(match flat (λi=>eg cal G n (setR (frees (freesOf sc) ρ) x (.d i)) (cv k sc.names el) (ifs.map (cv k sc.names)) l') xs with
       | some r=>if Nat.ble r.length lim then some (.list r) else none
       | none=>none)
      | none=>none)
     | none=>none) else none)=some d:=h
    obtain ⟨hx,h'⟩:=ite_val h'
    refine xEA (optD h') λdv hd h'=>?_
    refine xEA (optL h') λxs hi h'=>?_
    refine xEA (optL h') λr hf h'=>?_
    obtain ⟨hz,h'⟩:=ite_val h'
    obtain rfl:=sq h'
    exact gv_ListComp o.h (comp_loop o.h n (λm hm=>hE m (Nat.le_of_lt hm)) (λm hm=>hT m (Nat.le_of_lt hm))) (hE n (Nat.le_refl _)) I F hok.1 hok.2 hns ht hl' hd hi hx hf (Nat.le_of_ble_eq_true hz)
  ·exact ns h
 ·exact ns h
theorem base_ok {oe:Expr}{m:Str}{w:Sem Value}(h:badBase oe=false):attributeBase oe m env w=w:=by
 cases oe with
 | Call f as ks pos =>
  cases f with
  | Name i p =>
   cases as with
   | cons _ _=>rfl
   | nil =>
    cases ks with
    | cons _ _=>rfl
    | nil=>exact nf h.symm
  | _=>rfl
 | _=>rfl
theorem ev_sli {n k:Nat}(hE:EvOk A cal G n){v:Expr}{l u:Option Expr}{p0 pos:Pos}(h:ev cal G (n+1) ρ (.sli (cv k nm v) (l.map (cv k nm)) (u.map (cv k nm)))=some d)(F:Fm B nm env W ρ)(I:Inv W):Gv A (eval (.Subscript v (.Slice l u none p0) pos) env) W d:=by
 have h':(match ev cal G n ρ (cv k nm v) with
   | some x=>(match evo (ev cal G n ρ) (l.map (cv k nm)) with
    | some dl=>(match evo (ev cal G n ρ) (u.map (cv k nm)) with
     | some du=>(match optI dl with | some i=>(match optI du with | some j=>sliD x i j | none=>none) | none=>none)
     | none=>none)
    | none=>none)
   | none=>none)=some d:=h
 refine xEA (optD h') λx hx h'=>?_
 cases hl:evo (ev cal G n ρ) (l.map (cv k nm)) with
 | none=>rw [hl] at h';exact ns h'
 | some dl =>
  rw [hl] at h'
  dsimp only at h'
  cases hu:evo (ev cal G n ρ) (u.map (cv k nm)) with
  | none=>rw [hu] at h';exact ns h'
  | some du =>
   rw [hu] at h'
   dsimp only at h'
   cases hi:optI dl with
   | none=>rw [hi] at h';exact ns h'
   | some i =>
    rw [hi] at h'
    dsimp only at h'
    cases hj:optI du with
    | none=>rw [hj] at h';exact ns h'
    | some j =>
     rw [hj] at h'
     obtain ⟨a1,a2⟩:=evo_inv hl
     obtain ⟨b1,b2⟩:=evo_inv hu
     exact gv_Slice I (hE.go hx F I) (λe d e1 e2=>hE.go (a2 e d e1 e2) F I) a1 hi (λe d e1 e2=>hE.go (b2 e d e1 e2) F I) b1 hj h'
theorem ev_idx {n k:Nat}(hE:EvOk A cal G n)(hV:EvtOk A cal G n){v i:Expr}{pos:Pos}(hs:∀ l u st p,i≠.Slice l u st p)(h:ev cal G (n+1) ρ (.idx (cv k nm v) (cv k nm i))=some d)(F:Fm B nm env W ρ)(I:Inv W):Gv A (eval (.Subscript v i pos) env) W d:=by
 have h':(match evt cal G n ρ (cv k nm v) with
   | some x=>(match ev cal G n ρ (cv k nm i) with | some y=>idxD x y | none=>none)
   | none=>none)=some d:=h
 refine xEA (optD h') λx hx h'=>?_
 cases hy:ev cal G n ρ (cv k nm i) with
 | none=>rw [hy] at h';exact ns h'
 | some y=>rw [hy] at h';exact gv_Subscript I (hV.go hx F I) (hE.go hy F I) hs h'
set_option tactic.hygienic true in
theorem ev_tmap {n k:Nat}(o:Ops A cal G)(hE:EvOk A cal G n){i1 i2:Str}{p1 p2 pos1 pos2:Pos}{he xe:Expr}(hn1:isNm nm tTuple (.Name i1 p1)=true)(hn2:isNm nm tMap (.Name i2 p2)=true)(hn:noStar [he,xe]=true)
  (h:ev cal G (n+1) ρ (.tmap (cv k nm he) (cv k nm xe))=some d) (F:Fm B nm env W ρ) (I:Inv W):Gv A (eval (.Call (.Name i1 p1) [.Call (.Name i2 p2) [he,xe] [] pos1] [] pos2) env) W d:=by
 have h':(match ev cal G n ρ (cv k nm he) with
   | some fv=>(match ev cal G n ρ (cv k nm xe) with
    | some xd=>(listC xd).bind λc=>(flat (λi=>(cal fv [i]).map λr=>[r]) c.xs).map D.tup
    | none=>none)
   | none=>none)=some d:=h
 refine xEA (optD h') λfv hf h'=>?_
 refine xEA (optD h') λ_ hx h'=>?_
 refine xEA (bd_inv h') λhh0 _ h'=>?_
 obtain ⟨xs,rfl⟩:=hh0
 refine xEA (Option.map_eq_some_iff.mp h') λds hr ee2=>?_
 subst ee2
 exact o.tmap fv xs ds hr nm env B W ρ i1 p1 i2 p2 he xe pos1 pos2 F I hn1 hn2 hn (hE.go hf F I) (hE.go hx F I)
set_option tactic.hygienic true in
theorem ev_ksort {n k:Nat}(o:Ops A cal G)(hE:EvOk A cal G n){i1 i2 kn:Str}{p1 p2 pos1 pos2 kp:Pos}{he xe:Expr}(hn1:isNm nm tSorted (.Name i1 p1)=true)(hn2:isNm nm tCmp (.Name i2 p2)=true)(hk:eqT (tx kn) tKey=true)(hn:noStar [xe,he]=true)
  (h:ev cal G (n+1) ρ (.ksort (cv k nm xe) (cv k nm he))=some d) (F:Fm B nm env W ρ) (I:Inv W):Gv A (eval (.Call (.Name i1 p1) [xe] [⟨some kn,.Call (.Name i2 p2) [he] [] pos1,kp⟩] pos2) env) W d:=by
 have h':(match ev cal G n ρ (cv k nm xe) with
   | some xd=>(listC xd).bind λc=>(match ev cal G n ρ (cv k nm he) with
    | some fv=>(sortD (λa b=>cal fv [a,b]) c.xs).map D.list
    | none=>none)
   | none=>none)=some d:=h
 refine xEA (optD h') λ_ hx h'=>?_
 refine xEA (bd_inv h') λhh0 _ h'=>?_
 obtain ⟨xs,rfl⟩:=hh0
 refine xEA (optD h') λfv hf h'=>?_
 refine xEA (Option.map_eq_some_iff.mp h') λds hr ee2=>?_
 subst ee2
 exact o.ksort fv xs ds hr nm env B W ρ i1 p1 i2 p2 he xe kn kp pos1 pos2 F I hn1 hn2 hk hn (hE.go hx F I) (hE.go hf F I)
theorem isNm_name {t:Tx}{e:Expr}(h:isNm nm t e=true):∃ id p,e=.Name id p:=by
 have h':(match nameOf e with | some q=>eqT (tx q.i) t&&isGlo (lkp nm t) | none=>false)=true:=h
 clear h
 cases hn:nameOf e with
 | none=>rw [hn] at h';exact nf h'
 | some q=>exact ⟨q.i,q.p,q.e⟩
theorem sub_cv {k:Nat}{v i:Expr}{pos:Pos}(hs:∀ l u st p,i≠.Slice l u st p):cv (k+1) nm (.Subscript v i pos)=.idx (cv k nm v) (cv k nm i):=by
 cases i<;>first | rfl | exact absurd rfl (hs _ _ _ _)
theorem oneArg_ok {as:List Expr}{x:Expr}(e:oneArg as=some x):as=[x]:=by
 rcases as with _ | ⟨a,_ | ⟨b,r⟩⟩
 ·exact ns e
 ·cases e;rfl
 ·cases e
theorem ev_iteB {n:Nat}{c:Bool}{a:ME}(h:ev cal G n ρ (if c=true then a else .bad)=some d):c=true/\ev cal G n ρ a=some d:=by
 cases c
 ·have h':ev cal G n ρ .bad=some d:=h
  rw [ev_bad] at h'
  exact ns h'
 ·exact ⟨rfl,h⟩
noncomputable def EvAt (A:Around)(cal:D->List D->Option D)(G:Tx->Option D)(n k:Nat)(e:Expr):Prop :=
 ∀ (nm:List (Str×NameKind)) (env:Env) (B:List Addr) (W:Wd) (ρ:Rho) (d:D),ev cal G (n+1) ρ (cv (k+1) nm e)=some d->Fm B nm env W ρ->Inv W->Gv A (eval e env) W d
theorem EvAt.bad {n k:Nat}{e:Expr}(h:∀ nm,cv (k+1) nm e=.bad):EvAt A cal G n k e:=λnm _ _ _ _ _ q _ _=>by rw [h,ev_bad] at q;exact ns q
theorem ev_no {n:Nat}{P:Prop}(h:ev cal G n ρ .bad=some d):P:=by rw [ev_bad] at h;exact ns h
theorem ev_if {c:Bool}{a b:ME}{n:Nat}(h:ev cal G n ρ (if c=true then a else b)=some d):(c=true/\ev cal G n ρ a=some d)\/(c=false/\ev cal G n ρ b=some d):=by
 cases c
 ·exact .inr ⟨rfl,h⟩
 ·exact .inl ⟨rfl,h⟩
theorem loc_d {n:Nat}{x:Tx}(h:ev cal G (n+1) ρ (.loc x)=some d):getR ρ x=some (.d d):=by
 have h':(match getR ρ x with | some (.d d)=>some d | _=>none)=some d:=h
 clear h
 generalize getR ρ x=q at h' ⊢
 cases q with
 | none=>exact ns h'
 | some v =>
  cases v with
  | d d'=>rw [sq h']
  | «mut» _=>exact ns h'
  | itr _=>exact ns h'
section
variable {n k:Nat}
theorem at_CallA (o:Ops A cal G)(HE:EvOk A cal G n)(oe:Expr)(m:Str)(apos:Pos)(as:List Expr)(ks:List Keyword)(pos:Pos):EvAt A cal G n k (.Call (.Attribute oe m apos) as ks pos):=by
 intro nm env B W ρ d h F I
 rcases ev_if (show ev cal G (n+1) ρ (if (ks.isEmpty&&!badBase oe&&noStar as&&Nat.beq apos.endLine pos.line&&Nat.blt as.length 20)=true then .meth (cv k nm oe) (tx m) (as.map (cv k nm)) else .bad)=some d from h) with ⟨hc,h9⟩ | ⟨_,h⟩
 ·clear h
  simp only [Bool.and_eq_true] at hc
  obtain ⟨⟨⟨⟨h1,h2⟩,h3⟩,h4⟩,h5⟩:=hc
  obtain rfl:ks=[]:=List.isEmpty_iff.mp h1
  exact ev_meth o HE (base_ok (by simpa using h2)) (by rw [beq_iff_eq];exact Nat.eq_of_beq_eq_true h4) h3 (by simpa [Nat.blt_eq] using h5) h9 F I
 ·exact ev_no h
theorem call0_ok (o:Ops A cal G)(HE:EvOk A cal G n)(HV:EvtOk A cal G n){i:Str}{p:Pos}{as:List Expr}{pos:Pos}(h:ev cal G (n+1) ρ (cvCall0 (cv k nm) nm (.Name i p) as)=some d)(F:Fm B nm env W ρ)(I:Inv W):Gv A (eval (.Call (.Name i p) as [] pos) env) W d:=by
 unfold cvCall0 at h
 cases hm:tmapArg as with
 | some t =>
  rw [hm] at h
  clear hm
  obtain ⟨hc,h1⟩:=ev_iteB h
  clear h
  obtain ⟨g,he,xe,p1,rfl⟩:=t
  simp only [Bool.and_eq_true] at hc
  obtain ⟨⟨h2,h3⟩,h4⟩:=hc
  refine xEE (isNm_name h3) λi2 p2 e2=>?_
  subst e2
  exact ev_tmap o HE h2 h3 h4 h1 F I
 | none =>
  rw [hm] at h
  obtain ⟨hc,h1⟩:=ev_iteB h
  rw [Bool.and_eq_true] at hc
  exact ev_call o HE HV hc.1 (by simpa [Nat.blt_eq] using hc.2) h1 F I
theorem callK_ok (o:Ops A cal G)(HE:EvOk A cal G n){i:Str}{p:Pos}{as:List Expr}{ks:List Keyword}{pos:Pos}(h:ev cal G (n+1) ρ (cvCallK (cv k nm) nm (.Name i p) as ks)=some d)(F:Fm B nm env W ρ)(I:Inv W):Gv A (eval (.Call (.Name i p) as ks pos) env) W d:=by
 unfold cvCallK at h
 cases hm:keyArg ks with
 | none=>rw [hm] at h;exact ev_no h
 | some t =>
  rw [hm] at h
  clear hm
  obtain ⟨kn,g,he,p1,kp,rfl⟩:=t
  cases hx:oneArg as with
  | none=>rw [hx] at h;exact ev_no h
  | some xe =>
   rw [hx] at h
   obtain ⟨hc,h1⟩:=ev_iteB h
   clear h
   obtain rfl:=oneArg_ok hx
   simp only [Bool.and_eq_true] at hc
   obtain ⟨⟨⟨h2,h3⟩,h4⟩,h5⟩:=hc
   refine xEE (isNm_name h4) λi2 p2 e2=>?_
   subst e2
   exact ev_ksort o HE h2 h4 h3 h5 h1 F I
theorem at_CallN (o:Ops A cal G)(HE:EvOk A cal G n)(HV:EvtOk A cal G n)(i:Str)(p:Pos)(as:List Expr)(ks:List Keyword)(pos:Pos):EvAt A cal G n k (.Call (.Name i p) as ks pos):=by
 intro nm env B W ρ d h F I
 rcases ev_if (show ev cal G (n+1) ρ (if ks.isEmpty=true then cvCall0 (cv k nm) nm (.Name i p) as else cvCallK (cv k nm) nm (.Name i p) as ks)=some d from h) with ⟨hk,h2⟩ | ⟨_,h2⟩
 ·clear h
  obtain rfl:ks=[]:=List.isEmpty_iff.mp hk
  exact call0_ok o HE HV h2 F I
 ·exact callK_ok o HE h2 F I
theorem at_Call (o:Ops A cal G)(HE:EvOk A cal G n)(HV:EvtOk A cal G n)(f:Expr)(as:List Expr)(ks:List Keyword)(pos:Pos):EvAt A cal G n k (.Call f as ks pos):=by
 cases f with
 | Attribute oe m apos=>exact at_CallA o HE oe m apos as ks pos
 | Name i p=>exact at_CallN o HE HV i p as ks pos
 | _=>exact .bad λ_=>rfl
theorem at_Name (o:Ops A cal G)(id:Str)(p:Pos):EvAt A cal G n k (.Name id p):=by
 intro nm env B W ρ d h F I
 rcases ev_if (show ev cal G (n+1) ρ (if (eqT (tx id) tDebug||eqT (tx id) tClassDict)=true then .bad else if isLoc (lkp nm (tx id))=true then .loc (tx id) else if isGlo (lkp nm (tx id))=true then .glo (tx id) else .bad)=some d from h) with ⟨_,h⟩ | ⟨h1,h⟩
 ·exact ev_no h
 ·rw [Bool.or_eq_false_iff] at h1
  rcases ev_if h with ⟨h2,h⟩ | ⟨_,h⟩
  ·exact λs Q E ok po=>name_local F ok h1.1 h1.2 h2 (loc_d h) λv r=>po.at I ok r
  ·rcases ev_if h with ⟨h3,h⟩ | ⟨_,h⟩
   ·exact name_global F o I h1.1 h3 h
   ·exact ev_no h
theorem at_Const (c:Const)(kd:Nat)(pos:Pos):EvAt A cal G n k (.Constant c kd pos):=by
 cases c with
 | none=>exact λnm env B W ρ d h F I=>by obtain rfl:=sq h;exact λs Q E ok po=>wpAny_Constant_none (po.at I ok rfl)
 | bool b=>exact λnm env B W ρ d h F I=>by obtain rfl:=sq h;exact λs Q E ok po=>wpAny_Constant_bool (po.at I ok rfl)
 | int i=>exact λnm env B W ρ d h F I=>by obtain rfl:=sq h;exact λs Q E ok po=>wpAny_Constant_int (po.at I (ok.tok _) ⟨_,rfl⟩)
 | str x =>
  intro nm env B W ρ d h F I
  obtain ⟨hz,h'⟩:=ite_val (show (if Nat.ble (tx x).length lim then some (D.str (tx x)) else none)=some d from h)
  clear h
  obtain rfl:=sq h'
  exact λs Q E ok po=>wpAny_Constant_str (po.at I (ok.tok _) ⟨Nat.le_of_ble_eq_true hz,s.toks,by rw [S_tx]⟩)
 | _=>exact .bad λ_=>rfl
theorem at_BinOp (HE:EvOk A cal G n)(l:Expr)(op:Operator)(r:Expr)(pos:Pos):EvAt A cal G n k (.BinOp l op r pos):=by
 intro nm env B W ρ d h F I
 have h':ev cal G (n+1) ρ (match opOf op with | some o=>.bin o (cv k nm l) (cv k nm r) | none=>.bad)=some d:=h
 clear h
 cases ho:opOf op with
 | none=>rw [ho] at h';exact ev_no h'
 | some oo =>
  rw [ho] at h'
  obtain ⟨x,hx,h1⟩:=optD (show (match ev cal G n ρ (cv k nm l) with
   | some x=>(match ev cal G n ρ (cv k nm r) with | some y=>binD oo x y | none=>none)
   | none=>none)=some d from h')
  refine xEA (optD h1) λy hy h2=>?_
  exact gv_BinOp I (HE.go hx F I) (HE.go hy F I) ho h2
theorem at_Compare (o:Ops A cal G)(HE:EvOk A cal G n)(HV:EvtOk A cal G n)(l:Expr)(ops:List CmpOp)(cs:List Expr)(pos:Pos):EvAt A cal G n k (.Compare l ops cs pos):=by
 intro nm env B W ρ d h F I
 rcases compare_inv (nm:=nm) (k:=k) (l:=l) (ops:=ops) (cs:=cs) (pos:=pos) with e | ⟨op,c,oo,rfl,rfl,hc,ho,e⟩
 ·rw [e] at h;exact ev_no h
 ·rw [e] at h
  obtain ⟨x,hx,h1⟩:=optD (show (match evt cal G n ρ (cv k nm l) with
   | some x=>(match ev cal G n ρ (cv k nm c) with | some y=>(cmpD oo x y).map D.bool | none=>none)
   | none=>none)=some d from h)
  refine xEA (optD h1) λy hy h2=>?_
  refine xEA (opt_val h2) λr hb h3=>?_
  obtain rfl:=sq h3
  exact gv_Compare o.b o.u I (HV.go hx F I) (HE.go hy F I) ho (marks_false hc) hb
theorem neg_int {n:Nat}{m:ME}(h:ev cal G (n+1) ρ (.neg m)=some d):∃ i,m=.int i/\d=.int (-i):=by
 cases m with
 | int i =>
  have h2:(if decide (0 < i)&&small i then some (D.int (-i)) else none)=some d:=h
  obtain ⟨_,h2⟩:=ite_val h2
  cases h2;exact ⟨i,rfl,rfl⟩
 | _=>exact ns h
theorem tag_Const {v:Expr}(h:tagX v=2):∃ c kd p,v=.Constant c kd p:=by
 cases v with
 | Constant c kd p=>exact ⟨c,kd,p,rfl⟩
 | _=>exact absurd h (Nat.ne_of_beq_eq_false rfl)
theorem cv_int {k:Nat}{v:Expr}{i:Int}(h:cv k nm v=.int i):∃ kd p,v=.Constant (.int i) kd p:=by
 obtain ⟨c,kd,p,rfl⟩:=tag_Const (cv_kind h (Nat.ne_of_beq_eq_false rfl))
 cases k with
 | zero=>exact nx ME.ctorIdx h rfl
 | succ k =>
  cases c with
  | int j =>
   injection (show ME.int j=ME.int i from h) with h1
   exact ⟨kd,p,by rw [h1]⟩
  | _=>exact nx ME.ctorIdx h rfl
theorem at_Unary (op:UnaryOp)(x:Expr)(pos:Pos):EvAt A cal G n k (.UnaryOp op x pos):=by
 cases op with
 | USub =>
  intro nm env B W ρ d h F I
  refine xEA (neg_int (show ev cal G (n+1) ρ (.neg (cv k nm x))=some d from h)) λi hm ee2=>?_
  subst ee2
  refine xEE (cv_int hm) λkd p ee2=>?_
  subst ee2
  exact gv_USub I
 | Not=>exact λnm env B W ρ d h=>ns h
 | _=>exact .bad λ_=>rfl
theorem at_IfExp (HE:EvOk A cal G n)(HT:TvOk A cal G n)(c a b:Expr)(pos:Pos):EvAt A cal G n k (.IfExp c a b pos):=by
 intro nm env B W ρ d h F I
 have h':(match tv cal G n ρ (cv k nm c) with | some true=>ev cal G n ρ (cv k nm a) | some false=>ev cal G n ρ (cv k nm b) | none=>none)=some d:=h
 clear h
 cases hc:tv cal G n ρ (cv k nm c) with
 | none=>rw [hc] at h';exact ns h'
 | some q =>
  rw [hc] at h'
  cases q with
  | true=>exact gv_IfExp I (HT.go hc F I) (HE.go h' F I)
  | false=>exact gv_IfExp I (HT.go hc F I) (HE.go h' F I)
theorem items_of (HE:EvOk A cal G n){f:List D->D}{es:List Expr}{nm:List (Str×NameKind)}{ρ:Rho}(F:Fm B nm env W ρ)(I:Inv W)(h:(if Nat.ble (es.map (cv k nm)).length lim then (evl (ev cal G n ρ) (es.map (cv k nm))).map f else none)=some d) :
  ∃ ds,d=f ds/\es.length=ds.length/\ds.length<=lim/\∀ (j:Nat) (e:Expr) (d:D),es[j]? = some e->ds[j]? = some d->GvA A (eval e env) W d:=by
 obtain ⟨hz,h1⟩:=ite_val h
 refine xEA (opt_val h1) λds hx h2=>?_
 obtain ⟨hl,hg⟩:=evl_get hx
 have hz':=Nat.le_of_ble_eq_true hz
 rw [List.length_map,hl] at hz'
 exact ⟨ds,(sq h2).symm,hl,hz',λj e d e1 e2=>HE.go (hg j e d e1 e2) F I⟩
theorem at_List (HE:EvOk A cal G n)(es:List Expr)(pos:Pos):EvAt A cal G n k (.List es pos):=by
 intro nm env B W ρ d h F I
 rcases ev_if (show ev cal G (n+1) ρ (if noStar es=true then .lst (es.map (cv k nm)) else .bad)=some d from h) with ⟨hn,h⟩ | ⟨_,h⟩
 ·refine xEAAA (items_of (A:=A) (f:=D.list) HE F I h) λds ee1 hl hz hg=>?_
  subst ee1
  exact gv_List I hn hg hl hz
 ·exact ev_no h
theorem at_Tuple (HE:EvOk A cal G n)(es:List Expr)(kd:Nat)(pos:Pos):EvAt A cal G n k (.Tuple es kd pos):=by
 intro nm env B W ρ d h F I
 rcases ev_if (show ev cal G (n+1) ρ (if noStar es=true then .tup (es.map (cv k nm)) else .bad)=some d from h) with ⟨hn,h⟩ | ⟨_,h⟩
 ·refine xEAAA (items_of (A:=A) (f:=D.tup) HE F I h) λds ee1 hl hz hg=>?_
  subst ee1
  exact gv_Tuple I hn hg hl hz
 ·exact ev_no h
theorem at_Lambda (o:Ops A cal G)(ps:Arguments)(bd:Expr)(sc:Scope)(pos:Pos):EvAt A cal G n k (.Lambda ps bd sc pos):=by
 intro nm env B W ρ d h F I
 have e:cv (k+1) nm (.Lambda ps bd sc pos)=if lamChk nm ps sc=true then .lam (ps.args.map λa=>tx a.arg) (cv k sc.names bd) else .bad:=rfl
 rw [e] at h
 rcases ev_if h with ⟨hc,h⟩ | ⟨_,h⟩
 ·obtain rfl:=sq h
  exact o.lam (k+1) nm ps bd sc pos _ _ (by rw [e,if_pos hc]) env B W ρ F I
 ·exact ev_no h
theorem at_Sub (HE:EvOk A cal G n)(HV:EvtOk A cal G n)(v i:Expr)(pos:Pos):EvAt A cal G n k (.Subscript v i pos):=by
 intro nm env B W ρ d h F I
 by_cases hs:∃ l u st p,i=.Slice l u st p
 ·obtain ⟨l,u,st,p,rfl⟩:=hs
  cases st with
  | none=>exact ev_sli HE h F I
  | some _=>exact ns h
 ·have hs':∀ l u st p,i≠.Slice l u st p:=λl u st p e=>hs ⟨l,u,st,p,e⟩
  rw [sub_cv hs'] at h
  exact ev_idx HE HV hs' h F I
end
theorem ev_at (o:Ops A cal G){n:Nat}(hE:∀ m,m<=n->EvOk A cal G m)(HV:EvtOk A cal G n)(hT:∀ m,m<=n->TvOk A cal G m)(hS:SetOk A cal G n)(k:Nat)(e:Expr):EvAt A cal G n k e:=by
 have HE:=hE n (Nat.le_refl _)
 cases e with
 | Name id p=>exact at_Name o id p
 | Constant c kd pos=>exact at_Const c kd pos
 | BinOp l op r pos=>exact at_BinOp HE l op r pos
 | Compare l ops cs pos=>exact at_Compare o HE HV l ops cs pos
 | BoolOp op vs pos=>exact λnm env B W ρ d h=>by cases op<;>exact ns h
 | UnaryOp op x pos=>exact at_Unary op x pos
 | IfExp c a b pos=>exact at_IfExp HE (hT n (Nat.le_refl _)) c a b pos
 | List es pos=>exact at_List HE es pos
 | Tuple es kd pos=>exact at_Tuple HE es kd pos
 | ListComp el gs sc pos=>exact λnm env B W ρ d h F I=>comp_ev o hE hT h F I
 | SetComp el gs sc pos=>exact λnm env B W ρ d h F I=>hS k nm env B W ρ el gs sc pos d h F I
 | Lambda ps bd sc pos=>exact at_Lambda o ps bd sc pos
 | Subscript v i pos=>exact at_Sub HE HV v i pos
 | Call f as ks pos=>exact at_Call o HE HV f as ks pos
 | _=>exact .bad λ_=>rfl
theorem ev_ok (o:Ops A cal G){n:Nat}(hE:∀ m,m<=n->EvOk A cal G m)(hV:∀ m,m<=n->EvtOk A cal G m)(hT:∀ m,m<=n->TvOk A cal G m)(hS:SetOk A cal G n):EvOk A cal G (n+1):=λk nm env B W ρ e d h F I =>
 match k,h with
 | 0,h=>ev_no (n:=n+1) h
 | k+1,h=>ev_at o hE (hV n (Nat.le_refl _)) hT hS k e nm env B W ρ d h F I
theorem all_ok (o:Ops A cal G)(hS:∀ n,(∀ m,m<=n->EvOk A cal G m/\EvtOk A cal G m/\TvOk A cal G m)->SetOk A cal G n):∀ n,EvOk A cal G n/\EvtOk A cal G n/\TvOk A cal G n:=by
 intro n
 induction n using Nat.strongRecOn with
 | ind n ih =>
  cases n with
  | zero=>exact ⟨λk nm env B W ρ e d h=>(nomatch h),λk nm env B W ρ e d h=>(nomatch h),λk nm env B W ρ e d h=>(nomatch h)⟩
  | succ n =>
   have hE:=λm (hm:m<=n)=>(ih m (Nat.lt_succ_of_le hm)).1
   have hV:=λm (hm:m<=n)=>(ih m (Nat.lt_succ_of_le hm)).2.1
   have hT:=λm (hm:m<=n)=>(ih m (Nat.lt_succ_of_le hm)).2.2
   exact ⟨ev_ok o hE hV hT (hS n λm hm=>ih m (Nat.lt_succ_of_le hm)),evt_ok (hE n (Nat.le_refl _)),tv_ok o (hT n (Nat.le_refl _)) hV hE⟩
end
end
section
open PySem.Builtin PySem.Builtin.Str PySem.StrLaws
section
variable {A:Around}{W W' W0 W1 W2:Wd}{P B X:List Addr}{d:D}{s:Shared}{E:Value->Shared->Prop}{env:Env}
variable {cal:D->List D->Option D}{G:Tx->Option D}{nm:List (Str×NameKind)}{ρ ρ':Rho}
noncomputable def One (ρ:Rho):Prop:=∀ x y xs ys,getR ρ x=some (.mut xs)->getR ρ y=some (.mut ys)->x=y
noncomputable def LeB (B:List Addr)(W0 W:Wd):Prop:=∃ X,Le X W0 W/\∀ a∈X,a∈W0.pv/\a∉B
theorem LeB.le (L:Le [] W W'):LeB B W W':=⟨[],L,λ_ h=>nomatch h⟩
theorem LeB.step (I0:Inv W0)(a:LeB B W0 W)(L:Le P W W')(h:∀ q∈P,q∈W.pv/\q∉B):LeB B W0 W':=by
 obtain ⟨X,L0,hX⟩:=a
 have LL:Le (X++P) W0 W':=(L0.wide λx h=>List.mem_append.mpr (.inl h)).trans (L.wide λx h=>List.mem_append.mpr (.inr h))
 refine ⟨X++P.filter λa=>(W0.h.get? a).isSome,LL.fresh I0 λx hx=>?_,λx hx=>?_⟩
 ·cases e:W0.h.get? x with
  | none=>exact .inr rfl
  | some o =>
   refine .inl (List.mem_append.mpr ?_)
   rcases List.mem_append.mp hx with q | q
   ·exact .inl q
   ·exact .inr (List.mem_filter.mpr ⟨q,by rw [e];rfl⟩)
 ·by_cases hx1:x∈X
  ·exact hX x hx1
  ·rcases List.mem_append.mp hx with q | q
   ·exact absurd q hx1
   ·rw [List.mem_filter] at q
    obtain ⟨q,al⟩:=q
    obtain ⟨o,e⟩:=Option.isSome_iff_exists.mp al
    obtain ⟨g1,g2⟩:=h x q
    exact ⟨L0.pv x o e hx1 g1,g2⟩
theorem LeB.trans (I0:Inv W0){B':List Addr}(a:LeB B W0 W)(b:LeB B' W W')(h:∀ q∈B,q∈B'):LeB B W0 W':=by
 obtain ⟨X,L,hX⟩:=b
 exact a.step I0 L λq hq=>⟨(hX q hq).1,λz=>(hX q hq).2 (h q z)⟩
structure Act (W0:Wd)(B:List Addr)(nm:List (Str×NameKind))(env:Env)(W:Wd)(ρ:Rho):Prop where
 I:Inv W
 L:LeB B W0 W
 F:Fm B nm env W ρ
 one:One ρ
 bs:∀ b∈B,b∈W.pv
theorem Act.le (I0:Inv W0)(a:Act W0 B nm env W ρ)(L:Le [] W W')(I':Inv W'):Act W0 B nm env W' ρ:=⟨I',a.L.step I0 L (λ_ h=>nomatch h),a.F.later a.I L,a.one,λb h=>L.pvK b (a.bs b h) (λz=>nomatch z)⟩
theorem Act.sub (a:Act W0 B nm env W ρ)(h:∀ y ev,getR ρ' y=some ev->getR ρ y=some ev):Act W0 B nm env W ρ' :=
 ⟨a.I,a.L,a.F.sub h,λx y xs ys h1 h2=>a.one x y xs ys (h _ _ h1) (h _ _ h2),a.bs⟩
theorem Act.turn (I0:Inv W0)(a:Act W0 B nm env W ρ)(L:Le P W W')(I':Inv W')(hP:∀ q∈P,q∈W.pv/\q∉B)(F':Fm B nm env W' ρ')(one:One ρ'):Act W0 B nm env W' ρ' :=
 ⟨I',a.L.step I0 L hP,F',one,λb h=>L.pvK b (a.bs b h) λz=>(hP b z).2 h⟩
theorem one_own {p:Addr}{W:Wd}{B:List Addr}(h1:p∈W.pv)(h2:p∉B):∀ q∈[p],q∈W.pv/\q∉B:=mem1 ⟨h1,h2⟩
theorem One.put (h:One ρ){x:Tx}{ev:EV}(hev:∀ xs,ev≠.mut xs):One (setR ρ x ev):=λa b xs ys h1 h2=>by
 rw [getR_setR] at h1 h2
 split at h1
 ·cases h1;exact absurd rfl (hev xs)
 ·split at h2
  ·cases h2;exact absurd rfl (hev ys)
  ·exact h a b xs ys h1 h2
set_option backward.split true in
theorem getR_filter (p:Tx->Bool):∀ (ρ:Rho) (y:Tx),getR (ρ.filter λq=>p q.1) y=if p y=true then getR ρ y else none
 | [],y=>by simp [getR]
 | (z,u)::r,y=>by
  have ih:=getR_filter p r y
  rw [List.filter_cons]
  by_cases hz:p z=true
  ·rw [if_pos hz,getR_cons,getR_cons,ih]
   split
   ·rename_i e
    have e':=eqT_iff.mp e
    subst e'
    rw [if_pos hz]
   ·rfl
  ·rw [if_neg hz,ih,getR_cons]
   clear ih getR_filter
   split
   ·rename_i h
    split
    ·rename_i e
     have e':=eqT_iff.mp e
     clear e
     subst e'
     exact absurd h hz
    ·rfl
   ·rfl
theorem getR_dropM (ρ:Rho)(y:Tx){ev:EV}(h:getR (dropM ρ) y=some ev):getR ρ y=some ev/\∀ xs,ev≠.mut xs:=by
 unfold dropM at h
 rw [getR_filter (λx=>!isMut (getR ρ x))] at h
 obtain ⟨hm,h⟩:=ite_val h
 refine ⟨h,λxs e=>?_⟩
 subst e
 rw [h] at hm
 exact nf hm
theorem getR_dropI (ρ:Rho)(y:Tx){ev:EV}(h:getR (dropI ρ) y=some ev):getR ρ y=some ev/\∀ xs,ev≠.itr xs:=by
 unfold dropI at h
 rw [getR_filter (λx=>!isItr (getR ρ x))] at h
 obtain ⟨hm,h⟩:=ite_val h
 refine ⟨h,λxs e=>?_⟩
 subst e
 rw [h] at hm
 exact nf hm
theorem Act.put (I0:Inv W0)(a:Act W0 B nm env W ρ)(o:Ok W s){id:Str}{px:Pos}{x:Tx}{ev:EV}{v:Value}(ht:tgt nm (.Name id px)=some x)(hv:EVR B W ev v)(hone:One (setR ρ x ev)){Q:Unit->Shared->Prop}
  (h:∀ W' s',Act W0 B nm env W' (setR ρ x ev)->Ok W' s'->(∃ q,Le [q] W W'/\q∈W.pv/\¬ RowF W.h q/\W'.pv=W.pv/\q∉B)->Q () s'):wpAny Mo A (assign (.Name id px) env v) Q E s :=
 assign_at a.I a.F o ht hv λq W' s' h1 h2 h3 L' I' o' e' F'=>h W' s' (a.turn I0 L' I' (one_own h1 h2) F' hone) o' ⟨q,L',h1,h3,e',h2⟩
noncomputable def FlR (W:Wd):Fl->Flow->Prop
 | .next,u=>u=.next
 | .brk,u=>u=.brk
 | .cont,u=>u=.cont
 | .ret d,u=>∃ v,u=.ret v/\Rep W d v
noncomputable def StOk (A:Around)(t:Sem Flow)(W0:Wd)(B:List Addr)(nm:List (Str×NameKind))(env:Env)(W:Wd)(ρ':Rho)(fl:Fl):Prop :=
 ∀ s Q E,Ok W s->(∀ u W' s',Act W0 B nm env W' ρ'->Ok W' s'->FlR W' fl u->Q u s')->wpAny Mo A t Q E s
theorem sw_no {v:Expr}{id:Str}{px:Pos}{line:Nat}(h:swapsWith v (some (.Name id px)) line env=pure false):∃ b,swapsWith v (some (.Name id px)) line env=pure b/\(b=true->(∃ a g sc p,v=.ListComp a g sc p)\/(∃ a g sc p,v=.SetComp a g sc p)\/∃ a a' g sc p,v=.DictComp a a' g sc p) :=
 ⟨false,h,λz=>nf z⟩
theorem swaps_some {v:Expr}{id:Str}{px:Pos}{line:Nat}:∃ b,swapsWith v (some (.Name id px)) line env=pure b/\(b=true->(∃ a g sc p,v=.ListComp a g sc p)\/(∃ a g sc p,v=.SetComp a g sc p)\/∃ a a' g sc p,v=.DictComp a a' g sc p):=by
 cases v with
 | ListComp a g sc p=>exact ⟨_,rfl,λ_=>.inl ⟨a,g,sc,p,rfl⟩⟩
 | SetComp a g sc p=>exact ⟨_,rfl,λ_=>.inr (.inl ⟨a,g,sc,p,rfl⟩)⟩
 | DictComp a a' g sc p=>exact ⟨_,rfl,λ_=>.inr (.inr ⟨a,a',g,sc,p,rfl⟩)⟩
 | _=>exact sw_no rfl
theorem asg_value {id:Str}{px pos:Pos}{v:Expr}(hs:swapsWith v (some (.Name id px)) pos.line env=pure false){Q:Flow->Shared->Prop}
  (h:wpAny Mo A (eval v env) (λu s1=>wpAny Mo A (assign (.Name id px) env u) (λ_ s2=>Q .next s2) E s1) E s):wpAny Mo A (exec (.Assign [.Name id px] v pos) env) Q E s:=by
 rw [arm_exec_Assign]
 refine wpAny_bind (wpAny_standAt (wpAny_bind ?_))
 show wpAny _ _ (swapsWith v (some (.Name id px)) pos.line env) _ _ _
 rw [hs]
 refine wpAny_pure ?_
 rw [if_neg Bool.false_ne_true]
 refine wpAny_bind (wpAny_mono h (λu s1 h1=>wpAny_bind ?_) λ_ _ x=>x)
 have hsw:swappedStores [.Name id px] v env=pure none:=by
  unfold swappedStores
  clear h hs pos asg_value
  cases v<;>rfl
 rw [hsw]
 refine wpAny_pure ?_
 show wpAny _ _ (assign (.Name id px) env u>>=λ_=>pure Flow.next) _ _ _
 exact wpAny_bind (wpAny_mono h1 (λ_ s2 h2=>wpAny_pure h2) λ_ _ x=>x)
set_option tactic.hygienic true in
theorem asg_comp {n k:Nat}(o:Ops A cal G)(hE:∀ m,m<=n->EvOk A cal G m)(hT:∀ m,m<=n->TvOk A cal G m)(I0:Inv W0)(a:Act W0 B nm env W ρ){el:Expr}{gs:List Comprehension}{sc:Scope}{p pos:Pos}{id:Str}{px:Pos}{x:Tx}
  (ht:tgt nm (.Name id px)=some x) (hs:swapsWith (.ListComp el gs sc p) (some (.Name id px)) pos.line env=pure true)
  (h:ev cal G (n+1) ρ (cv (k+1) nm (.ListComp el gs sc p))=some d):StOk A (exec (.Assign [.Name id px] (.ListComp el gs sc p) pos) env) W0 B nm env W (setR ρ x (.d d)) .next:=by
 intro s Q E ok po
 have e:cv (k+1) nm (.ListComp el gs sc p)=if (okScope sc&&freeOk nm sc)=true then (match cvG (cv k) nm sc.names gs with | some l=>.comp (cv k sc.names el) l (freesOf sc) | none=>.bad) else .bad:=rfl
 rw [e] at h
 clear e asg_comp
 split at h
 ·rename_i hok
  rw [Bool.and_eq_true] at hok
  split at h
  ·rename_i l hl
   cases gs with
   | nil =>
    obtain rfl:=sq hl
    exact ns h
   | cons c rest =>
    obtain ⟨id',px',iter,ifs,x',l',rfl,hns,ht',hl',rfl⟩:=cvG_cons hl
    have h':(if isN (getR (frees (freesOf sc) ρ) x') then (match ev cal G n ρ (cv k nm iter) with
     | some d=>(match itemsD d with
      | some xs=>(match flat (λi=>eg cal G n (setR (frees (freesOf sc) ρ) x' (.d i)) (cv k sc.names el) (ifs.map (cv k sc.names)) l') xs with
       | some r=>if Nat.ble r.length lim then some (.list r) else none
       | none=>none)
      | none=>none)
     | none=>none) else none)=some d:=h
    clear hl
    obtain ⟨hx,h'⟩:=ite_val h'
    refine xEA (optD h') λdv hd h'=>?_
    refine xEA (optL h') λxs hi h'=>?_
    refine xEA (optL h') λr hf h'=>?_
    obtain ⟨hz,h'⟩:=ite_val h'
    obtain rfl:=sq h'
    have hz:=Nat.le_of_ble_eq_true hz
    rw [exec_Assign_Name_used _ _ _ _ hs]
    refine wpAny_bind (wpAny_standAt (wpAny_bind ?_))
    show wpAny _ A (do let _ ← comprehension (.ListComp el (⟨.Name id' px',iter,ifs,0⟩::rest) sc p) sc env _ (newList []) false (eval iter env) (some (assign (.Name id px) env))) _ _ s
    refine wpAny_bind (comp_core o.h (comp_loop o.h n (λm hm=>hE m (Nat.le_of_lt hm)) (λm hm=>hT m (Nat.le_of_lt hm))) (hE n (Nat.le_refl _)) a.I a.F ok hok.1 hok.2 hns ht' hl' hd hi hx hf hz λpl L W' s' items L' I' o' hp hp0 hL hL0 hpl hr ⟨m,hm⟩=>?_)
    have hne:pl≠L:=λz=>by
     subst z
     exact (rowF_list hpl).notNs hm rfl
    have Ld:=drop_le (W:=W') (p:=pl)
    have Id:=drop_inv I' (p:=pl)
    have hP1:∀ a∈[pl],a∈W'.pv:=mem1 hp
    have hLd:L∈(W'.drop pl).pv:=mem_drop.mpr ⟨hL,Ne.symm hne⟩
    have L1:Le [] W (W'.drop pl):=Le.own a.I L' Ld λa h=>by rw [List.mem_singleton] at h;subst h;exact ⟨hp,hp0⟩
    have hz':items.size<=lim:=by
     have:=hr.length
     rw [Array.length_toList] at this
     rw [this];exact hz
    have rp:Rep (W'.drop pl) (.list r) (.ref pl):=by
     exact ⟨pl,items,rfl,λh=>(mem_drop.mp h).2 rfl,hpl.isList,hz',hr.mono I' Ld.toLe0 hP1⟩
    have Fw:Fm (L::B) nm env W ρ:=a.F.weak λq hq hn hm=>by
     rcases List.mem_cons.mp hm with z | z
     ·exact hL0 (z▸hq)
     ·exact hn z
    have F1:=Fw.later a.I L1
    show wpAny _ A (assign (.Name id px) env (.ref pl)) _ _ _
    refine assign_at (ev:=.d (.list r)) Id F1 (⟨o'.1,o'.2.1,o'.2.2⟩:Ok (W'.drop pl) s') ht rp λq W2 s2 h1 h2 h3 L2 I2 o2 e2 F2=>?_
    have hqL:q≠L:=λz=>h2 (z▸.head _)
    have hq0:q∉B:=λz=>h2 (.tail _ z)
    have hm2:W2.h.Ns L m:=by
     obtain ⟨ob,es,ep,e1,r'⟩:=hm
     exact ⟨ob,es,ep,L2.toLe0.priv Id hLd (λz=>hqL (List.mem_singleton.mp z).symm) e1,r'⟩
    refine ⟨m,by rw [o2.1];exact hm2,λh' hs'=>?_⟩
    rw [o2.1] at hs'
    have hL2:L∈W2.pv:=by rw [e2];exact hLd
    have Le':=end_le I2 hL2 hs'.extBut
    have Ie:=end_inv I2 hL2 hs'.extBut
    have hPL:∀ a∈[L],a∈W2.pv:=mem1 hL2
    have hLB:L∉B:=λz=>hL0 (a.bs _ z)
    have Lall:LeB B W0 (({ W2 with h:=h' }:Wd).drop L):=((a.L.step I0 L1 λ_ h=>nomatch h).step I0 L2 (one_own h1 hq0)).step I0 Le' (one_own hL2 hLB)
    have Fe:=F2.pass I2 Le' hPL (mem1 (.head _)) (λb hb v hc=>by
     rw [List.mem_singleton] at hb
     clear hPL Le' I2 F2 hL2 I0 h1 hL0 hs' hLd e2 hqL Id hm h2 h3 rp ht o' F1 Fw hP1 Ld I' hr hz' hpl items hz hp0 hp L' hne hL hf hx hi hd hl' ht' hns hok ok hE hT o s hs E pos
     subst hb
     obtain ⟨ob,e1,hd1⟩:=hc
     obtain ⟨ob',es,ep,e3,hd3,_⟩:=hm2
     rw [e1] at e3;obtain rfl:=sq e3
     rw [hd1] at hd3;cases hd3)
    refine wpAny_pure (wpAny_pure (po .next _ _ ⟨Ie,Lall,Fe.weak λq _ hn h=>hn (.tail _ h),a.one.put λ_=>nofun,λb hb=>mem_drop.mpr ⟨L2.pvK b (L1.pvK b (a.bs b hb) λz=>nomatch z) λz=>hq0 (List.mem_singleton.mp z▸hb),λz=>hLB (z▸hb)⟩⟩ ⟨rfl,o2.2.1,o2.2.2⟩ rfl))
  ·exact ns h
 ·exact ns h
end
end
section
open PySem.Builtin PySem.Builtin.Str PySem.StrLaws
section
variable {A:Around}{W W' W0 W1 W2:Wd}{P B X:List Addr}{d:D}{s:Shared}{E:Value->Shared->Prop}{env:Env}
variable {cal:D->List D->Option D}{G:Tx->Option D}{nm:List (Str×NameKind)}{ρ ρ':Rho}
theorem Fm.mut (I:Inv W)(F:Fm B nm env W ρ)(one:One ρ){y:Tx}{xs:List D}(hl:isLoc (lkp nm y)=true)(hg:getR ρ y=some (.mut xs))(hcd:eqT y tClassDict=false) :
  ∃ p items,p∈W.pv/\p∉B/\W.h.PlainList p items/\items.size<=lim/\Reps W xs items.toList /\
   (∀ s (Q:Value->Shared->Prop) E,Ok W s->Q (.ref p) s->wpAny Mo A (loadName env (S y)) Q E s) /\
   ∀ W' ev',Le [p] W W'->EVR B W' ev' (.ref p)->Fm B nm env W' (setR ρ y ev'):=by
 have rest:∀ {p:Addr} {items:Array Value},W.h.PlainList p items->p∈W.pv->p∉B->∀ {W'},Le [p] W W'->∀ {x ev v},getR ρ x=some ev->x≠y->EVR B W ev v->EVR B W' ev v:=λ{p items} hpl hp hb {W'} L {x ev v} e hne r=>by
  have hP:∀ a∈[p],a∈W.pv:=mem1 hp
  refine r.mono I L hP λhn q hq z=>?_
  rw [List.mem_singleton] at hq
  subst hq
  match ev,r with
  | .d d,_=>exact hn d rfl
  | .mut zs,_=>exact hne (one _ _ _ _ e hg)
  | .itr zs,h =>
   obtain ⟨p',e',_,_,hi⟩:=h
   rw [z] at e';cases e'
   exact notF_list hpl hi.isF
 have key:∀ p items,p∈W.pv->p∉B->W.h.PlainList p items ->
   (∀ m,W.h.Ns env.locals m->(∀ x ev,lkp nm x=some .local->getR ρ x=some ev->ValR B W ev (m (S x)))->lkp nm y=some .local->m (S y)=some (.ref p)) ->
   (∀ c v0,(lkp nm y=some .cell\/lkp nm y=some .free)->env.cells.lookup (S y)=some c->W.h.IsCell c v0->v0=some (.ref p)) ->
   ∀ W' ev',Le [p] W W'->EVR B W' ev' (.ref p)->Fm B nm env W' (setR ρ y ev'):=by
  intro p items hp hb hpl hloc hcel W' ev' L hev
  have hR:=rowF_list hpl
  obtain ⟨m,hn,hm⟩:=F.ns
  have nl:env.locals∉[p]:=λz=>hR.notNs hn (List.mem_singleton.mp z)
  exact { F with
   lp:=L.pvK _ F.lp nl
   ns:=by
    obtain ⟨o,es,ep,ho,r⟩:=id hn
    refine ⟨m,⟨o,es,ep,L.toLe0.priv I F.lp nl ho,r⟩,λx ev k e=>?_⟩
    rw [getR_setR] at e
    split at e
    ·rename_i q
     have q':=eqT_iff.mp q
     subst q'
     obtain rfl:=sq e
     exact ⟨_,hloc m hn hm k,hev⟩
    ·rename_i q
     obtain ⟨v,e1,e2⟩:=hm x ev k e
     exact ⟨v,e1,rest hpl hp hb L e (λz=>q (eqT_iff.mpr z.symm)) e2⟩
   ce:=λx k=>by
    obtain ⟨c,v0,g1,g2,g3,g4⟩:=F.ce x k
    have hc:c∉[p]:=λz=>hR.notCell g3 (List.mem_singleton.mp z)
    refine ⟨c,v0,g1,L.pvK _ g2 hc,?_,λev e=>?_⟩
    ·obtain ⟨o,ho,hd⟩:=g3
     exact ⟨o,L.toLe0.priv I g2 hc ho,hd⟩
    ·rw [getR_setR] at e
     split at e
     ·rename_i q
      have q':=eqT_iff.mp q
      subst q'
      obtain rfl:=sq e
      exact ⟨_,hcel c v0 k g1 g3,hev⟩
     ·rename_i q
      obtain ⟨v,e1,e2⟩:=g4 ev e
      exact ⟨v,e1,rest hpl hp hb L e (λz=>q (eqT_iff.mpr z.symm)) e2⟩ }
 have nsfun:∀ {m m':Str->Option Value},W.h.Ns env.locals m->W.h.Ns env.locals m'->∀ x,m x=m' x:=λh1 h2 x=>by
  obtain ⟨o,es,ep,e,hd,_,h⟩:=h1
  obtain ⟨o',es',ep',e',hd',_,h'⟩:=h2
  rw [e] at e';obtain rfl:=sq e'
  rw [hd] at hd';cases hd'
  rw [<-h,← h']
 have cellfun:∀ {c:Addr} {v v':Option Value},W.h.IsCell c v->W.h.IsCell c v'->v=v':=λh1 h2=>by
  obtain ⟨o,e,hd⟩:=h1
  obtain ⟨o',e',hd'⟩:=h2
  rw [e] at e';obtain rfl:=sq e'
  rw [hd] at hd';cases hd'
  rfl
 rcases isLoc_iff hl with k | k | k
 ·obtain ⟨m,h1,h2⟩:=F.ns
  obtain ⟨v,e1,p,items,rfl,hp,hb,hpl,hz,hr⟩:=h2 y _ k hg
  refine ⟨p,items,hp,hb,hpl,hz,hr,λs Q E o q=>wpAny_loadName_local F.kind (F.kl y k) (by rw [o.1];exact h1) e1 q,?_⟩
  refine key p items hp hb hpl (λm' hn' _ _=>by rw [nsfun hn' h1];exact e1) (λc v0 k' _ _=>by rw [k] at k';rcases k' with z | z<;>cases z)
 ·obtain ⟨c,v0,h1,h2,h3,h4⟩:=F.ce y (.inl k)
  obtain ⟨v,rfl,p,items,rfl,hp,hb,hpl,hz,hr⟩:=h4 _ hg
  refine ⟨p,items,hp,hb,hpl,hz,hr,λs Q E o q=>wpAny_loadName_cell F.kind (F.kc y k) h1 (by rw [o.1];exact h3) q,?_⟩
  exact key p items hp hb hpl (λm' _ _ z=>by rw [k] at z;cases z) (λc' v0 _ e hc=>by rw [h1] at e;cases e;exact (cellfun h3 hc).symm)
 ·obtain ⟨c,v0,h1,h2,h3,h4⟩:=F.ce y (.inr k)
  obtain ⟨v,rfl,p,items,rfl,hp,hb,hpl,hz,hr⟩:=h4 _ hg
  refine ⟨p,items,hp,hb,hpl,hz,hr,λs Q E o q=>?_,?_⟩
  ·rcases F.kf y k with z | z
   ·refine wpAny_loadName_free F.kind z h1 (by rw [o.1];exact h3) q ?_
    rw [show (S y == ("__classdict__" : Str))=eqT y tClassDict from S_beq y _]
    exact hcd
   ·exact wpAny_loadName_cell F.kind z h1 (by rw [o.1];exact h3) q
  ·exact key p items hp hb hpl (λm' _ _ z=>by rw [k] at z;cases z) (λc' v0 _ e hc=>by rw [h1] at e;cases e;exact (cellfun h3 hc).symm)
theorem One.mut (h:One ρ){y:Tx}{xs ys:List D}(hg:getR ρ y=some (.mut xs)):One (setR ρ y (.mut ys)):=λa b zs ws h1 h2=>by
 rw [getR_setR] at h1 h2
 split at h1
 ·rename_i e1
  split at h2
  ·rename_i e2;rw [<-eqT_iff.mp e1,← eqT_iff.mp e2]
  ·rw [<-eqT_iff.mp e1];exact h _ _ _ _ hg h2
 ·split at h2
  ·rename_i e2;rw [<-eqT_iff.mp e2];exact h _ _ _ _ h1 hg
  ·exact h _ _ _ _ h1 h2
theorem meth_core {oe:Expr}{name:Str}{apos pos:Pos}{es:List Expr}(hbase:attributeBase oe name env (eval oe env)=eval oe env)(hline:(apos.endLine == pos.line)=true)(hn:noStar es=true)(hlen:es.length < 20){Q:Value->Shared->Prop}
  (h:wpAny Mo A (eval oe env) (λov s1=>∃ f first,(∀ pl (Q:Value×List Value->Shared->Prop) E,Q (f,first) s1->wpAny Mo A (getMethod ov name pl) Q E s1)/\wpAny Mo A (callWith pos f first (backTo pos (starEach es env)) []) Q E s1) E s) :
  wpAny Mo A (eval (.Call (.Attribute oe name apos) es [] pos) env) Q E s:=by
 rw [arm_eval_Call,hbase]
 refine wpAny_bind (wpAny_mono h (λov s1 h1=>wpAny_bind (wpAny_standAt ?_)) λ_ _ x=>x)
 refine xEEA h1 λf first hg hc=>?_
 try clear h1
 have hform:methodCallForm (es.length+([]:List Keyword).length) (backTo pos (starEach es env)) (backToKw pos (keywordEach [] env))=true:=by
  unfold methodCallForm
  have h1:(backTo pos (starEach es env)).all (!·.1)=true:=by
   have:=any_false (env:=env) (pos:=pos) hn
   rw [List.all_eq_not_any_not]
   simpa using this
  have h2:decide (es.length+([]:List Keyword).length+(if (backToKw pos (keywordEach [] env)).isEmpty then 0 else 1) < 30)=true:=by
   rw [decide_eq_true_eq]
   have:(backToKw pos (keywordEach [] env)).isEmpty=true:=rfl
   rw [if_pos this]
   simp;exact Nat.lt_trans hlen (by decide)
  rw [h1,h2];rfl
 have hpos:methodCallPos true oe env apos pos=pure pos:=by unfold methodCallPos;simp [hline]
 unfold methodCall
 rw [hform]
 refine wpAny_bind (wpAny_holding (hg _ _ _ ?_))
 exact wpAny_bind (wpAny_of_eq hpos hc)
theorem expr_call {f:Expr}{as:List Expr}{cp pos:Pos}(F:Fm B nm env W ρ){Q:Flow->Shared->Prop}(h:wpAny Mo A (eval (.Call f as [] cp) env) (λ_ s'=>Q .next s') E s):wpAny Mo A (exec (.Expr (.Call f as [] cp) pos) env) Q E s:=by
 rw [arm_exec_Expr]
 refine wpAny_bind (wpAny_standAt ?_)
 have hi:interactive env=false:=by
  unfold interactive
  rw [F.kind];rfl
 rw [hi]
 rw [if_neg Bool.false_ne_true]
 refine wpAny_bind (wpAny_pure ?_)
 rw [if_neg Bool.false_ne_true]
 refine wpAny_bind (wpAny_mono h (λv s1 h1=>?_) λ_ _ x=>x)
 exact wpAny_dropValue h1
theorem name_at {id:Str}{p:Pos}(hdb:eqT (tx id) tDebug=false){Q:Value->Shared->Prop}(h:wpAny Mo A (loadName env (S (tx id))) Q E s):wpAny Mo A (eval (.Name id p) env) Q E s:=by
 refine wpAny_Name ?_ (name_dbg hdb)
 rw [S_tx] at h
 exact h
theorem own_loc {k:Option NameKind}(h:isOwn k=true):isLoc k=true:=by
 rcases isOwn_iff h with e | e<;>(rw [e];rfl)
theorem pop_list (I:Inv W)(o:Ok W s){p:Addr}{items:Array Value}{v:Value}(hp:p∈W.pv)(hl:W.h.PlainList p items)(hz:items.size<=lim)(hv:items[items.size - 1]? = some v){Q:Value->Shared->Prop}
  (q:∀ W' s',Le [p] W W'->Inv W'->Ok W' s'->W'.pv=W.pv->W'.h.PlainList p items.pop->Q v s'):wpAny Mo A (call (.builtin "list.pop") [.ref p]) Q E s:=by
 obtain ⟨n,hl⟩:=hl
 have hl':s.heap.get? p=some { cls:=.type "list",data:=.seq items n }:=by rw [o.1];exact hl
 refine call_meets PySem.F.slot_list_pop ⟨_,hl',rfl⟩ PySem.F.entry_list_pop (PySem.F.args_list_pop_1 _) (PySem.MeetsSeq.list_pop_last p items n v hv (lim_ok hz)) ⟨hl',?_⟩
 have hpos:0 < items.size:=by
  rcases Nat.eq_zero_or_pos items.size with h0 | h0
  ·simp [h0] at hv
  ·exact h0
 have he:items.eraseIdxIfInBounds (items.size - 1)=items.pop:=by
  apply Array.toList_inj.mp
  rw [Array.toList_pop,Array.toList_eraseIdxIfInBounds,List.dropLast_eq_take,List.eraseIdx_eq_take_drop_succ]
  simp
  exact Nat.sub_le_iff_le_add.mp (Nat.le_refl _)
 have hm:∃ n',Obj.mapSeq (λxs=>xs.eraseIdxIfInBounds (items.size - 1)) { cls:=.type "list",data:=.seq items n }={ cls:=.type "list",data:=.seq items.pop n' }:=by
  rw [<-he]
  exact ⟨_,rfl⟩
 obtain ⟨n',hm⟩:=hm
 have hs:Heap.SameBut p s.heap (s.heap.update p (Obj.mapSeq λxs=>xs.eraseIdxIfInBounds (items.size - 1))):=Heap.SameBut.update ..
 have hself:(s.heap.update p (Obj.mapSeq λxs=>xs.eraseIdxIfInBounds (items.size - 1))).get? p=some { cls:=.type "list",data:=.seq items.pop n' }:=by
  rw [Heap.get?_update_self _ hl' (by rw [hm];rfl),hm]
 have hs':Heap.ExtBut p W.h (s.heap.update p (Obj.mapSeq λxs=>xs.eraseIdxIfInBounds (items.size - 1))):=by rw [<-o.1];exact hs.extBut
 exact q { W with h:=s.heap.update p (Obj.mapSeq λxs=>xs.eraseIdxIfInBounds (items.size - 1)) } _ (turn_le I hp hs') (turn_inv I hp hs' ⟨_,hself⟩) ⟨rfl,o.2.1,o.2.2⟩ rfl ⟨n',hself⟩
theorem st_app {n k:Nat}(hE:EvOk A cal G n)(I0:Inv W0)(a:Act W0 B nm env W ρ){oi m:Str}{op apos cp pos:Pos}{e:Expr}{xs:List D}(hm:eqT (tx m) tAppend=true)(ho:isOwn (lkp nm (tx oi))=true)(hdb:eqT (tx oi) tDebug=false)(hcd:eqT (tx oi) tClassDict=false)
  (hline:Nat.beq apos.endLine cp.line=true) (hn:noStar [e]=true) (hg:getR ρ (tx oi)=some (.mut xs)) (hd:ev cal G n ρ (cv k nm e)=some d) (hz:xs.length < lim) :
  StOk A (exec (.Expr (.Call (.Attribute (.Name oi op) m apos) [e] [] cp) pos) env) W0 B nm env W (setR ρ (tx oi) (.mut (xs++[d]))) .next:=by
 intro s Q E o po
 obtain ⟨p,items,hp,hb,hpl,hsz,hr,hld,hfm⟩:=a.F.mut a.I a.one (own_loc ho) hg hcd
 have hm':m = "append" := by
  have:=S_tx m
  rw [eqT_iff.mp hm] at this
  exact this.symm
 subst hm'
 refine expr_call a.F (meth_core rfl (by rw [beq_iff_eq];exact Nat.eq_of_beq_eq_true hline) hn (by simp) (name_at hdb (hld s _ _ o ?_)))
 obtain ⟨nn,hobj⟩:=id hpl
 refine ⟨.builtin "list.append",[.ref p],λpl Q E q=>Calls.getMethod_list_append (by rw [o.1];exact hobj) rfl rfl q,callWith_core hn ?_⟩
 have hse:=star1 hn [] env
 refine wpAny_items_cons (hE.go hd a.F a.I W (Le.refl W) a.I s _ _ o λv W1 s1 L1 I1 o1 r1=>wpAny_items_nil ?_) hse
 have hp1:=L1.pvK p hp (λz=>nomatch z)
 have hpl1:=PlainList.priv a.I L1.toLe0 hp (λz=>nomatch z) hpl
 have hlen:items.size=xs.length:=by have:=hr.length;rw [Array.length_toList] at this;exact this
 refine ⟨.machine,.inr (.inl rfl),λQ E q=>wpAny_pure q,append_at I1 o1 hp1 hpl1 hsz λW2 s2 L2 I2 o2 e2 hl2=>?_⟩
 have hP:∀ a∈[p],a∈W1.pv:=mem1 hp1
 have L12:Le [p] W W2:=(L1.nil).trans L2
 refine po .next W2 s2 (a.turn I0 L12 I2 (one_own hp hb) ?_ (a.one.mut hg)) o2 rfl
 refine hfm W2 _ L12 ⟨p,items.push v,rfl,by rw [e2];exact hp1,hb,hl2,by rw [Array.size_push,hlen];exact hz,?_⟩
 rw [Array.toList_push]
 exact ((hr.later a.I L1).mono I1 L2.toLe0 hP).append (by exact ⟨v,[],rfl,r1.mono I1 L2.toLe0 hP,rfl⟩)
theorem reps_last {xs:List D}{vs:List Value}(h:Reps W xs vs)(hne:xs≠[]):∃ v d,vs.getLast? = some v/\xs.getLast? = some d/\Rep W d v/\Reps W xs.dropLast vs.dropLast:=by
 have hl:=h.length
 have hpos:0 < xs.length:=List.length_pos_iff.mpr hne
 obtain ⟨d,hd⟩:∃ d,xs[xs.length - 1]? = some d:=⟨xs[xs.length - 1],List.getElem?_eq_getElem (Nat.sub_lt hpos Nat.one_pos)⟩
 refine xEA (h.get hd) λv hv hr=>?_
 refine ⟨v,d,?_,?_,hr,?_⟩
 ·rw [List.getLast?_eq_getElem?,hl];exact hv
 ·rw [List.getLast?_eq_getElem?];exact hd
 ·rw [List.dropLast_eq_take,List.dropLast_eq_take,hl]
  exact h.take _
theorem pop_eval (a:Act W0 B nm env W ρ)(I0:Inv W0){oi m:Str}{op apos cp:Pos}{xs:List D}(hm:eqT (tx m) tPop=true)(ho:isOwn (lkp nm (tx oi))=true)(hdb:eqT (tx oi) tDebug=false)(hcd:eqT (tx oi) tClassDict=false)
  (hline:Nat.beq apos.endLine cp.line=true) (hg:getR ρ (tx oi)=some (.mut xs)) (hne:xs≠[]) (o:Ok W s) {Q:Value->Shared->Prop}
  (q:∀ v d W' s',xs.getLast? = some d->Rep W' d v->Act W0 B nm env W' (setR ρ (tx oi) (.mut xs.dropLast))->Ok W' s'->Q v s') :
  wpAny Mo A (eval (.Call (.Attribute (.Name oi op) m apos) [] [] cp) env) Q E s:=by
 obtain ⟨p,items,hp,hb,hpl,hsz,hr,hld,hfm⟩:=a.F.mut a.I a.one (own_loc ho) hg hcd
 have hm':m = "pop" := by
  have:=S_tx m
  rw [eqT_iff.mp hm] at this
  exact this.symm
 subst hm'
 refine meth_core rfl (by rw [beq_iff_eq];exact Nat.eq_of_beq_eq_true hline) rfl (by decide) (name_at hdb (hld s _ _ o ?_))
 obtain ⟨nn,hobj⟩:=id hpl
 refine ⟨.builtin "list.pop",[.ref p],λpl Q E q=>getMethod_builtin ⟨_,by rw [o.1];exact hobj,rfl⟩ PySem.F.plainAttrs_list PySem.F.slot_list_pop PySem.F.type_list_pop (λb e=>by cases e;exact ⟨_,by rw [o.1];exact hobj,rfl⟩) q,callWith_core rfl (wpAny_items_nil ?_)⟩
 refine xEEAAA (reps_last hr hne) λv d hv hd rv rr=>?_
 have hv':items[items.size - 1]? = some v:=by
  rw [List.getLast?_eq_getElem?,Array.length_toList,Array.getElem?_toList] at hv
  exact hv
 refine ⟨.machine,.inr (.inl rfl),λQ E q=>wpAny_pure q,pop_list a.I o hp hpl hsz hv' λW2 s2 L2 I2 o2 e2 hl2=>?_⟩
 have hP:∀ a∈[p],a∈W.pv:=mem1 hp
 refine q v d W2 s2 hd (rv.mono a.I L2.toLe0 hP) (a.turn I0 L2 I2 (one_own hp hb) ?_ (a.one.mut hg)) o2
 refine hfm W2 _ L2 ⟨p,items.pop,rfl,by rw [e2];exact hp,hb,hl2,by rw [Array.size_pop];exact Nat.le_trans (Nat.sub_le _ _) hsz,?_⟩
 rw [Array.toList_pop]
 exact rr.mono a.I L2.toLe0 hP
end
end
section
open PySem.Builtin PySem.Builtin.Str PySem.StrLaws
section
variable {A:Around}{W W' W0 W1 W2:Wd}{P B X:List Addr}{d:D}{s:Shared}{E:Value->Shared->Prop}{env:Env}
variable {cal:D->List D->Option D}{G:Tx->Option D}{nm:List (Str×NameKind)}{ρ ρ':Rho}
theorem freeze_at (I0:Inv W0)(a:Act W0 B nm env W ρ){y:Tx}{xs:List D}(hl:isLoc (lkp nm y)=true)(hg:getR ρ y=some (.mut xs))(hcd:eqT y tClassDict=false) :
  ∃ p W',(∀ s (Q:Value->Shared->Prop) E,Ok W s->Q (.ref p) s->wpAny Mo A (loadName env (S y)) Q E s)/\Act W0 B nm env W' (setR ρ y (.d (.list xs)))/\(∀ s,Ok W s->Ok W' s)/\Rep W' (.list xs) (.ref p):=by
 obtain ⟨p,items,hp,hb,hpl,hsz,hr,hld,hfm⟩:=a.F.mut a.I a.one hl hg hcd
 have Ld:=drop_le (W:=W) (p:=p)
 have hP:∀ a∈[p],a∈W.pv:=mem1 hp
 have rp:Rep (W.drop p) (.list xs) (.ref p):=by
  exact ⟨p,items,rfl,λh=>(mem_drop.mp h).2 rfl,hpl.isList,hsz,hr.mono a.I Ld.toLe0 hP⟩
 refine ⟨p,W.drop p,λs Q E o q=>hld s Q E o q,a.turn I0 Ld (drop_inv a.I) (one_own hp hb) (hfm _ _ Ld rp) (a.one.put λ_=>nofun),λs o=>⟨o.1,o.2.1,o.2.2⟩,rp⟩
theorem ret_value {e:Expr}{pos:Pos}{Q:Flow->Shared->Prop}(h:wpAny Mo A (eval e env) (λv s'=>Q (.ret v) s') E s):wpAny Mo A (exec (.Return (some e) pos) env) Q E s:=by
 rw [arm_exec_Return]
 exact wpAny_bind (wpAny_standAt (wpAny_bind (wpAny_mono h (λv s' h'=>wpAny_pure h') λ_ _ x=>x)))
set_option tactic.hygienic true in
theorem block_ok {f:Rho->MS->Option (Rho×Fl)}{cvf:Stmt->MS}(I0:Inv W0)(hf:∀ st ρ W ρ' fl,f ρ (cvf st)=some (ρ',fl)->Act W0 B nm env W ρ->StOk A (exec st env) W0 B nm env W ρ' fl) :
  ∀ (sts:List Stmt) (ρ:Rho) (W:Wd) (ρ':Rho) (fl:Fl),exl f ρ (sts.map cvf)=some (ρ',fl)->Act W0 B nm env W ρ->StOk A (execs sts env) W0 B nm env W ρ' fl
 | [],ρ,W,ρ',fl,h,a=>by
  obtain ⟨rfl,rfl⟩:=sqp h
  exact λs Q E o po=>wpAny_execs_nil (po .next W s a o rfl)
 | st::r,ρ,W,ρ',fl,h,a=>by
  intro s Q E o po
  rw [List.map_cons] at h
  unfold exl at h
  refine wpAny_execs_cons ?_
  split at h
  ·rename_i ρ1 h1
   refine hf st ρ W ρ1 .next h1 a s _ _ o λu W1 s1 a1 o1 hu=>?_
   have hu':u=.next:=hu
   subst hu'
   exact block_ok I0 hf r ρ1 W1 ρ' fl h a1 s1 Q E o1 po
  ·rename_i hx
   refine hf st ρ W ρ' fl h a s _ _ o λu W1 s1 a1 o1 hu=>?_
   have hne:fl≠.next:=λe=>by subst e;exact hx ρ' h
   match fl,hu,hne with
   | .next,_,hn=>exact absurd rfl hn
   | .brk,hu,_=>have e:u=.brk:=hu;subst e;exact po _ W1 s1 a1 o1 rfl
   | .cont,hu,_=>have e:u=.cont:=hu;subst e;exact po _ W1 s1 a1 o1 rfl
   | .ret d,hu,_ =>
    obtain ⟨v,rfl,r⟩:=hu
    exact po _ W1 s1 a1 o1 ⟨v,rfl,r⟩
inductive ForSt (W0:Wd)(B:List Addr)(nm:List (Str×NameKind))(env:Env)(J:Addr)(f:Rho->D->Option (Rho×Fl))(ρ':Rho)(fl:Fl)(n:Nat)(s:Shared):Prop
 | mk (W:Wd) (ρ:Rho) (xs:List D) (hn:xs.length=n) (h:loopD f ρ xs=some (ρ',fl)) (a:Act W0 B nm env W ρ) (hF:Fm (J::B) nm env W ρ) (hJ:J∈W.pv) (it:Itr W J xs) (o:Ok W s)
theorem for_ok (hh:A.handled=none)(I0:Inv W0){f:Rho->Option (Rho×Fl)}{body:List Stmt}{id:Str}{px:Pos}{x:Tx}{ρ':Rho}{fl:Fl}(ht:tgt nm (.Name id px)=some x)
  (hf:∀ W0 B ρ W ρ' fl,f ρ=some (ρ',fl)->Inv W0->Act W0 B nm env W ρ->StOk A (execs body env) W0 B nm env W ρ' fl) {xs:List D}
  (h:loopD (λρ d=>f (setR ρ x (.d d))) ρ xs=some (ρ',fl)) {J:Addr}
  (a:Act W0 B nm env W ρ) (hJ:J∈W.pv) (hJB:J∉B) (hJρ:Fm (J::B) nm env W ρ) (it:Itr W J xs) (o:Ok W s) {R:Result->Shared->Prop}
  (q:∀ u W' s',Act W0 B nm env W' ρ'->Ok W' s'->FlR W' fl u->R (.ok u) s') :
  codeAny Mo A (.forLoop (.Name id px) (.ref J) body [] env) R s:=by
 refine codeAny_forLoop_any (ForSt W0 B nm env J (λρ d=>f (setR ρ x (.d d))) ρ' fl) (λn s hI=>?_) xs.length ⟨W,ρ,xs,rfl,h,a,hJρ,hJ,it,o⟩
 obtain ⟨W,ρ,xs,rfl,h,a,hJρ,hJ,it,o⟩:=hI
 have hP:∀ a∈[J],a∈W.pv:=mem1 hJ
 have pass:∀ {W1},Le [J] W W1->Fm (J::B) nm env W1 ρ:=λL1=>hJρ.pass a.I L1 hP (mem1 (.head _)) (λb hb v hc=>by
  rw [List.mem_singleton] at hb
  subst hb
  exact it.isF.rowF.notCell hc rfl)
 have wk:∀ {W1 ρ1},Fm (J::B) nm env W1 ρ1->Fm B nm env W1 ρ1:=λF=>F.weak λq _ hn h=>hn (.tail _ h)
 cases xs with
 | nil =>
  obtain ⟨rfl,rfl⟩:=sqp h
  refine Itr.stop hh a.I o hJ it λW1 s1 L1 I1 o1=>?_
  exact wpAny_execs_nil (q .next W1 s1 (a.turn I0 L1 I1 (one_own hJ hJB) (wk (pass L1)) a.one) o1 rfl)
 | cons d xs =>
  refine Itr.next hh a.I o hJ it λv W1 s1 L1 I1 o1 e1 r1 it1=>?_
  have a1:Act W0 B nm env W1 ρ:=a.turn I0 L1 I1 (one_own hJ hJB) (wk (pass L1)) a.one
  have hJ1:J∈W1.pv:=by rw [e1];exact hJ
  have a1':Act W1 (J::B) nm env W1 ρ:=⟨I1,.le (Le.refl W1),pass L1,a.one,λb hb=>by
   rcases List.mem_cons.mp hb with z | z
   ·exact z▸hJ1
   ·exact a1.bs b z⟩
  refine wpAny_pure (a1'.put (ev:=.d d) I1 o1 ht r1 (a.one.put λ_=>nofun) λW2 s2 a2 o2 _=>?_)
  have back:∀ {W3 ρ3},Act W1 (J::B) nm env W3 ρ3->Act W0 B nm env W3 ρ3/\J∈W3.pv/\Itr W3 J xs:=λ{W3 ρ3} a3=>by
   have aL:=a3.L
   obtain ⟨X,LX,hX⟩:=aL
   have hn:J∉X:=λz=>(hX J z).2 (.head _)
   exact ⟨⟨a3.I,a1.L.trans I0 a3.L λq hq=>.tail _ hq,wk a3.F,a3.one,λb hb=>a3.bs b (.tail _ hb)⟩,LX.pvK J hJ1 hn,it1.mono I1 LX.toLe0 (λz hz=>(hX z hz).1) hJ1 hn⟩
  have h':(match f (setR ρ x (.d d)) with
   | some (ρ',.next)=>loopD (λρ d=>f (setR ρ x (.d d))) ρ' xs
   | some (ρ',.cont)=>loopD (λρ d=>f (setR ρ x (.d d))) ρ' xs
   | some (ρ',.brk)=>some (ρ',.next)
   | some (ρ',.ret d)=>some (ρ',.ret d)
   | none=>none)=some (ρ',fl):=h
  cases hb:f (setR ρ x (.d d)) with
  | none=>rw [hb] at h';exact ns h'
  | some r =>
   obtain ⟨ρ3,fl3⟩:=r
   rw [hb] at h'
   refine hf W1 (J::B) _ W2 ρ3 fl3 hb I1 a2 s2 _ _ o2 λu W3 s3 a3 o3 hu=>?_
   refine xAA (back a3) λa4 hJ4 it4=>?_
   match fl3,hu,h' with
   | .next,hu,h' =>
    have e:u=.next:=hu
    subst e
    exact ⟨xs.length,by simp,W3,ρ3,xs,rfl,h',a4,a3.F,hJ4,it4,o3⟩
   | .cont,hu,h' =>
    have e:u=.cont:=hu
    subst e
    exact ⟨xs.length,by simp,W3,ρ3,xs,rfl,h',a4,a3.F,hJ4,it4,o3⟩
   | .brk,hu,h' =>
    have e:u=.brk:=hu
    subst e
    obtain ⟨rfl,rfl⟩:=sqp h'
    exact q .next W3 s3 a4 o3 rfl
   | .ret d,hu,h' =>
    obtain ⟨v,rfl,r⟩:=hu
    obtain ⟨rfl,rfl⟩:=sqp h'
    exact q _ W3 s3 a4 o3 ⟨v,rfl,r⟩
end
end
section
open PySem.Builtin PySem.Builtin.Str PySem.StrLaws PySem.Calls
section
variable {A:Around}{W W' W0 W1 W2:Wd}{P B X:List Addr}{d:D}{s:Shared}{E:Value->Shared->Prop}{env:Env}
variable {cal:D->List D->Option D}{G:Tx->Option D}{nm:List (Str×NameKind)}{ρ ρ':Rho}
theorem iter_call (I:Inv W)(o:Ok W s){xs:List D}{v:Value}(r:Rep W (.list xs) v){Q:Value->Shared->Prop}
  (q:∀ J W' s',Le [] W W'->Inv W'->Ok W' s'->J∈W'.pv->W.h.get? J=none->Itr W' J xs->Q (.ref J) s'):wpAny Mo A (call (.builtin "iter") [v]) Q E s:=by
 refine call_function_entry (by decide +kernel) (by decide +kernel) kdk_entry_iter (kdk_args_iter _) ?_
 unfold Builtin.«iter»
 refine wpAny_bind (m:=someArgs "iter" 1 2 _) (wpAny_of_eq (a:=[v]) (by first | rfl | kernel_rfl!) ?_)
 show wpAny _ _ (pyIter v>>=_) _ _ _
 refine wpAny_bind (iter_at I o (d:=.list xs) rfl r λJ W' s' L' I' o' hJ hn it=>?_)
 exact wpAny_pure ⟨_,rfl,q J W' s' L' I' o' hJ hn it⟩
noncomputable def EnumOk (A:Around):Prop:=∀ (nm:List (Str×NameKind)) (env:Env) (W0:Wd) (B:List Addr) (W:Wd) (ρ:Rho) (f:Rho->Option (Rho×Fl)) (body:List Stmt) (i c g:Str) (pi pc gp pt cp pos:Pos) (kt:Nat) (x y:Tx) (src:Expr) (xs:List D) (ρ':Rho) (fl:Fl),
 Inv W0->Act W0 B nm env W ρ->tgt nm (.Name i pi)=some x->tgt nm (.Name c pc)=some y->isNm nm tEnum (.Name g gp)=true->noStar [src]=true->eqT x y=false ->
 (∀ W0 B ρ W ρ' fl,f ρ=some (ρ',fl)->Inv W0->Act W0 B nm env W ρ->StOk A (execs body env) W0 B nm env W ρ' fl)->GvA A (eval src env) W (.list xs) ->
 loopN (λρ k d=>f (setR (setR ρ x (.d (.int k))) y (.d d))) ρ 0 xs=some (ρ',fl) ->
 StOk A (exec (.For (.Tuple [.Name i pi,.Name c pc] kt pt) (.Call (.Name g gp) [src] [] cp) body [] pos) env) W0 B nm env W ρ' fl
noncomputable def SetAsg (A:Around)(cal:D->List D->Option D)(G:Tx->Option D):Prop:=∀ k (nm:List (Str×NameKind)) (env:Env) (W0:Wd) (B:List Addr) (W:Wd) (ρ:Rho) v id px kt pt pos x,
 Inv W0->Act W0 B nm env W ρ->tgt nm (.Name id px)=some x->ev cal G K ρ (cv k nm v)=some .bset->StOk A (exec (.Assign [.Tuple [.Name id px] kt pt] v pos) env) W0 B nm env W (setR ρ x (.d (.bool true))) .next
structure Ops2 (A:Around)(cal:D->List D->Option D)(G:Tx->Option D):Prop extends Ops A cal G where
 ev:∀ n,EvOk A cal G n/\EvtOk A cal G n/\TvOk A cal G n
 enum:EnumOk A
 sets:SetAsg A cal G
theorem cv_lst {k:Nat}{v:Expr}(h:cv k nm v=.lst []):∃ pos,v=.List [] pos:=by
 have hx:tagX v=9:=cv_kind h (Nat.ne_of_beq_eq_false rfl)
 cases k with
 | zero=>exact nx ME.ctorIdx h rfl
 | succ k =>
  cases v with
  | List es pos =>
   have e:cv (k+1) nm (.List es pos)=if noStar es=true then .lst (es.map (cv k nm)) else .bad:=rfl
   rw [e] at h
   split at h
   ·injection h with h
    exact ⟨pos,by rw [List.map_eq_nil_iff.mp h]⟩
   ·exact nx ME.ctorIdx h rfl
  | _=>exact absurd hx (Nat.ne_of_beq_eq_false rfl)
theorem ite_then {c:Bool}{a b m:ME}(h:(if c=true then a else b)=m)(hb:b≠m):c=true/\a=m:=by
 cases c
 ·exact absurd h hb
 ·exact ⟨rfl,h⟩
theorem tag_Call {v:Expr}(h:tagX v=14):∃ f as ks p,v=.Call f as ks p:=by
 cases v with
 | Call f as ks p=>exact ⟨f,as,ks,p,rfl⟩
 | _=>exact absurd h (Nat.ne_of_beq_eq_false rfl)
noncomputable def CallV (nm:List (Str×NameKind))(k:Nat)(v:Expr)(f:Tx)(a:ME):Prop:=∃ k' i p a' pos,k=k'+1/\v=.Call (.Name i p) [a'] [] pos/\noStar [a']=true/\cv k' nm (.Name i p)=.glo f/\cv k' nm a'=a
theorem call0_inv {k:Nat}{as:List Expr}{i:Str}{p pos:Pos}{f:Tx}{a:ME}(h:cvCall0 (cv k nm) nm (.Name i p) as=.call (.glo f) [a]):CallV nm (k+1) (.Call (.Name i p) as [] pos) f a:=by
 unfold cvCall0 at h
 cases ht:tmapArg as with
 | some q=>rw [ht] at h;exact nx ME.ctorIdx (ite_then h nofun).2 rfl
 | none =>
  rw [ht] at h
  obtain ⟨hc,h3⟩:=ite_then h nofun
  rw [Bool.and_eq_true] at hc
  injection h3 with h4 h5
  clear h ht
  rcases as with _ | ⟨a',_ | ⟨a2,as⟩⟩
  ·cases h5
  ·exact ⟨k,i,p,a',pos,rfl,rfl,hc.1,h4,(List.cons.inj h5).1⟩
  ·cases (List.cons.inj h5).2
theorem callK_inv {k:Nat}{as:List Expr}{ks:List Keyword}{e:Expr}{g:ME}{xs:List ME}{P:Prop}(h:cvCallK (cv k nm) nm e as ks=.call g xs):P:=by
 unfold cvCallK at h
 cases hq:keyArg ks with
 | none=>rw [hq] at h;exact nx ME.ctorIdx h rfl
 | some q =>
  rw [hq] at h
  cases ho:oneArg as with
  | none=>rw [ho] at h;exact nx ME.ctorIdx h rfl
  | some x=>rw [ho] at h;exact nx ME.ctorIdx (ite_then h nofun).2 rfl
theorem cv_call1 {k:Nat}{v:Expr}{f:Tx}{a:ME}(h:cv k nm v=.call (.glo f) [a]):CallV nm k v f a:=by
 obtain ⟨g,as,ks,pos,rfl⟩:=tag_Call (cv_kind h (Nat.ne_of_beq_eq_false rfl))
 cases k with
 | zero=>exact nx ME.ctorIdx h rfl
 | succ k =>
  cases g with
  | Name i p =>
   have h2:(if ks.isEmpty=true then cvCall0 (cv k nm) nm (.Name i p) as else cvCallK (cv k nm) nm (.Name i p) as ks)=.call (.glo f) [a]:=h
   rcases ite_or h2 with ⟨hk,e⟩ | ⟨_,e⟩
   ·obtain rfl:=List.isEmpty_iff.mp hk
    exact call0_inv e
   ·exact callK_inv e
  | Attribute oe m apos=>exact nx ME.ctorIdx (ite_then (show (if (ks.isEmpty&&!badBase oe&&noStar as&&Nat.beq apos.endLine pos.line&&Nat.blt as.length 20)=true then ME.meth (cv k nm oe) (tx m) (as.map (cv k nm)) else .bad)=.call (.glo f) [a] from h) nofun).2 rfl
  | _=>exact nx ME.ctorIdx (show ME.bad=.call (.glo f) [a] from h) rfl
theorem cv_glo {k:Nat}{i:Str}{p:Pos}{f:Tx}(h:cv k nm (.Name i p)=.glo f):f=tx i/\eqT (tx i) tDebug=false/\isGlo (lkp nm (tx i))=true:=by
 cases k with
 | zero=>exact nx ME.ctorIdx h rfl
 | succ k =>
  have e:cv (k+1) nm (.Name i p)=if (eqT (tx i) tDebug||eqT (tx i) tClassDict)=true then .bad else if isLoc (lkp nm (tx i))=true then .loc (tx i) else if isGlo (lkp nm (tx i))=true then .glo (tx i) else .bad:=rfl
  rw [e] at h
  split at h
  ·exact nx ME.ctorIdx h rfl
  ·rename_i h1
   rw [Bool.or_eq_true,not_or] at h1
   split at h
   ·exact nx ME.ctorIdx h rfl
   ·split at h
    ·rename_i h2
     cases h
     exact ⟨rfl,by simpa using h1.1,h2⟩
    ·exact nx ME.ctorIdx h rfl
theorem asg_gen (o:Ops2 A cal G)(I0:Inv W0)(a:Act W0 B nm env W ρ){id:Str}{px pos:Pos}{x:Tx}{v:Expr}{k:Nat}(ht:tgt nm (.Name id px)=some x)(hd:ev cal G K ρ (cv k nm v)=some d)(hns:∀ a b c,cv k nm v≠.scomp a b c) :
  StOk A (exec (.Assign [.Name id px] v pos) env) W0 B nm env W (setR ρ x (.d d)) .next:=by
 refine xEA (swaps_some (env:=env) (v:=v) (id:=id) (px:=px) (line:=pos.line)) λb hs hb=>?_
 cases b with
 | false =>
  intro s Q E ok po
  refine asg_value hs ((o.ev K).1.go hd a.F a.I W (Le.refl W) a.I s _ _ ok λu W1 s1 L1 I1 o1 r1=>?_)
  exact (a.le I0 L1 I1).put (ev:=.d d) I0 o1 ht r1 (a.one.put λ_=>nofun) λW2 s2 a2 o2 _=>po .next W2 s2 a2 o2 rfl
 | true =>
  rcases hb rfl with ⟨e,g,sc,p,rfl⟩ | ⟨e,g,sc,p,rfl⟩ | ⟨e,e',g,sc,p,rfl⟩
  ·cases k with
   | zero=>exact ns hd
   | succ k=>exact asg_comp (n:=39) o.toOps (λm _=>(o.ev m).1) (λm _=>(o.ev m).2.2) I0 a ht hs hd
  ·exfalso
   cases k with
   | zero=>exact ns hd
   | succ k =>
    have e2:cv (k+1) nm (.SetComp e g sc p)=if (okScope sc&&freeOk nm sc)=true then (match cvG (cv k) nm sc.names g with | some l=>.scomp (cv k sc.names e) l (freesOf sc) | none=>.bad) else .bad:=rfl
    rw [e2] at hd hns
    cases hc:(okScope sc&&freeOk nm sc) with
    | false=>rw [hc] at hd;exact ns hd
    | true =>
     rw [hc,if_pos rfl] at hd hns
     cases hl:cvG (cv k) nm sc.names g with
     | none=>rw [hl] at hd;exact ns hd
     | some l=>rw [hl] at hns;exact hns _ _ _ rfl
  ·cases k<;>exact ns hd
end
end
section
open PySem.Builtin PySem.Builtin.Str PySem.StrLaws PySem.Calls
section
variable {A:Around}{W W' W0 W1 W2:Wd}{P B X:List Addr}{d:D}{s:Shared}{E:Value->Shared->Prop}{env:Env}
variable {cal:D->List D->Option D}{G:Tx->Option D}{nm:List (Str×NameKind)}{ρ ρ':Rho}
theorem oif {α:Type}{c:Bool}{a b:Option α}{r:α}(h:(if c=true then a else b)=some r):(c=true/\a=some r)\/(c=false/\b=some r):=by
 cases c
 ·exact .inr ⟨rfl,h⟩
 ·exact .inl ⟨rfl,h⟩
theorem notSc {m:ME}(h:isSc m=false)(a:ME)(b:List (Tx×ME×List ME))(c:List Tx):m≠.scomp a b c:=λe=>by subst e;exact nf h.symm
theorem nil0_ok {m:ME}(h:isNil0 m=true):m=.lst []:=by
 cases m with
 | lst es=>rw [List.isEmpty_iff.mp h]
 | _=>exact nf h
theorem bi3_ok {d:D}(h:isBi3 d=true):d=.bi 3:=by
 cases d with
 | bi k=>rw [Nat.eq_of_beq_eq_true h]
 | _=>exact nf h
theorem asgV_inv {x:Tx}{fl:Fl}{q:Option D}(h:asgV ρ x q=some (ρ',fl)):∃ d,q=some d/\ρ'=setR ρ x (.d d)/\fl=.next:=by
 cases q with
 | none=>exact ns h
 | some d=>obtain ⟨rfl,rfl⟩:=sqp h;exact ⟨d,rfl,rfl,rfl⟩
theorem exq_asg (n:Nat)(ρ:Rho)(x:Tx)(m:ME):ex cal G (n+1) ρ (.asg x m)=(match locOf m with
   | some c=>asgLoc ρ x c.y (getR ρ c.y)
   | none=>if isNil0 m then some (setR (dropM ρ) x (.mut []),.next) else if isSc m then none else (match gloOf m with
    | some c=>if eqT c.f tIter then asgIt ρ x (G c.f) (ev cal G K ρ c.a) else asgV ρ x (ev cal G K ρ m)
    | none=>asgV ρ x (ev cal G K ρ m))):=rfl
theorem exq_ret (n:Nat)(ρ:Rho)(m:ME):ex cal G (n+1) ρ (.ret m)=(match locOf m with
   | some c=>retLoc ρ c.y (getR ρ c.y)
   | none=>(match ev cal G K ρ m with | some d=>some (ρ,Fl.ret d) | none=>none)):=rfl
section
variable {n k:Nat}{id:Str}{px pos:Pos}{x:Tx}{v:Expr}{fl:Fl}
theorem asg_loc (I0:Inv W0)(a:Act W0 B nm env W ρ)(ht:tgt nm (.Name id px)=some x){y:Tx}(e:cv k nm v=.loc y)(h:asgLoc ρ x y (getR ρ y)=some (ρ',fl)):StOk A (exec (.Assign [.Name id px] v pos) env) W0 B nm env W ρ' fl:=by
 refine xEEAAAA (cv_loc e) λi2 p2 ee2 ee3 h1 h2 h3=>?_
 subst ee2
 subst ee3
 clear e
 cases hg:getR ρ (tx i2) with
 | none=>rw [hg] at h;exact ns h
 | some ev =>
  rw [hg] at h
  cases ev with
  | itr _=>exact ns h
  | d d =>
   obtain ⟨rfl,rfl⟩:=sqp h
   intro s Q E ok po
   refine asg_value rfl (name_local a.F ok h1 h2 h3 hg λu r=>?_)
   exact a.put (ev:=.d d) I0 ok ht r (a.one.put λ_=>nofun) λW2 s2 a2 o2 _=>po .next W2 s2 a2 o2 rfl
  | «mut» xs =>
   obtain ⟨rfl,rfl⟩:=sqp h
   refine xEEAAA (freeze_at (A:=A) I0 a h3 hg h2) λp W1 hld a1 hok rp=>?_
   intro s Q E ok po
   refine asg_value rfl (name_at h1 (hld s _ _ ok ?_))
   exact a1.put (ev:=.d (.list xs)) I0 (hok s ok) ht rp (a1.one.put λ_=>nofun) λW2 s2 a2 o2 _=>po .next W2 s2 a2 o2 rfl
theorem one_new:One (setR (dropM ρ) x (.mut [])):=λy z ys zs h1 h2=>by
 rw [getR_setR] at h1 h2
 split at h1
 ·rename_i e1
  split at h2
  ·rename_i e2;rw [<-eqT_iff.mp e1,← eqT_iff.mp e2]
  ·exact absurd rfl ((getR_dropM ρ _ h2).2 _)
 ·exact absurd rfl ((getR_dropM ρ _ h1).2 _)
noncomputable abbrev nilO:Obj:={ cls:=.type "list",data:=.seq ([]:List Value).toArray }
theorem asg_nil (I0:Inv W0)(a:Act W0 B nm env W ρ)(ht:tgt nm (.Name id px)=some x)(e:cv k nm v=.lst []):StOk A (exec (.Assign [.Name id px] v pos) env) W0 B nm env W (setR (dropM ρ) x (.mut [])) .next:=by
 obtain ⟨lp,rfl⟩:=cv_lst e
 clear e
 intro s Q E ok po
 refine asg_value rfl (wpAny_List (wpAny_items_nil ⟨Nat.zero_le _,?_⟩))
 have a1:Act W0 B nm env (W.pushP nilO) (dropM ρ):=(a.le I0 (pushP_le (P:=[]) (W:=W) nilO) (pushP_inv a.I nilO rfl)).sub λy ev e=>(getR_dropM ρ y e).1
 have hB:W.h.objs.size∉B:=λz=>by
  obtain ⟨ob,e⟩:=a.I.pvAl _ (a.bs _ z)
  rw [fresh_none] at e;exact ns e
 have hv:EVR B (W.pushP nilO) (.mut []) (.ref s.heap.objs.size):=by
  rw [ok.1]
  exact ⟨_,#[],rfl,.head _,hB,⟨0,Heap.get?_push_size _ rfl⟩,Nat.zero_le _,rfl⟩
 exact a1.put (ev:=.mut []) I0 (pushP_ok ok nilO s.toks) ht hv one_new λW2 s2 a2 o2 _=>po .next W2 s2 a2 o2 rfl
theorem asg_iter (o:Ops2 A cal G)(I0:Inv W0)(a:Act W0 B nm env W ρ)(ht:tgt nm (.Name id px)=some x){f:Tx}{ar:ME}(e:cv k nm v=.call (.glo f) [ar])(h:asgIt ρ x (G f) (ev cal G K ρ ar)=some (ρ',fl)):StOk A (exec (.Assign [.Name id px] v pos) env) W0 B nm env W ρ' fl:=by
 obtain ⟨k',i,p,a',cp,rfl,rfl,hn,hg1,rfl⟩:=cv_call1 e
 clear e
 refine xAA (cv_glo hg1) λee0 hdb hgl=>?_
 subst ee0
 clear hg1
 cases hG:G (tx i) with
 | none=>rw [hG] at h;exact ns h
 | some g =>
  rw [hG] at h
  obtain ⟨hb,h1⟩:=ite_val (show (if isBi3 g then (match ev cal G K ρ (cv k' nm a') with
   | some d=>(match listC d with | some c=>some (setR (dropI ρ) x (.itr c.xs),Fl.next) | none=>none)
   | none=>none) else none)=some (ρ',fl) from h)
  clear h
  obtain rfl:=bi3_ok hb
  clear hb
  refine xEA (optD h1) λd hx h2=>?_
  clear h1
  cases hc:listC d with
  | none=>rw [hc] at h2;exact ns h2
  | some c =>
   rw [hc] at h2
   clear hc
   obtain ⟨xs,rfl⟩:=c
   obtain ⟨rfl,rfl⟩:=sqp h2
   clear h2
   intro s Q E ok po
   refine asg_value rfl ?_
   refine wpAny_Call_Name_kw (name_global a.F o.toOps a.I hdb hgl hG s _ _ ok λfv W1 s1 L1 I1 o1 r1=>?_)
   obtain rfl:fv=.builtin "iter" := r1
   refine callWith_core (first:=[]) hn (wpAny_items_cons (((o.ev K).1.go hx a.F a.I).later L1 W1 (Le.refl W1) I1 s1 _ _ o1 λu W2 s2 L2 I2 o2 r2=>wpAny_items_nil ?_) (star1 hn [] env))
   refine ⟨.machine,.inr (.inl rfl),λQ E q=>wpAny_pure q,iter_call I2 o2 r2 λJ W3 s3 L3 I3 o3 hJ hn3 it=>?_⟩
   have a3:Act W0 B nm env W3 (dropI ρ):=(a.le I0 ((L1.trans L2).trans L3) I3).sub λy ev e=>(getR_dropI ρ y e).1
   have hB:J∉B:=λz=>by
    obtain ⟨ob,e⟩:=I2.pvAl _ ((L1.trans L2).pvK _ (a.bs _ z) λz=>nomatch z)
    rw [hn3] at e;exact ns e
   exact a3.put (ev:=.itr xs) I0 o3 ht ⟨J,rfl,hJ,hB,it⟩ (a3.one.put λ_=>nofun) λW4 s4 a4 o4 _=>po .next W4 s4 a4 o4 rfl
theorem st_asg (o:Ops2 A cal G)(I0:Inv W0)(a:Act W0 B nm env W ρ)(ht:tgt nm (.Name id px)=some x)(h:ex cal G (n+1) ρ (.asg x (cv k nm v))=some (ρ',fl)) :
  StOk A (exec (.Assign [.Name id px] v pos) env) W0 B nm env W ρ' fl:=by
 have h':=(exq_asg ..).symm.trans h
 clear h
 cases hc:locOf (cv k nm v) with
 | some c=>rw [hc] at h';exact asg_loc I0 a ht c.e h'
 | none =>
  rw [hc] at h'
  rcases oif h' with ⟨hz,h1⟩ | ⟨_,h1⟩
  ·obtain ⟨rfl,rfl⟩:=sqp h1
   exact asg_nil I0 a ht (nil0_ok hz)
  ·clear h' hc
   obtain ⟨hs,h2⟩:=ite_no h1
   clear h1
   have gen:asgV ρ x (ev cal G K ρ (cv k nm v))=some (ρ',fl)->StOk A (exec (.Assign [.Name id px] v pos) env) W0 B nm env W ρ' fl:=λz=>by
    refine xEAA (asgV_inv z) λd hd ee2 ee3=>?_
    subst ee2
    subst ee3
    exact asg_gen o I0 a ht hd (notSc hs)
   cases hg:gloOf (cv k nm v) with
   | none=>rw [hg] at h2;exact gen h2
   | some c =>
    rw [hg] at h2
    rcases oif h2 with ⟨_,h3⟩ | ⟨_,h3⟩
    ·exact asg_iter o I0 a ht c.e h3
    ·exact gen h3
theorem ret_loc (I0:Inv W0)(a:Act W0 B nm env W ρ){y:Tx}(e:cv k nm v=.loc y)(h:retLoc ρ y (getR ρ y)=some (ρ',fl)):StOk A (exec (.Return (some v) pos) env) W0 B nm env W ρ' fl:=by
 refine xEEAAAA (cv_loc e) λi2 p2 ee2 ee3 h1 h2 h3=>?_
 subst ee2
 subst ee3
 clear e
 cases hg:getR ρ (tx i2) with
 | none=>rw [hg] at h;exact ns h
 | some ev =>
  rw [hg] at h
  cases ev with
  | itr _=>exact ns h
  | d d =>
   obtain ⟨rfl,rfl⟩:=sqp h
   intro s Q E ok po
   exact ret_value (name_local a.F ok h1 h2 h3 hg λu r=>po (.ret u) W s a ok ⟨u,rfl,r⟩)
  | «mut» xs =>
   obtain ⟨rfl,rfl⟩:=sqp h
   refine xEEAAA (freeze_at (A:=A) I0 a h3 hg h2) λp W1 hld a1 hok rp=>?_
   intro s Q E ok po
   exact ret_value (name_at h1 (hld s _ _ ok (po (.ret (.ref p)) W1 s a1 (hok s ok) ⟨_,rfl,rp⟩)))
theorem st_ret (o:Ops2 A cal G)(I0:Inv W0)(a:Act W0 B nm env W ρ)(h:ex cal G (n+1) ρ (.ret (cv k nm v))=some (ρ',fl)) :
  StOk A (exec (.Return (some v) pos) env) W0 B nm env W ρ' fl:=by
 have h':=(exq_ret ..).symm.trans h
 clear h
 cases hc:locOf (cv k nm v) with
 | none =>
  rw [hc] at h'
  refine xEA (optD h') λd hd h1=>?_
  obtain ⟨rfl,rfl⟩:=sqp h1
  intro s Q E ok po
  exact ret_value ((o.ev K).1.go hd a.F a.I W (Le.refl W) a.I s _ _ ok λu W1 s1 L1 I1 o1 r1=>po (.ret u) W1 s1 (a.le I0 L1 I1) o1 ⟨u,rfl,r1⟩)
 | some c =>
  rw [hc] at h'
  exact ret_loc I0 a c.e h'
end
theorem st_aug {n k:Nat}(o:Ops2 A cal G)(I0:Inv W0)(a:Act W0 B nm env W ρ){id:Str}{px pos:Pos}{x:Tx}{v:Expr}{fl:Fl}(ht:tgt nm (.Name id px)=some x)(hcd:eqT x tClassDict=false)(h:ex cal G (n+1) ρ (.aug x (cv k nm v))=some (ρ',fl)) :
  StOk A (exec (.AugAssign (.Name id px) .Add v pos) env) W0 B nm env W ρ' fl:=by
 have h':(match getR ρ x with
   | some v'=>(match strE v' with
    | some a=>(match ev cal G K ρ (cv k nm v) with
     | some d=>(match strC d with
      | some b=>if Nat.ble (a.s.length+b.s.length) lim then some (setR ρ x (.d (.str (a.s++b.s))),Fl.next) else none
      | none=>none)
     | none=>none)
    | none=>none)
   | none=>none)=some (ρ',fl):=h
 clear h
 cases hg:getR ρ x with
 | none=>rw [hg] at h';exact ns h'
 | some v' =>
 rw [hg] at h'
 dsimp only at h'
 cases hc:strE v' with
 | none=>rw [hc] at h';exact ns h'
 | some c =>
  rw [hc] at h'
  clear hc
  obtain ⟨sa,rfl⟩:=c
  refine xEA (optD h') λd hd h1=>?_
  clear h'
  cases hc:strC d with
  | none=>rw [hc] at h1;exact ns h1
  | some c =>
   rw [hc] at h1
   clear hc
   obtain ⟨sb,rfl⟩:=c
   obtain ⟨hz,h⟩:=ite_val h1
   clear h1
   obtain ⟨rfl,rfl⟩:=sqp h
   clear h
   have hz:=Nat.le_of_ble_eq_true hz
   intro s Q E ok po
   have ht':(if isOwn (lkp nm (tx id))=true then some (tx id) else none)=some x:=ht
   by_cases hl:isOwn (lkp nm (tx id))=true
   ·rw [if_pos hl] at ht'
    obtain rfl:=sq ht'
    have hld:=a.F.load (A:=A) (E:=E) ok (own_loc hl) hg hcd (Q:=λold s1=>wpAny Mo A (holding [old] (eval v env)>>=λw=>standAt pos>>=λ_=>operate [old,w] (inplaceOp .Add old w)>>=λnew=>standAt px>>=λ_=>bindName env id new>>=λ_=>pure Flow.next) Q E s1) λu r=>by
     obtain ⟨hza,t,rfl⟩:=r
     refine wpAny_bind (wpAny_holding ((o.ev K).1.go hd a.F a.I W (Le.refl W) a.I s _ _ ok λu2 W1 s1 L1 I1 o1 r1=>?_))
     obtain ⟨hzb,t2,rfl⟩:=r1
     refine wpAny_bind (wpAny_standAt (wpAny_bind (wpAny_operate' (PyProof.Rows.iadd_str (λt' tk=>?_) (by exact lim_ok hz)))))
     refine wpAny_bind (wpAny_standAt (wpAny_bind ?_))
     have a1:=a.le I0 L1 I1
     have hput:=a1.F.put' (A:=A) (E:=E) (ev:=.d (.str (sa++sb))) (v:=.str (S sa++S sb) t') I1 (o1.tok tk) hl (by
      refine ⟨by rw [List.length_append];exact hz,t',?_⟩
      rw [S_append]) (Q:=λ_ s2=>Q .next s2) λq W2 s2 g1 g2 g3 L2 I2 o2 e2 F2=>po .next W2 s2 (a1.turn I0 L2 I2 (one_own g1 g2) F2 (a1.one.put λ_=>nofun)) o2 rfl
     exact wpAny_bindName (wpAny_mono hput (λ_ s2 q=>wpAny_pure q) λ_ _ x=>x)
    exact wpAny_bind (wpAny_standAt (wpAny_bind hld))
   ·rw [if_neg hl] at ht'
    exact ns ht'
end
end
section
open PySem.Builtin PySem.Builtin.Str PySem.StrLaws PySem.Calls
section
variable {A:Around}{W W' W0 W1 W2:Wd}{P B X:List Addr}{d:D}{s:Shared}{E:Value->Shared->Prop}{env:Env}
variable {cal:D->List D->Option D}{G:Tx->Option D}{nm:List (Str×NameKind)}{ρ ρ':Rho}
theorem ext_le (I:Inv W){h':Heap}(hx:Heap.ExtBut W.h.objs.size W.h h'):Le [] W { W with h:=h' }/\Inv { W with h:=h' }:=by
 have ne:∀ {a o},W.h.get? a=some o->a≠W.h.objs.size:=λe z=>by rw [z,fresh_none] at e;exact ns e
 have kp:∀ {a o},W.h.get? a=some o->h'.get? a=some o:=λe=>hx _ _ (ne e) e
 have L:Le [] W { W with h:=h' }:=⟨⟨λa o e _ _ _=>kp e,λ_ _ e=>e,λ_ _ _ _ e=>e,λa ds c e x=>x.keep λo e'=>kp e',λ_ _ _ _ e=>e,λa o e _=>⟨o,kp e⟩⟩,λ_ h _=>h⟩
 exact ⟨L,I.base.trans L.toLe0,λa h=>let ⟨o,e⟩:=I.pvAl a h;⟨o,kp e⟩,λa ds e=>(I.ig a ds e).keep λo e'=>kp e',I.igPv,λt ht=>(I.tab t ht).mono (λ_ e=>kp e) λ_ _ e h1 _ h3=>⟨kp e,h1,h3⟩,I.tabPv⟩
theorem Fm.addB {J:Addr}(F:Fm B nm env W ρ)(hJ:IsF W.h J)(hni:∀ y zs,getR ρ y≠some (.itr zs)):Fm (J::B) nm env W ρ:=by
 have ev:∀ {y ev v},getR ρ y=some ev->EVR B W ev v->EVR (J::B) W ev v:=λ{y ev v} e r=>by
  match ev,r with
  | .d d,r=>exact r
  | .itr zs,_=>exact absurd e (hni _ _)
  | .mut zs,r =>
   obtain ⟨p,items,e',hp,hb,hpl,hz,r'⟩:=r
   refine ⟨p,items,e',hp,λz=>?_,hpl,hz,r'⟩
   rcases List.mem_cons.mp z with z | z
   ·subst z;exact notF_list hpl hJ
   ·exact hb z
 obtain ⟨m,hn,hm⟩:=F.ns
 exact { F with
  lb:=λz=>by
   rcases List.mem_cons.mp z with z | z
   ·exact hJ.rowF.notNs hn z
   ·exact F.lb z
  cb:=λx c h1 h2 z=>by
   rcases List.mem_cons.mp z with z | z
   ·obtain ⟨c',v0,g1,_,g3,_⟩:=F.ce x (.inl h1)
    rw [h2] at g1;obtain rfl:=sq g1
    exact hJ.rowF.notCell g3 z
   ·exact F.cb x c h1 h2 z
  ns:=⟨m,hn,λx ev' k e=>let ⟨v,e1,e2⟩:=hm x ev' k e;⟨v,e1,ev e e2⟩⟩
  ce:=λx k=>let ⟨c,v0,h1,h2,h3,h4⟩:=F.ce x k;⟨c,v0,h1,h2,h3,λev' e=>let ⟨v,e1,e2⟩:=h4 ev' e;⟨v,e1,ev e e2⟩⟩ }
set_option tactic.hygienic true in
theorem assign_each (I0:Inv W0):∀ (ts:List Expr) (xs:List Tx) (ds:List D) (vs:List Value) (ρ:Rho) (W:Wd) (s:Shared) (Q:Unit->Shared->Prop),cvT nm ts=some xs->xs.length=ds.length->Reps W ds vs->Act W0 B nm env W ρ->Ok W s ->
  (∀ W' s',Act W0 B nm env W' (setsR ρ xs ds)->Ok W' s'->Q () s')->wpAny Mo A (assignInOrder ((assignEach ts env).map (·.2)) vs) Q E s
 | [],xs,ds,vs,ρ,W,s,Q,h,hl,hr,a,o,q=>by
  obtain rfl:=sq h
  cases ds with
  | nil =>
   subst hr
   exact wpAny_pure (q W s a o)
  | cons _ _=>cases hl
 | t::ts,xs,ds,vs,ρ,W,s,Q,h,hl,hr,a,o,q=>by
  unfold cvT at h
  split at h
  ·rename_i x ht
   refine xEE (tgt_name ht) λid p ee2=>?_
   subst ee2
   refine xEA (opt_val h) λxs' hts h=>?_
   obtain rfl:=sq h
   cases ds with
   | nil=>cases hl
   | cons d ds =>
    obtain ⟨v,vs',rfl,rv,rr⟩:=hr
    show wpAny _ _ (holding vs' (assign (.Name id p) env v)>>=λ_=>assignInOrder ((assignEach ts env).map (·.2)) vs') Q E s
    refine wpAny_bind (wpAny_holding (a.put (ev:=.d d) I0 o ht rv (a.one.put λ_=>nofun) λW1 s1 a1 o1 ⟨q1,L1,hq1,_,_⟩=>?_))
    have hP:∀ b∈[q1],b∈W.pv:=mem1 hq1
    exact assign_each I0 ts xs' ds vs' _ W1 s1 Q hts (by simpa using hl) (rr.mono a.I L1.toLe0 hP) a1 o1 q
  ·exact ns h
theorem each1 {t:Expr}(hn:noStar [t]=true){r:List Expr}:assignEach (t::r) env=(false,assign t env)::assignEach r env:=by
 cases t<;>first | rfl | exact nf hn
theorem each_len {ts:List Expr}(hn:noStar ts=true):(assignEach ts env).length=ts.length/\(assignEach ts env).findIdx? (·.1)=none:=by
 induction ts with
 | nil=>exact ⟨rfl,rfl⟩
 | cons t r ih =>
  obtain ⟨h1,h2⟩:=noStar_cons hn
  obtain ⟨i1,i2⟩:=ih h2
  rw [each1 h1,List.length_cons,i1,List.length_cons,List.findIdx?_cons,i2]
  exact ⟨rfl,rfl⟩
theorem cvT_len:∀ {ts:List Expr} {xs:List Tx},cvT nm ts=some xs->xs.length=ts.length:=by
 intro qq
 induction qq with
 | nil =>
  intro xs h
  cases h;rfl
 | cons t ts ih =>
  intro xs h
  unfold cvT at h
  split at h
  ·cases hts:cvT nm ts with
   | none=>rw [hts] at h;exact ns h
   | some xs'=>rw [hts] at h;cases h;rw [List.length_cons,List.length_cons,ih hts]
  ·exact ns h
theorem swaps_T (v:Expr)(ts:List Expr)(kt:Nat)(pt:Pos)(l:Nat)(env:Env):swapsWith v (some (.Tuple ts kt pt)) l env=pure false:=by
 cases v<;>rfl
theorem stores_T {v:Expr}(hv:∀ a b c,v≠.Tuple a b c)(ts:List Expr)(kt:Nat)(pt:Pos)(env:Env):swappedStores [.Tuple ts kt pt] v env=pure none:=by
 cases v<;>first | rfl | exact absurd rfl (hv _ _ _)
theorem bset_ok {d:D}(h:Nat.beq d.ctorIdx 10=true):d=.bset:=by
 cases d with
 | bset=>rfl
 | _=>exact nf h
theorem cvT_one {ts:List Expr}{x:Tx}(h:cvT nm ts=some [x]):∃ t,ts=[t]/\tgt nm t=some x:=by
 have hl:=cvT_len h
 rcases ts with _ | ⟨t,_ | ⟨t2,r⟩⟩
 ·cases hl
 ·have h':(match tgt nm t with | some x=>(cvT nm []).map (x::·) | none=>none)=some [x]:=h
  clear h
  cases hy:tgt nm t with
  | none=>rw [hy] at h';exact ns h'
  | some y =>
   rw [hy] at h'
   exact ⟨t,rfl,by rw [hy,(List.cons.inj (sq (show some [y]=some [x] from h'))).1]⟩
 ·cases hl
theorem st_asgT {n k:Nat}(o:Ops2 A cal G)(I0:Inv W0)(a:Act W0 B nm env W ρ){ts:List Expr}{kt:Nat}{pt pos:Pos}{xs:List Tx}{v:Expr}{fl:Fl}(hv:∀ a b c,v≠.Tuple a b c)(hn:noStar ts=true)(ht:cvT nm ts=some xs)
  (h:ex cal G (n+1) ρ (.asgT xs (cv k nm v))=some (ρ',fl)):StOk A (exec (.Assign [.Tuple ts kt pt] v pos) env) W0 B nm env W ρ' fl:=by
 obtain ⟨d,hd,h'⟩:=optD (show (match ev cal G K ρ (cv k nm v) with
   | some d=>asgTD ρ xs d
   | none=>none)=some (ρ',fl) from h)
 clear h
 unfold asgTD at h'
 have h:=h'
 clear h'
 cases hc:tupC d with
 | some c =>
  rw [hc] at h
  clear hc
  obtain ⟨ds,rfl⟩:=c
  obtain ⟨hl,h⟩:=ite_val h
  obtain ⟨rfl,rfl⟩:=sqp h
  have hl':xs.length=ds.length:=Nat.eq_of_beq_eq_true hl
  intro s Q E ok po
  rw [arm_exec_Assign]
  rw [show swapsWithSole [.Tuple ts kt pt] v pos.line env=pure false from swaps_T v ts kt pt pos.line env]
  refine wpAny_bind (wpAny_standAt (wpAny_bind (wpAny_pure ?_)))
  refine wpAny_bind ((o.ev K).1.go hd a.F a.I W (Le.refl W) a.I s _ _ ok λu W1 s1 L1 I1 o1 r1=>?_)
  rw [stores_T hv ts kt pt env]
  refine wpAny_bind (wpAny_pure ?_)
  show wpAny _ _ (assign (.Tuple ts kt pt) env u>>=λ_=>pure Flow.next) _ _ _
  obtain ⟨t,items,n0,rfl,htp,hIs,hz,hr⟩:=r1
  have hlen:=hr.length
  rw [Array.length_toList] at hlen
  obtain ⟨e1,e2⟩:=each_len (env:=env) hn
  refine wpAny_bind (wpAny_assign_Tuple o.h (⟨_,by rw [o1.1];exact hIs,rfl,n0,rfl⟩:s1.heap.IsTuple t items) (by rw [e1,hlen,← hl',cvT_len ht]) e2 λh' hx=>?_)
  rw [o1.1] at hx
  obtain ⟨L2,I2⟩:=ext_le I1 hx
  refine assign_each I0 ts xs ds items.toList ρ _ _ _ ht hl' (hr.later I1 L2) (a.le I0 (L1.trans L2) I2) ⟨rfl,o1.2.1,o1.2.2⟩ λW3 s3 a3 o3=>wpAny_pure (po .next W3 s3 a3 o3 rfl)
 | none =>
  rw [hc] at h
  clear hn hv hc
  obtain ⟨hb,h⟩:=ite_val h
  obtain rfl:=bset_ok hb
  clear hb
  rcases xs with _ | ⟨x,_ | ⟨x2,r⟩⟩
  ·exact ns h
  ·obtain ⟨rfl,rfl⟩:=sqp h
   refine xEA (cvT_one ht) λt ee1 htt=>?_
   subst ee1
   refine xEE (tgt_name htt) λid p ee2=>?_
   subst ee2
   exact o.sets k nm env W0 B W ρ v id p kt pt pos x I0 a htt hd
  ·exact ns h
noncomputable def ExOk (A:Around)(cal:D->List D->Option D)(G:Tx->Option D)(n:Nat):Prop:=∀ k nm env W0 B W ρ st ρ' fl,ex cal G n ρ (cvS k nm st)=some (ρ',fl)->Inv W0->Act W0 B nm env W ρ->StOk A (exec st env) W0 B nm env W ρ' fl
theorem exq_loop (n:Nat)(ρ:Rho)(x:Tx)(it:ME)(body:List MS):ex cal G (n+1) ρ (.loop x it body)=(match locOf it with
   | some c=>(match getR ρ c.y with
    | some v=>(match v with
     | .itr xs=>loopD (λρ d=>exl (ex cal G n) (setR ρ x (.d d)) body) (dropI ρ) xs
     | .d d=>(match itemsD d with | some xs=>loopD (λρ d=>exl (ex cal G n) (setR ρ x (.d d)) body) ρ xs | none=>none)
     | .mut _=>none)
    | none=>none)
   | none=>(match ev cal G K ρ it with
    | some d=>(match itemsD d with | some xs=>loopD (λρ d=>exl (ex cal G n) (setR ρ x (.d d)) body) ρ xs | none=>none)
    | none=>none)):=rfl
theorem st_for {n k:Nat}(o:Ops2 A cal G)(hX:ExOk A cal G n)(I0:Inv W0)(a:Act W0 B nm env W ρ){id:Str}{px pos:Pos}{x:Tx}{it:Expr}{body:List Stmt}{fl:Fl}(ht:tgt nm (.Name id px)=some x)(hs:∀ a b c,it≠.Set a b c)
  (h:ex cal G (n+1) ρ (.loop x (cv k nm it) (body.map (cvS k nm)))=some (ρ',fl)):StOk A (exec (.For (.Name id px) it body [] pos) env) W0 B nm env W ρ' fl:=by
 have hf:∀ W0 B ρ W ρ' fl,exl (ex cal G n) ρ (body.map (cvS k nm))=some (ρ',fl)->Inv W0->Act W0 B nm env W ρ->StOk A (execs body env) W0 B nm env W ρ' fl:=λW0 B ρ W ρ' fl h I0 a =>
  block_ok (cvf:=cvS k nm) (f:=ex cal G n) I0 (λst ρ W ρ' fl h a=>hX k nm env W0 B W ρ st ρ' fl h I0 a) body ρ W ρ' fl h a
 have fin:∀ {d xs v W1 s1} {Q:Flow->Shared->Prop} {E},itemsD d=some xs->loopD (λρ d=>exl (ex cal G n) (setR ρ x (.d d)) (body.map (cvS k nm))) ρ xs=some (ρ',fl)->Act W0 B nm env W1 ρ->Ok W1 s1->Rep W1 d v ->
   (∀ u W' s',Act W0 B nm env W' ρ'->Ok W' s'->FlR W' fl u->Q u s')->wpAny Mo A (pyIter v) (λit s₂=>codeAny Mo A (.forLoop (.Name id px) it body [] env) (λr s'=>match r with | .ok f=>Q f s' | .error e=>cameBackBy Mo A env E e s') s₂) E s1:=by
  intro d xs v W1 s1 Q E hi hl a1 o1 r1 po
  refine iter_at a1.I o1 hi r1 λJ W2 s2 L2 I2 o2 hJ hJn it2=>?_
  have hJ1:J∉W1.pv:=λz=>by
   obtain ⟨ob,e⟩:=a1.I.pvAl J z
   rw [hJn] at e;exact ns e
  have Fw:Fm (J::B) nm env W1 ρ:=a1.F.weak λq hq hn hm=>by
   rcases List.mem_cons.mp hm with z | z
   ·exact hJ1 (z▸hq)
   ·exact hn z
  exact for_ok (f:=λρ=>exl (ex cal G n) ρ (body.map (cvS k nm))) o.h I0 ht hf hl (a1.le I0 L2 I2) hJ (λz=>hJ1 (a1.bs J z)) (Fw.later a1.I L2) it2 o2 po
 have h':=(exq_loop ..).symm.trans h
 clear h
 cases hc:locOf (cv k nm it) with
 | none =>
  rw [hc] at h'
  refine xEA (optD h') λd hd h=>?_
  clear h' hc
  refine xEA (optL h) λxs hi h=>?_
  intro s Q E ok po
  exact wpAny_For ((o.ev K).1.go hd a.F a.I W (Le.refl W) a.I s _ _ ok λu W1 s1 L1 I1 o1 r1=>fin hi h (a.le I0 L1 I1) o1 r1 po) (folded_pure hs)
 | some c =>
  rw [hc] at h'
  clear hc
  obtain ⟨y,e⟩:=c
  refine xEEAAAA (cv_loc e) λi2 p2 ee2 ee3 h1 h2 h3=>?_
  subst ee2
  subst ee3
  cases hg:getR ρ (tx i2) with
  | none=>dsimp only at h';rw [hg] at h';exact ns h'
  | some ev =>
  dsimp only at h'
  rw [hg] at h'
  have h:=h'
  clear h'
  cases ev with
  | «mut» _=>exact ns h
  | itr xs =>
   intro s Q E ok po
   refine wpAny_For (name_local a.F ok h1 h2 h3 hg λv r=>?_)
   obtain ⟨J,rfl,hJ,hJB,itr⟩:=r
   have itr':=itr
   obtain ⟨fp,n0,Pd,St,k0,dd,hfp,hst,e,hr⟩:=itr'
   have hni:∀ y zs,getR (dropI ρ) y≠some (.itr zs):=λy zs e=>absurd rfl ((getR_dropI ρ y e).2 zs)
   have ad:Act W0 B nm env W (dropI ρ):=a.sub λy ev e=>(getR_dropI ρ y e).1
   refine (dd.wk A o.h).self k0 s _ _ (by rw [ok.1];exact hst) ?_
   exact for_ok (f:=λρ=>exl (ex cal G n) ρ (body.map (cvS k nm))) o.h I0 ht hf h ad hJ hJB (ad.F.addB itr.isF hni) itr ok po
  | d d =>
   refine xEA (optL h) λxs hi h=>?_
   intro s Q E ok po
   exact wpAny_For (name_local a.F ok h1 h2 h3 hg λv r=>fin hi h a ok r po)
end
end
section
open PySem.Builtin PySem.Builtin.Str PySem.StrLaws PySem.Calls
section
variable {A:Around}{W W' W0 W1 W2:Wd}{P B X:List Addr}{d:D}{s:Shared}{E:Value->Shared->Prop}{env:Env}
variable {cal:D->List D->Option D}{G:Tx->Option D}{nm:List (Str×NameKind)}{ρ ρ':Rho}
theorem ex_bad (n:Nat)(ρ:Rho):ex cal G n ρ .bad=none:=by cases n<;>rfl
theorem body_ok {n k:Nat}(hX:ExOk A cal G n)(body:List Stmt):∀ W0 B ρ W ρ' fl,exl (ex cal G n) ρ (body.map (cvS k nm))=some (ρ',fl)->Inv W0->Act W0 B nm env W ρ->StOk A (execs body env) W0 B nm env W ρ' fl:=λW0 B ρ W ρ' fl h I0 a =>
 block_ok (cvf:=cvS k nm) (f:=ex cal G n) I0 (λst ρ W ρ' fl h a=>hX k nm env W0 B W ρ st ρ' fl h I0 a) body ρ W ρ' fl h a
theorem isTup_ok {v:Expr}(h:isTup v=false)(a:List Expr)(b:Nat)(c:Pos):v≠.Tuple a b c:=λe=>by subst e;cases h
theorem isAdd_ok {op:Operator}(h:isAdd op=true):op=.Add:=by cases op<;>first | rfl | exact nf h
theorem oneName_ok {as:List Expr}{x:Expr}(e:oneName as=some x):as=[x]:=by
 rcases as with _ | ⟨a,_ | ⟨b,r⟩⟩
 ·exact ns e
 ·cases e;rfl
 ·exact ns e
theorem ex_no {n:Nat}{st:MS}{r:Rho×Fl}{P:Prop}(h:ex cal G n ρ st=some r)(e:st=.bad):P:=by
 rw [e,ex_bad] at h
 cases h
theorem ex_ite {c:Bool}{a:MS}{n:Nat}{r:Rho×Fl}(h:ex cal G n ρ (if c=true then a else .bad)=some r):c=true/\ex cal G n ρ a=some r:=by
 cases c
 ·exact ex_no h rfl
 ·exact ⟨rfl,h⟩
theorem ex_ite' {c:Bool}{a:MS}{n:Nat}{r:Rho×Fl}(h:ex cal G n ρ (if c=true then .bad else a)=some r):c=false/\ex cal G n ρ a=some r:=by
 cases c
 ·exact ⟨rfl,h⟩
 ·exact ex_no h rfl
theorem ownAt_ok {nm:List (Str×NameKind)}{o:Str}{apos cp:Pos}(h:ownAt nm o apos cp=true):isOwn (lkp nm (tx o))=true/\eqT (tx o) tDebug=false/\eqT (tx o) tClassDict=false/\Nat.beq apos.endLine cp.line=true:=by
 unfold ownAt at h
 simp only [Bool.and_eq_true,Bool.not_eq_true'] at h
 obtain ⟨⟨⟨h1,h2⟩,h3⟩,h4⟩:=h
 exact ⟨h1,h2,h3,h4⟩
theorem ex_om {α:Type}{q:Option α}{f:α->MS}{e:MS}{n:Nat}{r:Rho×Fl}(h:ex cal G n ρ (om q f e)=some r):(∃ x,q=some x/\ex cal G n ρ (f x)=some r)\/ex cal G n ρ e=some r:=by
 cases q with
 | none=>exact .inr h
 | some x=>exact .inl ⟨x,rfl,h⟩
theorem ex_omb {α:Type}{q:Option α}{f:α->MS}{n:Nat}{r:Rho×Fl}(h:ex cal G n ρ (om q f .bad)=some r):∃ x,q=some x/\ex cal G n ρ (f x)=some r:=by
 rcases ex_om h with h | h
 ·exact h
 ·exact ex_no h rfl
theorem ex_if {c:Bool}{a b:MS}{n:Nat}{r:Rho×Fl}(h:ex cal G n ρ (if c=true then a else b)=some r):(c=true/\ex cal G n ρ a=some r)\/ex cal G n ρ b=some r:=by
 cases c
 ·exact .inr h
 ·exact .inl ⟨rfl,h⟩
section
variable {n k:Nat}{fl:Fl}{pos:Pos}
theorem as_popTo (I0:Inv W0)(a:Act W0 B nm env W ρ){id oi m:Str}{px p0 apos cp:Pos}{x:Tx}(ht:tgt nm (.Name id px)=some x)(hp:eqT (tx m) tPop=true)(hc:ownAt nm oi apos cp=true)(h:ex cal G (n+1) ρ (.popTo x (tx oi))=some (ρ',fl)) :
  StOk A (exec (.Assign [.Name id px] (.Call (.Attribute (.Name oi p0) m apos) [] [] cp) pos) env) W0 B nm env W ρ' fl:=by
 refine xAAA (ownAt_ok hc) λh1 h2 h3 h4=>?_
 obtain ⟨-,h5⟩:=ite_no (show (if eqT x (tx oi)=true then none else (mutR ρ (tx oi)).bind λxs=>xs.getLast?.bind λd=>some (setR (setR ρ (tx oi) (.mut xs.dropLast)) x (.d d),Fl.next))=some (ρ',fl) from h)
 refine xEA (bd_inv h5) λxs hg h6=>?_
 have hg:=mutR_inv hg
 refine xEA (bd_inv h6) λd hd h7=>?_
 obtain ⟨rfl,rfl⟩:=sqp h7
 clear h h5 h6 h7 hc
 have hxs:xs≠[]:=λe=>by subst e;exact ns hd
 intro s Q E ok po
 refine asg_value rfl (pop_eval a I0 hp h1 h2 h3 h4 hg hxs ok λv d' W1 s1 hd' rv a1 o1=>?_)
 obtain rfl:=sq (hd.symm.trans hd')
 exact a1.put (ev:=.d d) I0 o1 ht rv (a1.one.put λ_=>nofun) λW2 s2 a2 o2 _=>po .next W2 s2 a2 o2 rfl
theorem as_asg (o:Ops2 A cal G){t v:Expr}(h:ex cal G (n+1) ρ (cvAsg (cv k nm) nm t v)=some (ρ',fl))(I0:Inv W0)(a:Act W0 B nm env W ρ):StOk A (exec (.Assign [t] v pos) env) W0 B nm env W ρ' fl:=by
 rcases ex_om h with ⟨q,-,h1⟩ | h1
 ·clear h
  obtain ⟨id,px,rfl⟩:=q
  refine xEA (ex_omb h1) λx ht h2=>?_
  clear h1
  rcases ex_om h2 with ⟨c,-,h3⟩ | h3
  ·rcases ex_if h3 with ⟨hp,h4⟩ | h4
   ·clear h2 h3
    obtain ⟨oi,p0,m,apos,as,cp,rfl⟩:=c
    obtain ⟨hc,h5⟩:=ex_ite h4
    rw [Bool.and_eq_true] at hp
    obtain rfl:as=[]:=List.isEmpty_iff.mp hp.1
    exact as_popTo I0 a ht hp.2 hc h5
   ·exact st_asg o I0 a ht h4
  ·exact st_asg o I0 a ht h3
 ·clear h
  refine xEA (ex_omb h1) λq _ h2=>?_
  clear h1
  obtain ⟨ts,kt,p,rfl⟩:=q
  obtain ⟨hv,h3⟩:=ex_ite' h2
  obtain ⟨hn,h4⟩:=ex_ite h3
  refine xEA (ex_omb h4) λxs ht h5=>?_
  exact st_asgT o I0 a (isTup_ok hv) hn ht h5
theorem as_for (o:Ops2 A cal G)(hX:ExOk A cal G n){t it:Expr}{body:List Stmt}(h:ex cal G (n+1) ρ (cvFor (cv k nm) nm t it (body.map (cvS k nm)))=some (ρ',fl))(I0:Inv W0)(a:Act W0 B nm env W ρ):StOk A (exec (.For t it body [] pos) env) W0 B nm env W ρ' fl:=by
 obtain ⟨hs,h0⟩:=ex_ite' h
 clear h
 rcases ex_om h0 with ⟨q,-,h1⟩ | h1
 ·clear h0
  obtain ⟨id,px,rfl⟩:=q
  refine xEA (ex_omb h1) λx ht h2=>?_
  exact st_for o hX I0 a ht (isSet_ok hs) h2
 ·clear h0 hs
  refine xEA (ex_omb h1) λz _ h2=>?_
  clear h1
  obtain ⟨ts,kt,p,rfl⟩:=z
  refine xEA (ex_omb h2) λq _ h3=>?_
  clear h2
  obtain ⟨i,pi,c,pc,e1⟩:=q
  obtain rfl:ts=_:=e1
  refine xEA (ex_omb h3) λx hx h4=>?_
  clear h3
  refine xEA (ex_omb h4) λy hy h5=>?_
  clear h4
  refine xEA (ex_omb h5) λr _ h6=>?_
  clear h5
  obtain ⟨g,src,cp,rfl⟩:=r
  obtain ⟨hg,h7⟩:=ex_ite h6
  clear h6
  refine xEA (bd_inv (show ((ev cal G K ρ (cv k nm src)).bind λd=>(listC d).bind λq=>loopN (λρ k' d=>exl (ex cal G n) (setR (setR ρ x (.d (.int k'))) y (.d d)) (body.map (cvS k nm))) ρ 0 q.xs)=some (ρ',fl) from h7)) λd hd h8=>?_
  clear h7
  refine xEA (bd_inv h8) λl _ h9=>?_
  clear h8
  obtain ⟨xs,rfl⟩:=l
  simp only [Bool.and_eq_true,Bool.not_eq_true'] at hg
  obtain ⟨⟨g1,g2⟩,g3⟩:=hg
  refine xEE (isNm_name g1) λgi gp ee2=>?_
  subst ee2
  exact o.enum nm env W0 B W ρ (λρ=>exl (ex cal G n) ρ (body.map (cvS k nm))) body i c gi pi pc gp p cp pos kt x y src xs ρ' fl I0 a hx hy g1 g2 g3 (body_ok hX body) ((o.ev K).1.go hd a.F a.I) h9
theorem as_exp (o:Ops2 A cal G){v:Expr}(h:ex cal G (n+1) ρ (cvExp (cv k nm) nm v)=some (ρ',fl))(I0:Inv W0)(a:Act W0 B nm env W ρ):StOk A (exec (.Expr v pos) env) W0 B nm env W ρ' fl:=by
 refine xEA (ex_omb h) λq _ h0=>?_
 clear h
 obtain ⟨oi,p0,m,apos,as,cp,rfl⟩:=q
 obtain ⟨hc,h⟩:=ex_ite h0
 clear h0
 refine xAAA (ownAt_ok hc) λh1 h2 h3 h4=>?_
 clear hc
 rcases ex_if h with ⟨he,h5⟩ | h5
 ·clear h
  obtain rfl:as=[]:=List.isEmpty_iff.mp he
  obtain ⟨hm,h6⟩:=ex_ite h5
  refine xEA (bd_inv (show ((mutR ρ (tx oi)).bind λxs=>if xs.isEmpty then none else some (setR ρ (tx oi) (.mut xs.dropLast),Fl.next))=some (ρ',fl) from h6)) λxs hg h7=>?_
  have hg:=mutR_inv hg
  obtain ⟨hz,h8⟩:=ite_no h7
  obtain ⟨rfl,rfl⟩:=sqp h8
  clear h5 h6 h7 h8
  intro s Q E ok po
  exact expr_call a.F (pop_eval a I0 hm h1 h2 h3 h4 hg (λz=>by subst z;exact nf hz.symm) ok λv d' W1 s1 hd' rv a1 o1=>po .next W1 s1 a1 o1 rfl)
 ·clear h
  refine xEA (ex_omb h5) λe he h6=>?_
  obtain rfl:=oneArg_ok he
  obtain ⟨hm,h7⟩:=ex_ite h6
  rw [Bool.and_eq_true] at hm
  refine xEA (bd_inv (show ((mutR ρ (tx oi)).bind λxs=>(ev cal G K ρ (cv k nm e)).bind λd=>if Nat.blt xs.length lim then some (setR ρ (tx oi) (.mut (xs++[d])),Fl.next) else none)=some (ρ',fl) from h7)) λxs hg h8=>?_
  have hg:=mutR_inv hg
  refine xEA (bd_inv h8) λd hd h9=>?_
  obtain ⟨hz,h10⟩:=ite_val h9
  obtain ⟨rfl,rfl⟩:=sqp h10
  clear h5 h6 h7 h8 h9 h10 he
  exact st_app (o.ev K).1 I0 a hm.1 h1 h2 h3 h4 hm.2 hg hd (by simpa [Nat.blt_eq] using hz)
end
theorem as_if (o:Ops2 A cal G){n k:Nat}(hX:ExOk A cal G n){fl:Fl}{c:Expr}{ba bb:List Stmt}{pos:Pos}(h:ex cal G (n+1) ρ (.iff (cv k nm c) (ba.map (cvS k nm)) (bb.map (cvS k nm)))=some (ρ',fl))(I0:Inv W0)(a:Act W0 B nm env W ρ):StOk A (exec (.If c ba bb pos) env) W0 B nm env W ρ' fl:=by
 have h':(match tv cal G K ρ (cv k nm c) with
   | some true=>exl (ex cal G n) ρ (ba.map (cvS k nm))
   | some false=>exl (ex cal G n) ρ (bb.map (cvS k nm))
   | none=>none)=some (ρ',fl):=h
 intro s Q E ok po
 refine wpAny_bind (wpAny_standAt ?_)
 clear h pos as_if
 cases hc:tv cal G K ρ (cv k nm c) with
 | none=>rw [hc] at h';exact ns h'
 | some b =>
  rw [hc] at h'
  refine wpAny_bind ((o.ev K).2.2.go hc a.F a.I W (Le.refl W) a.I s _ _ ok λW1 s1 L1 I1 o1=>?_)
  clear ok s hc o c
  cases b with
  | true=>exact body_ok hX ba W0 B ρ W1 ρ' fl h' I0 (a.le I0 L1 I1) s1 Q E o1 po
  | false=>exact body_ok hX bb W0 B ρ W1 ρ' fl h' I0 (a.le I0 L1 I1) s1 Q E o1 po
set_option tactic.hygienic true in
theorem as_try {n k:Nat}(hX:ExOk A cal G n){fl:Fl}{body:List Stmt}{hs:List ExceptHandler}{pos:Pos}(hne:hs.isEmpty=false)(h:ex cal G (n+1) ρ (.try_ (body.map (cvS k nm)))=some (ρ',fl))(I0:Inv W0)(a:Act W0 B nm env W ρ):StOk A (exec (.Try body hs [] [] pos) env) W0 B nm env W ρ' fl:=by
 have h':exl (ex cal G n) ρ (body.map (cvS k nm))=some (ρ',fl):=by
  have h2:(match exl (ex cal G n) ρ (body.map (cvS k nm)) with
   | some r=>some r
   | none=>none)=some (ρ',fl):=h
  split at h2
  ·rename_i r hr;cases h2;exact hr
  ·exact ns h2
 clear h as_try
 cases hs with
 | nil=>cases hne
 | cons h0 hs =>
  intro s Q E ok po
  refine wpAny_Try_except (body_ok hX body W0 B ρ W ρ' fl h' I0 a s _ _ ok λu W1 s1 a1 o1 hu=>?_)
  clear ok s a I0 h' W ρ body hX hne k n G cal pos
  cases fl with
  | next =>
   have e:u=.next:=hu
   subst e
   exact wpAny_execs_nil (po .next W1 s1 a1 o1 rfl)
  | brk=>have e:u=.brk:=hu;subst e;exact po _ W1 s1 a1 o1 rfl
  | cont=>have e:u=.cont:=hu;subst e;exact po _ W1 s1 a1 o1 rfl
  | ret d =>
   obtain ⟨v,rfl,r⟩:=hu
   exact po _ W1 s1 a1 o1 ⟨v,rfl,r⟩
noncomputable def ExAt (A:Around)(cal:D->List D->Option D)(G:Tx->Option D)(n k:Nat)(st:Stmt):Prop :=
 ∀ (nm:List (Str×NameKind)) (env:Env) (W0:Wd) (B:List Addr) (W:Wd) (ρ ρ':Rho) (fl:Fl),ex cal G (n+1) ρ (cvS (k+1) nm st)=some (ρ',fl)->Inv W0->Act W0 B nm env W ρ->StOk A (exec st env) W0 B nm env W ρ' fl
theorem ExAt.bad {n k:Nat}{st:Stmt}(h:∀ nm,cvS (k+1) nm st=.bad):ExAt A cal G n k st:=λnm _ _ _ _ _ _ _ q _ _=>ex_no q (h nm)
section
variable {n k:Nat}
theorem at_assign (o:Ops2 A cal G)(ts:List Expr)(v:Expr)(pos:Pos):ExAt A cal G n k (.Assign ts v pos):=by
 intro nm env W0 B W ρ ρ' fl h I0 a
 have h':ex cal G (n+1) ρ (match oneName ts with
  | some t=>cvAsg (cv k nm) nm t v
  | none=>.bad)=some (ρ',fl):=h
 clear h
 cases ht:oneName ts with
 | none=>rw [ht] at h';exact ex_no h' rfl
 | some t =>
  rw [ht] at h'
  obtain rfl:=oneName_ok ht
  exact as_asg o h' I0 a
theorem at_aug (o:Ops2 A cal G)(t:Expr)(op:Operator)(v:Expr)(pos:Pos):ExAt A cal G n k (.AugAssign t op v pos):=by
 intro nm env W0 B W ρ ρ' fl h I0 a
 refine xEA (ex_omb h) λq _ h0=>?_
 clear h
 obtain ⟨id,p,rfl⟩:=q
 obtain ⟨ho,h1⟩:=ex_ite h0
 obtain ⟨hcd,h2⟩:=ex_ite' h1
 clear h0 h1
 obtain rfl:=isAdd_ok ho
 refine xEA (ex_omb h2) λx ht h3=>?_
 refine st_aug o I0 a ht ?_ h3
 obtain ⟨-,h4⟩:=ite_val (show (if isOwn (lkp nm (tx id))=true then some (tx id) else none)=some x from ht)
 rw [<-sq h4]
 exact hcd
theorem at_for (o:Ops2 A cal G)(hX:ExOk A cal G n)(t it:Expr)(body els:List Stmt)(pos:Pos):ExAt A cal G n k (.For t it body els pos):=by
 intro nm env W0 B W ρ ρ' fl h I0 a
 obtain ⟨he,h'⟩:=ex_ite (show ex cal G (n+1) ρ (if els.isEmpty then cvFor (cv k nm) nm t it (body.map (cvS k nm)) else .bad)=some (ρ',fl) from h)
 clear h
 obtain rfl:els=[]:=List.isEmpty_iff.mp he
 exact as_for o hX h' I0 a
theorem at_try (hX:ExOk A cal G n)(body:List Stmt)(hs:List ExceptHandler)(els fin:List Stmt)(pos:Pos):ExAt A cal G n k (.Try body hs els fin pos):=by
 intro nm env W0 B W ρ ρ' fl h I0 a
 obtain ⟨hne,h1⟩:=ex_ite' (show ex cal G (n+1) ρ (if hs.isEmpty then .bad else if els.isEmpty&&fin.isEmpty then .try_ (body.map (cvS k nm)) else .bad)=some (ρ',fl) from h)
 obtain ⟨he,h2⟩:=ex_ite h1
 clear h h1
 rw [Bool.and_eq_true] at he
 obtain rfl:els=[]:=List.isEmpty_iff.mp he.1
 obtain rfl:fin=[]:=List.isEmpty_iff.mp he.2
 exact as_try hX hne h2 I0 a
theorem st_at (o:Ops2 A cal G)(hX:ExOk A cal G n)(st:Stmt):ExAt A cal G n k st:=by
 cases st with
 | Assign ts v pos=>exact at_assign o ts v pos
 | AugAssign t op v pos=>exact at_aug o t op v pos
 | Return e pos =>
  cases e with
  | none=>exact .bad λ_=>rfl
  | some e=>exact λnm env W0 B W ρ ρ' fl h I0 a=>st_ret o I0 a h
 | If c ba bb pos=>exact λnm env W0 B W ρ ρ' fl h I0 a=>as_if o hX h I0 a
 | For t it body els pos=>exact at_for o hX t it body els pos
 | Break pos=>exact λnm env W0 B W ρ ρ' fl h I0 a=>by obtain ⟨rfl,rfl⟩:=sqp h;exact λs Q E ok po=>wpAny_bind (wpAny_standAt (wpAny_pure (po .brk W s a ok rfl)))
 | Continue pos=>exact λnm env W0 B W ρ ρ' fl h I0 a=>by obtain ⟨rfl,rfl⟩:=sqp h;exact λs Q E ok po=>wpAny_bind (wpAny_standAt (wpAny_pure (po .cont W s a ok rfl)))
 | Expr v pos=>exact λnm env W0 B W ρ ρ' fl h I0 a=>as_exp o h I0 a
 | Try body hs els fin pos=>exact at_try hX body hs els fin pos
 | _=>exact .bad λ_=>rfl
end
theorem ex_ok (o:Ops2 A cal G){n:Nat}(hX:ExOk A cal G n):ExOk A cal G (n+1):=λk nm env W0 B W ρ st ρ' fl h I0 a =>
 match k,h with
 | 0,h=>ex_no h rfl
 | _+1,h=>st_at o hX st nm env W0 B W ρ ρ' fl h I0 a
theorem ex_all (o:Ops2 A cal G):∀ n,ExOk A cal G n
 | 0=>λk nm env W0 B W ρ st ρ' fl h=>nomatch h
 | n+1=>ex_ok o (ex_all o n)
end
end
section
open PySem.Builtin PySem.Builtin.Str PySem.StrLaws PySem.Calls
section
variable {A:Around}{W W' W0 W1 W2:Wd}{P B X:List Addr}{d:D}{s:Shared}{E:Value->Shared->Prop}{env:Env}
theorem zip_lookup:∀ {ns:List Str} {vs:List Value},ns.length<=vs.length->∀ n∈ns,((ns.zip vs).lookup n).isSome=true
 | [],_,_,n,h=>nomatch h
 | m::ns,[],hl,_,_=>by simp at hl
 | m::ns,v::vs,hl,n,h=>by
  rw [List.zip_cons_cons,List.lookup_cons]
  cases e:n == m with
  | true=>rfl
  | false =>
   rcases List.mem_cons.mp h with q | q
   ·subst q;rw [beq_self_eq_true] at e;cases e
   ·exact zip_lookup (by simpa using hl) n q
theorem zip_filterMap:∀ {ns:List Str} {vs:List Value},ns.length<=vs.length->ns.Nodup->ns.filterMap (λn=>((ns.zip vs).lookup n).map (n,·))=ns.zip vs
 | [],_,_,_=>rfl
 | m::ns,[],hl,_=>by simp at hl
 | m::ns,v::vs,hl,hn=>by
  rw [List.nodup_cons] at hn
  rw [List.zip_cons_cons,List.filterMap_cons]
  have e:((m,v)::ns.zip vs).lookup m=some v:=by rw [List.lookup_cons,beq_self_eq_true]
  rw [e]
  dsimp only [Option.map_some]
  congr 1
  have key:∀ l:List Str,(∀ n∈l,n≠m)->l.filterMap (λn=>(((m,v)::ns.zip vs).lookup n).map (n,·))=l.filterMap (λn=>((ns.zip vs).lookup n).map (n,·)):=λl=>by
   induction l with
   | nil=>intro _;rfl
   | cons a l ih =>
    intro h
    have hne:(a == m)=false:=by rw [beq_eq_false_iff_ne];exact h a (.head _)
    have e2:((m,v)::ns.zip vs).lookup a=(ns.zip vs).lookup a:=by rw [List.lookup_cons,hne]
    rw [List.filterMap_cons,List.filterMap_cons,e2,ih λn hn=>h n (.tail _ hn)]
  rw [key ns λn hm e=>hn.1 (e▸hm)]
  exact zip_filterMap (by simpa using hl) hn.2
theorem defaults_loop {ps:List Str}{vs:List Value}(hl:ps.length<=vs.length)(f:Str×Value->List (Str×Value)->Sem (ForInStep (List (Str×Value))))
  (hf:∀ n d (sl:List (Str×Value)),f (n,d) sl=if (sl.lookup n).isNone=true then pure (.yield (sl++[(n,d)])) else pure (.yield sl)) :
  ∀ (l:List (Str×Value)),(∀ x∈l,x.1∈ps)->(forIn l (ps.zip vs) f:Sem _)=pure (ps.zip vs)
 | [],_=>rfl
 | (n,d)::l,h=>by
  rw [List.forIn_cons,hf]
  have:=zip_lookup hl n (h _ (.head _))
  rw [if_neg (by rw [Option.isNone_iff_eq_none];intro e;rw [e] at this;cases this)]
  exact defaults_loop hl f hf l λx hx=>h x (.tail _ hx)
noncomputable def restT (va:Option Str)(b:List (Str×Value))(vs:List Value):Sem (List (Str×Value)):=match va with
 | some a=>newTuple vs>>=λt=>pure (b++[(a,t)])
 | none=>pure b
noncomputable def restK (kw:Option Str)(b:List (Str×Value)):Sem (List (Str×Value)):=match kw with
 | some a=>alloc { cls:=.type "dict",data:=.dict #[] }>>=λd=>pure (b++[(a,.ref d)])
 | none=>pure b
theorem wpAny_else {M:Model}{c:Prop} [Decidable c] {α:Type}{a b:Sem α}{Q:α->Shared->Prop}(hc:¬ c)(h:wpAny M A b Q E s):wpAny M A (if c then a else b) Q E s:=by rw [if_neg hc];exact h
theorem bindArgs_at {fd:FuncData}{ps:List Str}{va kw:Option Str}{vs:List Value}(p:ParOk fd ps va kw)(hl:ps.length<=vs.length)(hx:va=none->vs.length=ps.length){dfl:Option (Array Value)}
  (hd:∀ (Q:Option (Array Value)->Shared->Prop) E,Q dfl s->wpAny Mo A (seqItems? fd.defaults) Q E s) {Q:List (Str×Value)->Shared->Prop}
  (h:wpAny Mo A (restT va (ps.zip vs) (vs.drop ps.length)>>=λb=>restK kw b) Q E s):wpAny Mo A (bindArgs fd ⟨vs,[]⟩) Q E s:=by
 obtain ⟨name,qual,⟨poA,arA,vaA,koA,kdA,kwA,deA⟩,body,scope,globals,closure,defaults,kwd,doc,pym,ann,code,bi⟩:=fd
 obtain ⟨h1,h2,h3,h4,h5,h6⟩:=p
 dsimp only at h1 h2 h3 h4 h5 hd
 subst h1 h2 h3 h4 h5
 have hc1:¬ ((decide (vs.length > (arA.map λx=>x.arg).length)&&vaA.isNone)=true):=by
  intro z
  rw [Bool.and_eq_true,decide_eq_true_eq] at z
  cases vaA with
  | none=>have:=hx rfl;omega
  | some _=>cases z.2
 have hmiss:∀ k,(List.take k (arA.map λx=>x.arg)).filter (λn=>(((arA.map λx=>x.arg).zip vs).lookup n).isNone)=[]:=λk=>by
  rw [List.filter_eq_nil_iff]
  intro n hn
  have:=zip_lookup hl n (List.mem_of_mem_take hn)
  intro e
  rw [Option.isNone_iff_eq_none] at e
  rw [e] at this;exact nf this
 have hmiss2:∀ k,¬ ((!((List.take k (arA.map λx=>x.arg)).filter (λn=>(((arA.map λx=>x.arg).zip vs).lookup n).isNone)).isEmpty)=true):=λk=>by rw [hmiss];exact Bool.false_ne_true
 show wpAny _ _ (seqItems? defaults>>=_) Q E s
 refine wpAny_bind (hd _ _ ?_)
 refine wpAny_else hc1 ?_
 refine wpAny_else (hmiss2 _) ?_
 refine wpAny_bind (wpAny_of_eq (defaults_loop hl _ (λn d sl=>rfl) _ λx hx=>?_) ?_)
 ·have:=List.of_mem_zip (show (x.1,x.2)∈_ from hx)
  exact List.mem_of_mem_drop this.1
 ·have h2:wpAny Mo A (restT (vaA.map λx:Arg=>x.arg) (((arA.map λx:Arg=>x.arg)++[]).filterMap λn=>(((arA.map λx:Arg=>x.arg).zip vs).lookup n).map (n,·)) (vs.drop (arA.map λx:Arg=>x.arg).length)>>=λb=>restK (kwA.map λx:Arg=>x.arg) b) Q E s:=by
   rw [List.append_nil,zip_filterMap hl h6]
   exact h
  cases vaA with
  | none=>cases kwA<;>exact h2
  | some a =>
   simp only [Option.map_some,restT,bind_assoc,pure_bind] at h2
   cases kwA<;>exact h2
end
end
section
open PySem.Builtin PySem.Builtin.Str PySem.StrLaws PySem.Calls
section
variable {A:Around}{W W' W0 W1 W2:Wd}{P B X:List Addr}{d:D}{s:Shared}{E:Value->Shared->Prop}{env:Env}
variable {cal:D->List D->Option D}{G:Tx->Option D}{nm:List (Str×NameKind)}{ρ ρ':Rho}
noncomputable def putsR:Rho->List (Tx×D)->Rho
 | ρ,[]=>ρ
 | ρ,(x,d)::r=>putsR (setR ρ x (.d d)) r
theorem binds_loop (I0:Inv W0)(f:Str×Value->PUnit->Sem (ForInStep PUnit))(hf:∀ n v u,f (n,v) u=(do storeName env n v;pure (.yield ⟨⟩))) :
  ∀ (xs:List (Tx×D)) (vs:List Value) (ρ:Rho) (W:Wd) (s:Shared) (Q:PUnit->Shared->Prop),(∀ p∈xs,isOwn (lkp nm p.1)=true)->Reps W (xs.map (·.2)) vs->Act W0 B nm env W ρ->Ok W s ->
   (∀ W' s',Act W0 B nm env W' (putsR ρ xs)->Ok W' s'->Q ⟨⟩ s')->wpAny Mo A (forIn ((xs.map λp=>S p.1).zip vs) ⟨⟩ f) Q E s
 | [],vs,ρ,W,s,Q,_,hr,a,o,q=>by
  exact wpAny_pure (q W s a o)
 | (x,d)::xs,vs,ρ,W,s,Q,ho,hr,a,o,q=>by
  obtain ⟨v,vs',rfl,rv,rr⟩:=hr
  rw [List.map_cons,List.zip_cons_cons,List.forIn_cons,hf]
  refine wpAny_bind (wpAny_bind (a.F.put' (ev:=.d d) a.I o (ho _ (.head _)) rv λq1 W1 s1 h1 h2 h3 L1 I1 o1 e1 F1=>wpAny_pure ?_))
  have hP:∀ b∈[q1],b∈W.pv:=mem1 h1
  exact binds_loop I0 f hf xs vs' _ W1 s1 Q (λp hp=>ho p (.tail _ hp)) (rr.mono a.I L1.toLe0 hP) (a.turn I0 L1 I1 (one_own h1 h2) F1 (a.one.put λ_=>nofun)) o1 q
theorem fresh_fm {scope:Scope}{L:Addr}{cs:List (Str×Addr)}{qual:Str}{func:Option Addr}{code:Value}{fr:Option Addr}(I:Inv W)(hk:scope.kind=.function)(hn:okNames scope.names=true)(L1:Le [] W W')(I1:Inv W')(e:EnvOk W W' scope.names [] L cs)(hcd:∀ c,codeOf scope.names=some c->code=.ref c/\qual=qOf c) :
  Act W W.pv scope.names { scope:=scope,locals:=L,globals:=3,cells:=cs,qual:=qual,func:=func,code:=code,frame:=fr,builtins:=0 } W' []:=by
 unfold okNames at hn
 rw [Bool.and_eq_true] at hn
 obtain ⟨h1,h2⟩:=hn
 have fresh:∀ a,W.h.get? a=none->a∉W.pv:=λa e h=>by obtain ⟨o,e'⟩:=I.pvAl a h;rw [e] at e';exact ns e'
 have nofree:∀ x,lkp scope.names x≠some .free:=λx e=>by
  rw [lkp_lookup] at e
  have:=List.all_eq_true.mp h2 _ (mem_of_lookup e)
  exact nf this
 have kd:∀ x k,lkp scope.names x=some k->Env.kindOf { scope:=scope,locals:=L,globals:=3,cells:=cs,qual:=qual,func:=func,code:=code,frame:=fr,builtins:=0 } (S x)=some k:=λx k h=>by
  rw [lkp_lookup] at h;exact h
 refine ⟨I1,.le L1,⟨hk,rfl,rfl,λx h=>kd x _ h,λx h=>kd x _ h,λx h=>absurd h (nofree x),λx h=>kd x _ h,e.lp,fresh _ e.ln,λx c g1 g2=>?_,⟨_,e.ns,λx ev _ h=>nomatch h⟩,λx h=>?_,hcd,λx y c g1 g2 g3 g4=>?_⟩,λx y xs ys h=>(nomatch h),λb hb=>L1.pvK b hb (λz=>nomatch z)⟩
 ·rw [lkp_lookup] at g1
  refine xEAAA (e.cell _ g1) λc' f1 _ f3 _=>?_
  have g2':cs.lookup (S x)=some c:=g2
  rw [f1] at g2';obtain rfl:=sq g2'
  exact fresh _ f3
 ·rcases h with h | h
  ·rw [lkp_lookup] at h
   refine xEAAA (e.cell _ h) λc' f1 f2 f3 f4=>?_
   exact ⟨c',_,f1,f2,f4,λev hev=>nomatch hev⟩
  ·exact absurd h (nofree x)
 ·rcases g2 with g2 | g2
  ·rw [lkp_lookup] at g1 g2
   exact S_inj (e.apart _ _ _ g1 g2 g3 g4)
  ·exact absurd g2 (nofree y)
theorem LeB.all (a:LeB B W0 W)(h:∀ x∈W0.pv,x∈B):Le [] W0 W:=by
 obtain ⟨X,L,hX⟩:=a
 have:X=[]:=by
  cases X with
  | nil=>rfl
  | cons x X=>exact absurd (h x (hX x (.head _)).1) (hX x (.head _)).2
 clear hX h
 subst this
 exact L
structure FunOk (a:Addr)(mf:MF)(o:Obj)(fd:FuncData)(body:List Stmt)(k:Nat)(ps:List Str)(va kw:Option Str):Prop extends SigOk fd mf ps va kw where
 get:zh.get? a=some o
 cls:o.cls=.type "function"
 dat:o.data=.func fd
 hbody:fd.body=.stmts body
 conv:mf.body=body.map (cvS k fd.scope.names)
 dfl:fd.defaults=.none\/∃ T ob items n,fd.defaults=.ref T/\zh.get? T=some ob/\ob.data=.seq items n/\T∉tabs
 code:∃ c oc vs t,fd.code=.ref c/\zh.get? c=some oc/\oc.data=.fields vs/\vs[1]? = some (.str fd.qualname t)/\c∉tabs
 tab:a∉tabs
theorem bindR_puts:∀ (xs:List Tx) (ds:List D) (ρ ρ1:Rho) (rest:List D),bindR xs ds ρ=some (ρ1,rest)->∃ pre:List D,ds=pre++rest/\pre.length=xs.length/\ρ1=putsR ρ (xs.zip pre)
 | [],ds,ρ,ρ1,rest,h=>by
  obtain ⟨rfl,rfl⟩:=sqp h
  exact ⟨[],rfl,rfl,rfl⟩
 | x::xs,[],ρ,ρ1,rest,h=>by exact ns h
 | x::xs,d::ds,ρ,ρ1,rest,h=>by
  have h':bindR xs ds (setR ρ x (.d d))=some (ρ1,rest):=h
  refine xEAA (bindR_puts xs ds _ ρ1 rest h') λpre e1 e2 e3=>?_
  exact ⟨d::pre,by rw [e1];rfl,by rw [List.length_cons,List.length_cons,e2],by rw [e3];rfl⟩
theorem putsR_append:∀ (a b:List (Tx×D)) (ρ:Rho),putsR ρ (a++b)=putsR (putsR ρ a) b
 | [],b,ρ=>rfl
 | (x,d)::a,b,ρ=>putsR_append a b _
theorem zip_app {α β:Type}:∀ {a:List α} {b:List β} {c:List α} {d:List β},a.length=b.length->(a++c).zip (b++d)=a.zip b++c.zip d
 | [],[],_,_,_=>rfl
 | [],_::_,_,_,h=>by simp at h
 | _::_,[],_,_,h=>by simp at h
 | x::a,y::b,c,d,h=>by
  rw [List.cons_append,List.cons_append,List.zip_cons_cons,List.zip_cons_cons,List.cons_append,zip_app (by simpa using h)]
theorem zip_fst:∀ {l:List Tx} {r:List D},l.length=r.length->(l.zip r).map (λp=>S p.1)=l.map S
 | [],_,_=>rfl
 | _::_,[],h=>by simp at h
 | x::l,y::r,h=>by
  rw [List.zip_cons_cons,List.map_cons,List.map_cons,zip_fst (by simpa using h)]
theorem zip_snd:∀ {l:List Tx} {r:List D},l.length=r.length->(l.zip r).map (λp=>p.2)=r
 | [],[],_=>rfl
 | [],_::_,h=>by simp at h
 | _::_,[],h=>by simp at h
 | x::l,y::r,h=>by
  rw [List.zip_cons_cons,List.map_cons,zip_snd (by simpa using h)]
theorem zip_take {α β:Type}:∀ (l:List α) (r:List β),l.zip r=l.zip (r.take l.length)
 | [],_=>rfl
 | _::_,[]=>rfl
 | x::l,y::r=>by
  rw [List.length_cons,List.take_succ_cons,List.zip_cons_cons,List.zip_cons_cons,← zip_take l r]
theorem rep_dict0 (I:Inv W)(h1:W.h.objs.size≠1):Rep (W.push { cls:=.type "dict",data:=.dict #[] }) .dict0 (.ref W.h.objs.size):=by
 refine ⟨_,rfl,h1,new_notPv I,?_,_,#[],0,Heap.get?_push_size _ rfl,⟨rfl,rfl,rfl⟩,rfl,?_,?_,List.nodup_nil⟩
 ·show W.ig.lookup W.h.objs.size=none
  cases h:W.ig.lookup W.h.objs.size with
  | none=>rfl
  | some ds =>
   refine xEA ((I.ig _ _ h).obj) λo e _=>?_
   rw [fresh_none] at e;exact ns e
 ·intro e he;simp at he
 ·constructor
set_option tactic.hygienic true in
theorem code_bind {mf:MF}{fd:FuncData}{ps:List Str}{va kw:Option Str}(F:SigOk fd mf ps va kw)(hlim:zh.NoLimit)(hcs:cStatics∉tabs){as:List D}{ρ0:Rho}(hb:binds mf as=some ρ0){vs:List Value}(I:Inv W)(hr:Reps W as vs)
  (hdflt:∃ dfl,∀ (Q:Option (Array Value)->Shared->Prop) E,Q dfl s->wpAny Mo A (seqItems? fd.defaults) Q E s) {NE:List (Str×Value)->Shared->Prop}
  (after:∀ (xs:List (Tx×D)) (us:List Value) W1 s1,(∀ p∈xs,isOwn (lkp fd.scope.names p.1)=true)->Le [] W W1->Inv W1->Ok W1 s1->Reps W1 (xs.map (·.2)) us->ρ0=putsR [] xs->NE ((xs.map λp=>S p.1).zip us) s1)
  (ok:Ok W s):wpAny Mo A (bindArgs fd ⟨vs,[]⟩) NE E s:=by
 unfold binds at hb
 clear code_bind
 split at hb
 ·rename_i ρ1 rest hbr
  refine xEAA (bindR_puts _ _ _ _ _ hbr) λpre e1 e2 e3=>?_
  have hlen:=hr.length
  have hpl:ps.length=pre.length:=by rw [F.hps,List.length_map,e2]
  have hvl:ps.length<=vs.length:=by rw [hlen,e1,List.length_append,hpl];exact Nat.le_add_right _ _
  have hrp:Reps W pre (vs.take ps.length):=by
   have:=hr.take ps.length
   rw [e1,hpl,List.take_left'] at this
   ·rw [hpl];exact this
   ·rfl
  have hrr:Reps W rest (vs.drop ps.length):=by
   have:=hr.drop ps.length
   rw [e1,hpl,List.drop_left'] at this
   ·rw [hpl];exact this
   ·rfl
  have hzip:ps.zip vs=ps.zip (vs.take ps.length):=zip_take _ _
  clear hr hbr
  obtain ⟨dfl,hdf⟩:=hdflt
  have hmain:∀ p∈mf.ps.zip pre,isOwn (lkp fd.scope.names p.1)=true:=λp hp=>F.own p.1 (List.mem_append.mpr (.inl (List.mem_append.mpr (.inl (List.of_mem_zip (show (p.1,p.2)∈_ from hp)).1))))
  have hz2:(mf.ps.zip pre).map (λp=>p.2)=pre:=zip_snd e2.symm
  have hz1:(mf.ps.zip pre).map (λp=>S p.1)=ps:=by rw [zip_fst e2.symm,F.hps]
  have hsz1:W.h.objs.size≠1:=λe=>by
   obtain ⟨mc,⟨ob,es,ep,g,r⟩,hm⟩:=hlim
   have:=Heap.lt_size (I.at g hcs)
   rw [e] at this
   exact absurd this (by decide)
  have base:ps.zip vs=((mf.ps.zip pre).map λp=>S p.1).zip (vs.take ps.length):=by rw [hz1,hzip]
  have hlt:((mf.ps.zip pre).map λp=>S p.1).length=(vs.take ps.length).length:=by
   rw [hz1,List.length_take];exact (Nat.min_eq_left hvl).symm
  refine bindArgs_at F.par hvl ?_ hdf ?_
  ·intro hv
   rw [F.hva] at hv
   cases hmv:mf.va with
   | some v=>rw [hmv] at hv;cases hv
   | none =>
    rw [hmv] at hb
    dsimp only at hb
    cases rest with
    | nil=>rw [hlen,e1,List.append_nil,hpl]
    | cons _ _=>exact ns hb
  ·clear hpl e1 hlen hdf hvl hz1 hzip e2 dfl as
   cases hmv:mf.va with
   | none =>
    rw [hmv] at hb
    have hva:va=none:=by rw [F.hva,hmv];rfl
    dsimp only at hb
    cases rest with
    | cons _ _=>exact ns hb
    | nil =>
     rw [hva]
     refine wpAny_bind (wpAny_pure ?_)
     cases hmk:mf.kw with
     | none =>
      rw [hmk] at hb
      obtain rfl:=sq hb
      have hkw:kw=none:=by rw [F.hkw,hmk];rfl
      rw [hkw]
      refine wpAny_pure ?_
      rw [base]
      exact after (mf.ps.zip pre) _ W s hmain (Le.refl W) I ok (by rw [hz2];exact hrp) e3
     | some kk =>
      rw [hmk] at hb
      obtain rfl:=sq hb
      have hkw:kw=some (S kk):=by rw [F.hkw,hmk];rfl
      rw [hkw]
      refine wpAny_bind (wpAny_alloc (wpAny_pure ?_))
      have I1:=push_inv I { cls:=.type "dict",data:=.dict #[] }
      have L1:=push_le (P:=[]) (W:=W) { cls:=.type "dict",data:=.dict #[] }
      have hx:=after (mf.ps.zip pre++[(kk,.dict0)]) (vs.take ps.length++[.ref W.h.objs.size]) (W.push { cls:=.type "dict",data:=.dict #[] }) _ (λp hp=>by
       rcases List.mem_append.mp hp with q | q
       ·exact hmain p q
       ·rw [List.mem_singleton] at q
        subst q
        exact F.own _ (List.mem_append.mpr (.inr (by rw [hmk];exact .head _)))) L1 I1 (push_ok ok { cls:=.type "dict",data:=.dict #[] } s.toks) (by
        rw [List.map_append,hz2]
        exact (hrp.later I L1).append ⟨_,[],rfl,rep_dict0 I hsz1,rfl⟩) (by rw [e3,putsR_append];rfl)
      rw [ok.1]
      have e5:ps.zip vs++[(S kk,Value.ref W.h.objs.size)]=((mf.ps.zip pre++[(kk,D.dict0)]).map λp=>S p.1).zip (vs.take ps.length++[.ref W.h.objs.size]):=by
       rw [List.map_append,zip_app hlt,← base];rfl
      rw [e5]
      rw [ok.1] at hx
      exact hx
   | some va' =>
    rw [hmv] at hb
    have hva:va=some (S va'):=by rw [F.hva,hmv];rfl
    dsimp only at hb
    obtain ⟨hzz,hb⟩:=ite_val hb
    have hzz:=Nat.le_of_ble_eq_true hzz
    rw [hva]
    have hrl:(vs.drop ps.length).length<=lim:=by rw [hrr.length];exact hzz
    refine wpAny_bind (wpAny_bind (newTuple_gv I hrr hrl s _ _ ok λtv W1 s1 L1 I1 o1 r1=>wpAny_pure ?_))
    have own1:∀ p∈mf.ps.zip pre++[(va',D.tup rest)],isOwn (lkp fd.scope.names p.1)=true:=λp hp=>by
     rcases List.mem_append.mp hp with q | q
     ·exact hmain p q
     ·rw [List.mem_singleton] at q
      subst q
      exact F.own _ (List.mem_append.mpr (.inl (List.mem_append.mpr (.inr (by rw [hmv];exact .head _)))))
    have rep1:Reps W1 ((mf.ps.zip pre++[(va',D.tup rest)]).map (λp=>p.2)) (vs.take ps.length++[tv]):=by
     rw [List.map_append,hz2]
     exact (hrp.later I L1).append (by exact ⟨_,[],rfl,r1,rfl⟩)
    have e5:ps.zip vs++[(S va',tv)]=((mf.ps.zip pre++[(va',D.tup rest)]).map λp=>S p.1).zip (vs.take ps.length++[tv]):=by
     rw [List.map_append,zip_app hlt,← base];rfl
    cases hmk:mf.kw with
    | none =>
     rw [hmk] at hb
     obtain rfl:=sq hb
     have hkw:kw=none:=by rw [F.hkw,hmk];rfl
     rw [hkw]
     refine wpAny_pure ?_
     rw [e5]
     exact after _ _ W1 s1 own1 L1 I1 o1 rep1 (by rw [e3,putsR_append];rfl)
    | some kk =>
     rw [hmk] at hb
     obtain rfl:=sq hb
     have hkw:kw=some (S kk):=by rw [F.hkw,hmk];rfl
     rw [hkw]
     refine wpAny_bind (wpAny_alloc (wpAny_pure ?_))
     have I2:=push_inv I1 { cls:=.type "dict",data:=.dict #[] }
     have L2:=push_le (P:=[]) (W:=W1) { cls:=.type "dict",data:=.dict #[] }
     have hsz2:W1.h.objs.size≠1:=λe=>by
      obtain ⟨mc,⟨ob,es,ep,g,r⟩,hm⟩:=hlim
      have:=Heap.lt_size (I1.at g hcs)
      rw [e] at this
      exact absurd this (by decide)
     have hlt2:((mf.ps.zip pre++[(va',D.tup rest)]).map λp=>S p.1).length=(vs.take ps.length++[tv]).length:=by
      rw [List.map_append,List.length_append,List.length_append,hlt];rfl
     have hx:=after ((mf.ps.zip pre++[(va',.tup rest)])++[(kk,.dict0)]) ((vs.take ps.length++[tv])++[.ref W1.h.objs.size]) (W1.push { cls:=.type "dict",data:=.dict #[] }) _ (λp hp=>by
      rcases List.mem_append.mp hp with q | q
      ·exact own1 p q
      ·rw [List.mem_singleton] at q
       clear own1 hp
       subst q
       exact F.own _ (List.mem_append.mpr (.inr (by rw [hmk];exact .head _)))) (L1.trans L2) I2 (push_ok o1 { cls:=.type "dict",data:=.dict #[] } s1.toks) (by
       rw [List.map_append]
       exact (rep1.later I1 L2).append (by exact ⟨_,[],rfl,rep_dict0 I1 hsz2,rfl⟩)) (by rw [e3,putsR_append,putsR_append];rfl)
     rw [o1.1]
     have e6:ps.zip vs++[(S va',tv)]++[(S kk,Value.ref W1.h.objs.size)]=(((mf.ps.zip pre++[(va',D.tup rest)])++[(kk,D.dict0)]).map λp=>S p.1).zip ((vs.take ps.length++[tv])++[.ref W1.h.objs.size]):=by
      rw [e5,List.map_append (l₂:=[(kk,D.dict0)]),zip_app hlt2];rfl
     rw [e6]
     rw [o1.1] at hx
     exact hx
 ·exact ns hb
theorem code_core {Pd:Wd->Value->Prop}{X:List Addr}{mf:MF}{fd:FuncData}{a:Addr}{ps:List Str}{va kw:Option Str}(F:SigOk fd mf ps va kw)(BODY:Env->Code)(hlim:zh.NoLimit)(hcs:cStatics∉tabs)
  {as:List D} {ρ0:Rho} (hb:binds mf as=some ρ0) {vs:List Value} (I:Inv W) (hr:Reps W as vs)
  (hcall:∀ s (R:Result->Shared->Prop),Ok W s->wpAny Mo A.in1 (bindArgs fd ⟨vs,[]⟩) (λbs s₁ =>
   wpAny Mo A.in1 (newFunctionEnv fd.scope fd.globals fd.closure bs (fd.qualname ++ ".<locals>.") (some a) fd.code none fd.builtins)
    (λenv s₂=>s₂.heap.NoLimit/\codeAny Mo A (BODY env) R s₂) (λe s'=>R (.error e) s') s₁) (λe s'=>R (.error e) s') s->codeAny Mo A (.call (.ref a) ⟨vs,[]⟩) R s)
  (hdflt:∀ s,Ok W s->∃ dfl,∀ (Q:Option (Array Value)->Shared->Prop) E,Q dfl s->wpAny Mo A.in1 (seqItems? fd.defaults) Q E s)
  (hbody:∀ W1 W2 (env:Env),Le [] W W1->Inv W1->Act W1 W1.pv fd.scope.names env W2 ρ0->∀ s (R:Result->Shared->Prop),Ok W2 s->(∀ v W' s',Le X W1 W'->Inv W'->Ok W' s'->Pd W' v->R (.ok (.ret v)) s')->codeAny Mo A (BODY env) R s)
  {s:Shared} {R:Result->Shared->Prop} (ok:Ok W s) (po:∀ v W' s',Le X W W'->Inv W'->Ok W' s'->Pd W' v->R (.ok (.ret v)) s'):codeAny Mo A (.call (.ref a) ⟨vs,[]⟩) R s:=by
 refine hcall s _ ok (code_bind F hlim hcs hb I hr (hdflt s ok) (λxs us W1 s1 hown L1 I1 o1 r1 hρ=>?_) ok)
 have hn:=F.names
 unfold okNames at hn
 rw [Bool.and_eq_true] at hn
 rw [F.clo]
 refine newEnv_at I1 o1 hn.1 λLc cs W2 s2 L2 I2 o2 e2=>?_
 have a2:=fresh_fm (qual:=fd.qualname ++ ".<locals>.") (func:=some a) (code:=fd.code) (fr:=some Lc) I1 F.kind F.names L2 I2 e2 F.cd
 rw [F.gl,F.bi]
 refine wpAny_bind (binds_loop I1 _ (λ_ _ _=>rfl) xs us [] W2 s2 _ hown (r1.later I1 L2) a2 o2 λW3 s3 a3 o3=>wpAny_pure ?_)
 have hlim3:s3.heap.NoLimit:=by
  obtain ⟨mc,⟨ob,es,ep,g,r⟩,hm⟩:=hlim
  rw [o3.1]
  exact ⟨mc,⟨ob,es,ep,a3.I.at g hcs,r⟩,hm⟩
 rw [<-hρ] at a3
 exact ⟨hlim3,hbody W1 W3 _ L1 I1 a3 s3 _ o3 λv W4 s4 L4 I4 o4 rv=>po v W4 s4 (L1.nil.trans L4) I4 o4 rv⟩
theorem call_core {mf:MF}{fd:FuncData}{a:Addr}{ps:List Str}{va kw:Option Str}(F:SigOk fd mf ps va kw)(BODY:Env->Code)(hlim:zh.NoLimit)(hcs:cStatics∉tabs)
  {as:List D} {ρ0:Rho} (hb:binds mf as=some ρ0) {vs:List Value} (I:Inv W) (hr:Reps W as vs)
  (hcall:∀ s (R:Result->Shared->Prop),Ok W s->wpAny Mo A.in1 (bindArgs fd ⟨vs,[]⟩) (λbs s₁ =>
   wpAny Mo A.in1 (newFunctionEnv fd.scope fd.globals fd.closure bs (fd.qualname ++ ".<locals>.") (some a) fd.code none fd.builtins)
    (λenv s₂=>s₂.heap.NoLimit/\codeAny Mo A (BODY env) R s₂) (λe s'=>R (.error e) s') s₁) (λe s'=>R (.error e) s') s->codeAny Mo A (.call (.ref a) ⟨vs,[]⟩) R s)
  (hdflt:∀ s,Ok W s->∃ dfl,∀ (Q:Option (Array Value)->Shared->Prop) E,Q dfl s->wpAny Mo A.in1 (seqItems? fd.defaults) Q E s)
  (hbody:∀ W1 W2 (env:Env),Inv W1->Act W1 W1.pv fd.scope.names env W2 ρ0->∀ s (R:Result->Shared->Prop),Ok W2 s->(∀ v W' s',Le [] W1 W'->Inv W'->Ok W' s'->Rep W' d v->R (.ok (.ret v)) s')->codeAny Mo A (BODY env) R s) :
  Gv A (call (.ref a) vs) W d:=λ_ _ _ ok po=>wpAny_call (code_core (Pd:=λW' v=>Rep W' d v) (X:=[]) F BODY hlim hcs hb I hr hcall hdflt (λW1 W2 env _=>hbody W1 W2 env) ok λv W' s'=>po v W' s')
theorem code_fun {Pd:Wd->Value->Prop}{X:List Addr}{a:Addr}{mf:MF}{o:Obj}{fd:FuncData}{body:List Stmt}{k:Nat}{ps:List Str}{va kw:Option Str}(F:FunOk a mf o fd body k ps va kw)(hroom:A.depth < recursionLimit)(hlim:zh.NoLimit)(hcs:cStatics∉tabs)
  {as:List D} {ρ0:Rho} (hb:binds mf as=some ρ0) {vs:List Value} (I:Inv W) (hr:Reps W as vs)
  (hbody:∀ W1 W2 (env:Env),Le [] W W1->Inv W1->Act W1 W1.pv fd.scope.names env W2 ρ0->∀ s (Q:Flow->Shared->Prop) E,Ok W2 s->(∀ u W' s',Le X W1 W'->Inv W'->Ok W' s'->(∃ v,(u=.ret v\/(u=.next/\v=.none))/\Pd W' v)->Q u s')->wpAny Mo (A.deeper env) (execs body env) Q E s)
  {s:Shared} {R:Result->Shared->Prop} (ok:Ok W s) (po:∀ v W' s',Le X W W'->Inv W'->Ok W' s'->Pd W' v->R (.ok (.ret v)) s'):codeAny Mo A (.call (.ref a) ⟨vs,[]⟩) R s:=by
 obtain ⟨c,oc,fvs,t,ec,gc,dc,qc,tc⟩:=F.code
 refine code_core (Pd:=Pd) (X:=X) F.toSigOk (λenv=>.func body env) hlim hcs hb I hr (λs R ok h=>codeAny_call_function hroom (by rw [ok.1];exact I.at F.get F.tab) F.dat F.co F.gen F.hbody ⟨c,oc,fvs,t,ec,by rw [ok.1];exact I.at gc tc,dc,qc⟩ h) (λs ok=>?_) (λW1 W2 env L1 I1 a2 s R o2 po=>codeAny_func ?_) ok po
 ·rcases F.dfl with e | ⟨T,ob,items,n,e,g,dt,tt⟩
  ·rw [e];exact ⟨none,λQ E q=>wpAny_pure q⟩
  ·rw [e];exact ⟨some items,λQ E q=>wpAny_seqItems (by rw [ok.1];exact I.at g tt) dt q⟩
 ·refine hbody W1 W2 env L1 I1 a2 s _ _ o2 λu W4 s4 L4 I4 o4 ⟨v,hu,rv⟩=>?_
  rcases hu with rfl | ⟨rfl,rfl⟩
  ·exact po v W4 s4 L4 I4 o4 rv
  ·exact po .none W4 s4 L4 I4 o4 rv
theorem call_fun {a:Addr}{mf:MF}{o:Obj}{fd:FuncData}{body:List Stmt}{k:Nat}{ps:List Str}{va kw:Option Str}(F:FunOk a mf o fd body k ps va kw)(hroom:A.depth < recursionLimit)(hlim:zh.NoLimit)(hcs:cStatics∉tabs)
  {as:List D} {ρ0:Rho} (hb:binds mf as=some ρ0) {vs:List Value} (I:Inv W) (hr:Reps W as vs)
  (hbody:∀ W1 W2 (env:Env),Inv W1->Act W1 W1.pv fd.scope.names env W2 ρ0->∀ s (Q:Flow->Shared->Prop) E,Ok W2 s->(∀ u W' s',Le [] W1 W'->Inv W'->Ok W' s'->(∃ v,(u=.ret v\/(u=.next/\v=.none))/\Rep W' d v)->Q u s')->wpAny Mo (A.deeper env) (execs body env) Q E s) :
  Gv A (call (.ref a) vs) W d:=λ_ _ _ ok po=>wpAny_call (code_fun (Pd:=λW' v=>Rep W' d v) (X:=[]) F hroom hlim hcs hb I hr (λW1 W2 env _=>hbody W1 W2 env) ok λv W' s'=>po v W' s')
end
end
section
open PySem.Builtin PySem.Builtin.Str PySem.StrLaws PySem.Calls
structure Rm (n:Nat)(A:Around):Prop where
 h:A.handled=none
 g:A.guards=some []
 u:A.units+100 * (n+1)<=9000
 d:A.depth+10 * (n+1)<=990
structure RmS (n:Nat)(A:Around):Prop where
 h:A.handled=none
 g:A.guards=some []
 u:A.units+100 * (n+1)+50<=9000
 d:A.depth+10 * (n+1)+5<=990
theorem RmS.rm {n:Nat}{A:Around}(r:RmS n A):Rm n A:=⟨r.h,r.g,by have:=r.u;exact Nat.le_trans (Nat.le_add_right _ 50) this,by have:=r.d;exact Nat.le_trans (Nat.le_add_right _ 5) this⟩
theorem Rm.deeper {n:Nat}{A:Around}(r:Rm (n+1) A)(env:Env):RmS n (A.deeper env) :=
 ⟨r.h,r.g,by have:=r.u;show A.units+3+100 * (n+1)+50<=9000;exact Nat.le_trans (Nat.le_of_eq (by rw [Nat.add_right_comm A.units 3,Nat.add_assoc _ 3 50])) (Nat.le_trans (Nat.add_le_add_left (show 3+50<=100 by decide) _) (by rw [Nat.add_assoc];exact this)),by have:=r.d;show A.depth+1+10 * (n+1)+5<=990;exact Nat.le_trans (Nat.le_of_eq (by rw [Nat.add_right_comm A.depth 1,Nat.add_assoc _ 1 5])) (Nat.le_trans (Nat.add_le_add_left (show 1+5<=10 by decide) _) (by rw [Nat.add_assoc];exact this))⟩
theorem Rm.units {n:Nat}{A:Around}(r:Rm n A):A.units+2 < cLine:=by
 have:=r.u
 have e:cLine=9900:=rfl
 rw [e];exact Nat.lt_of_le_of_lt (Nat.le_trans (Nat.add_le_add_left (Nat.le_trans (show 2<=100 by decide) (Nat.le_mul_of_pos_right 100 (Nat.succ_pos n))) A.units) this) (show 9000 < 9900 by decide)
theorem Rm.room {n:Nat}{A:Around}(r:Rm n A):A.depth < recursionLimit:=by
 have:=r.d
 have e:recursionLimit=1000:=rfl
 rw [e];exact Nat.lt_of_le_of_lt (Nat.le_trans (Nat.le_add_right _ _) this) (show 990 < 1000 by decide)
noncomputable def CalOk (cal:D->List D->Option D)(n:Nat):Prop:=∀ A,Rm n A->∀ f as d,cal f as=some d->∀ W fv vs,Inv W->Rep W f fv->Reps W as vs->Gv A (call fv vs) W d
structure Outer (G:Tx->Option D)(fns:Nat->Option MF)(own:(D->List D->Option D)->D->List D->Option D):Prop where
 b:Bs
 nolim:zh.NoLimit
 cs:cStatics∉tabs
 glo:∀ x d,G x=some d->∀ A (env:Env) W s (Q:Value->Shared->Prop) E,env.globals=3->env.builtins=0->Inv W->Ok W s->(∀ v,Rep W d v->Q v s)->wpAny Mo A (loadGlobal env (S x)) Q E s
 fn:∀ a mf,fns a=some mf->∃ o fd body k ps va kw,FunOk a mf o fd body k ps va kw
 cls:∀ cal f as d,own cal f as=some d->f=.at clsIg
 clsKeep:∀ A W,Inv W->Keep A W (.ref clsIg)
 bi:∀ A,Rm 0 A->∀ k as d,biD k as=some d->∀ W vs,Inv W->Reps W as vs->Gv A (call (.builtin (biN k)) vs) W d
 ty:∀ A,Rm 0 A->∀ k as d,tyD k as=some d->∀ W vs,Inv W->Reps W as vs->Gv A (call (.type (tyN k)) vs) W d
 len:∀ A,∀ x d,biD 0 [x]=some d->∀ W v,Inv W->RepT W x v->Gv A (call (.builtin "len") [v]) W d
 rd:∀ A,Rm 0 A->∀ od m as d,isRd od=true->methD od m as=some d->∀ W ov,Inv W->Rep W od ov->MethAt A W ov (S m) as d
 lamC:∀ ps e fd,lamOkR ps e fd->∃ mk be,fd.body=.expr be/\e=cv mk fd.scope.names be/\SigOk fd ⟨ps,none,none,[]⟩ (ps.map S) none none/\fd.defaults=.none
 lam:∀ A k nm ps bd sc pos xs e,cv k nm (.Lambda ps bd sc pos)=.lam xs e->∀ (env:Env) B W ρ,Fm B nm env W ρ->Inv W->Gv A (eval (.Lambda ps bd sc pos) env) W (.lam xs e)
 tmap:∀ n cal A,RmS n A->CalOk cal n->∀ f xs ds,flat (λi=>(cal f [i]).map λr=>[r]) xs=some ds->∀ (nm:List (Str×NameKind)) (env:Env) B W ρ i1 p1 i2 p2 (he xe:Expr) pos1 pos2,Fm B nm env W ρ->Inv W->isNm nm tTuple (.Name i1 p1)=true->isNm nm tMap (.Name i2 p2)=true->noStar [he,xe]=true ->
  GvA A (eval he env) W f->GvA A (eval xe env) W (.list xs)->Gv A (eval (.Call (.Name i1 p1) [.Call (.Name i2 p2) [he,xe] [] pos1] [] pos2) env) W (.tup ds)
 ksort:∀ n cal A,RmS n A->CalOk cal n->(∀ A' f as d,cal f as=some d->∀ W fv,Inv W->Rep W f fv->Keep A' W fv)->∀ f xs ds,sortD (λa b=>cal f [a,b]) xs=some ds->∀ (nm:List (Str×NameKind)) (env:Env) B W ρ i1 p1 i2 p2 (he xe:Expr) kn kp pos1 pos2,Fm B nm env W ρ->Inv W->isNm nm tSorted (.Name i1 p1)=true->isNm nm tCmp (.Name i2 p2)=true->eqT (tx kn) tKey=true->noStar [xe,he]=true ->
  GvA A (eval xe env) W (.list xs)->GvA A (eval he env) W f->Gv A (eval (.Call (.Name i1 p1) [xe] [⟨some kn,.Call (.Name i2 p2) [he] [] pos1,kp⟩] pos2) env) W (.list ds)
 set:∀ cal A,A.handled=none->∀ n,(∀ m,m<=n->EvOk A cal G m/\EvtOk A cal G m/\TvOk A cal G m)->SetOk A cal G n
 enum:∀ A,A.handled=none->EnumOk A
 sets:∀ cal A,A.handled=none->(∀ n,EvOk A cal G n/\EvtOk A cal G n/\TvOk A cal G n)->SetAsg A cal G
 own:∀ n cal A,Rm (n+1) A->(∀ A',RmS n A'->Ops2 A' cal G)->∀ f as d,own cal f as=some d->∀ W fv vs,Inv W->Rep W f fv->Reps W as vs->Gv A (call fv vs) W d
section
variable {G:Tx->Option D}{fns:Nat->Option MF}{own:(D->List D->Option D)->D->List D->Option D}{A:Around}
theorem Rm.zero {n:Nat}(r:Rm n A):Rm 0 A:=⟨r.h,r.g,by have:=r.u;exact Nat.le_trans (Nat.add_le_add_left (Nat.mul_le_mul_left 100 (Nat.succ_le_succ (Nat.zero_le n))) _) this,by have:=r.d;exact Nat.le_trans (Nat.add_le_add_left (Nat.mul_le_mul_left 10 (Nat.succ_le_succ (Nat.zero_le n))) _) this⟩
theorem callD_kind {n:Nat}{f:D}{as:List D}{d:D}(O:Outer G fns own)(h:callD G fns own n f as=some d){W:Wd}{fv:Value}(I:Inv W)(r:Rep W f fv):Keep A W fv:=by
 cases n with
 | zero=>exact ns h
 | succ n =>
  match f,h,r with
  | .at a,h,r =>
   have h':(match fns a with
    | some mf=>(match binds mf as with
     | some ρ=>(match exl (ex (callD G fns own n) G K) ρ mf.body with
      | some (_,.ret d)=>some d
      | some (_,.next)=>some .none
      | _=>none)
     | none=>none)
    | none=>own (callD G fns own n) (.at a) as)=some d:=h
   have rv:fv=.ref a:=r
   subst rv
   cases hf:fns a with
   | none =>
    rw [hf] at h'
    have:=O.cls _ _ _ _ h'
    cases this
    exact O.clsKeep A W I
   | some mf =>
    obtain ⟨o,fd,body,k,ps,va,kw,F⟩:=O.fn a mf hf
    have og:=I.at F.get F.tab
    have hap:a∉W.pv:=λz=>nomatch I.base.pv a o F.get (λz=>nomatch z) z
    exact Keep.func I og hap (by rw [F.cls];nofun) (by rw [F.cls];decide) F.dat
  | .lam _ _,h,r =>
   obtain ⟨a,o,fd,c,oc,vs,t,rfl,ha,ho,hc,hd,_⟩:=r
   exact Keep.func I ho ha (by rw [hc];nofun) (by rw [hc];decide) hd
  | .none,h,_ | .bool _,h,_ | .int _,h,_ | .str _,h,_ | .list _,h,_ | .tup _,h,_ | .ty _,h,_ | .bi _,h,_ | .dict0,h,_ | .bset,h,_ | .rd _ _,h,_ | .rng _ _,h,_ | .got _ _ _,h,_ | .rdW _ _,h,_=>exact ns h
theorem mkOps {n:Nat}(O:Outer G fns own)(hc:CalOk (callD G fns own n) n)(rs:RmS n A):Ops2 A (callD G fns own n) G:=by
 have r:=rs.rm
 have o:Ops A (callD G fns own n) G:={
  b:=O.b
  h:=r.h
  u:=r.units
  glo:=λx d h env W s Q E=>O.glo x d h A env W s Q E
  keep:=λf as d h W fv I rf=>by
   match f,h,rf with
   | .bi k,h,rf=>have e:fv=.builtin (biN k):=rf;subst e;exact Keep.builtin _
   | .ty k,h,rf=>have e:fv=.type (tyN k):=rf;subst e;exact Keep.type _
   | .at a,h,rf=>exact callD_kind O (show callD G fns own n (.at a) as=some d from h) I rf
   | .lam a b,h,rf=>exact callD_kind O (show callD G fns own n (.lam a b) as=some d from h) I rf
   | .none,h,_ | .bool _,h,_ | .int _,h,_ | .str _,h,_ | .list _,h,_ | .tup _,h,_ | .dict0,h,_ | .bset,h,_ | .rd _ _,h,_ | .rng _ _,h,_ | .got _ _ _,h,_ | .rdW _ _,h,_=>exact (by cases n<;>cases h)
  app:=λf as d h W fv vs I rf rs=>by
   match f,h,rf with
   | .bi k,h,rf=>have e:fv=.builtin (biN k):=rf;subst e;exact O.bi A r.zero k as d h W vs I rs
   | .ty k,h,rf=>have e:fv=.type (tyN k):=rf;subst e;exact O.ty A r.zero k as d h W vs I rs
   | .at a,h,rf=>exact hc A r (.at a) as d h W fv vs I rf rs
   | .lam a b,h,rf=>exact hc A r (.lam a b) as d h W fv vs I rf rs
   | .none,h,_ | .bool _,h,_ | .int _,h,_ | .str _,h,_ | .list _,h,_ | .tup _,h,_ | .dict0,h,_ | .bset,h,_ | .rd _ _,h,_ | .rng _ _,h,_ | .got _ _ _,h,_ | .rdW _ _,h,_=>exact (by cases n<;>cases h)
  rd:=λod m as d h0 h W ov I rv=>O.rd A r.zero od m as d h0 h W ov I rv
  len:=λx d h W v I rv=>O.len A x d h W v I rv
  lam:=λk nm ps bd sc pos xs e h1 env B W ρ F I=>O.lam A k nm ps bd sc pos xs e h1 env B W ρ F I
  tmap:=λf xs ds h=>O.tmap n _ A rs hc f xs ds h
  ksort:=λf xs ds h=>O.ksort n _ A rs hc (λA' f as d e W fv I r=>callD_kind (A:=A') O e I r) f xs ds h }
 have ev:=all_ok o (O.set _ A r.h)
 exact { o with ev:=ev,enum:=O.enum A r.h,sets:=O.sets _ A r.h ev }
end
end
section
open PySem.Builtin PySem.Builtin.Str PySem.StrLaws PySem.Calls
set_option tactic.hygienic true
section
variable {G:Tx->Option D}{fns:Nat->Option MF}{own:(D->List D->Option D)->D->List D->Option D}{A:Around}
theorem cal_ok (O:Outer G fns own):∀ n,CalOk (callD G fns own n) n
 | 0=>λA r f as d h=>nomatch h
 | n+1=>by
  have ih:=cal_ok O n
  intro A r f as d h W fv vs I rf rs
  match f,h,rf with
  | .at a,h,rf =>
   have h':(match fns a with
    | some mf=>(match binds mf as with
     | some ρ=>(match exl (ex (callD G fns own n) G K) ρ mf.body with
      | some (_,.ret d)=>some d
      | some (_,.next)=>some .none
      | _=>none)
     | none=>none)
    | none=>own (callD G fns own n) (.at a) as)=some d:=h
   cases hf:fns a with
   | none =>
    rw [hf] at h'
    exact O.own n _ A r (λA' r'=>mkOps O ih r') (.at a) as d h' W fv vs I rf rs
   | some mf =>
    rw [hf] at h'
    dsimp only at h'
    obtain ⟨o,fd,body,k,ps,va,kw,F⟩:=O.fn a mf hf
    have rv:fv=.ref a:=rf
    subst rv
    cases hb:binds mf as with
    | none=>rw [hb] at h';exact ns h'
    | some ρ0 =>
     rw [hb] at h'
     dsimp only at h'
     refine call_fun F r.room O.nolim O.cs hb I rs λW1 W2 env I1 a2 s Q E o2 po=>?_
     have ops:=mkOps O ih (r.deeper env)
     cases hx:exl (ex (callD G fns own n) G K) ρ0 mf.body with
     | none=>rw [hx] at h';exact ns h'
     | some p =>
      obtain ⟨ρ1,fl⟩:=p
      rw [hx] at h'
      have hx':=hx
      rw [F.conv] at hx'
      refine body_ok (ex_all ops K) body W1 W1.pv ρ0 W2 ρ1 fl hx' I1 a2 s Q E o2 λu W4 s4 a4 o4 hu=>?_
      have L4:=a4.L.all λ_ h=>h
      match fl,h',hu with
      | .ret d',h',hu =>
       obtain rfl:=sq h'
       obtain ⟨v,rfl,r⟩:=hu
       exact po _ W4 s4 L4 a4.I o4 ⟨v,.inl rfl,r⟩
      | .next,h',hu =>
       obtain rfl:=sq h'
       exact po u W4 s4 L4 a4.I o4 ⟨.none,.inr ⟨hu,rfl⟩,rfl⟩
      | .brk,h',_=>exact ns h'
      | .cont,h',_=>exact ns h'
  | .lam ps e,h,rf =>
   have h':(match bindR ps as [] with
     | some (ρ,[])=>ev (callD G fns own n) G K ρ e
     | _=>none)=some d:=h
   obtain ⟨a,o,fd,c,oc,fvs,t,rfl,ha,ho,hc,hd,hlam,hcode,hcp,hoc,hcc,hdc,hq⟩:=rf
   refine xEEAAA (O.lamC ps e fd hlam) λmk be hbe he sg hdf=>?_
   split at h'
   ·rename_i ρ0 hbr
    have hb:binds ⟨ps,none,none,[]⟩ as=some ρ0:=by
     unfold binds
     dsimp only
     rw [hbr]
    refine call_core sg (λenv=>.expr be env) O.nolim O.cs hb I rs (λs R ok h=>kla_callFunE r.room (by rw [ok.1];exact ho) hd sg.co sg.gen hbe ⟨c,oc,fvs,t,hcode,by rw [ok.1];exact hoc,hdc,hq⟩ h) (λs ok=>⟨none,λQ E q=>by rw [hdf];exact wpAny_pure q⟩) λW1 W2 env I1 a2 s R o2 po=>kla_codeExpr ?_
    have ops:=mkOps O ih (r.deeper env)
    rw [he] at h'
    exact (ops.ev K).1.go h' a2.F a2.I W2 (Le.refl W2) a2.I s _ _ o2 λv W4 s4 L4 I4 o4 rv=>po v W4 s4 ((a2.L.all λ_ h=>h).trans L4) I4 o4 rv
   ·exact ns h'
  | .bi k,h,_=>exact ns h
  | .ty k,h,_=>exact ns h
  | .none,h,_ | .bool _,h,_ | .int _,h,_ | .str _,h,_ | .list _,h,_ | .tup _,h,_ | .dict0,h,_ | .bset,h,_ | .rd _ _,h,_ | .rng _ _,h,_ | .got _ _ _,h,_ | .rdW _ _,h,_=>exact ns h
end
end
section
open PySem.Builtin PySem.Builtin.Str PySem.StrLaws PySem.Calls
section
variable {A:Around}{W W' W0 W1 W2:Wd}{P B X:List Addr}{d:D}{s:Shared}{E:Value->Shared->Prop}{env:Env}
theorem len_at {x:D}{v:Value}(h:biD 0 [x]=some d)(I:Inv W)(r:RepT W x v):Gv A (call (.builtin "len") [v]) W d:=by
 intro s Q E o p
 match x,h,r with
 | .list xs,h,r =>
  obtain rfl:=sq h
  refine xEEAAA (r.list) λa items ee2 hl hz hr=>?_
  subst ee2
  refine Calls.call_len_list (by rw [o.1];exact hl) (lim_fit hz) (p.at I (o.tok _) ⟨s.toks+1,?_⟩)
  have:=hr.length
  rw [Array.length_toList] at this
  rw [this]
 | .tup xs,h,r =>
  obtain rfl:=sq h
  have r:=r.plain (λ_=>nofun)
  obtain ⟨a,items,n,rfl,_,hl,hz,hr⟩:=r
  refine PySem.P.len_tuple (by rw [o.1];exact hl) (by have:=lim_fit hz;exact Int.not_le.mpr this) (p.at I (o.tok _) ⟨s.toks+1,?_⟩)
  have:=hr.length
  rw [Array.length_toList] at this
  rw [this]
 | .none,h,_ | .bool _,h,_ | .int _,h,_ | .str _,h,_ | .ty _,h,_ | .bi _,h,_ | .at _,h,_ | .dict0,h,_ | .bset,h,_ | .lam _ _,h,_ | .rd _ _,h,_ | .rng _ _,h,_ | .got _ _ _,h,_ | .rdW _ _,h,_=>exact ns h
theorem isinst_str {x:Tx}(I:Inv W){v:Value}(r:Rep W (.str x) v):Gv A (call (.builtin "isinstance") [v,.type "str"]) W (.bool true):=by
 intro s Q E o p
 obtain ⟨_,t,rfl⟩:=r
 exact PySem.IsiPair.str_str (p.at I o rfl)
theorem isinst_bytes {x:Tx}(I:Inv W){v:Value}(r:Rep W (.str x) v):Gv A (call (.builtin "isinstance") [v,.type "bytes"]) W (.bool false):=by
 intro s Q E o p
 obtain ⟨_,t,rfl⟩:=r
 exact PySem.IsiPair.str_bytes (p.at I (o.tok _) rfl)
theorem type_at {x:D}{v:Value}(h:typeD x=some d)(I:Inv W)(r:Rep W x v):Gv A (call (.type "type") [v]) W d:=by
 intro s Q E o p
 match x,h,r with
 | .bool b,h,r =>
  obtain rfl:=sq h
  have e:v=.bool b:=r
  subst e
  exact call_type_of (Tx := "bool") rfl (by decide +kernel) (p.at I o rfl)
 | .int i,h,r =>
  obtain rfl:=sq h
  obtain ⟨t,rfl⟩:=r
  exact call_type_of (Tx := "int") rfl (by decide +kernel) (p.at I o rfl)
 | .str i,h,r =>
  obtain rfl:=sq h
  obtain ⟨_,t,rfl⟩:=r
  exact call_type_of (Tx := "str") rfl (by decide +kernel) (p.at I o rfl)
 | .list i,h,r =>
  obtain rfl:=sq h
  obtain ⟨a,items,rfl,_,⟨ob,ho,hc,n,hd⟩,_⟩:=r
  exact call_type_of (Tx := "list") ⟨ob,by rw [o.1];exact ho,hc⟩ (by decide +kernel) (p.at I o rfl)
 | .none,h,_ | .tup _,h,_ | .ty _,h,_ | .bi _,h,_ | .at _,h,_ | .dict0,h,_ | .bset,h,_ | .lam _ _,h,_ | .rd _ _,h,_ | .rng _ _,h,_ | .got _ _ _,h,_ | .rdW _ _,h,_=>exact ns h
theorem range_at {a b:Int}(I:Inv W){v u:Value}(r:Rep W (.int a) v)(r':Rep W (.int b) u):Gv A (call (.type "range") [v,u]) W (.rng a b):=by
 intro s Q E o p
 obtain ⟨t,rfl⟩:=r
 obtain ⟨t',rfl⟩:=r'
 refine call_range_2 (p.new I o _ _ ?_)
 exact ⟨_,t,t',s.toks,rfl,new_notPv I,IsRange.new ..⟩
theorem issub_nested {prog:Program}{w:World}{k:Value}{depth:Int}{tk:Tok}{Q:Fin->Shared->Prop}(hk:k=.int depth tk)(hq:Q (.done (.ret (.bool true))) s):wpAny (model prog w) A (Builtin.«issubclass.nested» ⟨[.type "str",.type "str",k],[]⟩) Q E s:=by
 subst hk
 have hself:isSubtype (.type "str") (.type "str")=pure true:=PySem.F.sub_str_str
 have hm:(Value.type ((Manifest.find? "str").elim "type" (·.metatype)) == Value.type "type")=true:=by decide +kernel
 repeat (any_goals (first | assumption | (rw [if_pos hm]) | (rw [hself]) | wp_step))
theorem call_issub_nested {prog:Program}{w:World}{k:Value}{depth:Int}{tk:Tok}{Q:Value->Shared->Prop}(hk:k=.int depth tk)(hq:Q (.bool true) s):wpAny (model prog w) A (call (.builtin "issubclass.nested") [.type "str",.type "str",k]) Q E s:=by
 have hk1:builtinKind "issubclass.nested" = none:=by decide +kernel
 have hp:plainId "issubclass.nested" = true:=by decide +kernel
 have ha:argsOk "issubclass.nested" ⟨[.type "str",.type "str",k],[]⟩:=by kernel_rfl
 refine call_function_entry hk1 hp PySem.F.entry_issubclass_nested ha (issub_nested hk ?_)
 exact ⟨_,rfl,hq⟩
theorem issub_tuple {prog:Program}{w:World}{a:Addr}{items:Array Value}{n:Nat}{k:Value}{tk:Tok}{Q:Fin->Shared->Prop}(hk:k=.int 0 tk)(ht:IsT s.heap a items n)(h0:items[0]? = some (.type "str")) (hq:Q (.done (.ret (.bool true))) s):wpAny (model prog w) A (Builtin.«issubclass.nested» ⟨[.type "str",.ref a,k],[]⟩) Q E s:=by
 subst hk
 have hT:s.TypeIs (.ref a) "tuple" := ⟨_,ht,rfl⟩
 have hsub:isSubtype (.type "tuple") (.type "tuple")=pure true:=PySem.F.sub_tuple_tuple
 refine wpAny_bind (wpAny_typeOf hT ?_)
 refine wpAny_bind (wpAny_bind (wpAny_typeOf hT ?_))
 refine wpAny_pure (wpAny_bind (wpAny_isInstance (T := "tuple") (b:=true) hT hsub ?_))
 refine wpAny_bind (wpAny_seqItems ht rfl ?_)
 have hl:∃ rest,items.toList=.type "str" :: rest:=by
  cases e:items.toList with
  | nil =>
   rw [<-Array.getElem?_toList,e] at h0
   exact ns h0
  | cons x r =>
   rw [<-Array.getElem?_toList,e] at h0
   obtain rfl:=sq h0
   exact ⟨r,rfl⟩
 obtain ⟨rest,hl⟩:=hl
 rw [show (some items).getD #[]=items from rfl,← Array.forIn_toList,hl,List.forIn_cons]
 refine wpAny_bind (wpAny_bind (wpAny_bind (call_issub_nested (k:=rawInt (0+1)) rfl ?_)))
 refine wpAny_bind (wpAny_truthy_bool ?_)
 exact wpAny_bind (wpAny_pure (wpAny_pure (wpAny_pure (wpAny_pure hq))))
theorem issub_at (I:Inv W){v u:Value}(r:Rep W (.ty 0) v)(r':Rep W (.tup [.ty 0,.ty 1]) u):Gv A (call (.builtin "issubclass") [v,u]) W (.bool true):=by
 intro s Q E o p
 have e:v=.type "str" := r
 subst e
 obtain ⟨a,items,n,rfl,_,ht,_,hr⟩:=r'
 have h0:items[0]? = some (.type "str"):=by
  refine xEA (hr.get (k:=0) rfl) λx e1 e2=>?_
  rw [Array.getElem?_toList] at e1
  have e3:x=.type "str" := e2
  rw [e1,e3]
 refine call_issubclass (S:=λ_ R s=>IsT s.heap a items n/\R (.ok (.ret (.bool true))) s) (λprog w A R s h=>issubclass_outer (issub_tuple rfl h.1 h0 h.2)) ⟨by rw [o.1];exact ht,p.at I o rfl⟩
end
end
universe u v
theorem ng {α:Type u}{d:α}{P:Prop}(h:none=some d):P:=nomatch h
theorem sg {α:Type u}{a b:α}(h:some a=some b):a=b:=Option.some.inj h
theorem sp {α:Type u}{β:Type v}{P:Prop}{a c:α}{b d:β}(h:some (a,b)=some (c,d))(k:a=c->b=d->P):P:=k (congrArg Prod.fst (Option.some.inj h)) (congrArg Prod.snd (Option.some.inj h))
inductive An where
 | new (i:Nat)
 | old (j:Nat)
 | use (r:Result) (f:List Obj->List Obj) (tk:Nat)
 | into
 | frame
noncomputable abbrev Stk:=List (Code×Pos)
structure Ob where
 c:Code
 news:List Obj
 olds:List Obj
 tk:Nat
 r:Result
 news':List Obj
 dtk:Nat
structure FS:Type 1 where
 news:List Obj
 olds:List Obj
 tk:Nat
 ans:List An
 chk:List (Addr×Addr)
 obl:List Ob:=[]
 cho:List (Obj×Obj):=[]
 stk:List (((α:Type)×(Stk->Sem α))×((α:Type)×(Stk->Sem α))):=[]
inductive Out (α:Type) where
 | ok (a:α)
 | error (e:Value)
 | cut (a:Addr) (k:Obj->Sem α)
noncomputable def enterOf (l:Stk):Sem Unit:=match enterFrame with | .stack k=>k l | _=>pure ()
noncomputable def kontOf {α:Type}(t:Sem α)(o:Obj):Sem α:=match t with | .load _ _ k=>k o | t=>t
noncomputable def headOf {α:Type}(t:Sem α)(b:Addr):Addr:=match t with | .load a _ _=>a | _=>b
section
variable (n0 t0:Nat)(as:List Addr)(S:Setting)(oc:Obj)
noncomputable def look (st:FS):Option (Addr×Obj×List An×(Obj->FS)):=match st.ans with
 | .new i::r=>(match st.news[i]? with | some o=>some (n0+i,o,r,λo'=>{ st with news:=st.news.set i o',ans:=r }) | none=>none)
 | .old j::r=>(match as[j]?,st.olds[j]? with | some a,some o=>some (a,o,r,λo'=>{ st with olds:=st.olds.set j o',ans:=r }) | _,_=>none)
 | _=>none
noncomputable def go {α:Type}(tp:Bool)(sub:Code->FS->Option (Result×FS))(t:Sem α):FS->Option (Out α×FS) :=
 Sem.rec (motive:=λ_=>FS->Option (Out α×FS))
  (λa st=>some (.ok a,st))
  (λe st=>some (.error e,st))
  (λ_ _=>none)
  (λ_ _=>none)
  (λ_ _ ih st=>ih () st)
  (λ_ _ ih st=>ih () st)
  (λa _ kk ih st=>match look n0 as st with
   | some (b,o,r,_)=>ih o { st with ans:=r,chk:=(a,b)::st.chk }
   | none=>(match st.ans with | []=>some (.cut a kk,st) | _=>none))
  (λa _ f _ ih st=>match look n0 as st with
   | some (b,o,_,put)=>(match (f o).isFreed with
    | false=>ih () { put (f o) with chk:=(a,b)::st.chk }
    | true=>none)
   | none=>none)
  (λo _ ih st=>match o.isFreed with
   | false=>ih (n0+st.news.length) { st with news:=st.news++[o] }
   | true=>none)
  (λ_ _ _ _=>none)
  (λ_ _ ih st=>ih () st)
  (λ_ _ _ _=>none)
  (λ_ ih st=>ih (t0+st.tk) { st with tk:=st.tk+1 })
  (λ_ ih st=>ih S st)
  (λ_ _ _ _ _=>none)
  (λ_ _ _ _ _=>none)
  (λc _ _ _ _ ih st=>match st.ans with
   | .use r f tk::rest=>ih r { st with news:=f st.news,tk:=st.tk+tk,ans:=rest,obl:=⟨c,st.news,st.olds,st.tk,r,f st.news,tk⟩::st.obl }
   | .into::rest=>(match sub c { st with ans:=rest } with
    | some (r,st')=>ih r st'
    | none=>none)
   | _=>(match sub c st with
    | some (r,st')=>ih r st'
    | none=>none))
  (λ_ _ _ _=>none)
  (λ_ _ _ _=>none)
  (λ_ _ _ _=>none)
  (λ_ _ _ _ _ _=>none)
  (λ_ _ _ _ _ _=>none)
  (λkk ih st=>match tp with
   | true=>(match st.ans with
    | .frame::rest=>(match look n0 as { st with ans:=rest } with
     | some (b,o,_,_)=>ih [] { st with ans:=rest,chk:=(b,cStatics)::(headOf (kk []) b,b)::st.chk,cho:=(o,oc)::st.cho,stk:=(⟨_,kk⟩,⟨_,λl=>enterOf l>>=λ_=>kontOf (kk []) o⟩)::st.stk }
     | none=>none)
    | _=>none)
   | false=>none)
  (λ_ _ _ _=>none)
  (λ_ _ _=>none)
  (λ_ _ _ _ _ _ _=>none) t
noncomputable def goC:Nat->Code->FS->Option (Result×FS)
 | 0,_,_=>none
 | n+1,c,st=>(match go n0 t0 as S oc false (goC n) (denote treeTable c) st with
  | some (.ok (.done f),st')=>some (.ok f,st')
  | some (.ok (.again c'),st')=>(match c'.quiet with
   | true=>goC n c' st'
   | false=>none)
  | some (.error e,st')=>some (.error e,st')
  | _=>none)
end
structure Rel (n0 t0:Nat)(as:List Addr)(h0:Heap)(s0:Shared)(st:FS)(s:Shared):Prop where
 size:s.heap.objs.size=n0+st.news.length
 new:∀ (i:Nat) (o:Obj),st.news[i]? = some o->s.heap.get? (n0+i)=some o
 old:∀ (j:Nat) (a:Addr) (o:Obj),as[j]? = some a->st.olds[j]? = some o->s.heap.get? a=some o
 keep:∀ (a:Addr) (o:Obj),h0.get? a=some o->a∉as->s.heap.get? a=some o
 tk:s.toks=t0+st.tk
 rest:(s.gens=s0.gens)/\(s.os=s0.os)/\(s.drawn=s0.drawn)
noncomputable def ObOk (n0 t0:Nat)(as:List Addr)(h0:Heap)(s0:Shared)(b:Ob):Prop:=∀ A s,Rel n0 t0 as h0 s0 ⟨b.news,b.olds,b.tk,[],[],[],[],[]⟩ s ->
 codeAny (model pw zw) A b.c (λr' s'=>r'=b.r/\Rel n0 t0 as h0 s0 ⟨b.news',b.olds,b.tk+b.dtk,[],[],[],[],[]⟩ s') s
section
variable {n0 t0:Nat}{as:List Addr}{h0:Heap}{s0:Shared}{oc:Obj}
noncomputable def Chk (n0 t0:Nat)(as:List Addr)(h0:Heap)(s0:Shared)(st:FS):Prop:=(∀ p∈st.chk,p.1=p.2)/\(∀ b∈st.obl,ObOk n0 t0 as h0 s0 b)/\(∀ p∈st.cho,p.1=p.2)/\∀ p∈st.stk,p.1=p.2
theorem below_of (Γ:Ctx):Γ.Below ⟨Γ.handled,frameCount Γ.below,none,none,unitsOf Γ.below⟩:=⟨rfl,Nat.le_refl _,λ_ h=>(nomatch h),λ_ h=>(nomatch h),Nat.le_refl _⟩
noncomputable def SubOk (n0 t0:Nat)(as:List Addr)(h0:Heap)(s0:Shared)(sub:Code->FS->Option (Result×FS)):Prop:=∀ c st r st',sub c st=some (r,st')->Chk n0 t0 as h0 s0 st' ->
 Chk n0 t0 as h0 s0 st/\∀ (Γ:Ctx) p s,Γ.code=c->Rel n0 t0 as h0 s0 st s->wpCode (model pw zw) Γ (λr' s'=>r'=r/\Rel n0 t0 as h0 s0 st' s') p s
theorem look_inv {st:FS}{b:Addr}{o:Obj}{r:List An}{put:Obj->FS}(h:look n0 as st=some (b,o,r,put)) :
  (∃ i,st.news[i]? = some o/\b=n0+i/\put=λo'=>{ st with news:=st.news.set i o',ans:=r })\/(∃ j,as[j]? = some b/\st.olds[j]? = some o/\put=λo'=>{ st with olds:=st.olds.set j o',ans:=r }):=by
 unfold look at h
 split at h
 ·split at h
  ·rename_i hi
   cases h
   exact .inl ⟨_,hi,rfl,rfl⟩
  ·exact ng h
 ·split at h
  ·rename_i h1 h2
   cases h
   exact .inr ⟨_,h1,h2,rfl⟩
  ·exact ng h
 ·exact ng h
theorem look_at {st:FS}{b:Addr}{o:Obj}{r:List An}{put:Obj->FS}(h:look n0 as st=some (b,o,r,put)){s:Shared}(R:Rel n0 t0 as h0 s0 st s):s.heap.get? b=some o:=by
 rcases look_inv h with ⟨i,hi,rfl,_⟩ | ⟨j,h1,h2,_⟩
 ·exact R.new _ _ hi
 ·exact R.old _ _ _ h1 h2
theorem set_get {α:Type}{l:List α}{i j:Nat}{x y:α}(h:(l.set i x)[j]? = some y):(j=i/\y=x)\/(i≠j/\l[j]? = some y):=by
 by_cases e:i=j
 ·subst e
  have hlt:=(List.getElem?_eq_some_iff.mp h).1
  rw [List.length_set] at hlt
  rw [List.getElem?_set_self hlt] at h
  exact .inl ⟨rfl,(sg h).symm⟩
 ·rw [List.getElem?_set_ne e] at h
  exact .inr ⟨e,h⟩
theorem put_at (hn:h0.objs.size=n0)(hd:as.Nodup)(hl:∀ a∈as,a < n0){st:FS}{b:Addr}{o o':Obj}{r:List An}{put:Obj->FS}(h:look n0 as st=some (b,o,r,put))(hf:o'.isFreed=false){s:Shared}(R:Rel n0 t0 as h0 s0 st s){f:Obj->Obj}(e:f o=o') :
  Rel n0 t0 as h0 s0 (put o') { s with heap:=s.heap.update b f }:=by
 have hs:(s.heap.update b f).get? b=some o':=e▸Heap.get?_update_self f (look_at h R) (by rw [e];exact hf)
 have ho:∀ {a o2},b≠a->s.heap.get? a=some o2->(s.heap.update b f).get? a=some o2:=λhne g=>(Heap.get?_update_other _ f hne).trans g
 rcases look_inv h with ⟨i,hi,rfl,rfl⟩ | ⟨j,h1,h2,rfl⟩
 ·clear h hf e
  refine ⟨by rw [Heap.size_after_update,R.size];exact congrArg (n0 + ·) (List.length_set ..).symm,λj o2 hj=>?_,λj a o2 h1 h2=>ho (λz=>?_) (R.old j a o2 h1 h2),λa o2 e2 hn'=>ho (λz=>?_) (R.keep a o2 e2 hn'),R.tk,R.rest⟩
  ·rcases set_get (show (st.news.set i o')[j]? = some o2 from hj) with ⟨rfl,rfl⟩ | ⟨hne,h3⟩
   ·exact hs
   ·exact ho (λz=>hne (Nat.add_left_cancel z)) (R.new j o2 h3)
  ·exact absurd (z▸hl a (List.mem_of_getElem? h1)) (Nat.not_lt.mpr (Nat.le_add_right _ _))
  ·have:=Heap.lt_size e2
   rw [hn,← z] at this
   exact absurd this (Nat.not_lt.mpr (Nat.le_add_right _ _))
 ·clear h hf e
  have hb:=List.mem_of_getElem? h1
  refine ⟨by rw [Heap.size_after_update,R.size],λi o2 hi=>ho (λz=>?_) (R.new i o2 hi),λk a' o2 g1 g2=>?_,λa' o2 e2 hn'=>ho (λz=>hn' (z▸hb)) (R.keep a' o2 e2 hn'),R.tk,R.rest⟩
  ·have:=hl b hb
   rw [z] at this
   exact absurd this (Nat.not_lt.mpr (Nat.le_add_right _ _))
  ·rcases set_get (show (st.olds.set j o')[k]? = some o2 from g2) with ⟨rfl,rfl⟩ | ⟨hne,h3⟩
   ·rw [<-sg (h1.symm.trans g1)]
    exact hs
   ·refine ho (λz=>hne ?_) (R.old k a' o2 g1 h3)
    obtain ⟨l1,e1⟩:=List.getElem?_eq_some_iff.mp h1
    obtain ⟨l2,e2⟩:=List.getElem?_eq_some_iff.mp g1
    exact (List.getElem_inj hd).mp (e1.trans (z.trans e2.symm))
theorem put_obl {st:FS}{b:Addr}{o o':Obj}{r:List An}{put:Obj->FS}(h:look n0 as st=some (b,o,r,put)):(put o').obl=st.obl/\(put o').cho=st.cho/\(put o').stk=st.stk:=by
 rcases look_inv h with ⟨_,_,_,rfl⟩ | ⟨_,_,_,rfl⟩<;>exact ⟨rfl,rfl,rfl⟩
noncomputable def GoW (n0 t0:Nat)(as:List Addr)(h0:Heap)(s0:Shared)(tp:Bool){α:Type}(t:Sem α)(st st':FS)(r:Out α):Prop :=
 ∀ (Γ:Ctx) (_:tp=true->∃ A,Γ.In A/\A.depth < recursionLimit) (Q:α->Pos->Shared->Prop) (E:Value->Pos->Shared->Prop) p s,(∀ a p s',r=.ok a->Rel n0 t0 as h0 s0 st' s'->Q a p s')->(∀ e p s',r=.error e->Rel n0 t0 as h0 s0 st' s'->E e p s') ->
    (∀ a k p s',r=.cut a k->Rel n0 t0 as h0 s0 st' s'->∃ o,s'.heap.get? a=some o/\Sem.wp (model pw zw) Γ (k o) Q E p s')->Rel n0 t0 as h0 s0 st s->Sem.wp (model pw zw) Γ t Q E p s
noncomputable def Snd (n0 t0:Nat)(as:List Addr)(h0:Heap)(s0:Shared)(oc:Obj)(tp:Bool)(sub:Code->FS->Option (Result×FS)){α:Type}(t:Sem α):Prop :=
 ∀ (st st':FS) (r:Out α),go n0 t0 as ⟨pw,zw.params⟩ oc tp sub t st=some (r,st')->Chk n0 t0 as h0 s0 st'->Chk n0 t0 as h0 s0 st/\GoW n0 t0 as h0 s0 tp t st st' r
set_option tactic.hygienic true in
theorem go_sound {α:Type}{tp:Bool}{sub:Code->FS->Option (Result×FS)}(hN:tp=true->∀ h:Heap,h.get? cStatics=some oc->h.NoLimit)(hn:h0.objs.size=n0)(hd:as.Nodup)(hl:∀ a∈as,a < n0)(hs:SubOk n0 t0 as h0 s0 sub) :
  ∀ (t:Sem α),Snd n0 t0 as h0 s0 oc tp sub t:=by
 intro t
 induction t with
 | pure a=>intro st st' r h c;obtain ⟨h1,h2⟩:=sp (show some (Out.ok a,st)=some (r,st') from h) And.intro;subst h1 h2;exact ⟨c,λΓ hF Q E p s q e z R=>q _ _ _ rfl R⟩
 | raise e=>intro st st' r h c;obtain ⟨h1,h2⟩:=sp (show some (Out.error e,st)=some (r,st') from h) And.intro;subst h1 h2;exact ⟨c,λΓ hF Q E p s q e z R=>e _ _ _ rfl R⟩
 | rule _ k ih=>intro st st' r h c;exact ih () st st' r h c
 | «at» _ k ih=>intro st st' r h c;exact let ⟨a,b⟩:=ih () st st' r h c;⟨a,λΓ hF Q E p s q e z R=>b Γ hF Q E _ s q e z R⟩
 | point _ k ih=>intro st st' r h c;exact ih () st st' r h c
 | ask k ih=>intro st st' r h c;exact ih _ st st' r h c
 | fresh k ih =>
  intro st st' r h c
  obtain ⟨a,b⟩:=ih _ _ st' r h c
  refine ⟨a,λΓ hF Q E p s q e z R=>?_⟩
  show Sem.wp _ Γ (k s.toks) _ _ p { s with toks:=s.toks+1 }
  rw [R.tk]
  exact b Γ hF Q E p _ q e z ⟨R.size,R.new,R.old,R.keep,rfl,R.rest⟩
 | load a _ k ih =>
  intro st st' r h c
  have h':(match look n0 as st with
   | some (b,o,rr,_)=>go n0 t0 as ⟨pw,zw.params⟩ oc tp sub (k o) { st with ans:=rr,chk:=(a,b)::st.chk }
   | none=>(match st.ans with | []=>some (.cut a k,st) | _=>none))=some (r,st'):=h
  cases hl':look n0 as st with
  | none =>
   rw [hl'] at h'
   dsimp only at h'
   split at h'
   ·cases h'
    exact ⟨c,λΓ hF Q E p s q e z R=>z a k p s rfl R⟩
   ·exact ng h'
  | some q =>
   obtain ⟨b,o,rr,put⟩:=q
   rw [hl'] at h'
   obtain ⟨c1,c2⟩:=ih o _ st' r h' c
   refine ⟨⟨λp hp=>c1.1 p (.tail _ hp),c1.2⟩,λΓ hF Q E p s q ee z R=>⟨o,?_,c2 Γ hF Q E p s q ee z ⟨R.size,R.new,R.old,R.keep,R.tk,R.rest⟩⟩⟩
   have e:a=b:=c1.1 (a,b) (.head _)
   rw [e]
   exact look_at hl' R
 | update a _ f k ih =>
  intro st st' r h c
  have h':(match look n0 as st with
   | some (b,o,_,put)=>(match (f o).isFreed with
    | false=>go n0 t0 as ⟨pw,zw.params⟩ oc tp sub (k ()) { put (f o) with chk:=(a,b)::st.chk }
    | true=>none)
   | none=>none)=some (r,st'):=h
  cases hl':look n0 as st with
  | none=>rw [hl'] at h';exact ng h'
  | some q =>
   obtain ⟨b,o,rr,put⟩:=q
   rw [hl'] at h'
   dsimp only at h'
   cases hf:(f o).isFreed with
   | true=>rw [hf] at h';exact ng h'
   | false =>
    rw [hf] at h'
    obtain ⟨c1,c2⟩:=ih () _ st' r h' c
    refine ⟨⟨λp hp=>c1.1 p (.tail _ hp),λb hb=>c1.2.1 b ((put_obl hl').1▸hb),λp hp=>c1.2.2.1 p ((put_obl hl').2.1▸hp),λp hp=>c1.2.2.2 p ((put_obl hl').2.2▸hp)⟩,λΓ hF Q E p s q ee z R=>?_⟩
    have e:a=b:=c1.1 (a,b) (.head _)
    subst e
    have R':=put_at hn hd hl hl' hf R (f:=f) rfl
    exact ⟨by rw [look_at hl' R];rfl,c2 Γ hF Q E p _ q ee z ⟨R'.size,R'.new,R'.old,R'.keep,R'.tk,R'.rest⟩⟩
 | alloc o k ih =>
  intro st st' r h c
  have h':(match o.isFreed with
   | false=>go n0 t0 as ⟨pw,zw.params⟩ oc tp sub (k (n0+st.news.length)) { st with news:=st.news++[o] }
   | true=>none)=some (r,st'):=h
  cases hf:o.isFreed with
  | true=>rw [hf] at h';exact ng h'
  | false =>
   rw [hf] at h'
   obtain ⟨c1,c2⟩:=ih _ _ st' r h' c
   refine ⟨c1,λΓ hF Q E p s q ee z R=>?_⟩
   show Sem.wp _ Γ (k s.heap.objs.size) _ _ p { s with heap:=s.heap.push o }
   rw [R.size]
   refine c2 Γ hF Q E p _ q ee z ⟨by rw [Heap.size_push,R.size,List.length_append];rfl,λi o' hi=>?_,λj a o' h1 h2=>Heap.get?_push_of_some _ (R.old j a o' h1 h2),λa o' e h1=>Heap.get?_push_of_some _ (R.keep a o' e h1),R.tk,R.rest⟩
   have hi':(st.news++[o])[i]? = some o':=hi
   by_cases hlt:i < st.news.length
   ·rw [List.getElem?_append_left hlt] at hi'
    exact Heap.get?_push_of_some _ (R.new i o' hi')
   ·rw [List.getElem?_append_right (Nat.le_of_not_lt hlt)] at hi'
    have hz:i - st.news.length=0:=by
     cases q:i - st.news.length with
     | zero=>rfl
     | succ m=>rw [q] at hi';exact ng hi'
    rw [hz] at hi'
    clear hi
    obtain rfl:=sg hi'
    have:i=st.news.length:=Nat.le_antisymm (Nat.sub_eq_zero_iff_le.mp hz) (Nat.le_of_not_lt hlt)
    rw [this,← R.size]
    exact Heap.get?_push_size _ hf
 | call c0 hdl g l k ih =>
  intro st st' r h c
  have key:∀ st0 r1 st1,sub c0 st0=some (r1,st1)->st0.news=st.news->st0.olds=st.olds->st0.tk=st.tk->st0.chk=st.chk->st0.obl=st.obl->st0.cho=st.cho->st0.stk=st.stk->go n0 t0 as ⟨pw,zw.params⟩ oc tp sub (k r1) st1=some (r,st') ->
    Chk n0 t0 as h0 s0 st/\GoW n0 t0 as h0 s0 tp (.call c0 hdl g l k) st st' r:=by
   intro st0 r1 st1 hc e1 e2 e3 e4 e5 e6 e7 h'
   obtain ⟨c1,c2⟩:=ih r1 st1 st' r h' c
   obtain ⟨c3,c4⟩:=hs c0 st0 r1 st1 hc c1
   refine ⟨⟨λp hp=>c3.1 p (e4▸hp),λb hb=>c3.2.1 b (e5▸hb),λp hp=>c3.2.2.1 p (e6▸hp),λp hp=>c3.2.2.2 p (e7▸hp)⟩,λΓ hF Q E p s q ee z R=>?_⟩
   obtain ⟨r',s',hret,rfl,R'⟩:=c4 (Γ.enter c0 hdl p) p s rfl ⟨by rw [e1];exact R.size,by rw [e1];exact R.new,by rw [e2];exact R.old,R.keep,by rw [e3];exact R.tk,R.rest⟩
   exact ⟨r',s',hret,c2 Γ hF Q E p s' q ee z R'⟩
  have h':(match st.ans with
   | .use r f tk::rest=>go n0 t0 as ⟨pw,zw.params⟩ oc tp sub (k r) { st with news:=f st.news,tk:=st.tk+tk,ans:=rest,obl:=⟨c0,st.news,st.olds,st.tk,r,f st.news,tk⟩::st.obl }
   | .into::rest=>(match sub c0 { st with ans:=rest } with
    | some (r,st')=>go n0 t0 as ⟨pw,zw.params⟩ oc tp sub (k r) st'
    | none=>none)
   | _=>(match sub c0 st with
    | some (r,st')=>go n0 t0 as ⟨pw,zw.params⟩ oc tp sub (k r) st'
    | none=>none))=some (r,st'):=h
  split at h'
  ·rename_i r0 fn tk rest ha
   obtain ⟨c1,c2⟩:=ih r0 _ st' r h' c
   refine ⟨⟨c1.1,λb hb=>c1.2.1 b (.tail _ hb),c1.2.2⟩,λΓ hF Q E p s q ee z R=>?_⟩
   have ob:=c1.2.1 ⟨c0,st.news,st.olds,st.tk,r0,fn st.news,tk⟩ (.head _)
   obtain ⟨r',s',hret,rfl,R'⟩:=ob _ s ⟨R.size,R.new,R.old,R.keep,R.tk,R.rest⟩ (Γ.enter c0 hdl p) p rfl (below_of _)
   exact ⟨r',s',hret,c2 Γ hF Q E p s' q ee z ⟨R'.size,R'.new,R'.old,R'.keep,R'.tk,R'.rest⟩⟩
  ·rename_i rest ha
   cases hc:sub c0 { st with ans:=rest } with
   | none=>rw [hc] at h';exact ng h'
   | some q=>rw [hc] at h';exact key _ q.1 q.2 hc rfl rfl rfl rfl rfl rfl rfl h'
  ·cases hc:sub c0 st with
   | none=>rw [hc] at h';exact ng h'
   | some q=>rw [hc] at h';exact key _ q.1 q.2 hc rfl rfl rfl rfl rfl rfl rfl h'
 | stack k ih =>
  intro st st' r h c
  cases tp with
  | false=>exact ng h
  | true =>
  have h':(match st.ans with
   | .frame::rest=>(match look n0 as { st with ans:=rest } with
    | some (b,o,_,_)=>go n0 t0 as ⟨pw,zw.params⟩ oc true sub (k []) { st with ans:=rest,chk:=(b,cStatics)::(headOf (k []) b,b)::st.chk,cho:=(o,oc)::st.cho,stk:=(⟨_,k⟩,⟨_,λl=>enterOf l>>=λ_=>kontOf (k []) o⟩)::st.stk }
    | none=>none)
   | _=>none)=some (r,st'):=h
  split at h'
  ·rename_i rest ha
   cases hl':look n0 as { st with ans:=rest } with
   | none=>rw [hl'] at h';cases h'
   | some q =>
    obtain ⟨b,o,rr,put⟩:=q
    rw [hl'] at h'
    obtain ⟨c1,c2⟩:=ih [] _ st' r h' c
    refine ⟨⟨λp hp=>c1.1 p (.tail _ (.tail _ hp)),c1.2.1,λp hp=>c1.2.2.1 p (.tail _ hp),λp hp=>c1.2.2.2 p (.tail _ hp)⟩,λΓ hF Q E p s q ee z R=>?_⟩
    have e1:b=cStatics:=c1.1 (b,cStatics) (.head _)
    have e2:headOf (k []) b=b:=c1.1 (headOf (k []) b,b) (.tail _ (.head _))
    have e3:o=oc:=c1.2.2.1 (o,oc) (.head _)
    have e4:k=λl=>enterOf l>>=λ_=>kontOf (k []) o:=eq_of_heq (Sigma.mk.inj (c1.2.2.2 (⟨_,k⟩,⟨_,λl=>enterOf l>>=λ_=>kontOf (k []) o⟩) (.head _))).2
    have R1:Rel n0 t0 as h0 s0 { st with ans:=rest } s:=⟨R.size,R.new,R.old,R.keep,R.tk,R.rest⟩
    have hb:=look_at hl' R1
    clear R1 hl' c1 ih
    refine xEA (hF rfl) λA hA hd'=>?_
    have main:∀ p',Sem.wp (model pw zw) Γ (kontOf (k []) o) Q E p' s:=λp'=>by
     have:=c2 Γ hF Q E p' s q ee z ⟨R.size,R.new,R.old,R.keep,R.tk,R.rest⟩
     revert this e2
     clear R z ee q hF c2
     cases k [] with
     | load a pt k1 =>
      intro e2 ⟨o',g,x⟩
      have:a=b:=e2
      clear e2
      subst this
      rw [hb] at g
      cases g
      exact x
     | _=>intro _ x;exact x
    have hfr:Sem.wp (model pw zw) Γ (enterFrame>>=λ_=>kontOf (k []) o) Q E p s:=by
     rw [Sem.wp_bind']
     exact Sem.wp_mono _ Γ _ (λa p' s' x=>by rw [x];exact main p') (λ_ _ _ x=>x.elim) p s (wpAny_enterFrame (Q:=λ_ s'=>s'=s) (E:=λ_ _=>False) (hN rfl _ (by rw [<-e1,hb,e3])) hd' rfl Γ p hA)
    rw [e4]
    exact hfr
  ·exact ng h'
 | _=>intro st st' r h c;exact ng h
theorem goC_sound (hn:h0.objs.size=n0)(hd:as.Nodup)(hl:∀ a∈as,a < n0):∀ n,SubOk n0 t0 as h0 s0 (goC n0 t0 as ⟨pw,zw.params⟩ oc n)
 | 0=>λc st r st' h _=>nomatch h
 | n+1=>by
  have ih:=goC_sound hn hd hl n
  intro c st r st' h hc
  have h':(match go n0 t0 as ⟨pw,zw.params⟩ oc false (goC n0 t0 as ⟨pw,zw.params⟩ oc n) (denote treeTable c) st with
   | some (.ok (.done f),st')=>some (.ok f,st')
   | some (.ok (.again c'),st')=>(match c'.quiet with
    | true=>goC n0 t0 as ⟨pw,zw.params⟩ oc n c' st'
    | false=>none)
   | some (.error e,st')=>some (.error e,st')
   | _=>none)=some (r,st'):=h
  clear h goC_sound
  cases hg:go n0 t0 as ⟨pw,zw.params⟩ oc false (goC n0 t0 as ⟨pw,zw.params⟩ oc n) (denote treeTable c) st with
  | none=>rw [hg] at h';exact ng h'
  | some q =>
   obtain ⟨x,st1⟩:=q
   rw [hg] at h'
   have den:∀ Γ:Ctx,Γ.code=c->(model pw zw).den Γ.code=denote treeTable c:=λΓ e=>by rw [e,← table_eq_tree];rfl
   match x,h' with
   | .ok (.done f),h' =>
    cases h'
    obtain ⟨c1,c2⟩:=go_sound (tp:=false) (λe=>nomatch e) hn hd hl ih _ _ _ _ hg hc
    refine ⟨c1,λΓ p s e R=>(wpCode_iff_wp ..).mpr ?_⟩
    rw [den Γ e]
    refine c2 Γ (λe=>nomatch e) _ _ p s (λa p' s' q1 q2=>?_) (λe' p' s' q1 q2=>by cases q1) (λ_ _ _ _ q1=>by cases q1) R
    cases q1
    exact ⟨rfl,q2⟩
   | .ok (.again c'),h' =>
    dsimp only at h'
    cases hq:c'.quiet with
    | false=>rw [hq] at h';exact ng h'
    | true =>
     rw [hq] at h'
     obtain ⟨d1,d2⟩:=ih c' st1 r st' h' hc
     obtain ⟨c1,c2⟩:=go_sound (tp:=false) (λe=>nomatch e) hn hd hl ih _ _ _ _ hg d1
     refine ⟨c1,λΓ p s e R=>(wpCode_iff_wp ..).mpr ?_⟩
     rw [den Γ e]
     refine c2 Γ (λe=>nomatch e) _ _ p s (λa p' s' q1 q2=>?_) (λe' p' s' q1 q2=>by cases q1) (λ_ _ _ _ q1=>by cases q1) R
     cases q1
     exact ⟨hq,d2 (Γ.goto c') p' s' rfl q2⟩
   | .error e0,h' =>
    cases h'
    obtain ⟨c1,c2⟩:=go_sound (tp:=false) (λe=>nomatch e) hn hd hl ih _ _ _ _ hg hc
    refine ⟨c1,λΓ p s e R=>(wpCode_iff_wp ..).mpr ?_⟩
    rw [den Γ e]
    refine c2 Γ (λe=>nomatch e) _ _ p s (λa p' s' q1 q2=>by cases q1) (λe' p' s' q1 q2=>?_) (λ_ _ _ _ q1=>by cases q1) R
    cases q1
    exact ⟨rfl,q2⟩
   | .cut _ _,h'=>exact ng h'
noncomputable def okV {α:Type}(x:Option (Out α×FS)):Option α:=match x with
 | some (.ok a,_)=>some a
 | _=>none
noncomputable def okA {α:Type}(x:Option (Out α×FS)):Option Addr:=match x with
 | some (.cut a _,_)=>some a
 | _=>none
noncomputable def okK {α:Type}(x:Option (Out α×FS)):Obj->Sem α:=match x with
 | some (.cut _ k,_)=>k
 | _=>λ_=>.unsupported ""
noncomputable def okS {α:Type}(x:Option (Out α×FS)):FS:=match x with
 | some (_,st)=>st
 | none=>⟨[],[],0,[],[],[],[],[]⟩
theorem chk_of {β:Type _}:∀ {l:List (β×β)},l.map (·.1)=l.map (·.2)->∀ p∈l,p.1=p.2:=by
 intro qq
 induction qq with
 | nil =>
  intro _ p hp
  cases hp
 | cons x l ih =>
  intro h p hp
  rw [List.map_cons,List.map_cons] at h
  injection h with h1 h2
  rcases List.mem_cons.mp hp with rfl | q
  ·exact h1
  ·exact ih h2 p q
noncomputable abbrev runS {α:Type}(n0 t0:Nat)(as:List Addr)(os:List Obj)(ans:List An)(n:Nat)(t:Sem α):Option (Out α×FS) :=
 go n0 t0 as ⟨pw,zw.params⟩ default false (goC n0 t0 as ⟨pw,zw.params⟩ default n) t ⟨[],os,0,ans,[],[],[],[]⟩
noncomputable def AllAt (h:Heap):List Addr->List Obj->Prop
 | a::as,o::os=>h.get? a=some o/\AllAt h as os
 | [],[]=>True
 | _,_=>False
theorem AllAt.at {h:Heap}:∀ {as:List Addr} {os:List Obj} {j:Nat} {a:Addr} {o:Obj},AllAt h as os->as[j]? = some a->os[j]? = some o->h.get? a=some o
 | a::as,o::os,0,_,_,x,h1,h2=>by cases h1;cases h2;exact x.1
 | a::as,o::os,j+1,_,_,x,h1,h2=>AllAt.at (as:=as) (os:=os) (j:=j) x.2 h1 h2
 | [],_,_,_,_,_,h1,_=>by simp at h1
 | _::_,[],_,_,_,x,_,_=>x.elim
theorem AllAt.lt {h:Heap}:∀ {as:List Addr} {os:List Obj},AllAt h as os->∀ a∈as,a < h.objs.size
 | _::_,_::_,x,_,.head _=>Heap.lt_size x.1
 | _::_,_::_,x,_,.tail _ m=>AllAt.lt x.2 _ m
 | _::_,[],x,_,_=>x.elim
theorem go_on {α:Type}{A:Around}{t:Sem α}{s0 s:Shared}{as:List Addr}{st0:FS}{tp:Bool}(n:Nat){Q:α->Shared->Prop}{E:Value->Shared->Prop}(hN:tp=true->∀ h:Heap,h.get? cStatics=some oc->h.NoLimit)(hA:tp=true->A.depth < recursionLimit)
  (hn:s0.heap.objs.size=n0) (hd:as.Nodup) (hl:∀ a∈as,a < n0) (R:Rel n0 t0 as s0.heap s0 st0 s) {x:Out α} {st:FS}
  (e:go n0 t0 as ⟨pw,zw.params⟩ oc tp (goC n0 t0 as ⟨pw,zw.params⟩ oc n) t st0=some (x,st)) (hc:Chk n0 t0 as s0.heap s0 st)
  (k:∀ s',Rel n0 t0 as s0.heap s0 st s'->match x with | .ok a=>Q a s' | .error e=>E e s' | .cut a k=>∃ o,s'.heap.get? a=some o/\wpAny (model pw zw) A (k o) Q E s'):wpAny (model pw zw) A t Q E s:=by
 intro Γ p hΓ
 obtain ⟨_,c2⟩:=go_sound (h0:=s0.heap) (s0:=s0) hN hn hd hl (goC_sound hn hd hl n) t _ _ _ e hc
 refine c2 Γ (λe=>⟨A,hΓ,hA e⟩) _ _ p s (λa p' s' x1 x2=>?_) (λe' p' s' x1 x2=>?_) (λa kk p' s' x1 x2=>?_) R
 ·clear R s p hA c2 hc hl hd hn hN
  subst x1;exact k _ x2
 ·clear R s p hA c2 hc hl hd hn hN
  subst x1;exact k _ x2
 ·clear R s p hA c2 hc hl hd hn hN
  subst x1
  refine xEA (k _ x2) λo e1 e2=>?_
  exact ⟨o,e1,e2 Γ p' hΓ⟩
theorem rel_start {s:Shared}{as:List Addr}{os:List Obj}(ho:AllAt s.heap as os)(ans:List An):Rel s.heap.objs.size s.toks as s.heap s ⟨[],os,0,ans,[],[],[],[]⟩ s :=
 ⟨rfl,λi o hi=>(by simp at hi),λj a o g1 g2=>ho.at g1 g2,λ_ _ e _=>e,rfl,rfl,rfl,rfl⟩
theorem go_big {α:Type}{A:Around}{t:Sem α}{s0 s:Shared}{as:List Addr}{st0:FS}{tp:Bool}(n:Nat)(a:α){Q:α->Shared->Prop}{E:Value->Shared->Prop}(hN:tp=true->∀ h:Heap,h.get? cStatics=some oc->h.NoLimit)(hA:tp=true->A.depth < recursionLimit)
  (hn:s0.heap.objs.size=n0) (hd:as.Nodup) (hl:∀ a∈as,a < n0) (R:Rel n0 t0 as s0.heap s0 st0 s) (r:Option (Out α×FS)) (hr:r=go n0 t0 as ⟨pw,zw.params⟩ oc tp (goC n0 t0 as ⟨pw,zw.params⟩ oc n) t st0)
  (h1:okV r=some a) (h2:(okS r).chk.map (·.1)=(okS r).chk.map (·.2)) (h3:(okS r).cho.map (·.1)=(okS r).cho.map (·.2)) (h4:(okS r).stk.map (·.1)=(okS r).stk.map (·.2)) (h5:∀ b∈(okS r).obl,ObOk n0 t0 as s0.heap s0 b)
  (k:∀ s',Rel n0 t0 as s0.heap s0 (okS r) s'->Q a s'):wpAny (model pw zw) A t Q E s:=by
 subst hr
 cases e:go n0 t0 as ⟨pw,zw.params⟩ oc tp (goC n0 t0 as ⟨pw,zw.params⟩ oc n) t st0 with
 | none=>rw [e] at h1;exact ng h1
 | some q =>
  obtain ⟨x,st⟩:=q
  rw [e] at h1 h2 h3 h4 h5 k
  cases x with
  | error v=>exact ng h1
  | cut _ _=>exact ng h1
  | ok b =>
   obtain rfl:=sg h1
   exact go_on n hN hA hn hd hl R e ⟨chk_of h2,h5,chk_of h3,chk_of h4⟩ k
end
noncomputable abbrev fs (N O:List Obj)(k:Nat):FS:=⟨N,O,k,[],[],[],[],[]⟩
section
variable {n0 t0:Nat}{as:List Addr}{h0:Heap}{s0 s:Shared}{A:Around}{N N' O O':List Obj}{k k':Nat}{E:Value->Shared->Prop}
theorem Rel.to {st:FS}(R:Rel n0 t0 as h0 s0 st s)(h:st.news=N/\st.olds=O/\st.tk=k):Rel n0 t0 as h0 s0 (fs N O k) s:=by
 obtain ⟨rfl,rfl,rfl⟩:=h
 exact ⟨R.size,R.new,R.old,R.keep,R.tk,R.rest⟩
noncomputable abbrev runN {α:Type}(n0 t0:Nat)(as:List Addr)(N O:List Obj)(k:Nat)(ans:List An)(n:Nat)(t:Sem α):Option (Out α×FS) :=
 go n0 t0 as ⟨pw,zw.params⟩ default false (goC n0 t0 as ⟨pw,zw.params⟩ default n) t ⟨N,O,k,ans,[],[],[],[]⟩
structure RunOk {α:Type}(r:Option (Out α×FS))(a:α)(N O:List Obj)(k:Nat):Prop where
 v:okV r=some a
 c:(okS r).chk.map (·.1)=(okS r).chk.map (·.2)
 n:(okS r).news=N
 o:(okS r).olds=O
 t:(okS r).tk=k
 b:(okS r).obl=[]
 h:(okS r).cho.map (·.1)=[]
 s:(okS r).stk.map (·.1)=[]
theorem go_run {α:Type}{t:Sem α}(ans:List An)(n:Nat)(a:α)(N' O':List Obj)(k':Nat){Q:α->Shared->Prop}(hn:s0.heap.objs.size=n0)(hd:as.Nodup)(hl:∀ a∈as,a < n0)(R:Rel n0 t0 as s0.heap s0 (fs N O k) s)
  (h:RunOk (runN n0 t0 as N O k ans n t) a N' O' k')
  (q:∀ s',Rel n0 t0 as s0.heap s0 (fs N' O' k') s'->Q a s'):wpAny (model pw zw) A t Q E s :=
 go_big (tp:=false) (oc:=default) (st0:=⟨N,O,k,ans,[],[],[],[]⟩) n a (λe=>nomatch e) (λe=>nomatch e) hn hd hl ⟨R.size,R.new,R.old,R.keep,R.tk,R.rest⟩ _ rfl h.v h.c (by rw [List.map_eq_nil_iff.mp h.h];rfl) (by rw [List.map_eq_nil_iff.mp h.s];rfl) (λb hb=>by rw [h.b] at hb;cases hb) λs' R'=>q s' (R'.to ⟨h.n,h.o,h.t⟩)
theorem go_cut {α:Type}{t:Sem α}{st0:FS}(n:Nat)(a:Addr){Q:α->Shared->Prop}(hn:s0.heap.objs.size=n0)(hd:as.Nodup)(hl:∀ a∈as,a < n0)(R:Rel n0 t0 as s0.heap s0 st0 s)(r:Option (Out α×FS))(hr:r=go n0 t0 as ⟨pw,zw.params⟩ default false (goC n0 t0 as ⟨pw,zw.params⟩ default n) t st0)
  (h1:okA r=some a) (h2:(okS r).chk.map (·.1)=(okS r).chk.map (·.2)) (h3:(okS r).cho.map (·.1)=[]) (h4:(okS r).stk.map (·.1)=[]) (h5:∀ b∈(okS r).obl,ObOk n0 t0 as s0.heap s0 b)
  (k:∀ s',Rel n0 t0 as s0.heap s0 (okS r) s'->∃ o,s'.heap.get? a=some o/\wpAny (model pw zw) A (okK r o) Q E s'):wpAny (model pw zw) A t Q E s:=by
 subst hr
 cases e:go n0 t0 as ⟨pw,zw.params⟩ default false (goC n0 t0 as ⟨pw,zw.params⟩ default n) t st0 with
 | none=>rw [e] at h1;cases h1
 | some q =>
  obtain ⟨x,st⟩:=q
  rw [e] at h1 h2 h3 h4 h5 k
  cases x with
  | error v=>cases h1
  | ok _=>cases h1
  | cut b kk =>
   cases h1
   have h3':st.cho.map (·.1)=[]:=h3
   have h4':st.stk.map (·.1)=[]:=h4
   have c1:∀ p∈st.cho,p.1=p.2:=λp hp=>by rw [List.map_eq_nil_iff.mp h3'] at hp;cases hp
   have c2:∀ p∈st.stk,p.1=p.2:=λp hp=>by rw [List.map_eq_nil_iff.mp h4'] at hp;cases hp
   exact go_on (tp:=false) (oc:=default) n (λe=>nomatch e) (λe=>nomatch e) hn hd hl R e ⟨chk_of h2,h5,c1,c2⟩ k
theorem beq_self (v:Value):(v == v)=true:=decide_eq_true rfl
theorem bne_self (v:Value):(v != v)=false:=by unfold bne;rw [beq_self];rfl
theorem sub_self {c:Addr}{o:Obj}{d:ClassData}{l:List Value}{Q:Bool->Shared->Prop}(h:s.heap.get? c=some o)(hd:o.data=.cls d)(hm:d.mro=.ref c::l)(q:Q true s):wpAny (model pw zw) A (isSubtype (.ref c) (.ref c)) Q E s:=by
 unfold isSubtype mroOf classData
 refine wpAny_bind (wpAny_bind (wpAny_bind (wpAny_load h ?_)))
 rw [hd]
 refine wpAny_pure (wpAny_pure ?_)
 dsimp only
 rw [hm]
 rw [if_neg (by simp)]
 refine wpAny_pure ?_
 rw [List.contains_cons,beq_self,Bool.true_or]
 exact q
theorem isType_cls {c:Addr}{o:Obj}{d:ClassData}{Q:Bool->Shared->Prop}(h:s.heap.get? c=some o)(hd:o.data=.cls d)(q:Q true s):wpAny (model pw zw) A (isType (.ref c)) Q E s:=by
 unfold isType loadHead
 refine wpAny_bind (wpAny_loadPart h ?_)
 rw [hd]
 exact wpAny_pure q
structure SameBut1 (x:Addr)(s s':Shared):Prop where
 keep:∀ a o,s.heap.get? a=some o->a≠x->s'.heap.get? a=some o
 rest:s'.gens=s.gens/\s'.os=s.os/\s'.drawn=s.drawn
theorem Rel.set {i:Nat}{o':Obj}{s':Shared}(hn:h0.objs.size=n0)(hl:∀ a∈as,a < n0)(R:Rel n0 t0 as h0 s0 (fs N O k) s)(hx:s'.heap.get? (n0+i)=some o')(S:SameBut1 (n0+i) s s')(hs:s'.heap.objs.size=s.heap.objs.size)(ht:s'.toks=s.toks) :
  Rel n0 t0 as h0 s0 (fs (N.set i o') O k) s':=by
 refine ⟨by rw [hs,R.size];show _=n0+(N.set i o').length;rw [List.length_set],λj o e=>?_,λj a o e1 e2=>S.keep a o (R.old j a o e1 e2) λq=>?_,λa o e1 e2=>S.keep a o (R.keep a o e1 e2) λq=>?_,by rw [ht];exact R.tk,?_⟩
 ·have e':(N.set i o')[j]? = some o:=e
  by_cases q:i=j
  ·clear e ht hs
   subst q
   have hlt:i < N.length:=by
    have:=(List.getElem?_eq_some_iff.mp e').1
    rwa [List.length_set] at this
   rw [List.getElem?_set_self hlt] at e'
   cases e';exact hx
  ·rw [List.getElem?_set_ne q] at e'
   exact S.keep _ o (R.new j o e') λz=>q (Nat.add_left_cancel z).symm
 ·have:=hl a (List.mem_of_getElem? e1)
  rw [q] at this
  exact absurd this (Nat.not_lt.mpr (Nat.le_add_right _ _))
 ·have:=Heap.lt_size e1
  rw [hn,q] at this
  exact absurd this (Nat.not_lt.mpr (Nat.le_add_right _ _))
 ·obtain ⟨r1,r2,r3⟩:=S.rest
  exact ⟨r1.trans R.rest.1,r2.trans R.rest.2.1,r3.trans R.rest.2.2⟩
structure Adds (N1:List Obj)(k1:Nat)(s s':Shared):Prop where
 keep:∀ a o,s.heap.get? a=some o->s'.heap.get? a=some o
 size:s'.heap.objs.size=s.heap.objs.size+N1.length
 new:∀ (i:Nat) (o:Obj),N1[i]? = some o->s'.heap.get? (s.heap.objs.size+i)=some o
 tk:s'.toks=s.toks+k1
 rest:s'.gens=s.gens/\s'.os=s.os/\s'.drawn=s.drawn
theorem Rel.adds {N1:List Obj}{k1:Nat}{s':Shared}(R:Rel n0 t0 as h0 s0 (fs N O k) s)(S:Adds N1 k1 s s'):Rel n0 t0 as h0 s0 (fs (N++N1) O (k+k1)) s':=by
 refine ⟨by rw [S.size,R.size];show _=n0+(N++N1).length;rw [List.length_append,Nat.add_assoc],λj o e=>?_,λj a o e1 e2=>S.keep a o (R.old j a o e1 e2),λa o e1 e2=>S.keep a o (R.keep a o e1 e2),by rw [S.tk,R.tk];exact Nat.add_assoc ..,?_⟩
 ·have e':(N++N1)[j]? = some o:=e
  by_cases q:j < N.length
  ·rw [List.getElem?_append_left q] at e'
   exact S.keep _ o (R.new j o e')
  ·rw [List.getElem?_append_right (Nat.le_of_not_lt q)] at e'
   have:=S.new _ o e'
   rw [R.size] at this
   have e2:n0+(fs N O k).news.length+(j - N.length)=n0+j:=by show n0+N.length+(j - N.length)=n0+j;rw [Nat.add_assoc,Nat.add_sub_cancel' (Nat.le_of_not_lt q)]
   rw [e2] at this
   exact this
 ·obtain ⟨r1,r2,r3⟩:=S.rest
  exact ⟨r1.trans R.rest.1,r2.trans R.rest.2.1,r3.trans R.rest.2.2⟩
theorem Rel.added {N1:List Obj}{k1:Nat}{s':Shared}(ho:AllAt s.heap as O)(R:Rel s.heap.objs.size s.toks as s.heap s (fs N1 O k1) s'):Adds N1 k1 s s' :=
 ⟨λa o e=>if h:a∈as then by
   obtain ⟨j,hj⟩:=List.getElem?_of_mem h
   have key:∀ {as:List Addr} {os:List Obj} {j:Nat} {a:Addr},AllAt s.heap as os->as[j]? = some a->∃ o,os[j]? = some o:=by
    intro as
    induction as with
    | nil=>intro os j a _ h;simp at h
    | cons b l ih =>
     intro os j a x h
     cases os with
     | nil=>exact x.elim
     | cons o' os =>
      cases j with
      | zero=>exact ⟨o',rfl⟩
      | succ j=>exact ih (os:=os) (j:=j) x.2 h
   obtain ⟨o',ho'⟩:=key ho hj
   have:=ho.at hj ho'
   rw [e] at this
   cases this
   exact R.old j a o hj ho'
  else R.keep a o e h,R.size,R.new,R.tk,R.rest⟩
end
noncomputable def obj (P:Params)(a:Nat):Obj:=match (H1 P).get? a with | some o=>o | none=>default
noncomputable abbrev supO (a b c:Value):Obj:={ cls:=.type "super",data:=.fields #[a,b,c] }
noncomputable abbrev clsO (c ns:Addr)(nm qn:Str)(hdct:Bool)(sn:List Str)(sl:Array (Option Value)):Obj:={ cls:=.type "type",data:=.cls { name:=nm,bases:=[.type "object"],mro:=[.ref c,.type "object"],ns:=ns,qualname:=qn,hasDict:=hdct,slotNames:=sn },slots:=sl }
noncomputable abbrev bmO (id:String)(c:Addr):Obj:={ cls:=.type "builtin_function_or_method",data:=.fields #[.builtin id,.ref c] }
section
variable {s:Shared}{A:Around}{E:Value->Shared->Prop}{x c ns:Nat}{nm qn:Str}{hdct:Bool}{sn:List Str}{sl:Array (Option Value)}
theorem nb {b:Bool}(h:b=false):¬ (b=true):=by rw [h];decide
theorem plain_supi:plainId "super.__init__" = true:=by decide +kernel
theorem entry_supi:entryFor table "super.__init__" = some Builtin.«super.__init__» := entryFor_of_fast (by kernel_rfl)
theorem plain_supg:plainId "super.__getattribute__" = true:=by decide +kernel
theorem entry_supg:entryFor table "super.__getattribute__" = some Builtin.«super.__getattribute__» := entryFor_of_fast (by kernel_rfl)
theorem supi_chk {n0 t0:Nat}{a b d:Value}{rest:List Obj}{as:List Addr}:RunOk (runN n0 t0 ((x+262)::as) [] (supO a b d::rest) 0 [.old 0] 20 (checkBuiltinCall "super.__init__" ⟨[.ref (x+262),.ref (c+262),.ref (c+262)],[]⟩)) () [] (supO a b d::rest) 0 :=
 ⟨by kernel_rfl,by kernel_rfl,by kernel_rfl,by kernel_rfl,by kernel_rfl,by kernel_rfl,by kernel_rfl,by kernel_rfl⟩
theorem supg_chk {n0 t0 tk:Nat}{a b d:Value}{rest:List Obj}{as:List Addr}:RunOk (runN n0 t0 ((x+262)::as) [] (supO a b d::rest) 0 [.old 0] 20 (checkBuiltinCall "super.__getattribute__" ⟨[.ref (x+262),.str (.ofString "__init_subclass__") tk],[]⟩)) () [] (supO a b d::rest) 0 :=
 ⟨by kernel_rfl,by kernel_rfl,by kernel_rfl,by kernel_rfl,by kernel_rfl,by kernel_rfl,by kernel_rfl,by kernel_rfl⟩
theorem supi_set {n0 t0:Nat}{rest:List Obj}{as:List Addr}:RunOk (runN n0 t0 ((x+262)::as) [] (supO .none .none .none::rest) 0 [.old 0,.old 0,.old 0,.old 0,.old 0,.old 0] 20 (do
  setField (.ref (x+262)) 0 (.ref (c+262));setField (.ref (x+262)) 1 (.ref (c+262));setField (.ref (x+262)) 2 (.ref (c+262));ret .none)) (.done (.ret .none)) [] (supO (.ref (c+262)) (.ref (c+262)) (.ref (c+262))::rest) 0 :=
 ⟨by kernel_rfl,by kernel_rfl,by kernel_rfl,by kernel_rfl,by kernel_rfl,by kernel_rfl,by kernel_rfl,by kernel_rfl⟩
theorem sup_init {R:Result->Shared->Prop}(hxc:x≠c)(ho:s.heap.get? (x+262)=some (supO .none .none .none))(hc:s.heap.get? (c+262)=some (clsO (c+262) ns nm qn hdct sn sl))
  (q:∀ s',SameBut1 (x+262) s s'->s'.heap.get? (x+262)=some (supO (.ref (c+262)) (.ref (c+262)) (.ref (c+262)))->s'.heap.objs.size=s.heap.objs.size->s'.toks=s.toks->R (.ok (.ret .none)) s'):codeAny (model pw zw) A (.call (.builtin "super.__init__") ⟨[.ref (x+262),.ref (c+262),.ref (c+262)],[]⟩) R s:=by
 have ha:AllAt s.heap [x+262,c+262] [supO .none .none .none,clsO (c+262) ns nm qn hdct sn sl]:=⟨ho,hc,trivial⟩
 have nd:[x+262,c+262].Nodup:=by simp;omega
 refine codeAny_call_builtin plain_supi entry_supi ?_
 refine go_run _ _ _ _ _ _ rfl nd ha.lt (rel_start ha []) supi_chk λs1 R1=>?_
 have hc1:=R1.old 1 _ _ rfl rfl
 unfold Builtin.«super.__init__»
 dsimp only
 refine wpAny_bind ?_
 rw [show noKeywords "super" ⟨[.ref (x+262),.ref (c+262),.ref (c+262)],[]⟩=pure () from rfl]
 refine wpAny_pure (wpAny_bind (wpAny_pure ?_))
 dsimp only
 refine wpAny_bind (isType_cls hc1 rfl ?_)
 rw [if_neg (by decide)]
 rw [if_neg (nb (by kernel_rfl))]
 refine wpAny_bind ?_
 wp_delta
 refine wpAny_bind (isType_cls hc1 rfl ?_)
 rw [if_pos rfl]
 refine wpAny_bind (sub_self hc1 rfl rfl ?_)
 rw [if_pos rfl]
 refine wpAny_pure ?_
 refine go_run _ _ _ _ _ _ rfl nd ha.lt R1 supi_set λs2 R2=>?_
 refine q s2 ⟨λa o e h=>?_,R2.rest.1,R2.rest.2.1,R2.rest.2.2⟩ (R2.old 0 _ _ rfl rfl) R2.size R2.tk
 by_cases hac:a=c+262
 ·subst hac
  rw [hc] at e;cases e
  exact R2.old 1 _ _ rfl rfl
 ·exact R2.keep a o e (by simp;exact ⟨h,hac⟩)
theorem no_opq {c:Addr}{Q:Option Str->Shared->Prop}(hs:s.heap.get? cStatics=some (obj zw.params cStatics))(q:Q none s):wpAny (model pw zw) A (opaqueClassAbove (.ref c)) Q E s:=by
 unfold opaqueClassAbove
 dsimp only
 refine wpAny_bind ?_
 unfold anyOpaqueLoaded nsGet
 refine wpAny_bind (wpAny_bind (wpAny_loadPart hs ?_))
 rw [show nsLook "thirdparty.any" (obj zw.params cStatics)=pure none from by kernel_rfl]
 refine wpAny_pure (wpAny_pure ?_)
 rw [if_pos (by rfl)]
 exact wpAny_pure q
theorem sup_get {R:Result->Shared->Prop}{tk:Nat}(hxc:x≠c)(ho:s.heap.get? (x+262)=some (supO (.ref (c+262)) (.ref (c+262)) (.ref (c+262))))(hc:s.heap.get? (c+262)=some (clsO (c+262) ns nm qn hdct sn sl))
  (hst:s.heap.get? cStatics=some (obj zw.params cStatics))
  (q:∀ s',Adds [bmO "object.__init_subclass__" (c+262)] 0 s s'->R (.ok (.ret (.ref s.heap.objs.size))) s'):codeAny (model pw zw) A (.call (.builtin "super.__getattribute__") ⟨[.ref (x+262),.str (.ofString "__init_subclass__") tk],[]⟩) R s:=by
 have ha:AllAt s.heap [x+262,c+262,cStatics] [supO (.ref (c+262)) (.ref (c+262)) (.ref (c+262)),clsO (c+262) ns nm qn hdct sn sl,obj zw.params cStatics]:=⟨ho,hc,hst,trivial⟩
 have h2:cStatics=2:=rfl
 have nd:[x+262,c+262,cStatics].Nodup:=by rw [h2];simp;omega
 refine codeAny_call_builtin plain_supg entry_supg ?_
 refine go_run _ _ _ _ _ _ rfl nd ha.lt (rel_start ha []) supg_chk λs1 R1=>?_
 have hx1:=R1.old 0 _ _ rfl rfl
 have hc1:=R1.old 1 _ _ rfl rfl
 have hs1:=R1.old 2 _ _ rfl rfl
 unfold Builtin.«super.__getattribute__»
 dsimp only
 refine wpAny_bind ?_
 unfold asStr?
 refine wpAny_pure ?_
 rw [if_neg (by decide)]
 refine wpAny_bind (wpAny_pure ?_)
 dsimp only
 refine wpAny_bind (wpAny_field (x:=.ref (c+262)) hx1 rfl rfl ?_)
 refine wpAny_bind (wpAny_field (x:=.ref (c+262)) hx1 rfl rfl ?_)
 refine wpAny_bind (wpAny_field (x:=.ref (c+262)) hx1 rfl rfl ?_)
 rw [if_neg (nb (by kernel_rfl))]
 unfold notOfAnOpaqueClass
 refine wpAny_bind (wpAny_bind (no_opq hs1 ?_))
 refine wpAny_pure ?_
 rw [if_neg (nb (by kernel_rfl))]
 unfold mroOf classData
 refine wpAny_bind (wpAny_bind (wpAny_bind (wpAny_load hc1 (wpAny_pure (wpAny_pure ?_)))))
 dsimp only
 rw [List.dropWhile_cons,bne_self,if_neg (by decide)]
 rw [beq_self,show (if true=true then Value.none else Value.ref (c+262))=Value.none from rfl]
 refine go_run [.old 1,.old 1] 20 (.done (.ret (.ref s.heap.objs.size))) [bmO "object.__init_subclass__" (c+262)] [supO (.ref (c+262)) (.ref (c+262)) (.ref (c+262)),clsO (c+262) ns nm qn hdct sn sl,obj zw.params cStatics] 0 rfl nd ha.lt R1 ⟨by kernel_rfl,by kernel_rfl,by kernel_rfl,by kernel_rfl,by kernel_rfl,by kernel_rfl,by kernel_rfl,by kernel_rfl⟩ λs2 R2=>?_
 exact q s2 (R2.added ha)
theorem coll_at {a:Addr}{v:Value}{R:Result->Shared->Prop}(ho:s.heap.get? a=some { cls:=.type "list",data:=.seq #[v] })
  (q:∀ s',Adds [{ cls:=.type "list",data:=.seq #[v] 1 }] 0 s s'->R (.ok (.ret (.ref s.heap.objs.size))) s'):codeAny (model pw zw) A (.builtin "proto.collect" ⟨[.ref a],[]⟩) R s:=by
 refine codeAny_builtin F.entry_proto_collect ?_
 rw [Around.under_plainId F.plain_proto_collect _]
 show wpAny _ A.in1 (newList []>>=λl=>again (.builtin "list.__iadd__" ⟨[l,.ref a],[]⟩)) _ _ s
 refine wpAny_bind (wpAny_newObj_type ?_)
 refine wpAny_pure ⟨plainId_quiet F.plain_list_iadd _,codeAny_builtin F.entry_list_iadd ?_⟩
 rw [Around.under_plainId F.plain_list_iadd _]
 show wpAny _ A.in1 (Builtin.List.listExtendWith (.ref s.heap.objs.size) (.ref a) (.ref s.heap.objs.size)) _ _ _
 have hS:(s.heap.push { cls:=.type "list",data:=.seq ([]:List Value).toArray }).get? s.heap.objs.size=some { cls:=.type "list",data:=.seq #[] 0 }:=Heap.get?_push_size _ rfl
 refine wpAny_mono (wpAny_extend_seq (hsz:=by show 1<=sizeLine;decide) (A:=A) (R:=λr s'=>r=.ok (.ret (.ref s.heap.objs.size))/\s'={ s with heap:=(s.heap.push { cls:=.type "list",data:=.seq ([]:List Value).toArray }).update s.heap.objs.size (Obj.mapSeq (·++#[v])) })
  (s:={ s with heap:=s.heap.push { cls:=.type "list",data:=.seq ([]:List Value).toArray } }) _ a _ 0 (.inl rfl) hS (Heap.get?_push_of_some _ ho) rfl rfl ⟨rfl,rfl⟩) (λfin s' h=>?_) (λe s' h=>absurd h.1 (by simp))
 have fin':R (.ok (.ret (.ref s.heap.objs.size))) { s with heap:=(s.heap.push { cls:=.type "list",data:=.seq ([]:List Value).toArray }).update s.heap.objs.size (Obj.mapSeq (·++#[v])) }:=by
  refine q _ ⟨λb o hb=>(Heap.get?_update_other _ _ (Nat.ne_of_gt (Heap.lt_size hb))).trans (Heap.get?_push_of_some _ hb),?_,λi o hi=>?_,rfl,rfl,rfl,rfl⟩
  ·rw [Heap.size_after_update,Heap.size_push];rfl
  ·match i,hi with
   | 0,hi=>cases hi;exact Heap.get?_update_self (Obj.mapSeq (·++#[v])) hS rfl
   | i+1,hi=>simp at hi
 cases fin with
 | done f =>
  obtain ⟨e,rfl⟩:=h
  cases e
  exact fin'
 | again c'=>exact ⟨h.1,codeAny_mono h.2 λr s'' hr=>by obtain ⟨rfl,rfl⟩:=hr;exact fin'⟩
end
noncomputable def fnAt:List (Nat×Nat×String):=[(94,10,"fspath"),(101,12,"_kind"),(108,13,"_c_path"),(115,14,"_shelf_fresh"),(122,15,"_splitroot"),(129,16,"_normpath"),(136,17,"normpath"),(179,23,"reduce"),(193,27,"_get_sep"),(200,28,"join"),(207,29,"basename"),(212,30,"commonpath"),(219,32,"_law_places"),(226,33,"_law_ahead"),(233,34,"_law_least"),(240,35,"_law_deeper"),(245,36,"_law_if"),(250,37,"_law_deed"),(255,38,"_law_meant"),(260,39,"law")]
noncomputable def mfOf (d:Arguments×List Stmt×Scope):MF:={ ps:=d.1.args.map λa=>tx a.arg,va:=d.1.vararg.map λa=>tx a.arg,kw:=d.1.kwarg.map λa=>tx a.arg,body:=d.2.1.map (cvS K d.2.2.names) }
noncomputable def fns (a:Nat):Option MF:=(fnAt.lookup a).map λi=>mfOf (dS i.1)
noncomputable def nodupT:List Tx->Bool
 | []=>true
 | x::r=>!r.any (eqT x)&&nodupT r
theorem nodupT_iff:∀ {l:List Str},nodupT (l.map tx)=true->l.Nodup:=by
 intro qq
 induction qq with
 | nil =>
  intro _
  exact .nil
 | cons x r ih =>
  intro h
  simp only [List.map_cons,nodupT,Bool.and_eq_true,Bool.not_eq_true',List.any_eq_false,List.mem_map] at h
  refine List.nodup_cons.mpr ⟨λhm=>h.1 _ ⟨x,hm,rfl⟩ (eqT_iff.mpr rfl),ih h.2⟩
noncomputable def parts (d:Arguments×List Stmt×Scope):List Str:=d.1.args.map (·.arg)++(d.1.vararg.map (·.arg)).toList++(d.1.kwarg.map (·.arg)).toList
noncomputable def fnChk (d:Arguments×List Stmt×Scope):Bool :=
 d.1.posonlyargs.isEmpty&&(d.1.kwonlyargs.isEmpty&&((match d.2.2.kind with | .function=>true | _=>false)&&(!d.2.2.isCoroutine&&(!d.2.2.isGenerator&&(okNames d.2.2.names&&(nodupT ((d.1.args.map (·.arg)).map tx)&&(parts d).all λx=>isOwn (lkp d.2.2.names (tx x))))))))
noncomputable abbrev fdOf (x q:String)(d:Arguments×List Stmt×Scope)(g:Nat)(df m c:Value):FuncData:={ name:=.ofString x,qualname:=.ofString q,params:=d.1,body:=.stmts d.2.1,scope:=d.2.2,globals:=g,closure:=[],defaults:=df,kwdefaults:=.none,pyModule:=m,code:=c }
theorem map_tx {α:Type}{f:α->Str}(l:List α):(l.map λa=>tx (f a)).map S=l.map f:=by
 rw [List.map_map]
 exact List.map_congr_left λa _=>S_tx _
theorem opt_tx {α:Type}{f:α->Str}(l:Option α):(l.map λa=>tx (f a)).map S=l.map f:=by
 cases l with
 | none=>rfl
 | some a=>exact congrArg some (S_tx _)
theorem sig_of {d:Arguments×List Stmt×Scope}(h:fnChk d=true){x q:String}{df m c:Value}(hcd:∀ c',codeOf d.2.2.names=some c'->c=.ref c'/\(Str.ofString q ++ ".<locals>." : Str)=qOf c'):SigOk (fdOf x q d 3 df m c) (mfOf d) (d.1.args.map (·.arg)) (d.1.vararg.map (·.arg)) (d.1.kwarg.map (·.arg)):=by
 simp only [fnChk,Bool.and_eq_true,Bool.not_eq_true'] at h
 obtain ⟨h1,h2,h3,h4,h5,h6,h7,h8⟩:=h
 refine ⟨⟨List.isEmpty_iff.mp h1,rfl,rfl,List.isEmpty_iff.mp h2,rfl,nodupT_iff h7⟩,(map_tx _).symm,(opt_tx _).symm,(opt_tx _).symm,rfl,rfl,rfl,?_,h4,h5,h6,hcd,λy hy=>?_⟩
 ·show d.2.2.kind=.function
  revert h3
  cases d.2.2.kind<;>simp
 ·have:S y∈parts d:=by
   unfold parts
   simp only [mfOf,List.mem_append,List.mem_map,Option.mem_toList,Option.map_eq_some_iff] at hy ⊢
   rcases hy with (⟨a,ha,rfl⟩ | ⟨a,ha,rfl⟩) | ⟨a,ha,rfl⟩
   ·exact .inl (.inl ⟨a,ha,(S_tx _).symm⟩)
   ·exact .inl (.inr ⟨a,ha,(S_tx _).symm⟩)
   ·exact .inr ⟨a,ha,(S_tx _).symm⟩
  have:=List.all_eq_true.mp h8 _ this
  rw [tx_S] at this
  exact this
noncomputable def dfA (a:Nat):Value:=if Nat.beq a 179 then .ref 172 else .none
noncomputable def pmA (a:Nat):Value:=match (H1 zw.params).get? a with
 | some ⟨_,_,.func fd,_⟩=>fd.pyModule
 | _=>.none
noncomputable def vsA (a:Nat):Array Value:=match (H1 zw.params).get? (a - 1) with
 | some ⟨_,_,.fields vs,_⟩=>vs
 | _=>#[]
noncomputable def tkA (a:Nat):Nat:=match ((vsA a)[1]? : Option Value) with
 | some (.str _ t)=>t
 | _=>0
noncomputable def fdA (a i:Nat)(x:String):FuncData:=fdOf x x (dS i) 3 (dfA a) (pmA a) (.ref (a - 1))
noncomputable def rowB (a i:Nat)(x:String):Bool:=fnChk (dS i)&&((!tabs.contains a&&!tabs.contains (a - 1)) &&
 (match codeOf (dS i).2.2.names with | some c'=>Nat.beq c' (a - 1)&&decide ((Str.ofString x ++ ".<locals>." : Str)=qOf c') | none=>true))
noncomputable def rowF (r:Nat×Nat×String):Option Obj×Option Obj×Option Value×Bool:=((H1 zw.params).get? r.1,(H1 zw.params).get? (r.1 - 1),((vsA r.1)[1]? : Option Value),rowB r.1 r.2.1 r.2.2)
noncomputable def rowG (r:Nat×Nat×String):Option Obj×Option Obj×Option Value×Bool:=(some { cls:=.type "function",data:=.func (fdA r.1 r.2.1 r.2.2) },some { cls:=.type "code",data:=.fields (vsA r.1) },some (.str (.ofString r.2.2) (tkA r.1)),true)
theorem rows_ok:fnAt.map rowF=fnAt.map rowG:=by kernel_rfl
theorem get172:(H1 zw.params).get? 172=some { cls:=.type "tuple",data:=.seq #[.ref 171] }:=rfl
theorem get171:(H1 zw.params).get? 171=some { cls:=.type "object" }:=rfl
theorem map_at {α β:Type}{f g:α->β}{l:List α}{x:α}(h:l.map f=l.map g)(m:x∈l):f x=g x:=List.map_inj_left.mp h x m
theorem not_tab {a:Nat}(h:(!tabs.contains a)=true):a∉tabs:=λm=>by
 rw [List.contains_iff_mem.mpr m] at h
 exact nf h
theorem fok_at (hk:∀ a o,(H1 zw.params).get? a=some o->zh.get? a=some o){a i:Nat}{x:String}(h:fnAt.lookup a=some (i,x)):∃ o fd ps va kw,FunOk a (mfOf (dS i)) o fd (dS i).2.1 K ps va kw/\fd.scope.names=(dS i).2.2.names:=by
 obtain ⟨l1,l2,e,hr⟩:=List.lookup_eq_some_iff.mp h
 have m:(a,i,x)∈fnAt:=by rw [e];exact List.mem_append_right _ (.head _)
 have q:=map_at rows_ok m
 clear m e hr h l1 l2
 have g1:(H1 zw.params).get? a=some { cls:=.type "function",data:=.func (fdA a i x) }:=congrArg Prod.fst q
 have g2:(H1 zw.params).get? (a - 1)=some { cls:=.type "code",data:=.fields (vsA a) }:=congrArg (λz=>z.2.1) q
 have g3:((vsA a)[1]? : Option Value)=some (.str (.ofString x) (tkA a)):=congrArg (λz=>z.2.2.1) q
 have g4:rowB a i x=true:=congrArg (λz=>z.2.2.2) q
 clear q
 unfold rowB at g4
 rw [Bool.and_eq_true,Bool.and_eq_true,Bool.and_eq_true] at g4
 obtain ⟨b1,⟨b2,b3⟩,b4⟩:=g4
 have hcd:∀ c',codeOf (dS i).2.2.names=some c'->Value.ref (a - 1)=.ref c'/\(Str.ofString x ++ ".<locals>." : Str)=qOf c':=λc' e=>by
  rw [e] at b4
  obtain ⟨y1,y2⟩:=(Bool.and_eq_true _ _).mp b4
  exact ⟨by rw [Nat.eq_of_beq_eq_true y1],of_decide_eq_true y2⟩
 have hdf:dfA a=.none\/dfA a=.ref 172:=by
  unfold dfA
  cases Nat.beq a 179
  ·exact .inl rfl
  ·exact .inr rfl
 refine ⟨_,fdA a i x,_,_,_,⟨sig_of b1 hcd,hk _ _ g1,rfl,rfl,rfl,rfl,?_,⟨a - 1,_,vsA a,tkA a,rfl,hk _ _ g2,rfl,g3,not_tab b3⟩,not_tab b2⟩,rfl⟩
 clear b4 hcd b3 b2 b1 g3 g2 g1
 rcases hdf with h | h
 ·exact .inl h
 ·exact .inr ⟨172,_,_,_,h,hk _ _ get172,rfl,by decide⟩
theorem fn_ok (hk:∀ a o,(H1 zw.params).get? a=some o->zh.get? a=some o){a:Nat}{mf:MF}(h:fns a=some mf):∃ o fd body k ps va kw,FunOk a mf o fd body k ps va kw:=by
 obtain ⟨⟨i,x⟩,h1,h2⟩:=Option.map_eq_some_iff.mp h
 obtain ⟨o,fd,ps,va,kw,F,_⟩:=fok_at hk h1
 exact ⟨o,fd,_,_,ps,va,kw,h2▸F⟩
noncomputable abbrev asG (x d:Addr):List Addr:=[x,d,159,158,156]
noncomputable abbrev osG (d ms a g:Addr)(t1 t2 t3:Tok)(n:Nat):List Obj:=[igX d,igD t1 t2 t3 ms a g n,obj zw.params 159,obj zw.params 158,obj zw.params 156]
noncomputable def ansG:List An:=[.old 0,.old 2,.old 2,.old 3,.old 0,.old 2,.old 2,.old 3,.old 0,.old 0,.old 2,.old 1]
noncomputable def all8 {α:Type}(r:Option (Out α×FS)):Option α×List Addr×List Obj×List Obj×Nat×Nat×Nat×Nat:=(okV r,(okS r).chk.map (·.1),(okS r).news,(okS r).olds,(okS r).tk,(okS r).obl.length,(okS r).cho.length,(okS r).stk.length)
theorem RunOk.of {α:Type}{r:Option (Out α×FS)}{a:α}{N O:List Obj}{k:Nat}(h:all8 r=(some a,(okS r).chk.map (·.2),N,O,k,0,0,0)):RunOk r a N O k:=by
 unfold all8 at h
 simp only [Prod.mk.injEq] at h
 obtain ⟨h1,h2,h3,h4,h5,h6,h7,h8⟩:=h
 exact ⟨h1,h2,h3,h4,h5,List.eq_nil_of_length_eq_zero h6,by rw [List.eq_nil_of_length_eq_zero h7];rfl,by rw [List.eq_nil_of_length_eq_zero h8];rfl⟩
section
variable {n0 t0:Nat}{x d ms a g:Addr}{t1 t2 t3:Tok}{n:Nat}
theorem ga_mods:RunOk (runN n0 t0 (asG x d) [] (osG d ms a g t1 t2 t3 n) 0 ansG 30 (getAttr (.ref x) (S xMods) true)) (.ref ms) [] (osG d ms a g t1 t2 t3 n) 1:=.of (by kernel_rfl)
theorem ga_dirs:RunOk (runN n0 t0 (asG x d) [] (osG d ms a g t1 t2 t3 n) 0 ansG 30 (getAttr (.ref x) (S xDirs) true)) (.ref a) [] (osG d ms a g t1 t2 t3 n) 1:=.of (by kernel_rfl)
theorem ga_ign:RunOk (runN n0 t0 (asG x d) [] (osG d ms a g t1 t2 t3 n) 0 ansG 30 (getAttr (.ref x) (S xIgn) true)) (.ref g) [] (osG d ms a g t1 t2 t3 n) 1:=.of (by kernel_rfl)
end
section
set_option tactic.hygienic true
structure Same {α:Type}(a:α):Type where
noncomputable def tnS:Σ' F:((Value->Bool)->List Value->List Value)->Builtin,Same (F (@List.filter Value)):=by
 constructor
 case snd =>
  have t:Same Builtin.«type.__new__» := ⟨⟩
  delta Builtin.«type.__new__» at t
  revert t
  generalize @List.filter Value=g
  intro t;apply t
noncomputable def tnF (g:List Value):Builtin:=tnS.1 λ_ _=>g
end
noncomputable def okK2 {α:Type}(x:Option (Out α×FS)):Obj->Sem α:=match x with
 | some (.cut _ k,_)=>k
 | _=>λ_=>.unsupported ""
theorem okK2_eq {α:Type}(x:Option (Out α×FS)):okK2 x=okK x:=rfl
structure KP where
 m:Nat
 t:Nat
 b:Nat
 d:Nat
 sl:Nat
 st:Nat
 a:Nat->Nat
 fd:Nat->FuncData
 tt:Nat->Nat
 hh:Nat->Int
 ep:Nat
namespace KP
variable (P:KP)
noncomputable abbrev en (k:String)(i:Nat)(v:Value):DictEntry:={ hash:=P.hh i,key:=.str (.ofString k) (P.tt i),val:=v }
noncomputable def es:Array DictEntry :=
 ⟨[P.en "__module__" 0 (.str (.ofString "cpy313.functools") (P.tt 20)),P.en "__qualname__" 1 (.str (.ofString "cmp_to_key.<locals>.K") (P.tt 21)),P.en "__firstlineno__" 2 (.int 149 (P.tt 22)),P.en "__slots__" 3 (.ref (P.sl+262)),P.en "__init__" 4 (.ref (P.a 0+262)),P.en "__lt__" 5 (.ref (P.a 1+262)),P.en "__gt__" 6 (.ref (P.a 2+262)),P.en "__eq__" 7 (.ref (P.a 3+262)),P.en "__le__" 8 (.ref (P.a 4+262)),P.en "__ge__" 9 (.ref (P.a 5+262)),P.en "__hash__" 10 .none,P.en "__static_attributes__" 11 (.ref (P.st+262))]⟩
noncomputable def as:List Addr:=[P.b+262,P.d+262,P.sl+262,P.a 0+262,P.a 1+262,P.a 2+262,P.a 3+262,P.a 4+262,P.a 5+262,P.st+262,cStatics]
noncomputable abbrev fnO (fd:FuncData):Obj:={ cls:=.type "function",data:=.func fd }
noncomputable def os:List Obj:=[{ cls:=.type "tuple",data:=.seq #[.type "object"] },{ cls:=.type "dict",data:=.dict P.es P.ep },{ cls:=.type "list",data:=.seq #[.str (.ofString "obj") (P.tt 23)] },fnO (P.fd 0),fnO (P.fd 1),fnO (P.fd 2),fnO (P.fd 3),fnO (P.fd 4),fnO (P.fd 5),{ cls:=.type "tuple",data:=.seq #[.str (.ofString "obj") (P.tt 24)] },obj zw.params cStatics]
noncomputable def args:Args:=⟨[.type "type",.str (.ofString "K") (P.tt 25),.ref (P.b+262),.ref (P.d+262)],[]⟩
noncomputable def ans1:List An:=[.old 0,.old 1,.old 0,.old 1,.old 1,.old 2,.use (.ok (.ret (.ref (P.m+262)))) (·++[{ cls:=.type "list",data:=.seq #[.str (.ofString "obj") (P.tt 23)] 1 }]) 0,.new 0,.new 1,.new 1,.new 1,.new 2,.new 2,.new 2,.new 1,.new 1,.new 1,.new 1,.new 1,.new 1]
noncomputable abbrev cl:Value:=.ref (P.m+262+2)
noncomputable def ans2:List An:=[.new 2,.new 2,.new 2,.new 2,.new 2,.new 2,.new 2,.new 1,.new 1,.new 1,.new 1,.new 1,.new 2,.new 2,.new 2,.new 2,.new 1,.new 1,.new 1,.new 1,.new 1,.new 1,.new 1,.old 2,.old 3,.old 4,.old 5,.old 6,.old 7,.old 8,.old 9,.new 3,.new 2,.new 4,.new 4,
 .use (.ok (.ret .none)) (·.set 4 (supO P.cl P.cl P.cl)) 0,.new 4,.use (.ok (.ret (.ref (P.m+262+5)))) (·++[bmO "object.__init_subclass__" (P.m+262+2)]) 0,.new 5,.new 2,.new 2,.new 2,.new 2]
noncomputable def run1 (B:Builtin):Option (Out PySem.Fin×FS):=go (P.m+262) P.t P.as ⟨pw,zw.params⟩ default false (goC (P.m+262) P.t P.as ⟨pw,zw.params⟩ default 20) (B P.args) ⟨[],P.os,0,P.ans1,[],[],[],[]⟩
noncomputable def st1:FS:=okS (P.run1 Builtin.«type.__new__»)
noncomputable def o1:Obj:=(P.st1).news.getD 1 default
noncomputable def run2:Option (Out PySem.Fin×FS):=go (P.m+262) P.t P.as ⟨pw,zw.params⟩ default false (goC (P.m+262) P.t P.as ⟨pw,zw.params⟩ default 20) (okK (P.run1 (tnF [.type "object"])) (P.o1)) ⟨(P.st1).news,P.os,(P.st1).tk,P.ans2,[],[],[],[]⟩
noncomputable def news:List Obj:=(okS (P.run2)).news
noncomputable def b0:Ob:=⟨default,[],[],0,default,[],0⟩
noncomputable def b1:Ob:=(P.st1).obl.getD 0 b0
noncomputable def b2 (i:Nat):Ob:=(okS (P.run2)).obl.getD i b0
noncomputable abbrev qn:Str:=Str.ofString "cmp_to_key.<locals>.K"
noncomputable abbrev co (sl:Array (Option Value)):Obj:=clsO (P.m+262+2) (P.m+262+1) (.ofString "K") qn false [.ofString "obj"] sl
noncomputable def slt:Array (Option Value):=((P.b2 1).news.getD 2 default).slots
theorem gr1:(okA (P.run1 Builtin.«type.__new__»)=some (P.m+262+1))/\((P.st1).chk.map (·.1)=(P.st1).chk.map (·.2))/\((P.st1).cho.map (·.1)=[])/\((P.st1).stk.map (·.1)=[])/\((P.st1).olds=P.os)/\((P.st1).news[1]? = some (P.o1))/\(okK (P.run1 Builtin.«type.__new__») (P.o1)=okK2 (P.run1 (tnF (List.filter (λx=>x != P.cl) [P.cl,.type "object"]))) (P.o1))/\((okV (P.run2),(okS (P.run2)).chk.map (·.1),(okS (P.run2)).cho.map (·.1),(okS (P.run2)).stk.map (·.1),(okS (P.run2)).olds,(okS (P.run2)).tk,(P.news).length,(okS (P.run2)).obl.length)=(some (.done (.ret P.cl)),(okS (P.run2)).chk.map (·.2),[],[],P.os,4,6,2))/\((P.st1).obl=[⟨.builtin "proto.collect" ⟨[.ref (P.sl+262)],[]⟩,[],P.os,0,.ok (.ret (.ref (P.m+262))),[{ cls:=.type "list",data:=.seq #[.str (.ofString "obj") (P.tt 23)] 1 }],0⟩])/\(((P.b2 1).c,(P.b2 1).news.drop 2,(P.b2 1).olds,(P.b2 1).r,(P.b2 1).news',(P.b2 1).dtk) =
 (.call (.builtin "super.__init__") ⟨[.ref (P.m+262+4),P.cl,P.cl],[]⟩,[P.co (P.slt),(P.b2 1).news.getD 3 default,supO .none .none .none],P.os,.ok (.ret .none),(P.b2 1).news.set 4 (supO P.cl P.cl P.cl),0))/\(((P.b2 0).c,(P.b2 0).news.drop 2,(P.b2 0).olds,(P.b2 0).r,(P.b2 0).news',(P.b2 0).dtk) =
 (.call (.builtin "super.__getattribute__") ⟨[.ref (P.m+262+4),.str (.ofString "__init_subclass__") (P.t+3)],[]⟩,[P.co (P.slt),(P.b2 1).news.getD 3 default,supO P.cl P.cl P.cl],P.os,.ok (.ret (.ref (P.m+262+5))),(P.b2 0).news++[bmO "object.__init_subclass__" (P.m+262+2)],0)):=⟨by kernel_rfl,by kernel_rfl,by kernel_rfl,by kernel_rfl,by kernel_rfl,by kernel_rfl,by kernel_rfl,by kernel_rfl,by kernel_rfl,by kernel_rfl,by kernel_rfl⟩
theorem r1a:okA (P.run1 Builtin.«type.__new__»)=some (P.m+262+1):=P.gr1.1
theorem r1c:(P.st1).chk.map (·.1)=(P.st1).chk.map (·.2):=P.gr1.2.1
theorem r1h:(P.st1).cho.map (·.1)=[]:=P.gr1.2.2.1
theorem r1s:(P.st1).stk.map (·.1)=[]:=P.gr1.2.2.2.1
theorem r1o:(P.st1).olds=P.os:=P.gr1.2.2.2.2.1
theorem r1n:(P.st1).news[1]? = some (P.o1):=P.gr1.2.2.2.2.2.1
theorem r1e:okK (P.run1 Builtin.«type.__new__») (P.o1)=okK2 (P.run1 (tnF (List.filter (λx=>x != P.cl) [P.cl,.type "object"]))) (P.o1):=P.gr1.2.2.2.2.2.2.1
theorem r2:(okV (P.run2),(okS (P.run2)).chk.map (·.1),(okS (P.run2)).cho.map (·.1),(okS (P.run2)).stk.map (·.1),(okS (P.run2)).olds,(okS (P.run2)).tk,(P.news).length,(okS (P.run2)).obl.length)=(some (.done (.ret P.cl)),(okS (P.run2)).chk.map (·.2),[],[],P.os,4,6,2):=P.gr1.2.2.2.2.2.2.2.1
theorem b1e:(P.st1).obl=[⟨.builtin "proto.collect" ⟨[.ref (P.sl+262)],[]⟩,[],P.os,0,.ok (.ret (.ref (P.m+262))),[{ cls:=.type "list",data:=.seq #[.str (.ofString "obj") (P.tt 23)] 1 }],0⟩]:=P.gr1.2.2.2.2.2.2.2.2.1
theorem b2e:((P.b2 1).c,(P.b2 1).news.drop 2,(P.b2 1).olds,(P.b2 1).r,(P.b2 1).news',(P.b2 1).dtk) =
 (.call (.builtin "super.__init__") ⟨[.ref (P.m+262+4),P.cl,P.cl],[]⟩,[P.co (P.slt),(P.b2 1).news.getD 3 default,supO .none .none .none],P.os,.ok (.ret .none),(P.b2 1).news.set 4 (supO P.cl P.cl P.cl),0):=P.gr1.2.2.2.2.2.2.2.2.2.1
theorem b3e:((P.b2 0).c,(P.b2 0).news.drop 2,(P.b2 0).olds,(P.b2 0).r,(P.b2 0).news',(P.b2 0).dtk) =
 (.call (.builtin "super.__getattribute__") ⟨[.ref (P.m+262+4),.str (.ofString "__init_subclass__") (P.t+3)],[]⟩,[P.co (P.slt),(P.b2 1).news.getD 3 default,supO P.cl P.cl P.cl],P.os,.ok (.ret (.ref (P.m+262+5))),(P.b2 0).news++[bmO "object.__init_subclass__" (P.m+262+2)],0):=P.gr1.2.2.2.2.2.2.2.2.2.2
end KP
namespace KP
variable (P:KP){s:Shared}{A:Around}
theorem plain_tn:plainId "type.__new__" = true:=by decide +kernel
theorem entry_tn:entryFor table "type.__new__" = some Builtin.«type.__new__» := entryFor_of_fast (by kernel_rfl)
theorem chk_tn:checkBuiltinCall "type.__new__" P.args=pure ():=by kernel_rfl
theorem lf:List.filter (λx=>x != P.cl) [P.cl,.type "object"]=[.type "object"]:=by
 rw [List.filter_cons,bne_self,if_neg (by decide)]
 rw [List.filter_cons,if_pos (by kernel_rfl)]
 rfl
theorem pair {α β:Type _}{a a':α}{b b':β}(h:(a,b)=(a',b')):a=a'/\b=b':=⟨congrArg Prod.fst h,congrArg Prod.snd h⟩
theorem drop_get {α:Type}{l r:List α}{n:Nat}(h:l.drop n=r)(i:Nat):l[n+i]? = r[i]?:=by rw [<-h,List.getElem?_drop]
theorem mem2 {α:Type _}{l:List α}{b d:α}(h:l.length=2)(hb:b∈l):b=l.getD 0 d\/b=l.getD 1 d:=by
 match l,h with
 | [x,y],_ =>
  rcases List.mem_cons.mp hb with h | h
  ·exact .inl h
  ·exact .inr (List.mem_singleton.mp h)
theorem tn_new {R:Result->Shared->Prop}(ho:AllAt s.heap P.as (P.os))(hd:P.as.Nodup)(hm:s.heap.objs.size=P.m+262)(ht:s.toks=P.t)
  (q:∀ s',Adds (P.news) 4 s s'->R (.ok (.ret P.cl)) s'):codeAny (model pw zw) A (.call (.builtin "type.__new__") P.args) R s:=by
 have hl:∀ a∈P.as,a < P.m+262:=λa h=>hm▸ho.lt a h
 have R0:=rel_start ho (P.ans1)
 rw [hm,ht] at R0
 refine codeAny_call_builtin plain_tn entry_tn ?_
 rw [P.chk_tn]
 refine wpAny_pure ?_
 have Hob:∀ (b:Ob) (c:Code) (N O N':List Obj) (k:Nat) (r:Result) (d:Nat),((b.c,b.news,b.olds,b.tk,b.r,b.news',b.dtk)=(c,N,O,k,r,N',d))->(∀ A s',Rel (P.m+262) P.t P.as s.heap s (fs N O k) s'->codeAny (model pw zw) A c (λr' s''=>r'=r/\Rel (P.m+262) P.t P.as s.heap s (fs N' O (k+d)) s'') s')->ObOk (P.m+262) P.t P.as s.heap s b:=by
  intro b c N O N' k r d e h
  cases b
  cases e
  exact h
 refine go_cut 20 _ hm hd hl R0 (P.run1 Builtin.«type.__new__») rfl (P.r1a) (P.r1c) (P.r1h) (P.r1s) ?_ λs1 R1=>?_
 ·intro b hb
  rw [show (okS (P.run1 Builtin.«type.__new__»)).obl=_ from P.b1e,List.mem_singleton] at hb
  refine Hob b _ _ _ _ _ _ _ (by rw [hb]) λA s' R'=>?_
  refine coll_at (R'.old 2 _ _ rfl rfl) λs2 ad=>⟨?_,?_⟩
  ·rw [R'.size];rfl
  ·exact R'.adds ad
 ·refine ⟨P.o1,R1.new 1 _ (P.r1n),?_⟩
  rw [P.r1e,okK2_eq,P.lf]
  obtain ⟨e1,z⟩:=pair (P.r2)
  obtain ⟨e2,z⟩:=pair z
  obtain ⟨e3,z⟩:=pair z
  obtain ⟨e4,z⟩:=pair z
  obtain ⟨e5,z⟩:=pair z
  obtain ⟨e6,z⟩:=pair z
  obtain ⟨e7,e8⟩:=pair z
  clear z
  have R1':Rel (P.m+262) P.t P.as s.heap s ⟨(P.st1).news,P.os,(P.st1).tk,P.ans2,[],[],[],[]⟩ s1:=⟨R1.size,R1.new,λj a o h1 h2=>R1.old j a o h1 (by rw [show (okS (P.run1 Builtin.«type.__new__»)).olds=_ from P.r1o];exact h2),R1.keep,R1.tk,R1.rest⟩
  refine go_big (tp:=false) (oc:=default) 20 (.done (.ret P.cl)) (λe=>nomatch e) (λe=>nomatch e) hm hd hl R1' (P.run2) rfl e1 e2 (by rw [e3,List.map_eq_nil_iff.mp e3];rfl) (by rw [e4,List.map_eq_nil_iff.mp e4];rfl) ?_ λs2 R2=>?_
  ·intro b hb
   clear e4 e3 e2 e1 R1' hd R1 s1 e7
   rcases mem2 (d:=b0) e8 hb with hb | hb
   ·clear e8
    obtain ⟨c1,z⟩:=pair (P.b3e)
    obtain ⟨c2,z⟩:=pair z
    obtain ⟨c3,z⟩:=pair z
    obtain ⟨c4,z⟩:=pair z
    obtain ⟨c5,c6⟩:=pair z
    have hb':b=P.b2 0:=hb
    subst hb'
    intro A s' R'
    have g4:s'.heap.get? (P.m+4+262)=some (supO P.cl P.cl P.cl):=R'.new 4 _ (drop_get c2 2)
    have g2:s'.heap.get? (P.m+2+262)=some (P.co (P.slt)):=R'.new 2 _ (drop_get c2 0)
    have gs:s'.heap.get? cStatics=some (obj zw.params cStatics):=R'.old 10 _ _ rfl (by rw [show (FS.mk (P.b2 0).news (P.b2 0).olds (P.b2 0).tk [] [] [] [] []).olds=P.os from c3];rfl)
    rw [c1]
    refine sup_get (x:=P.m+4) (c:=P.m+2) (λz=>absurd (Nat.add_left_cancel z) (by decide)) g4 g2 gs λs2 ad=>⟨?_,?_⟩
    ·rw [c4,R'.size]
     have:(P.b2 0).news.length=5:=by
      have:=congrArg List.length c2
      rw [List.length_drop] at this
      simp at this
      omega
     rw [show (FS.mk (P.b2 0).news (P.b2 0).olds (P.b2 0).tk [] [] [] [] []).news.length=5 from this]
    ·rw [c5,c6]
     exact Rel.adds (N:=(P.b2 0).news) R' ad
   ·obtain ⟨c1,z⟩:=pair (P.b2e)
    obtain ⟨c2,z⟩:=pair z
    obtain ⟨c3,z⟩:=pair z
    obtain ⟨c4,z⟩:=pair z
    obtain ⟨c5,c6⟩:=pair z
    have hb':b=P.b2 1:=hb
    subst hb'
    intro A s' R'
    have g4:s'.heap.get? (P.m+4+262)=some (supO .none .none .none):=R'.new 4 _ (drop_get c2 2)
    have g2:s'.heap.get? (P.m+2+262)=some (P.co (P.slt)):=R'.new 2 _ (drop_get c2 0)
    rw [c1]
    refine sup_init (x:=P.m+4) (c:=P.m+2) (λz=>absurd (Nat.add_left_cancel z) (by decide)) g4 g2 λs2 sb g hs ht=>⟨c4.symm,?_⟩
    rw [c5,c6]
    exact Rel.set (i:=4) hm hl R' g sb hs ht
  ·have R2':=(R2.to (N:=P.news) ⟨rfl,e5,e6⟩)
   rw [<-hm,← ht] at R2'
   exact q s2 (R2'.added ho)
end KP
noncomputable def stK:Stmt:=match (dS 21).2.1 with | t::_=>t | []=>default
noncomputable def scK:Scope:=(dS 21).2.2
noncomputable abbrev eK (L c:Nat):Env:={ scope:=scK,locals:=L,globals:=3,cells:=[("mycmp",c)],qual:=Str.ofString "cmp_to_key" ++ ".<locals>.",func:=some 170,code:=.ref 169,frame:=some L,builtins:=0 }
noncomputable def fdAt (N:List Obj)(i:Nat):FuncData:=match (N.getD i default).data with | .func f=>f | _=>default
noncomputable def entAt (N:List Obj)(i j:Nat):DictEntry:=match (N.getD i default).data with | .dict es _=>es.toList.getD j default | _=>default
noncomputable def tkOf:Value->Nat | .str _ t=>t | .int _ t=>t | _=>0
noncomputable def itAt (N:List Obj)(i:Nat):Value:=match (N.getD i default).data with | .seq xs _=>xs.toList.getD 0 .none | _=>.none
noncomputable def epAt (N:List Obj)(i:Nat):Nat:=match (N.getD i default).data with | .dict _ n=>n | _=>0
noncomputable def kpOf (m t tn:Nat)(N:List Obj)(isl ist:Nat)(ia:Nat->Nat):KP where
 m:=m+N.length
 t:=t
 b:=m+0
 d:=m+2
 sl:=m+isl
 st:=m+ist
 a:=λj=>m+ia j
 fd:=λj=>fdAt N (ia j)
 tt:=λj=>match j with | 20=>tkOf (entAt N 2 0).val | 21=>tkOf (entAt N 2 1).val | 22=>tkOf (entAt N 2 2).val | 23=>tkOf (itAt N isl) | 24=>tkOf (itAt N ist) | 25=>tn | j=>tkOf (entAt N 2 j).key
 hh:=λj=>(entAt N 2 j).hash
 ep:=epAt N 2
structure KQ where
 k:Nat
 ns:Nat
 md:Nat
 f0:Nat
 f1:Nat
 ce:Nat
 c0:Nat
 c1:Nat
 fv:Value
 b:Bool
 ep:Nat
 u:Nat->Nat
 h:Nat->Int
 v:Nat->Value
namespace KQ
variable (q:KQ)
noncomputable abbrev en (k:String)(i:Nat)(v:Value):DictEntry:={ hash:=q.h i,key:=.str (.ofString k) (q.u i),val:=v }
noncomputable def nsO:Obj:={ cls:=.type "dict",data:=.dict #[q.en "__module__" 0 (q.v 3),q.en "__firstlineno__" 1 (q.v 4),q.en "__slots__" 2 (q.v 5),q.en "__init__" 3 (.ref (q.f0+262)),q.en "__lt__" 4 (.ref (q.f1+262)),q.en "__gt__" 5 (q.v 6),q.en "__eq__" 6 (q.v 7),q.en "__le__" 7 (q.v 8),q.en "__ge__" 8 (q.v 9),q.en "__hash__" 9 (q.v 10),q.en "__static_attributes__" 10 (q.v 11),q.en "obj" 11 (.ref (q.md+262)),q.en "__doc__" 12 (q.v 12)] q.ep }
noncomputable def kO:Obj:={ cls:=.type "type",data:=.cls { name:=.ofString "K",bases:=[.type "object"],mro:=[.ref (q.k+262),.type "object"],ns:=q.ns+262,qualname:=.ofString "cmp_to_key.<locals>.K",hasDict:=false,slotNames:=[.ofString "obj"] },slots:=#[some (q.v 0),none,some (q.v 1),some (q.v 2),some (.builtin "object.__new__"),some (.bool q.b)] }
noncomputable def mdO:Obj:={ cls:=.type "member_descriptor",data:=.fields #[.str (.ofString "obj") (q.u 20),.ref (q.k+262),.builtin "proto.slot",.builtin "proto.slot#set",.int 0 (q.u 21)] }
noncomputable def mK (f:String):Arguments×List Stmt×Scope:=cb (.ofString f) stK
noncomputable def fdK (f:String)(cl:List (Str×Addr))(m:Value)(c:Nat)(ct:Value):FuncData:={ name:=.ofString f,qualname:=.ofString ("cmp_to_key.<locals>.K." ++ f),params:=(mK f).1,body:=.stmts (mK f).2.1,scope:=(mK f).2.2,globals:=3,closure:=cl,defaults:=.none,kwdefaults:=.none,pyModule:=m,code:=.ref (c+262),closureTuple:=ct }
noncomputable def f0O:Obj:={ cls:=.type "function",data:=.func (fdK "__init__" [] (q.v 13) q.c0 .none) }
noncomputable def f1O:Obj:={ cls:=.type "function",data:=.func (fdK "__lt__" [(.ofString "mycmp",q.ce+262)] (q.v 14) q.c1 (q.v 15)) }
noncomputable def ceO:Obj:={ cls:=.type "cell",data:=.cell (some q.fv) }
noncomputable def as:List Addr:=[q.k+262,q.ns+262,q.md+262,q.f0+262,q.f1+262,q.ce+262,cStatics]
noncomputable def os:List Obj:=[q.kO,q.nsO,q.mdO,q.f0O,q.f1O,q.ceO,obj zw.params cStatics]
end KQ
noncomputable def gl {α:Type}(as:List Addr)(os:List Obj)(S:Setting)(t:Sem α):List Nat->List (Addr×Addr)->Option (α×List (Addr×Addr)) :=
 Sem.rec (motive:=λ_=>List Nat->List (Addr×Addr)->Option (α×List (Addr×Addr)))
  (λa _ c=>some (a,c))
  (λ_ _ _=>none)
  (λ_ _ _=>none)
  (λ_ _ _=>none)
  (λ_ _ ih an c=>ih () an c)
  (λ_ _ ih an c=>ih () an c)
  (λa _ _ ih an c=>match an with
   | i::r=>(match as[i]?,os[i]? with | some b,some o=>ih o r ((a,b)::c) | _,_=>none)
   | []=>none)
  (λ_ _ _ _ _ _ _=>none)
  (λ_ _ _ _ _=>none)
  (λ_ _ _ _ _=>none)
  (λ_ _ ih an c=>ih () an c)
  (λ_ _ _ _ _=>none)
  (λ_ _ _ _=>none)
  (λ_ ih an c=>ih S an c)
  (λ_ _ _ _ _ _=>none)
  (λ_ _ _ _ _ _=>none)
  (λ_ _ _ _ _ _ _ _=>none)
  (λ_ _ _ _ _=>none)
  (λ_ _ _ _ _=>none)
  (λ_ _ _ _ _=>none)
  (λ_ _ _ _ _ _ _=>none)
  (λ_ _ _ _ _ _ _=>none)
  (λ_ _ _ _=>none)
  (λ_ _ _ _ _=>none)
  (λ_ _ _ _=>none)
  (λ_ _ _ _ _ _ _ _=>none) t
set_option tactic.hygienic true in
theorem gl_sound {α:Type}{as:List Addr}{os:List Obj}:∀ (t:Sem α) (an:List Nat) (c c':List (Addr×Addr)) (a:α),gl as os ⟨pw,zw.params⟩ t an c=some (a,c')->(∀ p∈c',p.1=p.2) ->
  (∀ p∈c,p.1=p.2)/\∀ (Γ:Ctx) (Q:α->Pos->Shared->Prop) (E:Value->Pos->Shared->Prop) p s,AllAt s.heap as os->(∀ p',Q a p' s)->Sem.wp (model pw zw) Γ t Q E p s:=by
 intro t
 induction t with
 | pure a=>intro an c c' a' h hc;cases h;exact ⟨hc,λΓ Q E p s _ q=>q p⟩
 | rule _ k ih=>intro an c c' a h hc;exact ih () an c c' a h hc
 | «at» _ k ih=>intro an c c' a h hc;exact let ⟨x,y⟩:=ih () an c c' a h hc;⟨x,λΓ Q E p s=>y Γ Q E _ s⟩
 | point _ k ih=>intro an c c' a h hc;exact ih () an c c' a h hc
 | ask k ih=>intro an c c' a h hc;exact ih _ an c c' a h hc
 | load b _ k ih =>
  intro an c c' a h hc
  cases an with
  | nil=>cases h
  | cons i r =>
   have h':(match as[i]?,os[i]? with | some b',some o=>gl as os ⟨pw,zw.params⟩ (k o) r ((b,b')::c) | _,_=>none)=some (a,c'):=h
   split at h'
   ·rename_i b' o h1 h2
    obtain ⟨x,y⟩:=ih o r _ c' a h' hc
    refine ⟨λp hp=>x p (.tail _ hp),λΓ Q E p s ho q=>⟨o,?_,y Γ Q E p s ho q⟩⟩
    have:b=b':=x (b,b') (.head _)
    rw [this]
    exact ho.at h1 h2
   ·cases h'
 | _=>intro an c c' a h;cases h
structure GlOk {α:Type}(r:Option (α×List (Addr×Addr)))(a:α):Prop where
 ok:(r.map λx=>(x.1,x.2.map (·.1)))=r.map λx=>(a,x.2.map (·.2))
 is:r.isSome=true
theorem gl_at {α:Type}{A:Around}{as:List Addr}{os:List Obj}{t:Sem α}(an:List Nat)(a:α){Q:α->Shared->Prop}{E:Value->Shared->Prop}{s:Shared}(h:GlOk (gl as os ⟨pw,zw.params⟩ t an []) a)(ho:AllAt s.heap as os)(q:Q a s):wpAny (model pw zw) A t Q E s:=by
 obtain ⟨h1,h2⟩:=h
 cases e:gl as os ⟨pw,zw.params⟩ t an [] with
 | none=>rw [e] at h2;cases h2
 | some x =>
  obtain ⟨a',c⟩:=x
  rw [e] at h1
  have h3:(a',c.map (·.1))=(a,c.map (·.2)):=Option.some.inj h1
  clear h1
  obtain ⟨h4,h5⟩:=KP.pair h3
  clear h3
  subst h4
  intro Γ p _
  exact (gl_sound t an [] c a' e (chk_of h5)).2 Γ _ _ p s ho λ_=>q
section
open PySem.Calls Builtin Builtin.ObjectAttr Builtin.Getset_descriptor
section
variable {s:Shared}{A:Around}{E:Value->Shared->Prop}{h:Heap}{R:Result->Shared->Prop}
theorem looks_gl {α:Type}{as:List Addr}{os:List Obj}{t:Sem α}(an:List Nat)(a:α)(g:GlOk (gl as os ⟨pw,zw.params⟩ t an []) a)(ho:AllAt h as os):Looks (model pw zw) h t a:=λA Q E s k q=>by
 refine gl_at an a g ?_ q
 have key:∀ {as:List Addr} {os:List Obj},AllAt h as os->AllAt s.heap as os:=by
  intro as
  induction as with
  | nil=>intro os x;cases os with | nil=>trivial | cons _ _=>exact x.elim
  | cons a l ih=>intro os x;cases os with | nil=>exact x.elim | cons o os=>exact ⟨k _ _ x.1,ih x.2⟩
 exact key ho
theorem looks_self {c:Addr}{o:Obj}{d:ClassData}{l:List Value}(e:h.get? c=some o)(hd:o.data=.cls d)(hm:d.mro=.ref c::l):Looks (model pw zw) h (isSubtype (.ref c) (.ref c)) true:=λA Q E s k q=>sub_self (k _ _ e) hd hm q
variable (q:KQ)
noncomputable abbrev KQ.inO (dx:Addr)(sl:Array (Option Value)):Obj:={ cls:=.ref (q.k+262),dict:=some dx,data:=.plain,slots:=sl }
theorem KQ.names (hk:h.get? (q.k+262)=some q.kO):Looks (model pw zw) h (Slots.slotNamesOf (.ref (q.k+262))) [.ofString "obj"] :=
 looks_gl (as:=[q.k+262]) (os:=[q.kO]) [0] _ ⟨by kernel_rfl,by kernel_rfl⟩ ⟨hk,trivial⟩
theorem KQ.mset {x dx:Addr}{v:Value}(hx:s.heap.get? x=some (q.inO dx #[]))(hk:s.heap.get? (q.k+262)=some q.kO)(ho:s.heap.get? (q.md+262)=some q.mdO)
  (r:∀ s',SameBut1 x s s'->s'.heap.get? x=some (q.inO dx #[some v])->s'.heap.objs.size=s.heap.objs.size->s'.toks=s.toks->R (.ok (.ret .none)) s') :
  codeAny (model pw zw) A (.call (.builtin "member_descriptor.__set__") ⟨[.ref (q.md+262),.ref x,v],[]⟩) R s:=by
 have r':R (.ok (.ret .none)) { s with heap:=s.heap.update x λo=>{ o with slots:=(o.slots++Array.replicate (0+1 - o.slots.size) none).setIfInBounds 0 (some v) } }:=by
  refine r _ ⟨λa o e hne=>(Heap.get?_update_other _ _ (Ne.symm hne)).trans e,rfl,rfl,rfl⟩ (Heap.get?_update_self _ hx rfl) (Heap.size_after_update ..) rfl
 clear r
 obtain ⟨hh,g,dr,t,os⟩:=s
 dsimp only at hx hk ho
 have L0:Looks (model pw zw) hh (typeOf (.ref x)) (.ref (q.k+262)):=looks_gl (as:=[x]) (os:=[q.inO dx #[]]) [0] _ ⟨by kernel_rfl,by kernel_rfl⟩ ⟨hx,trivial⟩
 have L1:Looks (model pw zw) hh (isSubtype (.ref (q.k+262)) (.ref (q.k+262))) true:=looks_self hk rfl rfl
 have L2:=q.names hk
 have f0:=looks_field (M:=model pw zw) ho 0 (v:=.str (.ofString "obj") (q.u 20)) rfl
 have f1:=looks_field (M:=model pw zw) ho 1 (v:=.ref (q.k+262)) rfl
 have f3:=looks_field (M:=model pw zw) ho 3 (v:=.builtin "proto.slot#set") rfl
 have f4:=looks_field (M:=model pw zw) ho 4 (v:=.int 0 (q.u 21)) rfl
 refine codeAny_call_builtin KF.slot_mset.plain KF.entry_mset (KF.slot_mset.check _ _ _ _ _ _ _ _ ⟨_,ho,rfl⟩ (KF.args_mset _ _ _) ?_)
 unfold Builtin.«member_descriptor.__set__» descrSet descrStoreThrough descrCheckInstance descrNameAndClass isInstance
 have f5:Looks (model pw zw) hh (descrItself (.ref (q.md+262))) [.ref (q.md+262)]:=((Looks.ld (part:=none) ho).andThen .now).andThen (Looks.of_pure (by kernel_rfl))
 repeat lk
 refine ⟨Code.quiet_builtin _ (by decide +kernel),codeAny_builtin KF.entry_slotset ?_⟩
 unfold Builtin.«proto.slot#set» Slots.target
 repeat lk
 exact wpAny_updatePart hx (wpAny_pure r')
theorem KQ.mget {x dx:Addr}{v tp:Value}(hx:s.heap.get? x=some (q.inO dx #[some v]))(hk:s.heap.get? (q.k+262)=some q.kO)(ho:s.heap.get? (q.md+262)=some q.mdO)
  (r:R (.ok (.ret v)) s):codeAny (model pw zw) A (.call (.builtin "member_descriptor.__get__") ⟨[.ref (q.md+262),.ref x,tp],[]⟩) R s:=by
 obtain ⟨hh,g,dr,t,os⟩:=s
 dsimp only at hx hk ho
 have L0:Looks (model pw zw) hh (typeOf (.ref x)) (.ref (q.k+262)):=looks_gl (as:=[x]) (os:=[q.inO dx #[some v]]) [0] _ ⟨by kernel_rfl,by kernel_rfl⟩ ⟨hx,trivial⟩
 have L1:Looks (model pw zw) hh (isSubtype (.ref (q.k+262)) (.ref (q.k+262))) true:=looks_self hk rfl rfl
 have L2:=q.names hk
 have f0:=looks_field (M:=model pw zw) ho 0 (v:=.str (.ofString "obj") (q.u 20)) rfl
 have f1:=looks_field (M:=model pw zw) ho 1 (v:=.ref (q.k+262)) rfl
 have f2:=looks_field (M:=model pw zw) ho 2 (v:=.builtin "proto.slot") rfl
 have f4:=looks_field (M:=model pw zw) ho 4 (v:=.int 0 (q.u 21)) rfl
 refine codeAny_call_builtin KF.slot_mem.plain KF.entry_mem (KF.slot_mem.check _ _ _ _ _ _ _ _ ⟨_,ho,rfl⟩ (KF.args_mem _ _ _) ?_)
 unfold Builtin.«member_descriptor.__get__» descrGet
 rw [dga_obj]
 refine wpAny_bind (wpAny_pure ?_)
 unfold descrGetter descrCheckInstance descrNameAndClass isInstance
 repeat lk
 refine ⟨Code.quiet_builtin _ (by decide +kernel),codeAny_builtin KF.entry_slot ?_⟩
 unfold Builtin.«proto.slot» Slots.target
 repeat lk
 exact r
end
end
section
open PySem.Calls
set_option tactic.hygienic true
namespace KQ
variable (q:KQ){s:Shared}{A:Around}{R:Result->Shared->Prop}{h:Heap}
theorem g0 (ho:AllAt h q.as (q.os)):h.get? (q.k+262)=some q.kO:=ho.at (j:=0) rfl rfl
theorem lkk {α:Type}{t:Sem α}(an:List Nat)(a:α)(ho:AllAt h q.as (q.os))(g:GlOk (gl q.as (q.os) ⟨pw,zw.params⟩ t an []) a):Looks (model pw zw) h t a:=looks_gl an a g ho
theorem makes (ho:AllAt h q.as (q.os)):Makes (model pw zw) h (q.k+262):=by
 refine ⟨⟨_,_,_,_,q.g0 ho,rfl,rfl,rfl⟩,?_,?_,looks_self (q.g0 ho) rfl rfl,?_,?_,?_⟩
 ·exact q.lkk [0,0] _ ho ⟨by kernel_rfl,by kernel_rfl⟩
 ·exact q.lkk [0,0,0] _ ho ⟨by kernel_rfl,by kernel_rfl⟩
 ·exact q.lkk [0] _ ho ⟨by kernel_rfl,by kernel_rfl⟩
 ·exact q.lkk [0] _ ho ⟨by kernel_rfl,by kernel_rfl⟩
 ·exact q.lkk [0] _ ho ⟨by kernel_rfl,by kernel_rfl⟩
theorem li (ho:AllAt h q.as (q.os)):Looks (model pw zw) h (typeLookup (.ref (q.k+262)) "__init__") (some (.ref (q.f0+262))):=q.lkk [0,0,1] _ ho ⟨by kernel_rfl,by kernel_rfl⟩
theorem lb (ho:AllAt h q.as (q.os))(x:Value):Looks (model pw zw) h (bindSpecial (.ref (q.f0+262)) x) (.ref (q.f0+262),[x]):=q.lkk [3] _ ho ⟨by kernel_rfl,by kernel_rfl⟩
noncomputable def fdI:FuncData:=fdK "__init__" [] (q.v 13) q.c0 .none
noncomputable def iE (L:Nat):Env:={ scope:=q.fdI.scope,locals:=L,globals:=3,cells:=[],qual:=q.fdI.qualname ++ ".<locals>.",func:=some (q.f0+262),code:=.ref (q.c0+262),frame:=some L,builtins:=0 }
variable (m t:Nat)(y:Str)(ty:Nat)
noncomputable abbrev i0:List Obj:=[emptyDict,q.inO (m+262) #[]]
noncomputable abbrev bsI:List (Str×Value):=[(.ofString "self",.ref (m+262+1)),(.ofString "obj",.str y ty)]
noncomputable def rI:Option (Out Env×FS):=runN (m+262) t q.as (q.i0 m) (q.os) 0 [.new 2,.new 2,.new 2,.new 2] 30 (newFunctionEnv q.fdI.scope q.fdI.globals q.fdI.closure (bsI m y ty) (q.fdI.qualname ++ ".<locals>.") (some (q.f0+262)) q.fdI.code none q.fdI.builtins)
noncomputable def iN:List Obj:=(okS (q.rI m t y ty)).news
theorem rB:RunOk (runN (m+262) t q.as (q.i0 m) (q.os) 0 [] 30 (bindArgs q.fdI ⟨[.ref (m+262+1),.str y ty],[]⟩)) (bsI m y ty) (q.i0 m) (q.os) 0 :=
 ⟨by kernel_rfl,by kernel_rfl,by kernel_rfl,by kernel_rfl,by kernel_rfl,by kernel_rfl,by kernel_rfl,by kernel_rfl⟩
theorem rI_ok:RunOk (q.rI m t y ty) (q.iE (m+262+2)) (q.iN m t y ty) (q.os) 2 :=
 ⟨by kernel_rfl,by kernel_rfl,rfl,by kernel_rfl,by kernel_rfl,by kernel_rfl,by kernel_rfl,by kernel_rfl⟩
noncomputable def ansE:List An:=[.new 2,.new 2,.new 1,.old 0,.old 0,.old 1,.new 1,.old 0,.new 1,.old 0,.new 1,.old 0,.old 0,.old 1,.old 2,.old 2,.use (.ok (.ret .none)) (·.set 1 (q.inO (m+262) #[some (.str y ty)])) 0]
noncomputable def rE:Option (Out Flow×FS):=go (m+262) t q.as ⟨pw,zw.params⟩ default false (goC (m+262) t q.as ⟨pw,zw.params⟩ default 30) (execs (mK "__init__").2.1 (q.iE (m+262+2))) ⟨q.iN m t y ty,q.os,2,q.ansE m y ty,[],[],[],[]⟩
noncomputable def mkN:List Obj:=(okS (q.rE m t y ty)).news
noncomputable def bE:Ob:=(okS (q.rE m t y ty)).obl.getD 0 KP.b0
theorem rE1:(okV (q.rE m t y ty),(okS (q.rE m t y ty)).chk.map (·.1),(okS (q.rE m t y ty)).cho.map (·.1),(okS (q.rE m t y ty)).olds,(okS (q.rE m t y ty)).tk,(okS (q.rE m t y ty)).obl.length,(okS (q.rE m t y ty)).news.length,(okS (q.rE m t y ty)).news[1]?) =
 (some .next,(okS (q.rE m t y ty)).chk.map (·.2),[],q.os,3,1,3,some (q.inO (m+262) #[some (.str y ty)])):=by kernel_rfl
theorem rE2:(okS (q.rE m t y ty)).stk.map (·.1)=[]:=by kernel_rfl
theorem rE3:((q.bE m t y ty).c,(q.bE m t y ty).r,(q.bE m t y ty).dtk,(q.bE m t y ty).olds,(q.bE m t y ty).news',(q.bE m t y ty).news[1]?) =
 (.call (.builtin "member_descriptor.__set__") ⟨[.ref (q.md+262),.ref (m+262+1),.str y ty],[]⟩,.ok (.ret .none),0,q.os,(q.bE m t y ty).news.set 1 (q.inO (m+262) #[some (.str y ty)]),some (q.inO (m+262) #[])):=by kernel_rfl
end KQ
end
section
open PySem.Calls
theorem push_one {s:Shared}{o:Obj}(h:o.isFreed=false):Adds [o] 0 s { s with heap:=s.heap.push o } :=
 ⟨λ_ _ e=>Heap.get?_push_of_some _ e,Heap.size_push ..,λi o' hi=>by
  match i,hi with
  | 0,hi=>cases hi;exact Heap.get?_push_size _ h
  | i+1,hi=>simp at hi,rfl,rfl,rfl,rfl⟩
theorem mem_one {α:Type _}{l:List α}{b d:α}(h:l.length=1)(hb:b∈l):b=l.getD 0 d:=by
 match l,h with
 | [x],_=>exact List.mem_singleton.mp hb
namespace KQ
open KP (pair)
variable (q:KQ){s:Shared}{A:Around}{R:Result->Shared->Prop}{h:Heap}
theorem nd_of (h1:[q.k,q.ns,q.md,q.f0,q.f1,q.ce].Nodup):q.as.Nodup:=by
 have:q.as=[q.k,q.ns,q.md,q.f0,q.f1,q.ce].map (λi=>i+262)++[cStatics]:=rfl
 rw [this]
 refine List.nodup_append.mpr ⟨List.Pairwise.map _ (λa b hab=>by intro z;exact hab (Nat.add_right_cancel z)) h1,by simp,λa ha b hb=>?_⟩
 refine xEA (List.mem_map.mp ha) λi _ ee2=>?_
 subst ee2
 rw [List.mem_singleton] at hb
 subst hb
 show i+262≠2
 exact λz=>absurd z (Nat.ne_of_gt (Nat.lt_of_lt_of_le (by decide) (Nat.le_add_left 262 i)))
theorem Rel.added' {m t:Nat}{N1 O:List Obj}{k1:Nat}{s':Shared}{as:List Addr}(hm:s.heap.objs.size=m+262)(ht:s.toks=t)(ho:AllAt s.heap as O)(R:Rel (m+262) t as s.heap s (fs N1 O k1) s'):Adds N1 k1 s s':=by
 rw [<-hm,← ht] at R
 exact R.added ho
theorem make_at (m t:Nat)(y:Str)(ty:Nat)(ho:AllAt s.heap q.as (q.os))(hd:q.as.Nodup)(hm:s.heap.objs.size=m+262)(ht:s.toks=t)(hlim:s.heap.NoLimit)(hdep:A.depth+1 < recursionLimit)(hcode:s.heap.CodeRec q.fdI.code q.fdI.qualname)
  (r:∀ s',Adds (q.mkN m t y ty) 3 s s'->R (.ok (.ret (.ref (m+262+1)))) s'):codeAny (model pw zw) A (.call (.ref (q.k+262)) ⟨[.str y ty],[]⟩) R s:=by
 have hl:∀ a∈q.as,a < m+262:=λa h=>hm▸ho.lt a h
 have R0:=rel_start ho []
 rw [hm,ht] at R0
 have fin:∀ s',Rel (m+262) t q.as s.heap s (fs (q.mkN m t y ty) (q.os) 3) s'->R (.ok (.ret (.ref (m+262+1)))) s':=λs' R'=>r s' (Rel.added' hm ht ho R')
 obtain ⟨hh,g,dr,tk,os⟩:=s
 dsimp only at ho hm ht hlim hcode
 refine make_core (q.makes ho) (q.li ho) (λx=>q.lb ho x) (.inl (by kernel_rfl)) ?_
 rw [hm]
 have g3:hh.get? (q.f0+262)=some q.f0O:=ho.at (j:=3) rfl rfl
 have R1:Rel (m+262) t q.as hh ⟨hh,g,dr,tk,os⟩ (fs (q.i0 m) (q.os) 0) ⟨(hh.push emptyDict).push (instObj (q.k+262) (m+262)),g,dr,tk,os⟩ :=
  (Rel.adds (N:=[]) (N1:=[emptyDict]) (k:=0) (k1:=0) R0 (push_one rfl)).adds (N1:=[q.inO (m+262) #[]]) (k1:=0) (push_one (s:=⟨hh.push emptyDict,g,dr,tk,os⟩) rfl)
 have keep:∀ a o,hh.get? a=some o->((hh.push emptyDict).push (instObj (q.k+262) (m+262))).get? a=some o:=λa o e=>Heap.get?_push_of_some _ (Heap.get?_push_of_some _ e)
 have hw:(Code.builtin "type.__call__" ⟨[.ref (q.k+262),.str y ty],[]⟩).weight=1:=by kernel_rfl
 refine codeAny_call_function (fd:=q.fdI) (body:=(mK "__init__").2.1) (by show A.depth+_ < _;rw [hw];exact hdep) (keep _ _ g3) rfl (by kernel_rfl) (by kernel_rfl) rfl ?_ ?_
 ·obtain ⟨c,oc,vs,tq,e1,e2,e3,e4⟩:=hcode
  exact ⟨c,oc,vs,tq,e1,keep _ _ e2,e3,e4⟩
 refine go_run (s0:=⟨hh,g,dr,tk,os⟩) [] 30 _ _ _ _ hm hd hl R1 (q.rB m t y ty) λs1 R2=>?_
 refine go_run (s0:=⟨hh,g,dr,tk,os⟩) [.new 2,.new 2,.new 2,.new 2] 30 (q.iE (m+262+2)) (q.iN m t y ty) (q.os) 2 hm hd hl R2 (q.rI_ok m t y ty) λs2 R3=>?_
 refine ⟨?_,?_⟩
 ·obtain ⟨mc,⟨ob,es,ep,g,r⟩,hm'⟩:=hlim
  have e1:hh.get? cStatics=some (obj zw.params cStatics):=ho.at (j:=6) rfl rfl
  rw [e1] at g
  cases g
  exact ⟨mc,⟨_,es,ep,R3.old 6 _ _ rfl rfl,r⟩,hm'⟩
 refine codeAny_func ?_
 obtain ⟨a1,z⟩:=pair (q.rE1 m t y ty)
 obtain ⟨a2,z⟩:=pair z
 obtain ⟨a3,z⟩:=pair z
 obtain ⟨a4,z⟩:=pair z
 obtain ⟨a5,z⟩:=pair z
 obtain ⟨a6,z⟩:=pair z
 have R3':Rel (m+262) t q.as hh ⟨hh,g,dr,tk,os⟩ ⟨q.iN m t y ty,q.os,2,q.ansE m y ty,[],[],[],[]⟩ s2:=⟨R3.size,R3.new,R3.old,R3.keep,R3.tk,R3.rest⟩
 refine go_big (s0:=⟨hh,g,dr,tk,os⟩) (tp:=false) (oc:=default) 30 .next (λe=>nomatch e) (λe=>nomatch e) hm hd hl R3' (q.rE m t y ty) rfl a1 a2 (by rw [a3,List.map_eq_nil_iff.mp a3];rfl) (by rw [q.rE2 m t y ty,List.map_eq_nil_iff.mp (q.rE2 m t y ty)];rfl) (λb hb=>?_) λs3 R4=>?_
 ·have hb':b=q.bE m t y ty:=mem_one a6 hb
  subst hb'
  obtain ⟨c1,y1⟩:=pair (q.rE3 m t y ty)
  obtain ⟨c2,y1⟩:=pair y1
  obtain ⟨c3,y1⟩:=pair y1
  obtain ⟨c4,y1⟩:=pair y1
  obtain ⟨c5,c6⟩:=pair y1
  clear hb y1 z
  generalize q.bE m t y ty=b0 at *
  intro A' s' R'
  have oo:∀ (j:Nat) (o:Obj),(q.os)[j]? = some o->b0.olds[j]? = some o:=λj o e=>by rw [c4];exact e
  have h0:s'.heap.get? (q.k+262)=some q.kO:=R'.old 0 _ _ rfl (oo 0 _ rfl)
  have h2:s'.heap.get? (q.md+262)=some q.mdO:=R'.old 2 _ _ rfl (oo 2 _ rfl)
  rw [c1]
  refine q.mset (R'.new 1 _ c6) h0 h2 λs2 sb g hs ht=>⟨c2.symm,?_⟩
  rw [c5,c3]
  exact Rel.set (i:=1) hm hl R' g sb hs ht
 ·have:=fin s3 (R4.to ⟨rfl,a4,a5⟩)
  exact ⟨rfl,this⟩
end KQ
end
section
open PySem.Calls
open KP (pair)
namespace KQ
variable (q:KQ){s:Shared}{A:Around}{R:Result->Shared->Prop}{E:Value->Shared->Prop}{h:Heap}
noncomputable def fdL:FuncData:=fdK "__lt__" [(.ofString "mycmp",q.ce+262)] (q.v 14) q.c1 (q.v 15)
noncomputable def lE (L:Nat):Env:={ scope:=q.fdL.scope,locals:=L,globals:=3,cells:=[(.ofString "mycmp",q.ce+262)],qual:=q.fdL.qualname ++ ".<locals>.",func:=some (q.f1+262),code:=.ref (q.c1+262),frame:=some L,builtins:=0 }
noncomputable abbrev frO (h1 h2:Int)(t1 t2:Nat)(a b:Value):Obj:={ cls:=.type "frame",data:=.dict #[⟨h1,.str (.ofString "self") t1,a⟩,⟨h2,.str (.ofString "other") t2,b⟩] 2 }
noncomputable def rtE:Expr:=match (mK "__lt__").2.1 with | [.Return (some e) _]=>e | _=>default
noncomputable def clE:Expr:=match rtE with | .Compare l _ _ _=>l | _=>default
noncomputable def aE (i:Nat):Expr:=match clE with | .Call _ as _ _=>as.getD i default | _=>default
section
variable (m t:Nat)(i L d:Nat)(v:Value)(h1 h2:Int)(t1 t2:Nat)(o:Value)
noncomputable def asA:List Addr:=q.as++[i+262,L+262]
noncomputable def osA (fr:Obj):List Obj:=q.os++[q.inO d #[some v],fr]
noncomputable def ansA:List An:=[.old 8,.old 7,.old 0,.old 0,.old 1,.old 7,.old 0,.old 0,.old 1,.old 2,.old 2,.old 0,.old 0,.old 1,.use (.ok (.ret v)) id 0]
noncomputable def rA (fr:Obj)(e:Expr):Option (Out Value×FS):=go (m+262) t (q.asA i L) ⟨pw,zw.params⟩ default false (goC (m+262) t (q.asA i L) ⟨pw,zw.params⟩ default 30) (eval e (q.lE (L+262))) ⟨[],q.osA d v fr,0,ansA v,[],[],[],[]⟩
noncomputable def fr0:Obj:=frO h1 h2 t1 t2 (.ref (i+262)) o
noncomputable def fr1:Obj:=frO h1 h2 t1 t2 o (.ref (i+262))
noncomputable def bA (fr:Obj)(e:Expr):Ob:=(okS (q.rA m t i L d v fr e)).obl.getD 0 KP.b0
structure AOk1 (fr:Obj)(e:Expr):Prop where
 a:(okV (q.rA m t i L d v fr e),(okS (q.rA m t i L d v fr e)).chk.map (·.1),(okS (q.rA m t i L d v fr e)).cho.map (·.1),(okS (q.rA m t i L d v fr e)).olds,(okS (q.rA m t i L d v fr e)).tk,(okS (q.rA m t i L d v fr e)).obl.length,(okS (q.rA m t i L d v fr e)).news) =
  (some v,(okS (q.rA m t i L d v fr e)).chk.map (·.2),[],q.osA d v fr,1,1,[])
 s:(okS (q.rA m t i L d v fr e)).stk.map (·.1)=[]
 b:((q.bA m t i L d v fr e).c,(q.bA m t i L d v fr e).r,(q.bA m t i L d v fr e).dtk,(q.bA m t i L d v fr e).olds,(q.bA m t i L d v fr e).news,(q.bA m t i L d v fr e).news') =
  (.call (.builtin "member_descriptor.__get__") ⟨[.ref (q.md+262),.ref (i+262),.ref (q.k+262)],[]⟩,.ok (.ret v),0,q.osA d v fr,[],[])
theorem okA0 (y:Str)(ty:Nat):q.AOk1 m t i L d (.str y ty) (fr0 i h1 h2 t1 t2 o) (aE 0):=⟨by kernel_rfl,by kernel_rfl,by kernel_rfl⟩
theorem okA1 (y:Str)(ty:Nat):q.AOk1 m t i L d (.str y ty) (fr1 i h1 h2 t1 t2 o) (aE 1):=⟨by kernel_rfl,by kernel_rfl,by kernel_rfl⟩
end
theorem attr_at {i L d:Nat}{v:Value}{fr:Obj}{e:Expr}{Q:Value->Shared->Prop}(hm:∃ m,s.heap.objs.size=m+262)(hok:∀ m t,q.AOk1 m t i L d v fr e)(ho:AllAt s.heap q.as (q.os))(hi:s.heap.get? (i+262)=some (q.inO d #[some v]))(hL:s.heap.get? (L+262)=some fr)(hd:(q.asA i L).Nodup)
  (r:∀ s',Adds [] 1 s s'->Q v s'):wpAny (model pw zw) A (eval e (q.lE (L+262))) Q E s:=by
 obtain ⟨m,hm⟩:=hm
 have ho':AllAt s.heap (q.asA i L) (q.osA d v fr):=⟨ho.1,ho.2.1,ho.2.2.1,ho.2.2.2.1,ho.2.2.2.2.1,ho.2.2.2.2.2.1,ho.2.2.2.2.2.2.1,hi,hL,trivial⟩
 have hl:∀ a∈q.asA i L,a < m+262:=λa h=>hm▸ho'.lt a h
 have R0:=rel_start ho' (ansA v)
 rw [hm] at R0
 obtain ⟨z,hs,hb⟩:=hok m s.toks
 obtain ⟨a1,z⟩:=pair z
 obtain ⟨a2,z⟩:=pair z
 obtain ⟨a3,z⟩:=pair z
 obtain ⟨a4,z⟩:=pair z
 obtain ⟨a5,z⟩:=pair z
 obtain ⟨a6,a7⟩:=pair z
 refine go_big (tp:=false) (oc:=default) 30 v (λe=>nomatch e) (λe=>nomatch e) hm hd hl R0 (q.rA m s.toks i L d v fr e) rfl a1 a2 (by rw [a3,List.map_eq_nil_iff.mp a3];rfl) (by rw [hs,List.map_eq_nil_iff.mp hs];rfl) (λb hb'=>?_) λs3 R4=>?_
 ·have hb2:b=q.bA m s.toks i L d v fr e:=mem_one a6 hb'
  subst hb2
  clear hb' z a1 a2 a3 a4 a5 a6 a7 hs
  generalize q.bA m s.toks i L d v fr e=b0 at *
  obtain ⟨c1,y1⟩:=pair hb
  obtain ⟨c2,y1⟩:=pair y1
  obtain ⟨c3,y1⟩:=pair y1
  obtain ⟨c4,y1⟩:=pair y1
  obtain ⟨c5,c6⟩:=pair y1
  intro A' s' R'
  have oo:∀ (j:Nat) (o:Obj),(q.osA d v fr)[j]? = some o->b0.olds[j]? = some o:=λj o e=>by rw [c4];exact e
  have h0:s'.heap.get? (q.k+262)=some q.kO:=R'.old 0 _ _ rfl (oo 0 _ rfl)
  have h2:s'.heap.get? (q.md+262)=some q.mdO:=R'.old 2 _ _ rfl (oo 2 _ rfl)
  have h7:s'.heap.get? (i+262)=some (q.inO d #[some v]):=R'.old 7 _ _ rfl (oo 7 _ rfl)
  rw [c1]
  refine q.mget h7 h0 h2 ⟨c2.symm,?_⟩
  rw [c3,c6]
  rw [c5] at R'
  exact R'
 ·have R5:=R4.to (N:=[]) (O:=q.osA d v fr) (k:=1) ⟨a7,a4,a5⟩
  exact r s3 (Rel.added' hm rfl ho' R5)
end KQ
end
noncomputable def tS (s:String):Tx:=s.toList.map (·.toNat)
noncomputable def G3:List (Tx×D):=fnAt.map (λr=>(tS r.2.2,.at r.1))++[(tS "_Ignore",.at 159),(tS "sep",.str [47]),(tS "_initial_missing",.at 171)]
noncomputable def G0:List (Tx×D):=[(tS "len",.bi 0),(tS "isinstance",.bi 1),(tS "issubclass",.bi 2),(tS "iter",.bi 3),(tS "min",.bi 4),(tS "max",.bi 5),(tS "str",.ty 0),(tS "bytes",.ty 1),(tS "type",.ty 2),(tS "range",.ty 3)]
noncomputable def lookT {α:Type}(x:Tx):List (Tx×α)->Option α
 | []=>none
 | (y,d)::r=>if eqT y x then some d else lookT x r
noncomputable def G (x:Tx):Option D:=match lookT x G3 with
 | some d=>some d
 | none=>lookT x G0
theorem lookT_mem {α:Type}{x:Tx}:∀ {l:List (Tx×α)} {d:α},lookT x l=some d->(x,d)∈l
 | (y,d')::r,d,h=>by
  unfold lookT at h
  split at h
  ·rename_i e
   cases h
   rw [eqT_iff.mp e]
   exact .head _
  ·exact .tail _ (lookT_mem h)
noncomputable def es3 (P:Params):Array DictEntry:=match (H1 P).get? 3 with | some ⟨_,_,.dict es _,_⟩=>es | _=>#[]
noncomputable def es0 (P:Params):Array DictEntry:=match (H1 P).get? 0 with | some ⟨_,_,.dict es _,_⟩=>es | _=>#[]
theorem get3 (P:Params):∃ ep,(H1 P).get? 3=some { cls:=.type "dict",data:=.dict (es3 P) ep }:=⟨_,rfl⟩
theorem get0 (P:Params):∃ o ep,(H1 P).get? 0=some o/\o.data=.dict (es0 P) ep:=⟨_,_,rfl,rfl⟩
noncomputable def vOf:D->Value
 | .at a=>.ref a
 | .str x=>.str (S x) 196
 | .bi k=>.builtin (biN k)
 | .ty k=>.type (tyN k)
 | _=>.none
noncomputable def plainG:D->Bool
 | .at _ | .bi _ | .ty _=>true
 | .str x=>Nat.ble x.length lim
 | _=>false
theorem g3_ok (P:Params):G3.map (λr=>nsFind (es3 P) (S r.1))=G3.map (λr=>some (vOf r.2)):=by kernel_rfl
theorem g0_ok (P:Params):G0.map (λr=>(nsFind (es3 P) (S r.1),nsFind (es0 P) (S r.1)))=G0.map (λr=>(none,some (vOf r.2))):=by kernel_rfl
theorem g_plain:(G3++G0).all (λr=>plainG r.2)=true:=by kernel_rfl
noncomputable def strK (es:Array DictEntry):Bool:=es.toList.all λe=>match e.key with | .str _ _=>true | _=>false
theorem strK_of {es:Array DictEntry}(h:strK es=true):StrKeys es:=λe he=>by
 have:=List.all_eq_true.mp h e (Array.mem_toList_iff.mpr he)
 revert this
 cases e.key<;>simp
theorem k3 (P:Params):strK (es3 P)=true:=by kernel_rfl
theorem k0 (P:Params):strK (es0 P)=true:=by kernel_rfl
theorem rep_vOf {W:Wd}{d:D}(h:plainG d=true):Rep W d (vOf d):=by
 cases d<;>first | (cases h;done) | rfl | exact ⟨Nat.le_of_ble_eq_true h,196,rfl⟩
section
variable {P:Params}
set_option tactic.hygienic true in
theorem glo_ok (hk:∀ a o,(H1 P).get? a=some o->zh.get? a=some o){x:Tx}{d:D}(h:G x=some d){A:Around}{env:Env}{W:Wd}{s:Shared}{Q:Value->Shared->Prop}{E:Value->Shared->Prop}
  (hg:env.globals=3) (hb:env.builtins=0) (I:Inv W) (o:Ok W s) (q:∀ v,Rep W d v->Q v s):wpAny Mo A (loadGlobal env (S x)) Q E s:=by
 obtain ⟨ep,e3⟩:=get3 P
 obtain ⟨o0,ep0,e0,d0⟩:=get0 P
 have n3:s.heap.Ns env.globals (nsFind (es3 P)):=by
  rw [hg,o.1]
  exact ⟨_,_,ep,I.at (hk _ _ e3) (by decide),rfl,strK_of (k3 P),λ_=>rfl⟩
 have n0:s.heap.Ns env.builtins (nsFind (es0 P)):=by
  rw [hb,o.1]
  exact ⟨_,_,ep0,I.at (hk _ _ e0) (by decide),d0,strK_of (k0 P),λ_=>rfl⟩
 unfold G at h
 split at h
 ·rename_i d' e
  cases h
  have m:=lookT_mem e
  exact Calls.loadGlobal_global n3 (map_at (g3_ok P) m) (q _ (rep_vOf (List.all_eq_true.mp g_plain _ (List.mem_append_left _ m))))
 ·have m:=lookT_mem h
  have z:=map_at (g0_ok P) m
  exact Calls.loadGlobal_builtin n3 (congrArg Prod.fst z) n0 (congrArg Prod.snd z) (q _ (rep_vOf (List.all_eq_true.mp g_plain _ (List.mem_append_right _ m))))
end
section
open PySem.Calls
section
variable {A:Around}{W W':Wd}{P:Params}{B:List Addr}{nm:List (Str×NameKind)}{ρ:Rho}{env:Env}
theorem codeAmong_app {pos:Pos}{c cv:Value}{a b:Int}:∀ {l:List Value},TriplesOk l->codeAmong pos (l++[rawInt a,rawInt b,c])=some cv->codeAmong pos l=some cv\/cv=c:=by
 intro l h e
 fun_induction TriplesOk l with
 | case1 =>
  simp only [List.nil_append,rawInt,codeAmong] at e
  split at e
  ·exact .inr (by cases e;rfl)
  ·exact ns e
 | case2 a' t b' u x rest ih =>
  simp only [List.cons_append,codeAmong] at e ⊢
  split at e
  ·rename_i hc;rw [if_pos hc];exact .inl e
  ·rename_i hc;rw [if_neg hc];exact ih h e
 | case3 l h1 h2=>exact h.elim
theorem closure_nil {scope:Scope}(h:okNames scope.names=true):closureFor scope env=pure []:=by
 unfold okNames at h
 rw [Bool.and_eq_true] at h
 have key:∀ (l:List (Str×NameKind)) (f:(Str×NameKind)->List (Str×Addr)->Sem (ForInStep (List (Str×Addr)))),(l.all λx=>match x.2 with | .local | .cell | .globalImplicit=>true | _=>false)=true ->
   (∀ n k cs,k≠.free->f (n,k) cs=pure (.yield cs))->(forIn l ([]:List (Str×Addr)) f:Sem _)=pure []:=by
  intro l f
  induction l with
  | nil=>intro _ _;rfl
  | cons x l ih =>
   intro ha hf
   rw [List.all_cons,Bool.and_eq_true] at ha
   rw [List.forIn_cons,hf x.1 x.2 [] (λe=>by rw [e] at ha;cases ha.1)]
   exact ih ha.2 hf
 unfold closureFor
 exact congrArg (λm=>m>>=λcs=>pure cs) (key scope.names _ h.2 λn k cs hk=>by
  dsimp only
  rw [if_neg (by simpa using hk)])
theorem head232 (hk:∀ a o,(H1 P).get? a=some o->zh.get? a=some o)(I:Inv W):CodeHd W.h 232 228 :=
 ⟨_,_,_,_,_,_,_,_,_,I.at (hk 232 _ rfl) (by decide),rfl,rfl,rfl,rfl,rfl,rfl,rfl,rfl,by decide⟩
theorem head259 (hk:∀ a o,(H1 P).get? a=some o->zh.get? a=some o)(I:Inv W):CodeHd W.h 259 257 :=
 ⟨_,_,_,_,_,_,_,_,_,I.at (hk 259 _ rfl) (by decide),rfl,rfl,rfl,rfl,rfl,rfl,rfl,rfl,by decide⟩
theorem builtinsAt (hk:∀ a o,(H1 P).get? a=some o->zh.get? a=some o)(I:Inv W){t:Addr}(ht:t≠4):W.h.BuiltinsAt (nsFind (es3 P)) t:=by
 have e:nsFind (es3 P) (Str.ofString "__builtins__")=some (.ref 4):=by kernel_rfl
 exact ⟨4,_,e,by decide,by decide,λq=>ht q.symm,I.at (hk 4 _ rfl) (by decide),rfl,rfl,rfl⟩
theorem lam_make (hC:lamOkR=lamOkR)(hk:∀ a o,(H1 P).get? a=some o->zh.get? a=some o)(I:Inv W)(hg:env.globals=3){c t:Addr}(hc:env.code=.ref c)(hq:(env.qual ++ "<lambda>" : Str)=qualOf t) (ht:t∈tabs) (ht165:t≠165) (hd:CodeHd W.h c t)
  {ps:Arguments} {body:Expr} {sc:Scope} {pos:Pos} {k:Nat} (hn:okNames sc.names=true) (hdf:ps.defaults=[]) (hkd:ps.kw_defaults=[])
  (sig:∀ (q:Str) (pm cdv ct:Value),SigOk (kla_fn "<lambda>" q ps body sc [] pm cdv ct) ⟨ps.args.map λa=>tx a.arg,none,none,[]⟩ ((ps.args.map λa=>tx a.arg).map S) none none) :
  Gv A (eval (.Lambda ps body sc pos) env) W (.lam (ps.args.map λa=>tx a.arg) (cv k sc.names body)):=by
 intro s Q E o p
 clear lam_make
 obtain ⟨vs,e1,e2,e3,_⟩:=I.tab t ht
 obtain ⟨ep,g3⟩:=get3 P
 have n3:s.heap.Ns mainGlobals (nsFind (es3 P)):=by
  rw [o.1]
  exact ⟨_,_,ep,I.at (hk _ _ g3) (by decide),rfl,strK_of (k3 P),λ_=>rfl⟩
 have ht4:t≠4:=λq=>by rw [q] at ht;revert ht;decide
 have ht3:mainGlobals≠t:=λq=>by rw [<-q] at ht;revert ht;decide
 have hdef:defaultsOf ps env=([],[]):=by
  clear sig
  cases ps
  dsimp only at hdf hkd
  subst hdf hkd
  rfl
 refine kla_eval hdef ?_
 rw [hq]
 have fin:∀ (c':Addr) (oc:Obj) (fs:Array Value) (tk:Tok) (ctv:Value) (h':Heap) (tt:Nat),Le [] W { W with h:=h' }->Inv { W with h:=h' }->c'∉W.pv->h'.get? c'=some oc->(c'∉tabs/\W.ig.lookup c'=none)->oc.data=.fields fs->fs[1]? = some (.str (qualOf t) tk) ->
   Q (.ref h'.objs.size) { s with heap:=h'.push { cls:=.type "function",data:=.func (kla_fn "<lambda>" (qualOf t) ps body sc [] ((nsFind (es3 P) "__name__").getD .none) (.ref c') ctv) },toks:=tt }:=by
  intro c' oc fs tk ctv h' tt L1 I1 hp hoc hct hdat hf1
  refine p _ (Wd.push { W with h:=h' } _) _ (L1.trans (push_le _)) (push_inv I1 _) ⟨rfl,o.2.1,o.2.2⟩ ?_
  refine ⟨_,_,_,c',oc,fs,tk,rfl,new_notPv I1,Heap.get?_push_size _ rfl,rfl,rfl,?_,rfl,hp,Heap.get?_push_of_some _ hoc,hct,hdat,hf1⟩
  rw [hC]
  exact ⟨k,body,rfl,rfl,sig _ _ _ _,rfl⟩
 clear sig hC p hq hdef hkd hdf g3 ep
 cases hh:codeAmong pos vs.toList with
 | some cvv =>
  obtain ⟨c',oc,fs,tk,rfl,hp,hoc,hct,hdat,hf1⟩:=e3 _ _ hh
  refine kla_makeFunctionHit (closure_nil hn) hg n3 hc (by rw [o.1];exact hd) (by rw [o.1];exact e1) e2 hh (by rw [o.1];exact builtinsAt hk I ht4) λctv h' tk' hk' _=>?_
  obtain ⟨L1,I1⟩:=ext_le (h':=h') I λa o' _ e=>hk' a o' (by rw [o.1];exact e)
  exact fin c' oc fs tk ctv h' tk' L1 I1 hp (hk' _ _ (by rw [o.1];exact hoc)) hct hdat hf1
 | none =>
  refine kla_makeFunction (closure_nil hn) hg n3 hc (by rw [o.1];exact hd) (by rw [o.1];exact e1) e2 hh ht3 (by rw [o.1];exact builtinsAt hk I ht4) λc' ctv h' tk' hx hlo hhi hrec hP=>?_
  rw [o.1] at hx hlo
  clear o hhi ht4 hk ht3 hh hd hc n3 hg hn k env E A c
  obtain ⟨c2,oc,fs,tk,hc2,hoc,hdat,hf1⟩:=hrec
  cases hc2
  have old:∀ {a o'},W.h.get? a=some o'->a≠t->h'.get? a=some o':=λe hne=>hx _ _ hne e
  have htP:t∉W.pv:=I.tabPv t ht
  have tig:W.ig.lookup t=none:=I.noIg e1 nofun
  have lt_c:∀ {a o'},W.h.get? a=some o'->a≠c':=λe q=>by have:=Heap.lt_size e;rw [q] at this;exact absurd this (Nat.not_lt.mpr hlo)
  have hcp:c'∉W.pv:=λq=>by obtain ⟨o',e⟩:=I.pvAl _ q;exact lt_c e rfl
  have hct:c'∉tabs:=λq=>by obtain ⟨v',e,_⟩:=I.tab _ q;exact lt_c e rfl
  have hci:W.ig.lookup c'=none:=by
   cases q:W.ig.lookup c' with
   | none=>rfl
   | some ds=>obtain ⟨o',e,_⟩:=(I.ig _ _ q).obj;exact absurd rfl (lt_c e)
  have L1:Le [] W { W with h:=h' }:=⟨⟨λa o' e h1 _ _=>old e (λq=>h1 (q▸ht)),λ_ _ e=>e,λ_ _ _ _ e=>e,λa ds cc e x=>x.keep λo' e'=>old e' (λq=>by rw [q,tig] at e;cases e),λ_ _ _ _ e=>e,λa o' e _=>by
   by_cases q:a=t
   ·exact ⟨_,by rw [q];exact hP⟩
   ·exact ⟨o',old e q⟩⟩,λ_ h _=>h⟩
  have newC:CodeW { W with h:=h' } (qualOf t) (.ref c'):=⟨c',oc,fs,tk,rfl,hcp,hoc,⟨hct,hci⟩,hdat,hf1⟩
  have keepC:∀ x o',W.h.get? x=some o'->x∉W.pv->x∉tabs->W.ig.lookup x=none->h'.get? x=some o'/\x∉W.pv/\W.ig.lookup x=none:=λx o' e h1 h2 h3=>⟨old e (λq=>h2 (q▸ht)),h1,h3⟩
  have I1:Inv { W with h:=h' }:=by
   refine ⟨I.base.trans L1.toLe0,λa h=>?_,λa ds e=>(I.ig a ds e).keep λo' e'=>old e' (λq=>by rw [q,tig] at e;cases e),I.igPv,λu hu=>?_,I.tabPv⟩
   ·obtain ⟨o',e⟩:=I.pvAl a h
    exact ⟨o',old e (λq=>htP (q▸h))⟩
   ·by_cases q:u=t
    ·clear htP tig ht lt_c hlo e1 hx
     subst q
     refine ⟨_,hP,?_,λpos' cv' h=>?_,λh=>absurd h ht165⟩
     ·rw [Array.toList_append]
      exact TriplesOk_snoc _ _ _ _ e2
     ·rw [Array.toList_append] at h
      rcases codeAmong_app e2 h with h | h
      ·exact (e3 _ _ h).mono (W':={ W with h:=h' }) keepC
      ·rw [h];exact newC
    ·exact (I.tab u hu).mono (λo' e=>old e q) keepC
  exact fin c' oc fs tk ctv h' tk' L1 I1 hcp hoc ⟨hct,hci⟩ hdat hf1
theorem codeOf_iff {c:Nat}(h:codeOf nm=some c):c=232\/c=259:=by
 unfold codeOf at h
 split at h
 ·split at h
  ·cases h;exact .inl rfl
  ·split at h
   ·cases h;exact .inr rfl
   ·exact ns h
 ·exact ns h
theorem lam_ok (hC:lamOkR=lamOkR)(hk:∀ a o,(H1 P).get? a=some o->zh.get? a=some o){k:Nat}{ps:Arguments}{body:Expr}{sc:Scope}{pos:Pos}{xs:List Tx}{e:ME}
  (h:cv k nm (.Lambda ps body sc pos)=.lam xs e) (F:Fm B nm env W ρ) (I:Inv W):Gv A (eval (.Lambda ps body sc pos) env) W (.lam xs e):=by
 clear lam_ok
 cases k with
 | zero=>cases h
 | succ k =>
  have h':(if lamChk nm ps sc=true then ME.lam (ps.args.map λa=>tx a.arg) (cv k sc.names body) else .bad)=.lam xs e:=h
  by_cases hc:lamChk nm ps sc=true
  ·rw [if_pos hc] at h'
   clear h
   cases h'
   simp only [lamChk,Bool.and_eq_true,Bool.not_eq_true',List.isEmpty_iff] at hc
   obtain ⟨h1,h2,h3,h4,h5,h6,h7,h8,h9,h10,h11,h12,h13,h14⟩:=hc
   have hva:ps.vararg=none:=by cases q:ps.vararg with | none=>rfl | some a=>rw [q] at h2;exact nf h2
   have hkw:ps.kwarg=none:=by cases q:ps.kwarg with | none=>rfl | some a=>rw [q] at h4;exact nf h4
   have hcn:codeOf sc.names=none:=by cases q:codeOf sc.names with | none=>rfl | some a=>rw [q] at h13;exact nf h13
   have hkind:sc.kind=.function:=by revert h7;cases sc.kind<;>simp
   obtain ⟨c,hcode⟩:∃ c,codeOf nm=some c:=by cases q:codeOf nm with | none=>rw [q] at h14;cases h14 | some a=>exact ⟨a,rfl⟩
   obtain ⟨ec,eq⟩:=F.cd c hcode
   have sig:∀ (q:Str) (pm cdv ct:Value),SigOk (kla_fn "<lambda>" q ps body sc [] pm cdv ct) ⟨ps.args.map λa=>tx a.arg,none,none,[]⟩ ((ps.args.map λa=>tx a.arg).map S) none none:=λq pm cdv ct=>by
    refine ⟨⟨h1,(map_tx _).symm,by show ps.vararg.map _=none;rw [hva];rfl,h3,by show ps.kwarg.map _=none;rw [hkw];rfl,?_⟩,rfl,rfl,rfl,rfl,rfl,rfl,hkind,h8,h9,h10,λc' e'=>?_,λx hx=>?_⟩
    ·rw [map_tx]
     refine nodupT_iff ?_
     have same:∀ l:List Tx,noneDup l=nodupT l:=λl=>by induction l with | nil=>rfl | cons x l ih=>simp only [noneDup,nodupT,ih]
     rw [<-same,List.map_map]
     exact h11
    ·have e2:codeOf sc.names=some c':=e'
     rw [hcn] at e2;exact ns e2
    ·simp only [Option.toList_none,List.append_nil,List.mem_map] at hx
     refine xEA hx λa ha ee2=>?_
     try clear hx
     subst ee2
     exact List.all_eq_true.mp h12 a ha
   rcases codeOf_iff hcode with rfl | rfl
   ·exact lam_make hC hk I F.gl ec (by rw [eq];decide +kernel) (t:=228) (by decide) (by decide) (head232 hk I) h10 h5 h6 sig
   ·exact lam_make hC hk I F.gl ec (by rw [eq];decide +kernel) (t:=257) (by decide) (by decide) (head259 hk I) h10 h5 h6 sig
  ·rw [if_neg hc] at h';cases h'
end
end
section
open PySem.Builtin PySem.Builtin.Str PySem.StrLaws PySem.Calls PySem.SeqAt
open PySem.AutoSeq1 (wpAny_loadPart')
section
variable {A:Around}{W W':Wd}{d:D}{s:Shared}{E:Value->Shared->Prop}
noncomputable def ordC (less:Bool):Int:=if less then 0 else 4
noncomputable def ordOp (less:Bool):CmpOp:=if less then .Lt else .Gt
theorem lt_cons {x y:D}{xs ys:List D}{r:Bool}(h:ltTs (x::xs) (y::ys)=some r):∃ a b,x=.str a/\y=.str b/\(if eqT a b then ltTs xs ys else some (ltT a b))=some r:=by
 refine xEA (bd_inv (show ((strC x).bind λa=>(strC y).bind λb=>if eqT a.s b.s then ltTs xs ys else some (ltT a.s b.s))=some r from h)) λa _ h1=>?_
 refine xEA (bd_inv h1) λb _ h2=>?_
 exact ⟨a.s,b.s,a.e,b.e,h2⟩
theorem ord_cons {less:Bool}{x y:D}{xs ys:List D}{r:Bool}(h:ordR less (x::xs) (y::ys)=some r):∃ a b,x=.str a/\y=.str b/\((eqT a b=true/\ordR less xs ys=some r)\/(eqT a b=false/\r=(if less then ltT a b else ltT b a))):=by
 cases less
 ·refine xEEAA (lt_cons (show ltTs (y::ys) (x::xs)=some r from h)) λa b ee2 ee3 q1=>?_
  subst ee2
  subst ee3
  refine ⟨b,a,rfl,rfl,?_⟩
  rw [eqT_dec] at q1 ⊢
  by_cases q:a=b
  ·rw [if_pos (decide_eq_true q)] at q1
   exact .inl ⟨decide_eq_true q.symm,q1⟩
  ·rw [if_neg (by simpa using q)] at q1
   cases q1
   exact .inr ⟨decide_eq_false λz=>q z.symm,rfl⟩
 ·refine xEEAA (lt_cons (show ltTs (x::xs) (y::ys)=some r from h)) λa b ee2 ee3 q1=>?_
  subst ee2
  subst ee3
  refine ⟨a,b,rfl,rfl,?_⟩
  cases q:eqT a b with
  | true=>rw [if_pos q] at q1;exact .inl ⟨rfl,q1⟩
  | false =>
   rw [if_neg (by rw [q];nofun)] at q1
   cases q1
   exact .inr ⟨rfl,rfl⟩
theorem rc_str {less:Bool}{a b:Tx}{t u:Tok}{prog:Program}{w:World}{Q:Value->Shared->Prop}(h:Q (.bool (if less then ltT a b else ltT b a)) s):wpAny (model prog w) A (richCompare (ordOp less) (.str (S a) t) (.str (S b) u)) Q E s:=by
 cases less
 ·show wpAny _ _ (compareOp .Gt _ _) _ _ _
  refine P.gt_str ?_
  have:decide ((S b).cps.toList < (S a).cps.toList)=ltT b a:=by rw [Bool.eq_iff_iff,decide_eq_true_eq,ltT_iff]
  rw [this];exact h
 ·show wpAny _ _ (compareOp .Lt _ _) _ _ _
  refine lt_str ?_
  have:decide ((S a).cps.toList < (S b).cps.toList)=ltT a b:=by rw [Bool.eq_iff_iff,decide_eq_true_eq,ltT_iff]
  rw [this];exact h
theorem drop_at {items:Array Value}{i:Nat}{v:Value}{r:List Value}(h:items.toList.drop i=v::r):items[((i:Nat):Int).toNat]? = some v/\items.toList.drop (i+1)=r:=by
 have e1:items.toList[i]? = some v:=by
  have:=congrArg (λl=>l[0]?) h
  simpa using this
 refine ⟨by rw [Int.toNat_natCast,← Array.getElem?_toList];exact e1,?_⟩
 have:=congrArg (λl=>l.drop 1) h
 simpa using this
theorem drop_end {items:Array Value}{i:Nat}(h:items.toList.drop i=[]):items[((i:Nat):Int).toNat]? = none:=by
 have:=List.drop_eq_nil_iff.mp h
 rw [Int.toNat_natCast,← Array.getElem?_toList]
 simpa using this
theorem ord_step (less:Bool){x y:Value}{e r:Bool}{l b:Addr}{items items2:Array Value}{n n2:Nat}{dd dd2:Option Addr}{sl sl2:Array (Option Value)}{i:Nat}{prog:Program}{w:World}{R:Result->Shared->Prop}
  (hl:s.heap.get? l=some { cls:=.type "list",dict:=dd,data:=.seq items n,slots:=sl }) (hb:s.heap.get? b=some { cls:=.type "list",dict:=dd2,data:=.seq items2 n2,slots:=sl2 })
  (h1:items[((i:Nat):Int).toNat]? = some x) (h2:items2[((i:Nat):Int).toNat]? = some y) (he:EqAt A.in1 s x y e)
  (hr:if e then codeAny (model prog w) A (.builtin "list.__eq__.loop" ⟨[.ref l,.ref b,rawInt ((i:Int)+1),rawInt (ordC less)],[]⟩) R s else
   ∀ Q E,Q (.bool r) s->wpAny (model prog w) A.in1 (richCompare (ordOp less) x y) Q E s) (hR:e=false->R (.ok (.ret (.bool r))) s) :
  wpAny (model prog w) A.in1 (Builtin.«list.__eq__.loop» ⟨[.ref l,.ref b,rawInt i,rawInt (ordC less)],[]⟩) (λfin s'=>match fin with | .done f=>R (.ok f) s' | .again c'=>c'.quiet=true/\codeAny (model prog w) A c' R s') (λe s'=>R (.error e) s') s:=by
 obtain ⟨hp,g,d,tk,os⟩:=s
 cases less
 all_goals
  wp_walk using wpAny_loadPart' hl,wpAny_loadPart' hb
  rw [h1,h2]
  refine wpAny_bind (he prog w _ _ ?_)
  cases e with
  | true =>
   wp_walk
   exact ⟨plainId_quiet MeetsSeq3.plain_eq_loop _,hr⟩
  | false =>
   wp_walk using wpAny_loadPart' hl,wpAny_loadPart' hb
   rw [h1,h2]
   refine wpAny_bind (hr _ _ ?_)
   exact wpAny_pure (hR rfl)
theorem ord_ends (less:Bool){r:Bool}{l b:Addr}{items items2:Array Value}{n n2:Nat}{dd dd2:Option Addr}{sl sl2:Array (Option Value)}{i:Nat}{prog:Program}{w:World}{R:Result->Shared->Prop}
  (hl:s.heap.get? l=some { cls:=.type "list",dict:=dd,data:=.seq items n,slots:=sl }) (hb:s.heap.get? b=some { cls:=.type "list",dict:=dd2,data:=.seq items2 n2,slots:=sl2 })
  (h1:items[((i:Nat):Int).toNat]? = none\/items2[((i:Nat):Int).toNat]? = none) (hr:r=if less then decide (items.size < items2.size) else decide (items.size > items2.size)) (hR:R (.ok (.ret (.bool r))) s) :
  wpAny (model prog w) A.in1 (Builtin.«list.__eq__.loop» ⟨[.ref l,.ref b,rawInt i,rawInt (ordC less)],[]⟩) (λfin s'=>match fin with | .done f=>R (.ok f) s' | .again c'=>c'.quiet=true/\codeAny (model prog w) A c' R s') (λe s'=>R (.error e) s') s:=by
 obtain ⟨hp,g,d,tk,os⟩:=s
 subst hr
 have h1:items[((i:Nat):Int).toNat]? = none\/(∃ x,items[((i:Nat):Int).toNat]? = some x)/\items2[((i:Nat):Int).toNat]? = none:=by
  cases e:items[((i:Nat):Int).toNat]? with
  | none=>exact .inl rfl
  | some x=>exact .inr ⟨⟨x,rfl⟩,h1.resolve_left (by rw [e];nofun)⟩
 cases less
 all_goals
  wp_walk using wpAny_loadPart' hl,wpAny_loadPart' hb
  rcases h1 with h1 | ⟨⟨x,h0⟩,h1⟩
  ·rw [h1]
   wp_walk using wpAny_loadPart' hl,wpAny_loadPart' hb
   exact hR
  ·rw [h0,h1]
   wp_walk using wpAny_loadPart' hl,wpAny_loadPart' hb
   exact hR
theorem ord_loop (less:Bool){l b:Addr}{items items2:Array Value}{n n2:Nat}{dd dd2:Option Addr}{sl sl2:Array (Option Value)}{prog:Program}{w:World} :
  ∀ (xs ys:List D) (i:Nat) (r:Bool),Reps W xs (items.toList.drop i)->Reps W ys (items2.toList.drop i)->i<=items.size->i<=items2.size->ordR less xs ys=some r->∀ (A:Around) (R:Result->Shared->Prop) (s:Shared),
   s.heap.get? l=some { cls:=.type "list",dict:=dd,data:=.seq items n,slots:=sl }->s.heap.get? b=some { cls:=.type "list",dict:=dd2,data:=.seq items2 n2,slots:=sl2 }->R (.ok (.ret (.bool r))) s ->
   wpAny (model prog w) A.in1 (Builtin.«list.__eq__.loop» ⟨[.ref l,.ref b,rawInt i,rawInt (ordC less)],[]⟩) (λfin s'=>match fin with | .done f=>R (.ok f) s' | .again c'=>c'.quiet=true/\codeAny (model prog w) A c' R s') (λe s'=>R (.error e) s') s
 | [],ys,i,r,hx,hy,h1,h2,h,A,R,s,hl,hb,hR=>by
  have e1:items.toList.drop i=[]:=hx
  have n1:=hx.length
  have n2:=hy.length
  rw [List.length_drop,Array.length_toList] at n1 n2
  refine ord_ends less hl hb (.inl (drop_end e1)) ?_ hR
  cases ys with
  | nil =>
   have:r=false:=by cases less<;>(cases h;rfl)
   rw [this]
   simp only [List.length_nil] at n1 n2
   cases less<;>simp<;>omega
  | cons y ys =>
   simp only [List.length_cons,List.length_nil] at n1 n2
   cases less
   ·have:some false=some r:=h
    cases this
    simp;omega
   ·have:some true=some r:=h
    cases this
    simp;omega
 | x::xs,[],i,r,hx,hy,h1,h2,h,A,R,s,hl,hb,hR=>by
  have e1:items2.toList.drop i=[]:=hy
  have n1:=hx.length
  have n2:=hy.length
  rw [List.length_drop,Array.length_toList] at n1 n2
  refine ord_ends less hl hb (.inr (drop_end e1)) ?_ hR
  simp only [List.length_cons,List.length_nil] at n1 n2
  cases less
  ·have:some true=some r:=h
   cases this
   simp;omega
  ·have:some false=some r:=h
   cases this
   simp;omega
 | x::xs,y::ys,i,r,hx,hy,h1,h2,h,A,R,s,hl,hb,hR=>by
  obtain ⟨v,vs,ev,rv,rvs⟩:=hx
  obtain ⟨u,us,eu,ru,rus⟩:=hy
  refine xEEAA (ord_cons h) λa c ee2 ee3 hc=>?_
  subst ee2
  subst ee3
  obtain ⟨g1,g2⟩:=drop_at ev
  obtain ⟨g3,g4⟩:=drop_at eu
  have hlt:i < items.size:=by
   have:=congrArg List.length ev
   rw [List.length_drop,Array.length_toList,List.length_cons] at this
   omega
  have hlt2:i < items2.size:=by
   have:=congrArg List.length eu
   rw [List.length_drop,Array.length_toList,List.length_cons] at this
   omega
  have he:EqAt A.in1 s v u (eqT a c):=(eq0_at rv ru (show eq0 (.str a) (.str c)=some (eqT a c) from rfl)).1
  refine ord_step less hl hb g1 g3 he ?_ λ_=>hR
  rcases hc with ⟨q,hr⟩ | ⟨q,hr⟩
  ·rw [if_pos q]
   refine codeAny_builtin MeetsSeq3.entry_eq_loop ?_
   rw [Around.under_plainId MeetsSeq3.plain_eq_loop _]
   exact ord_loop less xs ys (i+1) r (by rw [g2];exact rvs) (by rw [g4];exact rus) hlt hlt2 hr A R s hl hb hR
  ·rw [if_neg (by rw [q];nofun)]
   intro Q E hq
   obtain ⟨_,t,rfl⟩:=rv
   obtain ⟨_,t',rfl⟩:=ru
   exact rc_str (by rw [<-hr];exact hq)
noncomputable def ordB (less:Bool):Builtin:=if less then Builtin.«list.__lt__» else Builtin.«list.__gt__»
theorem ord_call (less:Bool){l b:Addr}{items items2:Array Value}{n n2:Nat}{dd dd2:Option Addr}{sl sl2:Array (Option Value)}{xs ys:List D}{r:Bool}(hx:Reps W xs items.toList)(hy:Reps W ys items2.toList)(h:ordR less xs ys=some r) :
  Meets (ordB less ⟨[.ref l,.ref b],[]⟩) (λA R s=>s.heap.get? l=some { cls:=.type "list",dict:=dd,data:=.seq items n,slots:=sl }/\s.heap.get? b=some { cls:=.type "list",dict:=dd2,data:=.seq items2 n2,slots:=sl2 }/\R (.ok (.ret (.bool r))) s):=by
 intro prog w A R s hs
 obtain ⟨hp,g,d,tk,os⟩:=s;obtain ⟨hl,hb,hR⟩:=hs
 have f3:=AutoSeq1.sub_list_list
 have key:=λc (hc:c=ordC less)=>(codeAny_builtin MeetsSeq3.entry_eq_loop (by
  rw [Around.under_plainId MeetsSeq3.plain_eq_loop _]
  subst hc
  exact ord_loop less xs ys 0 r hx hy (Nat.zero_le _) (Nat.zero_le _) h A R _ hl hb hR):codeAny (model prog w) A (.builtin "list.__eq__.loop" ⟨[.ref l,.ref b,rawInt 0,rawInt c],[]⟩) R ⟨hp,g,d,tk,os⟩)
 cases less
 ·show wpAny _ _ (Builtin.«list.__gt__» _) _ _ _
  wp_walk using wpAny_loadPart' hl,wpAny_loadPart' hb
  exact ⟨plainId_quiet MeetsSeq3.plain_eq_loop _,key _ rfl⟩
 ·show wpAny _ _ (Builtin.«list.__lt__» _) _ _ _
  wp_walk using wpAny_loadPart' hl,wpAny_loadPart' hb
  exact ⟨plainId_quiet MeetsSeq3.plain_eq_loop _,key _ rfl⟩
theorem ord_lists (less:Bool){l b:Addr}{items items2:Array Value}{xs ys:List D}{r:Bool}{prog:Program}{w:World}{Q:Value->Shared->Prop}(hx:Reps W xs items.toList)(hy:Reps W ys items2.toList)(h:ordR less xs ys=some r)
  (hl:s.heap.IsList l items) (hb:s.heap.IsList b items2) (hu:A.units < cLine) (hq:Q (.bool r) s):wpAny (model prog w) A (richCompare (ordOp less) (.ref l) (.ref b)) Q E s:=by
 obtain ⟨⟨cls,dd,data,sl⟩,ho,hc,n,hd⟩:=id hl
 obtain ⟨⟨cls2,dd2,data2,sl2⟩,ho2,hc2,n2,hd2⟩:=id hb
 simp only at hc hd hc2 hd2
 subst hc hd hc2 hd2
 have m:=ord_call less hx hy h (l:=l) (b:=b) (n:=n) (n2:=n2) (dd:=dd) (dd2:=dd2) (sl:=sl) (sl2:=sl2)
 have z:Value.bool r≠Value.notImplemented/\Q (.bool r) s:=⟨(λx=>nomatch x),hq⟩
 cases less
 ·exact richCompare_meets_room (op:=.Gt) ⟨_,ho,rfl⟩ ⟨_,ho2,rfl⟩ F.slot_list_gt F.entry_list_gt (F.args_list_gt_2 _ _) m ⟨ho,ho2,z⟩ hu
 ·exact richCompare_meets_room (op:=.Lt) ⟨_,ho,rfl⟩ ⟨_,ho2,rfl⟩ F.slot_list_lt F.entry_list_lt (F.args_list_lt_2 _ _) m ⟨ho,ho2,z⟩ hu
end
end
section
open PySem.Builtin PySem.Builtin.Str PySem.StrLaws PySem.Calls PySem.SeqAt
section
variable {A:Around}{W W':Wd}{d:D}{s:Shared}{E:Value->Shared->Prop}
noncomputable def mmId (less:Bool):String:=if less then "min.loop" else "max.loop"
theorem mm_loop (less:Bool){prog:Program}{w:World}{R:Result->Shared->Prop}{I:Addr}{fp wr:List Addr}{items:Array Value}{St:Nat->Heap->Prop}
  (W:Walks prog w A.in1 I fp wr 2 (λi v=>items[i]? = some v) St) (S:Addr) (hSf:S∉fp) {v0 v1:Value} (e0:items[0]? = some v0) (e1:items[1]? = some v1) {r:Bool} {c:Nat} (hst:St 0 s.heap)
  (hcmp:∀ s':Shared,(∀ b o,b∉wr->b≠S->s.heap.get? b=some o->s'.heap.get? b=some o)->∀ Q E,Q (.bool r) s'->wpAny (model prog w) A.in1 (richCompare (ordOp less) v1 v0) Q E s')
  (hS:s.heap.get? S=some { cls:=.type "list",dict:=none,data:=.seq #[] c,slots:=#[] })
  (hR:∀ h' tk,(∀ b o,b∉wr->b≠S->s.heap.get? b=some o->h'.get? b=some o)->R (.ok (.ret (if r then v1 else v0))) { s with heap:=h',toks:=tk }) :
  codeAny (model prog w) A (.builtin (mmId less) ⟨[.ref I,.none,.ref S],[]⟩) R s:=by
 have hSw:S∉wr:=λh=>hSf (W.sub _ h)
 have hname:(toString "min" ++ toString ".loop" : String) = "min.loop" := by decide
 have hname':(toString "max" ++ toString ".loop" : String) = "max.loop" := by decide
 have fin:∀ (s1:Shared) (v:Value) (c1:Nat),(∀ h' tk,(∀ b o,b∉wr->b≠S->s1.heap.get? b=some o->h'.get? b=some o)->R (.ok (.ret v)) { s1 with heap:=h',toks:=tk })->St 2 s1.heap ->
   s1.heap.get? S=some { cls:=.type "list",dict:=none,data:=.seq #[v,v] c1,slots:=#[] }->codeAny (model prog w) A (.builtin (mmId less) ⟨[.ref I,.none,.ref S],[]⟩) R s1:=by
  intro s1 v c1 hR hst hS
  cases less
  ·show codeAny (model prog w) A (.builtin "max.loop" _) R s1
   refine codeAny_builtin F.entry_max_loop ?_
   rw [Around.under_plainId F.plain_max_loop _]
   show wpAny _ A.in1 (seqItems? (.ref S)>>=_) _ _ _
   refine wpAny_bind (wpAny_seqItems hS rfl ?_)
   show wpAny _ A.in1 (tryCatch (pyNext (.ref I)) _>>=_) _ _ _
   refine wpAny_bind (wpAny_tryCatch (W.done s1 _ _ hst λh' tk hk'=>?_))
   show wpAny _ A.in1 (updateSeq S (λ_=>#[])>>=_) _ _ _
   refine wpAny_bind (wpAny_updateSeq (hk' S _ hSw hS) rfl (wpAny_bind (wpAny_letGo (wpAny_pure ?_))))
   exact hR _ _ λb o hbw hbS e=>(Heap.get?_update_other _ _ (Ne.symm hbS)).trans (hk' b o hbw e)
  ·show codeAny (model prog w) A (.builtin "min.loop" _) R s1
   refine codeAny_builtin F.entry_min_loop ?_
   rw [Around.under_plainId F.plain_min_loop _]
   show wpAny _ A.in1 (seqItems? (.ref S)>>=_) _ _ _
   refine wpAny_bind (wpAny_seqItems hS rfl ?_)
   show wpAny _ A.in1 (tryCatch (pyNext (.ref I)) _>>=_) _ _ _
   refine wpAny_bind (wpAny_tryCatch (W.done s1 _ _ hst λh' tk hk'=>?_))
   show wpAny _ A.in1 (updateSeq S (λ_=>#[])>>=_) _ _ _
   refine wpAny_bind (wpAny_updateSeq (hk' S _ hSw hS) rfl (wpAny_bind (wpAny_letGo (wpAny_pure ?_))))
   exact hR _ _ λb o hbw hbS e=>(Heap.get?_update_other _ _ (Ne.symm hbS)).trans (hk' b o hbw e)
 have mid:∀ (s1:Shared) (c1:Nat),(∀ h' tk,(∀ b o,b∉wr->b≠S->s1.heap.get? b=some o->h'.get? b=some o)->R (.ok (.ret (if r then v1 else v0))) { s1 with heap:=h',toks:=tk })->St 1 s1.heap ->
   (∀ s':Shared,(∀ b o,b∉wr->b≠S->s1.heap.get? b=some o->s'.heap.get? b=some o)->∀ Q E,Q (.bool r) s'->wpAny (model prog w) A.in1 (richCompare (ordOp less) v1 v0) Q E s') ->
   s1.heap.get? S=some { cls:=.type "list",dict:=none,data:=.seq #[v0,v0] c1,slots:=#[] }->codeAny (model prog w) A (.builtin (mmId less) ⟨[.ref I,.none,.ref S],[]⟩) R s1:=by
  intro s1 c1 hR hst hcmp hS
  cases less
  ·show codeAny (model prog w) A (.builtin "max.loop" _) R s1
   refine codeAny_builtin F.entry_max_loop ?_
   rw [Around.under_plainId F.plain_max_loop _]
   show wpAny _ A.in1 (seqItems? (.ref S)>>=_) _ _ _
   refine wpAny_bind (wpAny_seqItems hS rfl ?_)
   show wpAny _ A.in1 (tryCatch (pyNext (.ref I)) _>>=_) _ _ _
   refine wpAny_bind (wpAny_tryCatch (W.item 1 s1 _ _ (by decide) hst λv h' tk hP hst' hk'=>?_))
   have hS':=hk' S _ hSw hS
   rw [e1] at hP
   cases hP
   show wpAny _ A.in1 (tryCatch (holding [v1,v1] (richCompare .Gt v1 v0>>=_)) _>>=_) _ _ _
   refine wpAny_bind (wpAny_tryCatch (wpAny_holding (wpAny_bind (hcmp { s1 with heap:=h',toks:=tk } (λb o hb _ e=>hk' b o hb e) _ _ ?_))))
   refine wpAny_bind (wpAny_holding (wpAny_truthy_bool ?_))
   refine wpAny_bind (wpAny_letGo (wpAny_pure ?_))
   cases r with
   | true =>
    simp only [if_true]
    refine wpAny_bind (wpAny_updateSeq hS' rfl (wpAny_bind (wpAny_letGo ?_)))
    rw [hname']
    refine wpAny_pure ⟨plainId_quiet F.plain_max_loop _,fin _ v1 _ (λh'' tk'' hk''=>?_) (W.frame _ _ _ hst' λb hbf o e=>?_) (Heap.get?_update_self _ hS' rfl)⟩
    ·exact hR _ _ λb o hbw hbS e=>hk'' b o hbw hbS ((Heap.get?_update_other _ _ (Ne.symm hbS)).trans (hk' b o hbw e))
    ·exact (Heap.get?_update_other _ _ (λh:S=b=>hSf (by rw [h];exact hbf))).trans e
   | false =>
    simp only [Bool.false_eq_true,if_false]
    refine wpAny_bind (wpAny_letGo ?_)
    rw [hname']
    exact wpAny_pure ⟨plainId_quiet F.plain_max_loop _,fin _ v0 _ (λh'' tk'' hk''=>hR _ _ λb o hbw hbS e=>hk'' b o hbw hbS (hk' b o hbw e)) hst' hS'⟩
  ·show codeAny (model prog w) A (.builtin "min.loop" _) R s1
   refine codeAny_builtin F.entry_min_loop ?_
   rw [Around.under_plainId F.plain_min_loop _]
   show wpAny _ A.in1 (seqItems? (.ref S)>>=_) _ _ _
   refine wpAny_bind (wpAny_seqItems hS rfl ?_)
   show wpAny _ A.in1 (tryCatch (pyNext (.ref I)) _>>=_) _ _ _
   refine wpAny_bind (wpAny_tryCatch (W.item 1 s1 _ _ (by decide) hst λv h' tk hP hst' hk'=>?_))
   have hS':=hk' S _ hSw hS
   rw [e1] at hP
   cases hP
   show wpAny _ A.in1 (tryCatch (holding [v1,v1] (richCompare .Lt v1 v0>>=_)) _>>=_) _ _ _
   refine wpAny_bind (wpAny_tryCatch (wpAny_holding (wpAny_bind (hcmp { s1 with heap:=h',toks:=tk } (λb o hb _ e=>hk' b o hb e) _ _ ?_))))
   refine wpAny_bind (wpAny_holding (wpAny_truthy_bool ?_))
   refine wpAny_bind (wpAny_letGo (wpAny_pure ?_))
   cases r with
   | true =>
    simp only [if_true]
    refine wpAny_bind (wpAny_updateSeq hS' rfl (wpAny_bind (wpAny_letGo ?_)))
    rw [hname]
    refine wpAny_pure ⟨plainId_quiet F.plain_min_loop _,fin _ v1 _ (λh'' tk'' hk''=>?_) (W.frame _ _ _ hst' λb hbf o e=>?_) (Heap.get?_update_self _ hS' rfl)⟩
    ·exact hR _ _ λb o hbw hbS e=>hk'' b o hbw hbS ((Heap.get?_update_other _ _ (Ne.symm hbS)).trans (hk' b o hbw e))
    ·exact (Heap.get?_update_other _ _ (λh:S=b=>hSf (by rw [h];exact hbf))).trans e
   | false =>
    simp only [Bool.false_eq_true,if_false]
    refine wpAny_bind (wpAny_letGo ?_)
    rw [hname]
    exact wpAny_pure ⟨plainId_quiet F.plain_min_loop _,fin _ v0 _ (λh'' tk'' hk''=>hR _ _ λb o hbw hbS e=>hk'' b o hbw hbS (hk' b o hbw e)) hst' hS'⟩
 have fst:∀ (s1:Shared),s1=s->codeAny (model prog w) A (.builtin (mmId less) ⟨[.ref I,.none,.ref S],[]⟩) R s1:=by
  intro s1 es
  clear fin e1 mm_loop
  subst es
  cases less
  ·show codeAny (model prog w) A (.builtin "max.loop" _) R s1
   refine codeAny_builtin F.entry_max_loop ?_
   rw [Around.under_plainId F.plain_max_loop _]
   show wpAny _ A.in1 (seqItems? (.ref S)>>=_) _ _ _
   refine wpAny_bind (wpAny_seqItems hS rfl ?_)
   show wpAny _ A.in1 (tryCatch (pyNext (.ref I)) _>>=_) _ _ _
   refine wpAny_bind (wpAny_tryCatch (W.item 0 s1 _ _ (by decide) hst λv h' tk hP hst' hk'=>?_))
   have hS':=hk' S _ hSw hS
   rw [e0] at hP
   cases hP
   show wpAny _ A.in1 (updateSeq S (λ_=>#[v0,v0])>>=_) _ _ _
   refine wpAny_bind (wpAny_updateSeq hS' rfl ?_)
   rw [hname']
   refine wpAny_pure ⟨plainId_quiet F.plain_max_loop _,mid _ _ (λh'' tk'' hk''=>?_) (W.frame _ _ _ hst' λb hbf o e=>?_) (λs' hk''=>hcmp s' λb o hbw hbS e=>hk'' b o hbw hbS ((Heap.get?_update_other _ _ (Ne.symm hbS)).trans (hk' b o hbw e))) (Heap.get?_update_self _ hS' rfl)⟩
   ·exact hR _ _ λb o hbw hbS e=>hk'' b o hbw hbS ((Heap.get?_update_other _ _ (Ne.symm hbS)).trans (hk' b o hbw e))
   ·exact (Heap.get?_update_other _ _ (λh:S=b=>hSf (by rw [h];exact hbf))).trans e
  ·show codeAny (model prog w) A (.builtin "min.loop" _) R s1
   refine codeAny_builtin F.entry_min_loop ?_
   rw [Around.under_plainId F.plain_min_loop _]
   show wpAny _ A.in1 (seqItems? (.ref S)>>=_) _ _ _
   refine wpAny_bind (wpAny_seqItems hS rfl ?_)
   show wpAny _ A.in1 (tryCatch (pyNext (.ref I)) _>>=_) _ _ _
   refine wpAny_bind (wpAny_tryCatch (W.item 0 s1 _ _ (by decide) hst λv h' tk hP hst' hk'=>?_))
   have hS':=hk' S _ hSw hS
   rw [e0] at hP
   cases hP
   show wpAny _ A.in1 (updateSeq S (λ_=>#[v0,v0])>>=_) _ _ _
   refine wpAny_bind (wpAny_updateSeq hS' rfl ?_)
   rw [hname]
   refine wpAny_pure ⟨plainId_quiet F.plain_min_loop _,mid _ _ (λh'' tk'' hk''=>?_) (W.frame _ _ _ hst' λb hbf o e=>?_) (λs' hk''=>hcmp s' λb o hbw hbS e=>hk'' b o hbw hbS ((Heap.get?_update_other _ _ (Ne.symm hbS)).trans (hk' b o hbw e))) (Heap.get?_update_self _ hS' rfl)⟩
   ·exact hR _ _ λb o hbw hbS e=>hk'' b o hbw hbS ((Heap.get?_update_other _ _ (Ne.symm hbS)).trans (hk' b o hbw e))
   ·exact (Heap.get?_update_other _ _ (λh:S=b=>hSf (by rw [h];exact hbf))).trans e
 exact fst s rfl
theorem ext_old (I:Inv W){h':Heap}(hx:∀ a o,W.h.get? a=some o->h'.get? a=some o):Le [] W { W with h:=h' }/\Inv { W with h:=h' }:=ext_le I λa o _ e=>hx a o e
noncomputable def mmN (less:Bool):String:=if less then "min" else "max"
theorem minD_inv {less:Bool}{xs:List D}(h:minD less xs=some d):∃ a b q,xs=[.list a,.list b]/\ordR less b a=some q/\d=if q then .list b else .list a:=by
 rcases xs with _ | ⟨x,_ | ⟨y,_ | ⟨z,r⟩⟩⟩
 ·exact ns h
 ·exact ns h
 ·refine xEA (bd_inv h) λa _ h1=>?_
  refine xEA (bd_inv h1) λb _ h2=>?_
  refine xEA (bd_inv h2) λq hq h3=>?_
  obtain ⟨a,rfl⟩:=a
  obtain ⟨b,rfl⟩:=b
  exact ⟨a,b,q,rfl,hq,(sq h3).symm⟩
 ·exact ns h
set_option backward.match.sparseCases true in
theorem mm_at (less:Bool)(hh:A.handled=none)(hu:A.units+1 < cLine){xs:List D}(h:minD less xs=some d)(I:Inv W){v:Value}(r:Rep W (.list xs) v):Gv A (call (.builtin (mmN less)) [v]) W d:=by
 intro s Q E o p
 obtain ⟨a,b,q,rfl,ho,rfl⟩:=minD_inv h
 clear h
 obtain ⟨l,items,rfl,hlp,hl,hz,hr⟩:=r
 clear hz hlp
 obtain ⟨v0,_,ei,r0,v1,_,rfl,r1,rfl⟩:=hr
 have e0:items[0]? = some v0:=by rw [<-Array.getElem?_toList,ei];rfl
 have e1:items[1]? = some v1:=by rw [<-Array.getElem?_toList,ei];rfl
 have hsz:items.size=2:=by rw [<-Array.length_toList,ei];rfl
 clear ei
 obtain ⟨a0,i0,rfl,n0,l0,z0,rr0⟩:=id r0
 clear z0 n0
 obtain ⟨a1,i1,rfl,n1,l1,z1,rr1⟩:=id r1
 have hl':s.heap.IsList l items:=by rw [o.1];exact hl
 have hne:l≠s.heap.objs.size:=λz=>by
  obtain ⟨ol,hol,_⟩:=hl'
  rw [z,fresh_none] at hol;exact ns hol
 have old:∀ b o,W.h.get? b=some o->((s.heap.push { cls:=.type "list_iterator",data:=.fields #[.ref l,.int 0 0] }).push { cls:=.type "list",data:=.seq #[] }).get? b=some o:=λb o' e=>Heap.get?_push_of_some _ (Heap.get?_push_of_some _ (by rw [o.1];exact e))
 have main:codeAny Mo A (.builtin (mmId less) ⟨[.ref s.heap.objs.size,.none,.ref (s.heap.push { cls:=.type "list_iterator",data:=.fields #[.ref l,.int 0 0] }).objs.size],[]⟩) (λr s'=>match r with | .ok (.ret v)=>Q v s' | .ok _=>False | .error e=>E e s')
   { s with heap:=(s.heap.push { cls:=.type "list_iterator",data:=.fields #[.ref l,.int 0 0] }).push { cls:=.type "list",data:=.seq #[] } }:=by
  have hJ:(s.heap.push { cls:=.type "list_iterator",data:=.fields #[.ref l,.int 0 0] }).get? s.heap.objs.size=some { cls:=.type "list_iterator",data:=.fields #[.ref l,.int 0 0] }:=Heap.get?_push_size _ rfl
  have hS:(s.heap.push { cls:=.type "list_iterator",data:=.fields #[.ref l,.int 0 0] }).objs.size=s.heap.objs.size+1:=Heap.size_push ..
  have WK:=Walks.list (prog:=zp) (w:=zw) (A:=A.in1) hh s.heap.objs.size l hne items
  rw [hsz] at WK
  refine mm_loop less WK _ ?_ e0 e1 (r:=q) (c:=0) ?_ ?_ (Heap.get?_push_size _ rfl) ?_
  ·intro hm
   rcases List.mem_cons.mp hm with q | q
   ·rw [hS] at q
    exact absurd q (Nat.succ_ne_self _)
   ·obtain ⟨ol,hol,_⟩:=hl'
    have:=Heap.lt_size hol
    rw [<-List.mem_singleton.mp q,hS] at this
    exact absurd this (Nat.not_lt.mpr (Nat.le_succ _))
  ·exact ⟨⟨_,Heap.get?_push_of_some _ hJ,rfl,rfl⟩,(hl'.push _).push _⟩
  ·intro s' hk Q' E' hq'
   have hk':∀ b o,W.h.get? b=some o->s'.heap.get? b=some o:=λb o' e=>by
    have lt:=Heap.lt_size e
    rw [<-o.1] at lt
    exact hk b o' (λz=>Nat.lt_irrefl _ ((List.mem_singleton.mp z)▸lt)) (λz=>by rw [z,hS] at lt;exact absurd lt (Nat.not_lt.mpr (Nat.le_succ _))) (old b o' e)
   refine ord_lists less rr1 rr0 ho ?_ ?_ hu hq'
   ·exact let ⟨x,hx,r⟩:=l1;⟨x,hk' _ _ hx,r⟩
   ·exact let ⟨x,hx,r⟩:=l0;⟨x,hk' _ _ hx,r⟩
  ·intro h' tk hk
   have hk':∀ b o,W.h.get? b=some o->h'.get? b=some o:=λb o' e=>by
    have lt:=Heap.lt_size e
    rw [<-o.1] at lt
    exact hk b o' (λz=>Nat.lt_irrefl _ ((List.mem_singleton.mp z)▸lt)) (λz=>by rw [z,hS] at lt;exact absurd lt (Nat.not_lt.mpr (Nat.le_succ _))) (old b o' e)
   clear old hS hk l0 l1 hu ho rr0 rr1 hJ e1 e0 WK hsz hne hh hl z1 n1 i1 i0
   obtain ⟨L,I'⟩:=ext_old I hk'
   refine p _ _ _ L I' ⟨rfl,o.2.1,o.2.2⟩ ?_
   clear o I' p hk' tk E Q
   cases q
   ·exact Rep.later I L r0
   ·exact Rep.later I L r1
 have hname:(toString "min" ++ toString ".loop" : String) = "min.loop" := by decide
 have hname':(toString "max" ++ toString ".loop" : String) = "max.loop" := by decide
 clear r1 I r0 o p old l0 l1 hu ho rr0 rr1 e1 e0 hsz hne hh hl z1 n1 i1 a1 i0 a0 a
 cases less
 ·show wpAny _ _ (call (.builtin "max") _) _ _ _
  refine call_function_tree F.kind_max F.plain_max F.entry_max (F.args_max1 _) ?_
  show wpAny _ A.in1 (Builtin.Builtins.bindParams "max" ["key","default"] 0 ⟨[],[]⟩>>=_) _ _ s
  refine wpAny_bind (wpAny_of_eq (show Builtin.Builtins.bindParams "max" ["key","default"] 0 ⟨[],[]⟩=pure [none,none] from rfl) ?_)
  refine wpAny_bind (wpAny_pure ?_)
  refine wpAny_bind (wpAny_pyIter_list hl' ?_)
  refine wpAny_bind (wpAny_newObj_type ?_)
  rw [hname']
  exact wpAny_pure ⟨plainId_quiet F.plain_max_loop _,main⟩
 ·show wpAny _ _ (call (.builtin "min") _) _ _ _
  refine call_function_tree F.kind_min F.plain_min F.entry_min (F.args_min1 _) ?_
  show wpAny _ A.in1 (Builtin.Builtins.bindParams "min" ["key","default"] 0 ⟨[],[]⟩>>=_) _ _ s
  refine wpAny_bind (wpAny_of_eq (show Builtin.Builtins.bindParams "min" ["key","default"] 0 ⟨[],[]⟩=pure [none,none] from rfl) ?_)
  refine wpAny_bind (wpAny_pure ?_)
  refine wpAny_bind (wpAny_pyIter_list hl' ?_)
  refine wpAny_bind (wpAny_newObj_type ?_)
  rw [hname]
  exact wpAny_pure ⟨plainId_quiet F.plain_min_loop _,main⟩
end
end
section
open PySem.Builtin PySem.Builtin.Str PySem.StrLaws PySem.Calls PySem.SeqAt
section
variable {A:Around}{W W':Wd}{d:D}{s:Shared}{E:Value->Shared->Prop}
theorem small_log {i:Int}(h:small i=true):i.natAbs.log2 < 1920:=by
 have:=small_iff h
 have h2:i.natAbs < 2 ^ 41:=by omega
 by_cases z:i.natAbs=0
 ·rw [z];decide
 ·have:=(Nat.log2_lt z).mpr h2
  exact Nat.lt_trans this (by decide)
theorem ints_reads {h:Heap}:∀ {xs:List D} {l:List Int} {vs:List Value},strInts xs=some l->Reps W xs vs->ReadsAll h vs (l.map .int) []:=by
 intro qq
 induction qq with
 | nil =>
  intro l vs e r
  obtain rfl:=sq e
  have e:vs=[]:=r
  rw [e]
  exact .nil
 | cons d xs ih =>
  intro l vs e r
  refine xEA (bd_inv e) λhh0 _ e=>?_
  obtain ⟨i,rfl⟩:=hh0
  refine xEA (Option.map_eq_some_iff.mp e) λl' e2 ee2=>?_
  subst ee2
  obtain ⟨v,vs',rfl,⟨t,rfl⟩,r⟩:=r
  exact .cons (as:=[]) (.int ..) (ih e2 r)
theorem showAll:∀ {l:List Int},l.all small=true->PyData.showableAll (l.map .int)=true:=by
 intro qq
 induction qq with
 | nil =>
  intro _
  simp only [List.map_nil,PyData.showableAll]
 | cons i l ih =>
  intro h
  rw [List.all_cons,Bool.and_eq_true] at h
  simp only [List.map_cons,PyData.showableAll,PyData.showable,ih h.2,Bool.and_true]
  exact decide_eq_true (small_log h.1)
theorem depthInts:∀ (l:List Int),PyData.depthAll (l.map .int)=0:=by
 intro qq
 induction qq with
 | nil =>
  exact rfl
 | cons i l ih =>
  simp only [List.map_cons,PyData.depthAll,PyData.depth,ih,Nat.max_self]
theorem dictInts:∀ (l:List Int),PyData.hasDictAll (l.map .int)=false:=by
 intro qq
 induction qq with
 | nil =>
  simp only [List.map_nil,PyData.hasDictAll]
 | cons i l ih =>
  simp only [List.map_cons,PyData.hasDictAll,PyData.hasDict,ih,Bool.or_self]
set_option tactic.hygienic true in
theorem str_at (hg:A.guards=some [])(hu:A.units+10 < cLine){xs:List D}{t:Tx}(h:repB xs=some t)(I:Inv W){v:Value}(r:Rep W (.list xs) v):Gv A (call (.type "str") [v]) W (.str t):=by
 intro s Q E o p
 unfold repB at h
 split at h
 ·rename_i l e
  split at h
  ·rename_i hc
   cases h
   rw [Bool.and_eq_true] at hc
   obtain ⟨hs,hl⟩:=hc
   have hl:=Nat.le_of_ble_eq_true hl
   obtain ⟨a,items,rfl,_,⟨ob,ho,hcl,n,hd⟩,hz,hr⟩:=r
   have rd:Reads W.h (.ref a) (.list (l.map .int)) [a]:=.list ho hcl hd (ints_reads e hr)
   refine str_of_reads rd (by simp only [PyData.showable];exact showAll hs) (λz=>?_) hg ?_ (λb o' e=>by rw [o.1];exact e) (λh' u tk hk=>?_) ?_
   ·simp only [PyData.hasDict,dictInts] at z
    exact nf z
   ·simp only [PyData.depth,depthInts]
    exact Nat.lt_of_le_of_lt (Nat.add_le_add_left (show 0+1+3<=10 by decide) _) hu
   ·obtain ⟨L,I'⟩:=ext_old (h':=h') I λb o' e=>hk b o' (by rw [o.1];exact e)
    exact p _ _ _ L I' ⟨rfl,o.2.1,o.2.2⟩ ⟨hl,u,by rw [S_tx]⟩
   ·exact Nat.le_trans hl (by decide)
  ·exact ns h
 ·exact ns h
end
end
section
open PySem.Builtin PySem.Builtin.Str PySem.StrLaws PySem.Calls PySem.SeqAt
section
variable {A:Around}{W W':Wd}{d:D}{s:Shared}{E:Value->Shared->Prop}
theorem reps1 {a:D}{vs:List Value}(r:Reps W [a] vs):∃ v,vs=[v]/\Rep W a v:=by
 obtain ⟨v,_,rfl,h,rfl⟩:=r
 exact ⟨v,rfl,h⟩
theorem reps2 {a b:D}{vs:List Value}(r:Reps W [a,b] vs):∃ v u,vs=[v,u]/\Rep W a v/\Rep W b u:=by
 obtain ⟨v,_,rfl,h,u,_,rfl,h',rfl⟩:=r
 exact ⟨v,u,rfl,h,h'⟩
theorem isStr0_ok {a:D}(h:isStr0 a=true):∃ x,a=.str x:=by
 cases a with
 | str x=>exact ⟨x,rfl⟩
 | _=>exact nf h
theorem ty01_ok {a:D}(h:ty01 a=true):a=.tup [.ty 0,.ty 1]:=by
 cases a with
 | tup xs =>
  rcases xs with _ | ⟨a,_ | ⟨b,_ | ⟨c,r⟩⟩⟩
  ·exact nf h
  ·exact nf h
  ·obtain ⟨h1,h2⟩:=(Bool.and_eq_true _ _).mp (show (isTy 0 a&&isTy 1 b)=true from h)
   rw [isTy_ok h1,isTy_ok h2]
  ·exact nf h
 | _=>exact nf h
theorem isList_of {b:Bool}{a:D}(h:mmD b a=some d):∃ xs,a=.list xs:=by
 cases a with
 | list xs=>exact ⟨xs,rfl⟩
 | _=>exact ns h
theorem strD_ok {a:D}(h:strD a=some d):∃ xs,a=.list xs:=by
 cases a with
 | list xs=>exact ⟨xs,rfl⟩
 | _=>exact ns h
theorem rngD_ok {a b:D}(h:rngD a b=some d):∃ x y,a=.int x/\b=.int y:=by
 cases a with
 | int x =>
  cases b with
  | int y=>exact ⟨x,y,rfl,rfl⟩
  | _=>exact ns h
 | _=>exact ns h
theorem lenD_ok {a:D}(h:lenD a=some d):(∃ xs,a=.list xs)\/∃ xs,a=.tup xs:=by
 cases a with
 | list xs=>exact .inl ⟨xs,rfl⟩
 | tup xs=>exact .inr ⟨xs,rfl⟩
 | _=>exact ns h
theorem bi_ok (rm:Rm 0 A){k:Nat}{as:List D}(h:biD k as=some d){vs:List Value}(I:Inv W)(r:Reps W as vs):Gv A (call (.builtin (biN k)) vs) W d:=by
 have hu:A.units+1 < cLine:=by have:=rm.units;exact Nat.lt_of_succ_lt this
 have mm:∀ b,arg1 (mmD b) as=some d->Gv A (call (.builtin (if b then "min" else "max")) vs) W d:=λb h=>by
  refine xEA (arg1_ok h) λa ee1 h=>?_
  subst ee1
  obtain ⟨xs,rfl⟩:=isList_of h
  refine xEA (reps1 r) λv ee1 q=>?_
  subst ee1
  exact mm_at b rm.h hu h I q
 match k,h with
 | 0,h =>
  refine xEA (arg1_ok h) λa ee1 h=>?_
  subst ee1
  refine xEA (reps1 r) λv ee1 q=>?_
  subst ee1
  rcases lenD_ok h with ⟨xs,rfl⟩ | ⟨xs,rfl⟩
  ·exact len_at (x:=.list xs) h I (.inl q)
  ·exact len_at (x:=.tup xs) h I (.inl q)
 | 1,h =>
  refine xEEA (arg2_ok (show arg2 insD as=some d from h)) λa b ee2 h5=>?_
  subst ee2
  refine xEEAA (reps2 r) λv u ee2 q q'=>?_
  subst ee2
  unfold insD at h5
  split at h5
  ·rename_i hc
   cases h5
   rw [Bool.and_eq_true] at hc
   obtain ⟨x,rfl⟩:=isStr0_ok hc.1
   have:=isTy_ok hc.2
   subst this
   have e:u=.type "str" := q'
   subst e
   exact isinst_str I q
  ·split at h5
   ·rename_i hc
    cases h5
    rw [Bool.and_eq_true] at hc
    obtain ⟨x,rfl⟩:=isStr0_ok hc.1
    have:=isTy_ok hc.2
    subst this
    have e:u=.type "bytes" := q'
    subst e
    exact isinst_bytes I q
   ·exact ns h5
 | 2,h =>
  refine xEEA (arg2_ok (show arg2 (λa b=>if isTy 0 a&&ty01 b then some (.bool true) else none) as=some d from h)) λa b ee2 h5=>?_
  subst ee2
  refine xEEAA (reps2 r) λv u ee2 q q'=>?_
  subst ee2
  clear r
  split at h5
  ·rename_i hc
   cases h5
   rw [Bool.and_eq_true] at hc
   have e1:=isTy_ok hc.1
   have e2:=ty01_ok hc.2
   clear hc
   subst e1 e2
   exact issub_at I q q'
  ·exact ns h5
 | 4,h=>exact mm true h
 | 5,h=>exact mm false h
theorem ty_ok (rm:Rm 0 A){k:Nat}{as:List D}(h:tyD k as=some d){vs:List Value}(I:Inv W)(r:Reps W as vs):Gv A (call (.type (tyN k)) vs) W d:=by
 match k,h with
 | 2,h =>
  refine xEA (arg1_ok h) λa ee1 h=>?_
  subst ee1
  refine xEA (reps1 r) λv ee1 q=>?_
  subst ee1
  exact type_at h I q
 | 3,h =>
  refine xEEA (arg2_ok h) λa b ee2 h=>?_
  subst ee2
  refine xEEA (rngD_ok h) λx y ee2 ee3=>?_
  subst ee2
  subst ee3
  refine xEEAA (reps2 r) λv u ee2 q q'=>?_
  subst ee2
  have h':(if small x&&small y then some (D.rng x y) else none)=some d:=h
  split at h'
  ·cases h'
   exact range_at I q q'
  ·exact ns h'
 | 0,h =>
  refine xEA (arg1_ok h) λa ee1 h=>?_
  subst ee1
  obtain ⟨xs,rfl⟩:=strD_ok h
  refine xEA (reps1 r) λv ee1 q=>?_
  subst ee1
  refine xEA (Option.map_eq_some_iff.mp h) λt e ee2=>?_
  subst ee2
  exact str_at rm.g (by have:=rm.u;have e:cLine=9900:=rfl;(rw [e];exact Nat.lt_of_le_of_lt (Nat.le_trans (Nat.add_le_add_left (show 10<=100 * (0+1) by decide) A.units) this) (show 9000 < 9900 by decide))) e I q
end
end
structure Tag {α:Type}(a:α):Type where
noncomputable def rhsOf {α:Type}{a b:α}(_:a=b):α:=b
noncomputable def exG (name:Str)(bases:List Expr)(keywords:List Keyword)(body:List Stmt)(decorators:List Expr)(scope:Scope)(x1:Option Scope)(bind:Str)(statics:List Str)(pos:Pos)(env:Env):Sem Flow:=rhsOf (arm_exec_ClassDef name bases keywords body decorators scope x1 bind statics pos env)
noncomputable def exS:Σ' F:(Nat->Sem Unit)->Str->List Expr->List Keyword->List Stmt->List Expr->Scope->Option Scope->Str->List Str->Pos->Env->Sem Flow,Tag (F @enterFrame):=by
 constructor
 case snd =>
  have t:Tag exG:=⟨⟩
  delta exG at t
  delta rhsOf at t
  delta buildClass at t
  revert t
  generalize @enterFrame=g
  intro t
  apply t
noncomputable def exF (e:Sem Unit):Stmt->Env->Sem Flow
 | .ClassDef name bases keywords body decorators _ scope x1 bind statics pos,env=>exS.1 (λ_=>e) name bases keywords body decorators scope x1 bind statics pos env
 | _,_=>pure .next
section
variable {A:Around}{s:Shared}{E:Value->Shared->Prop}
theorem look_lim:nsLook "sys.recursionlimit" (obj zw.params cStatics)=pure none:=by kernel_rfl
theorem enter_ctx {α:Type}(T:Sem Unit->Sem α){Q:α->Shared->Prop}(h1:∀ k,T (.stack k)=.stack λl=>T (k l))(h2:∀ a p k,T (.load a p k)=.load a p λo=>T (k o))
  (hs:s.heap.get? cStatics=some (obj zw.params cStatics)) (hd:A.depth < recursionLimit) (h:wpAny (model pw zw) A (T (.pure ())) Q E s):wpAny (model pw zw) A (T enterFrame) Q E s:=by
 intro Γ p hΓ
 have hsum:((((Γ.code,p)::Γ.below).map (·.1)).map (·.frames)).sum+((((Γ.code,p)::Γ.below).map (·.1)).filter Code.isCreation).length < recursionLimit:=by
  have hge:=frameCount_ge ((Γ.code,p)::Γ.below)
  rw [frameCount_cons] at hge
  have:=hΓ.2.1
  omega
 have hlt:¬ ((((Γ.code,p)::Γ.below).map (·.1)).map (·.frames)).sum ≥ recursionLimit:=by omega
 have hlt':¬ ((((Γ.code,p)::Γ.below).map (·.1)).map (·.frames)).sum+((((Γ.code,p)::Γ.below).map (·.1)).filter Code.isCreation).length ≥ recursionLimit:=by omega
 have e:(enterFrame:Sem Unit)=.stack (λl=>enterOf l):=rfl
 rw [e,h1]
 show Sem.wp (model pw zw) Γ (T (enterOf ((Γ.code,p)::Γ.below))) _ _ p s
 have e2:enterOf ((Γ.code,p)::Γ.below)=.load cStatics (some (.str "sys.recursionlimit" 0)) λo=>kontOf (enterOf ((Γ.code,p)::Γ.below)) o:=rfl
 rw [e2,h2]
 refine ⟨_,hs,?_⟩
 have e3:kontOf (enterOf ((Γ.code,p)::Γ.below)) (obj zw.params cStatics)=.pure ():=by
  have e4:∀ o,nsLook "sys.recursionlimit" o=pure none->kontOf (enterOf ((Γ.code,p)::Γ.below)) o=.pure ():=by
   intro o ho
   show Sem.bind (Sem.bind (nsLook "sys.recursionlimit" o) _) _=_
   rw [ho]
   show (if nearTheLimitUnderAClaim (((Γ.code,p)::Γ.below).map (·.1)) (((((Γ.code,p)::Γ.below).map (·.1)).map (·.frames)).sum+((((Γ.code,p)::Γ.below).map (·.1)).filter Code.isCreation).length) recursionLimit=true then _ else _)=_
   rw [if_neg (by rw [not_nearTheLimit hΓ hd];exact Bool.false_ne_true)]
   show (if ((((Γ.code,p)::Γ.below).map (·.1)).map (·.frames)).sum ≥ recursionLimit then _ else _)=_
   rw [if_neg hlt]
   show (if ((((Γ.code,p)::Γ.below).map (·.1)).map (·.frames)).sum+((((Γ.code,p)::Γ.below).map (·.1)).filter Code.isCreation).length ≥ recursionLimit then _ else _)=_
   rw [if_neg hlt']
   rfl
  exact e4 _ look_lim
 show Sem.wp (model pw zw) Γ (T (kontOf (enterOf ((Γ.code,p)::Γ.below)) (obj zw.params cStatics))) _ _ p s
 rw [e3]
 exact h Γ p hΓ
end
noncomputable def iaA (j:Nat):Nat:=match j with | 0=>14 | 1=>22 | 2=>30 | 3=>38 | 4=>46 | _=>54
noncomputable def iaB (j:Nat):Nat:=match j with | 0=>5 | 1=>7 | 2=>9 | 3=>11 | 4=>13 | _=>15
structure KX where
 m:Nat
 t:Nat
 l:Nat
 c:Nat
 fv:Value
 k:Nat
 tk:Nat
 cs:Nat->Nat
 f:Nat->Value
 u:Nat->Nat
namespace KX
variable (X:KX)
noncomputable def as1:List Addr:=[X.l+262,X.c+262,3,0,4,165,169,cStatics]
noncomputable def os1:List Obj:=[{ cls:=.type "frame",data:=.dict #[] },{ cls:=.type "cell",data:=.cell (some X.fv) },obj zw.params 3,obj zw.params 0,obj zw.params 4,obj zw.params 165,obj zw.params 169,obj zw.params cStatics]
noncomputable def as2:List Addr:=[X.l+262,X.c+262,3,0,4,165,169,cStatics,X.k+262,X.tk+262]
noncomputable def codeO:Obj:={ cls:=.type "code",data:=.fields #[X.f 0,X.f 1,X.f 2,X.f 3,X.f 4,X.f 5,X.f 6,X.f 7,X.f 8,X.f 9,X.f 10,.ref (X.tk+262),X.f 12,X.f 13,X.f 14,X.f 15,X.f 16,X.f 17,X.f 18] }
noncomputable def tabO:Obj:={ cls:=.none,data:=.fields #[.int 153 (X.u 0),.int 8 (X.u 1),.ref (X.cs 0+262),.int 156 (X.u 2),.int 8 (X.u 3),.ref (X.cs 1+262),.int 159 (X.u 4),.int 8 (X.u 5),.ref (X.cs 2+262),.int 162 (X.u 6),.int 8 (X.u 7),.ref (X.cs 3+262),.int 165 (X.u 8),.int 8 (X.u 9),.ref (X.cs 4+262),.int 168 (X.u 10),.int 8 (X.u 11),.ref (X.cs 5+262)] }
noncomputable def placeO:Obj:={ cls:=.none,data:=.fields #[.int 149 (X.u 12),.int 4 (X.u 13),.ref (X.k+262)] }
noncomputable def os2:List Obj:=[{ cls:=.type "frame",data:=.dict #[] },{ cls:=.type "cell",data:=.cell (some X.fv) },obj zw.params 3,obj zw.params 0,obj zw.params 4,X.placeO,obj zw.params 169,obj zw.params cStatics,X.codeO,X.tabO]
noncomputable def tree (e:Sem Unit):Sem Flow:=exF e stK (eK (X.l+262) (X.c+262))
theorem tree_eq:exec stK (eK (X.l+262) (X.c+262))=X.tree enterFrame:=by kernel_rfl
noncomputable abbrev allO {α:Type}(t:Sem α):Obj:=match t with | .alloc o _=>o | _=>default
noncomputable abbrev allK {α:Type}(a:Addr)(t:Sem α):Sem α:=match t with | .alloc _ k=>k a | t=>t
noncomputable def ans1:List An:=[.old 3,.old 2,.old 3,.new 1,.new 2,.old 6,.old 5,.old 5,.old 5,.old 5,.old 2,.old 4]
noncomputable def ant1 (m t:Nat):List An:=[.new 2,.new 2,.old 2,.new 2,.new 2,.new 2,.new 2,.new 2,.new 2,.new 2,.new 2,.new 2,.new 2,.new 2,.new 2,.new 2,.new 2,.new 2,.new 5,.new 4,.new 4,.new 4,.new 4,.old 2,.old 4,.old 2,.new 2,.new 2,.new 2,.new 5,.new 4,.new 4,.new 4,.new 4,.old 2,.old 4,.old 2,.new 2,.new 2,.new 2,.new 5,.new 4,.new 4,.new 4,.new 4,.old 2,.old 4,.old 2,.new 2,.new 2,.new 2,.new 5,.new 4,.new 4,.new 4,.new 4,.old 2,.old 4,.old 2,.new 2,.new 2,.new 2,.new 5,.new 4,.new 4,.new 4,.new 4,.old 2,.old 4,.old 2,.new 2,.new 2,.new 2,.new 5,.new 4,.new 4,.new 4,.new 4,.old 2,.old 4,.old 2,.new 2,.new 2,.new 2,.new 2,.new 2,.new 2,.new 2,.new 2,.new 2,.into,.use (.ok (.ret (.ref (m+262+56+2)))) (λN=>N++(kpOf m (t+73) (t+0) N 7 55 iaA).news) 4,.new 58,.new 58,.new 58,.old 0,.old 0]
noncomputable def run1 (e:Sem Unit):Option (Out Flow×FS):=go (X.m+262) X.t X.as1 ⟨pw,zw.params⟩ default false (goC (X.m+262) X.t X.as1 ⟨pw,zw.params⟩ default 30) (X.tree e) ⟨[],X.os1,0,ans1,[],[],[],[]⟩
noncomputable def N1:List Obj:=(okS (X.run1 enterFrame)).news
noncomputable def H1 (e:Sem Unit):Sem Flow:=okK (X.run1 e) (obj zw.params 3)
noncomputable def T1 (a:Addr)(e:Sem Unit):Sem Flow:=allK a (X.H1 e)
noncomputable def ren1:Option (Out Flow×FS):=go (X.m+262) X.t X.as1 ⟨pw,zw.params⟩ default false (goC (X.m+262) X.t X.as1 ⟨pw,zw.params⟩ default 200) (X.T1 (X.m+262+(X.N1).length) (.pure ())) ⟨X.N1++[allO (X.H1 enterFrame)],(okS (X.run1 enterFrame)).olds,(okS (X.run1 enterFrame)).tk,ant1 X.m X.t,[],[],[],[]⟩
theorem gr1:((okA (X.run1 enterFrame),(okS (X.run1 enterFrame)).chk.map (·.1),(okS (X.run1 enterFrame)).cho.map (·.1),(okS (X.run1 enterFrame)).obl.length,(okS (X.run1 enterFrame)).olds.drop 2 |>.take 1,(allO (X.H1 enterFrame)).isFreed)=(some 3,(okS (X.run1 enterFrame)).chk.map (·.2),[],0,[obj zw.params 3],false))/\((okS (X.run1 enterFrame)).stk.map (·.1)=[])/\(∀ (e:Sem Unit),X.H1 e=.alloc (allO (X.H1 enterFrame)) λa=>X.T1 a e)/\(∀ (a:Addr) (k),X.T1 a (.stack k)=.stack λl=>X.T1 a (k l))/\(∀ (a:Addr) (b p k),X.T1 a (.load b p k)=.load b p λo=>X.T1 a (k o))/\((okS (X.run1 enterFrame)).olds[2]? = some (obj zw.params 3))/\((okS (X.run1 enterFrame)).olds[7]? = some (obj zw.params cStatics)):=⟨by kernel_rfl,by kernel_rfl,λ_=>by kernel_rfl,λ_ _=>by kernel_rfl,λ_ _ _ _=>by kernel_rfl,by kernel_rfl,by kernel_rfl⟩
theorem c1:(okA (X.run1 enterFrame),(okS (X.run1 enterFrame)).chk.map (·.1),(okS (X.run1 enterFrame)).cho.map (·.1),(okS (X.run1 enterFrame)).obl.length,(okS (X.run1 enterFrame)).olds.drop 2 |>.take 1,(allO (X.H1 enterFrame)).isFreed)=(some 3,(okS (X.run1 enterFrame)).chk.map (·.2),[],0,[obj zw.params 3],false):=X.gr1.1
theorem d1:(okS (X.run1 enterFrame)).stk.map (·.1)=[]:=X.gr1.2.1
theorem h1:∀ (e:Sem Unit),X.H1 e=.alloc (allO (X.H1 enterFrame)) λa=>X.T1 a e:=X.gr1.2.2.1
theorem t1:∀ (a:Addr) (k),X.T1 a (.stack k)=.stack λl=>X.T1 a (k l):=X.gr1.2.2.2.1
theorem u1:∀ (a:Addr) (b p k),X.T1 a (.load b p k)=.load b p λo=>X.T1 a (k o):=X.gr1.2.2.2.2.1
theorem f1:(okS (X.run1 enterFrame)).olds[2]? = some (obj zw.params 3):=X.gr1.2.2.2.2.2.1
theorem g1:(okS (X.run1 enterFrame)).olds[7]? = some (obj zw.params cStatics):=X.gr1.2.2.2.2.2.2
noncomputable def b1:Ob:=(okS (X.ren1)).obl.getD 0 KP.b0
noncomputable def P1:KP:=kpOf X.m (X.t+73) (X.t+0) (X.b1).news 7 55 iaA
noncomputable def ix1:List Nat:=[0,2,7,14,22,30,38,46,54,55]
theorem gs1:((okV (X.ren1),(okS (X.ren1)).chk.map (·.1),(okS (X.ren1)).cho.map (·.1),(okS (X.ren1)).tk,(okS (X.ren1)).news.length,(okS (X.ren1)).obl.length)=(some .next,(okS (X.ren1)).chk.map (·.2),[],78,62,1))/\((okS (X.ren1)).stk.map (·.1)=[])/\(((X.b1).c,(X.b1).r,(X.b1).dtk,(X.b1).tk,(X.b1).news.length,(X.b1).olds.getD 7 default)=(.call (.builtin "type.__new__") (X.P1).args,.ok (.ret (X.P1).cl),4,73,56,obj zw.params cStatics))/\((X.b1).news'=(X.b1).news++(X.P1).news)/\(ix1.map (λi=>(X.b1).news[i]?)=((X.P1).os).dropLast.map some)/\((X.b1).olds[7]? = some (obj zw.params cStatics)):=⟨by kernel_rfl,by kernel_rfl,by kernel_rfl,by kernel_rfl,by kernel_rfl,by kernel_rfl⟩
theorem e1:(okV (X.ren1),(okS (X.ren1)).chk.map (·.1),(okS (X.ren1)).cho.map (·.1),(okS (X.ren1)).tk,(okS (X.ren1)).news.length,(okS (X.ren1)).obl.length)=(some .next,(okS (X.ren1)).chk.map (·.2),[],78,62,1):=X.gs1.1
theorem s1:(okS (X.ren1)).stk.map (·.1)=[]:=X.gs1.2.1
theorem o1:((X.b1).c,(X.b1).r,(X.b1).dtk,(X.b1).tk,(X.b1).news.length,(X.b1).olds.getD 7 default)=(.call (.builtin "type.__new__") (X.P1).args,.ok (.ret (X.P1).cl),4,73,56,obj zw.params cStatics):=X.gs1.2.2.1
theorem p1:(X.b1).news'=(X.b1).news++(X.P1).news:=X.gs1.2.2.2.1
theorem n1:ix1.map (λi=>(X.b1).news[i]?)=((X.P1).os).dropLast.map some:=X.gs1.2.2.2.2.1
theorem k1:(X.b1).olds[7]? = some (obj zw.params cStatics):=X.gs1.2.2.2.2.2
noncomputable def ans2:List An:=[.old 3,.old 2,.old 3,.new 1,.new 2,.old 6,.old 5,.old 2,.old 4]
noncomputable def ant2 (m t:Nat):List An:=[.new 2,.new 2,.old 2,.new 2,.new 2,.new 2,.new 2,.new 2,.new 2,.new 2,.new 2,.new 2,.new 2,.new 2,.new 2,.new 2,.new 2,.new 2,.old 8,.old 9,.old 2,.old 4,.old 2,.new 2,.new 2,.new 2,.old 8,.old 9,.old 2,.old 4,.old 2,.new 2,.new 2,.new 2,.old 8,.old 9,.old 2,.old 4,.old 2,.new 2,.new 2,.new 2,.old 8,.old 9,.old 2,.old 4,.old 2,.new 2,.new 2,.new 2,.old 8,.old 9,.old 2,.old 4,.old 2,.new 2,.new 2,.new 2,.old 8,.old 9,.old 2,.old 4,.old 2,.new 2,.new 2,.new 2,.new 2,.new 2,.new 2,.new 2,.new 2,.new 2,.into,.use (.ok (.ret (.ref (m+262+17+2)))) (λN=>N++(kpOf m (t+20) (t+0) N 4 16 iaB).news) 4,.new 19,.new 19,.new 19,.old 0,.old 0]
noncomputable def run2 (e:Sem Unit):Option (Out Flow×FS):=go (X.m+262) X.t X.as2 ⟨pw,zw.params⟩ default false (goC (X.m+262) X.t X.as2 ⟨pw,zw.params⟩ default 30) (X.tree e) ⟨[],X.os2,0,ans2,[],[],[],[]⟩
noncomputable def N2:List Obj:=(okS (X.run2 enterFrame)).news
noncomputable def H2 (e:Sem Unit):Sem Flow:=okK (X.run2 e) (obj zw.params 3)
noncomputable def T2 (a:Addr)(e:Sem Unit):Sem Flow:=allK a (X.H2 e)
noncomputable def ren2:Option (Out Flow×FS):=go (X.m+262) X.t X.as2 ⟨pw,zw.params⟩ default false (goC (X.m+262) X.t X.as2 ⟨pw,zw.params⟩ default 200) (X.T2 (X.m+262+(X.N2).length) (.pure ())) ⟨X.N2++[allO (X.H2 enterFrame)],(okS (X.run2 enterFrame)).olds,(okS (X.run2 enterFrame)).tk,ant2 X.m X.t,[],[],[],[]⟩
theorem gr2:((okA (X.run2 enterFrame),(okS (X.run2 enterFrame)).chk.map (·.1),(okS (X.run2 enterFrame)).cho.map (·.1),(okS (X.run2 enterFrame)).obl.length,(okS (X.run2 enterFrame)).olds.drop 2 |>.take 1,(allO (X.H2 enterFrame)).isFreed)=(some 3,(okS (X.run2 enterFrame)).chk.map (·.2),[],0,[obj zw.params 3],false))/\((okS (X.run2 enterFrame)).stk.map (·.1)=[])/\(∀ (e:Sem Unit),X.H2 e=.alloc (allO (X.H2 enterFrame)) λa=>X.T2 a e)/\(∀ (a:Addr) (k),X.T2 a (.stack k)=.stack λl=>X.T2 a (k l))/\(∀ (a:Addr) (b p k),X.T2 a (.load b p k)=.load b p λo=>X.T2 a (k o))/\((okS (X.run2 enterFrame)).olds[2]? = some (obj zw.params 3))/\((okS (X.run2 enterFrame)).olds[7]? = some (obj zw.params cStatics)):=⟨by kernel_rfl,by kernel_rfl,λ_=>by kernel_rfl,λ_ _=>by kernel_rfl,λ_ _ _ _=>by kernel_rfl,by kernel_rfl,by kernel_rfl⟩
theorem c2:(okA (X.run2 enterFrame),(okS (X.run2 enterFrame)).chk.map (·.1),(okS (X.run2 enterFrame)).cho.map (·.1),(okS (X.run2 enterFrame)).obl.length,(okS (X.run2 enterFrame)).olds.drop 2 |>.take 1,(allO (X.H2 enterFrame)).isFreed)=(some 3,(okS (X.run2 enterFrame)).chk.map (·.2),[],0,[obj zw.params 3],false):=X.gr2.1
theorem d2:(okS (X.run2 enterFrame)).stk.map (·.1)=[]:=X.gr2.2.1
theorem h2:∀ (e:Sem Unit),X.H2 e=.alloc (allO (X.H2 enterFrame)) λa=>X.T2 a e:=X.gr2.2.2.1
theorem t2:∀ (a:Addr) (k),X.T2 a (.stack k)=.stack λl=>X.T2 a (k l):=X.gr2.2.2.2.1
theorem u2:∀ (a:Addr) (b p k),X.T2 a (.load b p k)=.load b p λo=>X.T2 a (k o):=X.gr2.2.2.2.2.1
theorem f2:(okS (X.run2 enterFrame)).olds[2]? = some (obj zw.params 3):=X.gr2.2.2.2.2.2.1
theorem g2:(okS (X.run2 enterFrame)).olds[7]? = some (obj zw.params cStatics):=X.gr2.2.2.2.2.2.2
noncomputable def b2:Ob:=(okS (X.ren2)).obl.getD 0 KP.b0
noncomputable def P2:KP:=kpOf X.m (X.t+20) (X.t+0) (X.b2).news 4 16 iaB
noncomputable def ix2:List Nat:=[0,2,4,5,7,9,11,13,15,16]
theorem gs2:((okV (X.ren2),(okS (X.ren2)).chk.map (·.1),(okS (X.ren2)).cho.map (·.1),(okS (X.ren2)).tk,(okS (X.ren2)).news.length,(okS (X.ren2)).obl.length)=(some .next,(okS (X.ren2)).chk.map (·.2),[],25,23,1))/\((okS (X.ren2)).stk.map (·.1)=[])/\(((X.b2).c,(X.b2).r,(X.b2).dtk,(X.b2).tk,(X.b2).news.length,(X.b2).olds.getD 7 default)=(.call (.builtin "type.__new__") (X.P2).args,.ok (.ret (X.P2).cl),4,20,17,obj zw.params cStatics))/\((X.b2).news'=(X.b2).news++(X.P2).news)/\(ix2.map (λi=>(X.b2).news[i]?)=((X.P2).os).dropLast.map some)/\((X.b2).olds[7]? = some (obj zw.params cStatics)):=⟨by kernel_rfl,by kernel_rfl,by kernel_rfl,by kernel_rfl,by kernel_rfl,by kernel_rfl⟩
theorem e2:(okV (X.ren2),(okS (X.ren2)).chk.map (·.1),(okS (X.ren2)).cho.map (·.1),(okS (X.ren2)).tk,(okS (X.ren2)).news.length,(okS (X.ren2)).obl.length)=(some .next,(okS (X.ren2)).chk.map (·.2),[],25,23,1):=X.gs2.1
theorem s2:(okS (X.ren2)).stk.map (·.1)=[]:=X.gs2.2.1
theorem o2:((X.b2).c,(X.b2).r,(X.b2).dtk,(X.b2).tk,(X.b2).news.length,(X.b2).olds.getD 7 default)=(.call (.builtin "type.__new__") (X.P2).args,.ok (.ret (X.P2).cl),4,20,17,obj zw.params cStatics):=X.gs2.2.2.1
theorem p2:(X.b2).news'=(X.b2).news++(X.P2).news:=X.gs2.2.2.2.1
theorem n2:ix2.map (λi=>(X.b2).news[i]?)=((X.P2).os).dropLast.map some:=X.gs2.2.2.2.2.1
theorem k2:(X.b2).olds[7]? = some (obj zw.params cStatics):=X.gs2.2.2.2.2.2
end KX
section
set_option maxHeartbeats 1000000
namespace KX
variable (X:KX){s:Shared}{A:Around}{E:Value->Shared->Prop}
open KP (pair)
theorem mem1 {α:Type _}{l:List α}{b d:α}(h:l.length=1)(hb:b∈l):b=l.getD 0 d:=by
 match l,h with
 | [x],_=>exact List.mem_singleton.mp hb
theorem all_of {h:Heap}{n0:Nat}:∀ {as:List Addr} {os:List Obj} {ix:List Nat},as=ix.map (λi=>n0+i)->ix.map (λi=>h.get? (n0+i))=os.map some->AllAt h as os
 | [],[],[],_,_=>trivial
 | _,o::os,i::ix,e,e2=>by
  cases e
  simp only [List.map_cons,List.cons.injEq] at e2
  exact ⟨e2.1,all_of rfl e2.2⟩
 | _,[],i::ix,_,e2=>by simp at e2
 | _,o::os,[],_,e2=>by simp at e2
theorem AllAt.snoc {h:Heap}{a:Addr}{o:Obj}:∀ {as:List Addr} {os:List Obj},AllAt h as os->h.get? a=some o->AllAt h (as++[a]) (os++[o])
 | [],[],_,e=>⟨e,trivial⟩
 | _::_,_::_,x,e=>⟨x.1,AllAt.snoc x.2 e⟩
 | [],_::_,x,_=>x.elim
 | _::_,[],x,_=>x.elim
theorem nodup_of {n0:Nat}{ix:List Nat}(h:ix.Nodup)(h2:2 < n0):(ix.map (λi=>n0+i)++[cStatics]).Nodup:=by
 refine List.nodup_append.mpr ⟨?_,by simp,λa ha b hb=>?_⟩
 ·exact List.Pairwise.map _ (λa b hab=>by intro q;exact hab (Nat.add_left_cancel q)) h
 ·obtain ⟨i,_,rfl⟩:=List.mem_map.mp ha
  rw [List.mem_singleton] at hb
  subst hb
  show n0+i≠2
  omega
theorem tn_ob {m t l:Nat}{as:List Addr}{b:Ob}{P:KP}{ix:List Nat}(hix:ix.Nodup)(hj:∃ j:Nat,as[j]? = some cStatics/\b.olds[j]? = some (obj zw.params cStatics))
  (e1:b.c=.call (.builtin "type.__new__") P.args) (e2:b.r=.ok (.ret P.cl)) (e3:b.dtk=4) (e5:b.news.length=l) (e7:b.news'=b.news++P.news)
  (e8:ix.map (λi=>b.news[i]?)=(P.os).dropLast.map some) (e9:P.as=ix.map (λi=>m+262+i)++[cStatics]) (e10:P.m+262=m+262+l) (e11:P.t=t+b.tk) (e12:P.os=(P.os).dropLast++[obj zw.params cStatics]):ObOk (m+262) t as s.heap s b:=by
 intro A s' R'
 have ho:AllAt s'.heap P.as (P.os):=by
  rw [e9,e12]
  obtain ⟨j,hj1,hj2⟩:=hj
  refine AllAt.snoc (all_of rfl ?_) (R'.old j _ _ hj1 hj2)
  have key:∀ (ix:List Nat) (os:List Obj),ix.map (λi=>b.news[i]?)=os.map some->ix.map (λi=>s'.heap.get? (m+262+i))=os.map some:=by
   intro ix
   induction ix with
   | nil=>intro os h;exact h
   | cons i ix ih =>
    intro os h
    cases os with
    | nil=>simp at h
    | cons o os =>
     simp only [List.map_cons,List.cons.injEq] at h ⊢
     exact ⟨R'.new i o h.1,ih os h.2⟩
  exact key _ _ e8
 rw [e1]
 refine P.tn_new ho ?_ ?_ ?_ λs2 ad=>⟨e2.symm,?_⟩
 ·rw [e9];exact nodup_of hix (by omega)
 ·rw [R'.size,e10]
  show m+262+b.news.length=_
  rw [e5]
 ·rw [R'.tk,e11]
 ·rw [e7,e3]
  exact Rel.adds (N:=b.news) R' ad
theorem push_adds {o:Obj}(h:o.isFreed=false):Adds [o] 0 s { s with heap:=s.heap.push o } :=
 ⟨λ_ _ e=>Heap.get?_push_of_some _ e,Heap.size_push ..,λi o' hi=>by
  match i,hi with
  | 0,hi=>cases hi;exact Heap.get?_push_size _ h
  | i+1,hi=>simp at hi,rfl,rfl,rfl,rfl⟩
theorem q1:(X.P1).as=ix1.map (λi=>X.m+262+i)++[cStatics]:=by kernel_rfl
theorem r1:(X.P1).os=((X.P1).os).dropLast++[obj zw.params cStatics]:=by kernel_rfl
theorem v1 (h:(X.b1).news.length=56):(X.P1).m+262=X.m+262+56:=by
 have e:(X.P1).m=X.m+(X.b1).news.length:=by kernel_rfl
 rw [e,h]
theorem w1 (h:(X.b1).tk=73):(X.P1).t=X.t+(X.b1).tk:=by
 have e:(X.P1).t=X.t+73:=by kernel_rfl
 rw [e,h]
theorem q2:(X.P2).as=ix2.map (λi=>X.m+262+i)++[cStatics]:=by kernel_rfl
theorem r2:(X.P2).os=((X.P2).os).dropLast++[obj zw.params cStatics]:=by kernel_rfl
theorem v2 (h:(X.b2).news.length=17):(X.P2).m+262=X.m+262+17:=by
 have e:(X.P2).m=X.m+(X.b2).news.length:=by kernel_rfl
 rw [e,h]
theorem w2 (h:(X.b2).tk=20):(X.P2).t=X.t+(X.b2).tk:=by
 have e:(X.P2).t=X.t+20:=by kernel_rfl
 rw [e,h]
noncomputable def sta1:FS:=⟨X.N1++[allO (X.H1 enterFrame)],(okS (X.run1 enterFrame)).olds,(okS (X.run1 enterFrame)).tk,ant1 X.m X.t,[],[],[],[]⟩
theorem ren1_eq:X.ren1=go (X.m+262) X.t X.as1 ⟨pw,zw.params⟩ default false (goC (X.m+262) X.t X.as1 ⟨pw,zw.params⟩ default 200) (X.T1 (X.m+262+(X.N1).length) (.pure ())) (X.sta1):=rfl
noncomputable def sta2:FS:=⟨X.N2++[allO (X.H2 enterFrame)],(okS (X.run2 enterFrame)).olds,(okS (X.run2 enterFrame)).tk,ant2 X.m X.t,[],[],[],[]⟩
theorem ren2_eq:X.ren2=go (X.m+262) X.t X.as2 ⟨pw,zw.params⟩ default false (goC (X.m+262) X.t X.as2 ⟨pw,zw.params⟩ default 200) (X.T2 (X.m+262+(X.N2).length) (.pure ())) (X.sta2):=rfl
theorem exec1 {Q:Flow->Shared->Prop}(ho:AllAt s.heap X.as1 (X.os1))(hd:X.as1.Nodup)(hm:s.heap.objs.size=X.m+262)(ht:s.toks=X.t)(hdp:A.depth < recursionLimit)
  (q:∀ s',Rel (X.m+262) X.t X.as1 s.heap s (okS (X.ren1)) s'->Q .next s'):wpAny (model pw zw) A (exec stK (eK (X.l+262) (X.c+262))) Q E s:=by
 have hl:∀ a∈X.as1,a < X.m+262:=λa h=>hm▸ho.lt a h
 have R0:=rel_start ho ans1
 rw [hm,ht] at R0
 rw [X.tree_eq]
 obtain ⟨a1,z⟩:=pair (X.c1)
 obtain ⟨a2,z⟩:=pair z
 obtain ⟨a3,z⟩:=pair z
 obtain ⟨a4,z⟩:=pair z
 obtain ⟨a5,a6⟩:=pair z
 refine go_cut 30 _ hm hd hl R0 (X.run1 enterFrame) rfl a1 a2 a3 (X.d1) (λb hb=>by rw [List.length_eq_zero_iff.mp a4] at hb;cases hb) λs1 R1=>?_
 have g3:s1.heap.get? 3=some (obj zw.params 3):=R1.old 2 _ _ rfl (X.f1)
 have gs:s1.heap.get? cStatics=some (obj zw.params cStatics):=R1.old 7 _ _ rfl (X.g1)
 refine ⟨_,g3,?_⟩
 show wpAny _ _ (X.H1 enterFrame) _ _ _
 rw [X.h1 enterFrame]
 intro Γ p hΓ
 show Sem.wp _ Γ (X.T1 s1.heap.objs.size enterFrame) _ _ p { s1 with heap:=s1.heap.push (allO (X.H1 enterFrame)) }
 refine (?_:wpAny (model pw zw) A (X.T1 s1.heap.objs.size enterFrame) Q E { s1 with heap:=s1.heap.push (allO (X.H1 enterFrame)) }) Γ p hΓ
 have R2:Rel (X.m+262) X.t X.as1 s.heap s (fs (X.N1++[allO (X.H1 enterFrame)]) (okS (X.run1 enterFrame)).olds ((okS (X.run1 enterFrame)).tk+0)) { s1 with heap:=s1.heap.push (allO (X.H1 enterFrame)) } :=
  (R1.to (N:=X.N1) ⟨rfl,rfl,rfl⟩).adds (push_adds a6)
 refine enter_ctx (X.T1 s1.heap.objs.size) (X.t1 _) (X.u1 _) (Heap.get?_push_of_some _ gs) hdp ?_
 rw [show s1.heap.objs.size=X.m+262+(X.N1).length from R1.size]
 obtain ⟨b1,z⟩:=pair (X.e1)
 obtain ⟨b2,z⟩:=pair z
 obtain ⟨b3,z⟩:=pair z
 obtain ⟨b4,z⟩:=pair z
 obtain ⟨b5,b6⟩:=pair z
 have R3:Rel (X.m+262) X.t X.as1 s.heap s (X.sta1) { s1 with heap:=s1.heap.push (allO (X.H1 enterFrame)) }:=⟨R2.size,R2.new,R2.old,R2.keep,R2.tk,R2.rest⟩
 refine go_big (tp:=false) (oc:=default) (st0:=X.sta1) 200 .next (λe=>nomatch e) (λe=>nomatch e) hm hd hl R3 (X.ren1) (X.ren1_eq) b1 b2 (by rw [b3,List.map_eq_nil_iff.mp b3];rfl) (by rw [X.s1,List.map_eq_nil_iff.mp (X.s1)];rfl) (λb hb=>?_) q
 have hb':b=X.b1:=mem1 b6 hb
 subst hb'
 obtain ⟨c1,z⟩:=pair (X.o1)
 obtain ⟨c2,z⟩:=pair z
 obtain ⟨c3,z⟩:=pair z
 obtain ⟨c4,z⟩:=pair z
 obtain ⟨c5,c6⟩:=pair z
 exact tn_ob (P:=X.P1) (ix:=ix1) (l:=56) (by decide) ⟨7,rfl,X.k1⟩ c1 c2 c3 c5 (X.p1) (X.n1) (X.q1) (X.v1 c5) (X.w1 c4) (X.r1)
theorem exec2 {Q:Flow->Shared->Prop}(ho:AllAt s.heap X.as2 (X.os2))(hd:X.as2.Nodup)(hm:s.heap.objs.size=X.m+262)(ht:s.toks=X.t)(hdp:A.depth < recursionLimit)
  (q:∀ s',Rel (X.m+262) X.t X.as2 s.heap s (okS (X.ren2)) s'->Q .next s'):wpAny (model pw zw) A (exec stK (eK (X.l+262) (X.c+262))) Q E s:=by
 have hl:∀ a∈X.as2,a < X.m+262:=λa h=>hm▸ho.lt a h
 have R0:=rel_start ho ans2
 rw [hm,ht] at R0
 rw [X.tree_eq]
 obtain ⟨a1,z⟩:=pair (X.c2)
 obtain ⟨a2,z⟩:=pair z
 obtain ⟨a3,z⟩:=pair z
 obtain ⟨a4,z⟩:=pair z
 obtain ⟨a5,a6⟩:=pair z
 refine go_cut 30 _ hm hd hl R0 (X.run2 enterFrame) rfl a1 a2 a3 (X.d2) (λb hb=>by rw [List.length_eq_zero_iff.mp a4] at hb;cases hb) λs1 R1=>?_
 have g3:s1.heap.get? 3=some (obj zw.params 3):=R1.old 2 _ _ rfl (X.f2)
 have gs:s1.heap.get? cStatics=some (obj zw.params cStatics):=R1.old 7 _ _ rfl (X.g2)
 refine ⟨_,g3,?_⟩
 show wpAny _ _ (X.H2 enterFrame) _ _ _
 rw [X.h2 enterFrame]
 intro Γ p hΓ
 show Sem.wp _ Γ (X.T2 s1.heap.objs.size enterFrame) _ _ p { s1 with heap:=s1.heap.push (allO (X.H2 enterFrame)) }
 refine (?_:wpAny (model pw zw) A (X.T2 s1.heap.objs.size enterFrame) Q E { s1 with heap:=s1.heap.push (allO (X.H2 enterFrame)) }) Γ p hΓ
 have R2:Rel (X.m+262) X.t X.as2 s.heap s (fs (X.N2++[allO (X.H2 enterFrame)]) (okS (X.run2 enterFrame)).olds ((okS (X.run2 enterFrame)).tk+0)) { s1 with heap:=s1.heap.push (allO (X.H2 enterFrame)) } :=
  (R1.to (N:=X.N2) ⟨rfl,rfl,rfl⟩).adds (push_adds a6)
 refine enter_ctx (X.T2 s1.heap.objs.size) (X.t2 _) (X.u2 _) (Heap.get?_push_of_some _ gs) hdp ?_
 rw [show s1.heap.objs.size=X.m+262+(X.N2).length from R1.size]
 obtain ⟨b1,z⟩:=pair (X.e2)
 obtain ⟨b2,z⟩:=pair z
 obtain ⟨b3,z⟩:=pair z
 obtain ⟨b4,z⟩:=pair z
 obtain ⟨b5,b6⟩:=pair z
 have R3:Rel (X.m+262) X.t X.as2 s.heap s (X.sta2) { s1 with heap:=s1.heap.push (allO (X.H2 enterFrame)) }:=⟨R2.size,R2.new,R2.old,R2.keep,R2.tk,R2.rest⟩
 refine go_big (tp:=false) (oc:=default) (st0:=X.sta2) 200 .next (λe=>nomatch e) (λe=>nomatch e) hm hd hl R3 (X.ren2) (X.ren2_eq) b1 b2 (by rw [b3,List.map_eq_nil_iff.mp b3];rfl) (by rw [X.s2,List.map_eq_nil_iff.mp (X.s2)];rfl) (λb hb=>?_) q
 have hb':b=X.b2:=mem1 b6 hb
 subst hb'
 obtain ⟨c1,z⟩:=pair (X.o2)
 obtain ⟨c2,z⟩:=pair z
 obtain ⟨c3,z⟩:=pair z
 obtain ⟨c4,z⟩:=pair z
 obtain ⟨c5,c6⟩:=pair z
 exact tn_ob (P:=X.P2) (ix:=ix2) (l:=17) (by decide) ⟨7,rfl,X.k2⟩ c1 c2 c3 c5 (X.p2) (X.n2) (X.q2) (X.v2 c5) (X.w2 c4) (X.r2)
end KX
end
section
open PySem.Calls
section
variable {A:Around}{W W':Wd}{s:Shared}{E:Value->Shared->Prop}{R:Result->Shared->Prop}
theorem St.later {a:Addr}{o:Obj}(x:St W a o)(L:Le [] W W'):St W' a o :=
 ⟨L.keep a o x.get x.tab (λh=>nomatch h) x.ig,λh=>x.pv (L.pv a o x.get (λh=>nomatch h) h),x.tab,L.igNew a o x.get (λh=>nomatch h) x.ig⟩
theorem St.new (I:Inv W){h':Heap}{a:Addr}{o:Obj}(e:h'.get? a=some o)(hn:W.h.objs.size<=a):St { W with h:=h' } a o:=by
 have no:∀ o',W.h.get? a≠some o':=λo' e'=>absurd (Heap.lt_size e') (Nat.not_lt.mpr hn)
 refine ⟨e,λh=>?_,λh=>?_,?_⟩
 ·obtain ⟨o',e'⟩:=I.pvAl a h;exact no _ e'
 ·obtain ⟨vs,e',_⟩:=I.tab a h;exact no _ e'
 ·show W.ig.lookup a=none
  cases q:W.ig.lookup a with
  | none=>rfl
  | some ds=>obtain ⟨o',e',_⟩:=(I.ig _ _ q).obj;exact absurd e' (no _)
structure KAt (W:Wd)(q:KQ)(f:D):Prop where
 k:St W (q.k+262) q.kO
 ns:St W (q.ns+262) q.nsO
 md:St W (q.md+262) q.mdO
 f0:St W (q.f0+262) q.f0O
 f1:St W (q.f1+262) q.f1O
 ce:St W (q.ce+262) q.ceO
 c0:∃ oc vs t,St W (q.c0+262) oc/\oc.data=.fields vs/\vs[1]? = some (.str q.fdI.qualname t)
 c1:∃ oc vs t,St W (q.c1+262) oc/\oc.data=.fields vs/\vs[1]? = some (.str q.fdL.qualname t)
 nd:[q.k,q.ns,q.md,q.f0,q.f1,q.ce].Nodup
 fn:Rep W f q.fv
theorem KAt.later {q:KQ}{f:D}(I:Inv W)(x:KAt W q f)(L:Le [] W W'):KAt W' q f :=
 ⟨x.k.later L,x.ns.later L,x.md.later L,x.f0.later L,x.f1.later L,x.ce.later L,let ⟨a,b,c,d,e⟩:=x.c0;⟨a,b,c,d.later L,e⟩,let ⟨a,b,c,d,e⟩:=x.c1;⟨a,b,c,d.later L,e⟩,x.nd,x.fn.later I L⟩
theorem lim_at (hlim:zh.NoLimit)(I:Inv W):W.h.NoLimit:=by
 obtain ⟨mc,⟨ob,es,ep,g,r⟩,hm⟩:=hlim
 exact ⟨mc,⟨ob,es,ep,I.at g (by decide),r⟩,hm⟩
theorem big_at (h261:∃ o,zh.get? 261=some o)(I:Inv W):∃ m,W.h.objs.size=m+262:=by
 obtain ⟨o,e⟩:=h261
 obtain ⟨o',e'⟩:=I.base.alive 261 o e (λh=>nomatch h)
 have:261 < W.h.objs.size:=Heap.lt_size e'
 exact ⟨W.h.objs.size - 262,by exact (Nat.sub_add_cancel this).symm⟩
theorem adds_W {N:List Obj}{k:Nat}{s':Shared}(I:Inv W)(o:Ok W s)(a:Adds N k s s'):Le [] W { W with h:=s'.heap }/\Inv { W with h:=s'.heap }/\Ok { W with h:=s'.heap } s':=by
 obtain ⟨L,I'⟩:=ext_old (h':=s'.heap) I λa' o' e=>a.keep a' o' (by rw [o.1];exact e)
 exact ⟨L,I',rfl,a.rest.1.trans o.2.1,a.rest.2.1.trans o.2.2⟩
section
variable (hk:∀ a o,(H1 zw.params).get? a=some o->zh.get? a=some o)
include hk
theorem stat_at (I:Inv W):W.h.get? cStatics=some (obj zw.params cStatics):=I.at (hk _ _ (by rfl)) (by decide)
theorem KAt.all {q:KQ}{f:D}(I:Inv W)(x:KAt W q f):AllAt W.h q.as (q.os):=⟨x.k.get,x.ns.get,x.md.get,x.f0.get,x.f1.get,x.ce.get,stat_at hk I,trivial⟩
theorem inst_W (h261:∃ o,zh.get? 261=some o)(hlim:zh.NoLimit){q:KQ}{f:D}(I:Inv W)(K:KAt W q f)(hdep:A.depth+1 < recursionLimit){y:Str}{ty:Nat}{Q:Value->Shared->Prop}(o:Ok W s)
  (r:∀ i dx W' s',Le [] W W'->Inv W'->Ok W' s'->St W' (i+262) (q.inO dx #[some (.str y ty)])->Q (.ref (i+262)) s'):wpAny (model pw zw) A (call (.ref (q.k+262)) [.str y ty]) Q E s:=by
 clear inst_W
 obtain ⟨m,hm⟩:=big_at h261 I
 have hs:s.heap=W.h:=o.1
 have ha:=KAt.all hk I K
 refine wpAny_call (q.make_at m s.toks y ty (by rw [hs];exact ha) (q.nd_of K.nd) (by rw [hs];exact hm) rfl (by rw [hs];exact lim_at hlim I) hdep ?_ λs' ad=>?_)
 ·obtain ⟨oc,vs,t,x,e1,e2⟩:=K.c0
  exact ⟨q.c0+262,oc,vs,t,rfl,by rw [hs];exact x.get,e1,e2⟩
 ·clear K hdep hlim ha hk h261 A f
  refine xAA (adds_W I o ad) λL I' o'=>?_
  have e:=congrArg (λz=>z.2.2.2.2.2.2.2) (q.rE1 m s.toks y ty)
  have g:=ad.new 1 _ e
  rw [hs,hm] at g
  have:=r (m+1) (m+262) { W with h:=s'.heap } s' L I' o' (St.new I (by rw [show m+1+262=m+262+1 from by exact Nat.add_right_comm _ _ _];exact g) (by rw [hm];exact Nat.add_le_add_right (Nat.le_succ _) 262))
  rw [show m+1+262=m+262+1 from by exact Nat.add_right_comm _ _ _] at this
  exact this
end
end
end
section
open PySem.Calls
structure RdX (W:Wd)(g:Addr)(ds c:List Tx)(x d ms a:Addr):Prop where
 x:x∉W.pv/\W.h.get? x=some (igX d)
 d:d∉W.pv/\W.ig.lookup d=none/\∃ t1 t2 t3 n,W.h.get? d=some (igD t1 t2 t3 ms a g n)
 ms:ms∉W.pv/\∃ b,W.h.get? ms=some (igS b)
 a:a∉W.pv/\∃ items,W.h.IsList a items/\items.size<=lim/\Txs ds items.toList
 g:g∉W.pv/\W.ig.lookup g=some ds/\IgAt W.h g ds c
theorem RdAt.parts {W:Wd}{g:Addr}{ds c:List Tx}{v:Value}(h:RdAt W g ds c v):∃ x d ms a,v=.ref x/\RdX W g ds c x d ms a:=by
 obtain ⟨x,d,ms,a,n,t1,t2,t3,b,items,rfl,hx,ho,hd,hdi,hgd,hms,hos,ha,hl,hz,ht,hg,hgi,hig⟩:=h
 exact ⟨x,d,ms,a,rfl,⟨hx,ho⟩,⟨hd,hdi,t1,t2,t3,n,hgd⟩,⟨hms,b,hos⟩,⟨ha,items,hl,hz,ht⟩,⟨hg,hgi,hig⟩⟩
theorem RdX.at {W:Wd}{g:Addr}{ds c:List Tx}{x d ms a:Addr}(h:RdX W g ds c x d ms a):RdAt W g ds c (.ref x):=by
 obtain ⟨⟨hx,ho⟩,⟨hd,hdi,t1,t2,t3,n,hgd⟩,⟨hms,b,hos⟩,⟨ha,items,hl,hz,ht⟩,⟨hg,hgi,hig⟩⟩:=h
 exact ⟨x,d,ms,a,n,t1,t2,t3,b,items,rfl,hx,ho,hd,hdi,hgd,hms,hos,ha,hl,hz,ht,hg,hgi,hig⟩
section
variable {A:Around}{W W':Wd}{s:Shared}{E:Value->Shared->Prop}{g x d ms a:Addr}{ds c:List Tx}
theorem cls159 (P:Params):(obj P 159).cls=.type "type" := by kernel_rfl
theorem cls158 (P:Params):(obj P 158).cls=.type "dict" := by kernel_rfl
theorem cls156 (P:Params):(obj P 156).cls=.type "function" := by kernel_rfl
variable (hk:∀ a o,(H1 zw.params).get? a=some o->zh.get? a=some o)
include hk
theorem rdx_all (I:Inv W)(r:RdX W g ds c x d ms a):∃ t1 t2 t3 n,AllAt W.h (asG x d) (osG d ms a g t1 t2 t3 n):=by
 obtain ⟨_,_,t1,t2,t3,n,hgd⟩:=r.d
 exact ⟨t1,t2,t3,n,r.x.2,hgd,I.at (hk 159 _ (by rfl)) (by decide),I.at (hk 158 _ (by rfl)) (by decide),I.at (hk 156 _ (by rfl)) (by decide),trivial⟩
omit hk in
theorem dsz158 (P:Params):(match (obj P 158).data with | .dict es _=>Nat.beq es.size 3 | _=>false)=false:=by kernel_rfl
theorem rdx_nodup (I:Inv W)(r:RdX W g ds c x d ms a):(asG x d).Nodup:=by
 obtain ⟨t1,t2,t3,n,h1,h2,h3,h4,h5,_⟩:=rdx_all hk I r
 have ne:∀ {a b:Addr} {o o':Obj},W.h.get? a=some o->W.h.get? b=some o'->o.cls≠o'.cls->a≠b:=λ{a b o o'} e e' hn q=>hn (by
  subst q
  rw [e] at e'
  obtain rfl:=sq e'
  rfl)
 have n58:d≠158:=λq=>by
  rw [q,h4] at h2
  have:=dsz158 zw.params
  rw [Option.some.inj h2] at this
  cases this
 have c1:=cls159 zw.params
 have c2:=cls158 zw.params
 have c3:=cls156 zw.params
 simp only [asG,List.nodup_cons,List.mem_cons,List.not_mem_nil,or_false,not_or,not_false_eq_true,List.nodup_nil,and_true]
 refine ⟨⟨ne h1 h2 (by nofun),ne h1 h3 (by rw [c1];nofun),ne h1 h4 (by rw [c2];nofun),ne h1 h5 (by rw [c3];nofun)⟩,⟨ne h2 h3 (by rw [c1];show Value.type "dict" ≠ Value.type "type";decide),n58,ne h2 h5 (by rw [c3];show Value.type "dict" ≠ Value.type "function";decide)⟩,by decide,by decide⟩
theorem rdx_run {α:Type}{t:Sem α}{an:List An}{r:α}{k:Nat}{Q:α->Shared->Prop}(I:Inv W)(o:Ok W s)(X:RdX W g ds c x d ms a)
  (h:∀ n0 t0 t1 t2 t3 n,RunOk (runN n0 t0 (asG x d) [] (osG d ms a g t1 t2 t3 n) 0 an 30 t) r [] (osG d ms a g t1 t2 t3 n) k)
  (q:∀ W' s',Le [] W W'->Inv W'->Ok W' s'->Q r s'):wpAny (model pw zw) A t Q E s:=by
 obtain ⟨t1,t2,t3,n,ha⟩:=rdx_all hk I X
 have nd:=rdx_nodup hk I X
 rw [<-o.1] at ha
 refine go_run (s0:=s) an 30 r [] (osG d ms a g t1 t2 t3 n) k rfl nd (λb hb=>ha.lt b hb) (rel_start ha []) (h _ _ t1 t2 t3 n) λs' R=>?_
 refine xAA (adds_W I o (Rel.added ha R)) λL I' o'=>?_
 exact q _ _ L I' o'
end
theorem RdX.later {W W':Wd}{g x d ms a:Addr}{ds c:List Tx}(I:Inv W)(X:RdX W g ds c x d ms a)(L:Le [] W W'):RdX W' g ds c x d ms a:=by
 have hP:∀ a∈([]:List Addr),a∈W.pv:=λ_ h=>nomatch h
 obtain ⟨⟨hx,ho⟩,⟨hd,hdi,t1,t2,t3,n,hgd⟩,⟨hms,b,hos⟩,⟨ha,items,hl,hz,ht⟩,⟨hg,hgi,hig⟩⟩:=X
 have q:=L.toLe0.isList I hP ha hl
 refine ⟨⟨L.toLe0.notPv hP ho hx,L.toLe0.obj I hP hx ho nofun nofun⟩,⟨L.toLe0.notPv hP hgd hd,L.igNew d _ hgd (λh=>nomatch h) hdi,t1,t2,t3,n,L.toLe0.dictObj I hP hd hdi hgd nofun⟩,
  ⟨L.toLe0.notPv hP hos hms,b,L.toLe0.obj I hP hms hos nofun (by show Value.type "set" ≠ Value.type "dict";decide)⟩,⟨q.2,items,q.1,hz,ht⟩,⟨?_,L.ig g ds hgi,L.igMono g ds c hgi hig⟩⟩
 obtain ⟨f,⟨og,eg,epg,hgg,_⟩,_⟩:=hig
 exact L.toLe0.notPv hP hgg hg
end
section
open PySem.Calls
section
variable {A:Around}{W W' W0:Wd}{B:List Addr}{s:Shared}{E:Value->Shared->Prop}{g:Addr}{ds:List Tx}{nm:List (Str×NameKind)}{env:Env}{ρ:Rho}
variable (hk:∀ a o,(H1 zw.params).get? a=some o->zh.get? a=some o)
include hk
theorem attr_rd {i nmA:Str}{p1 p2:Pos}{sel:Addr->Addr->Value}(a:Act W0 B nm env W ρ)(o:Ok W s)(hl:isLoc (lkp nm (tx i))=true)(hdb:eqT (tx i) tDebug=false)(hcd:eqT (tx i) tClassDict=false)(hg:getR ρ (tx i)=some (.d (.rdW g ds)))
  (h:∀ x d ms a n0 t0 t1 t2 t3 n,RunOk (runN n0 t0 (asG x d) [] (osG d ms a g t1 t2 t3 n) 0 ansG 30 (getAttr (.ref x) nmA true)) (sel ms a) [] (osG d ms a g t1 t2 t3 n) 1)
  {Q:Value->Shared->Prop} (q:∀ x d ms a W' s',Le [] W W'->Inv W'->Ok W' s'->RdX W' g ds [] x d ms a->Q (sel ms a) s'):wpAny (model pw zw) A (eval (.Attribute (.Name i p1) nmA p2) env) Q E s:=by
 rw [arm_eval_Attribute,base_ok rfl]
 refine wpAny_bind (name_local a.F o hdb hcd hl hg λv r=>wpAny_bind (wpAny_standAt (wpAny_bind (wpAny_holding ?_))))
 have r':RdAt W g ds [] v:=r
 refine xEEEEA (r'.parts) λx d ms a' ee4 X=>?_
 subst ee4
 refine rdx_run hk a.I o X (λn0 t0 t1 t2 t3 n=>h x d ms a' n0 t0 t1 t2 t3 n) λW' s' L I' o'=>?_
 exact wpAny_bind (wpAny_pure (wpAny_pure (q x d ms a' W' s' L I' o' (X.later a.I L))))
end
set_option tactic.hygienic true in
theorem pairs_uniq {prog:Program}{zw:World}{K:Type} [DecidableEq K] {knd:KeyKind prog zw K}{es:List DictEntry}{a b:List (K×Value)}(h:Pairs knd es a):Pairs knd es b->a=b:=by
 induction h generalizing b with
 | nil=>intro h;cases h;rfl
 | cons h1 h2 _ ih =>
  intro h
  cases h with
  | cons g1 g2 g3 =>
   rename_i kv _ _ kv' _
   rw [ih g3]
   have e1:=knd.inj _ _ _ h1 g1
   have e2:=h2.symm.trans g2
   rw [Prod.ext e1 e2]
theorem ig_step {W:Wd}{g:Addr}{ds:List Tx}{k:Tx}{z:Int}{t:Tok}{h':Heap}{kvs:List (Str×Value)}(I:Inv W)(hg:W.ig.lookup g=some ds)(hkp:k∈plc)(hz:z=ans ds k)(hd:W.h.DictOf (strKind pw zw) g kvs)(hq:∀ p∈kvs,p.1=S tag\/∃ k∈plc,p.1=S k/\∃ t,p.2=.int (ans ds k) t)
  (hd':h'.DictOf (strKind pw zw) g (stored kvs (S k) (.int z t))) (hs:Heap.SameBut g W.h h'):Le [] W { W with h:=h' }/\Inv { W with h:=h' }/\IgAt h' g ds [k]:=by
 have has:∀ k',(∃ v,(k',v)∈kvs)->∃ v,(k',v)∈stored kvs (S k) (.int z t):=by
  rintro k' ⟨v,hv⟩
  unfold stored
  split
  ·refine ⟨if k'=S k then .int z t else v,List.mem_map.mpr ⟨(k',v),hv,?_⟩⟩
   dsimp only
   split<;>simp_all
  ·exact ⟨v,List.mem_append_left _ hv⟩
 have new:∃ v,(S k,v)∈stored kvs (S k) (.int z t):=by
  unfold stored
  split
  ·rename_i h
   refine xEA (List.any_eq_true.mp h) λhh0 h1 h2=>?_
   obtain ⟨k',v⟩:=hh0
   have h2':k'=S k:=by simpa using h2
   subst h2'
   exact ⟨.int z t,List.mem_map.mpr ⟨(S k,v),h1,by simp⟩⟩
  ·exact ⟨.int z t,List.mem_append_right _ (.head _)⟩
 have hq':∀ p∈stored kvs (S k) (.int z t),p.1=S tag\/∃ k∈plc,p.1=S k/\∃ t,p.2=.int (ans ds k) t:=by
  intro p hp
  unfold stored at hp
  split at hp
  ·refine xEA (List.mem_map.mp hp) λp0 h1 ee2=>?_
   subst ee2
   split
   ·rename_i e
    exact .inr ⟨k,hkp,e,t,by rw [hz]⟩
   ·exact hq p0 h1
  ·rcases List.mem_append.mp hp with h | h
   ·exact hq p h
   ·rw [List.mem_singleton] at h
    subst h
    exact .inr ⟨k,hkp,rfl,t,by rw [hz]⟩
 have big:∀ ds' c,W.ig.lookup g=some ds'->IgAt W.h g ds' c->IgAt h' g ds' c:=by
  intro ds' c e ⟨kvs',d',q',c'⟩
  rw [hg] at e
  cases e
  refine ⟨_,hd',hq',λy hy=>?_⟩
  obtain ⟨v,hv⟩:=c' y hy
  refine has _ ?_
  obtain ⟨o,es,ep,e1,_,e3,_,p1,_⟩:=hd
  obtain ⟨o',es',ep',e1',_,e3',_,p1',_⟩:=d'
  rw [e1] at e1'
  cases e1'
  rw [e3] at e3'
  cases e3'
  exact ⟨v,by rw [pairs_uniq p1 p1'];exact hv⟩
 have at_:IgAt h' g ds [k]:=⟨_,hd',hq',λy hy=>by rw [List.mem_singleton] at hy;subst hy;exact new⟩
 have keep:∀ a o,W.h.get? a=some o->a≠g->h'.get? a=some o:=λa o e hne=>(hs.2 a hne).trans e
 have L:Le [] W { W with h:=h' }:=by
  refine ⟨⟨λa o e _ _ hi=>keep a o e λz=>(by rw [z,hg] at hi;cases hi),λ_ _ e=>e,λ_ _ _ _ e=>e,λb ds' c e x=>?_,λ_ _ _ _ h=>h,λa o e _=>?_⟩,λ_ h _=>h⟩
  ·by_cases z:b=g
   ·subst z;exact big ds' c e x
   ·exact x.keep λo e'=>keep b o e' z
  ·by_cases z:a=g
   ·subst z
    refine xEA (at_.obj) λo' h1 _=>?_
    exact ⟨o',h1⟩
   ·exact ⟨o,keep a o e z⟩
 refine ⟨L,?_,at_⟩
 refine ⟨I.base.trans L.toLe0,λa ha=>?_,λa ds' e=>L.igMono a ds' [] e (I.ig a ds' e),I.igPv,λt ht=>?_,I.tabPv⟩
 ·obtain ⟨o,e⟩:=I.pvAl a ha
  exact ⟨o,keep a o e λz=>I.igPv g ds hg (z▸ha)⟩
 ·refine (I.tab t ht).mono (λo e=>?_) λc o e h1 h2 h3=>⟨keep c o e λz=>(by rw [z,hg] at h3;cases h3),h1,h3⟩
  refine keep t o e λz=>?_
  refine xEA ((I.ig g ds hg).obj) λog g1 g2=>?_
  exact I.noTab g1 (by rw [g2];nofun) (z▸ht)
end
section
open PySem.Calls
theorem nodup_len {α:Type} [DecidableEq α]:∀ {l m:List α},l.Nodup->(∀ x∈l,x∈m)->l.length<=m.length:=by
 intro qq
 induction qq with
 | nil =>
  intro _ _ _
  exact Nat.zero_le _
 | cons x l ih =>
  intro m h hs
  obtain ⟨h1,h2⟩:=List.nodup_cons.mp h
  have hx:=hs x (.head _)
  have:=ih (m:=m.erase x) h2 λy hy=>(List.mem_erase_of_ne (λe=>h1 (by rw [<-e];exact hy))).mpr (hs y (.tail _ hy))
  rw [List.length_erase_of_mem hx] at this
  have hp:0 < m.length:=List.length_pos_of_mem hx
  rw [List.length_cons]
  exact Nat.add_le_of_le_sub hp this
theorem ig_len {prog:Program}{zw:World}{h:Heap}{g:Addr}{ds:List Tx}{kvs:List (Str×Value)}(hd:h.DictOf (strKind prog zw) g kvs)(hq:∀ p∈kvs,p.1=S tag\/∃ k∈plc,p.1=S k/\∃ t,p.2=.int (ans ds k) t):kvs.length<=8:=by
 obtain ⟨_,_,_,_,_,_,_,_,hn⟩:=hd
 have:=nodup_len (m:=(tag::plc).map S) hn λx hx=>by
  refine xEA (List.mem_map.mp hx) λp hp ee2=>?_
  subst ee2
  rcases hq p hp with e | ⟨k,hk,e,_⟩
  ·rw [e];exact List.mem_map.mpr ⟨tag,.head _,rfl⟩
  ·rw [e];exact List.mem_map.mpr ⟨k,.tail _ hk,rfl⟩
 rwa [List.length_map] at this
section
variable {A:Around}{W W' W0:Wd}{B:List Addr}{s:Shared}{E:Value->Shared->Prop}{g:Addr}{ds:List Tx}{k:Tx}{nm:List (Str×NameKind)}{env:Env}{ρ:Rho}
structure LocD (nm:List (Str×NameKind))(ρ:Rho)(i:Str)(d:D):Prop where
 loc:isLoc (lkp nm (tx i))=true
 db:eqT (tx i) tDebug=false
 cd:eqT (tx i) tClassDict=false
 get:getR ρ (tx i)=some (.d d)
theorem str_is {prog:Program}{x:Str}{t:Tok}:(strKind prog zw).is x (.str x t)=true:=by
 show Value.isStrOf x (.str x t)=true
 simp [Value.isStrOf]
variable (hk:∀ a o,(H1 zw.params).get? a=some o->zh.get? a=some o)
include hk
theorem names_set {i j:Str}{p1 p2 p3 p4 p5 p6:Pos}{kd:Nat}{z:Int}(I0:Inv W0)(a:Act W0 B nm env W ρ)(o:Ok W s)(hi:LocD nm ρ i (.rdW g ds))(hj:LocD nm ρ j (.str k))(hkp:k∈plc)(hz:z=ans ds k){Q:Flow->Shared->Prop}
  (q:∀ W' s',Act W0 B nm env W' ρ->Ok W' s'->W'.ig.lookup g=some ds->IgAt W'.h g ds [k]->Q .next s') :
  wpAny (model pw zw) A (exec (.Assign [.Subscript (.Attribute (.Name i p1) (S xIgn) p2) (.Name j p3) p4] (.Constant (.int z) kd p5) p6) env) Q E s:=by
 refine wpAny_Assign_Subscript (wpAny_Constant_int ?_) rfl
 refine attr_rd hk a (o.tok _) hi.loc hi.db hi.cd hi.get (λx d ms a n0 t0 t1 t2 t3 n=>ga_ign) (sel:=λ_ _=>.ref g) λx d ms a' W1 s1 L1 I1 o1 X=>?_
 have a1:=a.le I0 L1 I1
 refine name_local a1.F o1 hj.db hj.cd hj.loc hj.get λv r=>?_
 have r':Rep W1 (.str k) v:=r
 obtain ⟨_,tk,rfl⟩:=r'
 refine xAA (X.g) λhg1 hg2 hh2=>?_
 obtain ⟨kvs,hd,hq,_⟩:=hh2
 refine wpAny_setItem_pairs (knd:=strKind pw zw) (k:=S k) str_is (by rw [o1.1];exact hd) (λh' hd' hs=>?_) (Nat.le_trans (ig_len hd hq) (by decide))
 obtain ⟨L,I',ig⟩:=ig_step I1 hg2 hkp hz hd hq hd' (by rw [<-o1.1];exact hs)
 exact q _ _ (a1.le I0 L I') ⟨rfl,o1.2.1,o1.2.2⟩ hg2 ig
end
end
section
open PySem.Calls
theorem sub_dict {A:Around}{s:Shared}{E:Value->Shared->Prop}{env:Env}{value:Expr}{i:Str}{p pos:Pos}{Q:Value->Shared->Prop}
  (h:wpAny Mo A (eval value env) (λo s₁=>wpAny Mo A (eval (.Name i p) env) (λi s₂=>SubscriptOn Mo A o i Q E s₂) E s₁) E s):wpAny Mo A (eval (.Subscript value (.Name i p) pos) env) Q E s:=by
 rw [arm_eval_Subscript]
 refine wpAny_bind (wpAny_mono h (λo s₁ h₁=>wpAny_bind (wpAny_holding (wpAny_mono h₁ (λi s₂ h₂=>wpAny_bind (wpAny_standAt ?_)) λ_ _ x=>x)))
  λ_ _ x=>x)
 obtain ⟨T,id,hl,hT,hg⟩:=h₂
 refine wpAny_bind ?_
 rw [getitemInPython_of_ne hT.not_modules]
 refine wpAny_bind (wpAny_specialOf hT hl ?_)
 have fin:wpAny Mo A (operate [o,i] (getItem o i)) (λr s₃=>wpAny Mo A (letTemporaryGo value o r>>=λ_=>pure r) Q E s₃) E s₂ :=
  wpAny_operating (wpAny_mono hg (λr s₃ h₃=>wpAny_bind (wpAny_letTemporaryGo (wpAny_pure h₃))) λ_ _ x=>x)
 first
  | exact wpAny_pure (wpAny_bind fin)
  | exact wpAny_bind (wpAny_pure (wpAny_bind fin))
  | exact wpAny_bind fin
theorem tag_plc {k:Tx}(h:k∈plc):S k≠S tag:=λe=>by
 have:k=tag:=S_inj e
 clear e tag_plc
 subst this
 revert h
 decide
theorem val_at {kvs:List (Str×Value)}{k:Str}{v:Value}(h:valueAt kvs k=some v):(k,v)∈kvs:=by
 unfold valueAt at h
 refine xEA (Option.map_eq_some_iff.mp h) λp h1 h2=>?_
 have:=List.find?_some h1
 have e:p.1=k:=by simpa using this
 have:=List.mem_of_find?_eq_some h1
 rw [<-e,← h2]
 exact this
theorem dict_uniq {prog:Program}{zw:World}{K:Type} [DecidableEq K] {knd:KeyKind prog zw K}{h:Heap}{g:Addr}{a b:List (K×Value)}(d:h.DictOf knd g a)(d':h.DictOf knd g b):a=b:=by
 obtain ⟨o,es,ep,e1,_,e3,_,p1,_⟩:=d
 obtain ⟨o',es',ep',e1',_,e3',_,p1',_⟩:=d'
 rw [e1] at e1'
 cases e1'
 rw [e3] at e3'
 cases e3'
 exact pairs_uniq p1 p1'
theorem lk_back {W W':Wd}{g:Addr}{ds c:List Tx}(L:Le [] W W')(h:IgAt W.h g ds c)(e:W'.ig.lookup g=some ds):W.ig.lookup g=some ds:=by
 obtain ⟨f,⟨og,eg,epg,hgg,_⟩,_⟩:=h
 cases q:W.ig.lookup g with
 | none=>have:=L.igNew g og hgg (λz=>nomatch z) q;rw [e] at this;cases this
 | some ds'=>have:=L.ig g ds' q;rw [e] at this;exact this.symm
section
variable {A:Around}{W W' W0:Wd}{B:List Addr}{s:Shared}{E:Value->Shared->Prop}{g:Addr}{ds:List Tx}{k:Tx}{nm:List (Str×NameKind)}{env:Env}{ρ:Rho}
variable (hk:∀ a o,(H1 zw.params).get? a=some o->zh.get? a=some o)(h1:∃ o,zh.get? 1=some o/\True)
include hk
theorem names_in {i j:Str}{p1 p2 p3 p4:Pos}{whole:Sem Value}(I0:Inv W0)(a:Act W0 B nm env W ρ)(o:Ok W s)(hi:LocD nm ρ i (.rdW g ds))(hj:LocD nm ρ j (.str k))(hkp:k∈plc)(hg1:g≠1){Q:Bool->Shared->Prop}
  (q:∀ b W' s',Act W0 B nm env W' ρ->Ok W' s'->(b=true->W'.ig.lookup g=some ds/\IgAt W'.h g ds [k])->(IgAt W.h g ds [k]->b=true)->Q b s') :
  wpAny (model pw zw) A (isTrue (.Compare (.Name j p1) [.In] [.Attribute (.Name i p2) (S xIgn) p3] p4) env whole) Q E s:=by
 refine wpAny_isTrue_Compare1 (name_local a.F o hj.db hj.cd hj.loc hj.get λv r=>?_) rfl
 have r':Rep W (.str k) v:=r
 clear r hj whole p4 p1 j hkp names_in
 obtain ⟨_,tk,rfl⟩:=r'
 refine attr_rd hk a o hi.loc hi.db hi.cd hi.get (λx d ms a n0 t0 t1 t2 t3 n=>ga_ign) (sel:=λ_ _=>.ref g) λx d ms a' W1 s1 L1 I1 o1 X=>?_
 clear o hk s p3 p2
 refine xAA (X.g) λhg1' hg2 hh2=>?_
 obtain ⟨kvs,hd,hq,_⟩:=hh2
 refine wpAny_in_of (knd:=strKind pw zw) (k:=S k) str_is (by rw [beq_eq_false_iff_ne];exact hg1) (by rw [o1.1];exact hd.mapOf) (wpAny_truthy_bool ?_)
 refine q _ W1 _ (a.le I0 L1 I1) (o1.tok _) (λhb=>⟨hg2,kvs,hd,hq,λy hy=>?_⟩) λhi=>?_
 ·rw [List.mem_singleton] at hy
  clear hq o1 I1 I0 a q hg1 X hg1' s1 a' ms d x tk E Q env A B W0
  subst hy
  obtain ⟨v,hv⟩:=Option.isSome_iff_exists.mp hb
  exact ⟨v,val_at hv⟩
 ·clear hq o1 I1 I0 a q hg1 X hg1' s1 a' ms d x tk E Q env A B W0
  obtain ⟨kvs',d',_,c'⟩:=L1.igMono g ds [k] (lk_back L1 hi hg2) hi
  obtain ⟨v,hv⟩:=c' k (.head _)
  rw [<-dict_uniq hd d'] at hv
  unfold valueAt
  rw [Option.isSome_map,List.find?_isSome]
  exact ⟨_,hv,by simp⟩
theorem names_sub {i j:Str}{p1 p2 p3 p4:Pos}(I0:Inv W0)(a:Act W0 B nm env W ρ)(o:Ok W s)(hi:LocD nm ρ i (.rdW g ds))(hj:LocD nm ρ j (.str k))(hkp:k∈plc)(hat:IgAt W.h g ds [k]){Q:Value->Shared->Prop}
  (q:∀ v W' s',Act W0 B nm env W' ρ->Ok W' s'->Rep W' (.got g k (ans ds k)) v->Q v s') :
  wpAny (model pw zw) A (eval (.Subscript (.Attribute (.Name i p1) (S xIgn) p2) (.Name j p3) p4) env) Q E s:=by
 refine sub_dict (attr_rd hk a o hi.loc hi.db hi.cd hi.get (λx d ms a n0 t0 t1 t2 t3 n=>ga_ign) (sel:=λ_ _=>.ref g) λx d ms a' W1 s1 L1 I1 o1 X=>?_)
 have a1:=a.le I0 L1 I1
 refine name_local a1.F o1 hj.db hj.cd hj.loc hj.get λv r=>?_
 have r':Rep W1 (.str k) v:=r
 clear r hj I1 I0 a hi o hk p4 p3 j p2 p1 i names_sub
 obtain ⟨_,tk,rfl⟩:=r'
 have hat0:=hat
 refine xAA (X.g) λhg1' hg2 hat1=>?_
 have hlk:=lk_back L1 hat0 hg2
 clear hat0 X hat1 hg1' a' ms d x
 obtain ⟨kvs,hd,hq,hc⟩:=L1.igMono g ds [k] hlk hat
 clear hat hlk L1 W
 obtain ⟨v0,hv0⟩:=hc k (.head _)
 have hs:∃ v,valueAt kvs (S k)=some v:=by
  unfold valueAt
  cases e:kvs.find? λkv=>kv.1=S k with
  | some p=>exact ⟨p.2,rfl⟩
  | none=>have:=List.find?_eq_none.mp e _ hv0;simp at this
 clear hv0 v0
 obtain ⟨v,hv⟩:=hs
 refine ⟨"dict",_,slot_dict_getitem.lookup,(show s1.heap.DictOf (strKind pw zw) g kvs from by rw [o1.1];exact hd).typeIs,wpAny_getItem_of (knd:=strKind pw zw) (k:=S k) str_is (by rw [o1.1];exact hd.mapOf) hv ?_⟩
 refine q v W1 _ a1 (o1.tok _) ?_
 refine ⟨?_,ds,hg2,kvs,hd,hq,hc⟩
 clear hc hd hg2 o1 a1 W1 q g s1 tk E Q env A ρ nm B W0
 rcases hq _ (val_at hv) with e | ⟨k',hk',e,t,et⟩
 ·exact absurd e (tag_plc hkp)
 ·have:k=k':=S_inj e
  clear e hkp hk' hv hq kvs
  subst this
  exact ⟨t,et⟩
end
end
section
open PySem.Calls
namespace SF
theorem entry_set_iter:entryFor table "set.__iter__" = some Builtin.«frozenset.__iter__» :=
 entryFor_alias (id' := "frozenset.__iter__") (by kernel_rfl) rfl (by decide +kernel) (by kernel_rfl)
theorem slot_setit_next:Slot "set_iterator" "__next__" "set_iterator.__next__" :=
 .of (owner := "set_iterator") (n := "__next__") (by rw [typeLookup_type,builtinLookup_eq_fast];kernel_rfl) (by decide +kernel) (by decide +kernel) (by decide +kernel)
  (by first | exact .inl (by decide +kernel) | exact .inr (by decide +kernel)) (by rw [isSubtype_type];kernel_rfl)
theorem entry_setit_next:entryFor table "set_iterator.__next__" = some Builtin.«set_iterator.__next__» := entryFor_of_tree (by kernel_rfl)
theorem args_setit_next (a:Value):argsOk "set_iterator.__next__" ⟨[a],[]⟩:=by unfold argsOk;kernel_rfl
end SF
noncomputable abbrev itS (ms:Addr):Obj:={ cls:=.type "set_iterator",data:=.fields #[.int 0 0,.int 0 0,.ref ms,.int 0 0,.int 0 0] }
section
variable {A:Around}{E:Value->Shared->Prop}{s:Shared}{ms it:Addr}{b:Bool}
theorem state0 {Q:(Array (Int×Value)×Nat×SetTable)->Shared->Prop}(ho:s.heap.get? ms=some (igS b))(h:Q (#[],0,.fresh 0 0 b) s):wpAny Mo A (setState ms) Q E s :=
 wpAny_setState_of ho rfl (by rfl) h
theorem setIter0 (ho:s.heap.get? ms=some (igS b)){Q:Value->Shared->Prop}(hQ:Q (.ref s.heap.objs.size) { s with heap:=s.heap.push (itS ms) }):wpAny Mo A (pyIter (.ref ms)) Q E s:=by
 have hT:s.TypeIs (.ref ms) "set" := ⟨_,ho,rfl⟩
 refine wpAny_pyIter_slot hT PySem.F.slot_set_iter (wpAny_call_entry PySem.F.slot_set_iter hT SF.entry_set_iter ?_ (PySem.F.args_set_iter_1 _))
 unfold Builtin.«frozenset.__iter__» Builtin.Frozenset.slot0
 refine wpAny_bind (wpAny_bind (m:=slotArgs "__iter__" 0 _) (wpAny_of_eq (a:=(.ref ms,[])) (by rfl) ?_))
 refine wpAny_pure ?_
 unfold Builtin.Frozenset.sizeOf setEntries
 refine wpAny_bind (wpAny_bind (wpAny_bind (state0 ho (wpAny_pure (wpAny_pure ?_)))))
 refine wpAny_bind ?_
 unfold setDrawn
 refine wpAny_bind (state0 ho ?_)
 dsimp only
 unfold setsByText
 refine wpAny_bind (wpAny_bind (wpAny_askSetting (wpAny_pure (wpAny_pure ?_))))
 rw [if_neg (λh=>by rw [Bool.and_eq_true] at h;cases h.2)]
 refine wpAny_bind (wpAny_pure ?_)
 unfold setEpoch
 refine wpAny_bind (wpAny_bind (state0 ho (wpAny_pure ?_)))
 exact wpAny_bind (wpAny_newObj_type (wpAny_pure ⟨_,rfl,"set_iterator",_,⟨_,Heap.get?_push_size _ rfl,rfl⟩,SF.slot_setit_next.lookup,hQ⟩))
theorem next0 (ho:s.heap.get? ms=some (igS b)){Q:Option (Value×Nat)->Shared->Prop}(h:Q none s):wpAny Mo A (setNext ms 0 0 0) Q E s:=by
 unfold setNext
 refine wpAny_bind (state0 ho ?_)
 dsimp only
 have hb:∀ {Q:Bool->Shared->Prop} {s},Q (zw.params.followText "set-order") s->wpAny Mo A setsByText Q E s:=λq=>wpAny_bind (wpAny_askSetting (wpAny_pure q))
 refine wpAny_bind (hb ?_)
 clear next0
 cases e:zw.params.followText "set-order" with
 | true =>
  rw [if_pos rfl,if_neg (show ¬ (((0:Nat) != 0)=true) from by decide)]
  refine wpAny_bind ?_
  unfold setWalk
  refine wpAny_bind (state0 ho ?_)
  dsimp only
  refine wpAny_bind (hb ?_)
  rw [e,if_pos rfl]
  exact wpAny_bind (wpAny_askSetting (wpAny_pure (wpAny_pure h)))
 | false =>
  rw [if_neg Bool.false_ne_true]
  clear e hb ho ms
  split
  ·rename_i z;exact (Bool.false_ne_true z).elim
  ·exact wpAny_bind (wpAny_of_eq (a:=PUnit.unit) (by cases b<;>rfl) (wpAny_pure h))
theorem setNext0 (hh:A.handled=none)(hne:ms≠it)(hit:s.heap.get? it=some (itS ms))(ho:s.heap.get? ms=some (igS b)){Q:Option Value->Shared->Prop}
  (hQ:∀ h',Heap.ExtBut it s.heap h'->Q none { s with heap:=h' }):wpAny Mo A (pyNext (.ref it)) Q E s:=by
 have hT:s.TypeIs (.ref it) "set_iterator" := ⟨_,hit,rfl⟩
 unfold pyNext
 refine wpAny_bind (wpAny_attempt (wpAny_callSpecial?_slot (name:=Str.ofString "__next__") hT SF.slot_setit_next
  (wpAny_call_entry SF.slot_setit_next hT SF.entry_setit_next ?_ (SF.args_setit_next _))))
 unfold Builtin.«set_iterator.__next__»
 refine wpAny_bind (m:=slotArgs "__next__" 0 _) (wpAny_of_eq (a:=(.ref it,[])) (by rfl) ?_)
 refine wpAny_bind (wpAny_fieldsOf hit rfl ?_)
 dsimp only
 unfold setEntries
 refine wpAny_bind (wpAny_bind (state0 ho (wpAny_pure ?_)))
 dsimp only
 rw [if_neg (show ¬ ((((#[]:Array (Int×Value)).size:Int) != 0)=true) from by decide)]
 refine wpAny_bind ?_
 refine next0 ho ?_
 dsimp only
 refine wpAny_bind (wpAny_setField hit rfl (by simp) ?_)
 refine wpAny_bind ?_
 simp only [newExc,newTuple]
 refine wpAny_bind (wpAny_newObj_type ?_ (by size_fits))
 refine wpAny_bind (m:=firstArgMember _ _) (wpAny_of_eq (a:=Value.none) (by first | rfl | (simp only [firstArgMember];rfl)) ?_)
 refine wpAny_newObj_type ?_ (by size_fits)
 simp only [raiseNew]
 refine wpAny_bind (wpAny_handled ?_)
 first | rw [show A.in1.handled=none from hh] | rw [hh]
 refine wpAny_bind (wpAny_pure (wpAny_throw ?_))
 refine wpAny_bind (wpAny_isInstance (T := "StopIteration") (b:=true) ⟨_,Heap.get?_push_size _ rfl,rfl⟩ isSubtype_stop ?_)
 exact wpAny_pure (hQ _ (((Heap.SameBut.update ..).extBut.push _).push _))
end
end
section
open PySem.Calls
noncomputable abbrev nSelf:Str:=.ofString "self"
noncomputable abbrev nFile:Str:=.ofString "filename"
noncomputable abbrev nModn:Str:=.ofString "modulename"
noncomputable abbrev nD:Str:=.ofString "d"
noncomputable abbrev nmN:List (Str×NameKind):=(dM 19 "names").2.2.names
noncomputable def bodyOf (i:Nat):List Stmt:=match (dM 19 "names").2.1.drop i with | .For _ _ b _ _::_=>b | .If _ b _ _::_=>b | _=>[]
noncomputable abbrev setZ (l c:Nat)(z:Int):List Stmt:=[.Assign [.Subscript (.Attribute (.Name nSelf ⟨l,c,l,c+4⟩) (S xIgn) ⟨l,c,l,c+12⟩) (.Name nModn ⟨l,c+13,l,c+23⟩) ⟨l,c,l,c+24⟩] (.Constant (.int z) 0 ⟨l,c+27,l,c+28⟩) ⟨l,c,l,c+28⟩,.Return (some (.Constant (.int z) 0 ⟨l+1,c+7,l+1,c+8⟩)) ⟨l+1,c,l+1,c+8⟩]
noncomputable abbrev dBody:List Stmt:=[.If (.Call (.Attribute (.Name nFile ⟨141,15,141,23⟩) (.ofString "startswith") ⟨141,15,141,34⟩) [.BinOp (.Name nD ⟨141,35,141,36⟩) .Add (.Name (.ofString "sep") ⟨141,39,141,42⟩) ⟨141,35,141,42⟩] [] ⟨141,15,141,43⟩) (setZ 142 16 1) [] ⟨141,12,143,24⟩]
noncomputable def nmBody:List Stmt :=
 .If (.Compare (.Name nModn ⟨128,11,128,21⟩) [.In] [.Attribute (.Name nSelf ⟨128,25,128,29⟩) (S xIgn) ⟨128,25,128,37⟩] ⟨128,11,128,37⟩)
  [.Return (some (.Subscript (.Attribute (.Name nSelf ⟨129,19,129,23⟩) (S xIgn) ⟨129,19,129,31⟩) (.Name nModn ⟨129,32,129,42⟩) ⟨129,19,129,43⟩)) ⟨129,12,129,43⟩] [] ⟨128,8,129,43⟩ ::
 .If (.Compare (.Name nModn ⟨130,11,130,21⟩) [.In] [.Attribute (.Name nSelf ⟨130,25,130,29⟩) (S xMods) ⟨130,25,130,35⟩] ⟨130,11,130,35⟩) (bodyOf 1) [] ⟨130,8,132,20⟩ ::
 .For (.Name (.ofString "mod") ⟨133,12,133,15⟩) (.Attribute (.Name nSelf ⟨133,19,133,23⟩) (S xMods) ⟨133,19,133,29⟩) (bodyOf 2) [] ⟨133,8,136,24⟩ ::
 .If (.Compare (.Name nFile ⟨137,11,137,19⟩) [.Is] [.Constant .none 0 ⟨137,23,137,27⟩] ⟨137,11,137,27⟩) (bodyOf 3) [] ⟨137,8,139,20⟩ ::
 .For (.Name nD ⟨140,12,140,13⟩) (.Attribute (.Name nSelf ⟨140,17,140,21⟩) (S xDirs) ⟨140,17,140,27⟩) dBody [] ⟨140,8,143,24⟩::setZ 144 8 0
theorem nmBody_eq:(dM 19 "names").2.1=nmBody:=by kernel_rfl
section
variable {w:World}{h0:Heap}{os:OsState}{A:Around}{W W' W0:Wd}{B:List Addr}{s:Shared}{E:Value->Shared->Prop}{g:Addr}{ds:List Tx}{k:Tx}{nm:List (Str×NameKind)}{env:Env}{ρ:Rho}
theorem if_at {c:Expr}{a b:List Stmt}{pos:Pos}{Q:Flow->Shared->Prop}(h:wpAny Mo A (PySem.isTrue c env (eval c env)) (λr s1=>wpAny Mo A (execs (if r then a else b) env) Q E s1) E s):wpAny Mo A (exec (.If c a b pos) env) Q E s:=by
 rw [arm_exec_If]
 refine wpAny_bind (wpAny_standAt (wpAny_bind (wpAny_mono h (λr s1 h1=>?_) λ_ _ x=>x)))
 cases r<;>exact h1
theorem locN {i:Str}{d:D}(h:getR ρ (tx i)=some (.d d))(h1:isLoc (lkp nmN (tx i))=true)(h2:eqT (tx i) tDebug=false)(h3:eqT (tx i) tClassDict=false):LocD nmN ρ i d:=⟨h1,h2,h3,h⟩
theorem for_set0 {ms:Addr}{b:Bool}{t:Expr}{body:List Stmt}(hh:A.handled=none)(I0:Inv W0)(a:Act W0 B nm env W ρ)(o:Ok W s)(hm:W.h.get? ms=some (igS b)){R:Result->Shared->Prop}
  (q:∀ W' s',Act W0 B nm env W' ρ->Ok W' s'->R (.ok .next) s'):wpAny Mo A (pyIter (.ref ms)) (λJ s1=>codeAny Mo A (.forLoop t J body [] env) R s1) E s:=by
 refine setIter0 (b:=b) (by rw [o.1];exact hm) ?_
 have e:s.heap.objs.size=W.h.objs.size:=by rw [o.1]
 rw [e]
 have o1:=pushP_ok o (itS ms) s.toks
 have I1:=pushP_inv a.I (itS ms) rfl
 have hJ:W.h.objs.size∈(W.pushP (itS ms)).pv:=.head _
 have hne:ms≠W.h.objs.size:=λz=>by rw [z,fresh_none] at hm;cases hm
 refine codeAny_forLoop_any (λ_ s1=>s1={ s with heap:=s.heap.push (itS ms) }) (λn s1 hs=>?_) 0 rfl
 subst hs
 have g1:(W.pushP (itS ms)).h.get? W.h.objs.size=some (itS ms):=Heap.get?_push_size _ rfl
 have g2:(W.pushP (itS ms)).h.get? ms=some (igS b):=Heap.get?_push_of_some _ hm
 refine setNext0 (ms:=ms) (b:=b) hh hne (by rw [o1.1];exact g1) (by rw [o1.1];exact g2) λh' hx=>?_
 refine wpAny_execs_nil ?_
 rw [o1.1] at hx
 have L2:=end_le I1 hJ hx
 have I2:=end_inv I1 hJ hx
 have L:Le [] W _:=((pushP_le (P:=[W.h.objs.size]) (itS ms)).trans L2).fresh a.I λx hx=>.inr (by rw [List.mem_singleton] at hx;subst hx;exact fresh_none _)
 exact q _ _ (a.le I0 L I2) ⟨rfl,o1.2.1,o1.2.2⟩
end
end
section
open PySem.Calls
theorem prefT_eq:∀ a b:Tx,prefT a b=a.isPrefixOf b
 | [],_=>by simp [prefT]
 | _::_,[]=>by simp [prefT]
 | a::r,b::q=>by
  rw [prefT,List.isPrefixOf,prefT_eq r q]
  have:Nat.beq a b=(a == b):=by rw [Bool.eq_iff_iff,Nat.beq_eq,beq_iff_eq]
  rw [this]
theorem ans_eq (ds:List Tx)(k:Tx):ans ds k=if ds.any (λd=>prefT (d++[47]) (k++[47,102])) then 1 else 0:=by
 unfold ans
 simp only [prefT_eq]
structure NP (g:Addr)(ds:List Tx)(k:Tx)(ρ:Rho):Prop where
 s:getR ρ (tx nSelf)=some (.d (.rdW g ds))
 f:getR ρ (tx nFile)=some (.d (.str (k++[47,102])))
 m:getR ρ (tx nModn)=some (.d (.str k))
open Classical in
noncomputable def dF (g:Addr)(ds:List Tx)(k:Tx)(ρ:Rho):Option (Rho×Fl):=if NP g ds k ρ then (match getR ρ (tx nD) with
 | some (.d (.str d))=>if d∈ds/\d.length<=1000 then (if prefT (d++[47]) (k++[47,102]) then some (ρ,.ret (.got g k (ans ds k))) else some (ρ,.next)) else none
 | _=>none) else none
theorem NP.put {g:Addr}{ds:List Tx}{k:Tx}{ρ:Rho}{ev:EV}(h:NP g ds k ρ):NP g ds k (setR ρ (tx nD) ev) :=
 ⟨by rw [getR_setR,if_neg (by decide +kernel)];exact h.s,by rw [getR_setR,if_neg (by decide +kernel)];exact h.f,by rw [getR_setR,if_neg (by decide +kernel)];exact h.m⟩
theorem dloop {g:Addr}{ds:List Tx}{k:Tx}:∀ (l:List Tx) (ρ:Rho),NP g ds k ρ->(∀ d∈l,d∈ds/\d.length<=1000) ->
  ∃ ρ',NP g ds k ρ'/\loopD (λρ d=>dF g ds k (setR ρ (tx nD) (.d d))) ρ (l.map D.str)=some (ρ',if l.any (λd=>prefT (d++[47]) (k++[47,102])) then .ret (.got g k (ans ds k)) else .next):=by
 intro qq
 induction qq with
 | nil =>
  intro ρ h _
  exact ⟨ρ,h,rfl⟩
 | cons d l ih =>
  intro ρ h hl
  have e:dF g ds k (setR ρ (tx nD) (.d (.str d)))=if prefT (d++[47]) (k++[47,102]) then some (setR ρ (tx nD) (.d (.str d)),.ret (.got g k (ans ds k))) else some (setR ρ (tx nD) (.d (.str d)),.next):=by
   unfold dF
   rw [if_pos h.put,getR_setR,if_pos (eqT_iff.mpr rfl)]
   dsimp only
   rw [if_pos (hl d (.head _))]
  rw [List.map_cons,List.any_cons]
  unfold loopD
  rw [e]
  cases prefT (d++[47]) (k++[47,102]) with
  | true=>exact ⟨_,h.put,rfl⟩
  | false=>exact ih _ h.put λx hx=>hl x (.tail _ hx)
section
variable {A:Around}{W W' W0:Wd}{B:List Addr}{s:Shared}{E:Value->Shared->Prop}{g:Addr}{ds:List Tx}{k:Tx}{nm:List (Str×NameKind)}{env:Env}{ρ ρ':Rho}{fl:Fl}{d:D}
theorem gva_loc {id:Str}{p:Pos}(I:Inv W)(F:Fm B nm env W ρ)(h:LocD nm ρ id d):GvA A (eval (.Name id p) env) W d:=λW' L I' s Q E o po =>
 name_local (F.later I L) o h.db h.cd h.loc h.get λv r=>po.at I' o r
variable (hk:∀ a o,(H1 zw.params).get? a=some o->zh.get? a=some o)
include hk
theorem gva_glo {id:Str}{p:Pos}(I:Inv W)(F:Fm B nm env W ρ)(hdb:eqT (tx id) tDebug=false)(hl:isGlo (lkp nm (tx id))=true)(hg:G (tx id)=some d):GvA A (eval (.Name id p) env) W d:=by
 intro W' L I' s Q E ok po
 have F':=F.later I L
 refine wpAny_Name ?_ (name_dbg hdb)
 have key:=glo_ok (P:=zw.params) hk hg (A:=A) (env:=env) (E:=E) (Q:=Q) F'.gl F'.bi I' ok λv r=>po.at I' ok r
 rw [S_tx] at key
 have hk:=F'.kg (tx id) (isGlo_iff hl)
 rw [S_tx] at hk
 unfold loadName
 simp only [Env.blockKind,F'.kind,hk,ScopeKind.isAnnotationScope,Bool.false_and,Bool.false_eq_true,if_false]
 exact key
theorem set_ret {l c:Nat}{z:Int}(I0:Inv W0)(a:Act W0 B nm env W ρ)(o:Ok W s)(hi:LocD nm ρ nSelf (.rdW g ds))(hj:LocD nm ρ nModn (.str k))(hkp:k∈plc)(hz:z=ans ds k){Q:Flow->Shared->Prop}
  (q:∀ v W' s',Act W0 B nm env W' ρ->Ok W' s'->Rep W' (.got g k (ans ds k)) v->Q (.ret v) s'):wpAny (model pw zw) A (execs (setZ l c z) env) Q E s:=by
 refine wpAny_execs_cons (names_set hk I0 a o hi hj hkp hz λW1 s1 a1 o1 hl ig=>?_)
 refine wpAny_execs_cons (ret_value (wpAny_Constant_int ?_))
 refine q _ W1 _ a1 (o1.tok _) ?_
 exact ⟨⟨_,by rw [hz]⟩,ds,hl,ig⟩
set_option tactic.hygienic true in
theorem dF_ok (hkp:k∈plc)(h:dF g ds k ρ=some (ρ',fl))(I0:Inv W0)(a:Act W0 B nmN env W ρ):StOk A (execs dBody env) W0 B nmN env W ρ' fl:=by
 unfold dF at h
 split at h
 ·rename_i hp
  split at h
  ·rename_i d hd
   split at h
   ·rename_i hds
    have hs:LocD nmN ρ nSelf (.rdW g ds):=locN hp.s (by kernel_rfl) (by decide +kernel) (by decide +kernel)
    have hf:LocD nmN ρ nFile (.str (k++[47,102])):=locN hp.f (by kernel_rfl) (by decide +kernel) (by decide +kernel)
    have hm:LocD nmN ρ nModn (.str k):=locN hp.m (by kernel_rfl) (by decide +kernel) (by decide +kernel)
    have hdd:LocD nmN ρ nD (.str d):=locN hd (by kernel_rfl) (by decide +kernel) (by decide +kernel)
    have hlen:Nat.ble (d.length + [47].length) lim=true:=Nat.ble_eq_true_of_le (by have:=hds.2;have:lim=100000:=rfl;simp;exact Nat.le_trans (Nat.succ_le_succ hds.2) (by decide))
    have hg:G (tx (.ofString "sep"))=some (.str [47]):=by kernel_rfl
    have X:∀ W1,Le [] W W1->Inv W1->Gv A (eval (.Call (.Attribute (.Name nFile ⟨141,15,141,23⟩) (.ofString "startswith") ⟨141,15,141,34⟩) [.BinOp (.Name nD ⟨141,35,141,36⟩) .Add (.Name (.ofString "sep") ⟨141,39,141,42⟩) ⟨141,35,141,42⟩] [] ⟨141,15,141,43⟩) env) W1 (.bool (prefT (d++[47]) (k++[47,102]))):=by
     intro W1 L1 I1
     have F1:=a.F.later a.I L1
     refine gv_Meth I1 (od:=.str (k++[47,102])) (ds:=[.str (d++[47])]) (base_ok rfl) rfl (gva_loc I1 F1 hf).T rfl (by decide) (λj e d' e1 e2=>?_) rfl λov W2 L2 I2 r2=>?_
     ·cases j with
      | succ j=>simp at e1
      | zero =>
       simp only [List.getElem?_cons_zero,Option.some.injEq] at e1 e2
       subst e1 e2
       intro W3 L3 I3
       have F3:=F1.later I1 L3
       exact gv_BinOp I3 (gva_loc I3 F3 hdd) (gva_glo hk I3 F3 (by decide +kernel) (by kernel_rfl) hg) (o:=0) rfl (by show (if Nat.ble (d.length + [47].length) lim=true then some (D.str (d++[47])) else none)=_;rw [if_pos hlen])
     ·have r3:=r2.plain (λ_=>nofun)
      obtain ⟨hx,t,rfl⟩:=r3
      exact meth_str hx (by kernel_rfl)
    intro s Q E o po
    refine wpAny_execs_cons (if_at (tv_value a.I (λW1 L1 I1=>(show GvA A _ W _ from X).T W1 L1 I1) rfl rfl s _ _ o λW1 s1 L1 I1 o1=>?_))
    have a1:=a.le I0 L1 I1
    cases hb:prefT (d++[47]) (k++[47,102]) with
    | true =>
     rw [hb] at h
     cases h
     have hz:(1:Int)=ans ds k:=by
      rw [ans_eq,if_pos (List.any_eq_true.mpr ⟨d,hds.1,hb⟩)]
     exact set_ret hk I0 a1 o1 hs hm hkp hz λv W2 s2 a2 o2 r=>po _ W2 s2 a2 o2 ⟨v,rfl,r⟩
    | false =>
     rw [hb] at h
     cases h
     exact wpAny_execs_nil (wpAny_execs_nil (po .next W1 s1 a1 o1 rfl))
   ·exact ns h
  ·exact ns h
 ·exact ns h
end
end
section
open PySem.Calls
section
variable {A:Around}{W W' W0:Wd}{B:List Addr}{s:Shared}{E:Value->Shared->Prop}{g:Addr}{ds:List Tx}{k:Tx}{env:Env}{ρ ρ':Rho}{fl:Fl}{d fd:D}
theorem txs_rep:∀ {ds:List Tx} {vs:List Value},Txs ds vs->Reps W (ds.map D.str) vs/\∀ d∈ds,d.length<=1000
 | [],_,h=>by subst h;exact ⟨rfl,λ_ h=>nomatch h⟩
 | d::ds,_,h=>by
  obtain ⟨v,r,rfl,⟨h1,h2⟩,h3⟩:=h
  obtain ⟨g1,g2⟩:=txs_rep h3
  exact ⟨⟨v,r,rfl,⟨Nat.le_trans h1 (by decide),h2⟩,g1⟩,λx hx=>by
   rcases List.mem_cons.mp hx with q | q
   ·rw [q];exact h1
   ·exact g2 x q⟩
variable (hk:∀ a o,(H1 zw.params).get? a=some o->zh.get? a=some o)
include hk
theorem g_ne1 (h1:∃ o,zh.get? 1=some o)(I:Inv W)(hl:W.ig.lookup g=some ds):g≠1:=λe=>by
 clear g_ne1
 obtain ⟨o,e1⟩:=h1
 have:=I.base.igNew 1 o e1 (λz=>nomatch z) rfl
 rw [<-e,hl] at this
 cases this
theorem names_body (h1:∃ o,zh.get? 1=some o)(BB:Bs)(hh:A.handled=none)(hu:A.units+2 < cLine)(I0:Inv W0)(a:Act W0 B nmN env W ρ)(hs:getR ρ (tx nSelf)=some (.d (.rdW g ds)))(hf:getR ρ (tx nFile)=some (.d fd))(hm:getR ρ (tx nModn)=some (.d (.str k)))(hkp:k∈plc)
  (hg:W.ig.lookup g=some ds) (hfd:fd=.str (k++[47,102])\/IgAt W.h g ds [k]) {Q:Flow->Shared->Prop} (o:Ok W s)
  (q:∀ v ρ' W' s',Act W0 B nmN env W' ρ'->Ok W' s'->Rep W' (.got g k (ans ds k)) v->Q (.ret v) s'):wpAny (model pw zw) A (execs nmBody env) Q E s:=by
 have ls:LocD nmN ρ nSelf (.rdW g ds):=locN hs (by kernel_rfl) (by decide +kernel) (by decide +kernel)
 have lm:LocD nmN ρ nModn (.str k):=locN hm (by kernel_rfl) (by decide +kernel) (by decide +kernel)
 have lf:LocD nmN ρ nFile fd:=locN hf (by kernel_rfl) (by decide +kernel) (by decide +kernel)
 refine wpAny_execs_cons (if_at (names_in hk I0 a o ls lm hkp (g_ne1 hk h1 a.I hg) λb W1 s1 a1 o1 hb hb'=>?_))
 clear hg h1 names_body
 cases b with
 | true =>
  refine wpAny_execs_cons (ret_value (names_sub hk I0 a1 o1 ls lm hkp (hb rfl).2 λv W2 s2 a2 o2 r=>?_))
  exact q v _ W2 s2 a2 o2 r
 | false =>
  have hfd':fd=.str (k++[47,102]):=hfd.elim id λz=>by cases hb' z
  clear hb' hfd hb
  subst hfd'
  refine wpAny_execs_nil ?_
  refine wpAny_execs_cons (if_at (wpAny_isTrue_Compare1 (name_local a1.F o1 lm.db lm.cd lm.loc lm.get λv r=>?_) rfl))
  have r':Rep W1 (.str k) v:=r
  clear lm
  obtain ⟨_,tk,rfl⟩:=r'
  refine attr_rd hk a1 o1 ls.loc ls.db ls.cd ls.get (λx d ms a n0 t0 t1 t2 t3 n=>ga_mods) (sel:=λms _=>.ref ms) λx dd ms a' W2 s2 L2 I2 o2 X=>?_
  obtain ⟨hp,bm,hms⟩:=X.ms
  refine wpAny_inSet_of (knd:=strKind pw zw) (k:=S k) str_is rfl (show s2.heap.SetOf (strKind pw zw) ms (λ_=>false) 0 from (setObjOf_fresh bm).setOf (by rw [o2.1];exact hms) (by decide)) (wpAny_truthy_bool ?_)
  refine wpAny_execs_nil ?_
  have a2:=a1.le I0 L2 I2
  have o2':=o2.tok (s2.toks+1)
  refine wpAny_execs_cons (wpAny_For (attr_rd hk a2 o2' ls.loc ls.db ls.cd ls.get (λx d ms a n0 t0 t1 t2 t3 n=>ga_mods) (sel:=λms _=>.ref ms) λx dd ms a' W3 s3 L3 I3 o3 X=>?_) (folded_pure λ_ _ _ e=>by cases e))
  clear o2' o2 I2 L2 a1 hms bm hp
  obtain ⟨hp3,bm3,hms3⟩:=X.ms
  refine for_set0 hh I0 (a2.le I0 L3 I3) o3 hms3 λW4 s4 a4 o4=>?_
  refine wpAny_execs_cons (if_at (tv_Compare BB hu a4.I (gva_loc a4.I a4.F lf).T (y:=.none) (λW' L I s Q E o p=>wpAny_Constant_none (p.at I o rfl)) (k:=4) rfl rfl rfl s4 _ _ o4 λW5 s5 L5 I5 o5=>?_))
  refine wpAny_execs_nil ?_
  have a5:=a4.le I0 L5 I5
  refine wpAny_execs_cons (wpAny_For (attr_rd hk a5 o5 ls.loc ls.db ls.cd ls.get (λx d ms a n0 t0 t1 t2 t3 n=>ga_dirs) (sel:=λ_ a=>.ref a) λx dd ms a' W6 s6 L6 I6 o6 X=>?_) (folded_pure λ_ _ _ e=>by cases e))
  clear ls o5 I5 L5 a4 s5 o4 s4 o s lf BB W4 hms3 o3 I3 L3 a2 bm3 hp3 s3 s2
  obtain ⟨ha,items,hli,hsz,htx⟩:=X.a
  clear X ms dd
  obtain ⟨hrr,hlen⟩:=txs_rep (W:=W6) htx
  have a6:=a5.le I0 L6 I6
  have rl:Rep W6 (.list (ds.map D.str)) (.ref a'):=by
   exact ⟨a',items,rfl,ha,hli,hsz,hrr⟩
  refine iter_at (d:=.list (ds.map D.str)) (xs:=ds.map D.str) a6.I o6 rfl rl λJ W7 s7 L7 I7 o7 hJ hJn it=>?_
  have hJ6:J∉W6.pv:=λz=>by
   obtain ⟨ob,e⟩:=a6.I.pvAl J z
   rw [hJn] at e;exact ns e
  have Fw:Fm (J::B) nmN env W6 ρ:=a6.F.weak λq hq hn hm=>by
   rcases List.mem_cons.mp hm with z | z
   ·exact hJ6 (z▸hq)
   ·exact hn z
  clear hJn rl o6 hrr hsz hli ha a' I6 L6 a5 htx X s6 ms dd W5 W3
  refine xEA (dloop (g:=g) (ds:=ds) (k:=k) ds ρ ⟨hs,hf,hm⟩ λd hd=>⟨hd,hlen d hd⟩) λρ' hnp hloop=>?_
  refine for_ok (f:=dF g ds k) hh I0 (x:=tx nD) (by kernel_rfl) (λW0 B ρ W ρ' fl h I0 a=>dF_ok hk hkp h I0 a) hloop (a6.le I0 L7 I7) hJ (λz=>hJ6 (a6.bs J z)) (Fw.later a6.I L7) it o7 λu W8 s8 a8 o8 hu=>?_
  clear o7 it L7 a6 Fw hJ6 hJ I7 hloop a W x hh hlen hm hf hs W6 s7 W7 items a' X ms dd W2
  cases hany:ds.any (λd=>prefT (d++[47]) (k++[47,102])) with
  | true =>
   rw [hany] at hu
   obtain ⟨v,rfl,r⟩:=hu
   exact q v ρ' W8 s8 a8 o8 r
  | false =>
   rw [hany] at hu
   have hu':u=.next:=hu
   clear hu J ρ x a'
   subst hu'
   have hz:(0:Int)=ans ds k:=by rw [ans_eq,hany];rfl
   exact set_ret hk I0 a8 o8 (locN hnp.s (by kernel_rfl) (by decide +kernel) (by decide +kernel)) (locN hnp.m (by kernel_rfl) (by decide +kernel) (by decide +kernel)) hkp hz λv W9 s9 a9 o9 r=>q v ρ' W9 s9 a9 o9 r
end
end
noncomputable def mapD (f:D->Option D):List D->Option (List D)
 | []=>some []
 | d::r=>match f d with
  | some x=>(mapD f r).map (x::·)
  | none=>none
noncomputable def isIg:D->Bool
 | .at a=>Nat.beq a 159
 | _=>false
theorem isIg_eq {f:D}(h:isIg f=true):f=.at 159:=by
 cases f with
 | «at» a=>exact congrArg D.at (Nat.eq_of_beq_eq_true h)
 | _=>exact nf h
noncomputable def isNo:D->Bool
 | .none=>true
 | _=>false
theorem isNo_eq {f:D}(h:isNo f=true):f=.none:=by
 cases f with
 | none=>rfl
 | _=>exact nf h
noncomputable def dirsOf:List D->Option (List D)
 | [a,b]=>if isNo a then (listC b).map (·.xs) else none
 | _=>none
theorem dirsOf_eq {as ds:List D}(h:dirsOf as=some ds):as=[.none,.list ds]:=by
 cases as with
 | nil=>exact ns h
 | cons a r =>
  cases r with
  | nil=>exact ns h
  | cons b q =>
   cases q with
   | cons _ _=>exact ns h
   | nil =>
    obtain ⟨h1,h2⟩:=ite_val h
    obtain rfl:=isNo_eq h1
    refine xEA (Option.map_eq_some_iff.mp h2) λhh0 _ ee2=>?_
    obtain ⟨xs,rfl⟩:=hh0
    subst ee2
    rfl
noncomputable def own (cal:D->List D->Option D)(f:D)(as:List D):Option D :=
 if isIg f then (dirsOf as).bind λds=>(mapD (λd=>cal (.at 136) [d]) ds).bind λxs=>(strsD xs).bind λts=>if ts.all (λt=>Nat.ble t.length 1000) then some (.rd ts []) else none else none
theorem own_inv {cal:D->List D->Option D}{f d:D}{as:List D}(h:own cal f as=some d) :
  f=.at 159/\∃ ds xs ts,as=[.none,.list ds]/\mapD (λd=>cal (.at 136) [d]) ds=some xs/\strsD xs=some ts/\(ts.all λt=>Nat.ble t.length 1000)=true/\d=.rd ts []:=by
 obtain ⟨h1,h⟩:=ite_val h
 refine xEA (bd_inv h) λds h2 h=>?_
 refine xEA (bd_inv h) λxs h3 h=>?_
 refine xEA (bd_inv h) λts h4 h=>?_
 obtain ⟨h5,h⟩:=ite_val h
 exact ⟨isIg_eq h1,ds,xs,ts,dirsOf_eq h2,h3,h4,h5,(sq h).symm⟩
theorem own_of {cal:D->List D->Option D}{ds xs:List D}{ts:List Tx}(h1:mapD (λd=>cal (.at 136) [d]) ds=some xs)(h2:strsD xs=some ts)(h3:(ts.all λt=>Nat.ble t.length 1000)=true):own cal (.at 159) [.none,.list ds]=some (.rd ts []):=by
 show ((mapD (λd=>cal (.at 136) [d]) ds).bind λxs=>(strsD xs).bind λts=>if ts.all (λt=>Nat.ble t.length 1000) then some (D.rd ts []) else none)=_
 rw [h1]
 show ((strsD xs).bind λts=>if ts.all (λt=>Nat.ble t.length 1000) then some (D.rd ts []) else none)=_
 rw [h2]
 exact if_pos h3
section
open PySem.Calls
noncomputable def iv1:Expr:=(Expr.IfExp (Expr.UnaryOp UnaryOp.Not (Expr.Name (.ofString "modules") ⟨123,34,123,41⟩) ⟨123,30,123,41⟩) (Expr.Call (Expr.Name (.ofString "set") ⟨123,21,123,24⟩) [] [] ⟨123,21,123,26⟩) (Expr.Call (Expr.Name (.ofString "set") ⟨123,47,123,50⟩) [Expr.Name (.ofString "modules") ⟨123,51,123,58⟩] [] ⟨123,47,123,59⟩) ⟨123,21,123,59⟩)
noncomputable def iv2:Expr:=(Expr.IfExp (Expr.UnaryOp UnaryOp.Not (Expr.Name (.ofString "dirs") ⟨124,31,124,35⟩) ⟨124,27,124,35⟩) (Expr.List [] ⟨124,21,124,23⟩) (Expr.ListComp (Expr.Call (Expr.Name (.ofString "normpath") ⟨124,42,124,50⟩) [Expr.Name (.ofString "d") ⟨124,51,124,52⟩] [] ⟨124,42,124,53⟩) [{ target:=Expr.Name (.ofString "d") ⟨124,58,124,59⟩,iter:=Expr.Name (.ofString "dirs") ⟨124,63,124,67⟩,ifs:=[],is_async:=Int.ofNat 0 }] { kind:=ScopeKind.function,names:=[((.ofString ".0"),NameKind.local),((.ofString "d"),NameKind.local),((.ofString "normpath"),NameKind.globalImplicit)],isGenerator:=false,isCoroutine:=false } ⟨124,41,124,68⟩) ⟨124,21,124,68⟩)
noncomputable def iv3:Expr:=(Expr.Dict [some (Expr.Constant (Const.str (.ofString "<string>")) 0 ⟨125,24,125,34⟩)] [Expr.Constant (Const.int (Int.ofNat 1)) 0 ⟨125,36,125,37⟩] ⟨125,23,125,38⟩)
noncomputable def initBody:List Stmt:=[Stmt.Assign [Expr.Attribute (Expr.Name (.ofString "self") ⟨123,8,123,12⟩) (.ofString "_mods") ⟨123,8,123,18⟩] iv1 ⟨123,8,123,59⟩,Stmt.Assign [Expr.Attribute (Expr.Name (.ofString "self") ⟨124,8,124,12⟩) (.ofString "_dirs") ⟨124,8,124,18⟩] iv2 ⟨124,8,124,68⟩,Stmt.Assign [Expr.Attribute (Expr.Name (.ofString "self") ⟨125,8,125,12⟩) (.ofString "_ignore") ⟨125,8,125,20⟩] iv3 ⟨125,8,125,38⟩]
theorem init_eq:(dM 19 "__init__").2.1=initBody:=by kernel_rfl
noncomputable abbrev nmI:List (Str×NameKind):=(dM 19 "__init__").2.2.names
noncomputable def tDirs:Tx:=[100,105,114,115]
noncomputable def tMods:Tx:=[109,111,100,117,108,101,115]
noncomputable def tSelf:Tx:=[115,101,108,102]
noncomputable def tNorm:Tx:=[110,111,114,109,112,97,116,104]
noncomputable def meDirs:ME:=.ite (.not (.loc tDirs)) (.lst []) (.comp (.call (.glo tNorm) [.loc [100]]) [([100],.loc tDirs,[])] [])
theorem cv_iv2:cv K nmI iv2=meDirs:=by kernel_rfl
theorem mapD_len {f:D->Option D}:∀ {ds xs:List D},mapD f ds=some xs->xs.length=ds.length:=by
 intro qq
 induction qq with
 | nil =>
  intro _ h
  cases h;rfl
 | cons d r ih =>
  intro xs h
  unfold mapD at h
  cases hf:f d with
  | none=>rw [hf] at h;exact ns h
  | some x =>
   rw [hf] at h
   refine xEA (Option.map_eq_some_iff.mp h) λys h1 ee2=>?_
   subst ee2
   simp [ih h1]
theorem flat_mapD {f:D->Option D}{g:D->Option (List D)}(hg:∀ d,g d=(f d).map λx=>[x]):∀ {ds xs:List D},mapD f ds=some xs->flat g ds=some xs:=by
 intro qq
 induction qq with
 | nil =>
  intro _ h
  cases h;rfl
 | cons d r ih =>
  intro xs h
  unfold mapD at h
  unfold flat
  rw [hg]
  cases hf:f d with
  | none=>rw [hf] at h;exact ns h
  | some x =>
   rw [hf] at h
   refine xEA (Option.map_eq_some_iff.mp h) λys h1 ee2=>?_
   subst ee2
   have:=ih h1
   simp only [Option.map_some,this]
   rfl
theorem ev_elt {cal:D->List D->Option D}(d:D):eg cal G 38 (setR (frees [] []) [100] (.d d)) (.call (.glo tNorm) [.loc [100]]) [] []=(cal (.at 136) [d]).map λx=>[x]:=by
 have e:ev cal G 37 (setR (frees [] []) [100] (.d d)) (.call (.glo tNorm) [.loc [100]])=cal (.at 136) [d]:=by
  have hG:G tNorm=some (.at 136):=by kernel_rfl
  show (match G tNorm with
   | some (.bi 0)=>(match evt cal G 36 (setR (frees [] []) [100] (.d d)) (.loc [100]) with | some x=>biD 0 [x] | none=>none)
   | some fv=>(match ev cal G 36 (setR (frees [] []) [100] (.d d)) (.loc [100]) with | some x=>appD cal fv [x] | none=>none)
   | none=>none)=_
  rw [hG]
  rfl
 show (ev cal G 37 (setR (frees [] []) [100] (.d d)) (.call (.glo tNorm) [.loc [100]])).map _=_
 rw [e]
theorem ev_dirs {cal:D->List D->Option D}{ds xs:List D}{v:EV}{m:EV}(h:mapD (λd=>cal (.at 136) [d]) ds=some xs)(hz:ds.length<=lim) :
  ev cal G K [(tDirs,.d (.list ds)),(tMods,m),(tSelf,v)] meDirs=some (.list xs):=by
 cases ds with
 | nil=>cases h;rfl
 | cons d r =>
  show (match flat (λi=>eg cal G 38 (setR (frees [] []) [100] (.d i)) (.call (.glo tNorm) [.loc [100]]) [] []) (d::r) with
   | some r=>if Nat.ble r.length lim=true then some (D.list r) else none
   | none=>none)=_
  rw [flat_mapD ev_elt h]
  dsimp only
  rw [if_pos (Nat.ble_eq_true_of_le (by rw [mapD_len h];exact hz))]
section
variable {A:Around}{W W':Wd}{P:Params}{s:Shared}{E:Value->Shared->Prop}
theorem fok_of (hk:∀ a o,(H1 P).get? a=some o->zh.get? a=some o){a c:Addr}{x q:String}{d:Arguments×List Stmt×Scope}{df m:Value}{vs:Array Value}{t:Tok}(hc:fnChk d=true)(ht:a∉tabs)
  (g1:(H1 P).get? a=some { cls:=.type "function",data:=.func (fdOf x q d 3 df m (.ref c)) }) (g2:(H1 P).get? c=some { cls:=.type "code",data:=.fields vs }) (g3:vs[1]? = some (.str (.ofString q) t)) (g4:c∉tabs)
  (g5:df=.none\/∃ T ob items n,df=.ref T/\(H1 P).get? T=some ob/\ob.data=.seq items n/\T∉tabs) (hcd:codeOf d.2.2.names=none) :
  FunOk a (mfOf d) { cls:=.type "function",data:=.func (fdOf x q d 3 df m (.ref c)) } (fdOf x q d 3 df m (.ref c)) d.2.1 K (d.1.args.map (·.arg)) (d.1.vararg.map (·.arg)) (d.1.kwarg.map (·.arg)):=by
 refine ⟨sig_of hc (λc' e=>by rw [hcd] at e;cases e),hk _ _ g1,rfl,rfl,rfl,rfl,?_,⟨c,_,vs,t,rfl,hk _ _ g2,rfl,g3,g4⟩,ht⟩
 clear ht g4 g3 g2 t vs g1 hcd hc a fok_of
 rcases g5 with rfl | ⟨T,ob,items,n,e1,e2,e3,e4⟩
 ·exact .inl rfl
 ·exact .inr ⟨T,ob,items,n,e1,hk _ _ e2,e3,e4⟩
theorem fok149 (hk:∀ a o,(H1 P).get? a=some o->zh.get? a=some o):∃ o fd body k ps va kw,FunOk 149 (mfOf (dM 19 "__init__")) o fd body k ps va kw/\body=initBody/\fd.scope.names=nmI :=
 ⟨_,_,_,_,_,_,_,fok_of hk (by kernel_rfl) (by decide) rfl rfl rfl (by decide) (.inr ⟨144,_,_,_,rfl,rfl,rfl,by decide⟩) (by kernel_rfl),init_eq,rfl⟩
theorem fok156 (hk:∀ a o,(H1 P).get? a=some o->zh.get? a=some o):∃ o fd body k ps va kw,FunOk 156 (mfOf (dM 19 "names")) o fd body k ps va kw/\body=(dM 19 "names").2.1/\fd.scope.names=(dM 19 "names").2.2.names :=
 ⟨_,_,_,_,_,_,_,fok_of hk (by kernel_rfl) (by decide) rfl rfl rfl (by decide) (.inl rfl) (by kernel_rfl),rfl,rfl⟩
noncomputable def KI (P:Params):Frag:=(159,obj P 159)::(158,obj P 158)::(149,obj P 149)::(156,obj P 156)::[]
theorem KI_in (hk:∀ a o,(H1 P).get? a=some o->zh.get? a=some o)(I:Inv W):(KI P).In W.h:=by
 intro a o e
 have key:∀ b,(∃ o',(H1 P).get? b=some o')->(H1 P).get? b=some (obj P b):=λb ⟨o',h⟩=>by unfold obj;rw [h]
 have h159:=I.at (hk _ _ (key 159 ⟨_,rfl⟩)) (by decide)
 have h158:=I.at (hk _ _ (key 158 ⟨_,rfl⟩)) (by decide)
 have h149:=I.at (hk _ _ (key 149 ⟨_,rfl⟩)) (by decide)
 have h156:=I.at (hk _ _ (key 156 ⟨_,rfl⟩)) (by decide)
 unfold KI at e
 simp only [List.lookup_cons] at e
 split at e
 ·rename_i q;cases e;rw [beq_iff_eq.mp q];exact h159
 ·split at e
  ·rename_i q;cases e;rw [beq_iff_eq.mp q];exact h158
  ·split at e
   ·rename_i q;cases e;rw [beq_iff_eq.mp q];exact h149
   ·split at e
    ·rename_i q;cases e;rw [beq_iff_eq.mp q];exact h156
    ·exact ns e
theorem ki_makes (P:Params):makesIn (KI P) 159=true:=by kernel_rfl
theorem ki_init (P:Params):findIn (KI P) (.ref 159) "__init__" = some (some (.ref 149)):=by kernel_rfl
theorem ki_type (P:Params):typeIn (KI P) (.ref 149)=some (.type "function"):=by kernel_rfl
theorem ki_keep (P:Params):keepIn (KI P) (.ref 159)=true:=by kernel_rfl
theorem cls_keep (hk:∀ a o,(H1 P).get? a=some o->zh.get? a=some o)(I:Inv W):Keep A W (.ref clsIg):=λW' _ I'=>by
 refine xEA (looks_keep (M:=Mo) (ki_keep P) (KI_in hk I')) λk h1 h2=>?_
 exact ⟨k,h1.elim .inl λe=>.inr (.inl e),λQ E s o q=>h2 A Q E s (λb o' e=>by rw [o.1];exact e) q⟩
end
end
section
open PySem.Calls
theorem rd_kind {od:D}(h:isRd od=true):(∃ ds c,od=.rd ds c)\/∃ g ds,od=.rdW g ds:=by
 cases od with
 | rd ds c=>exact .inl ⟨ds,c,rfl⟩
 | rdW g ds=>exact .inr ⟨g,ds,rfl⟩
 | _=>exact nf h
noncomputable def ansM:List Nat:=[0,2,2,3,0,2,2,3,0,2,2,3,4,0,1]
theorem gm_look {x d ms a g:Addr}{t1 t2 t3:Tok}{n:Nat}{pl:Sem Bool} :
  GlOk (gl (asG x d) (osG d ms a g t1 t2 t3 n) ⟨pw,zw.params⟩ (getMethod (.ref x) (S mNames) pl) ansM []) (.ref 156,[.ref x]):=⟨by kernel_rfl,by kernel_rfl⟩
theorem binds156 (a b c:D):binds (mfOf (dM 19 "names")) [a,b,c]=some (setR (setR (setR [] (tx nSelf) (.d a)) (tx nFile) (.d b)) (tx nModn) (.d c)):=by kernel_rfl
section
variable {A:Around}{W W' W0:Wd}{B:List Addr}{s:Shared}{E:Value->Shared->Prop}{g:Addr}{ds:List Tx}{k:Tx}{d fd:D}
variable (hk:∀ a o,(H1 zw.params).get? a=some o->zh.get? a=some o)
include hk
theorem names_call (h1:∃ o,zh.get? 1=some o)(BB:Bs)(hlim:zh.NoLimit)(hcs:cStatics∉tabs)(hr:Rm 0 A)(I:Inv W){x:Addr}(hx:RdAt W g ds [] (.ref x))(hkp:k∈plc)(hfd:fd=.str (k++[47,102])\/IgAt W.h g ds [k])
  {vs:List Value} (rs:Reps W [fd,.str k] vs):Gv A (call (.ref 156) (.ref x::vs)) W (.got g k (ans ds k)):=by
 obtain ⟨o,fd',body,kk,ps,va,kw,F,rfl,hnm⟩:=fok156 (P:=zw.params) hk
 intro s Q E ok po
 have hg:W.ig.lookup g=some ds:=by
  refine xEEEEA (hx.parts) λx' d ms a e X=>?_
  exact X.g.2.1
 have rs':Reps W [.rdW g ds,fd,.str k] (.ref x::vs):=by
  exact ⟨_,_,rfl,hx,rs⟩
 refine wpAny_call (code_fun (Pd:=λW' v=>Rep W' (.got g k (ans ds k)) v) (X:=[]) F hr.room hlim hcs (binds156 _ _ _) I rs' (λW1 W2 env L1 I1 a2 s2 Q2 E2 o2 p2=>?_) ok λv W' s' L I' o' r=>po v W' s' L I' o' r)
 rw [hnm] at a2
 obtain ⟨X,LX,_⟩:=id a2.L
 rw [nmBody_eq]
 refine names_body (A:=A.deeper env) hk h1 BB hr.h (by have:=hr.u;show A.units+3+2 < 9900;exact Nat.lt_of_le_of_lt (Nat.le_trans (Nat.add_le_add_left (show 5<=100 * (0+1) by decide) A.units) this) (show 9000 < 9900 by decide)) I1 a2 (by rw [getR_setR,if_neg (by decide +kernel),getR_setR,if_neg (by decide +kernel),getR_setR,if_pos (by decide +kernel)]) (by rw [getR_setR,if_neg (by decide +kernel),getR_setR,if_pos (by decide +kernel)]) (by rw [getR_setR,if_pos (by decide +kernel)]) hkp
  (LX.ig g ds (L1.ig g ds hg)) (hfd.elim .inl λz=>.inr (LX.igMono g ds [k] (L1.ig g ds hg) (L1.igMono g ds [k] hg z))) o2 λv ρ' W3 s3 a3 o3 r=>?_
 exact p2 _ W3 s3 (a3.L.all λ_ h=>h) a3.I o3 ⟨v,.inl rfl,r⟩
theorem rd_ok (h1:∃ o,zh.get? 1=some o)(BB:Bs)(hlim:zh.NoLimit)(hcs:cStatics∉tabs)(hr:Rm 0 A){od:D}{m:Tx}{as:List D}(hod:isRd od=true)(h:methD od m as=some d)(I:Inv W){ov:Value}(r:Rep W od ov):MethAt A W ov (S m) as d:=by
 obtain ⟨o6,fd6,body6,k6,ps6,va6,kw6,F,_,_⟩:=fok156 (P:=zw.params) hk
 have base:∀ {x:Addr} {g:Addr} {ds:List Tx},RdAt W g ds [] (.ref x)->m=mNames->(∀ vs W2,Le [] W W2->Inv W2->Reps W2 as vs->Gv A (call (.ref 156) (.ref x::vs)) W2 d)->MethAt A W (.ref x) (S m) as d:=by
  intro x g ds hx em hc
  subst em
  refine xEEEEA (hx.parts) λx' d' ms a e X=>?_
  cases e
  obtain ⟨t1,t2,t3,n,ha⟩:=rdx_all hk I X
  refine ⟨.ref 156,[.ref x],λpl s Q E o q=>gl_at ansM _ gm_look (by rw [o.1];exact ha) q,?_,hc⟩
  have og:=I.at F.get F.tab
  exact Keep.func I og (λz=>nomatch I.base.pv 156 _ F.get (λz=>nomatch z) z) (by rw [F.cls];nofun) (by rw [F.cls];decide) F.dat
 have nil:∀ {g:Addr} {ds c:List Tx} {v:Value},RdAt W g ds c v->RdAt W g ds [] v:=by
  intro g ds c v hx
  refine xEEEEA (hx.parts) λx d ms a ee4 X=>?_
  subst ee4
  exact (show RdX W g ds [] x d ms a from ⟨X.x,X.d,X.ms,X.a,X.g.1,X.g.2.1,X.g.2.2.nil⟩).at
 have hP:∀ {W2:Wd},∀ a∈([]:List Addr),a∈W2.pv:=λ_ h=>nomatch h
 have plcOf:∀ {k:Tx},plc.any (eqT k)=true->k∈plc:=λh=>by
  refine xEA (List.any_eq_true.mp h) λy h1 h2=>?_
  rw [eqT_iff.mp h2];exact h1
 rcases rd_kind hod with ⟨ds,c,rfl⟩ | ⟨g,ds,rfl⟩
 ·clear hod
  refine xEA (bd_inv (show ((args2 as).bind λq=>methR ds c m q.1 q.2)=some d from h)) λq ha h2=>?_
  clear h
  obtain ⟨f,k⟩:=q
  obtain rfl:=args2_ok ha
  clear ha
  obtain ⟨hc,h3⟩:=ite_val (show (if eqT m mNames&&plc.any (eqT k) then
   ob (strC f) (λy=>if eqT y.s (k++[47,102]) then some (.int (ans ds k)) else none) (if isNone f&&c.any (eqT k) then some (.int (ans ds k)) else none) else none)=some d from h2)
  clear h2
  rw [Bool.and_eq_true] at hc
  have em:=eqT_iff.mp hc.1
  have hkp:=plcOf hc.2
  clear hc plcOf
  obtain ⟨g,hx⟩:=r
  refine xEEEEA (id hx.parts) λx d' ms a ee4 X=>?_
  subst ee4
  have fin:some (D.int (ans ds k))=some d->(∀ W2,Le [] W W2->f=.str (k++[47,102])\/IgAt W2.h g ds [k])->MethAt A W (.ref x) (S m) [f,.str k] d:=by
   intro ed hfd
   refine base (nil hx) em λvs W2 L2 I2 rs s Q E o p=>?_
   exact names_call hk h1 BB hlim hcs hr I2 ((nil hx).mono I L2.toLe0 hP) hkp (hfd W2 L2) rs s Q E o λv W3 s3 L3 I3 o3 r3=>p v W3 s3 L3 I3 o3 (sq ed▸r3.1)
  rcases ob_inv h3 with ⟨y,-,h4⟩ | ⟨-,h4⟩
  ·obtain ⟨hy,h5⟩:=ite_val h4
   exact fin h5 λW2 _=>.inl (by rw [y.e,eqT_iff.mp hy])
  ·obtain ⟨hy,h5⟩:=ite_val h4
   rw [Bool.and_eq_true] at hy
   refine xEA (List.any_eq_true.mp hy.2) λy h6 h7=>?_
   obtain rfl:=eqT_iff.mp h7
   refine fin h5 λW2 L2=>.inr (L2.igMono g ds [k] X.g.2.1 ?_)
   obtain ⟨kvs,q1,q2,q3⟩:=X.g.2.2
   exact ⟨kvs,q1,q2,λz hz=>by rw [List.mem_singleton] at hz;subst hz;exact q3 _ h6⟩
 ·clear hod
  refine xEA (bd_inv (show ((args2 as).bind λq=>methW g ds m q.1 q.2)=some d from h)) λq ha h2=>?_
  clear h
  obtain ⟨f,k⟩:=q
  obtain rfl:=args2_ok ha
  clear ha
  refine xEA (bd_inv (show ((strC f).bind λy=>if eqT m mNames&&plc.any (eqT k)&&eqT y.s (k++[47,102]) then some (.got g k (ans ds k)) else none)=some d from h2)) λy _ h3=>?_
  clear h2
  obtain ⟨hc,h4⟩:=ite_val h3
  obtain rfl:=sq h4
  simp only [Bool.and_eq_true] at hc
  obtain ⟨⟨h5,h6⟩,h7⟩:=hc
  refine xEEEEA (id (RdAt.parts r)) λx d' ms a ee4 X=>?_
  subst ee4
  refine base r (eqT_iff.mp h5) λvs W2 L2 I2 rs s Q E o p=>?_
  exact names_call hk h1 BB hlim hcs hr I2 (RdAt.mono I L2.toLe0 hP r) (plcOf h6) (.inl (by rw [y.e,eqT_iff.mp h7])) rs s Q E o p
end
end
section
open PySem.Calls
noncomputable def slAt (N:List Obj)(i j:Nat):Value:=((N.getD i default).slots.toList.getD j none).getD .none
noncomputable def fiAt (N:List Obj)(i j:Nat):Value:=match (N.getD i default).data with | .fields vs=>vs.toList.getD j .none | _=>.none
noncomputable def boolOf:Value->Bool | .bool b=>b | _=>false
noncomputable def kqOf (N:List Obj)(m ce:Nat)(fv:Value)(n i0 i1:Nat)(c0 c1:Nat):KQ where
 k:=m+(n+2)
 ns:=m+(n+1)
 md:=m+(n+3)
 f0:=m+i0
 f1:=m+i1
 ce:=ce
 c0:=c0
 c1:=c1
 fv:=fv
 b:=boolOf (slAt N (n+2) 5)
 ep:=epAt N (n+1)
 u:=λj=>match j with | 20=>tkOf (fiAt N (n+3) 0) | 21=>tkOf (fiAt N (n+3) 4) | j=>tkOf (entAt N (n+1) j).key
 h:=λj=>(entAt N (n+1) j).hash
 v:=λj=>match j with | 0=>slAt N (n+2) 0 | 1=>slAt N (n+2) 2 | 2=>slAt N (n+2) 3 | 3=>(entAt N (n+1) 0).val | 4=>(entAt N (n+1) 1).val | 5=>(entAt N (n+1) 2).val | 6=>(entAt N (n+1) 5).val | 7=>(entAt N (n+1) 6).val | 8=>(entAt N (n+1) 7).val | 9=>(entAt N (n+1) 8).val | 10=>(entAt N (n+1) 9).val | 11=>(entAt N (n+1) 10).val | 12=>(entAt N (n+1) 12).val | 13=>(fdAt N i0).pyModule | 14=>(fdAt N i1).pyModule | _=>(fdAt N i1).closureTuple
namespace KX
variable (X:KX)
noncomputable def M1:List Obj:=(okS (X.ren1)).news
noncomputable def kq1:KQ:=kqOf (X.M1) X.m X.c X.fv 56 14 22 (X.m+13) (X.m+21)
end KX
end
section
open PySem.Calls
open KP (pair)
namespace KQ
variable (q:KQ){A:Around}{W W':Wd}{s:Shared}{E:Value->Shared->Prop}{R:Result->Shared->Prop}
theorem bodyL:(mK "__lt__").2.1=[Stmt.Return (some (Expr.Compare (Expr.Call (Expr.Name (.ofString "mycmp") ⟨157,19,157,24⟩) [aE 0,aE 1] [] ⟨157,19,157,45⟩) [.Lt] [Expr.Constant (Const.int 0) 0 ⟨157,48,157,49⟩] ⟨157,19,157,49⟩)) ⟨157,12,157,49⟩]:=by kernel_rfl
theorem bL (m t:Nat)(a b:Value):RunOk (runN (m+262) t [] [] [] 0 [] 30 (bindArgs q.fdL ⟨[a,b],[]⟩)) [(.ofString "self",a),(.ofString "other",b)] [] [] 0 :=
 ⟨by kernel_rfl,by kernel_rfl,by kernel_rfl,by kernel_rfl,by kernel_rfl,by kernel_rfl,by kernel_rfl,by kernel_rfl⟩
noncomputable def rL (m t:Nat)(a b:Value):Option (Out Env×FS):=runN (m+262) t [] [] [] 0 [.new 0,.new 0,.new 0,.new 0] 30 (newFunctionEnv q.fdL.scope q.fdL.globals q.fdL.closure [(.ofString "self",a),(.ofString "other",b)] (q.fdL.qualname ++ ".<locals>.") (some (q.f1+262)) q.fdL.code none q.fdL.builtins)
noncomputable def lN (m t:Nat)(a b:Value):List Obj:=(okS (q.rL m t a b)).news
theorem rL_ok (m t:Nat)(i j:Nat):RunOk (q.rL m t (.ref i) (.ref j)) (q.lE (m+262)) (q.lN m t (.ref i) (.ref j)) [] 2 :=
 ⟨by kernel_rfl,by kernel_rfl,rfl,by kernel_rfl,by kernel_rfl,by kernel_rfl,by kernel_rfl,by kernel_rfl⟩
theorem lN_is (m t:Nat)(i j:Nat):q.lN m t (.ref i) (.ref j)=[frO (entAt (q.lN m t (.ref i) (.ref j)) 0 0).hash (entAt (q.lN m t (.ref i) (.ref j)) 0 1).hash (tkOf (entAt (q.lN m t (.ref i) (.ref j)) 0 0).key) (tkOf (entAt (q.lN m t (.ref i) (.ref j)) 0 1).key) (.ref i) (.ref j)]:=by kernel_rfl
theorem cmpN (L:Nat):GlOk (gl [q.ce+262] [q.ceO] ⟨pw,zw.params⟩ (eval (Expr.Name (.ofString "mycmp") ⟨157,19,157,24⟩) (q.lE L)) [0] []) q.fv:=⟨by kernel_rfl,by kernel_rfl⟩
theorem nd_A (h1:[q.k,q.ns,q.md,q.f0,q.f1,q.ce].Nodup){i L:Nat}(hi:i∉[q.k,q.ns,q.md,q.f0,q.f1,q.ce])(hL:L∉[q.k,q.ns,q.md,q.f0,q.f1,q.ce])(hiL:i≠L):(q.asA i L).Nodup:=by
 refine List.nodup_append.mpr ⟨q.nd_of h1,by simp;omega,λa ha b hb=>?_⟩
 have e:q.as=[q.k,q.ns,q.md,q.f0,q.f1,q.ce].map (λi=>i+262)++[cStatics]:=rfl
 rw [e,List.mem_append] at ha
 simp only [List.mem_cons,List.not_mem_nil,or_false] at hb
 rcases ha with ha | ha
 ·refine xEA (List.mem_map.mp ha) λz hz ee2=>?_
  subst ee2
  rcases hb with rfl | rfl
  ·intro h
   have:z=i:=Nat.add_right_cancel (show z+262=i+262 from h)
   exact hi (this▸hz)
  ·intro h
   have:z=L:=Nat.add_right_cancel (show z+262=L+262 from h)
   exact hL (this▸hz)
 ·rw [List.mem_singleton] at ha
  subst ha
  show (2:Nat)≠b
  rcases hb with rfl | rfl<;>omega
theorem not_in {W:Wd}{f:D}(K:KAt W q f){i:Nat}{o:Obj}(hi:St W (i+262) o)(hc:o.cls=.ref (q.k+262)\/o.cls=.type "frame"):i∉[q.k,q.ns,q.md,q.f0,q.f1,q.ce]:=by
 intro h
 have ne:∀ {b:Nat} {o':Obj},St W (b+262) o'->o'.cls≠.ref (q.k+262)/\o'.cls≠.type "frame" -> i≠b:=λx hx e=>by
  subst e
  have:=x.get.symm.trans hi.get
  have e2:=Option.some.inj this
  clear hi x
  subst e2
  rcases hc with hc | hc
  ·exact hx.1 hc
  ·exact hx.2 hc
 simp only [List.mem_cons,List.not_mem_nil,or_false] at h
 rcases h with h | h | h | h | h | h
 ·exact ne K.k ⟨by show Value.type _≠_;nofun,by show Value.type "type" ≠ Value.type "frame";decide⟩ h
 ·exact ne K.ns ⟨by show Value.type _≠_;nofun,by show Value.type "dict" ≠ Value.type "frame";decide⟩ h
 ·exact ne K.md ⟨by show Value.type _≠_;nofun,by show Value.type "member_descriptor" ≠ Value.type "frame";decide⟩ h
 ·exact ne K.f0 ⟨by show Value.type _≠_;nofun,by show Value.type "function" ≠ Value.type "frame";decide⟩ h
 ·exact ne K.f1 ⟨by show Value.type _≠_;nofun,by show Value.type "function" ≠ Value.type "frame";decide⟩ h
 ·exact ne K.ce ⟨by show Value.type _≠_;nofun,by show Value.type "cell" ≠ Value.type "frame";decide⟩ h
section
variable (hk:∀ a o,(H1 zw.params).get? a=some o->zh.get? a=some o)
include hk
theorem attr_W (h261:∃ o,zh.get? 261=some o){f:D}(I:Inv W)(K:KAt W q f){i L d:Nat}{y:Tx}{ty:Nat}{fr:Obj}{e:Expr}(hok:∀ m t,q.AOk1 m t i L d (.str (Mine.S y) ty) fr e)(hi:St W (i+262) (q.inO d #[some (.str (Mine.S y) ty)]))(hL:St W (L+262) fr)(hf:fr.cls=.type "frame") (hy:y.length<=lim) :
  GvA A (eval e (q.lE (L+262))) W (.str y):=by
 intro W' L' I' s Q E o p
 have K':=K.later I L'
 have hi':=hi.later L'
 have hL':=hL.later L'
 have hh:s.heap=W'.h:=o.1
 refine q.attr_at (by rw [hh];exact big_at h261 I') hok (by rw [hh];exact KAt.all hk I' K') (by rw [hh];exact hi'.get) (by rw [hh];exact hL'.get) (q.nd_A K.nd (q.not_in K' hi' (.inl rfl)) (q.not_in K' hL' (.inr hf)) λe=>?_) λs' ad=>?_
 ·clear K' K hh hk hok h261 L' hL hi I E f attr_W
  subst e
  have:=hi'.get.symm.trans hL'.get
  have e2:=Option.some.inj this
  rw [<-e2] at hf
  exact absurd hf (by show Value.ref _≠Value.type _;nofun)
 ·refine xAA (adds_W I' o ad) λL2 I2 o2=>?_
  exact p _ _ _ L2 I2 o2 ⟨hy,ty,rfl⟩
theorem lt_W (B:Bs)(h261:∃ o,zh.get? 261=some o)(hlim:zh.NoLimit){f:D}{n:Nat}{cal:D->List D->Option D}(hc:CalOk cal n)(hkp:∀ A' f as d,cal f as=some d->∀ W fv,Inv W->Rep W f fv->Keep A' W fv)
  (I:Inv W) (K:KAt W q f) (rm:∀ env,Rm n (A.deeper env)) (hroom:A.depth < recursionLimit) {i j di dj:Nat} {y z:Tx} {ty tz:Nat} (hi:St W (i+262) (q.inO di #[some (.str (Mine.S y) ty)])) (hj:St W (j+262) (q.inO dj #[some (.str (Mine.S z) tz)])) (hy:y.length<=lim) (hz:z.length<=lim)
  {r:Int} (hr:cal f [.str y,.str z]=some (.int r)) {Q:Value->Shared->Prop} (o:Ok W s) (p:∀ W' s',Le [] W W'->Inv W'->Ok W' s'->Q (.bool (decide (r < 0))) s'):wpAny (model pw zw) A (call (.ref (q.f1+262)) [.ref (i+262),.ref (j+262)]) Q E s:=by
 obtain ⟨m,hm⟩:=big_at h261 I
 have hh:s.heap=W.h:=o.1
 have hm':s.heap.objs.size=m+262:=by rw [hh];exact hm
 refine wpAny_call ?_
 refine codeAny_call_function (fd:=q.fdL) (body:=(mK "__lt__").2.1) hroom (by rw [hh];exact K.f1.get) rfl (by kernel_rfl) (by kernel_rfl) rfl ?_ ?_
 ·obtain ⟨oc,vs,t,x,e1,e2⟩:=K.c1
  exact ⟨q.c1+262,oc,vs,t,rfl,by rw [hh];exact x.get,e1,e2⟩
 have R0:Rel (m+262) s.toks [] s.heap s (fs [] [] 0) s:=⟨hm',λi o h=>by simp at h,λj a o h=>by simp at h,λ_ _ e _=>e,rfl,rfl,rfl,rfl⟩
 refine go_run (s0:=s) [] 30 _ _ _ _ hm' List.nodup_nil (λ_ h=>nomatch h) R0 (q.bL m s.toks _ _) λs1 R1=>?_
 refine go_run (s0:=s) [.new 0,.new 0,.new 0,.new 0] 30 (q.lE (m+262)) (q.lN m s.toks (.ref (i+262)) (.ref (j+262))) [] 2 hm' List.nodup_nil (λ_ h=>nomatch h) R1 (q.rL_ok m s.toks (i+262) (j+262)) λs2 R2=>?_
 have ad:Adds (q.lN m s.toks (.ref (i+262)) (.ref (j+262))) 2 s s2:=by
  have R2':=R2
  rw [<-hm'] at R2'
  exact Rel.added (as:=[]) (O:=[]) trivial R2'
 refine xAA (adds_W I o ad) λL1 I1 o1=>?_
 have g0:=ad.new 0 (KQ.fr0 i _ _ _ _ (.ref (j+262))) ((congrArg (λl=>l[0]?) (q.lN_is m s.toks (i+262) (j+262))).trans rfl)
 have hL:St { W with h:=s2.heap } (m+262) _:=St.new I (by rw [hm'] at g0;exact g0) (by rw [hm];exact Nat.le_refl _)
 generalize entAt (q.lN m s.toks (.ref (i+262)) (.ref (j+262))) 0 0=e1 at *
 generalize entAt (q.lN m s.toks (.ref (i+262)) (.ref (j+262))) 0 1=e2 at *
 refine ⟨by rw [o1.1];exact lim_at hlim I1,codeAny_func ?_⟩
 rw [bodyL]
 have K1:=K.later I L1
 have rmE:=rm (q.lE (m+262))
 refine wpAny_execs_cons (ret_value ?_)
 have hu:=rmE.units
 refine gv_Compare (x:=.int r) (y:=.int 0) (b:=decide (r < 0)) (k:=2) B hu I1 (GvA.T ?_) ?_ rfl rfl rfl s2 _ _ o1 λv W3 s3 L3 I3 o3 rv=>?_
 ·intro W2 L2 I2
  refine gv_Call (fd:=f) (ds:=[.str y,.str z]) I2 ?_ (by rfl) ?_ rfl ?_ ?_
  ·intro W3 L3 I3 s Q E o p
   have K3:=K1.later I1 (L2.trans L3)
   exact gl_at [0] q.fv (q.cmpN _) ⟨by rw [o.1];exact K3.ce.get,trivial⟩ (p.at I3 o K3.fn)
  ·intro k e d h1 h2
   have K2:=K1.later I1 L2
   match k,h1,h2 with
   | 0,h1,h2 =>
    cases h1;cases h2
    exact q.attr_W hk h261 I2 K2 (λm' t=>q.okA0 m' t i m di _ _ _ _ _ _ _) (hi.later (L1.trans L2)) (hL.later L2) rfl hy
   | 1,h1,h2 =>
    cases h1;cases h2
    exact q.attr_W hk h261 I2 K2 (λm' t=>q.okA1 m' t j m dj _ _ _ _ _ _ _) (hj.later (L1.trans L2)) (hL.later L2) rfl hz
   | k+2,h1,h2=>simp at h1
  ·intro W3 fv L3 I3 rf
   exact hkp _ f _ _ hr W3 fv I3 rf
  ·intro fv vs W3 L3 I3 rf rs
   exact hc _ rmE f _ _ hr W3 fv vs I3 rf rs
 ·intro W3 L3 I3 s Q E o p
  exact wpAny_Constant_int (p.at I3 (o.tok _) ⟨_,rfl⟩)
 ·have e:v=.bool (decide (r < 0)):=rv
  clear rv o hr rmE hc hkp hz hL hj dj h261 hk hy hi di I1 K1 z y o1 hu B rm I K hlim hm g0 hm' ad cal tz ty n
  subst e
  exact p W3 s3 (L1.trans L3) I3 o3
end
end KQ
end
section
open PySem.Calls
section
variable {A:Around}{W W':Wd}{P:List Addr}{s:Shared}{E:Value->Shared->Prop}
theorem St.mono {a:Addr}{o:Obj}(x:St W a o)(L:Le0 P W W')(hP:∀ a∈P,a∈W.pv):St W' a o :=
 have hn:a∉P:=λh=>x.pv (hP a h)
 ⟨L.keep a o x.get x.tab hn x.ig,λh=>x.pv (L.pv a o x.get hn h),x.tab,L.igNew a o x.get hn x.ig⟩
theorem KAt.mono {q:KQ}{f:D}(I:Inv W)(x:KAt W q f)(L:Le0 P W W')(hP:∀ a∈P,a∈W.pv):KAt W' q f :=
 ⟨x.k.mono L hP,x.ns.mono L hP,x.md.mono L hP,x.f0.mono L hP,x.f1.mono L hP,x.ce.mono L hP,let ⟨a,b,c,d,e⟩:=x.c0;⟨a,b,c,d.mono L hP,e⟩,let ⟨a,b,c,d,e⟩:=x.c1;⟨a,b,c,d.mono L hP,e⟩,x.nd,x.fn.mono I L hP⟩
theorem priv_keep (I:Inv W)(L:Le [] W W'){x:Addr}{o:Obj}(hp:x∈W.pv)(e:W.h.get? x=some o):W'.h.get? x=some o/\x∈W'.pv :=
 ⟨L.keep x o e (λh=>I.tabPv x h hp) (λh=>nomatch h) (by
  cases q:W.ig.lookup x with
  | none=>rfl
  | some ds=>exact absurd hp (I.igPv x ds q)),L.pvK x hp λh=>nomatch h⟩
namespace KQ
variable (q:KQ)
noncomputable def KeyAt (W:Wd)(v k:Value):Prop:=∃ x d,k=.ref (x+262)/\St W (x+262) (q.inO d #[some v])
theorem KeyAt.mono {v k:Value}(x:q.KeyAt W v k)(L:Le0 P W W')(hP:∀ a∈P,a∈W.pv):q.KeyAt W' v k :=
 let ⟨a,d,e,h⟩:=x;⟨a,d,e,h.mono L hP⟩
theorem key_type {h:Heap}{x:Addr}{d:Addr}{v:Value}(e:h.get? x=some (q.inO d #[some v])):Looks (model pw zw) h (typeOf (.ref x)) (.ref (q.k+262)) :=
 looks_gl (as:=[x]) (os:=[q.inO d #[some v]]) [0] _ ⟨by kernel_rfl,by kernel_rfl⟩ ⟨e,trivial⟩
section
variable (hk:∀ a o,(H1 zw.params).get? a=some o->zh.get? a=some o)
include hk
theorem key_lt (hu:A.units < cLine)(B:Bs)(h261:∃ o,zh.get? 261=some o)(hlim:zh.NoLimit){f:D}{n:Nat}{cal:D->List D->Option D}(hc:CalOk cal n)(hkp:∀ A' f as d,cal f as=some d->∀ W fv,Inv W->Rep W f fv->Keep A' W fv)
  (I:Inv W) (K:KAt W q f) (rm:∀ env,Rm n (A.deeper env)) (hroom:A.depth < recursionLimit) {a b:Value} {y z:Tx} {ty tz:Nat} (ha:q.KeyAt W (.str (Mine.S y) ty) a) (hb:q.KeyAt W (.str (Mine.S z) tz) b) (hy:y.length<=lim) (hz:z.length<=lim)
  {r:Int} (hr:cal f [.str y,.str z]=some (.int r)) {Q:Bool->Shared->Prop} (o:Ok W s) (p:∀ W' s',Le [] W W'->Inv W'->Ok W' s'->Q (decide (r < 0)) s'):wpAny (model pw zw) A (keyLt' oneType' a b) Q E s:=by
 obtain ⟨i,di,rfl,hi⟩:=ha
 obtain ⟨j,dj,rfl,hj⟩:=hb
 have hh:s.heap=W.h:=o.1
 have all:AllAt s.heap q.as (q.os):=by rw [hh];exact KAt.all hk I K
 have lt:Looks (model pw zw) s.heap (typeLookup (.ref (q.k+262)) "__lt__") (some (.ref (q.f1+262))):=q.lkk [0,0,1] _ all ⟨by kernel_rfl,by kernel_rfl⟩
 have bd:Looks (model pw zw) s.heap (bindSpecial (.ref (q.f1+262)) (.ref (i+262))) (.ref (q.f1+262),[.ref (i+262)]):=q.lkk [4] _ all ⟨by kernel_rfl,by kernel_rfl⟩
 have ty:Looks (model pw zw) s.heap (typeOf (.ref (i+262))) (.ref (q.k+262)):=q.key_type (by rw [hh];exact hi.get)
 have main:wpAny (model pw zw) A (callSpecialIfBound? (.ref (i+262)) "__lt__" [.ref (j+262)]) (λv s'=>v=some (.bool (decide (r < 0)))/\Q (decide (r < 0)) s') E s:=by
  simp only [callSpecialIfBound?,bindSpecialIfBound?]
  refine wpAny_holding (wpAny_bind (wpAny_bind (wpAny_bind (ty.here (lt.here ?_)))))
  refine wpAny_bind (wpAny_askSetting (wpAny_ite ?_))
  have fin:wpAny (model pw zw) A (call (.ref (q.f1+262)) ([.ref (i+262)]++[.ref (j+262)])>>=λv=>pure (some v)) (λv s'=>v=some (.bool (decide (r < 0)))/\Q (decide (r < 0)) s') E s :=
   wpAny_bind (q.lt_W hk B h261 hlim hc hkp I K rm hroom hi hj hy hz hr o λW' s' L' I' o'=>wpAny_pure ⟨rfl,p W' s' L' I' o'⟩)
  split
  ·exact wpAny_bind (bd.here (wpAny_pure (by exact fin)))
  ·exact wpAny_tryCatch (wpAny_bind (bd.here (wpAny_pure (by exact fin))))
 rw [keyLt'_oneType,oneLt'_eq]
 simp only [if_true]
 refine wpAny_bind (wpAny_cRoomFor hu ?_)
 refine wpAny_bind (wpAny_mono main (λv s' h=>?_) λ_ _ e=>e)
 obtain ⟨rfl,hq⟩:=h
 exact wpAny_truthy_bool hq
end
end KQ
end
end
section
open PySem.Calls
theorem isStr_ok {d:D}(h:isStr d=true):∃ x,d=.str x:=by
 cases d with
 | str x=>exact ⟨x,rfl⟩
 | _=>exact nf h
set_option tactic.hygienic true in
theorem kas_run {α:Type}{cmp:Nat->Nat->(Bool->Shared->Prop)->Shared->Prop}{lt:Nat->Nat->Option Bool}{Q:α->Shared->Prop}{J:Shared->Prop}
  (hc:∀ i j b s (X:Bool->Shared->Prop),lt i j=some b->J s->(∀ s',J s'->X b s')->cmp i j X s):∀ (t:KasT α) (a:α) (s:Shared),runK lt t=some a->J s->(∀ s',J s'->Q a s')->t.kasWp cmp Q s
 | .ret b,a,s,h,j,q=>by cases h;exact q s j
 | .ask x y k,a,s,h,j,q=>by
  unfold runK at h
  split at h
  ·rename_i b e
   exact hc x y b s _ e j λs' j'=>kas_run hc (k b) a s' h j' q
  ·exact ns h
set_option tactic.hygienic true in
theorem getsD_reps {W:Wd}{xs:List D}{vs:List Value}(r:Reps W xs vs):∀ {is:List Nat} {ds:List D},getsD xs is=some ds->Reps W ds (is.map λi=>vs.getD i .none):=by
 intro qq
 induction qq with
 | nil =>
  intro ds h
  cases h;rfl
 | cons i is ih =>
  intro ds h
  unfold getsD at h
  split at h
  ·rename_i d e
   refine xEA (Option.map_eq_some_iff.mp h) λds' h1 ee2=>?_
   subst ee2
   refine xEA (r.get e) λv e1 e2=>?_
   simp only [Reps,List.map_cons]
   refine ⟨vs.getD i .none,_,rfl,?_,ih h1⟩
   rw [List.getD_eq_getElem?_getD,e1]
   exact e2
  ·exact ns h
section
variable {A:Around}{W W' Wc:Wd}{P:List Addr}{s:Shared}{E:Value->Shared->Prop}
structure So (q:KQ)(f:D)(W:Wd)(a kS:Addr)(e1:Nat)(kA:Array Value)(xs:List D)(vs:List Value)(Wc:Wd):Prop where
 L:Le [a,kS] W Wc
 I:Inv Wc
 K:KAt Wc q f
 pa:a∈Wc.pv
 pk:kS∈Wc.pv
 ga:Wc.h.get? a=some (seqObj "list" #[] e1)
 gk:∃ e,Wc.h.get? kS=some (seqObj "list" kA e)
 xs:Reps Wc xs vs
 ks:∀ (j:Nat) v,vs[j]? = some v->j < kA.size->∃ k,kA[j]? = some k/\q.KeyAt Wc v k
 sz:kA.size<=vs.length
variable {q:KQ}{f:D}{a kS:Addr}{e1:Nat}{kA:Array Value}{xs:List D}{vs:List Value}
theorem So.step (x:So q f W a kS e1 kA xs vs Wc)(L:Le [] Wc W')(I':Inv W'):So q f W a kS e1 kA xs vs W':=by
 obtain ⟨g1,g2⟩:=priv_keep x.I L x.pa x.ga
 obtain ⟨e,hk⟩:=x.gk
 obtain ⟨g3,g4⟩:=priv_keep x.I L x.pk hk
 exact ⟨x.L.trans L.nil,I',x.K.later x.I L,g2,g4,g1,⟨e,g3⟩,x.xs.later x.I L,λj v h1 h2=>let ⟨k,h3,h4⟩:=x.ks j v h1 h2;⟨k,h3,KQ.KeyAt.mono q h4 L.toLe0 λ_ h=>nomatch h⟩,x.sz⟩
theorem So.turnK (x:So q f W a kS e1 kA xs vs Wc)(hne:a≠kS)(g:Array Value->Array Value)(hks:∀ (j:Nat) v,vs[j]? = some v->j < (g kA).size->∃ k,(g kA)[j]? = some k/\q.KeyAt Wc v k)(hsz:(g kA).size<=vs.length) :
  So q f W a kS e1 (g kA) xs vs { Wc with h:=Wc.h.update kS (Obj.mapSeq g) }:=by
 obtain ⟨e,hk⟩:=x.gk
 have hx:Heap.ExtBut kS Wc.h (Wc.h.update kS (Obj.mapSeq g)):=λb o hb e'=>(Heap.get?_update_other _ _ (Ne.symm hb)).trans e'
 have hP:∀ b∈[kS],b∈Wc.pv:=mem1 x.pk
 have L:=turn_le x.I x.pk hx
 obtain ⟨c2,hc2⟩:∃ c2,(Wc.h.update kS (Obj.mapSeq g)).get? kS=some (seqObj "list" (g kA) c2):=⟨_,get?_update_seq hk g⟩
 have I':=turn_inv x.I x.pk hx ⟨_,hc2⟩
 exact ⟨x.L.trans (L.wide λb h=>by rw [List.mem_singleton] at h;subst h;exact .tail _ (.head _)),I',x.K.mono x.I L.toLe0 hP,x.pa,x.pk,hx a _ hne x.ga,⟨c2,hc2⟩,x.xs.mono x.I L.toLe0 hP,λj v h1 h2=>let ⟨k,h3,h4⟩:=hks j v h1 h2;⟨k,h3,KQ.KeyAt.mono q h4 L.toLe0 hP⟩,hsz⟩
structure Do (W:Wd)(a kS:Addr)(ds:List D)(W':Wd):Prop where
 L:Le [a,kS] W W'
 I:Inv W'
 pa:a∈W'.pv
 ls:∃ items c,W'.h.get? a=some (seqObj "list" items c)/\Reps W' ds items.toList/\items.size<=lim
theorem tail_W {st:SortSt}{ds:List D}{Pp:PySem.Fin->Shared->Prop}(hne:a≠kS)(x:So q f W a kS e1 kA xs vs Wc)(o:Ok Wc s)(h64:vs.length < 64)(hr:Reps Wc ds ((arrOf st).map (·.2)).toList)(hsz:(arrOf st).size=vs.length)(hfl:failedOf st=none)
  (p:∀ W' s',Do W a kS ds W'->Ok W' s'->Pp (.done (.ret .none)) s'):wpAny (model pw zw) A (ksk_tail a false e1 (.ref kS) st) Pp E s:=by
 have hh:s.heap=Wc.h:=o.1
 obtain ⟨e,hk⟩:=x.gk
 have sz:=x.sz
 have x1:=x.turnK hne (λ_=>#[]) (λj v _ h=>by simp at h) (Nat.zero_le _)
 unfold ksk_tail
 dsimp only
 have hP0:∀ b∈[kS],b∈Wc.pv:=mem1 x.pk
 have hx0:Heap.ExtBut kS Wc.h (Wc.h.update kS (Obj.mapSeq λ_=>#[])):=λb o hb e'=>(Heap.get?_update_other _ _ (Ne.symm hb)).trans e'
 have hr1:=hr.mono x.I (turn_le x.I x.pk hx0).toLe0 hP0
 refine wpAny_bind (listUpdate_at (by rw [hh];exact hk) rfl ?_ (by rw [sizeLine_eq];exact Nat.le_trans sz (Nat.le_trans (Nat.le_of_lt h64) (by decide))) (Nat.zero_le _))
 refine wpAny_bind (wpAny_letGo ?_)
 rw [hh]
 have na1:=x1.ga
 refine wpAny_bind (seqEpoch_at na1 rfl ?_)
 have hout:((arrOf st).map (·.2)).size=vs.length:=by rw [Array.size_map];exact hsz
 simp only [Bool.false_eq_true,if_false]
 refine wpAny_bind (listUpdate_at na1 rfl ?_ (Nat.zero_le _) (Nat.le_trans (Nat.le_of_eq hout) (by rw [sizeLine_eq];exact Nat.le_trans (Nat.le_of_lt h64) (by decide))))
 rw [hfl]
 simp only [bne_self_eq_false,Bool.false_eq_true,if_false]
 have hx:Heap.ExtBut a (Wc.h.update kS (Obj.mapSeq λ_=>#[])) ((Wc.h.update kS (Obj.mapSeq λ_=>#[])).update a (Obj.mapSeq λ_=>(arrOf st).map (·.2))):=λb o hb e'=>(Heap.get?_update_other _ _ (Ne.symm hb)).trans e'
 have L2:=turn_le x1.I x1.pa hx
 obtain ⟨c2,hc2⟩:∃ c2,((Wc.h.update kS (Obj.mapSeq λ_=>#[])).update a (Obj.mapSeq λ_=>(arrOf st).map (·.2))).get? a=some (seqObj "list" ((arrOf st).map (·.2)) c2):=⟨_,get?_update_seq na1 λ_=>(arrOf st).map (·.2)⟩
 have I2:=turn_inv x1.I x1.pa hx ⟨_,hc2⟩
 refine wpAny_pure (p { Wc with h:=(Wc.h.update kS (Obj.mapSeq λ_=>#[])).update a (Obj.mapSeq λ_=>(arrOf st).map (·.2)) } _ ⟨x1.L.trans (L2.wide λb h=>by rw [List.mem_singleton] at h;subst h;exact .head _),I2,x1.pa,_,c2,hc2,hr1.mono x1.I L2.toLe0 (mem1 x1.pa),by rw [hout];exact Nat.le_trans (Nat.le_of_lt h64) (by decide)⟩ ⟨rfl,o.2.1,o.2.2⟩)
theorem kas_item_zip {keys:Array Value}{vs:List Value}(hs:keys.size=vs.length){i:Nat}(h:i < vs.length):∃ k v,keys[i]? = some k/\vs[i]? = some v/\kas_item (keys.zip vs.toArray) i=(k,v):=by
 have h1:i < keys.size:=by (rw [hs];exact h)
 refine ⟨keys[i],vs[i],by simp [h1],by simp [h],?_⟩
 unfold kas_item
 rw [Array.getD_eq_getD_getElem?]
 have:(keys.zip vs.toArray)[i]? = some (keys[i],vs[i]):=by
  rw [Array.getElem?_eq_getElem (by rw [Array.size_zip];simp;exact Nat.lt_min.mpr ⟨h1,h⟩)]
  simp
 rw [this];rfl
theorem kas_item_snd {keys:Array Value}{vs:List Value}(hs:keys.size=vs.length)(i:Nat):(kas_item (keys.zip vs.toArray) i).2=vs.getD i .none:=by
 by_cases h:i < vs.length
 ·refine xEEAA (kas_item_zip hs h) λk v h1 h2 h3=>?_
  rw [h3,List.getD_eq_getElem?_getD,h2];rfl
 ·unfold kas_item
  rw [Array.getD_eq_getD_getElem?,Array.getElem?_eq_none (by rw [Array.size_zip];simp;exact Nat.le_trans (Nat.min_le_right _ _) (Nat.le_of_not_lt h)),List.getD_eq_getElem?_getD,List.getElem?_eq_none (Nat.le_of_not_lt h)]
  rfl
section
variable (hk:∀ a o,(H1 zw.params).get? a=some o->zh.get? a=some o)
include hk
set_option tactic.hygienic true in
theorem end_W {ds:List D}{n:Nat}{cal:D->List D->Option D}{Pp:PySem.Fin->Shared->Prop}(hu:A.units < cLine)(B:Bs)(h261:∃ o,zh.get? 261=some o)(hlim:zh.NoLimit)(hc:CalOk cal n)(hkp:∀ A' f as d,cal f as=some d->∀ W fv,Inv W->Rep W f fv->Keep A' W fv)
  (rm:∀ env,Rm n (A.deeper env)) (hroom:A.depth < recursionLimit) (hne:a≠kS) (x:So q f W a kS e1 kA xs vs Wc) (hfull:kA.size=vs.length) (o:Ok Wc s) (hst:xs.all isStr=true) (hd:sortD (λa b=>cal f [a,b]) xs=some ds)
  (p:∀ W' s',Do W a kS ds W'->Ok W' s'->Pp (.done (.ret .none)) s'):wpAny (model pw zw) A (ksk_end a false vs.toArray e1 (.ref kS) kA) Pp E s:=by
 have hlen:=x.xs.length
 unfold ksk_end
 dsimp only
 rw [if_neg (by decide)]
 have tolist:∀ (P:Array Nat),((P.map (kas_item (kA.zip vs.toArray))).map (·.2)).toList=P.toList.map λi=>vs.getD i .none:=λP=>by
  rw [Array.map_map,Array.toList_map]
  exact List.map_congr_left λi _=>kas_item_snd hfull i
 rcases sortD_inv hd with ⟨h2,rfl⟩ | ⟨h2,h64,perm,hrun,hd'⟩
 ·clear hd
  rw [<-hlen,Nat.blt_eq] at h2
  have h2':vs.toArray.size < 2:=h2
  rw [if_pos h2',if_pos h2']
  refine wpAny_bind (wpAny_pure ?_)
  rw [StateT.run_pure]
  refine wpAny_bind (wpAny_pure ?_)
  dsimp only
  have hz:(kA.zip vs.toArray).size=vs.length:=by rw [Array.size_zip,hfull,List.size_toArray,Nat.min_self]
  refine tail_W (st:=SortSt.mk' general' (kA.zip vs.toArray) #[] 7 none) hne x o (Nat.lt_trans h2 (by decide)) ?_ hz rfl p
  show Reps _ _ ((kA.zip vs.toArray).map (·.2)).toList
  have e:((kA.zip vs.toArray).map (·.2)).toList=vs:=by
   rw [Array.toList_map,ksk_zip,List.map_snd_zip]
   rw [Array.length_toList];exact Nat.le_of_eq hfull.symm
  rw [e]
  exact x.xs
 ·clear hd
  have h2:¬ vs.length < 2:=λh=>by rw [<-hlen,Nat.blt_eq.mpr h] at h2;cases h2
  have h2':¬ vs.toArray.size < 2:=h2
  rw [if_neg h2',if_neg h2']
  ·rw [Nat.blt_eq,← hlen] at h64
   ·rw [<-hlen] at hrun
    have hh:s.heap=Wc.h:=o.1
    refine wpAny_bind ?_
    have kk:keyKind' kA=keyKind' kA.toList.toArray:=by simp
    rw [kk]
    have hkl:kA.toList.length=vs.length:=by rw [Array.length_toList];exact hfull
    refine kas_kind (T:=.ref (q.k+262)) (Nat.le_trans (Nat.le_of_not_lt h2) (Nat.le_of_eq hkl.symm)) (λv hv=>?_) (by kernel_rfl) (beq_self _) ?_
    ·obtain ⟨j,hj⟩:=List.getElem?_of_mem hv
     rw [Array.getElem?_toList] at hj
     have hjl:j < kA.size:=by
      rcases Nat.lt_or_ge j kA.size with h | h
      ·exact h
      ·rw [Array.getElem?_eq_none h] at hj;exact ns hj
     refine xEA (x.ks j vs[j] (by simp [show j < vs.length from by exact hfull▸hjl]) hjl) λk h3 hh2=>?_
     obtain ⟨xx,d,e,hs⟩:=hh2
     rw [hj] at h3
     cases h3
     rw [e]
     exact q.key_type (by rw [hh];exact hs.get)
    have run:=kas_runs (prog:=pw) (w:=zw) (A:=A) (E:=λ_ _=>False) (κ:=oneType') (it:=kA.zip vs.toArray) (n:=vs.length) (s:=s)
     (Q:=λ_ st' s'=>arrOf st'=perm.map (kas_item (kA.zip vs.toArray))/\failedOf st'=none/\perm.size=vs.length/\∃ Wd',So q f W a kS e1 kA xs vs Wd'/\Ok Wd' s') (Nat.le_of_not_lt h2) h64
     (G:=λp' s'=>p'=perm/\∃ Wd',So q f W a kS e1 kA xs vs Wd'/\Ok Wd' s')
     (λp' st' s' a1 a2 a3 a4=>by obtain ⟨rfl,a5⟩:=a4;exact ⟨a2,a3,a1,a5⟩) ?_
    ·have est:SortSt.mk' oneType' (kA.zip vs.toArray) #[] 7 none=kas_st oneType' (kA.zip vs.toArray) (List.toArray (List.range vs.length)):=by
      have e:=kas_range (kA.zip vs.toArray)
      rw [Array.size_zip,hfull,List.size_toArray,Nat.min_self] at e
      show SortSt.mk' oneType' (kA.zip vs.toArray) #[] 7 none=SortSt.mk' oneType' ((List.toArray (List.range vs.length)).map (kas_item (kA.zip vs.toArray))) #[] 7 none
      rw [e]
     rw [<-est] at run
     refine wpAny_bind (wpAny_mono run ?_ λ_ _ e=>e.elim)
     rintro ⟨⟨⟩,st'⟩ s' ⟨b1,b2,b3,Wd',x',o'⟩
     dsimp only at b1 b2 ⊢
     refine tail_W hne x' o' h64 ?_ (by rw [b1,Array.size_map];exact b3) b2 p
     rw [b1,tolist]
     exact getsD_reps x'.xs hd'
    ·refine kas_run (J:=λs'=>∃ Wd',So q f W a kS e1 kA xs vs Wd'/\Ok Wd' s') (λi j b s1 X hlt ⟨W1,x1,o1⟩ hX=>?_) _ perm s hrun ⟨Wc,x,o⟩ λs' h=>⟨rfl,h⟩
     ·obtain ⟨da,db,r,ea,eb,er,rfl⟩:=ltS_inv hlt
      ·clear hlt
       have hl1:=x1.xs.length
       have il:i < vs.length:=by rw [hl1];exact (List.getElem?_eq_some_iff.mp ea).1
       have jl:j < vs.length:=by rw [hl1];exact (List.getElem?_eq_some_iff.mp eb).1
       refine xEEAA (kas_item_zip hfull il) λki vi i1 i2 i3=>?_
       refine xEEAA (kas_item_zip hfull jl) λkj vj j1 j2 j3=>?_
       have sa:=List.all_eq_true.mp hst _ (List.mem_of_getElem? ea)
       have sb:=List.all_eq_true.mp hst _ (List.mem_of_getElem? eb)
       refine xEA (x1.xs.get ea) λv1 f1 r1=>?_
       refine xEA (x1.xs.get eb) λv2 f2 r2=>?_
       rw [i2] at f1;obtain rfl:=sq f1
       rw [j2] at f2;cases f2
       obtain ⟨xa,rfl⟩:=isStr_ok sa
       obtain ⟨xb,rfl⟩:=isStr_ok sb
       obtain ⟨hy,ty,rfl⟩:=r1
       obtain ⟨hz,tz,rfl⟩:=r2
       obtain ⟨k1,g1,ka⟩:=x1.ks i _ i2 (by (rw [hfull];exact il))
       obtain ⟨k2,g2,kb⟩:=x1.ks j _ j2 (by (rw [hfull];exact jl))
       rw [i1] at g1;obtain rfl:=sq g1
       rw [j1] at g2;cases g2
       unfold kas_cmp
       rw [i3,j3]
       exact q.key_lt hk hu B h261 hlim hc hkp x1.I x1.K rm hroom ka kb hy hz er o1 λW2 s2 L2 I2 o2=>hX s2 ⟨W2,x1.step L2 I2,o2⟩
end
end
end
section
open PySem.Calls
section
variable {A:Around}{W W' Wc:Wd}{P:List Addr}{s:Shared}{E:Value->Shared->Prop}
variable {q:KQ}{f:D}{a kS:Addr}{e1:Nat}{kA:Array Value}{xs:List D}{vs:List Value}
variable (hk:∀ a o,(H1 zw.params).get? a=some o->zh.get? a=some o)
include hk
theorem rest_W {ds:List D}{n:Nat}{cal:D->List D->Option D}{Pp:PySem.Fin->Shared->Prop}(hu:A.units < cLine)(B:Bs)(h261:∃ o,zh.get? 261=some o)(hlim:zh.NoLimit)(hc:CalOk cal n)(hkp:∀ A' f as d,cal f as=some d->∀ W fv,Inv W->Rep W f fv->Keep A' W fv)
  (rm:∀ env,Rm n (A.deeper env)) (hroom:A.depth+1 < recursionLimit) (hne:a≠kS) (x:So q f W a kS e1 #[] xs vs Wc) (o:Ok Wc s) (h64:vs.length < 64) (hst:xs.all isStr=true) (hd:sortD (λa b=>cal f [a,b]) xs=some ds)
  (p:∀ W' s',Do W a kS ds W'->Ok W' s'->Pp (.done (.ret .none)) s'):wpAny (model pw zw) A (ksk_rest a (.ref (q.k+262)) false vs.toArray e1 (.ref kS)) Pp E s:=by
 unfold ksk_rest
 refine wpAny_bind (wpAny_rule ?_)
 first
  | rw [List.forIn_toArray]
  | (rw [<-Array.forIn_toList];simp only [List.toList_toArray])
  | rw [<-Array.forIn_toList]
 refine wpAny_bind (ksk_fold (λi s'=>∃ Wd' kA,So q f W a kS e1 kA xs vs Wd'/\kA.size=i/\Ok Wd' s') vs 0 s ⟨Wc,#[],x,rfl,o⟩ ?step ?done)
 case step =>
  rintro j v s' hx ⟨W1,kA,x1,hs1,o1⟩
  simp only [Nat.zero_add] at hs1 ⊢
  have hj:j < vs.length:=(List.getElem?_eq_some_iff.mp hx).1
  obtain ⟨d,hd1⟩:∃ d,xs[j]? = some d:=⟨_,List.getElem?_eq_getElem (by rw [<-x1.xs.length];exact hj)⟩
  have sa:=List.all_eq_true.mp hst _ (List.mem_of_getElem? hd1)
  refine xEA (x1.xs.get hd1) λv1 f1 r1=>?_
  rw [hx] at f1;cases f1
  obtain ⟨xd,rfl⟩:=isStr_ok sa
  obtain ⟨hy,ty,rfl⟩:=r1
  refine wpAny_bind (wpAny_attempt (inst_W hk h261 hlim x1.I x1.K hroom o1 λi dx W2 s2 L2 I2 o2 st=>?_))
  dsimp only
  have x2:=x1.step L2 I2
  obtain ⟨e,hk2⟩:=x2.gk
  have hh:s2.heap=W2.h:=o2.1
  have x3:=x2.turnK hne (λz=>z.push (.ref (i+262))) (λj' v' h1 h2=>by
   rw [Array.size_push] at h2
   by_cases hj':j' < kA.size
   ·refine xEA (x2.ks j' v' h1 hj') λk h3 h4=>?_
    exact ⟨k,by rw [Array.getElem?_push_lt hj'];rw [<-h3,Array.getElem?_eq_getElem hj'],h4⟩
   ·have e2:j'=kA.size:=by omega
    subst e2
    rw [hs1,hx] at h1
    cases h1
    exact ⟨.ref (i+262),by simp,i,dx,rfl,st⟩) (by rw [Array.size_push];(rw [hs1];exact hj))
  refine wpAny_bind (listUpdate_at (by rw [hh];exact hk2) rfl ?_ (by rw [sizeLine_eq];(rw [hs1];exact Nat.le_trans (Nat.le_of_lt (Nat.lt_trans hj h64)) (by decide))) (Nat.le_trans (Nat.le_of_eq (Array.size_push ..)) (by rw [sizeLine_eq];(rw [hs1];exact Nat.le_trans (Nat.le_trans hj (Nat.le_of_lt h64)) (by decide)))))
  refine wpAny_pure ⟨rfl,_,_,x3,by rw [Array.size_push];rw [hs1],?_⟩
  rw [hh]
  exact ⟨rfl,o2.2.1,o2.2.2⟩
 case done =>
  rintro s' ⟨W1,kA,x1,hs1,o1⟩
  rw [Nat.zero_add] at hs1
  obtain ⟨e,hk1⟩:=x1.gk
  have hh:s'.heap=W1.h:=o1.1
  refine wpAny_bind (listItems_at (by rw [hh];exact hk1) rfl ?_)
  exact end_W hk hu B h261 hlim hc hkp rm (Nat.lt_of_succ_lt hroom) hne x1 hs1 o1 hst hd p
theorem sorted_W {ds:List D}{n:Nat}{cal:D->List D->Option D}(B:Bs)(h261:∃ o,zh.get? 261=some o)(hlim:zh.NoLimit)(hc:CalOk cal n)(hkp:∀ A' f as d,cal f as=some d->∀ W fv,Inv W->Rep W f fv->Keep A' W fv)
  (rm:RmS n A) (I:Inv W) (K:KAt W q f) {v:Value} (r:Rep W (.list xs) v) (hst:xs.all isStr=true) (hd:sortD (λa b=>cal f [a,b]) xs=some ds) {Q:Value->Shared->Prop} (o:Ok W s)
  (p:Post W (.list ds) Q):wpAny (model pw zw) A (call (.builtin "sorted") [v] [(Str.ofString "key",.ref (q.k+262))]) Q E s:=by
 obtain ⟨l,items,rfl,hl,hil,hiz,hr⟩:=r
 have h64:items.toList.length < 64:=by
  have:=hr.length
  rw [this]
  exact sortD_len hd
 have hh:s.heap=W.h:=o.1
 have hil':s.heap.IsList l items.toList.toArray:=by rw [hh,Array.toArray_toList];exact hil
 refine call_function_entry_kw kind_sorted plain_sorted entry_sorted (ksk_s1 _ _) ?_
 unfold Builtin.«sorted»
 refine wpAny_bind (m:=checkCount "sorted" 1 1 _) (wpAny_pure ?_)
 refine wpAny_bind (collect_list hil' ?_ (by rw [sizeLine_eq];exact Nat.le_trans (Nat.le_of_lt h64) (by decide)))
 refine wpAny_bind (wpAny_newList ?_ (by rw [sizeLine_eq];exact Nat.le_trans (Nat.le_of_lt h64) (by decide)))
 have vsz:items.toList.length<=lim:=by rw [Array.length_toList];exact hiz
 have keep1:∀ b o',W.h.get? b=some o'->((s.heap.push (seqObj "list" #[] 0)).update s.heap.objs.size (Obj.mapSeq (·++items.toList.toArray))).get? b=some o':=λb o' e=>by
  rw [hh]
  exact (Heap.get?_update_other _ _ (Nat.ne_of_gt (Heap.lt_size e))).trans (Heap.get?_push_of_some _ e)
 obtain ⟨L1,I1⟩:=ext_old (h':=(s.heap.push (seqObj "list" #[] 0)).update s.heap.objs.size (Obj.mapSeq (·++items.toList.toArray))) I λb o' e=>by
  rw [hh]
  exact (Heap.get?_update_other _ _ (Nat.ne_of_gt (Heap.lt_size e))).trans (Heap.get?_push_of_some _ e)
 have o1:Ok { W with h:=(s.heap.push (seqObj "list" #[] 0)).update s.heap.objs.size (Obj.mapSeq (·++items.toList.toArray)) } { s with heap:=(s.heap.push (seqObj "list" #[] 0)).update s.heap.objs.size (Obj.mapSeq (·++items.toList.toArray)) }:=⟨rfl,o.2.1,o.2.2⟩
 have r1:=hr.later I L1
 have K1:=K.later I L1
 generalize (s.heap.push (seqObj "list" #[] 0)).update s.heap.objs.size (Obj.mapSeq (·++items.toList.toArray))=g1 at *
 have I2:=pushP_inv I1 (seqObj "list" items.toList.toArray 0) rfl
 have L2:=pushP_le (P:=[]) (W:={ W with h:=g1 }) (seqObj "list" items.toList.toArray 0)
 have ho2:(g1.push (seqObj "list" items.toList.toArray 0)).get? g1.objs.size=some (seqObj "list" items.toList.toArray 0):=Heap.get?_push_size _ rfl
 refine wpAny_bind (wpAny_holding (wpAny_call_entry_kw slot_list_sort ⟨_,ho2,rfl⟩ entry_list_sort ?body (ksk_l1 _ _)))
 case body =>
  show wpAny (model pw zw) A.in1.in1 (Builtin.«list.sort» ⟨[.ref g1.objs.size],[(Str.ofString "key",.ref (q.k+262))]⟩) _ _ { s with heap:=g1.push (seqObj "list" items.toList.toArray 0) }
  rw [ksk_t1]
  unfold ksk_tree
  have r2:=r1.later I1 L2
  have K2:=K1.later I1 L2
  have pa2:g1.objs.size∈(Wd.pushP { W with h:=g1 } (seqObj "list" items.toList.toArray 0)).pv:=List.mem_cons_self
  refine wpAny_bind (listItems_at ho2 rfl ?_)
  refine wpAny_bind (listUpdate_at ho2 rfl ?_ (by rw [List.size_toArray,sizeLine_eq];exact Nat.le_trans (Nat.le_of_lt h64) (by decide)) (Nat.zero_le _))
  have hx:Heap.ExtBut g1.objs.size (g1.push (seqObj "list" items.toList.toArray 0)) ((g1.push (seqObj "list" items.toList.toArray 0)).update g1.objs.size (Obj.mapSeq λ_=>#[])):=λb o hb e'=>(Heap.get?_update_other _ _ (Ne.symm hb)).trans e'
  obtain ⟨c3,hc3⟩:∃ c3,((g1.push (seqObj "list" items.toList.toArray 0)).update g1.objs.size (Obj.mapSeq λ_=>(#[]:Array Value))).get? g1.objs.size=some (seqObj "list" #[] c3):=⟨_,get?_update_seq ho2 λ_=>#[]⟩
  have L3:=turn_le I2 pa2 hx
  have I3:=turn_inv I2 pa2 hx ⟨_,hc3⟩
  have hP:∀ b∈[g1.objs.size],b∈(Wd.pushP { W with h:=g1 } (seqObj "list" items.toList.toArray 0)).pv:=mem1 pa2
  have r3:=r2.mono I2 L3.toLe0 hP
  have K3:=K2.mono I2 L3.toLe0 hP
  refine wpAny_bind (seqEpoch_at hc3 rfl ?_)
  refine wpAny_bind (wpAny_newTuple ?_ (by rw [show items.toList.toArray.toList=items.toList from by simp,sizeLine_eq];exact Nat.le_trans (Nat.le_of_lt h64) (by decide)))
  refine wpAny_bind (wpAny_newList ?_ (Nat.zero_le _))
  refine wpAny_holding ?_
  have r3':=r3
  dsimp only [Wd.pushP] at r3 K3 L3 I3
  generalize hg3:(g1.push (seqObj "list" items.toList.toArray 0)).update g1.objs.size (Obj.mapSeq λ_=>(#[]:Array Value))=g3 at *
  have I4:=push_inv I3 (seqObj "tuple" items.toList.toArray 0)
  have L4:=push_le (P:=[]) (W:={ h:=g3,ig:=W.ig,pv:=g1.objs.size::W.pv }) (seqObj "tuple" items.toList.toArray 0)
  have I5:=pushP_inv I4 (seqObj "list" #[] 0) rfl
  have L5:=pushP_le (P:=[]) (W:=Wd.push { h:=g3,ig:=W.ig,pv:=g1.objs.size::W.pv } (seqObj "tuple" items.toList.toArray 0)) (seqObj "list" #[] 0)
  have r5:=(r3.later I3 L4).later I4 L5
  have K5:=(K3.later I3 L4).later I4 L5
  have e3:g3.objs.size=g1.objs.size+1:=by rw [<-hg3,Heap.size_after_update,Heap.size_push]
  have e4:(g3.push (seqObj "tuple" items.toList.toArray 0)).objs.size=g1.objs.size+2:=by rw [Heap.size_push,e3]
  have hga:∀ o',W.h.get? g1.objs.size≠some o':=λo' e=>absurd (Heap.lt_size (keep1 _ _ e)) (Nat.lt_irrefl _)
  have hgk:∀ o',W.h.get? (g3.push (seqObj "tuple" items.toList.toArray 0)).objs.size≠some o':=λo' e=>by
   have:=Heap.lt_size (keep1 _ _ e)
   rw [e4] at this
   exact absurd this (Nat.not_lt.mpr (Nat.le_add_right _ _))
  have none_of:∀ {b:Addr},(∀ o',W.h.get? b≠some o')->W.h.get? b=none:=λ{b} h=>by
   cases e:W.h.get? b with
   | none=>rfl
   | some o'=>exact absurd e (h o')
  have rm2:∀ env,Rm n (A.in1.in1.deeper env):=λenv=>⟨rm.h,rm.g,by have:=rm.u;show A.units+1+1+3+100 * (n+1)<=9000;exact Nat.le_trans (Nat.le_of_eq (Nat.add_right_comm A.units 5 _)) (Nat.le_trans (Nat.add_le_add_left (show 5<=50 by decide) _) this),by have:=rm.d;show A.depth+1+10 * (n+1)<=990;exact Nat.le_trans (Nat.le_of_eq (Nat.add_right_comm A.depth 1 _)) (Nat.le_trans (Nat.add_le_add_left (show 1<=5 by decide) _) this)⟩
  have hu:A.in1.in1.units < cLine:=by
   have:=rm.u
   have e:cLine=9900:=rfl
   rw [e]
   show A.units+1+1 < 9900
   exact Nat.lt_of_le_of_lt (Nat.le_trans (Nat.add_le_add_left (show 2<=50 by decide) A.units) (Nat.le_trans (Nat.add_le_add_right (Nat.le_add_right A.units _) 50) this)) (show 9000 < 9900 by decide)
  have hroom:A.in1.in1.depth+1 < recursionLimit:=by
   have:=rm.d
   have e:recursionLimit=1000:=rfl
   rw [e]
   show A.depth+1 < 1000
   exact Nat.lt_of_le_of_lt (Nat.le_trans (Nat.add_le_add_left (show 1<=5 by decide) A.depth) (Nat.le_trans (Nat.add_le_add_right (Nat.le_add_right A.depth _) 5) this)) (show 990 < 1000 by decide)
  have ha5:((g3.push (seqObj "tuple" items.toList.toArray 0)).push (seqObj "list" #[] 0)).get? g1.objs.size=some (seqObj "list" #[] c3):=Heap.get?_push_of_some _ (Heap.get?_push_of_some _ hc3)
  have hk5:((g3.push (seqObj "tuple" items.toList.toArray 0)).push (seqObj "list" #[] 0)).get? (g3.push (seqObj "tuple" items.toList.toArray 0)).objs.size=some (seqObj "list" #[] 0):=Heap.get?_push_size _ rfl
  have LL:Le [g1.objs.size,(g3.push (seqObj "tuple" items.toList.toArray 0)).objs.size] W (Wd.pushP (Wd.push { h:=g3,ig:=W.ig,pv:=g1.objs.size::W.pv } (seqObj "tuple" items.toList.toArray 0)) (seqObj "list" #[] 0)) :=
   (((L1.nil.trans L2.nil).trans (L3.wide λb h=>by rw [List.mem_singleton] at h;subst h;exact .head _)).trans L4.nil).trans L5.nil
  have xS:So q f W g1.objs.size (g3.push (seqObj "tuple" items.toList.toArray 0)).objs.size c3 #[] xs items.toList (Wd.pushP (Wd.push { h:=g3,ig:=W.ig,pv:=g1.objs.size::W.pv } (seqObj "tuple" items.toList.toArray 0)) (seqObj "list" #[] 0)) :=
   ⟨LL,I5,K5,.tail _ (.head _),.head _,ha5,⟨0,hk5⟩,r5,λj v _ h=>by simp at h,Nat.zero_le _⟩
  refine rest_W hk hu B h261 hlim hc hkp rm2 hroom (by rw [e4];exact Nat.ne_of_lt (Nat.lt_add_of_pos_right (by decide))) xS ⟨rfl,o.2.1,o.2.2⟩ h64 hst hd λW' s' D' o'=>?_
  refine xEEAA (D'.ls) λitems' c' g' r' z'=>?_
  have Ld:=drop_le (W:=W') (p:=g1.objs.size)
  have Lf:=(D'.L.trans (Ld.wide λb h=>by rw [List.mem_singleton] at h;subst h;exact .head _)).fresh I (P':=[]) λb hb=>by
   rcases List.mem_cons.mp hb with rfl | hb
   ·exact .inr (none_of hga)
   ·rw [List.mem_singleton] at hb
    subst hb
    exact .inr (none_of hgk)
  refine ⟨.none,rfl,wpAny_pure ⟨_,rfl,p _ (W'.drop g1.objs.size) s' Lf (drop_inv D'.I) ⟨o'.1,o'.2.1,o'.2.2⟩ ?_⟩⟩
  exact ⟨_,items',rfl,λh=>(mem_drop.mp h).2 rfl,⟨_,g',rfl,c',rfl⟩,z',r'.mono D'.I Ld.toLe0 λb h=>by rw [List.mem_singleton] at h;subst h;exact D'.pa⟩
end
end
section
open PySem.Calls
noncomputable def fldAt (N:List Obj)(i:Nat):Array Value:=match (N.getD i default).data with | .fields vs=>vs | _=>#[]
noncomputable def tkAt (N:List Obj)(i j:Nat):Nat:=tkOf (fiAt N i j)
noncomputable def nK:Expr:=match (dS 21).2.1 with | [_,.Return (some e) _]=>e | _=>default
noncomputable def pK:Pos:=match (dS 21).2.1 with | [_,.Return _ p]=>p | _=>default
theorem bodyK:(dS 21).2.1=[stK,.Return (some nK) pK]:=by kernel_rfl
namespace KX
variable (X:KX)
noncomputable def O1:List Obj:=(okS (X.ren1)).olds
noncomputable def uu1 (j:Nat):Nat:=match j with | 0=>tkAt (X.M1) 4 0 | 1=>tkAt (X.M1) 4 1 | 2=>tkAt (X.M1) 4 3 | 3=>tkAt (X.M1) 4 4 | 4=>tkAt (X.M1) 4 6 | 5=>tkAt (X.M1) 4 7 | 6=>tkAt (X.M1) 4 9 | 7=>tkAt (X.M1) 4 10 | 8=>tkAt (X.M1) 4 12 | 9=>tkAt (X.M1) 4 13 | 10=>tkAt (X.M1) 4 15 | 11=>tkAt (X.M1) 4 16 | 12=>tkAt (X.O1) 5 0 | _=>tkAt (X.O1) 5 1
noncomputable def cs1 (j:Nat):Nat:=X.m+(match j with | 0=>13 | 1=>21 | 2=>29 | 3=>37 | 4=>45 | _=>53)
theorem grall1:(((X.M1)[58]?,(X.M1)[57]?,(X.M1)[59]?,(X.M1)[14]?,(X.M1)[22]?,[1,2,3,4,6,7].map (λj=>(X.O1)[j]?),(X.O1)[5]?,(X.M1)[5]?,(X.M1)[4]?,(X.M1)[13]?,(fldAt (X.M1) 13)[1]?,(X.M1)[21]?,(fldAt (X.M1) 21)[1]?,(X.O1).length,(X.M1).length,fiAt (X.M1) 5 1) =
 (some (X.kq1).kO,some (X.kq1).nsO,some (X.kq1).mdO,some (X.kq1).f0O,some (X.kq1).f1O,[some { cls:=.type "cell",data:=.cell (some X.fv) },some (obj zw.params 3),some (obj zw.params 0),some (obj zw.params 4),some (obj zw.params 169),some (obj zw.params cStatics)],some { cls:=.none,data:=.fields #[.int 149 (X.uu1 12),.int 4 (X.uu1 13),.ref (X.m+5+262)] },some (kCode (X.m+4+262) (λj=>fiAt (X.M1) 5 j)),some (kTab (X.uu1) X.cs1),some { cls:=.type "code",data:=.fields (fldAt (X.M1) 13) },some (.str "cmp_to_key.<locals>.K.__init__" (tkAt (X.M1) 13 1)),some { cls:=.type "code",data:=.fields (fldAt (X.M1) 21) },some (.str "cmp_to_key.<locals>.K.__lt__" (tkAt (X.M1) 21 1)),8,62,.str "cmp_to_key.<locals>.K" (tkAt (X.M1) 5 1)))/\((okS (X.ren1)).news=X.M1)/\((okS (X.ren1)).olds=X.O1)/\GlOk (gl [X.l+262] [(X.O1).getD 0 default] ⟨pw,zw.params⟩ (eval nK (eK (X.l+262) (X.c+262))) [0] []) (.ref (X.m+58+262)):=⟨by kernel_rfl,by kernel_rfl,by kernel_rfl,by kernel_rfl,by kernel_rfl⟩
theorem M1_eq:(okS (X.ren1)).news=X.M1:=X.grall1.2.1
theorem O1_eq:(okS (X.ren1)).olds=X.O1:=X.grall1.2.2.1
theorem all1:((X.M1)[58]?,(X.M1)[57]?,(X.M1)[59]?,(X.M1)[14]?,(X.M1)[22]?,[1,2,3,4,6,7].map (λj=>(X.O1)[j]?),(X.O1)[5]?,(X.M1)[5]?,(X.M1)[4]?,(X.M1)[13]?,(fldAt (X.M1) 13)[1]?,(X.M1)[21]?,(fldAt (X.M1) 21)[1]?,(X.O1).length,(X.M1).length,fiAt (X.M1) 5 1) =
 (some (X.kq1).kO,some (X.kq1).nsO,some (X.kq1).mdO,some (X.kq1).f0O,some (X.kq1).f1O,[some { cls:=.type "cell",data:=.cell (some X.fv) },some (obj zw.params 3),some (obj zw.params 0),some (obj zw.params 4),some (obj zw.params 169),some (obj zw.params cStatics)],some { cls:=.none,data:=.fields #[.int 149 (X.uu1 12),.int 4 (X.uu1 13),.ref (X.m+5+262)] },some (kCode (X.m+4+262) (λj=>fiAt (X.M1) 5 j)),some (kTab (X.uu1) X.cs1),some { cls:=.type "code",data:=.fields (fldAt (X.M1) 13) },some (.str "cmp_to_key.<locals>.K.__init__" (tkAt (X.M1) 13 1)),some { cls:=.type "code",data:=.fields (fldAt (X.M1) 21) },some (.str "cmp_to_key.<locals>.K.__lt__" (tkAt (X.M1) 21 1)),8,62,.str "cmp_to_key.<locals>.K" (tkAt (X.M1) 5 1)):=X.grall1.1
theorem x1:(X.M1)[58]? = some (X.kq1).kO:=congrArg (λz=>z.1) X.all1
theorem x2:(X.M1)[57]? = some (X.kq1).nsO:=congrArg (λz=>z.2.1) X.all1
theorem x3:(X.M1)[59]? = some (X.kq1).mdO:=congrArg (λz=>z.2.2.1) X.all1
theorem x4:(X.M1)[14]? = some (X.kq1).f0O:=congrArg (λz=>z.2.2.2.1) X.all1
theorem x5:(X.M1)[22]? = some (X.kq1).f1O:=congrArg (λz=>z.2.2.2.2.1) X.all1
theorem x6:[1,2,3,4,6,7].map (λj=>(X.O1)[j]?)=[some { cls:=.type "cell",data:=.cell (some X.fv) },some (obj zw.params 3),some (obj zw.params 0),some (obj zw.params 4),some (obj zw.params 169),some (obj zw.params cStatics)]:=congrArg (λz=>z.2.2.2.2.2.1) X.all1
theorem x7:(X.O1)[5]? = some { cls:=.none,data:=.fields #[.int 149 (X.uu1 12),.int 4 (X.uu1 13),.ref (X.m+5+262)] }:=congrArg (λz=>z.2.2.2.2.2.2.1) X.all1
theorem x8:(X.M1)[5]? = some (kCode (X.m+4+262) (λj=>fiAt (X.M1) 5 j)):=congrArg (λz=>z.2.2.2.2.2.2.2.1) X.all1
theorem x9:(X.M1)[4]? = some (kTab (X.uu1) X.cs1):=congrArg (λz=>z.2.2.2.2.2.2.2.2.1) X.all1
theorem x10:(X.M1)[13]? = some { cls:=.type "code",data:=.fields (fldAt (X.M1) 13) }:=congrArg (λz=>z.2.2.2.2.2.2.2.2.2.1) X.all1
theorem x11:(fldAt (X.M1) 13)[1]? = some (.str "cmp_to_key.<locals>.K.__init__" (tkAt (X.M1) 13 1)):=congrArg (λz=>z.2.2.2.2.2.2.2.2.2.2.1) X.all1
theorem x12:(X.M1)[21]? = some { cls:=.type "code",data:=.fields (fldAt (X.M1) 21) }:=congrArg (λz=>z.2.2.2.2.2.2.2.2.2.2.2.1) X.all1
theorem x13:(fldAt (X.M1) 21)[1]? = some (.str "cmp_to_key.<locals>.K.__lt__" (tkAt (X.M1) 21 1)):=congrArg (λz=>z.2.2.2.2.2.2.2.2.2.2.2.2.1) X.all1
theorem x14:(X.O1).length=8:=congrArg (λz=>z.2.2.2.2.2.2.2.2.2.2.2.2.2.1) X.all1
theorem x15:(X.M1).length=62:=congrArg (λz=>z.2.2.2.2.2.2.2.2.2.2.2.2.2.2.1) X.all1
theorem x16:fiAt (X.M1) 5 1=.str "cmp_to_key.<locals>.K" (tkAt (X.M1) 5 1):=congrArg (λz=>z.2.2.2.2.2.2.2.2.2.2.2.2.2.2.2) X.all1
theorem y7:GlOk (gl [X.l+262] [(X.O1).getD 0 default] ⟨pw,zw.params⟩ (eval nK (eK (X.l+262) (X.c+262))) [0] []) (.ref (X.m+58+262)):=X.grall1.2.2.2
noncomputable def M2:List Obj:=(okS (X.ren2)).news
noncomputable def O2:List Obj:=(okS (X.ren2)).olds
noncomputable def kq2:KQ:=kqOf (X.M2) X.m X.c X.fv 17 5 7 (X.cs 0) (X.cs 1)
theorem grall2:(((X.M2)[19]?,(X.M2)[18]?,(X.M2)[20]?,(X.M2)[5]?,(X.M2)[7]?,(X.O2).drop 1,(X.O2).length,(X.M2).length) =
 (some (X.kq2).kO,some (X.kq2).nsO,some (X.kq2).mdO,some (X.kq2).f0O,some (X.kq2).f1O,(X.os2).drop 1,10,23))/\((okS (X.ren2)).news=X.M2)/\((okS (X.ren2)).olds=X.O2)/\GlOk (gl [X.l+262] [(X.O2).getD 0 default] ⟨pw,zw.params⟩ (eval nK (eK (X.l+262) (X.c+262))) [0] []) (.ref (X.m+19+262)):=⟨by kernel_rfl,by kernel_rfl,by kernel_rfl,by kernel_rfl,by kernel_rfl⟩
theorem M2_eq:(okS (X.ren2)).news=X.M2:=X.grall2.2.1
theorem O2_eq:(okS (X.ren2)).olds=X.O2:=X.grall2.2.2.1
theorem all2:((X.M2)[19]?,(X.M2)[18]?,(X.M2)[20]?,(X.M2)[5]?,(X.M2)[7]?,(X.O2).drop 1,(X.O2).length,(X.M2).length) =
 (some (X.kq2).kO,some (X.kq2).nsO,some (X.kq2).mdO,some (X.kq2).f0O,some (X.kq2).f1O,(X.os2).drop 1,10,23):=X.grall2.1
theorem z1:(X.M2)[19]? = some (X.kq2).kO:=congrArg (λz=>z.1) X.all2
theorem z2:(X.M2)[18]? = some (X.kq2).nsO:=congrArg (λz=>z.2.1) X.all2
theorem z3:(X.M2)[20]? = some (X.kq2).mdO:=congrArg (λz=>z.2.2.1) X.all2
theorem z4:(X.M2)[5]? = some (X.kq2).f0O:=congrArg (λz=>z.2.2.2.1) X.all2
theorem z5:(X.M2)[7]? = some (X.kq2).f1O:=congrArg (λz=>z.2.2.2.2.1) X.all2
theorem z6:(X.O2).drop 1=(X.os2).drop 1:=congrArg (λz=>z.2.2.2.2.2.1) X.all2
theorem z7:(X.O2).length=10:=congrArg (λz=>z.2.2.2.2.2.2.1) X.all2
theorem z8:(X.M2).length=23:=congrArg (λz=>z.2.2.2.2.2.2.2) X.all2
theorem v3':GlOk (gl [X.l+262] [(X.O2).getD 0 default] ⟨pw,zw.params⟩ (eval nK (eK (X.l+262) (X.c+262))) [0] []) (.ref (X.m+19+262)):=X.grall2.2.2.2
end KX
end
section
open PySem.Calls
noncomputable abbrev fdC (_P:Params):FuncData:=fdOf "cmp_to_key" "cmp_to_key" (dS 21) 3 .none (.str (.ofString "cpy313.functools") 400) (.ref 169)
noncomputable abbrev ceO (fv:Value):Obj:={ cls:=.type "cell",data:=.cell (some fv) }
noncomputable abbrev fr00:Obj:={ cls:=.type "frame",data:=.dict #[] }
section
variable {A:Around}{W W' Wc:Wd}{P:List Addr}{s:Shared}{E:Value->Shared->Prop}{f:D}{fv:Value}
theorem fdC_eq (P:Params):(H1 P).get? 170=some { cls:=.type "function",data:=.func (fdC P) }:=by rfl
theorem bC (m t:Nat)(fv:Value)(P:Params):RunOk (runN (m+262) t [] [] [] 0 [] 30 (bindArgs (fdC P) ⟨[fv],[]⟩)) [(.ofString "mycmp",fv)] [] [] 0 :=
 ⟨by kernel_rfl,by kernel_rfl,by kernel_rfl,by kernel_rfl,by kernel_rfl,by kernel_rfl,by kernel_rfl,by kernel_rfl⟩
theorem nC (m t:Nat)(fv:Value)(P:Params):RunOk (runN (m+262) t [] [] [] 0 [.new 1,.new 1] 30 (newFunctionEnv (fdC P).scope (fdC P).globals (fdC P).closure [(.ofString "mycmp",fv)] ((fdC P).qualname ++ ".<locals>.") (some 170) (fdC P).code none (fdC P).builtins)) (eK (m+262) (m+1+262)) [fr00,ceO fv] [] 0 :=
 ⟨by kernel_rfl,by kernel_rfl,by kernel_rfl,by kernel_rfl,by kernel_rfl,by kernel_rfl,by kernel_rfl,by kernel_rfl⟩
theorem tab_W (I:Inv W){t:Addr}(ht:t∈tabs){h':Heap}(hx:∀ a o,W.h.get? a=some o->a≠t->h'.get? a=some o)(hT:TabAt { W with h:=h' } t):Le [] W { W with h:=h' }/\Inv { W with h:=h' }:=by
 obtain ⟨vs,e1,_⟩:=I.tab t ht
 have htP:t∉W.pv:=I.tabPv t ht
 have tig:W.ig.lookup t=none:=I.noIg e1 nofun
 clear e1
 obtain ⟨vs',hP,_⟩:=id hT
 have L1:Le [] W { W with h:=h' }:=⟨⟨λa o' e h1 _ _=>hx a o' e (λq=>h1 (q▸ht)),λ_ _ e=>e,λ_ _ _ _ e=>e,λa ds cc e x=>x.keep λo' e'=>hx a o' e' (λq=>by rw [q,tig] at e;cases e),λ_ _ _ _ e=>e,λa o' e _=>by
  by_cases q:a=t
  ·exact ⟨_,by rw [q];exact hP⟩
  ·exact ⟨o',hx a o' e q⟩⟩,λ_ h _=>h⟩
 refine ⟨L1,I.base.trans L1.toLe0,λa h=>?_,λa ds e=>(I.ig a ds e).keep λo' e'=>hx a o' e' (λq=>by rw [q,tig] at e;cases e),I.igPv,λu hu=>?_,I.tabPv⟩
 ·clear tig L1 hP
  obtain ⟨o',e⟩:=I.pvAl a h
  exact ⟨o',hx a o' e (λq=>htP (q▸h))⟩
 ·by_cases q:u=t
  ·clear htP tig L1 hP
   subst q;exact hT
  ·exact (I.tab u hu).mono (λo' e=>hx u o' e q) λx o' e h1 h2 h3=>⟨hx x o' e (λz=>h2 (z▸ht)),h1,h3⟩
theorem rel_keep {n t:Nat}{as:List Addr}{st:FS}{s s':Shared}{zo:List Obj}(ho:AllAt s.heap as zo)(R:Rel n t as s.heap s st s'){X:Addr->Prop}(h:∀ (j:Nat) (a:Addr) (o:Obj),as[j]? = some a->zo[j]? = some o->¬ X a->st.olds[j]? = some o):∀ a o,s.heap.get? a=some o->¬ X a->s'.heap.get? a=some o:=by
 intro a o e hx
 by_cases hm:a∈as
 ·clear rel_keep
  obtain ⟨j,hj⟩:=List.getElem?_of_mem hm
  have key:∀ {as:List Addr} {zo:List Obj} {j:Nat} {a:Addr},AllAt s.heap as zo->as[j]? = some a->∃ o,zo[j]? = some o:=by
   intro as
   induction as with
   | nil=>intro zo j a _ h;simp at h
   | cons b l ih =>
    intro zo j a x h
    cases zo with
    | nil=>exact x.elim
    | cons o' zo =>
     cases j with
     | zero=>exact ⟨o',rfl⟩
     | succ j=>exact ih (zo:=zo) (j:=j) x.2 h
  obtain ⟨o',ho'⟩:=key ho hj
  have:=ho.at hj ho'
  rw [e] at this
  clear ho key
  cases this
  exact R.old j a o hj (h j a o hj ho' hx)
 ·exact R.keep a o e hm
theorem made1 (X:KX){s2 s':Shared}{M O1:List Obj}{uu:Nat->Nat}{ktk:Nat}(all:AllAt s2.heap X.as1 (X.os1))(R':Rel (X.m+262) X.t X.as1 s2.heap s2 (fs M O1 ktk) s')
  (b6:[1,2,3,4,6,7].map (λj=>O1[j]?)=[some { cls:=.type "cell",data:=.cell (some X.fv) },some (obj zw.params 3),some (obj zw.params 0),some (obj zw.params 4),some (obj zw.params 169),some (obj zw.params cStatics)])
  (b7:O1[5]? = some { cls:=.none,data:=.fields #[.int 149 (uu 12),.int 4 (uu 13),.ref (X.m+5+262)] }) :
  (∀ (i:Nat) (o:Obj),M[i]? = some o->s'.heap.get? (X.m+262+i)=some o)/\(∀ a o,s2.heap.get? a=some o->a≠X.l+262->a≠165->s'.heap.get? a=some o)/\s'.heap.get? (X.c+262)=some (ceO X.fv) /\
   s'.heap.get? 165=some { cls:=.none,data:=.fields #[.int 149 (uu 12),.int 4 (uu 13),.ref (X.m+5+262)] }/\(s'.gens=s2.gens/\s'.os=s2.os/\s'.drawn=s2.drawn)/\s'.heap.get? (X.l+262)=some (O1.getD 0 default):=by
 have hr:=R'.rest
 simp only [List.map_cons,List.map_nil,List.cons.injEq,and_true] at b6
 clear made1
 obtain ⟨o1,o2,o3,o4,o6,o7⟩:=b6
 refine ⟨λi o e=>R'.new i o e,λa o e h1 h2=>rel_keep (X:=λa=>a=X.l+262\/a=165) all R' (λj a o e1 e2 e3=>?_) a o e λh=>h.elim h1 h2,R'.old 1 _ _ rfl o1,R'.old 5 _ _ rfl b7,⟨hr.1,hr.2.1,hr.2.2⟩,?_⟩
 ·clear hr h2 h1 e all
  rcases j with _ | _ | _ | _ | _ | _ | _ | _ | j
  ·exact absurd (.inl (Option.some.inj e1).symm) e3
  ·exact o1.trans e2
  ·exact o2.trans e2
  ·exact o3.trans e2
  ·exact o4.trans e2
  ·exact absurd (.inr (Option.some.inj e1).symm) e3
  ·exact o6.trans e2
  ·exact o7.trans e2
  ·simp [KX.as1] at e1
 ·clear o7 o6 o4 o3 o2 o1 hr all
  cases O1 with
  | nil=>simp at b7
  | cons x r=>exact R'.old 0 _ _ rfl rfl
theorem made1R (X:KX){s2 s':Shared}(R:Rel (X.m+262) X.t X.as1 s2.heap s2 (okS (X.ren1)) s'):Rel (X.m+262) X.t X.as1 s2.heap s2 (fs (X.M1) (X.O1) (okS (X.ren1)).tk) s':=R.to ⟨X.M1_eq,X.O1_eq,rfl⟩
theorem made2R (X:KX){s2 s':Shared}(R:Rel (X.m+262) X.t X.as2 s2.heap s2 (okS (X.ren2)) s'):Rel (X.m+262) X.t X.as2 s2.heap s2 (fs (X.M2) (X.O2) (okS (X.ren2)).tk) s':=R.to ⟨X.M2_eq,X.O2_eq,rfl⟩
theorem made2 (X:KX){s2 s':Shared}{M O2:List Obj}{ktk:Nat}(all:AllAt s2.heap X.as2 (X.os2))(R':Rel (X.m+262) X.t X.as2 s2.heap s2 (fs M O2 ktk) s')
  (b6:O2.drop 1=(X.os2).drop 1) (b14:O2.length=10) :
  (∀ (i:Nat) (o:Obj),M[i]? = some o->s'.heap.get? (X.m+262+i)=some o)/\(∀ a o,s2.heap.get? a=some o->a≠X.l+262->s'.heap.get? a=some o)/\s'.heap.get? (X.c+262)=some (ceO X.fv) /\
   (s'.gens=s2.gens/\s'.os=s2.os/\s'.drawn=s2.drawn)/\s'.heap.get? (X.l+262)=some (O2.getD 0 default):=by
 have hr:=R'.rest
 clear made2
 obtain ⟨x0,r,rfl⟩:∃ x0 r,O2=x0::r:=by
  cases O2 with
  | nil=>simp at b14
  | cons x0 r=>exact ⟨x0,r,rfl⟩
 have b6':r=(X.os2).drop 1:=b6
 clear b6 b14
 subst b6'
 refine ⟨λi o e=>R'.new i o e,λa o e h1=>rel_keep (X:=λa=>a=X.l+262) all R' (λj a o e1 e2 e3=>?_) a o e h1,R'.old 1 _ _ rfl rfl,⟨hr.1,hr.2.1,hr.2.2⟩,R'.old 0 _ _ rfl rfl⟩
 cases j with
 | zero=>exact absurd (Option.some.inj e1).symm e3
 | succ j=>exact e2
theorem case1_W (X:KX)(I:Inv W)(hm:W.h.objs.size=X.l+262)(hc:X.c=X.l+1)(hmm:X.m=X.l+2){s2 s':Shared}(keep2:∀ a o,W.h.get? a=some o->s2.heap.get? a=some o)
  (a1:∀ (i:Nat) (o:Obj),(X.M1)[i]? = some o->s'.heap.get? (X.m+262+i)=some o) (a2:∀ a o,s2.heap.get? a=some o->a≠X.l+262->a≠165->s'.heap.get? a=some o) (a3:s'.heap.get? (X.c+262)=some (ceO X.fv))
  (a4:s'.heap.get? 165=some { cls:=.none,data:=.fields #[.int 149 (X.uu1 12),.int 4 (X.uu1 13),.ref (X.m+5+262)] }) (rf:Rep W f X.fv) :
  TabAt { W with h:=s'.heap } 165/\(∀ a o,W.h.get? a=some o->a≠165->s'.heap.get? a=some o)/\(Le [] W { W with h:=s'.heap }->KAt { W with h:=s'.heap } (X.kq1) f):=by
 have b16:=X.x16
 have b11:=X.x11
 have b13:=X.x13
 have NW:∀ {i:Nat} {o:Obj},(X.M1)[i]? = some o->St { W with h:=s'.heap } (X.m+i+262) o:=λ{i o} e=>St.new I (by
  have:=a1 i o e
  rw [show X.m+262+i=X.m+i+262 from by exact Nat.add_right_comm _ _ _] at this
  exact this) (by rw [hm,hmm];exact Nat.add_le_add_right (Nat.le_trans (Nat.le_add_right _ 2) (Nat.le_add_right _ i)) 262)
 have sC:St { W with h:=s'.heap } (X.c+262) (ceO X.fv):=St.new I a3 (by rw [hm,hc];exact Nat.add_le_add_right (Nat.le_succ _) 262)
 have s58:=NW X.x1
 have s57:=NW X.x2
 have s59:=NW X.x3
 have s14:=NW X.x4
 have s22:=NW X.x5
 have s5:=NW X.x8
 have s4:=NW X.x9
 have s13:=NW X.x10
 have s21:=NW X.x12
 have c0:CodeW { W with h:=s'.heap } "cmp_to_key.<locals>.K.__init__" (.ref (X.m+13+262)):=⟨_,_,_,_,rfl,s13.pv,s13.get,⟨s13.tab,s13.ig⟩,rfl,b11⟩
 have c1:CodeW { W with h:=s'.heap } "cmp_to_key.<locals>.K.__lt__" (.ref (X.m+21+262)):=⟨_,_,_,_,rfl,s21.pv,s21.get,⟨s21.tab,s21.ig⟩,rfl,b13⟩
 have ck:CodeW { W with h:=s'.heap } (qualOf 165) (.ref (X.m+5+262)):=⟨_,_,_,_,rfl,s5.pv,s5.get,⟨s5.tab,s5.ig⟩,rfl,congrArg some b16⟩
 refine ⟨⟨_,a4,?_,λpos cv h=>?_,λ_=>.inr ⟨X.m+5,X.m+4,_,X.uu1,X.cs1,rfl,s5,s4,by exact λz=>absurd (Nat.add_left_cancel z) (by decide),c0,c1⟩⟩,λa o e h=>a2 a o (keep2 a o e) (λz=>?_) h,λL=>?_⟩
 ·trivial
 ·simp only [codeAmong] at h
  split at h
  ·cases h;exact ck
  ·cases h
 ·have h1:a < W.h.objs.size:=Heap.lt_size e
  rw [hm,z] at h1
  exact absurd h1 (Nat.lt_irrefl _)
 ·refine ⟨s58,s57,s59,s14,s22,sC,⟨_,_,_,s13,rfl,b11⟩,⟨_,_,_,s21,rfl,b13⟩,?_,rf.later I L⟩
  show [X.m+58,X.m+57,X.m+59,X.m+14,X.m+22,X.c].Nodup
  rw [hc,hmm]
  simp
section
variable (hk:∀ a o,(H1 zw.params).get? a=some o->zh.get? a=some o)
include hk
theorem case2_W (X:KX)(I:Inv W)(hm:W.h.objs.size=X.l+262)(hc:X.c=X.l+1)(hmm:X.m=X.l+2){s2 s':Shared}(keep2:∀ a o,W.h.get? a=some o->s2.heap.get? a=some o)
  (a1:∀ (i:Nat) (o:Obj),(X.M2)[i]? = some o->s'.heap.get? (X.m+262+i)=some o) (a2:∀ a o,s2.heap.get? a=some o->a≠X.l+262->s'.heap.get? a=some o) (a3:s'.heap.get? (X.c+262)=some (ceO X.fv))
  (hc0:CodeW W "cmp_to_key.<locals>.K.__init__" (.ref (X.cs 0+262))) (hc1:CodeW W "cmp_to_key.<locals>.K.__lt__" (.ref (X.cs 1+262))) (rf:Rep W f X.fv) :
  (∀ a o,W.h.get? a=some o->s'.heap.get? a=some o)/\(Le [] W { W with h:=s'.heap }->KAt { W with h:=s'.heap } (X.kq2) f):=by
 have NW:∀ {i:Nat} {o:Obj},(X.M2)[i]? = some o->St { W with h:=s'.heap } (X.m+i+262) o:=λ{i o} e=>St.new I (by
  have:=a1 i o e
  rw [show X.m+262+i=X.m+i+262 from by exact Nat.add_right_comm _ _ _] at this
  exact this) (by rw [hm,hmm];exact Nat.add_le_add_right (Nat.le_trans (Nat.le_add_right _ 2) (Nat.le_add_right _ i)) 262)
 have sC:St { W with h:=s'.heap } (X.c+262) (ceO X.fv):=St.new I a3 (by rw [hm,hc];exact Nat.add_le_add_right (Nat.le_succ _) 262)
 have s19:=NW X.z1
 have s18:=NW X.z2
 have s20:=NW X.z3
 have s5:=NW X.z4
 have s7:=NW X.z5
 have code:∀ (L:Le [] W { W with h:=s'.heap }) {x:Str} {c:Nat},CodeW W x (.ref (c+262))->∃ oc vs t,St { W with h:=s'.heap } (c+262) oc/\oc.data=.fields vs/\vs[1]? = some (.str x t):=λL {x c} h=>by
  obtain ⟨c',oc,fs,tk,e,h1,h2,h3,h4,h5⟩:=h
  cases e
  exact ⟨oc,fs,tk,(St.mk h2 h1 h3.1 h3.2).later L,h4,h5⟩
 refine ⟨λa o e=>a2 a o (keep2 a o e) (λz=>?_),λL=>?_⟩
 ·have h1:a < W.h.objs.size:=Heap.lt_size e
  rw [hm,z] at h1
  exact absurd h1 (Nat.lt_irrefl _)
 ·refine ⟨s19,s18,s20,s5,s7,sC,code L hc0,code L hc1,?_,rf.later I L⟩
  show [X.m+19,X.m+18,X.m+20,X.m+5,X.m+7,X.c].Nodup
  rw [hc,hmm]
  simp
end
end
end
section
open PySem.Calls
section
variable {A:Around}{W W' Wc:Wd}{P:List Addr}{s:Shared}{E:Value->Shared->Prop}{f:D}{fv:Value}
variable (hk:∀ a o,(H1 zw.params).get? a=some o->zh.get? a=some o)
include hk
set_option backward.match.sparseCases true in
theorem cmp_W (h261:∃ o,zh.get? 261=some o)(hlim:zh.NoLimit)(I:Inv W)(rf:Rep W f fv)(hroom:A.depth+1 < recursionLimit){Q:Value->Shared->Prop}(o:Ok W s)
  (p:∀ (q:KQ) W' s',Le [] W W'->Inv W'->Ok W' s'->KAt W' q f->Q (.ref (q.k+262)) s'):wpAny (model pw zw) A (call (.ref 170) [fv]) Q E s:=by
 obtain ⟨m,hm⟩:=big_at h261 I
 have hh:s.heap=W.h:=o.1
 have hm':s.heap.objs.size=m+262:=by rw [hh];exact hm
 have g170:W.h.get? 170=some _:=I.at (hk _ _ (fdC_eq zw.params)) (by decide)
 refine wpAny_call ?_
 refine codeAny_call_function (fd:=fdC zw.params) (body:=(dS 21).2.1) (Nat.lt_of_succ_lt hroom) (by rw [hh];exact g170) rfl (by kernel_rfl) (by kernel_rfl) rfl ⟨169,_,_,_,rfl,by rw [hh];exact I.at (hk 169 _ rfl) (by decide),rfl,rfl⟩ ?_
 have R0:Rel (m+262) s.toks [] s.heap s (fs [] [] 0) s:=⟨hm',λi o h=>by simp at h,λj a o h=>by simp at h,λ_ _ e _=>e,rfl,rfl,rfl,rfl⟩
 refine go_run (s0:=s) [] 30 _ _ _ _ hm' List.nodup_nil (λ_ h=>nomatch h) R0 (bC m s.toks fv zw.params) λs1 R1=>?_
 refine go_run (s0:=s) [.new 1,.new 1] 30 (eK (m+262) (m+1+262)) [fr00,ceO fv] [] 0 hm' List.nodup_nil (λ_ h=>nomatch h) R1 (nC m s.toks fv zw.params) λs2 R2=>?_
 have ad:Adds [fr00,ceO fv] 0 s s2:=by
  have R2':=R2
  rw [<-hm'] at R2'
  exact Rel.added (as:=[]) (O:=[]) trivial R2'
 refine xAA (adds_W I o ad) λL2 I2 o2=>?_
 have gL:s2.heap.get? (m+262)=some fr00:=R2.new 0 _ rfl
 have gC:s2.heap.get? (m+1+262)=some (ceO fv):=by
  have:=R2.new 1 _ rfl
  rw [show m+262+1=m+1+262 from by exact Nat.add_right_comm _ _ _] at this
  exact this
 have hs2:s2.heap.objs.size=m+2+262:=by
  have:=R2.size
  rw [this]
  show m+262+2=_
  exact Nat.add_right_comm _ _ _
 have nL:∀ o',W.h.get? (m+262)≠some o':=λo' e=>by
  have:=Heap.lt_size e
  rw [hm] at this
  exact absurd this (Nat.lt_irrefl _)
 have nC':∀ o',W.h.get? (m+1+262)≠some o':=λo' e=>by
  have h1:m+1+262 < W.h.objs.size:=Heap.lt_size e
  rw [hm] at h1
  omega
 refine ⟨by rw [o2.1];exact lim_at hlim I2,codeAny_func ?_⟩
 rw [bodyK]
 refine wpAny_execs_cons ?_
 have keep2:∀ a o',W.h.get? a=some o'->s2.heap.get? a=some o':=λa o' e=>ad.keep a o' (by rw [hh];exact e)
 obtain ⟨vs,tg0,tt,tc,tk165⟩:=I.tab 165 (by decide)
 have tg:=keep2 _ _ tg0
 have kt:=tk165 rfl
 have at3:s2.heap.get? 3=some (obj zw.params 3):=I2.at (hk 3 _ (by rfl)) (by decide)
 have at0:s2.heap.get? 0=some (obj zw.params 0):=I2.at (hk 0 _ (by rfl)) (by decide)
 have at4:s2.heap.get? 4=some (obj zw.params 4):=I2.at (hk 4 _ (by rfl)) (by decide)
 have at169:s2.heap.get? 169=some (obj zw.params 169):=I2.at (hk 169 _ (by rfl)) (by decide)
 have at2:s2.heap.get? cStatics=some (obj zw.params cStatics):=stat_at hk I2
 have hdp:(A.deeper (eK (m+262) (m+1+262))).depth < recursionLimit:=hroom
 have fin:∀ (q:KQ) (s':Shared) (O0:Obj),(∀ a o',W.h.get? a=some o'->a≠165->s'.heap.get? a=some o')->TabAt { W with h:=s'.heap } 165->s'.gens=s2.gens/\s'.os=s2.os/\s'.drawn=s2.drawn ->
   (∀ (L1:Le [] W { W with h:=s'.heap }) (I1:Inv { W with h:=s'.heap }),KAt { W with h:=s'.heap } q f)->s'.heap.get? (m+262)=some O0->GlOk (gl [m+262] [O0] ⟨pw,zw.params⟩ (eval nK (eK (m+262) (m+1+262))) [0] []) (.ref (q.k+262)) ->
   wpAny (model pw zw) (A.deeper (eK (m+262) (m+1+262))) (execs [.Return (some nK) pK] (eK (m+262) (m+1+262))) (λf s'=>Q (match f with | .ret v=>v | _=>.none) s') (λ_ _=>False) s':=by
  intro q s' O0 hx hT hr K g hg
  obtain ⟨L1,I1⟩:=tab_W I (t:=165) (by decide) hx hT
  refine wpAny_execs_cons (ret_value ?_)
  refine gl_at (as:=[m+262]) (os:=[O0]) [0] (.ref (q.k+262)) hg ⟨g,trivial⟩ ?_
  exact p q { W with h:=s'.heap } s' L1 I1 ⟨rfl,hr.1.trans o2.2.1,hr.2.1.trans o2.2.2⟩ (K L1 I1)
 have pst:∀ {f':Flow} {s':Shared},Q (match f' with | .ret v=>v | _=>.none) s'->(match (Except.ok (Flow.ret (match f' with | .ret v=>v | _=>.none)):Result) with | .ok (.ret v)=>Q v s' | .ok _=>False | .error e=>E e s'):=λh=>h
 have nd8:∀ {l:List Nat},l.Nodup->(∀ x∈l,x < 262)->([m+262,m+1+262]++l).Nodup:=λ{l} h1 h2=>by
  refine List.nodup_append.mpr ⟨by simp,h1,λa ha b hb=>?_⟩
  have:=h2 b hb
  simp only [List.mem_cons,List.not_mem_nil,or_false] at ha
  rcases ha with rfl | rfl<;>omega
 rcases kt with rfl | ⟨k,tk,ff,u,cs,rfl,hk1,hk2,hkt,hc0,hc1⟩
 ·
  obtain ⟨X,e1,e2,e3,e4,e5⟩:∃ X:KX,X.m=m+2/\X.t=s2.toks/\X.l=m/\X.c=m+1/\X.fv=fv:=⟨⟨m+2,s2.toks,m,m+1,fv,0,0,λ_=>0,λ_=>.none,λ_=>0⟩,rfl,rfl,rfl,rfl,rfl⟩
  have all:AllAt s2.heap X.as1 (X.os1):=⟨by rw [e3];exact gL,by rw [e4,e5];exact gC,at3,at0,at4,tg,at169,at2,trivial⟩
  have nd:X.as1.Nodup:=by
   have:X.as1=[m+262,m+1+262]++[3,0,4,165,169,2]:=by show [X.l+262,X.c+262,_,_,_,_,_,_]=_;rw [e3,e4];rfl
   rw [this]
   exact nd8 (by decide) (by decide)
  have ex:=X.exec1 (A:=A.deeper (eK (m+262) (m+1+262))) (s:=s2) all nd (by rw [hs2,e1]) e2.symm hdp (E:=λ_ _=>False) (Q:=λf' s'=>f'=.next/\Rel (X.m+262) X.t X.as1 s2.heap s2 (okS (X.ren1)) s') λs' R=>⟨rfl,R⟩
  rw [e3,e4] at ex
  refine wpAny_mono ex ?_ λ_ _ h=>h.elim
  rintro f' s' ⟨rfl,R⟩
  refine xAAAAA (made1 X all (made1R X R) X.x6 X.x7) λa1 a2 a3 a4 a5 a6=>?_
  obtain ⟨t1,t2,t3⟩:=case1_W X I (by rw [e3];exact hm) (by rw [e4,e3]) (by rw [e1,e3]) keep2 a1 a2 a3 a4 (by rw [e5];exact rf)
  have y7:=X.y7
  rw [e3,e4] at y7
  rw [e3] at a6
  exact wpAny_mono (fin (X.kq1) s' _ t2 t1 a5 (λL1 _=>t3 L1) a6 y7) (λf' s' h=>pst h) λ_ _ h=>h.elim
 ·
  obtain ⟨X,e1,e2,e3,e4,e5,e6,e7,e8,e9,e10⟩:∃ X:KX,X.m=m+2/\X.t=s2.toks/\X.l=m/\X.c=m+1/\X.fv=fv/\X.k=k/\X.tk=tk/\X.cs=cs/\X.f=ff/\X.u=u:=⟨⟨m+2,s2.toks,m,m+1,fv,k,tk,cs,ff,u⟩,rfl,rfl,rfl,rfl,rfl,rfl,rfl,rfl,rfl,rfl⟩
  subst e6 e7 e8 e9 e10
  have kk:=keep2 _ _ hk1.get
  have kt:=keep2 _ _ hk2.get
  have all:AllAt s2.heap X.as2 (X.os2):=⟨by rw [e3];exact gL,by rw [e4,e5];exact gC,at3,at0,at4,tg,at169,at2,kk,kt,trivial⟩
  have nd:X.as2.Nodup:=by
   have:X.as2=([m+262,m+1+262]++[3,0,4,165,169,2])++[X.k+262,X.tk+262]:=by show [X.l+262,X.c+262,_,_,_,_,_,_,_,_]=_;rw [e3,e4];rfl
   rw [this]
   refine List.nodup_append.mpr ⟨nd8 (by decide) (by decide),by simp;omega,λa ha b hb=>?_⟩
   have n1:X.k+262≠m+262:=λh=>nL _ (h▸hk1.get)
   have n2:X.k+262≠m+1+262:=λh=>nC' _ (h▸hk1.get)
   have n3:X.tk+262≠m+262:=λh=>nL _ (h▸hk2.get)
   have n4:X.tk+262≠m+1+262:=λh=>nC' _ (h▸hk2.get)
   simp only [List.mem_cons,List.mem_append,List.not_mem_nil,or_false] at ha hb
   have big:∀ (c:Nat),a≠c+262\/262<=a:=λc=>by
    rcases Nat.lt_or_ge a 262 with h | h
    ·exact .inl λz=>by rw [z] at h;exact absurd h (Nat.not_lt.mpr (Nat.le_add_left ..))
    ·exact .inr h
   have small:262<=a->a=m+262\/a=m+1+262:=λh=>by
    rcases ha with (ha | ha) | ha
    ·exact .inl ha
    ·exact .inr ha
    ·exfalso
     rcases ha with ha | ha | ha | ha | ha | ha<;>(rw [ha] at h;revert h;decide)
   rcases hb with rfl | rfl
   ·rcases big X.k with h | h
    ·exact h
    ·rcases small h with z | z
     ·exact λe=>n1 (e.symm.trans z)
     ·exact λe=>n2 (e.symm.trans z)
   ·rcases big X.tk with h | h
    ·exact h
    ·rcases small h with z | z
     ·exact λe=>n3 (e.symm.trans z)
     ·exact λe=>n4 (e.symm.trans z)
  have ex:=X.exec2 (A:=A.deeper (eK (m+262) (m+1+262))) (s:=s2) all nd (by rw [hs2,e1]) e2.symm hdp (E:=λ_ _=>False) (Q:=λf' s'=>f'=.next/\Rel (X.m+262) X.t X.as2 s2.heap s2 (okS (X.ren2)) s') λs' R=>⟨rfl,R⟩
  rw [e3,e4] at ex
  refine wpAny_mono ex ?_ λ_ _ h=>h.elim
  rintro f' s' ⟨rfl,R⟩
  refine xAAAA (made2 X all (made2R X R) X.z6 X.z7) λa1 a2 a3 a5 a6=>?_
  obtain ⟨t2,t3⟩:=case2_W hk X I (by rw [e3];exact hm) (by rw [e4,e3]) (by rw [e1,e3]) keep2 a1 a2 a3 hc0 hc1 (by rw [e5];exact rf)
  have y7:=X.v3'
  rw [e3,e4] at y7
  rw [e3] at a6
  have t1:TabAt { W with h:=s'.heap } 165:=(ext_old (h':=s'.heap) I t2).2.tab 165 (by decide)
  exact wpAny_mono (fin (X.kq2) s' _ (λa o' e _=>t2 a o' e) t1 a5 (λL1 _=>t3 L1) a6 y7) (λf' s' h=>pst h) λ_ _ h=>h.elim
end
end
section
open PySem.Calls
noncomputable def GX:List (Tx×Value):=[(tSorted,.builtin "sorted"),(tTuple,.type "tuple"),(tMap,.type "map"),(tEnum,.type "enumerate"),([115,101,116],.type "set")]
theorem gx_ok (P:Params):GX.map (λr=>(nsFind (es3 P) (S r.1),nsFind (es0 P) (S r.1)))=GX.map (λr=>(none,some r.2)):=by kernel_rfl
theorem gcmp_ok (P:Params):nsFind (es3 P) (S tCmp)=some (.ref 170):=by kernel_rfl
section
variable {P:Params}
theorem ns_at (hk:∀ a o,(H1 P).get? a=some o->zh.get? a=some o){env:Env}{W:Wd}{s:Shared}(hg:env.globals=3)(hb:env.builtins=0)(I:Inv W)(o:Ok W s):s.heap.Ns env.globals (nsFind (es3 P))/\s.heap.Ns env.builtins (nsFind (es0 P)):=by
 obtain ⟨ep,e3⟩:=get3 P
 refine xEEA (get0 P) λo0 ep0 e0 d0=>?_
 refine ⟨?_,?_⟩
 ·rw [hg,o.1]
  exact ⟨_,_,ep,I.at (hk _ _ e3) (by decide),rfl,strK_of (k3 P),λ_=>rfl⟩
 ·rw [hb,o.1]
  exact ⟨_,_,ep0,I.at (hk _ _ e0) (by decide),d0,strK_of (k0 P),λ_=>rfl⟩
theorem isNm_parts {nm:List (Str×NameKind)}{t:Tx}{i:Str}{p:Pos}(h:isNm nm t (.Name i p)=true):tx i=t/\lkp nm t=some .globalImplicit:=by
 have h:(eqT (tx i) t&&isGlo (lkp nm t))=true:=h
 rw [Bool.and_eq_true] at h
 exact ⟨eqT_iff.mp h.1,isGlo_iff h.2⟩
theorem glo_name {A:Around}{nm:List (Str×NameKind)}{env:Env}{B:List Addr}{W:Wd}{ρ:Rho}{s:Shared}{t:Tx}{i:Str}{p:Pos}{Q:Value->Shared->Prop}{E:Value->Shared->Prop}(F:Fm B nm env W ρ)(h:isNm nm t (.Name i p)=true)(hdb:eqT t tDebug=false)
  (hl:wpAny Mo A (loadGlobal env (S t)) Q E s):wpAny Mo A (eval (.Name i p) env) Q E s:=by
 obtain ⟨rfl,hn⟩:=isNm_parts h
 refine name_at hdb ?_
 have hk:=F.kg _ hn
 unfold loadName
 simp only [Env.blockKind,F.kind,hk,ScopeKind.isAnnotationScope,Bool.false_and,Bool.false_eq_true,if_false]
 exact hl
theorem gx_at (hk:∀ a o,(H1 P).get? a=some o->zh.get? a=some o){A:Around}{nm:List (Str×NameKind)}{env:Env}{B:List Addr}{W:Wd}{ρ:Rho}{s:Shared}{t:Tx}{v:Value}{i:Str}{p:Pos}{Q:Value->Shared->Prop}{E:Value->Shared->Prop}(F:Fm B nm env W ρ)(h:isNm nm t (.Name i p)=true)(hm:(t,v)∈GX)(hdb:eqT t tDebug=false)(I:Inv W)(o:Ok W s)(q:Q v s):wpAny Mo A (eval (.Name i p) env) Q E s:=by
 obtain ⟨n3,n0⟩:=ns_at hk F.gl F.bi I o
 have z:=map_at (gx_ok P) hm
 exact glo_name F h hdb (Calls.loadGlobal_builtin n3 (congrArg Prod.fst z) n0 (congrArg Prod.snd z) q)
end
section
variable {A:Around}
variable (hk:∀ a o,(H1 zw.params).get? a=some o->zh.get? a=some o)
include hk
theorem ksort_W (h261:∃ o,zh.get? 261=some o)(hlim:zh.NoLimit)(Bb:Bs){n:Nat}{cal:D->List D->Option D}(rm:RmS n A)(hc:CalOk cal n)(hkp:∀ A' f as d,cal f as=some d->∀ W fv,Inv W->Rep W f fv->Keep A' W fv)
  {f:D} {xs ds:List D} (hd:sortD (λa b=>cal f [a,b]) xs=some ds) {nm:List (Str×NameKind)} {env:Env} {B:List Addr} {W:Wd} {ρ:Rho} {i1 i2 kn:Str} {p1 p2 kp pos1 pos2:Pos} {he xe:Expr} (F:Fm B nm env W ρ) (I:Inv W)
  (hn1:isNm nm tSorted (.Name i1 p1)=true) (hn2:isNm nm tCmp (.Name i2 p2)=true) (hkn:eqT (tx kn) tKey=true) (hs0:noStar [xe,he]=true) (hx:GvA A (eval xe env) W (.list xs)) (hf:GvA A (eval he env) W f) :
  Gv A (eval (.Call (.Name i1 p1) [xe] [⟨some kn,.Call (.Name i2 p2) [he] [] pos1,kp⟩] pos2) env) W (.list ds):=by
 have hs:noStar [xe]=true:=by
  simp only [noStar,List.all_cons,List.all_nil,Bool.and_true,Bool.and_eq_true] at hs0 ⊢
  exact hs0.1
 have hs2:noStar [he]=true:=by
  simp only [noStar,List.all_cons,List.all_nil,Bool.and_true,Bool.and_eq_true] at hs0 ⊢
  exact hs0.2
 intro s Q E o p
 have hst:xs.all isStr=true:=(ite_val hd).1
 have ek:kn=Str.ofString "key" := by
  rw [<-S_tx kn,eqT_iff.mp hkn];rfl
 refine wpAny_Call_Name_kw (gx_at hk F hn1 (.head _) rfl I o ?_)
 have key:wpAny (Mo) A (spliced (backTo pos2 (starEach [xe] env))) (λvs s₁=>wpAny (Mo) A (evalAll ((backToKw pos2 (keywordEach [⟨some kn,.Call (.Name i2 p2) [he] [] pos1,kp⟩] env)).map (·.2)))
   (λkvs s₂=>wpAny (Mo) A (call (.builtin "sorted") vs (((backToKw pos2 (keywordEach [⟨some kn,.Call (.Name i2 p2) [he] [] pos1,kp⟩] env)).filterMap (·.1)).zip kvs)) Q E s₂) E s₁) E s:=by
  refine items_at (ds:=[.list xs]) I hs (λk e d h1 h2=>?_) rfl o λvs W1 s1 L1 I1 o1 r1=>?_
  ·match k,h1,h2 with
   | 0,h1,h2=>cases h1;cases h2;exact hx
  obtain ⟨lv,vs',rfl,rl,rn⟩:=r1
  have:vs'=[]:=rn
  subst this
  refine kws_cons ?_
  refine wpAny_Call_Name_kw (glo_name (F.later I L1) hn2 rfl (loadGlobal_global (ns_at hk F.gl F.bi I1 o1).1 (gcmp_ok zw.params) ?_))
  refine callWith_core hs2 (items_at (ds:=[f]) I1 hs2 (λk e d h1 h2=>?_) rfl o1 λvs W2 s2 L2 I2 o2 r2=>?_)
  ·match k,h1,h2 with
   | 0,h1,h2=>cases h1;cases h2;exact λW' L I'=>hf W' (L1.trans L) I'
  obtain ⟨fv,vs',rfl,rf,rn⟩:=r2
  have:vs'=[]:=rn
  subst this
  have g170:W2.h.get? 170=some _:=I2.at (hk _ _ (fdC_eq zw.params)) (by decide)
  have nv:(170:Addr)∉W2.pv:=λz=>nomatch I2.base.pv 170 _ (hk _ _ (fdC_eq zw.params)) (λz=>nomatch z) z
  refine xEA (Keep.func (A:=A) I2 g170 nv (λz=>nomatch z) (show Value.type "function" ≠ Value.type "dict" from by decide) rfl W2 (Le.refl W2) I2) λkk hkk hkq=>?_
  refine ⟨kk,hkk,λQ E q=>hkq Q E s2 o2 q,?_⟩
  have hroom:A.depth+1 < recursionLimit:=by
   have:=rm.d
   have e:recursionLimit=1000:=rfl
   rw [e];exact Nat.lt_of_le_of_lt (Nat.le_trans (Nat.add_le_add_left (show 1<=5 by decide) A.depth) (Nat.le_trans (Nat.add_le_add_right (Nat.le_add_right A.depth _) 5) this)) (show 990 < 1000 by decide)
  refine cmp_W hk h261 hlim I2 rf hroom o2 λq W3 s3 L3 I3 o3 K3=>?_
  refine kws_nil ?_
  subst ek
  have L13:=L2.trans L3
  exact sorted_W hk Bb h261 hlim hc hkp rm I3 K3 (rl.later I1 L13) hst hd o3 (p.later (L1.trans L13))
 exact callWith_kw key (by rw [star1 hs [] env];rfl) (any_false hs) rfl rfl
end
end
section
open PySem.Calls
noncomputable abbrev asI (x dx:Addr):List Addr:=[x,dx,159,158]
noncomputable abbrev dO (l:List DictEntry)(n:Nat):Obj:={ cls:=.type "dict",data:=.dict ⟨l⟩ n }
noncomputable abbrev osI (dx:Addr)(l:List DictEntry)(n:Nat):List Obj:=[igX dx,dO l n,obj zw.params 159,obj zw.params 158]
noncomputable def ans4:List An:=[.old 0,.old 2,.old 2,.old 3,.old 0,.old 2,.old 0,.old 2,.old 0,.old 2,.old 2,.old 3,.old 0,.old 2,.old 1,.old 1,.old 1]
noncomputable abbrev kw (x:Tx)(t:Tok)(v:Value):DictEntry:={ hash:=PyData.keyHash zw.params (S x),key:=.str (S x) t,val:=v }
noncomputable def SetRun (l:List DictEntry)(n:Nat)(nm:Tx):Prop:=∀ n0 t0 x dx v,RunOk (runN n0 t0 (asI x dx) [] (osI dx l n) 0 ans4 30 (setAttr (.ref x) (S nm) v)) () [] (osI dx (l++[kw nm (t0+1) v]) (n+1)) 2
section
variable {A:Around}{W W' W1:Wd}{B:List Addr}{s:Shared}{E:Value->Shared->Prop}{env:Env}{ρ:Rho}{x dx:Addr}{l:List DictEntry}{n:Nat}{nm:Tx}{names:List (Str×NameKind)}
theorem sa_mods:SetRun [] 0 xMods:=λn0 t0 x dx v=>.of (by kernel_rfl)
theorem sa_dirs {t1:Tok}{v1:Value}:SetRun [kw xMods t1 v1] 1 xDirs:=λn0 t0 x dx v=>.of (by kernel_rfl)
theorem sa_ign {t1 t2:Tok}{v1 v2:Value}:SetRun [kw xMods t1 v1,kw xDirs t2 v2] 2 xIgn:=λn0 t0 x dx v=>.of (by kernel_rfl)
structure Ini (W1:Wd)(B:List Addr)(names:List (Str×NameKind))(env:Env)(ρ:Rho)(x dx:Addr)(l:List DictEntry)(n:Nat)(W:Wd):Prop where
 I:Inv W
 L:Le [dx] W1 W
 F:Fm B names env W ρ
 ox:W.h.get? x=some (igX dx)
 xp:x∉W.pv
 od:W.h.get? dx=some (dO l n)
 dp:dx∈W.pv
 dB:dx∈B
theorem Ini.le (a:Ini W1 B names env ρ x dx l n W)(L:Le [] W W')(I':Inv W'):Ini W1 B names env ρ x dx l n W' :=
 have hP:∀ a∈([]:List Addr),a∈W.pv:=λ_ h=>nomatch h
 ⟨I',a.L.trans L.nil,a.F.later a.I L,L.toLe0.obj a.I hP a.xp a.ox nofun nofun,L.toLe0.notPv hP a.ox a.xp,L.toLe0.priv a.I a.dp (λh=>nomatch h) a.od,L.pvK dx a.dp (λh=>nomatch h),a.dB⟩
variable (hk:∀ a o,(H1 zw.params).get? a=some o->zh.get? a=some o)
include hk
theorem Ini.all (a:Ini W1 B names env ρ x dx l n W):AllAt W.h (asI x dx) (osI dx l n)/\(asI x dx).Nodup:=by
 have i159:=a.I.at (hk 159 _ (by rfl)) (by decide)
 have i158:=a.I.at (hk 158 _ (by rfl)) (by decide)
 refine ⟨⟨a.ox,a.od,i159,i158,trivial⟩,?_⟩
 have ne:∀ {a b:Addr} {o o':Obj},W.h.get? a=some o->W.h.get? b=some o'->o.cls≠o'.cls->a≠b:=λ{a b o o'} e e' hn q=>hn (by
  subst q
  rw [e] at e'
  obtain rfl:=sq e'
  rfl)
 have dn:∀ {b:Addr} {o:Obj},zh.get? b=some o->dx≠b:=λ{b o} e q=>nomatch a.I.base.pv b o e (λz=>nomatch z) (q▸a.dp)
 simp only [asI,List.nodup_cons,List.mem_cons,List.not_mem_nil,or_false,not_or,not_false_eq_true,List.nodup_nil,and_true]
 exact ⟨⟨ne a.ox a.od nofun,ne a.ox i159 nofun,ne a.ox i158 nofun⟩,⟨dn (hk 159 _ (by rfl)),dn (hk 158 _ (by rfl))⟩,by decide⟩
theorem ini_set (a:Ini W1 B names env ρ x dx l n W)(o:Ok W s)(hr:SetRun l n nm){v:Value}{Q:Unit->Shared->Prop}
  (q:∀ t W2 s2,Ini W1 B names env ρ x dx (l++[kw nm t v]) (n+1) W2->Le [dx] W W2->Ok W2 s2->Q () s2):wpAny (model pw zw) A (setAttr (.ref x) (S nm) v) Q E s:=by
 obtain ⟨ha,nd⟩:=a.all hk
 rw [<-o.1] at ha
 refine go_run (s0:=s) ans4 30 () [] (osI dx (l++[kw nm (s.toks+1) v]) (n+1)) 2 rfl nd (λb hb=>ha.lt b hb) (rel_start ha []) (hr _ _ x dx v) λs' R=>?_
 have keep:∀ b ob,W.h.get? b=some ob->b≠dx->s'.heap.get? b=some ob:=by
  intro b ob e hne
  by_cases hm:b∈asI x dx
  ·simp only [asI,List.mem_cons,List.not_mem_nil,or_false] at hm
   rw [<-o.1] at e
   rcases hm with rfl | rfl | rfl | rfl
   ·rw [ha.1] at e;cases e;exact R.old 0 _ _ rfl rfl
   ·exact absurd rfl hne
   ·rw [ha.2.2.1] at e;cases e;exact R.old 2 _ _ rfl rfl
   ·rw [ha.2.2.2.1] at e;cases e;exact R.old 3 _ _ rfl rfl
  ·exact R.keep b ob (by rw [o.1];exact e) hm
 have hx:Heap.ExtBut dx W.h s'.heap:=λb ob hne e=>keep b ob e hne
 have hd:s'.heap.get? dx=some (dO (l++[kw nm (s.toks+1) v]) (n+1)):=R.old 1 _ _ rfl rfl
 have L2:=turn_le a.I a.dp hx
 have I2:=turn_inv a.I a.dp hx ⟨_,hd⟩
 have hP:∀ b∈[dx],b∈W.pv:=mem1 a.dp
 have F2:=a.F.pass a.I L2 hP (mem1 a.dB) λb hb v hc=>by
  rw [List.mem_singleton] at hb
  subst hb
  obtain ⟨ob,e,hd'⟩:=hc
  rw [a.od] at e
  obtain rfl:=sq e
  cases hd'
 refine q (s.toks+1) { W with h:=s'.heap } s' ⟨I2,a.L.trans L2,F2,keep x _ a.ox (λz=>a.xp (z▸a.dp)),a.xp,hd,a.dp,a.dB⟩ L2 ⟨rfl,R.rest.1.trans o.2.1,R.rest.2.1.trans o.2.2⟩
end
end
section
open PySem.Calls
theorem binds149 (a b c:D):binds (mfOf (dM 19 "__init__")) [a,b,c]=some [(tDirs,.d c),(tMods,.d b),(tSelf,.d a)]:=by kernel_rfl
noncomputable abbrev ρI (x:Addr)(ds:List D):Rho:=[(tDirs,.d (.list ds)),(tMods,.d .none),(tSelf,.d (.at x))]
structure Made (W1:Wd)(ts:List Tx)(x dx:Addr)(W:Wd):Prop where
 I:Inv W
 L:Le [dx] W1 W
 ox:W.h.get? x=some (igX dx)
 xp:x∉W.pv
 dp:dx∈W.pv
 parts:∃ ms a g t1 t2 t3 b items v,W.h.get? dx=some (igD t1 t2 t3 ms a g 3)/\ms∉W.pv/\W.h.get? ms=some (igS b)/\a∉W.pv/\W.h.IsList a items/\items.size<=lim/\Txs ts items.toList /\
  g∉W.pv/\W.ig.lookup g=none/\W.h.DictOf (strKind zp zw) g [(S tag,v)]/\W1.h.get? g=none
theorem txs_of {W:Wd}:∀ {xs:List D} {ts:List Tx} {vs:List Value},strsD xs=some ts->(ts.all λt=>Nat.ble t.length 1000)=true->Reps W xs vs->Txs ts vs:=by
 intro qq
 induction qq with
 | nil =>
  intro ts vs h _ r
  cases h
  exact r
 | cons d xs ih =>
  intro ts vs h hl r
  refine xEA (bd_inv h) λhh0 _ h=>?_
  obtain ⟨x,rfl⟩:=hh0
  refine xEA (Option.map_eq_some_iff.mp h) λts' h1 ee2=>?_
  subst ee2
  rw [List.all_cons,Bool.and_eq_true] at hl
  obtain ⟨v,r',rfl,⟨_,t⟩,r2⟩:=r
  exact ⟨v,r',rfl,⟨Nat.le_of_ble_eq_true hl.1,t⟩,ih h1 hl.2 r2⟩
theorem fresh_of {W1 W:Wd}{dx:Addr}{o:Obj}(L:Le [dx] W1 W)(e:W.h.get? dx=some o):W1.h.get? W.h.objs.size=none:=by
 cases h:W1.h.get? W.h.objs.size with
 | none=>rfl
 | some o1 =>
  by_cases q:W.h.objs.size=dx
  ·rw [<-q,fresh_none] at e;exact ns e
  ·obtain ⟨o',e'⟩:=L.alive _ _ h λz=>q (List.mem_singleton.mp z)
   rw [fresh_none] at e';exact ns e'
theorem noIg_new {W:Wd}(I:Inv W):W.ig.lookup W.h.objs.size=none:=by
 cases h:W.ig.lookup W.h.objs.size with
 | none=>rfl
 | some ds =>
  refine xEA ((I.ig _ _ h).obj) λo e _=>?_
  rw [fresh_none] at e;exact ns e
section
variable {A:Around}{W W' W1:Wd}{B:List Addr}{s:Shared}{E:Value->Shared->Prop}{env:Env}{ρ:Rho}{x dx:Addr}{l:List DictEntry}{n:Nat}{nm:Tx}
theorem eval_iv3 {Q:Value->Shared->Prop}(I:Inv W)(o:Ok W s)(q:∀ v W' s',Le [] W W'->Inv W'->Ok W' s'->W.h.objs.size∉W'.pv->W'.ig.lookup W.h.objs.size=none->W'.h.DictOf (strKind zp zw) W.h.objs.size [(S tag,v)]->Q (.ref W.h.objs.size) s'):wpAny Mo A (eval iv3 env) Q E s:=by
 unfold iv3
 refine wpAny_Dict_walk (knd:=strKind zp zw) rfl rfl (by simp) (by decide) ?_
 refine evalPairs_cons (wpAny_Constant_str ?_)
 refine wpAny_bind (wpAny_Constant_int (wpAny_bind (wpAny_standAt (wpAny_pure ?_))))
 refine evalPairs_nil ?_
 have e:s.heap.objs.size=W.h.objs.size:=by rw [o.1]
 refine ⟨[(S tag,.int 1 (s.toks+1))],⟨str_is,rfl,trivial⟩,⟨_,#[],0,Heap.get?_push_size _ rfl,⟨rfl,rfl,rfl⟩,rfl,(λe he=>by simp at he),.nil,List.nodup_nil⟩,λh' hd hs=>?_⟩
 rw [e] at hd hs ⊢
 have hx:Heap.ExtBut W.h.objs.size W.h h':=λb ob hne eb=>hs.extBut b ob hne (Heap.get?_push_of_some _ (show s.heap.get? b=some ob by rw [o.1];exact eb))
 obtain ⟨L,I'⟩:=ext_le I hx
 exact q _ _ _ L I' ⟨rfl,o.2.1,o.2.2⟩ (new_notPv I) (noIg_new I) (show h'.DictOf _ _ [_] from hd)
variable (hk:∀ a o,(H1 zw.params).get? a=some o->zh.get? a=some o)
include hk
theorem eval_iv1 {ds:List D}{x:Addr}{Q:Value->Shared->Prop}(I:Inv W)(F:Fm B nmI env W (ρI x ds))(o:Ok W s)
  (q:∀ ms b W' s',Le [] W W'->Inv W'->Ok W' s'->ms∉W'.pv->W'.h.get? ms=some (igS b)->Q (.ref ms) s'):wpAny (model pw zw) A (eval iv1 env) Q E s:=by
 have lm:LocD nmI (ρI x ds) (.ofString "modules") .none:=⟨by kernel_rfl,by decide +kernel,by decide +kernel,by rfl⟩
 unfold iv1
 refine wpAny_IfExp (tv_Not I (λW' L I'=>tv_value I' (λW2 L2 I2=>(gva_loc I' (F.later I L) lm).T W2 L2 I2) (b:=false) rfl rfl) s _ _ o λW1 s1 L1 I1 o1=>?_)
 show wpAny _ _ (eval (.Call _ [] [] _) env) _ _ _
 have F1:=F.later I L1
 refine wpAny_Call_Name_kw (gx_at (t:=[115,101,116]) hk F1 (by kernel_rfl) (.tail _ (.tail _ (.tail _ (.tail _ (.head _))))) (by decide +kernel) I1 o1 ?_)
 refine callWith_core rfl (wpAny_items_nil ?_)
 refine ⟨.machine,.inr (.inl rfl),λQ E q=>wpAny_pure q,?_⟩
 refine call_set_0 λled=>?_
 have e:s1.heap.objs.size=W1.h.objs.size:=by rw [o1.1]
 rw [e]
 exact q _ led _ _ (L1.trans (push_le (igS led))) (push_inv I1 (igS led)) (push_ok o1 (igS led) s1.toks) (new_notPv I1) (Heap.get?_push_size _ rfl)
theorem ini_body {cal:D->List D->Option D}(ops:Ops2 A cal G){ds xs:List D}{ts:List Tx}(hm:mapD (λd=>cal (.at 136) [d]) ds=some xs)(hts:strsD xs=some ts)(hlen:(ts.all λt=>Nat.ble t.length 1000)=true)(hz:ds.length<=lim)
  (a:Ini W1 B nmI env (ρI x ds) x dx [] 0 W) (o:Ok W s) {Q:Flow->Shared->Prop} (q:∀ W' s',Made W1 ts x dx W'->Ok W' s'->Q .next s'):wpAny (model pw zw) A (execs initBody env) Q E s:=by
 have ls:LocD nmI (ρI x ds) nSelf (.at x):=⟨by kernel_rfl,by decide +kernel,by decide +kernel,by rfl⟩
 have hPd:∀ {W:Wd} {l n},Ini W1 B nmI env (ρI x ds) x dx l n W->∀ b∈[dx],b∈W.pv:=λa b h=>by rw [List.mem_singleton] at h;subst h;exact a.dp
 have hPn:∀ {W:Wd},∀ b∈([]:List Addr),b∈W.pv:=λb h=>nomatch h
 have keepS:∀ {P:List Addr} {W W':Wd} {ms:Addr} {b:Bool},Inv W->Le P W W'->(∀ a∈P,a∈W.pv)->ms∉W.pv->W.h.get? ms=some (igS b)->ms∉W'.pv/\W'.h.get? ms=some (igS b):=λI L hP h1 h2 =>
  ⟨L.toLe0.notPv hP h2 h1,L.toLe0.obj I hP h1 h2 nofun (by show Value.type "set" ≠ Value.type "dict";decide)⟩
 have self:∀ {W:Wd} {s:Shared} {l n p} {R:Value->Shared->Prop} {E},Ini W1 B nmI env (ρI x ds) x dx l n W->Ok W s->R (.ref x) s->wpAny (model pw zw) A (eval (.Name nSelf p) env) R E s:=λa o r =>
  name_local a.F o ls.db ls.cd ls.loc ls.get λv rv=>by have e:v=.ref x:=rv;subst e;exact r
 unfold initBody
 refine wpAny_execs_cons (plainObj_wpAny_Assign_Attribute (eval_iv1 hk a.I a.F o λms b Wa sa La Ia oa hmp hmo=>?_) rfl)
 have aa:=a.le La Ia
 refine self aa oa (ini_set hk aa oa sa_mods λt1 Wb sb ab Lb ob=>?_)
 clear oa La a sa o ls ini_body
 obtain ⟨hmp,hmo⟩:=keepS Ia Lb (hPd aa) hmp hmo
 refine wpAny_execs_cons (plainObj_wpAny_Assign_Attribute ((ops.ev K).1.go (k:=K) (show ev cal G K (ρI x ds) (cv K nmI iv2)=some (.list xs) by rw [cv_iv2];exact ev_dirs hm hz) ab.F ab.I Wb (Le.refl Wb) ab.I sb _ _ ob λv Wc sc Lc Ic oc rv=>?_) rfl)
 have ac:=ab.le Lc Ic
 clear ob sb hz hm ops aa Lb Ia s W
 obtain ⟨hmp,hmo⟩:=keepS ab.I Lc hPn hmp hmo
 refine self ac oc (ini_set hk ac oc sa_dirs λt2 Wd' sd ad Ld od=>?_)
 obtain ⟨hmp,hmo⟩:=keepS Ic Ld (hPd ac) hmp hmo
 have rv:=rv.mono Ic Ld.toLe0 (hPd ac)
 refine wpAny_execs_cons (plainObj_wpAny_Assign_Attribute (eval_iv3 ad.I od λv3 We se Le' Ie oe hgp hgi hgd=>?_) rfl)
 have hg0:=fresh_of ad.L ad.od
 generalize Wd'.h.objs.size=g at *
 have ae:=ad.le Le' Ie
 obtain ⟨hmp,hmo⟩:=keepS ad.I Le' hPn hmp hmo
 have rv:=rv.mono ad.I Le'.toLe0 hPn
 refine self ae oe (ini_set hk ae oe sa_ign λt3 Wf sf af Lf of=>?_)
 clear oe hk self hPn Le' ad se
 obtain ⟨hmp,hmo⟩:=keepS Ie Lf (hPd ae) hmp hmo
 have rv:=rv.mono Ie Lf.toLe0 (hPd ae)
 have hgi':Wf.ig.lookup g=none/\g∉Wf.pv/\Wf.h.DictOf (strKind pw zw) g [(S tag,v3)]:=by
  obtain ⟨og,es,ep,e,hx,r⟩:=hgd
  exact ⟨Lf.igNew g og e (λz=>hgp (hPd ae g z)) hgi,Lf.toLe0.notPv (hPd ae) e hgp,og,es,ep,Lf.toLe0.dictObj Ie (hPd ae) hgp hgi e (by rw [hx.1];nofun),hx,r⟩
 clear hgi hgp ae hPd Ie Lf hgd keepS
 obtain ⟨al,items,rfl,hap,hal,hasz,har⟩:=rv
 refine wpAny_execs_nil (q Wf sf ⟨af.I,af.L,af.ox,af.xp,af.dp,ms,al,g,t1,t2,t3,b,items,v3,?_,hmp,hmo,hap,hal,hasz,txs_of hts hlen har,hgi'.2.1,hgi'.1,hgi'.2.2,hg0⟩ of)
 exact af.od
end
end
section
open PySem.Calls
theorem TabAt.mono' {W W':Wd}{t:Addr}(x:TabAt W t)(kt:∀ o,W.h.get? t=some o->W'.h.get? t=some o)
  (k:∀ c o fs,W.h.get? c=some o->o.data=.fields fs->c∉W.pv->c∉tabs->W.ig.lookup c=none->W'.h.get? c=some o/\c∉W'.pv/\W'.ig.lookup c=none):TabAt W' t:=by
 have cw:∀ {q:Str} {cv:Value},CodeW W q cv->CodeW W' q cv:=by
  rintro q cv ⟨c,oc,fs,tk,e,h1,h2,h3,h4,h5⟩
  refine xAA (k c oc fs h2 h4 h1 h3.1 h3.2) λg1 g2 g3=>?_
  exact ⟨c,oc,fs,tk,e,g2,g1,⟨h3.1,g3⟩,h4,h5⟩
 have st:∀ {a:Addr} {o:Obj} {fs:Array Value},o.data=.fields fs->St W a o->St W' a o:=λ{a o fs} hd y=>let ⟨g1,g2,g3⟩:=k a o fs y.get hd y.pv y.tab y.ig;⟨g1,g2,y.tab,g3⟩
 obtain ⟨vs,e,h1,h2,h3⟩:=x
 refine ⟨vs,kt _ e,h1,λpos cv h=>cw (h2 pos cv h),λh=>?_⟩
 rcases h3 h with h | ⟨kk,tk,f,u,cs,e,y1,y2,y3,y4,y5⟩
 ·exact .inl h
 ·exact .inr ⟨kk,tk,f,u,cs,e,st rfl y1,st rfl y2,y3,cw y4,cw y5⟩
noncomputable def Wd.know (W:Wd)(g:Addr)(ts:List Tx):Wd:={ W with ig:=(g,ts)::W.ig }
theorem know_lookup {W:Wd}{g a:Addr}{ts:List Tx}:(W.know g ts).ig.lookup a=if a=g then some ts else W.ig.lookup a:=by
 show List.lookup a ((g,ts)::W.ig)=_
 rw [List.lookup_cons]
 by_cases h:a=g
 ·rw [if_pos h,h,beq_self_eq_true]
 ·rw [if_neg h,show (a == g)=false from by rw [beq_eq_false_iff_ne];exact h]
theorem know_ok {W:Wd}{g:Addr}{ts:List Tx}(I:Inv W)(hp:g∉W.pv)(hi:W.ig.lookup g=none)(hd:IgAt W.h g ts [])(hb:zh.get? g=none):Le [g] W (W.know g ts)/\Inv (W.know g ts):=by
 have ne:∀ {a ds},W.ig.lookup a=some ds->a≠g:=λe q=>by rw [q,hi] at e;exact ns e
 have L:Le [g] W (W.know g ts):=⟨⟨λa o e _ _ _=>e,λa ds e=>by rw [know_lookup,if_neg (ne e)];exact e,λa o e h1 h2=>by rw [know_lookup,if_neg (λq=>h1 (by rw [q];exact .head _))];exact h2,λa ds c e x=>x,λa o e h1 h2=>h2,λa o e h1=>⟨o,e⟩⟩,λa h _=>h⟩
 have b0:∀ {a o},zh.get? a=some o->a≠g:=λe q=>by rw [q,hb] at e;exact ns e
 refine ⟨L,⟨⟨I.base.keep,λ_ _ e=>(nomatch e),λa o e h1 h2=>by rw [know_lookup,if_neg (b0 e)];exact I.base.igNew a o e h1 h2,λ_ _ _ e=>(nomatch e),I.base.pv,I.base.alive⟩,I.pvAl,λa ds e=>?_,λa ds e=>?_,λt ht=>?_,I.tabPv⟩⟩
 ·rw [know_lookup] at e
  split at e
  ·rename_i q;cases e;rw [q];exact hd
  ·exact I.ig a ds e
 ·rw [know_lookup] at e
  split at e
  ·rename_i q;rw [q];exact hp
  ·exact I.igPv a ds e
 ·refine (I.tab t ht).mono' (λ_ e=>e) λc o fs e ed h1 h2 h3=>⟨e,h1,?_⟩
  rw [know_lookup,if_neg λq=>?_]
  ·exact h3
  ·clear h3 h1 h2 ht t I hp b0 L hb ne hi know_ok
   obtain ⟨kvs,⟨o',es,ep,e',_,e3,_⟩,_⟩:=hd
   rw [q,e'] at e
   clear e' q c g W
   cases e
   rw [e3] at ed
   cases ed
section
variable {A:Around}{W W' W1:Wd}{s:Shared}{E:Value->Shared->Prop}{x dx:Addr}{n:Nat}
theorem under_rm {v u:Value}(r:Rm (n+1) A)(env:Env):RmS n ((A.under (.builtin "type.__call__" ⟨[.ref 159,v,u],[]⟩)).deeper env)/\(A.under (.builtin "type.__call__" ⟨[.ref 159,v,u],[]⟩)).depth < recursionLimit:=by
 have hw:(Code.builtin "type.__call__" ⟨[.ref 159,v,u],[]⟩).weight=1:=by kernel_rfl
 have hg:(Code.builtin "type.__call__" ⟨[.ref 159,v,u],[]⟩).guards=[]:=by kernel_rfl
 have hu:(Code.builtin "type.__call__" ⟨[.ref 159,v,u],[]⟩).cUnits<=40:=by
  have:Nat.ble (Code.builtin "type.__call__" ⟨[.ref 159,v,u],[]⟩).cUnits 40=true:=by kernel_rfl
  exact Nat.le_of_ble_eq_true this
 have h1:=r.u
 have h2:=r.d
 refine ⟨⟨r.h,?_,?_,?_⟩,?_⟩
 ·show pushGuards (Code.builtin "type.__call__" ⟨[.ref 159,v,u],[]⟩).guards A.guards=some []
  rw [hg,r.g];rfl
 ·show A.units+_+3+100 * (n+1)+50<=9000
  omega
 ·show A.depth+_+1+10 * (n+1)+5<=990
  rw [hw];omega
 ·show A.depth+_ < recursionLimit
  have e:recursionLimit=1000:=rfl
  rw [hw,e];exact Nat.lt_of_le_of_lt (Nat.le_trans (Nat.add_le_add_left (Nat.le_trans (show 1<=10 by decide) (Nat.le_mul_of_pos_right 10 (Nat.succ_pos _))) A.depth) h2) (show 990 < 1000 by decide)
variable (hk:∀ a o,(H1 zw.params).get? a=some o->zh.get? a=some o)
include hk
set_option tactic.hygienic true in
theorem own_W (hlim:zh.NoLimit)(hcs:cStatics∉tabs){cal:D->List D->Option D}(r:Rm (n+1) A)(ops:∀ A',RmS n A'->Ops2 A' cal G){f d:D}{as:List D}(h:own cal f as=some d)(I:Inv W){fv:Value}{vs:List Value}
  (rf:Rep W f fv) (rs:Reps W as vs):Gv A (call fv vs) W d:=by
 clear own_W
 obtain ⟨rfl,ds,xs,ts,rfl,hm,hts,hlen,rfl⟩:=own_inv h
 clear h
 have ef:fv=.ref 159:=rf
 clear rf
 subst ef
 intro s Q E ok p
 have rs0:=rs
 obtain ⟨v1,r1,rfl,e1,v2,r2,rfl,rl,rfl⟩:=rs
 have e1:v1=.none:=e1
 subst e1
 have hz:ds.length<=lim:=by
  obtain ⟨a,items,_,_,_,hz,hr⟩:=rl
  have:=hr.length
  rw [Array.length_toList] at this
  omega
 obtain ⟨hh,gg,dr,tk,oo⟩:=s
 have eh:hh=W.h:=ok.1
 subst eh
 have X:=KI_in hk I
 refine wpAny_call (make_core (makes_of X (ki_makes _)) (looks_findIn X (ki_init _)) (λself=>bind_fn X self (ki_type _)) (.inl rfl) ?_)
 have I1:=pushP_inv I emptyDict rfl
 have I2:=push_inv I1 (igX W.h.objs.size)
 have L1:Le [] W (W.pushP emptyDict):=pushP_le emptyDict
 have L2:Le [] (W.pushP emptyDict) ((W.pushP emptyDict).push (igX W.h.objs.size)):=push_le _
 have o2:Ok ((W.pushP emptyDict).push (igX W.h.objs.size)) ⟨(W.h.push emptyDict).push (instObj 159 W.h.objs.size),gg,dr,tk,oo⟩:=⟨rfl,ok.2.1,ok.2.2⟩
 have sz:(W.pushP emptyDict).h.objs.size=W.h.objs.size+1:=Heap.size_push ..
 have gx:((W.pushP emptyDict).push (igX W.h.objs.size)).h.get? (W.h.objs.size+1)=some (igX W.h.objs.size):=by
  rw [<-sz]
  exact Heap.get?_push_size _ rfl
 have xp:(W.h.objs.size+1)∉((W.pushP emptyDict).push (igX W.h.objs.size)).pv:=by
  rw [<-sz]
  exact new_notPv I1
 have gd:((W.pushP emptyDict).push (igX W.h.objs.size)).h.get? W.h.objs.size=some (dO [] 0):=Heap.get?_push_of_some _ (Heap.get?_push_size _ rfl)
 have dp:W.h.objs.size∈((W.pushP emptyDict).push (igX W.h.objs.size)).pv:=.head _
 obtain ⟨o,fd,body,kk,ps,va,kw,F,rfl,hnm⟩:=fok149 (P:=zw.params) hk
 have hPn:∀ {W:Wd},∀ b∈([]:List Addr),b∈W.pv:=λb h=>nomatch h
 have rs':Reps ((W.pushP emptyDict).push (igX W.h.objs.size)) [.at (W.h.objs.size+1),.none,.list ds] (.ref (W.h.objs.size+1)::[.none,v2]):=by
  exact ⟨_,_,rfl,rfl,rs0.later I (L1.trans L2)⟩
 refine code_fun (Pd:=λW' v=>v=.none/\∃ W1,Le [] ((W.pushP emptyDict).push (igX W.h.objs.size)) W1/\Made W1 ts (W.h.objs.size+1) W.h.objs.size W') (X:=[W.h.objs.size]) F (under_rm r default).2 hlim hcs (binds149 _ _ _) I2 rs' (λW1 W2 env L3 I3 a2 s2 Q2 E2 o3 p2=>?_) o2 λv W' s' L4 I4 o4 hv=>?_
 ·have L5:Le [] W1 W2:=a2.L.all λ_ h=>h
  have L35:=L3.trans L5
  rw [hnm] at a2
  have a:Ini W1 W1.pv nmI env (ρI (W.h.objs.size+1) ds) (W.h.objs.size+1) W.h.objs.size [] 0 W2 :=
   ⟨a2.I,L5.nil,a2.F,L35.toLe0.obj I2 hPn xp gx nofun nofun,L35.toLe0.notPv hPn gx xp,L35.toLe0.priv I2 dp (λh=>nomatch h) gd,L35.pvK _ dp (λh=>nomatch h),L3.pvK _ dp (λh=>nomatch h)⟩
  exact ini_body hk (ops _ (under_rm r env).1) hm hts hlen hz a o3 λW3 s3 M o5=>p2 .next W3 s3 M.L M.I o5 ⟨.none,.inr ⟨rfl,rfl⟩,rfl,W1,L3,M⟩
 ·obtain ⟨rfl,W1,L3,M⟩:=hv
  refine ⟨rfl,?_⟩
  obtain ⟨ms,al,g,t1,t2,t3,b,items,vv,q1,q2,q3,q4,q5,q6,q7,q8,q9,q10,q11⟩:=M.parts
  have LW:Le [] W W1:=(L1.trans L2).trans L3
  have hgW:W.h.get? g=none:=by
   cases e:W.h.get? g with
   | none=>rfl
   | some o'=>obtain ⟨o1,e1⟩:=LW.alive g o' e (λz=>nomatch z);rw [q11] at e1;exact ns e1
  have hg0:zh.get? g=none:=by
   cases e:zh.get? g with
   | none=>rfl
   | some o'=>obtain ⟨o1,e1⟩:=I.base.alive g o' e (λz=>nomatch z);rw [hgW] at e1;exact ns e1
  have hig:IgAt W'.h g ts []:=⟨_,q10,λp hp=>by rw [List.mem_singleton] at hp;subst hp;exact .inl rfl,λ_ h=>nomatch h⟩
  clear q10 e1 q11 LW L3 vv
  obtain ⟨L6,I6⟩:=know_ok I4 q8 q9 hig hg0
  have L7:=drop_le (W:=W'.know g ts) (p:=W.h.objs.size)
  have I7:=drop_inv I6 (p:=W.h.objs.size)
  have big:Le [W.h.objs.size,g] W ((W'.know g ts).drop W.h.objs.size) :=
   ((((L1.trans L2).nil).trans (L4.wide λx hx=>by rw [List.mem_singleton] at hx;subst hx;exact .head _)).trans (L6.wide λx hx=>by rw [List.mem_singleton] at hx;subst hx;exact .tail _ (.head _))).trans (L7.wide λx hx=>by rw [List.mem_singleton] at hx;subst hx;exact .head _)
  have L:Le [] W ((W'.know g ts).drop W.h.objs.size):=big.fresh I λx hx=>.inr (by
   rcases List.mem_cons.mp hx with z | z
   ·rw [z];exact fresh_none _
   ·rw [List.mem_singleton] at z;rw [z];exact hgW)
  have gne:W.h.objs.size≠g:=λz=>q8 (z▸M.dp)
  have np:∀ {a:Addr},a∉W'.pv->a∉((W'.know g ts).drop W.h.objs.size).pv:=λh z=>h (mem_drop.mp z).1
  refine p _ _ _ L I7 ⟨o4.1,o4.2.1,o4.2.2⟩ ?_
  refine ⟨g,W.h.objs.size+1,W.h.objs.size,ms,al,3,t1,t2,t3,b,items,rfl,np M.xp,M.ox,λz=>(mem_drop.mp z).2 rfl,?_,q1,np q2,q3,np q4,q5,q6,q7,np q8,?_,hig⟩
  ·show (W'.know g ts).ig.lookup _=none
   rw [know_lookup,if_neg gne]
   cases e:W'.ig.lookup W.h.objs.size with
   | none=>rfl
   | some z=>exact absurd M.dp (I4.igPv _ _ e)
  ·show (W'.know g ts).ig.lookup _=_
   rw [know_lookup,if_pos rfl]
end
end
section
open PySem.Calls
section
variable {A:Around}{E:Value->Shared->Prop}{s:Shared}{a:Addr}{b:Bool}{n:Nat}
theorem hash_true {Q:Int->Shared->Prop}(h:Q 1 { s with toks:=s.toks+1 }):wpAny Mo A (pyHash (.bool true)) Q E s:=by
 unfold pyHash
 refine wpAny_bind ?_
 rw [cRoomFor,if_neg (show ¬ ([Value.bool true].any Value.onHeap=true) from Bool.false_ne_true)]
 refine wpAny_pure ?_
 have hT:s.TypeIs (.bool true) "bool" := rfl
 refine wpAny_bind (wpAny_specialOf hT PySem.F.slot_bool_hash.lookup ?_)
 show wpAny _ _ (if (some (Value.builtin "int.__hash__") == some Value.none)=true then _ else _) Q E s
 rw [if_neg (by rw [beq_builtin_none];exact Bool.false_ne_true)]
 refine wpAny_bind (wpAny_specialOf hT PySem.F.slot_bool_hash.lookup ?_)
 show wpAny _ _ (callSpecialIfBoundUnlessNone? (.bool true) "__hash__" _>>=_) Q E s
 refine wpAny_bind (wpAny_callSpecialIfBoundUnlessNone?_slot hT PySem.F.slot_bool_hash
  (wpAny_call_entry PySem.F.slot_bool_hash hT entry_int_hash
   (show wpAny _ _ (do ret (← mkInt 1)) _ _ s from wpAny_ret_mkInt ?_) (args_int_hash _)))
 show wpAny _ _ (if (decide (-(2:Int) ^ 63<=1)&&decide ((1:Int) < 2 ^ 63))=true then _ else _) Q E _
 rw [if_pos (by decide)]
 exact wpAny_pure h
theorem lay0 (b:Bool):layNew (.fresh 0 0 b) #[] 1 (.bool true)=(#[(1,.bool true)],{ mask:=7,place:=#[1],dummies:=#[],finger:=0,led:=b,moves:=0,plain:=true },false,false):=by cases b<;>kernel_rfl
theorem add_new (ho:s.heap.get? a=some (igS b)){Q:Bool->Shared->Prop}(h:∀ h' n,Heap.SameBut a s.heap h'->h'.get? a=some (setB n b)->Q true { s with heap:=h' }):wpAny Mo A (setAddHashed a (.bool true) 1) Q E s:=by
 unfold setAddHashed setAddHashedIn
 refine wpAny_holding (wpAny_bind (wpAny_setState_of ho rfl rfl ?_))
 dsimp only
 rw [if_pos (show byScan (.bool true) (#[]:Array (Int×Value))=true from by decide +kernel)]
 unfold setAddByScan
 refine wpAny_bind (wpAny_bind (wpAny_rule (wpAny_bind (m:=setScan a (.bool true) 1 true #[]) (wpAny_of_eq (a:=ScanMet.absent) (by rfl) ?_))))
 dsimp only
 rw [lay0]
 dsimp only
 refine wpAny_bind (wpAny_pure (wpAny_bind ?_))
 refine wpAny_of_eq (a:=true) (by rfl) ?_
 refine wpAny_bind (wpAny_storeSet_of ho rfl ?_ (by decide))
 rw [if_neg (by cases b<;>decide)]
 exact wpAny_pure (wpAny_pure (h _ _ (Heap.SameBut.update ..) (Heap.get?_update_self _ ho rfl)))
theorem add_same (ho:s.heap.get? a=some (setB n b)){Q:Bool->Shared->Prop}(h:Q false s):wpAny Mo A (setAddHashed a (.bool true) 1) Q E s:=by
 unfold setAddHashed setAddHashedIn
 refine wpAny_holding (wpAny_bind (wpAny_setState_of ho rfl (by rfl) ?_))
 dsimp only
 rw [if_pos (show byScan (.bool true) (#[(1,.bool true)]:Array (Int×Value))=true from by decide +kernel)]
 unfold setAddByScan
 refine wpAny_bind (wpAny_bind (wpAny_rule (wpAny_bind ?_)))
 show wpAny _ _ (setScanFrom a (.bool true) 1 true [(1,.bool true)] 0) _ _ _
 unfold setScanFrom
 rw [if_pos (by decide)]
 unfold setEpoch
 refine wpAny_bind (wpAny_bind (wpAny_setState_of ho rfl (by rfl) (wpAny_pure ?_)))
 refine wpAny_bind ?_
 unfold eqBool
 refine wpAny_holding ?_
 rw [if_pos (by decide)]
 refine wpAny_bind (wpAny_rule (wpAny_pure ?_))
 rw [if_pos rfl]
 exact wpAny_pure (wpAny_pure (wpAny_pure h))
theorem call_add (hT:s.TypeIs (.ref a) "set") {Q:Value->Shared->Prop}
  (h:wpAny Mo A.in1 (setAddHashed a (.bool true) 1) (λ_ s'=>Q .none s') E { s with toks:=s.toks+1 }):wpAny Mo A (call (.builtin "set.add") [.ref a,.bool true]) Q E s:=by
 refine wpAny_call_entry PySem.F.slot_set_add hT PySem.F.entry_set_add ?_ (PySem.F.args_set_add_2 _ _)
 unfold Builtin.«set.add» Builtin.Frozenset.oneOther
 simp only [List.isEmpty_nil,bind_assoc]
 unfold Builtin.Frozenset.addrOf setAdd
 refine wpAny_bind (wpAny_pure ?_)
 try dsimp only
 refine wpAny_bind (wpAny_pure ?_)
 try dsimp only
 refine wpAny_bind ?_
 refine wpAny_holding ?_
 refine wpAny_bind (hash_true ?_)
 refine wpAny_mono h (λr s' z=>?_) λ_ _ z=>z
 show wpAny _ _ (ret Value.none) _ _ _
 exact wpAny_pure ⟨_,rfl,z⟩
end
end
section
open PySem.Calls
noncomputable abbrev itB (next i n:Nat)(ms:Addr):Obj:={ cls:=.type "set_iterator",data:=.fields #[.int next 0,.int i 0,.ref ms,.int 1 0,.int n 0] }
section
variable {A:Around}{E:Value->Shared->Prop}{s:Shared}{ms it:Addr}{b:Bool}{n:Nat}
theorem stateB {Q:(Array (Int×Value)×Nat×SetTable)->Shared->Prop}(ho:s.heap.get? ms=some (setB n b))(h:Q (#[(1,.bool true)],n,{ mask:=7,place:=#[1],dummies:=#[],finger:=0,led:=b,moves:=0,plain:=true }) s):wpAny Mo A (setState ms) Q E s :=
 wpAny_setState_of ho rfl (by rfl) h
theorem setIterB (ho:s.heap.get? ms=some (setB n b)){Q:Value->Shared->Prop}(hQ:Q (.ref s.heap.objs.size) { s with heap:=s.heap.push (itB 0 0 n ms) }):wpAny Mo A (pyIter (.ref ms)) Q E s:=by
 have hT:s.TypeIs (.ref ms) "set" := ⟨_,ho,rfl⟩
 refine wpAny_pyIter_slot hT PySem.F.slot_set_iter (wpAny_call_entry PySem.F.slot_set_iter hT SF.entry_set_iter ?_ (PySem.F.args_set_iter_1 _))
 unfold Builtin.«frozenset.__iter__» Builtin.Frozenset.slot0
 refine wpAny_bind (wpAny_bind (m:=slotArgs "__iter__" 0 _) (wpAny_of_eq (a:=(.ref ms,[])) (by rfl) ?_))
 refine wpAny_pure ?_
 unfold Builtin.Frozenset.sizeOf setEntries
 refine wpAny_bind (wpAny_bind (wpAny_bind (stateB ho (wpAny_pure (wpAny_pure ?_)))))
 refine wpAny_bind ?_
 unfold setDrawn
 refine wpAny_bind (stateB ho ?_)
 dsimp only
 unfold setsByText
 refine wpAny_bind (wpAny_bind (wpAny_askSetting (wpAny_pure (wpAny_pure ?_))))
 rw [if_neg (λh=>by rw [Bool.and_eq_true] at h;cases h.2)]
 refine wpAny_bind (wpAny_pure ?_)
 unfold setEpoch
 refine wpAny_bind (wpAny_bind (stateB ho (wpAny_pure ?_)))
 exact wpAny_bind (wpAny_newObj_type (wpAny_pure ⟨_,rfl,"set_iterator",_,⟨_,Heap.get?_push_size _ rfl,rfl⟩,SF.slot_setit_next.lookup,hQ⟩))
theorem byText {Q:Bool->Shared->Prop}(q:Q (zw.params.followText "set-order") s):wpAny Mo A setsByText Q E s:=wpAny_bind (wpAny_askSetting (wpAny_pure q))
theorem walkB (e:zw.params.followText "set-order" = true) (ho:s.heap.get? ms=some (setB n b)) {Q:Array (Int×Value)->Shared->Prop} (h:Q #[(1,.bool true)] s):wpAny Mo A (setWalk ms) Q E s:=by
 unfold setWalk
 refine wpAny_bind (stateB ho ?_)
 dsimp only
 refine wpAny_bind (byText ?_)
 rw [e,if_pos rfl]
 refine wpAny_bind (wpAny_askSetting (wpAny_pure ?_))
 have:∀ f:Nat->Nat,pickOrder f #[((1:Int),Value.bool true)]=#[(1,.bool true)]:=λf=>by simp [pickOrder,pickOrder.go,Nat.mod_one]
 rw [this]
 exact h
theorem nextB0 (ho:s.heap.get? ms=some (setB n (!zw.params.followText "set-order"))) {Q:Option (Value×Nat)->Shared->Prop} (h:∀ k,(zw.params.followText "set-order" = false->k=2)->Q (some (.bool true,k)) s):wpAny Mo A (setNext ms 0 0 n) Q E s:=by
 unfold setNext
 refine wpAny_bind (stateB ho ?_)
 dsimp only
 refine wpAny_bind (byText ?_)
 cases e:zw.params.followText "set-order" with
 | true =>
  rw [if_pos rfl,if_neg (by simp)]
  exact wpAny_bind (walkB e ho (wpAny_pure (h 0 λz=>by rw [e] at z;cases z)))
 | false =>
  rw [if_neg Bool.false_ne_true]
  split
  ·rename_i z;exact (Bool.false_ne_true z).elim
  ·exact wpAny_bind (wpAny_of_eq (a:=PUnit.unit) (by rfl) (wpAny_pure (h 2 λ_=>rfl)))
theorem nextB1 {k:Nat}(hk2:zw.params.followText "set-order" = false->k=2) (ho:s.heap.get? ms=some (setB n (!zw.params.followText "set-order"))) {Q:Option (Value×Nat)->Shared->Prop} (h:Q none s):wpAny Mo A (setNext ms k 1 n) Q E s:=by
 unfold setNext
 refine wpAny_bind (stateB ho ?_)
 dsimp only
 refine wpAny_bind (byText ?_)
 cases e:zw.params.followText "set-order" with
 | true =>
  rw [if_pos rfl,if_neg (by simp)]
  exact wpAny_bind (walkB e ho (wpAny_pure h))
 | false =>
  rw [if_neg Bool.false_ne_true,hk2 e]
  split
  ·rename_i z;exact (Bool.false_ne_true z).elim
  ·exact wpAny_bind (wpAny_of_eq (a:=PUnit.unit) (by rfl) (wpAny_pure h))
end
end
section
open PySem.Calls
section
variable {A:Around}{E:Value->Shared->Prop}{s:Shared}{ms it:Addr}{n:Nat}
theorem itB_item (hit:s.heap.get? it=some (itB 0 0 n ms))(ho:s.heap.get? ms=some (setB n (!zw.params.followText "set-order"))) {Q:Option Value->Shared->Prop}
  (hQ:∀ h' k,(zw.params.followText "set-order" = false->k=2)->Heap.SameBut it s.heap h'->h'.get? it=some (itB k 1 n ms)->Q (some (.bool true)) { s with heap:=h' }):wpAny Mo A (pyNext (.ref it)) Q E s:=by
 have hT:s.TypeIs (.ref it) "set_iterator" := ⟨_,hit,rfl⟩
 unfold pyNext
 refine wpAny_bind (wpAny_attempt (wpAny_callSpecial?_slot (name:=Str.ofString "__next__") hT SF.slot_setit_next
  (wpAny_call_entry SF.slot_setit_next hT SF.entry_setit_next ?_ (SF.args_setit_next _))))
 unfold Builtin.«set_iterator.__next__»
 refine wpAny_bind (m:=slotArgs "__next__" 0 _) (wpAny_of_eq (a:=(.ref it,[])) (by rfl) ?_)
 refine wpAny_bind (wpAny_fieldsOf hit rfl ?_)
 dsimp only
 unfold setEntries
 refine wpAny_bind (wpAny_bind (stateB ho (wpAny_pure ?_)))
 dsimp only
 rw [if_neg (show ¬ ((((#[((1:Int),Value.bool true)]:Array (Int×Value)).size:Int) != 1)=true) from by decide)]
 refine wpAny_bind (nextB0 ho λk hk=>?_)
 dsimp only
 refine wpAny_bind (wpAny_setField_rec hit (by simp) λh1 he1 hs1=>?_)
 refine wpAny_bind (wpAny_setField_rec he1 (by simp) λh2 he2 hs2=>?_)
 exact wpAny_pure ⟨_,rfl,wpAny_pure (hQ h2 k hk (hs1.trans hs2) he2)⟩
theorem itB_end {k:Nat}(hk:zw.params.followText "set-order" = false->k=2) (hh:A.handled=none) (hit:s.heap.get? it=some (itB k 1 n ms)) (ho:s.heap.get? ms=some (setB n (!zw.params.followText "set-order"))) {Q:Option Value->Shared->Prop}
  (hQ:∀ h',Heap.ExtBut it s.heap h'->Q none { s with heap:=h' }):wpAny Mo A (pyNext (.ref it)) Q E s:=by
 have hT:s.TypeIs (.ref it) "set_iterator" := ⟨_,hit,rfl⟩
 unfold pyNext
 refine wpAny_bind (wpAny_attempt (wpAny_callSpecial?_slot (name:=Str.ofString "__next__") hT SF.slot_setit_next
  (wpAny_call_entry SF.slot_setit_next hT SF.entry_setit_next ?_ (SF.args_setit_next _))))
 unfold Builtin.«set_iterator.__next__»
 refine wpAny_bind (m:=slotArgs "__next__" 0 _) (wpAny_of_eq (a:=(.ref it,[])) (by rfl) ?_)
 refine wpAny_bind (wpAny_fieldsOf hit rfl ?_)
 dsimp only
 unfold setEntries
 refine wpAny_bind (wpAny_bind (stateB ho (wpAny_pure ?_)))
 dsimp only
 rw [if_neg (show ¬ ((((#[((1:Int),Value.bool true)]:Array (Int×Value)).size:Int) != 1)=true) from by decide)]
 refine wpAny_bind ?_
 refine nextB1 (k:=k) hk ho ?_
 dsimp only
 refine wpAny_bind (wpAny_setField hit rfl (by simp) ?_)
 refine wpAny_bind ?_
 simp only [newExc,newTuple]
 refine wpAny_bind (wpAny_newObj_type ?_ (by size_fits))
 refine wpAny_bind (m:=firstArgMember _ _) (wpAny_of_eq (a:=Value.none) (by first | rfl | (simp only [firstArgMember];rfl)) ?_)
 refine wpAny_newObj_type ?_ (by size_fits)
 simp only [raiseNew]
 refine wpAny_bind (wpAny_handled ?_)
 first | rw [show A.in1.handled=none from hh] | rw [hh]
 refine wpAny_bind (wpAny_pure (wpAny_throw ?_))
 refine wpAny_bind (wpAny_isInstance (T := "StopIteration") (b:=true) ⟨_,Heap.get?_push_size _ rfl,rfl⟩ isSubtype_stop ?_)
 exact wpAny_pure (hQ _ (((Heap.SameBut.update ..).extBut.push _).push _))
theorem unpackB (hh:A.handled=none)(ho:s.heap.get? ms=some (setB n (!zw.params.followText "set-order"))) {Q:List Value->Shared->Prop}
  (hQ:∀ h',Heap.ExtBut s.heap.objs.size s.heap h'->Q [.bool true] { s with heap:=h' }):wpAny Mo A (unpackItems (.ref ms) 1 none) Q E s:=by
 have hT:s.TypeIs (.ref ms) "set" := ⟨_,ho,rfl⟩
 unfold unpackItems
 refine wpAny_bind ?_
 unfold notIterableAtAll
 refine wpAny_bind (wpAny_specialOf hT PySem.F.slot_set_iter.lookup ?_)
 refine wpAny_pure ?_
 simp only [Bool.false_eq_true,if_false]
 refine wpAny_bind (wpAny_holding (setIterB ho ?_))
 have hne:ms≠s.heap.objs.size:=λz=>by have:=Heap.lt_size ho;rw [<-z] at this;exact Nat.lt_irrefl _ this
 have g1:(s.heap.push (itB 0 0 n ms)).get? s.heap.objs.size=some (itB 0 0 n ms):=Heap.get?_push_size _ rfl
 have g2:(s.heap.push (itB 0 0 n ms)).get? ms=some (setB n (!zw.params.followText "set-order")):=Heap.get?_push_of_some _ ho
 generalize hJ:s.heap.objs.size=J at *
 refine wpAny_bind (wpAny_holding ?_)
 unfold draw draw
 refine wpAny_bind (itB_item (ms:=ms) g1 g2 λh1 k hk hs1 e1=>?_)
 have g3:h1.get? ms=some (setB n (!zw.params.followText "set-order")):=(hs1.2 _ hne).trans g2
 refine wpAny_bind (wpAny_holding (wpAny_pure (wpAny_pure ?_)))
 rw [if_neg (by simp)]
 refine wpAny_bind (wpAny_holding (itB_end (ms:=ms) hk hh e1 g3 λh2 hs2=>?_))
 simp only [Option.isSome_none,Bool.false_eq_true,if_false]
 refine wpAny_pure (hQ h2 λb o hb e=>hs2 b o hb (hs1.extBut b o hb (Heap.get?_push_of_some _ e)))
end
section
variable {A:Around}{cal:D->List D->Option D}{G:Tx->Option D}
theorem sets_ok (hh:A.handled=none)(ev:∀ n,EvOk A cal G n/\EvtOk A cal G n/\TvOk A cal G n):SetAsg A cal G:=by
 intro k nm env W0 B W ρ v id px kt pt pos x I0 a ht hd
 intro s Q E ok po
 have hv:∀ a b c,v≠.Tuple a b c:=λa b c e=>by
  subst e
  cases k with
  | zero=>exact ns hd
  | succ k =>
   have e:cv (k+1) nm (.Tuple a b c)=if noStar a=true then .tup (a.map (cv k nm)) else .bad:=rfl
   rw [e] at hd
   split at hd
   ·have hd':(if Nat.ble (a.map (cv k nm)).length lim=true then (evl (Mine.ev cal G 39 ρ) (a.map (cv k nm))).map D.tup else none)=some .bset:=hd
    split at hd'
    ·obtain ⟨_,_,z⟩:=Option.map_eq_some_iff.mp hd'
     cases z
    ·exact ns hd'
   ·exact ns hd
 rw [arm_exec_Assign]
 rw [show swapsWithSole [.Tuple [.Name id px] kt pt] v pos.line env=pure false from swaps_T v [.Name id px] kt pt pos.line env]
 refine wpAny_bind (wpAny_standAt (wpAny_bind (wpAny_pure ?_)))
 rw [if_neg Bool.false_ne_true]
 refine wpAny_bind ((ev K).1.go hd a.F a.I W (Le.refl W) a.I s _ _ ok λu W1 s1 L1 I1 o1 r1=>?_)
 rw [stores_T hv [.Name id px] kt pt env]
 refine wpAny_bind (wpAny_pure ?_)
 show wpAny _ _ (assign (.Tuple [.Name id px] kt pt) env u>>=λ_=>pure Flow.next) _ _ _
 obtain ⟨t,n,rfl,htp,hset⟩:=r1
 refine wpAny_bind ?_
 rw [arm_assign_Tuple]
 refine wpAny_bind (wpAny_standAt ?_)
 unfold unpack
 refine wpAny_bind (wpAny_holding (unpackB hh (by rw [o1.1];exact hset) λh' hx=>?_))
 rw [o1.1] at hx
 obtain ⟨L2,I2⟩:=ext_le I1 hx
 show wpAny _ _ (holding [] (assign (.Name id px) env (.bool true))>>=λ_=>pure ()) _ _ _
 have o2:Ok { W1 with h:=h' } { s1 with heap:=h' }:=⟨rfl,o1.2.1,o1.2.2⟩
 refine wpAny_bind (wpAny_holding ((a.le I0 (L1.trans L2) I2).put (ev:=.d (.bool true)) I0 o2 ht (show Rep { W1 with h:=h' } (.bool true) _ from rfl) (a.one.put λ_=>nofun) λW3 s3 a3 o3 _=>?_))
 exact wpAny_pure (wpAny_pure (po .next W3 s3 a3 o3 rfl))
end
end
section
open PySem.Calls
theorem turn_set {elt t iter:Expr}{scope:Scope}{pos:Pos}(it acc:Value)(env:Env) :
  compTurn (.SetComp elt [⟨t,iter,[],0⟩] scope pos) 0 it acc env=(standAt iter.pos>>=λ_=>pyNext it>>=λr=>match r with
   | none=>pure (.done .next)
   | some v=>letOwnedTupleGo t it v>>=λ_=>assign t env v>>=λ_ =>
    ((eval elt env>>=λx=>standAt elt.pos>>=λ_=>call (.builtin "set.add") [acc,x]>>=λ_=>pure ())>>=λ_=>again (.compLoop (.SetComp elt [⟨t,iter,[],0⟩] scope pos) 0 it acc env))):=by
 unfold compTurn
 rfl
noncomputable def isT:D->Bool
 | .bool true=>true
 | _=>false
section
variable {A:Around}{W W' W0 W1 W2:Wd}{P B:List Addr}{d:D}{s:Shared}{E:Value->Shared->Prop}{env:Env}{R:Result->Shared->Prop}
variable {cal:D->List D->Option D}{G:Tx->Option D}{nm:List (Str×NameKind)}{ρ ρ':Rho}{p J:Addr}{xs:List D}{ad:Bool}
theorem start_set {elt t iter:Expr}{scope:Scope}{pos:Pos}{J:Addr}{acc:Value}{xs:List D}(hh:A.handled=none)(o:Ok W s)(x:Itr W J xs)
  (h:codeAny Mo A (.compLoop (.SetComp elt [⟨t,iter,[],0⟩] scope pos) 0 (.ref J) acc env) R s):codeAny Mo A (.compStart (.SetComp elt [⟨t,iter,[],0⟩] scope pos) 0 (.ref J) acc env) R s:=by
 refine codeAny_of_tree ?_
 show wpAny _ A ((compStart (.SetComp elt [⟨t,iter,[],0⟩] scope pos) 0 (.ref J) acc env).onRaise (λx=>do noteFrame x env;standAt theWindowsPlace)) _ _ s
 refine wpAny_notedAt ?_
 unfold compStart
 show wpAny _ _ (if false=true then _ else _) _ _ _
 rw [if_neg Bool.false_ne_true]
 refine wpAny_bind (wpAny_askSetting (wpAny_ite ?_))
 split
 ·exact wpAny_pure ⟨rfl,h⟩
 ·refine wpAny_bind (wpAny_rule ?_)
  show wpAny _ _ (standAt iter.pos>>=λ_=>pyIter (.ref J)>>=λx=>again _) _ _ _
  refine wpAny_bind (wpAny_standAt (wpAny_bind ?_))
  obtain ⟨fp,n,Pd,St,k,dd,hf,hs,_⟩:=x
  exact (dd.wk A hh).self k s _ _ (by rw [o.1];exact hs) (wpAny_pure ⟨rfl,h⟩)
noncomputable def SetSt (W:Wd)(p:Addr):Bool->Prop
 | false=>W.h.get? p=some (igS (!zw.params.followText "set-order"))
 | true=>∃ n,W.h.get? p=some (setB n (!zw.params.followText "set-order"))
theorem SetSt.obj (h:SetSt W p ad):∃ o,W.h.get? p=some o/\o.cls=.type "set" := by
 cases ad with
 | false=>exact ⟨_,h,rfl⟩
 | true=>obtain ⟨n,h⟩:=h;exact ⟨_,h,rfl⟩
theorem SetSt.priv (h:SetSt W p ad)(I:Inv W)(L:Le0 P W W')(hp:p∈W.pv)(hn:p∉P):SetSt W' p ad:=by
 cases ad with
 | false=>exact L.priv I hp hn h
 | true=>obtain ⟨n,h⟩:=h;exact ⟨n,L.priv I hp hn h⟩
structure SSt (W0:Wd)(nm:List (Str×NameKind))(env:Env)(p:Addr)(W:Wd)(ρ:Rho)(J:Addr)(xs:List D)(ad:Bool):Prop where
 I:Inv W
 L:Le [] W0 W
 F:Fm (p::W0.pv) nm env W ρ
 hJ:J∈W.pv
 hJ0:J∉W0.pv
 ne:p≠J
 it:Itr W J xs
 hp:p∈W.pv
 hp0:p∉W0.pv
 st:SetSt W p ad
theorem SSt.le (x:SSt W0 nm env p W ρ J xs ad)(L:Le [] W W')(I':Inv W'):SSt W0 nm env p W' ρ J xs ad :=
 ⟨I',x.L.trans L,x.F.later x.I L,L.pvK _ x.hJ (λz=>nomatch z),x.hJ0,x.ne,x.it.mono x.I L.toLe0 (λ_ z=>nomatch z) x.hJ (λz=>nomatch z),L.pvK _ x.hp (λz=>nomatch z),x.hp0,x.st.priv x.I L.toLe0 x.hp (λz=>nomatch z)⟩
theorem one_pv {q:Addr}(hq:q∈W.pv):∀ a∈[q],a∈W.pv:=mem1 hq
theorem set_add (I:Inv W)(o:Ok W s)(hp:p∈W.pv)(h:SetSt W p ad){Q:Value->Shared->Prop}(q:∀ W' s',Le [p] W W'->Inv W'->Ok W' s'->W'.pv=W.pv->SetSt W' p true->Q .none s'):wpAny Mo A (call (.builtin "set.add") [.ref p,.bool true]) Q E s:=by
 refine xEA (h.obj) λob e hc=>?_
 refine call_add ⟨ob,by rw [o.1];exact e,hc⟩ ?_
 cases ad with
 | false =>
  refine add_new (b:=!zw.params.followText "set-order") (s:={ s with toks:=s.toks+1 }) (by show s.heap.get? p=_;rw [o.1];exact h) λh' n hs g=>?_
  have hs:Heap.SameBut p s.heap h':=hs
  have hx:Heap.ExtBut p W.h h':=by rw [<-o.1];exact hs.extBut
  exact q { W with h:=h' } _ (turn_le I hp hx) (turn_inv I hp hx ⟨_,g⟩) ⟨rfl,o.2.1,o.2.2⟩ rfl ⟨n,g⟩
 | true =>
  obtain ⟨n,h⟩:=h
  refine add_same (n:=n) (b:=!zw.params.followText "set-order") (s:={ s with toks:=s.toks+1 }) (by show s.heap.get? p=_;rw [o.1];exact h) ?_
  exact q W _ (Le.refl W).nil I (o.tok _) rfl ⟨n,h⟩
theorem set_loop {n k:Nat}(hh:A.handled=none)(HE:EvOk A cal G n){elt iter:Expr}{id:Str}{px:Pos}{x:Tx}{scope:Scope}{pos:Pos}(I0:Inv W0)(ht:tgt nm (.Name id px)=some x)(hx:isN (getR ρ x)=true)(hall:∀ y ev,getR ρ y=some ev->∃ v,ev=.d v) :
  ∀ (xs:List D) (r:List D) (ad:Bool) (W:Wd) (s:Shared),flat (λi=>(ev cal G n (setR ρ x (.d i)) (cv k nm elt)).map λv=>[v]) xs=some r->r.all isT=true->SSt W0 nm env p W ρ J xs ad->Ok W s ->
   (∀ W' s',Inv W'->Le [] W0 W'->Ok W' s'->Fm (p::W0.pv) nm env W' ρ->p∈W'.pv->SetSt W' p (ad||!r.isEmpty)->R (.ok .next) s')->codeAny Mo A (.compLoop (.SetComp elt [⟨.Name id px,iter,[],0⟩] scope pos) 0 (.ref J) (.ref p) env) R s
 | [],r,ad,W,s,hf,hr,S,o,q=>by
  cases hf
  refine codeAny_of_tree ?_
  show wpAny _ A ((compTurn (.SetComp elt [⟨.Name id px,iter,[],0⟩] scope pos) 0 (.ref J) (.ref p) env).onRaise (λx=>do noteFrame x env;theTreesLotGoes x)) _ _ s
  refine wpAny_noted ?_
  rw [turn_set]
  refine wpAny_bind (wpAny_standAt (wpAny_bind (Itr.stop hh S.I o S.hJ S.it λW1 s1 L1 I1 o1=>wpAny_pure ?_)))
  have np:p∉[J]:=λz=>S.ne (List.mem_singleton.mp z)
  refine q W1 s1 I1 (Le.own I0 S.L L1 (mem1 ⟨S.hJ,S.hJ0⟩)) o1 (S.F.turn S.I L1 S.hJ S.it.isF.rowF λy ev w e hn _=>let ⟨v',z⟩:=hall y ev e;absurd z (hn v')) (L1.pvK p S.hp np) ?_
  have:=S.st.priv S.I L1.toLe0 S.hp np
  rw [show (ad||!([]:List D).isEmpty)=ad from by simp]
  exact this
 | d::xs,r,ad,W,s,hf,hr,S,o,q=>by
  refine xEEAA (flat_cons hf) λra rb h1 h2 ee4=>?_
  subst ee4
  clear hf
  refine xEA (Option.map_eq_some_iff.mp h1) λv0 hv ee2=>?_
  subst ee2
  rw [List.all_append,Bool.and_eq_true] at hr
  have hv0:v0=.bool true:=by
   have:=hr.1
   rw [List.all_cons,Bool.and_eq_true] at this
   have:=this.1
   unfold isT at this
   split at this
   ·rfl
   ·exact nf this
  subst hv0
  refine codeAny_of_tree ?_
  show wpAny _ A ((compTurn (.SetComp elt [⟨.Name id px,iter,[],0⟩] scope pos) 0 (.ref J) (.ref p) env).onRaise (λx=>do noteFrame x env;theTreesLotGoes x)) _ _ s
  refine wpAny_noted ?_
  rw [turn_set]
  refine wpAny_bind (wpAny_standAt (wpAny_bind (Itr.next hh S.I o S.hJ S.it λv W1 s1 L1 I1 o1 e1 r1 it1=>?_)))
  have np:p∉[J]:=λz=>S.ne (List.mem_singleton.mp z)
  have F1:=S.F.turn S.I L1 S.hJ S.it.isF.rowF λy ev w e hn _=>let ⟨v',z⟩:=hall y ev e;absurd z (hn v')
  have S1:SSt W0 nm env p W1 ρ J xs ad:=⟨I1,Le.own I0 S.L L1 (mem1 ⟨S.hJ,S.hJ0⟩),F1,by rw [e1];exact S.hJ,S.hJ0,S.ne,it1,by rw [e1];exact S.hp,S.hp0,S.st.priv S.I L1.toLe0 S.hp np⟩
  refine wpAny_bind (wpAny_pure ?_)
  refine wpAny_bind (assign_at (ev:=.d d) I1 S1.F o1 ht r1 λq2 W2 s2 h1 h2 h3 L2 I2 o2 e2 F2=>?_)
  have hq2:=one_pv h1
  have nJ2:J∉[q2]:=λh=>by rw [List.mem_singleton] at h;subst h;exact h3 S1.it.isF.rowF
  have np2:p∉[q2]:=λh=>by rw [List.mem_singleton] at h;subst h;exact h2 (.head _)
  have S2:SSt W0 nm env p W2 (setR ρ x (.d d)) J xs ad:=⟨I2,Le.own I0 S1.L L2 (mem1 ⟨h1,λz=>h2 (.tail _ z)⟩),F2,L2.pvK _ S1.hJ nJ2,S.hJ0,S.ne,S1.it.mono I1 L2.toLe0 hq2 S1.hJ nJ2,L2.pvK _ S1.hp np2,S.hp0,S1.st.priv I1 L2.toLe0 S1.hp np2⟩
  refine wpAny_bind (wpAny_bind (HE k nm env _ W2 _ elt (.bool true) hv S2.F I2 s2 _ _ o2 λu W3 s3 L3 I3 o3 r3=>?_))
  have hu:u=.bool true:=r3
  clear r3 o2 s2 I2 hv np2 S1 L2 I1 nJ2 hq2 F2 h2 h1 h3 e2 r1 o1 np L1 e1 it1 F1 W1 s1 o s
  subst hu
  have S3:=S2.le L3 I3
  refine wpAny_bind (wpAny_standAt (wpAny_bind (set_add I3 o3 S3.hp S3.st λW4 s4 L4 I4 o4 e4 st4=>wpAny_pure (wpAny_pure ⟨rfl,?_⟩))))
  have hp4:=one_pv S3.hp
  have nJ4:J∉[p]:=λz=>S.ne (List.mem_singleton.mp z).symm
  have F4:Fm (p::W0.pv) nm env W4 ρ:=(S3.F.pass I3 L4 hp4 (mem1 (.head _)) (λb hb v hc=>by
   rw [List.mem_singleton] at hb
   clear o3 L3 S2 s3 W2 h2 h1 q2 pos scope iter
   subst hb
   obtain ⟨oc,e,hd⟩:=hc
   refine xEA (S3.st.obj) λos' e' hc'=>?_
   cases ad with
   | false =>
    have z:W3.h.get? b=some _:=S3.st
    rw [e] at z;cases z;cases hd
   | true =>
    obtain ⟨n',z⟩:=S3.st
    rw [e] at z;cases z;cases hd)).sub (sub_set hx)
  have S4:SSt W0 nm env p W4 ρ J xs true:=⟨I4,Le.own I0 S3.L L4 (mem1 ⟨S3.hp,S3.hp0⟩),F4,L4.pvK _ S3.hJ nJ4,S.hJ0,S.ne,S3.it.mono I3 L4.toLe0 hp4 S3.hJ nJ4,by rw [e4];exact S3.hp,S.hp0,st4⟩
  refine set_loop hh HE I0 ht hx hall xs rb true W4 s4 ‹_› hr.2 S4 o4 λW5 s5 I5 L5 o5 F5 hp5 st5=>q W5 s5 I5 L5 o5 F5 hp5 ?_
  rw [Bool.true_or] at st5
  rw [show (ad||!([D.bool true]++rb).isEmpty)=true from by simp]
  exact st5
end
end
section
open PySem.Calls
section
variable {A:Around}{W W' W0 W1 W2:Wd}{P B:List Addr}{d:D}{s:Shared}{E:Value->Shared->Prop}{env:Env}
variable {cal:D->List D->Option D}{G:Tx->Option D}{nm:List (Str×NameKind)}{ρ ρ':Rho}{xs:List D}
theorem gv_SetComp {n k:Nat}(hh:A.handled=none)(hE:EvOk A cal G n){elt iter:Expr}{id:Str}{px:Pos}{scope:Scope}{pos:Pos}{x:Tx}
  (I:Inv W) (F:Fm B nm env W ρ) (hsc:okScope scope=true) (hfr:freeOk nm scope=true) (hns:∀ a b c,iter≠.Set a b c) (ht:tgt scope.names (.Name id px)=some x)
  {dv:D} {r:List D} (hd:ev cal G n ρ (cv k nm iter)=some dv) (hi:itemsD dv=some xs) (hx:isN (getR (frees (freesOf scope) ρ) x)=true)
  (hf:flat (λi=>(ev cal G n (setR (frees (freesOf scope) ρ) x (.d i)) (cv k scope.names elt)).map λv=>[v]) xs=some r) (hr:(!r.isEmpty&&r.all isT)=true) :
  Gv A (eval (.SetComp elt [⟨.Name id px,iter,[],0⟩] scope pos) env) W .bset:=by
 intro s Q E o po
 rw [arm_eval_SetComp]
 clear gv_SetComp
 refine xAAA (okScope_parts hsc) λk1 k2 _ k3=>?_
 obtain ⟨cl,hcl,hc1,hc2⟩:=closure_at (env:=env) (scope:=scope) λm hm=>by
  obtain ⟨c,_,e,_⟩:=F.ce (tx m) (free_outer hfr hm)
  rw [S_tx] at e
  exact ⟨c,e⟩
 refine wpAny_comprehension_free rfl (folded_pure hns) hcl k1 (λy hy e=>noneDup_lookup k2 (k:=.local) (n:=y.1) (by rw [<-e];exact hy)) ?_
 refine hE k nm env B W ρ iter dv hd F I s _ _ o λv W1 s1 L1 I1 o1 r1=>?_
 refine iter_at I1 o1 hi r1 λJ W2 s2 L2 I2 o2 hJ hJn it=>?_
 unfold newSet
 refine wpAny_bind (byText ?_)
 dsimp only
 refine wpAny_newObj_type ?_
 have I3:=pushP_inv I2 (igS (!zw.params.followText "set-order")) rfl
 have L3:=pushP_le (P:=[]) (W:=W2) (igS (!zw.params.followText "set-order"))
 have o3:=pushP_ok o2 (igS (!zw.params.followText "set-order")) s2.toks
 have F3:=F.later I (L1.trans (L2.trans L3))
 refine newEnv_at I3 o3 k2 λLc cs W4 s4 L4 I4 o4 e4=>?_
 refine wpAny_bind (wpAny_pure (wpAny_pure ?_))
 have Fc:=comp_fm I3 F3 hsc hfr hc1 hc2 L4 I4 e4
 have hpn:W.h.get? W2.h.objs.size=none:=by
  cases e:W.h.get? W2.h.objs.size with
  | none=>rfl
  | some ob =>
   obtain ⟨o',e'⟩:=(L1.trans L2).alive _ ob e (λz=>nomatch z)
   rw [fresh_none] at e';exact ns e'
 have npv:∀ {a},W.h.get? a=none->a∉W.pv:=λe h=>by obtain ⟨ob,e'⟩:=I.pvAl _ h;rw [e] at e';exact ns e'
 have hJ0:J∉W.pv:=λh=>by
  obtain ⟨ob,e⟩:=I1.pvAl J (L1.pvK J h λz=>nomatch z)
  rw [hJn] at e;exact ns e
 have L13:=L1.trans (L2.trans L3)
 have hLn:W.h.get? Lc=none:=by
  clear L2 L1 hJn I1 hc2 hc1 hfr hsc F3 k2 o3 F r1 hi o1 s1 W1 o s hd dv B nm k1 hcl hns E pos
  cases e:W.h.get? Lc with
  | none=>rfl
  | some ob =>
   obtain ⟨o',e'⟩:=L13.alive _ ob e (λz=>nomatch z)
   rw [e4.ln] at e';exact ns e'
 have L03:Le [] W W4:=L13.trans L4
 have hpJ:W2.h.objs.size≠J:=λz=>by
  obtain ⟨ob,e⟩:=I2.pvAl J hJ
  rw [<-z,fresh_none] at e;exact ns e
 have Fc':Fm (W2.h.objs.size::W.pv) scope.names (compEnvC scope cs Lc env) W4 (frees (freesOf scope) ρ):=Fc.weak λa _ hn h=>hn (by
  rcases List.mem_cons.mp h with z | z
  ·rw [z];exact .head _
  ·exact L13.pvK a z λz=>nomatch z)
 have it4:Itr W4 J xs:=(it.mono I2 L3.toLe0 (λ_ z=>nomatch z) hJ (λz=>nomatch z)).mono I3 L4.toLe0 (λ_ z=>nomatch z) (L3.pvK J hJ λz=>nomatch z) (λz=>nomatch z)
 have hall:∀ y ev,getR (frees (freesOf scope) ρ) y=some ev->∃ v,ev=.d v:=λy ev e=>(getR_frees e).2.2
 have S4:SSt W scope.names (compEnvC scope cs Lc env) W2.h.objs.size W4 (frees (freesOf scope) ρ) J xs false :=
  ⟨I4,L03,Fc',(L3.trans L4).pvK J hJ (λz=>nomatch z),hJ0,hpJ,it4,L4.pvK _ (.head _) (λz=>nomatch z),npv hpn,L4.toLe0.priv I3 (.head _) (λz=>nomatch z) (Heap.get?_push_size _ rfl)⟩
 have e2:s2.heap.objs.size=W2.h.objs.size:=by rw [o2.1]
 rw [e2]
 generalize W2.h.objs.size=p at *
 show codeAny Mo A (.compStart _ 0 (.ref J) (.ref p) (compEnvC scope cs Lc env)) _ s4
 refine start_set hh o4 it4 ?_
 rw [Bool.and_eq_true] at hr
 refine set_loop hh hE I ht hx hall xs r false W4 s4 hf hr.2 S4 o4 λW' s' I' L' o' F' hp st=>?_
 rw [Bool.false_or,hr.1] at st
 clear hr o4 S4 hf s4 r hall hx ht hE hh it4 e2 o2 I3 L4 hpJ hJ0 hJ L3 Fc' L03 I4 I2 it L13 Fc e4 L2 L1 hJn I1 hc2 hc1 hfr hsc F3 k2 o3 F r1 hi o1 s1 W1 o s hd dv B nm k n k1 hcl hns cl pos px id elt x G cal
 obtain ⟨nn,st⟩:=st
 obtain ⟨m,hm,_⟩:=F'.ns
 have hL:=F'.lp
 have hL0:=npv hLn
 refine ⟨m,by rw [o'.1];exact hm,λh' hs'=>?_⟩
 rw [o'.1] at hs'
 have hne:p≠Lc:=λz=>F'.lb (z▸.head _)
 have Ld:=drop_le (W:=W') (p:=p)
 have Id:=drop_inv I' (p:=p)
 have hLd:Lc∈(W'.drop p).pv:=mem_drop.mpr ⟨hL,Ne.symm hne⟩
 have Le':=end_le Id hLd hs'.extBut
 have Ie:=end_inv Id hLd hs'.extBut
 have Lall:Le [] W ((({ W'.drop p with h:=h' }:Wd).drop Lc)) :=
  Le.own I (Le.own I L' Ld λa h=>by rw [List.mem_singleton] at h;subst h;exact ⟨hp,npv hpn⟩) Le' λa h=>by rw [List.mem_singleton] at h;subst h;exact ⟨hLd,hL0⟩
 refine po (.ref p) _ _ Lall Ie ⟨rfl,o'.2.1,o'.2.2⟩ ?_
 exact ⟨p,nn,rfl,λh=>(mem_drop.mp (mem_drop.mp h).1).2 rfl,hs'.extBut p _ hne st⟩
set_option tactic.hygienic true in
theorem set_ok (hh:A.handled=none)(n:Nat)(H:∀ m,m<=n->EvOk A cal G m/\EvtOk A cal G m/\TvOk A cal G m):SetOk A cal G n:=by
 intro k nm env B W ρ el gs sc pos d h F I
 have e:cv (k+1) nm (.SetComp el gs sc pos)=if (okScope sc&&freeOk nm sc)=true then (match cvG (cv k) nm sc.names gs with | some l=>.scomp (cv k sc.names el) l (freesOf sc) | none=>.bad) else .bad:=rfl
 rw [e] at h
 clear e set_ok
 split at h
 ·rename_i hok
  rw [Bool.and_eq_true] at hok
  split at h
  ·rename_i l hl
   cases gs with
   | nil =>
    obtain rfl:=sq hl
    cases h
   | cons c rest =>
    obtain ⟨id,px,iter,ifs,x,l',rfl,hns,ht,hl',rfl⟩:=cvG_cons hl
    clear hl
    cases rest with
    | cons c2 rest2 =>
     obtain ⟨_,_,_,_,_,l2,_,_,_,_,rfl⟩:=cvG_cons hl'
     cases ifs<;>exact ns h
    | nil =>
     cases hl'
     cases ifs with
     | cons i0 ifs=>exact ns h
     | nil =>
      have h':(if isN (getR (frees (freesOf sc) ρ) x) then (match ev cal G n ρ (cv k nm iter) with
       | some d=>(match itemsD d with
        | some xs=>(match flat (λi=>(ev cal G n (setR (frees (freesOf sc) ρ) x (.d i)) (cv k sc.names el)).map λv=>[v]) xs with
         | some r=>if !r.isEmpty&&r.all isT then some .bset else none
         | none=>none)
        | none=>none)
       | none=>none) else none)=some d:=h
      split at h'
      ·rename_i hx
       cases hd:ev cal G n ρ (cv k nm iter) with
       | none=>rw [hd] at h';exact ns h'
       | some dv =>
        rw [hd] at h'
        dsimp only at h'
        cases hi:itemsD dv with
        | none=>rw [hi] at h';exact ns h'
        | some xs =>
         rw [hi] at h'
         dsimp only at h'
         cases hf:flat (λi=>(ev cal G n (setR (frees (freesOf sc) ρ) x (.d i)) (cv k sc.names el)).map λv=>[v]) xs with
         | none=>rw [hf] at h';exact ns h'
         | some r =>
          rw [hf] at h'
          dsimp only at h'
          split at h'
          ·rename_i hz
           cases h'
           exact gv_SetComp hh (H n (Nat.le_refl _)).1 I F hok.1 hok.2 hns ht hd hi hx hf hz
          ·exact ns h'
      ·exact ns h'
  ·exact ns h
 ·exact ns h
end
end
section
open PySem.Calls
open AutoSeq1 (wpAny_loadPart')
set_option tactic.hygienic true
namespace MF
theorem mro_map:mroOf (.type "map")=pure [.type "map",.type "object"]:=by rw [mroOf_type];kernel_rfl
theorem lookup_map_new:typeLookup (.type "map") "__new__" = pure (some (.builtin "map.__new__")):=by rw [typeLookup_type,builtinLookup_eq_fast];kernel_rfl
theorem slot_map_init:Slot "map" "__init__" "object.__init__" :=
 .of (owner := "object") (n := "__init__") (by rw [typeLookup_type,builtinLookup_eq_fast];kernel_rfl) (by decide +kernel) (by decide +kernel) (by decide +kernel)
  (by first | exact .inl (by decide +kernel) | exact .inr (by decide +kernel)) (by rw [isSubtype_type];kernel_rfl)
theorem called_map:TypeCalled "map" "map.__new__" "object.__init__" :=
 ⟨by decide +kernel,by decide +kernel,⟨_,_,mro_map⟩,madeBy_type mro_map lookup_map_new (by decide +kernel),by decide +kernel,by rw [isSubtype_type];kernel_rfl,slot_map_init⟩
theorem typeCall_map_2 (a b:Value):checkTypeCall "map" ⟨[a,b],[]⟩=pure ():=by kernel_rfl
theorem newCall_map_2 (a b:Value):checkBuiltinCall "map.__new__" ⟨[.type "map",a,b],[]⟩=pure ():=by kernel_rfl
theorem args_oinit_3 (a b c:Value):argsOk "object.__init__" ⟨[a,b,c],[]⟩:=by unfold argsOk;kernel_rfl
theorem entry_map_new:entryFor table "map.__new__" = some Builtin.«map.__new__» := entryFor_of_tree (by kernel_rfl)
theorem sub_map:isSubtype (.type "map") (.type "map")=pure true:=by rw [isSubtype_type];kernel_rfl
theorem slot_map_next:Slot "map" "__next__" "map.__next__" :=
 .of (owner := "map") (n := "__next__") (by rw [typeLookup_type,builtinLookup_eq_fast];kernel_rfl) (by decide +kernel) (by decide +kernel) (by decide +kernel)
  (by first | exact .inl (by decide +kernel) | exact .inr (by decide +kernel)) (by rw [isSubtype_type];kernel_rfl)
theorem entry_map_next:entryFor table "map.__next__" = some Builtin.«map.__next__» := entryFor_of_tree (by kernel_rfl)
theorem args_map_next (a:Value):argsOk "map.__next__" ⟨[a],[]⟩:=by unfold argsOk;kernel_rfl
theorem slot_map_iter:Slot "map" "__iter__" "map.__iter__" :=
 .of (owner := "map") (n := "__iter__") (by rw [typeLookup_type,builtinLookup_eq_fast];kernel_rfl) (by decide +kernel) (by decide +kernel) (by decide +kernel)
  (by first | exact .inl (by decide +kernel) | exact .inr (by decide +kernel)) (by rw [isSubtype_type];kernel_rfl)
theorem entry_map_iter:entryFor table "map.__iter__" = some Builtin.«dict_keyiterator.__iter__» := entryFor_alias (id' := "dict_keyiterator.__iter__") (by kernel_rfl) rfl (by decide +kernel) (by kernel_rfl)
theorem args_map_iter (a:Value):argsOk "map.__iter__" ⟨[a],[]⟩:=by unfold argsOk;kernel_rfl
theorem map_no_len:typeLookup (.type "map") "__len__" = pure none:=by rw [typeLookup_type,builtinLookup_eq_fast];kernel_rfl
theorem map_no_hint:typeLookup (.type "map") "__length_hint__" = pure none:=by rw [typeLookup_type,builtinLookup_eq_fast];kernel_rfl
end MF
noncomputable abbrev liO (l:Addr):Obj:={ cls:=.type "list_iterator",data:=.fields #[.ref l,.int 0 0] }
noncomputable abbrev tuO (j:Addr):Obj:={ cls:=.type "tuple",data:=.seq #[.ref j] }
noncomputable abbrev maO (t:Addr)(f:Value):Obj:={ cls:=.type "map",data:=.fields #[.ref t,f] }
theorem meets_map_new (f:Value)(l:Addr)(items:Array Value)(n:Nat)(dct:Option Addr)(sl:Array (Option Value)) :
  Meets (Builtin.«map.__new__» ⟨[.type "map",f,.ref l],[]⟩) (λ_ R s=>s.heap.get? l=some { cls:=.type "list",dict:=dct,data:=.seq items n,slots:=sl } /\
   R (.ok (.ret (.ref ((s.heap.push (liO l)).push (tuO s.heap.objs.size)).objs.size)))
    { s with heap:=((s.heap.push (liO l)).push (tuO s.heap.objs.size)).push (maO (s.heap.push (liO l)).objs.size f) }) :=
 .of_wp λprog w A R s h=>by
  obtain ⟨hp,g,d,tk,os⟩:=s;obtain ⟨hl,h⟩:=h
  have hsub:=MF.sub_map
  have hL:Heap.IsList (Shared.heap ⟨hp,g,d,tk,os⟩) l items:=⟨_,hl,rfl,n,rfl⟩
  wp_walk using wpAny_loadPart' hl,wpAny_pyIter_list hL
  exact ⟨_,rfl,h⟩
end
section
open PySem.Calls
open AutoSeq1 (wpAny_loadPart')
section
variable {A:Around}{W W' W0:Wd}{P B:List Addr}{d f:D}{s:Shared}{E:Value->Shared->Prop}{env:Env}{cal:D->List D->Option D}{n:Nat}{fv:Value}{xs:List D}
structure MapSt (W:Wd)(I T J l:Addr)(f:D)(fv:Value)(items:Array Value)(i:Nat)(xs:List D):Prop where
 I:I∉W.pv/\W.h.get? I=some (maO T fv)
 T:T∉W.pv/\W.h.get? T=some (tuO J)
 J:J∈W.pv/\W.h.IsListIter J l i
 l:l∉W.pv/\W.h.IsList l items
 f:Rep W f fv
 xs:Reps W xs (items.toList.drop i)
theorem MapSt.move {I T J l:Addr}{items:Array Value}{i:Nat}(x:MapSt W I T J l f fv items i xs)(hI:Inv W)(L:Le P W W')(hP:∀ a∈P,a∈W.pv)(hJ:J∉P):MapSt W' I T J l f fv items i xs:=by
 obtain ⟨⟨i1,i2⟩,⟨t1,t2⟩,⟨j1,oj,j2,j3,j4⟩,⟨l1,l2⟩,hf,hx⟩:=x
 have q:=L.toLe0.isList hI hP l1 l2
 exact ⟨⟨L.toLe0.notPv hP i2 i1,L.toLe0.obj hI hP i1 i2 nofun (by show Value.type "map" ≠ Value.type "dict";decide)⟩,⟨L.toLe0.notPv hP t2 t1,L.toLe0.obj hI hP t1 t2 nofun (by show Value.type "tuple" ≠ Value.type "dict";decide)⟩,
  ⟨L.pvK J j1 hJ,oj,L.toLe0.priv hI j1 hJ j2,j3,j4⟩,⟨q.2,q.1⟩,hf.mono hI L.toLe0 hP,hx.mono hI L.toLe0 hP⟩
theorem MapSt.turn {I T J l:Addr}{items:Array Value}{i j:Nat}{ys:List D}(x:MapSt W I T J l f fv items i xs)(hI:Inv W)(L:Le [J] W W')(hJ:J∈W'.pv)(hit:W'.h.IsListIter J l j)(hy:Reps W ys (items.toList.drop j)):MapSt W' I T J l f fv items j ys:=by
 have hP:∀ a∈[J],a∈W.pv:=mem1 x.J.1
 obtain ⟨⟨i1,i2⟩,⟨t1,t2⟩,_,⟨l1,l2⟩,hf,hx⟩:=x
 have q:=L.toLe0.isList hI hP l1 l2
 exact ⟨⟨L.toLe0.notPv hP i2 i1,L.toLe0.obj hI hP i1 i2 nofun (by show Value.type "map" ≠ Value.type "dict";decide)⟩,⟨L.toLe0.notPv hP t2 t1,L.toLe0.obj hI hP t1 t2 nofun (by show Value.type "tuple" ≠ Value.type "dict";decide)⟩,
  ⟨hJ,hit⟩,⟨q.2,q.1⟩,hf.mono hI L.toLe0 hP,hy.mono hI L.toLe0 hP⟩
theorem map_item {I T J l:Addr}{items:Array Value}{i:Nat}{x:D}(hc:CalOk cal n)(hr:Rm n A.in1)(hI:Inv W)(o:Ok W s)(m:MapSt W I T J l f fv items i (x::xs))(hd:cal f [x]=some d){Q:Option Value->Shared->Prop}
  (q:∀ v W' s',Le [J] W W'->Inv W'->Ok W' s'->MapSt W' I T J l f fv items (i+1) xs->Rep W' d v->Q (some v) s'):wpAny Mo A (pyNext (.ref I)) Q E s:=by
 have hT:s.TypeIs (.ref I) "map" := ⟨_,by rw [o.1];exact m.I.2,rfl⟩
 unfold pyNext
 refine wpAny_bind (wpAny_attempt (wpAny_callSpecial?_slot (name:=Str.ofString "__next__") hT MF.slot_map_next
  (wpAny_call_entry MF.slot_map_next hT MF.entry_map_next ?_ (MF.args_map_next _))))
 unfold Builtin.«map.__next__»
 refine wpAny_bind (m:=slotArgs "__next__" 0 _) (wpAny_of_eq (a:=(.ref I,[])) (by rfl) ?_)
 refine wpAny_bind (wpAny_field (by rw [o.1];exact m.I.2) rfl (x:=.ref T) rfl ?_)
 refine wpAny_bind (wpAny_seqItems (by rw [o.1];exact m.T.2) rfl ?_)
 dsimp only
 rw [<-Array.forIn_toList]
 show wpAny _ _ (forIn [Value.ref J] _ _>>=_) _ _ _
 rw [List.forIn_cons]
 have hx:=m.xs
 obtain ⟨v,r,e1,rv,rr⟩:=hx
 have e2:items[i]? = some v:=by
  have:=congrArg (·[0]?) e1
  simp only [List.getElem?_drop,Nat.add_zero,List.getElem?_cons_zero,Array.getElem?_toList] at this
  exact this
 have e3:items.toList.drop (i+1)=r:=by
  have:=congrArg (·.drop 1) e1
  simpa [List.drop_drop,Nat.add_comm] using this
 refine wpAny_bind (wpAny_bind (wpAny_bind (wpAny_holding (wpAny_nextOf_list_item (by rw [o.1];exact m.J.2) (by rw [o.1];exact m.l.2) e2 λh' hit hs=>wpAny_pure ?_))))
 dsimp only
 rw [List.forIn_nil]
 refine wpAny_pure ?_
 rw [o.1] at hs
 have L1:=turn_le hI m.J.1 hs.extBut
 have I1:=turn_inv hI m.J.1 hs.extBut (let ⟨ob,e,_⟩:=hit;⟨ob,e⟩)
 have o1:Ok { W with h:=h' } { s with heap:=h' }:=⟨rfl,o.2.1,o.2.2⟩
 have m1:=m.turn hI L1 m.J.1 hit (by rw [e3];exact rr)
 have hP:∀ a∈[J],a∈W.pv:=mem1 m.J.1
 refine wpAny_bind (wpAny_field (by rw [o1.1];exact m1.I.2) rfl (x:=fv) rfl ?_)
 refine wpAny_bind (wpAny_holding (hc A.in1 hr f [x] d hd { W with h:=h' } fv [v] I1 m1.f ?_ _ _ _ o1 λv' W2 s2 L2 I2 o2 r2=>?_))
 ·exact ⟨v,[],rfl,rv.mono hI L1.toLe0 hP,rfl⟩
 show wpAny _ _ (letGo [v] [v']>>=_) _ _ _
 rw [letGo,letGo]
 refine wpAny_bind (wpAny_bind (wpAny_holding (wpAny_point (wpAny_pure (wpAny_pure ?_)))))
 exact ⟨_,rfl,wpAny_pure (q v' W2 s2 (L1.trans L2.nil) I2 o2 (m1.move I1 L2 (λ_ h=>nomatch h) (λh=>nomatch h)) r2)⟩
theorem map_end {I T J l:Addr}{items:Array Value}{i:Nat}(hh:A.handled=none)(hI:Inv W)(o:Ok W s)(m:MapSt W I T J l f fv items i []){Q:Option Value->Shared->Prop}
  (q:∀ W' s',Le [J] W W'->Inv W'->Ok W' s'->Q none s'):wpAny Mo A (pyNext (.ref I)) Q E s:=by
 have hT:s.TypeIs (.ref I) "map" := ⟨_,by rw [o.1];exact m.I.2,rfl⟩
 unfold pyNext
 refine wpAny_bind (wpAny_attempt (wpAny_callSpecial?_slot (name:=Str.ofString "__next__") hT MF.slot_map_next
  (wpAny_call_entry MF.slot_map_next hT MF.entry_map_next ?_ (MF.args_map_next _))))
 unfold Builtin.«map.__next__»
 refine wpAny_bind (m:=slotArgs "__next__" 0 _) (wpAny_of_eq (a:=(.ref I,[])) (by rfl) ?_)
 refine wpAny_bind (wpAny_field (by rw [o.1];exact m.I.2) rfl (x:=.ref T) rfl ?_)
 refine wpAny_bind (wpAny_seqItems (by rw [o.1];exact m.T.2) rfl ?_)
 dsimp only
 rw [<-Array.forIn_toList]
 show wpAny _ _ (forIn [Value.ref J] _ _>>=_) _ _ _
 rw [List.forIn_cons]
 have hx:=m.xs
 have e2:items[i]? = none:=by
  have:=congrArg (·[0]?) hx
  simp only [List.getElem?_drop,Nat.add_zero,List.getElem?_nil,Array.getElem?_toList] at this
  exact this
 refine wpAny_bind (wpAny_bind (wpAny_bind (wpAny_holding ?_)))
 refine wpAny_nextOf_list_end hh (by rw [o.1];exact m.J.2) (by rw [o.1];exact m.l.2) e2 λh' e hs he=>?_
 refine xEA he λob ge hc=>?_
 try clear he
 refine wpAny_bind (wpAny_isInstance (T := "StopIteration") (b:=true) ⟨ob,ge,hc⟩ isSubtype_stop ?_)
 refine wpAny_pure ?_
 rw [o.1] at hs
 exact q _ _ (end_le hI m.J.1 hs) (end_inv hI m.J.1 hs) ⟨rfl,o.2.1,o.2.2⟩
end
end
section
open PySem.Calls
noncomputable abbrev lO (acc:Array Value)(c:Nat):Obj:={ cls:=.type "list",dict:=none,data:=.seq acc c,slots:=#[] }
section
variable {A:Around}{W W' W0:Wd}{P B:List Addr}{d f:D}{s:Shared}{E:Value->Shared->Prop}{env:Env}{cal:D->List D->Option D}{n:Nat}{fv:Value}{R:Result->Shared->Prop}
theorem map_loop {I T J l S:Addr}{items:Array Value}{res:Value}(hc:CalOk cal n)(hr:Rm n A.in1.in1)(hne:S≠J):∀ (xs ds:List D) (i:Nat) (dn:List D) (acc:Array Value) (c:Nat) (W:Wd) (s:Shared),flat (λi=>(cal f [i]).map λr=>[r]) xs=some ds->Inv W->Ok W s->MapSt W I T J l f fv items i xs ->
  S∈W.pv->W.h.get? S=some (lO acc c)->Reps W dn acc.toList->acc.size+xs.length<=lim ->
  (∀ W' s' acc' c',Le [S,J] W W'->Inv W'->Ok W' s'->S∈W'.pv->W'.h.get? S=some (lO acc' c')->Reps W' (dn++ds) acc'.toList->R (.ok (.ret res)) s') ->
  codeAny Mo A (.builtin "list.extend.loop" ⟨[.ref S,.ref I,res],[]⟩) R s
 | [],ds,i,dn,acc,c,W,s,hf,hI,o,m,hS,gS,hacc,hz,q=>by
  cases hf
  refine codeAny_builtin PySem.F.entry_extend_loop ?_
  rw [Around.under_plainId PySem.F.plain_extend_loop _]
  show wpAny _ A.in1 (pyNext (.ref I)>>=_) _ _ s
  refine wpAny_bind (map_end (A:=A.in1) hr.h hI o m λW1 s1 L1 I1 o1=>?_)
  have hP:∀ a∈[J],a∈W.pv:=mem1 m.J.1
  have hn:S∉[J]:=λz=>hne (List.mem_singleton.mp z)
  exact wpAny_pure (q W1 s1 acc c (L1.wide λx hx=>.tail _ hx) I1 o1 (L1.pvK S hS hn) (L1.toLe0.priv hI hS hn gS) (by rw [List.append_nil];exact hacc.mono hI L1.toLe0 hP))
 | x::xs,ds,i,dn,acc,c,W,s,hf,hI,o,m,hS,gS,hacc,hz,q=>by
  obtain ⟨a,ds',h1,h2,rfl⟩:=flat_cons hf
  obtain ⟨d,hd,rfl⟩:=Option.map_eq_some_iff.mp h1
  refine codeAny_builtin PySem.F.entry_extend_loop ?_
  rw [Around.under_plainId PySem.F.plain_extend_loop _]
  show wpAny _ A.in1 (pyNext (.ref I)>>=_) _ _ s
  refine wpAny_bind (map_item (A:=A.in1) hc hr hI o m hd λv W1 s1 L1 I1 o1 m1 r1=>?_)
  have hP:∀ a∈[J],a∈W.pv:=mem1 m.J.1
  have hn:S∉[J]:=λz=>hne (List.mem_singleton.mp z)
  have hS1:=L1.pvK S hS hn
  have gS1:=L1.toLe0.priv hI hS hn gS
  show wpAny _ A.in1 (updateSeq S (·.push v)>>=_) _ _ _
  rw [List.length_cons] at hz
  refine wpAny_bind (wpAny_updateSeq (by rw [o1.1];exact gS1) rfl (wpAny_pure ⟨plainId_quiet PySem.F.plain_extend_loop _,?_⟩) ?_ ?_)
  ·have hs:Heap.SameBut S s1.heap (s1.heap.update S (Obj.mapSeq (·.push v))):=Heap.SameBut.update ..
   have gs1:s1.heap.get? S=some (lO acc c):=by rw [o1.1];exact gS1
   obtain ⟨c2,gS2⟩:∃ c',(s1.heap.update S (Obj.mapSeq (·.push v))).get? S=some (lO (acc.push v) c'):=⟨_,Heap.get?_update_self _ gs1 rfl⟩
   have hx:Heap.ExtBut S W1.h (s1.heap.update S (Obj.mapSeq (·.push v))):=by rw [<-o1.1];exact hs.extBut
   have L2:=turn_le I1 hS1 hx
   have I2:=turn_inv I1 hS1 hx ⟨_,gS2⟩
   have hP2:∀ a∈[S],a∈W1.pv:=mem1 hS1
   have hJ2:J∉[S]:=λz=>hne (List.mem_singleton.mp z).symm
   refine map_loop hc hr hne xs ds' (i+1) (dn++[d]) (acc.push v) c2 { W1 with h:=s1.heap.update S (Obj.mapSeq (·.push v)) } _ h2 I2 ⟨rfl,o1.2.1,o1.2.2⟩ (m1.move I1 L2 hP2 hJ2) hS1 gS2 ?_ (by rw [Array.size_push];(rw [Nat.add_assoc,Nat.add_comm 1];exact hz)) λW' s' acc' c' L' I' o' hS' g' r'=>?_
   ·rw [Array.toList_push]
    exact ((hacc.mono hI L1.toLe0 hP).mono I1 L2.toLe0 hP2).append ⟨v,[],rfl,r1.mono I1 L2.toLe0 hP2,rfl⟩
   ·refine q W' s' acc' c' (((L1.wide λx hx=>.tail _ hx).trans (L2.wide λx hx=>by rw [List.mem_singleton] at hx;subst hx;exact .head _)).trans L') I' o' hS' g' ?_
    rw [List.append_assoc] at r'
    exact r'
  ·have:=lim_ok (show acc.size+1<=lim by exact Nat.le_trans (Nat.add_le_add_left (Nat.le_add_left 1 _) _) hz)
   first | (rw [sizeLine_eq];exact Nat.le_trans (Nat.le_trans (Nat.le_add_right _ _) hz) (by decide)) | exact Nat.le_of_succ_le this
  ·have:=lim_ok (show acc.size+1<=lim by exact Nat.le_trans (Nat.add_le_add_left (Nat.le_add_left 1 _) _) hz)
   show (acc.push v).size<=sizeLine+1
   rw [Array.size_push];(rw [sizeLine_eq];exact Nat.succ_le_succ (Nat.le_trans (Nat.le_trans (Nat.le_add_right _ _) hz) (by decide)))
end
end
section
open PySem.Calls
open AutoSeq1 (wpAny_loadPart')
section
variable {A:Around}{W W' W0:Wd}{P B:List Addr}{d f:D}{s:Shared}{E:Value->Shared->Prop}{env:Env}{cal:D->List D->Option D}{n:Nat}{fv:Value}{R:Result->Shared->Prop}{xs ds:List D}
theorem map_self {I T:Addr}{f:Value}(h:s.heap.get? I=some (maO T f)){Q:Value->Shared->Prop}(q:Q (.ref I) s):wpAny Mo A (pyIter (.ref I)) Q E s:=by
 have hT:s.TypeIs (.ref I) "map" := ⟨_,h,rfl⟩
 refine wpAny_pyIter_slot hT MF.slot_map_iter (wpAny_call_entry MF.slot_map_iter hT MF.entry_map_iter ?_ (MF.args_map_iter _))
 show wpAny _ _ (ret (.ref I)) _ _ s
 exact wpAny_pure ⟨_,rfl,"map",_,hT,MF.slot_map_next.lookup,q⟩
theorem collect_map {I T J l:Addr}{items:Array Value}(hc:CalOk cal n)(hr:Rm n A.in1.in1)(hf:flat (λi=>(cal f [i]).map λr=>[r]) xs=some ds)(hI:Inv W)(o:Ok W s)(m:MapSt W I T J l f fv items 0 xs)(hz:xs.length<=lim)
  {Q:List Value->Shared->Prop} (q:∀ vs W' s',Le [J] W W'->Inv W'->Ok W' s'->Reps W' ds vs->Q vs s'):wpAny Mo A (collect (.ref I)) Q E s:=by
 unfold collect
 refine wpAny_bind (wpAny_runValue (codeAny_builtin PySem.F.entry_proto_collect ?_))
 rw [Around.under_plainId PySem.F.plain_proto_collect _]
 show wpAny _ A.in1 (newList []>>=λl=>again (.builtin "list.__iadd__" ⟨[l,.ref I],[]⟩)) _ _ s
 refine wpAny_bind (wpAny_newObj_type ?_)
 refine wpAny_pure ⟨plainId_quiet PySem.F.plain_list_iadd _,codeAny_builtin PySem.F.entry_list_iadd ?_⟩
 rw [Around.under_plainId PySem.F.plain_list_iadd _]
 have e:s.heap.objs.size=W.h.objs.size:=by rw [o.1]
 rw [e]
 have L1:Le [] W (W.pushP (lO #[] 0)):=pushP_le _
 have I1:=pushP_inv hI (lO #[] 0) rfl
 have o1:Ok (W.pushP (lO #[] 0)) { s with heap:=s.heap.push (lO #[] 0) }:=pushP_ok o (lO #[] 0) s.toks
 have m1:=m.move hI L1 (λ_ h=>nomatch h) (λh=>nomatch h)
 have gS:(W.pushP (lO #[] 0)).h.get? W.h.objs.size=some (lO #[] 0):=Heap.get?_push_size _ rfl
 have hS:W.h.objs.size∈(W.pushP (lO #[] 0)).pv:=.head _
 have neI:W.h.objs.size≠I:=λz=>by have:=m.I.2;rw [<-z,fresh_none] at this;exact ns this
 have neJ:W.h.objs.size≠J:=λz=>by obtain ⟨_,ob,g,_⟩:=m.J;rw [<-z,fresh_none] at g;exact ns g
 have fS:W.h.get? W.h.objs.size=none:=fresh_none _
 generalize W.h.objs.size=S at *
 show wpAny _ A.in1 (Builtin.List.listExtendWith (.ref S) (.ref I) (.ref S)) _ _ _
 unfold Builtin.List.listExtendWith
 have hT:Shared.TypeIs { s with heap:=s.heap.push (lO #[] 0) } (.ref I) "map" := ⟨_,by rw [o1.1];exact m1.I.2,rfl⟩
 refine wpAny_bind (wpAny_typeOf hT ?_)
 have h1:Builtin.List.listSameRef (.ref S) (.ref I)=false:=by simp [Builtin.List.listSameRef,neI]
 have h2:(Value.type "map" == Value.type "list")=false:=by decide
 have h3:(Value.type "map" == Value.type "tuple")=false:=by decide
 simp only [h1,h2,h3,Bool.or_false,Bool.false_eq_true,if_false]
 refine wpAny_bind (map_self (by rw [o1.1];exact m1.I.2) ?_)
 refine wpAny_bind (wpAny_holding ?_)
 unfold Builtin.List.listLengthHint
 refine wpAny_bind (wpAny_specialOf hT MF.map_no_len ?_)
 show wpAny _ A.in1 (specialOf (Value.ref I) (Str.ofString "__length_hint__")>>=_) _ _ _
 refine wpAny_bind (wpAny_specialOf hT MF.map_no_hint ?_)
 refine wpAny_pure ?_
 show wpAny _ A.in1 (rule "list.extend.makes-room" >>= λ_=>Builtin.List.listTouch (.ref S)>>=λ_ =>
  again (.builtin "list.extend.loop" ⟨[.ref S,.ref I,.ref S],[]⟩)) _ _ _
 refine wpAny_bind (wpAny_rule ?_)
 have gs1:(s.heap.push (lO #[] 0)).get? S=some (lO #[] 0):=by rw [show s.heap.push (lO #[] 0)=_ from o1.1];exact gS
 refine wpAny_bind ?_
 show wpAny _ A.in1 (updateSeq S (·.push .none)>>=λ_=>updateSeq S (·.pop)) _ _ _
 refine wpAny_bind (wpAny_updateSeq gs1 rfl ?_)
 have hS2:=Heap.get?_update_self (Obj.mapSeq (·.push Value.none)) gs1 rfl
 refine wpAny_updateSeq hS2 rfl ?_
 have hS3:=Heap.get?_update_self (Obj.mapSeq (·.pop)) hS2 rfl
 clear hS2 gs1 gS hT h3 h2 h1 neI m e collect_map
 obtain ⟨c3,hS3⟩:∃ c',(((s.heap.push (lO #[] 0)).update S (Obj.mapSeq (·.push Value.none))).update S (Obj.mapSeq (·.pop))).get? S=some (lO #[] c'):=⟨_,hS3⟩
 have hs:Heap.SameBut S (s.heap.push (lO #[] 0)) (((s.heap.push (lO #[] 0)).update S (Obj.mapSeq (·.push Value.none))).update S (Obj.mapSeq (·.pop))):=(Heap.SameBut.update ..).trans (Heap.SameBut.update ..)
 generalize (((s.heap.push (lO #[] 0)).update S (Obj.mapSeq (·.push Value.none))).update S (Obj.mapSeq (·.pop)))=h3' at *
 have hx:Heap.ExtBut S (W.pushP (lO #[] 0)).h h3':=by rw [<-o1.1];exact hs.extBut
 have L2:=turn_le I1 hS hx
 have I2:=turn_inv I1 hS hx ⟨_,hS3⟩
 have hP2:∀ a∈[S],a∈(W.pushP (lO #[] 0)).pv:=mem1 hS
 have m2:=m1.move I1 L2 hP2 λz=>neJ (List.mem_singleton.mp z).symm
 refine wpAny_pure ⟨plainId_quiet PySem.F.plain_extend_loop _,map_loop hc hr neJ xs ds 0 [] #[] c3 _ { s with heap:=h3' } hf I2 ⟨rfl,o.2.1,o.2.2⟩ m2 hS hS3 (by simp [Reps]) (by simpa using hz) λW4 s4 acc c' L4 I4 o4 hS4 g4 r4=>?_⟩
 show wpAny _ A (load S>>=_) _ _ s4
 refine wpAny_bind (wpAny_load (by rw [o4.1];exact g4) ?_)
 refine wpAny_pure ?_
 have L5:=drop_le (W:=W4) (p:=S)
 have I5:=drop_inv I4 (p:=S)
 have big:Le [S,J] W (W4.drop S):=(((L1.nil).trans (L2.wide λx hx=>by rw [List.mem_singleton] at hx;subst hx;exact .head _)).trans L4).trans (L5.wide λx hx=>by rw [List.mem_singleton] at hx;subst hx;exact .head _)
 refine q acc.toList (W4.drop S) s4 (big.fresh hI λx hx=>?_) I5 ⟨o4.1,o4.2.1,o4.2.2⟩ ?_
 ·rcases List.mem_cons.mp hx with z | z
  ·exact .inr (by rw [z];exact fS)
  ·exact .inl z
 ·have hP5:∀ a∈[S],a∈W4.pv:=mem1 hS4
  rw [List.nil_append] at r4
  exact r4.mono I4 L5.toLe0 hP5
theorem call_tuple_map {I:Addr}(hT:s.TypeIs (.ref I) "map") {Q:Value->Shared->Prop}
  (h:wpAny Mo A.in1.in1 (collect (.ref I)) (λvs s'=>vs.length<=sizeLine/\Q (.ref s'.heap.objs.size) { s' with heap:=s'.heap.push { cls:=.type "tuple",data:=.seq vs.toArray } }) E s):wpAny Mo A (call (.type "tuple") [.ref I]) Q E s:=by
 refine callType_newIn PySem.F.called_tuple (by decide) (PySem.F.typeCall_tuple_1 _) (PySem.F.newCall_tuple_1 _) (λobj=>PySem.F.args_object_init_2 obj _) PySem.F.entry_tuple_new
  (S:=λA R s=>s.TypeIs (.ref I) "map" /\ wpAny Mo A.in1 (collect (.ref I)) (λvs s'=>vs.length<=sizeLine/\R (.ok (.ret (.ref s'.heap.objs.size))) { s' with heap:=s'.heap.push { cls:=.type "tuple",data:=.seq vs.toArray } }) (λe s'=>R (.error e) s') s) (.of_wp λA R s hh=>?_) ⟨hT,?_⟩
 ·obtain ⟨hT,hh⟩:=hh
  have hsub:=sub_tuple_self
  have hinit:=init_tuple_lookup
  have hmh:=madeHere_tuple
  have hcol:∀ {Q':List Value->Shared->Prop},(∀ vs s',(vs.length<=sizeLine/\R (.ok (.ret (.ref s'.heap.objs.size))) { s' with heap:=s'.heap.push { cls:=.type "tuple",data:=.seq vs.toArray } })->Q' vs s')->wpAny (model zp zw) A.in1 (collect (.ref I)) Q' (λe s'=>R (.error e) s') s:=λk=>wpAny_mono hh k λ_ _ z=>z
  wp_walk using wpAny_typeOf hT,hcol
  intro vs s' hz
  show wpAny _ _ (Builtin.Tuple.tupleExact vs.toArray>>=λv=>ret v) _ _ _
  unfold Builtin.Tuple.tupleExact
  refine wpAny_bind (wpAny_newObj_type ?_ (by show vs.toArray.size<=sizeLine;simpa using hz.1))
  exact wpAny_pure ⟨_,rfl,hz.2⟩
 ·exact wpAny_mono h (λvs s' z=>⟨z.1,⟨_,Heap.get?_push_size _ rfl,rfl⟩,z.2⟩) λ_ _ z=>z
end
end
section
open PySem.Calls
theorem flat_one {f:D->Option D}:∀ {xs ds:List D},flat (λi=>(f i).map λr=>[r]) xs=some ds->ds.length=xs.length:=by
 intro qq
 induction qq with
 | nil =>
  intro _ h
  cases h;rfl
 | cons x xs ih =>
  intro _ h
  refine xEEAA (flat_cons h) λa b h1 h2 ee4=>?_
  subst ee4
  refine xEA (Option.map_eq_some_iff.mp h1) λd _ ee2=>?_
  subst ee2
  have:=ih h2
  simp [this]
section
variable {A:Around}
variable (hk:∀ a o,(H1 zw.params).get? a=some o->zh.get? a=some o)
include hk
theorem tmap_W {n:Nat}{cal:D->List D->Option D}(rm:RmS n A)(hc:CalOk cal n){f:D}{xs ds:List D}(hd:flat (λi=>(cal f [i]).map λr=>[r]) xs=some ds){nm:List (Str×NameKind)}{env:Env}{B:List Addr}{W:Wd}{ρ:Rho}{i1 i2:Str}{p1 p2 pos1 pos2:Pos}{he xe:Expr}
  (F:Fm B nm env W ρ) (I:Inv W) (hn1:isNm nm tTuple (.Name i1 p1)=true) (hn2:isNm nm tMap (.Name i2 p2)=true) (hs0:noStar [he,xe]=true) (hf:GvA A (eval he env) W f) (hx:GvA A (eval xe env) W (.list xs)) :
  Gv A (eval (.Call (.Name i1 p1) [.Call (.Name i2 p2) [he,xe] [] pos1] [] pos2) env) W (.tup ds):=by
 intro s Q E o p
 refine wpAny_Call_Name_kw (gx_at hk F hn1 (.tail _ (.head _)) (by decide +kernel) I o ?_)
 refine callWith_core (first:=[]) rfl (wpAny_items_cons ?_ rfl)
 refine wpAny_Call_Name_kw (gx_at hk F hn2 (.tail _ (.tail _ (.head _))) (by decide +kernel) I o ?_)
 refine callWith_core (first:=[]) hs0 (items_at (ds:=[f,.list xs]) I hs0 (λk e d h1 h2=>?_) rfl o λvs W1 s1 L1 I1 o1 r1=>?_)
 ·match k,h1,h2 with
  | 0,h1,h2=>cases h1;cases h2;exact hf
  | 1,h1,h2=>cases h1;cases h2;exact hx
 obtain ⟨fv,vs',rfl,rf,lv,vs'',rfl,rl,rn⟩:=r1
 have:vs''=[]:=rn
 subst this
 obtain ⟨l,items,rfl,hlp,⟨⟨cls,dct,dat,sl⟩,hlo,hcls,nn,hdat⟩,hsz,hr⟩:=rl
 dsimp only at hcls hdat
 subst hcls hdat
 refine ⟨.machine,.inr (.inl rfl),λQ E q=>wpAny_pure q,?_⟩
 refine callType_new MF.called_map (by decide) (MF.typeCall_map_2 _ _) (MF.newCall_map_2 _ _) (λobj=>MF.args_oinit_3 obj _ _) MF.entry_map_new (meets_map_new fv l items nn dct sl) ⟨by rw [o1.1];exact hlo,⟨_,Heap.get?_push_size _ rfl,rfl⟩,?_⟩
 have L2:Le [] W1 (W1.pushP (liO l)):=pushP_le _
 have I2:=pushP_inv I1 (liO l) rfl
 have o2:=pushP_ok o1 (liO l) s1.toks
 have L3:Le [] (W1.pushP (liO l)) ((W1.pushP (liO l)).push (tuO W1.h.objs.size)):=push_le _
 have I3:=push_inv I2 (tuO W1.h.objs.size)
 have o3:=push_ok o2 (tuO W1.h.objs.size) s1.toks
 have L4:Le [] ((W1.pushP (liO l)).push (tuO W1.h.objs.size)) (((W1.pushP (liO l)).push (tuO W1.h.objs.size)).push (maO (W1.pushP (liO l)).h.objs.size fv)):=push_le _
 have I4:=push_inv I3 (maO (W1.pushP (liO l)).h.objs.size fv)
 have o4:=push_ok o3 (maO (W1.pushP (liO l)).h.objs.size fv) s1.toks
 have hn:∀ {W:Wd},∀ a∈([]:List Addr),a∈W.pv:=λ_ h=>nomatch h
 have gJ:(W1.pushP (liO l)).h.get? W1.h.objs.size=some (liO l):=Heap.get?_push_size _ rfl
 have gT:((W1.pushP (liO l)).push (tuO W1.h.objs.size)).h.get? (W1.pushP (liO l)).h.objs.size=some (tuO W1.h.objs.size):=Heap.get?_push_size _ rfl
 have gI:(((W1.pushP (liO l)).push (tuO W1.h.objs.size)).push (maO (W1.pushP (liO l)).h.objs.size fv)).h.get? ((W1.pushP (liO l)).push (tuO W1.h.objs.size)).h.objs.size=some (maO (W1.pushP (liO l)).h.objs.size fv):=Heap.get?_push_size _ rfl
 have nT:(W1.pushP (liO l)).h.objs.size∉((W1.pushP (liO l)).push (tuO W1.h.objs.size)).pv:=new_notPv I2
 have nI:((W1.pushP (liO l)).push (tuO W1.h.objs.size)).h.objs.size∉(((W1.pushP (liO l)).push (tuO W1.h.objs.size)).push (maO (W1.pushP (liO l)).h.objs.size fv)).pv:=new_notPv I3
 have pJ:W1.h.objs.size∈(((W1.pushP (liO l)).push (tuO W1.h.objs.size)).push (maO (W1.pushP (liO l)).h.objs.size fv)).pv:=.head _
 have gJ4:=L4.toLe0.priv I3 (show W1.h.objs.size∈_ from pJ) (λh=>nomatch h) (L3.toLe0.priv I2 (show W1.h.objs.size∈(W1.pushP (liO l)).pv from .head _) (λh=>nomatch h) gJ)
 have L14:=(L2.trans L3).trans L4
 have ql:=L14.toLe0.isList I1 hn hlp ⟨_,hlo,rfl,nn,rfl⟩
 have m:MapSt (((W1.pushP (liO l)).push (tuO W1.h.objs.size)).push (maO (W1.pushP (liO l)).h.objs.size fv)) ((W1.pushP (liO l)).push (tuO W1.h.objs.size)).h.objs.size (W1.pushP (liO l)).h.objs.size W1.h.objs.size l f fv items 0 xs :=
  ⟨⟨nI,gI⟩,⟨L4.toLe0.notPv hn gT nT,L4.toLe0.obj I3 hn nT gT nofun (by show Value.type "tuple" ≠ Value.type "dict";decide)⟩,⟨pJ,_,gJ4,rfl,rfl⟩,⟨ql.2,ql.1⟩,rf.later I1 L14,by rw [List.drop_zero];exact hr.later I1 L14⟩
 have hxl:xs.length<=lim:=by
  have:=hr.length
  rw [Array.length_toList] at this
  omega
 have fJ:W1.h.get? W1.h.objs.size=none:=fresh_none _
 have esz:((s1.heap.push (liO l)).push (tuO s1.heap.objs.size)).objs.size=((W1.pushP (liO l)).push (tuO W1.h.objs.size)).h.objs.size:=by rw [o1.1];rfl
 have o4':Ok (((W1.pushP (liO l)).push (tuO W1.h.objs.size)).push (maO (W1.pushP (liO l)).h.objs.size fv)) { s1 with heap:=((s1.heap.push (liO l)).push (tuO s1.heap.objs.size)).push (maO (s1.heap.push (liO l)).objs.size fv) }:=⟨by rw [o1.1];rfl,o1.2.1,o1.2.2⟩
 rw [esz]
 refine wpAny_items_nil ⟨.machine,.inr (.inl rfl),λQ E q=>wpAny_pure q,?_⟩
 refine call_tuple_map ⟨_,by rw [o4'.1];exact gI,rfl⟩ ?_
 have hrm:Rm n A.in1.in1.in1.in1:=⟨rm.h,rm.g,by have:=rm.u;show A.units+1+1+1+1+100 * (n+1)<=9000;exact Nat.le_trans (Nat.le_of_eq (Nat.add_right_comm A.units 4 _)) (Nat.le_trans (Nat.add_le_add_left (show 4<=50 by decide) _) this),by have:=rm.d;show A.depth+10 * (n+1)<=990;exact Nat.le_trans (Nat.le_add_right _ 5) this⟩
 refine collect_map hc hrm hd I4 o4' m hxl λvs W5 s5 L5 I5 o5 r5=>?_
 have hl5:=r5.length
 have hdl:=flat_one hd
 refine ⟨by rw [hl5,hdl];exact lim_ok hxl,?_⟩
 have L6:=drop_le (W:=W5) (p:=W1.h.objs.size)
 have I6:=drop_inv I5 (p:=W1.h.objs.size)
 have L16:Le [] W1 (W5.drop W1.h.objs.size):=((L14.nil.trans L5).trans L6).fresh I1 λx hx=>.inr (by rw [List.mem_singleton] at hx;rw [hx];exact fJ)
 have hP6:∀ a∈[W1.h.objs.size],a∈W5.pv\/True:=λ_ _=>.inr trivial
 have r6:Reps (W5.drop W1.h.objs.size) ds vs:=by
  have pv5:=L5.pvK
  have L6':Le0 [] W5 (W5.drop W1.h.objs.size):=⟨λ_ _ e _ _ _=>e,λ_ _ e=>e,λ_ _ _ _ e=>e,λ_ _ _ _ x=>x,λ_ _ _ _ h=>(mem_drop.mp h).1,λ_ o e _=>⟨o,e⟩⟩
  exact r5.mono I5 L6' hn
 have o6:Ok (W5.drop W1.h.objs.size) s5:=⟨o5.1,o5.2.1,o5.2.2⟩
 exact (p.later (L1.trans L16)).new I6 o6 _ s5.toks (rep_newTuple I6 r6 (by rw [hl5,hdl];exact hxl))
end
end
section
open PySem.Calls
section
variable {A:Around}{W W' W0:Wd}{P B:List Addr}{s:Shared}{E:Value->Shared->Prop}{env:Env}{nm:List (Str×NameKind)}{ρ:Rho}
theorem turns_le (I:Inv W){h':Heap}(hp:∀ p∈P,p∈W.pv)(hx:∀ b o,b∉P->W.h.get? b=some o->h'.get? b=some o)(al:∀ p∈P,∃ o,h'.get? p=some o):Le P W { W with h:=h' }/\Inv { W with h:=h' }:=by
 have ig0:∀ {a ds},W.ig.lookup a=some ds->a∉P:=λe q=>I.igPv _ _ e (hp _ q)
 have alive:∀ a o,W.h.get? a=some o->∃ o',h'.get? a=some o':=λa o e=>by
  by_cases q:a∈P
  ·exact al a q
  ·exact ⟨o,hx a o q e⟩
 have b0:∀ {a o},zh.get? a=some o->a∉P:=λe q=>nomatch I.base.pv _ _ e (λz=>nomatch z) (hp _ q)
 refine ⟨⟨⟨λa o e _ h _=>hx a o h e,λ_ _ e=>e,λ_ _ _ _ e=>e,λa ds c e x=>x.keep λo e'=>hx a o (ig0 e) e',λ_ _ _ _ e=>e,λa o e _=>alive a o e⟩,λ_ h _=>h⟩,?_⟩
 refine ⟨⟨λa o e h1 _ h3=>hx a o (b0 e) (I.base.keep a o e h1 (λh=>(nomatch h)) h3),λ_ _ e=>(nomatch e),I.base.igNew,λ_ _ _ e=>(nomatch e),I.base.pv,
   λa o e hn=>let ⟨o',e'⟩:=I.base.alive a o e hn;alive a o' e'⟩,λa h=>let ⟨o,e⟩:=I.pvAl a h;alive a o e,
  λa ds e=>(I.ig a ds e).keep λo e'=>hx a o (ig0 e) e',I.igPv,λt ht=>(I.tab t ht).mono (λ_ e=>hx t _ (λq=>I.tabPv t ht (hp t q)) e) λc _ e h1 _ h3=>⟨hx c _ (λq=>h1 (hp c q)) e,h1,h3⟩,I.tabPv⟩
theorem two_mem {P:Addr->Prop}{a b:Addr}(ha:P a)(hb:P b):∀ x∈[a,b],P x:=λx hx=>by
 rcases List.mem_cons.mp hx with z | z
 ·rw [z];exact ha
 ·rw [List.mem_singleton] at z;rw [z];exact hb
inductive EnSt (W0:Wd)(B:List Addr)(nm:List (Str×NameKind))(env:Env)(e it l:Addr)(items:Array Value)(f:Rho->Nat->D->Option (Rho×Fl))(ρ':Rho)(fl:Fl)(n:Nat)(s:Shared):Prop
 | mk (W:Wd) (ρ:Rho) (xs:List D) (k:Nat) (old:Value) (hn:xs.length=n) (h:loopN f ρ k xs=some (ρ',fl)) (a:Act W0 B nm env W ρ) (hF:Fm (e::it::B) nm env W ρ) (he:e∈W.pv) (hi:it∈W.pv) (hl:l∉W.pv)
  (hE:IsEnum W.h e it ((k:Nat):Int) old) (hI:W.h.IsListIter it l k) (hL:W.h.IsList l items) (hr:Reps W xs (items.toList.drop k)) (o:Ok W s)
inductive EnBack (W0:Wd)(B:List Addr)(nm:List (Str×NameKind))(env:Env)(e it l:Addr)(items:Array Value)(k:Nat)(v:Value)(xs:List D)(W4:Wd)(ρ4:Rho):Prop
 | mk (a:Act W0 B nm env W4 ρ4) (he:e∈W4.pv) (hi:it∈W4.pv) (hl:l∉W4.pv) (hE:IsEnum W4.h e it ((k+1:Nat):Int) v) (hI:W4.h.IsListIter it l (k+1)) (hL:W4.h.IsList l items) (hr:Reps W4 xs (items.toList.drop (k+1)))
theorem enum_loop (hh:A.handled=none)(I0:Inv W0){f:Rho->Option (Rho×Fl)}{body:List Stmt}{i c:Str}{pi pc pt:Pos}{kt:Nat}{x y:Tx}{ρ':Rho}{fl:Fl}(htx:tgt nm (.Name i pi)=some x)(hty:tgt nm (.Name c pc)=some y)
  (hf:∀ W0 B ρ W ρ' fl,f ρ=some (ρ',fl)->Inv W0->Act W0 B nm env W ρ->StOk A (execs body env) W0 B nm env W ρ' fl) {xs:List D}
  (h:loopN (λρ k d=>f (setR (setR ρ x (.d (.int k))) y (.d d))) ρ 0 xs=some (ρ',fl)) {e it l:Addr} {items:Array Value} (hne:e≠it)
  (a:Act W0 B nm env W ρ) (heP:e∈W.pv) (heB:e∉B) (hiP:it∈W.pv) (hiB:it∉B) (hlP:l∉W.pv) (hF:Fm (e::it::B) nm env W ρ) (he:IsEnum W.h e it 0 .none) (hit:W.h.IsListIter it l 0) (hl:W.h.IsList l items) (hr:Reps W xs items.toList) (o:Ok W s) {R:Result->Shared->Prop}
  (q:∀ u W' s',Act W0 B nm env W' ρ'->Ok W' s'->FlR W' fl u->R (.ok u) s') :
  codeAny Mo A (.forLoop (.Tuple [.Name i pi,.Name c pc] kt pt) (.ref e) body [] env) R s:=by
 refine codeAny_forLoop_any (EnSt W0 B nm env e it l items (λρ k d=>f (setR (setR ρ x (.d (.int k))) y (.d d))) ρ' fl) (λn s hI=>?_) xs.length
  ⟨W,ρ,xs,0,.none,rfl,h,a,hF,heP,hiP,hlP,he,hit,hl,by rw [List.drop_zero];exact hr,o⟩
 clear he hit hl hr o h a heP hiP hlP hF
 clear enum_loop
 obtain ⟨W,ρ,xs,k,old,rfl,h,a,hF,heP,hiP,hlP,he,hit,hl,hr,o⟩:=hI
 have wk:∀ {W1 ρ1},Fm (e::it::B) nm env W1 ρ1->Fm B nm env W1 ρ1:=λF=>F.weak λq _ hn h=>hn (.tail _ (.tail _ h))
 have he':IsEnum s.heap e it ((k:Nat):Int) old:=by show s.heap.get? e=_;rw [o.1];exact he
 have hit':s.heap.IsListIter it l k:=by rw [o.1];exact hit
 have hl':s.heap.IsList l items:=by rw [o.1];exact hl
 have notCell:∀ b∈[e,it],∀ v,¬ W.h.IsCell b v:=two_mem (P:=λb=>∀ v,¬ W.h.IsCell b v) (λv hc=>by
  obtain ⟨ob,e1,hd⟩:=hc
  rw [he] at e1;cases e1;cases hd) λv hc=>by
  obtain ⟨ob,e1,hd⟩:=hc
  obtain ⟨ob',e2,_,hd'⟩:=hit
  rw [e2] at e1;cases e1;rw [hd'] at hd;cases hd
 clear hit he
 cases xs with
 | nil =>
  cases h
  have hx:items[k]? = none:=by
   have:=congrArg (·[0]?) hr
   simp only [List.getElem?_drop,Nat.add_zero,List.getElem?_nil,Array.getElem?_toList] at this
   exact this
  refine wpAny_pyNext_enum_end hh he' hit' hl' hx λh' hs=>wpAny_execs_nil ?_
  rw [o.1] at hs
  have hP:∀ b∈[it],b∈W.pv:=mem1 hiP
  have L1:=end_le a.I hiP hs
  have I1:=end_inv a.I hiP hs
  have F1:=hF.pass a.I L1 hP (mem1 (.tail _ (.head _))) λb hb=>notCell b (.tail _ hb)
  exact q .next _ _ (a.turn I0 L1 I1 (one_own hiP hiB) (wk F1) a.one) ⟨rfl,o.2.1,o.2.2⟩ rfl
 | cons d xs =>
  obtain ⟨v,r,e1,rv,rr⟩:=hr
  have hx:items[k]? = some v:=by
   have:=congrArg (·[0]?) e1
   simp only [List.getElem?_drop,Nat.add_zero,List.getElem?_cons_zero,Array.getElem?_toList] at this
   exact this
  have er:items.toList.drop (k+1)=r:=by
   have:=congrArg (·.drop 1) e1
   simpa [List.drop_drop,Nat.add_comm] using this
  refine wpAny_pyNext_enum_item he' hit' hl' hx hne λh₁ heo hit₁ ht₁ hz₁ hk₁=>?_
  refine wpAny_letOwnedTupleGo_enum heo λh₂ he₂ hs₂=>?_
  replace hs₂:Heap.SameBut e h₁ h₂:=hs₂
  have eh:∀ {b ob},s.heap.get? b=some ob->b≠s.heap.objs.size:=λe z=>by have:=Heap.lt_size e;rw [z] at this;exact Nat.lt_irrefl _ this
  have ht₂:h₂.IsTuple s.heap.objs.size #[.int k s.toks,v]:=⟨_,(hs₂.2 _ (Ne.symm (eh he'))).trans ht₁,rfl,_,rfl⟩
  have hz₂:h₂.objs.size=s.heap.objs.size+1:=hs₂.1.trans hz₁
  refine wpAny_assign_Tuple hh ht₂ rfl rfl λh₃ hx₃=>?_
  replace hx₃:Heap.ExtBut h₂.objs.size h₂ h₃:=hx₃
  have old₃:∀ b ob ob',s.heap.get? b=some ob'->h₂.get? b=some ob->h₃.get? b=some ob:=λb ob ob' x z=>hx₃ b ob (by rw [hz₂];exact Nat.ne_of_lt (Nat.lt_succ_of_lt (Heap.lt_size x))) z
  have hx1:∀ b ob,b∉[e,it]->W.h.get? b=some ob->h₃.get? b=some ob:=λb ob hb z=>by
   have z':s.heap.get? b=some ob:=by rw [o.1];exact z
   have n1:b≠e:=λq=>hb (by rw [q];exact .head _)
   have n2:b≠it:=λq=>hb (by rw [q];exact .tail _ (.head _))
   exact old₃ b ob ob z' ((hs₂.2 b n1).trans (hk₁ b ob n1 n2 z'))
  have he3:IsEnum h₃ e it ((k+1:Nat):Int) v:=by
   have:((k+1:Nat):Int)=(k:Int)+1:=by push_cast;rfl
   rw [this]
   exact old₃ e _ _ he' he₂
  have hit3:h₃.IsListIter it l (k+1):=by
   obtain ⟨oi,goi,_⟩:=id hit'
   exact (hit₁.extBut hs₂.extBut (Ne.symm hne)).at λob z=>old₃ it ob oi goi z
  clear old₃ hne hs₂ hit₁ hit' he₂ he' hk₁ hz₂ hx₃ ht₂ hh hz₁ ht₁ eh heo hx hl' e1 old pt kt
  obtain ⟨ol,gol,rl⟩:=id hl
  have hlne:l∉[e,it]:=two_mem (P:=λb=>b∈W.pv) heP hiP l |> λz q=>hlP (z q)
  have hl3:h₃.IsList l items:=⟨ol,hx1 l ol hlne gol,rl⟩
  have hP:∀ b∈[e,it],b∈W.pv:=two_mem (P:=λb=>b∈W.pv) heP hiP
  clear rl gol hlne ol hl
  obtain ⟨L1,I1⟩:=turns_le a.I (h':=h₃) hP hx1 (two_mem (P:=λb=>∃ o,h₃.get? b=some o) ⟨_,he3⟩ (let ⟨oi,g,_⟩:=hit3;⟨oi,g⟩))
  have F1:=hF.pass a.I L1 hP (two_mem (P:=λb=>b∈e::it::B) (.head _) (.tail _ (.head _))) notCell
  have a1:Act W0 B nm env { W with h:=h₃ } ρ:=a.turn I0 L1 I1 (two_mem (P:=λb=>b∈W.pv/\b∉B) ⟨heP,heB⟩ ⟨hiP,hiB⟩) (wk F1) a.one
  have a1':Act { W with h:=h₃ } (e::it::B) nm env { W with h:=h₃ } ρ:=⟨I1,.le (Le.refl _),F1,a.one,λb hb=>by
   rcases List.mem_cons.mp hb with z | z
   ·rw [z];exact heP
   ·rcases List.mem_cons.mp z with z | z
    ·rw [z];exact hiP
    ·exact a1.bs b z⟩
  have o1:Ok { W with h:=h₃ } { heap:=h₃,gens:=s.gens,drawn:=s.drawn,toks:=s.toks+1,os:=s.os }:=⟨rfl,o.2.1,o.2.2⟩
  have rv1:=rv.mono a.I L1.toLe0 hP
  have rr1:=rr.mono a.I L1.toLe0 hP
  show wpAny _ A (do holding [v] (assign (.Name i pi) env (.int k s.toks));do holding [] (assign (.Name c pc) env v);pure ()) _ _ _
  have e2:({ W with h:=h₃ }:Wd).pv=W.pv:=rfl
  refine wpAny_bind (wpAny_holding (a1'.put (ev:=.d (.int k)) I1 o1 htx (show EVR (e::it::B) { W with h:=h₃ } (.d (.int k)) (.int k s.toks) from ⟨_,rfl⟩) (a.one.put λ_=>nofun) λW2 s2 a2 o2 ⟨q1,L2,hq1,_,e2,_⟩=>?_))
  have hP2:∀ b∈[q1],b∈W.pv:=mem1 hq1
  have rv2:=rv1.mono I1 L2.toLe0 hP2
  refine wpAny_bind (wpAny_holding (a2.put (ev:=.d d) I1 o2 hty rv2 (a2.one.put λ_=>nofun) λW3 s3 a3 o3 _=>wpAny_pure ?_))
  have back:∀ {W4 ρ4},Act { W with h:=h₃ } (e::it::B) nm env W4 ρ4->EnBack W0 B nm env e it l items k v xs W4 ρ4:=λ{W4 ρ4} a4=>by
   have aL:=a4.L
   obtain ⟨X,LX,hX⟩:=aL
   have hn1:e∉X:=λz=>(hX e z).2 (.head _)
   have hn2:it∉X:=λz=>(hX it z).2 (.tail _ (.head _))
   have hPX:∀ b∈X,b∈W.pv:=λb hb=>(hX b hb).1
   have ql:=LX.toLe0.isList I1 hPX hlP hl3
   refine ⟨⟨a4.I,a1.L.trans I0 a4.L λq hq=>.tail _ (.tail _ hq),wk a4.F,a4.one,λb hb=>a4.bs b (.tail _ (.tail _ hb))⟩,LX.pvK e heP hn1,LX.pvK it hiP hn2,ql.2,LX.toLe0.priv I1 heP hn1 he3,?_,ql.1,by rw [er];exact rr1.mono I1 LX.toLe0 hPX⟩
   obtain ⟨oi,g,z⟩:=hit3
   exact ⟨oi,LX.toLe0.priv I1 hiP hn2 g,z⟩
  have h':(match f (setR (setR ρ x (.d (.int k))) y (.d d)) with
   | some (ρ',.next)=>loopN (λρ k d=>f (setR (setR ρ x (.d (.int k))) y (.d d))) ρ' (k+1) xs
   | some (ρ',.cont)=>loopN (λρ k d=>f (setR (setR ρ x (.d (.int k))) y (.d d))) ρ' (k+1) xs
   | some (ρ',.brk)=>some (ρ',.next)
   | some (ρ',.ret d)=>some (ρ',.ret d)
   | none=>none)=some (ρ',fl):=h
  clear hiP hit3 rr1 er he3 heP wk I0 a1 hl3 hlP a2 rv2 hty o2 hP2 L2 rv1 hq1 e2 s2 a htx o1 a1' pc c pi i hP L1 rr rv o F1 hiB heB notCell hF hx1 h₂ h₁
  cases hb:f (setR (setR ρ x (.d (.int k))) y (.d d)) with
  | none=>rw [hb] at h';exact ns h'
  | some r =>
   obtain ⟨ρ3,fl3⟩:=r
   rw [hb] at h'
   refine hf { W with h:=h₃ } (e::it::B) _ W3 ρ3 fl3 hb I1 a3 s3 _ _ o3 λu W4 s4 a4 o4 hu=>?_
   clear o3 s3 a3 I1 hb h hf ρ s A body
   obtain ⟨a5,g1,g2,g3,g4,g5,g6,g7⟩:=back a4
   match fl3,hu,h' with
   | .next,hu,h' =>
    have e:u=.next:=hu
    subst e
    exact ⟨xs.length,by simp,W4,ρ3,xs,k+1,v,rfl,h',a5,a4.F,g1,g2,g3,g4,g5,g6,g7,o4⟩
   | .cont,hu,h' =>
    have e:u=.cont:=hu
    subst e
    exact ⟨xs.length,by simp,W4,ρ3,xs,k+1,v,rfl,h',a5,a4.F,g1,g2,g3,g4,g5,g6,g7,o4⟩
   | .brk,hu,h' =>
    have e:u=.brk:=hu
    clear g7 g6 g5 g4 g3 g2 g1 a4 back ρ
    subst e
    cases h'
    exact q .next W4 s4 a5 o4 rfl
   | .ret d,hu,h' =>
    clear g7 g6 g5 g4 g3 g2 g1 a4 back ρ
    obtain ⟨v,rfl,r⟩:=hu
    cases h'
    exact q _ W4 s4 a5 o4 ⟨v,rfl,r⟩
end
end
section
open PySem.Calls
section
variable {A:Around}{W W' W0:Wd}{P B N:List Addr}{s:Shared}{E:Value->Shared->Prop}{env:Env}{nm:List (Str×NameKind)}{ρ:Rho}
theorem newP_ok (I:Inv W){h':Heap}(hx:∀ b o,W.h.get? b=some o->h'.get? b=some o)(hN:∀ p∈N,W.h.get? p=none/\∃ o,h'.get? p=some o):Le [] W { W with h:=h',pv:=N++W.pv }/\Inv { W with h:=h',pv:=N++W.pv }:=by
 have nn:∀ {a o},W.h.get? a=some o->a∉N:=λe q=>by rw [(hN _ q).1] at e;exact ns e
 have L:Le [] W { W with h:=h',pv:=N++W.pv }:=⟨⟨λa o e _ _ _=>hx a o e,λ_ _ e=>e,λ_ _ _ _ e=>e,λa ds c e x=>x.keep λo e'=>hx a o e',λa o e _ h=>(List.mem_append.mp h).elim (λq=>absurd q (nn e)) id,λa o e _=>⟨o,hx a o e⟩⟩,λ_ h _=>List.mem_append.mpr (.inr h)⟩
 refine ⟨L,I.base.trans L.toLe0,λa h=>?_,λa ds e=>(I.ig a ds e).keep λo e'=>hx a o e',λa ds e h=>?_,λt ht=>(I.tab t ht).mono (λ_ e=>hx _ _ e) λc o e h1 _ h3=>⟨hx _ _ e,λq=>(List.mem_append.mp q).elim (λz=>nn e z) h1,h3⟩,λt ht h=>?_⟩
 ·rcases List.mem_append.mp h with q | q
  ·exact (hN a q).2
  ·obtain ⟨o,e⟩:=I.pvAl a q
   exact ⟨o,hx a o e⟩
 ·rcases List.mem_append.mp h with q | q
  ·refine xEA ((I.ig a ds e).obj) λo e' _=>?_
   exact nn e' q
  ·exact I.igPv a ds e q
 ·rcases List.mem_append.mp h with q | q
  ·obtain ⟨vs,e',_⟩:=I.tab t ht
   exact nn e' q
  ·exact I.tabPv t ht q
end
section
variable {A:Around}
variable (hk:∀ a o,(H1 zw.params).get? a=some o->zh.get? a=some o)
include hk
theorem enum_W (hh:A.handled=none):EnumOk A:=by
 intro nm env W0 B W ρ f body i c g pi pc gp pt cp pos kt x y src xs ρ' fl I0 a htx hty hg hs _ hf hx h
 intro s Q E o po
 refine wpAny_For (wpAny_Call_Name_kw (gx_at hk a.F hg (.tail _ (.tail _ (.tail _ (.head _)))) (by decide +kernel) a.I o ?_)) (folded_pure λ_ _ _ e=>by cases e)
 refine callWith_core (first:=[]) hs (items_at (ds:=[.list xs]) a.I hs (λk e d h1 h2=>?_) rfl o λvs W1 s1 L1 I1 o1 r1=>?_)
 ·match k,h1,h2 with
  | 0,h1,h2=>cases h1;cases h2;exact hx
 clear hx hs hg hk src pos cp gp enum_W
 obtain ⟨lv,vs',rfl,rl,rn⟩:=r1
 have:vs'=[]:=rn
 clear rn
 subst this
 obtain ⟨l,items,rfl,hlp,hli,hsz,hr⟩:=rl
 refine ⟨.machine,.inr (.inl rfl),λQ E q=>wpAny_pure q,?_⟩
 refine call_enumerate_list (by rw [o1.1];exact hli) λh' he hit hz hx'=>?_
 have a1:=a.le I0 L1 I1
 rw [o1.1] at he hit hx' ⊢
 have f0:W1.h.get? W1.h.objs.size=none:=fresh_none _
 have f1:W1.h.get? (W1.h.objs.size+1)=none:=by
  cases e:W1.h.get? (W1.h.objs.size+1) with
  | none=>rfl
  | some ob=>have:=Heap.lt_size e;exact absurd this (by show ¬ (W1.h.objs.size+1 < W1.h.objs.size);exact Nat.not_lt.mpr (Nat.le_succ _))
 have hne:W1.h.objs.size+1≠W1.h.objs.size:=Nat.succ_ne_self _
 generalize W1.h.objs.size+1=e at *
 generalize W1.h.objs.size=it at *
 obtain ⟨L2,I2⟩:=newP_ok (N:=[e,it]) I1 hx' (two_mem (P:=λp=>W1.h.get? p=none/\∃ o,h'.get? p=some o) ⟨f1,_,he⟩ ⟨f0,let ⟨oi,g,_⟩:=hit;⟨oi,g⟩⟩)
 have np:∀ {b},W1.h.get? b=none->b∉W1.pv:=λhb z=>by obtain ⟨ob,e⟩:=I1.pvAl _ z;rw [hb] at e;exact ns e
 have Fw:Fm (e::it::B) nm env W1 ρ:=a1.F.weak λq hq hn hm=>by
  rcases List.mem_cons.mp hm with z | z
  ·exact np f1 (z▸hq)
  ·rcases List.mem_cons.mp z with z | z
   ·exact np f0 (z▸hq)
   ·exact hn z
 have hn:∀ {W:Wd},∀ a∈([]:List Addr),a∈W.pv:=λ_ h=>nomatch h
 have ql:=L2.toLe0.isList I1 hn hlp hli
 have o2:Ok { W1 with h:=h',pv:=[e,it]++W1.pv } { s1 with heap:=h' }:=⟨rfl,o1.2.1,o1.2.2⟩
 refine wpAny_pyIter_enum he ?_
 exact enum_loop hh I0 htx hty hf h hne (a1.le I0 L2 I2) (.head _) (λz=>np f1 (a1.bs _ z)) (.tail _ (.head _)) (λz=>np f0 (a1.bs _ z)) ql.2 (Fw.later I1 L2) he hit ql.1 (hr.later I1 L2) o2 po
end
end
section
open PySem.Calls
section
theorem own_cls {cal:D->List D->Option D}{f:D}{as:List D}{d:D}(h:own cal f as=some d):f=.at clsIg:=(own_inv h).1
theorem outer (st:Start zw zS zx.2.2.1 zx.2.2.2):Outer G fns own:=by
 have hk:=st.keep
 have h261:∃ o,zh.get? 261=some o:=let ⟨o,e,_⟩:=st.lst;⟨o,e⟩
 have h1:∃ o,zh.get? 1=some o:=⟨_,hk 1 _ rfl⟩
 have hb:Bs:=⟨⟨_,hk _ _ get171,rfl⟩⟩
 have hcs:cStatics∉tabs:=by decide
 exact {
  b:=hb
  nolim:=st.nolimit
  cs:=hcs
  glo:=λx d h A env W s Q E hg hb I o q=>glo_ok (P:=zw.params) hk h hg hb I o q
  fn:=λa mf h=>fn_ok hk h
  cls:=λcal f as d h=>own_cls h
  clsKeep:=λA W I=>cls_keep (P:=zw.params) hk I
  bi:=λA r k as d h W vs I rs=>bi_ok r h I rs
  ty:=λA r k as d h W vs I rs=>ty_ok r h I rs
  len:=λA x d h W v I r=>len_at h I r
  rd:=λA r od m as d h0 h W ov I rv=>rd_ok hk h1 hb st.nolimit hcs r h0 h I rv
  lamC:=λps e fd h=>h
  lam:=λA k nm ps bd sc pos xs e h env B W ρ F I=>lam_ok (P:=zw.params) rfl hk h F I
  tmap:=λn cal A rm hc f xs ds hd nm env B W ρ i1 p1 i2 p2 he xe pos1 pos2 F I h1 h2 h3 hf hx=>tmap_W hk rm hc hd F I h1 h2 h3 hf hx
  ksort:=λn cal A rm hc hkp f xs ds hd nm env B W ρ i1 p1 i2 p2 he xe kn kp pos1 pos2 F I h1 h2 h3 h4 hx hf=>ksort_W hk h261 st.nolimit hb rm hc hkp hd F I h1 h2 h3 h4 hx hf
  set:=λcal A hh n H=>set_ok hh n H
  enum:=λA hh=>enum_W hk hh
  sets:=λcal A hh ev=>sets_ok hh ev
  own:=λn cal A r ops f as d h W fv vs I rf rs=>own_W hk st.nolimit hcs r ops h I rf rs }
theorem ints_reps {W:Wd}:∀ {vs:List Value} {ns:List Int},IntsAre vs ns->Reps W (ns.map D.int) vs
 | vs,ns,h=>by
  induction h with
  | nil=>rfl
  | cons _ _ _ ih=>exact ⟨_,_,rfl,⟨_,rfl⟩,ih⟩
theorem start_inv (st:Start zw zS zx.2.2.1 zx.2.2.2):Inv ⟨zh,[],[]⟩:=by
 refine ⟨Le0.refl _,λa h=>(nomatch h),λa ds e=>(nomatch e),λa ds e=>(nomatch e),λt ht=>?_,λt ht h=>(nomatch h)⟩
 have key:∀ t∈tabs,(H1 zw.params).get? t=some { cls:=.none,data:=.fields #[] }:=by
  intro t ht
  simp only [tabs,List.mem_cons,List.not_mem_nil,or_false] at ht
  rcases ht with rfl | rfl | rfl<;>rfl
 exact ⟨#[],st.keep _ _ (key t ht),trivial,λpos cv h=>(by cases h),λ_=>.inl rfl⟩
end
end
section
set_option tactic.hygienic true
noncomputable abbrev cal (n:Nat):D->List D->Option D:=callD G fns own n
noncomputable def pl (i:Nat):Tx:=(plc[i - 1]?).getD []
noncomputable def PD (is:List Nat):List D:=is.map λi=>D.str (pl i)
noncomputable def seven:List Nat:=[1,2,3,4,5,6,7]
noncomputable def pairs:List (Nat×Nat):=seven.flatMap λi=>seven.map λj=>(i,j)
noncomputable def up (i j:Nat):Bool:=Nat.beq i j||(Nat.beq i (j / 2)||Nat.beq i (j / 4))
noncomputable def deeper (i j:Nat):List Nat:=if up i j then [j] else if up j i then [i] else []
noncomputable def slashes (i:Nat):Int:=if i=1 then 1 else if i<=3 then 2 else 3
noncomputable def ahead (i j:Nat):Int:=if slashes i≠slashes j then slashes i - slashes j else (if j < i then 1 else 0) - (if i < j then 1 else 0)
theorem join_all (n:Nat):seven.map (λi=>cal (n+2) (.at 200) [.str (pl i),.str [102]])=seven.map λi=>some (.str (pl i++[47,102])):=by kernel_rfl
theorem ahead_all (n:Nat):pairs.map (λp=>cal (n+1) (.at 226) [.str (pl p.1),.str (pl p.2)])=pairs.map λp=>some (.int (ahead p.1 p.2)):=by kernel_rfl
theorem norm_all (n:Nat):seven.map (λi=>cal (n+4) (.at 136) [.str (pl i)])=seven.map λi=>some (.str (pl i)):=by kernel_rfl
theorem deeper_all (n:Nat):pairs.map (λp=>cal (n+3) (.at 240) [.str (pl p.1),.str (pl p.2)])=pairs.map λp=>some (.list (PD (deeper p.1 p.2))):=by kernel_rfl
end
section
variable {c:D->List D->Option D}{n:Nat}{ρ ρ':Rho}{x y:Tx}{d d' fv:D}{e e1 e2 f:ME}{es as:List ME}{xs ds:List D}
theorem ev_loc (h:getR ρ x=some (.d d)):ev c G (n+1) ρ (.loc x)=some d:=by
 show (match getR ρ x with | some (.d d)=>some d | _=>none)=_
 rw [h]
theorem evt_loc (h:getR ρ x=some (.d d)):evt c G (n+1) ρ (.loc x)=some d:=by
 show (getR ρ x).bind monD=_
 rw [h]
 rfl
theorem evt_mut (h:getR ρ x=some (.mut xs)):evt c G (n+1) ρ (.loc x)=some (.list xs):=by
 show (getR ρ x).bind monD=_
 rw [h]
 rfl
theorem evl_cons {g:ME->Option D}(h1:g e=some d)(h2:evl g es=some ds):evl g (e::es)=some (d::ds):=by
 unfold evl
 rw [h1,h2]
 rfl
theorem ev_call2 {a b:ME}(h1:ev c G n ρ f=some fv)(h2:evl (ev c G n ρ) (a::b::as)=some xs)(h3:appD c fv xs=some d):ev c G (n+1) ρ (.call f (a::b::as))=some d:=by
 show (match ev c G n ρ f with
   | some fv=>(match evl (ev c G n ρ) (a::b::as) with | some xs=>appD c fv xs | none=>none)
   | none=>none)=_
 rw [h1,h2]
 exact h3
theorem ev_call1 (h1:ev c G n ρ f=some (.at k))(h2:ev c G n ρ e=some d')(h3:c (.at k) [d']=some d):ev c G (n+1) ρ (.call f [e])=some d:=by
 show (match ev c G n ρ f with
   | some fv=>if isLen fv then (match evt c G n ρ e with | some x=>biD 0 [x] | none=>none) else (match ev c G n ρ e with | some x=>appD c fv [x] | none=>none)
   | none=>none)=_
 rw [h1,h2]
 exact h3
theorem ev_ite {b:Bool}(h1:tv c G n ρ e=some b)(h2:(if b then ev c G n ρ e1 else ev c G n ρ e2)=some d):ev c G (n+1) ρ (.ite e e1 e2)=some d:=by
 show (match tv c G n ρ e with | some true=>ev c G n ρ e1 | some false=>ev c G n ρ e2 | none=>none)=_
 rw [h1]
 clear h1 ev_ite
 cases b<;>exact h2
theorem ev_bin {o:Nat}(h1:ev c G n ρ e1=some d')(h2:ev c G n ρ e2=some fv)(h3:binD o d' fv=some d):ev c G (n+1) ρ (.bin o e1 e2)=some d:=by
 show (match ev c G n ρ e1 with
   | some x=>(match ev c G n ρ e2 with | some y=>binD o x y | none=>none)
   | none=>none)=_
 rw [h1,h2]
 exact h3
theorem ev_cmp {o:Nat}{b:Bool}(h1:evt c G n ρ e1=some d')(h2:ev c G n ρ e2=some fv)(h3:cmpD o d' fv=some b):ev c G (n+1) ρ (.cmp o e1 e2)=some (.bool b):=by
 show (match evt c G n ρ e1 with
   | some x=>(match ev c G n ρ e2 with | some y=>(cmpD o x y).map D.bool | none=>none)
   | none=>none)=_
 rw [h1,h2]
 dsimp only
 rw [h3]
 rfl
theorem tv_cmp {o:Nat}{b:Bool}(h1:evt c G n ρ e1=some d')(h2:ev c G n ρ e2=some fv)(h3:cmpD o d' fv=some b):tv c G (n+3) ρ (.cmp o e1 e2)=some b:=by
 show (match ev c G (n+1) ρ (.cmp o e1 e2) with | some d=>truthD d | none=>none)=_
 rw [ev_cmp h1 h2 h3]
 rfl
theorem evi_idx (h1:evt c G n ρ e1=some d')(h2:ev c G n ρ e2=some fv)(h3:idxD d' fv=some d):ev c G (n+1) ρ (.idx e1 e2)=some d:=by
 show (match evt c G n ρ e1 with
   | some x=>(match ev c G n ρ e2 with | some y=>idxD x y | none=>none)
   | none=>none)=_
 rw [h1,h2]
 exact h3
theorem evi_meth {m:Tx}(h1:ev c G n ρ f=some fv)(h2:evl (ev c G n ρ) as=some xs)(h3:methD fv m xs=some d):ev c G (n+1) ρ (.meth f m as)=some d:=by
 show (match ev c G n ρ f with
   | some ov=>(match evl (ev c G n ρ) as with | some xs=>methD ov m xs | none=>none)
   | none=>none)=_
 rw [h1,h2]
 exact h3
theorem evi_ksort (h1:ev c G n ρ e=some (.list xs))(h2:ev c G n ρ f=some fv)(h3:sortD (λa b=>c fv [a,b]) xs=some ds):ev c G (n+1) ρ (.ksort e f)=some (.list ds):=by
 show (match ev c G n ρ e with
   | some xd=>(listC xd).bind λq=>(match ev c G n ρ f with
    | some fv=>(sortD (λa b=>c fv [a,b]) q.xs).map D.list
    | none=>none)
   | none=>none)=_
 rw [h1,h2]
 exact congrArg (Option.map D.list) h3
theorem ev_lst (hz:Nat.ble es.length lim=true)(h2:evl (ev c G n ρ) es=some ds):ev c G (n+1) ρ (.lst es)=some (.list ds):=by
 show (if Nat.ble es.length lim=true then (evl (ev c G n ρ) es).map D.list else none)=_
 rw [if_pos hz,h2]
 rfl
theorem ev_comp {gs:List (Tx×ME×List ME)}{fr:List Tx}{ifs:List ME}{it el:ME}(hx:isN (getR (frees fr ρ) x)=true)(h1:ev c G n ρ it=some d)(h2:itemsD d=some xs)(h3:flat (λi=>eg c G n (setR (frees fr ρ) x (.d i)) el ifs gs) xs=some ds)(hz:ds.length<=lim) :
  ev c G (n+1) ρ (.comp el ((x,it,ifs)::gs) fr)=some (.list ds):=by
 show (if isN (getR (frees fr ρ) x)=true then (match ev c G n ρ it with
   | some d=>(match itemsD d with
    | some xs=>(match flat (λi=>eg c G n (setR (frees fr ρ) x (.d i)) el ifs gs) xs with
     | some r=>if Nat.ble r.length lim=true then some (D.list r) else none
     | none=>none)
    | none=>none)
   | none=>none) else none)=_
 rw [if_pos hx,h1]
 dsimp only
 rw [h2]
 dsimp only
 rw [h3]
 dsimp only
 rw [if_pos (Nat.ble_eq_true_of_le hz)]
theorem eg_last {ifs:List ME}{b:Bool}(h1:tvl (tv c G n ρ) ifs=some b)(h2:b=true->ev c G n ρ e=some d):eg c G (n+1) ρ e ifs []=some (if b then [d] else []):=by
 show (match tvl (tv c G n ρ) ifs with
  | some true=>(ev c G n ρ e).map λd=>[d]
  | some false=>some []
  | none=>none)=_
 rw [h1]
 clear h1 ifs eg_last
 cases b with
 | true=>dsimp only;rw [h2 rfl];rfl
 | false=>rfl
theorem eg_more {gs:List (Tx×ME×List ME)}{it:ME}{ifs:List ME}(hx:isN (getR ρ x)=true)(h1:ev c G n ρ it=some d)(h2:itemsD d=some xs)(h3:flat (λi=>eg c G n (setR ρ x (.d i)) e ifs gs) xs=some ds):eg c G (n+1) ρ e [] ((x,it,ifs)::gs)=some ds:=by
 show (if isN (getR ρ x)=true then (match ev c G n ρ it with
    | some d=>(match itemsD d with
     | some xs=>flat (λi=>eg c G n (setR ρ x (.d i)) e ifs gs) xs
     | none=>none)
    | none=>none) else none)=_
 rw [if_pos hx,h1]
 dsimp only
 rw [h2]
 exact h3
theorem exl_next {g:Rho->MS->Option (Rho×Fl)}{s:MS}{r:List MS}{R:Option (Rho×Fl)}(h:g ρ s=some (ρ',.next))(h2:exl g ρ' r=R):exl g ρ (s::r)=R:=by
 unfold exl
 rw [h]
 exact h2
theorem exl_ret {g:Rho->MS->Option (Rho×Fl)}{s:MS}{r:List MS}(h:g ρ s=some (ρ',.ret d)):exl g ρ (s::r)=some (ρ',.ret d):=by
 unfold exl
 rw [h]
theorem exl_cont {g:Rho->MS->Option (Rho×Fl)}{s:MS}{r:List MS}(h:g ρ s=some (ρ',.cont)):exl g ρ (s::r)=some (ρ',.cont):=by
 unfold exl
 rw [h]
theorem ex_asg (h:ev c G K ρ e=some d)(hg:ex c G (n+1) ρ (.asg x e)=(match ev c G K ρ e with | some d=>some (setR ρ x (.d d),.next) | none=>none):=by rfl):ex c G (n+1) ρ (.asg x e)=some (setR ρ x (.d d),.next):=by
 rw [hg,h]
theorem ex_ret (h:ev c G K ρ e=some d)(hg:ex c G (n+1) ρ (.ret e)=(match ev c G K ρ e with | some d=>some (ρ,.ret d) | none=>none):=by rfl):ex c G (n+1) ρ (.ret e)=some (ρ,.ret d):=by
 rw [hg,h]
theorem ex_iff {a b:List MS}{t:Bool}{R:Option (Rho×Fl)}(h:tv c G K ρ e=some t)(h2:exl (ex c G n) ρ (if t then a else b)=R):ex c G (n+1) ρ (.iff e a b)=R:=by
 show (match tv c G K ρ e with
   | some true=>exl (ex c G n) ρ a
   | some false=>exl (ex c G n) ρ b
   | none=>none)=R
 rw [h]
 clear h ex_iff
 cases t<;>exact h2
theorem ex_retl (h:getR ρ x=some (.d d)):ex c G (n+1) ρ (.ret (.loc x))=some (ρ,.ret d):=by
 show retLoc ρ x (getR ρ x)=_
 rw [h]
 rfl
theorem ex_retm (h:getR ρ x=some (.mut xs)):ex c G (n+1) ρ (.ret (.loc x))=some (setR ρ x (.d (.list xs)),.ret (.list xs)):=by
 show retLoc ρ x (getR ρ x)=_
 rw [h]
 rfl
theorem cal_ret {mf:MF}{a:Nat}(h1:fns a=some mf)(h2:binds mf xs=some ρ)(h3:exl (ex (cal n) G K) ρ mf.body=some (ρ',.ret d)):cal (n+1) (.at a) xs=some d:=by
 show (match fns a with
   | some mf=>(match binds mf xs with
    | some ρ=>(match exl (ex (cal n) G K) ρ mf.body with
     | some (_,.ret d)=>some d
     | some (_,.next)=>some D.none
     | _=>none)
    | none=>none)
   | none=>own (cal n) (.at a) xs)=_
 rw [h1]
 dsimp only
 rw [h2]
 dsimp only
 rw [h3]
theorem cal_lam {ps:List Tx}(h2:bindR ps xs []=some (ρ,[]))(h3:ev (cal n) G K ρ e=some d):cal (n+1) (.lam ps e) xs=some d:=by
 show (match bindR ps xs [] with
   | some (ρ,[])=>ev (cal n) G K ρ e
   | _=>none)=_
 rw [h2]
 exact h3
end
noncomputable def foldO (c:D->D->Option D):D->List D->Option D
 | v,[]=>some v
 | v,d::r=>match c v d with
  | some v'=>foldO c v' r
  | none=>none
noncomputable abbrev tFun:Tx:=tS "function"
noncomputable abbrev tVal:Tx:=tS "value"
noncomputable abbrev tElt:Tx:=tS "element"
noncomputable abbrev tIt:Tx:=tS "it"
noncomputable abbrev tIni:Tx:=tS "initial"
noncomputable abbrev tSeq:Tx:=tS "sequence"
noncomputable abbrev redB:List MS:=[.asg tVal (.call (.loc tFun) [.loc tVal,.loc tElt])]
noncomputable def mRed:MF:=.mk [tFun,tSeq,tIni] .none .none [.asg tIt (.call (.glo (tS "iter")) [.loc tSeq]),.iff (.cmp 4 (.loc tIni) (.glo (tS "_initial_missing"))) [.try_ [.asg tVal (.call (.glo (tS "next")) [.loc tIt])]] [.asg tVal (.loc tIni)],.loop tElt (.loc tIt) redB,.ret (.loc tVal)]
theorem fns_red:fns 179=some mRed:=by kernel_rfl
set_option tactic.hygienic true in
theorem loop_red {c:D->List D->Option D}{f:D}(hf:∀ as,appD c f as=c f as):∀ (xs:List D) (ρ:Rho) (v r:D),getR ρ tVal=some (.d v)->getR ρ tFun=some (.d f)->foldO (λv e=>c f [v,e]) v xs=some r ->
  ∃ ρ',loopD (λρ d=>exl (ex c G 39) (setR ρ tElt (.d d)) redB) ρ xs=some (ρ',.next)/\getR ρ' tVal=some (.d r)
 | [],ρ,v,r,h1,h2,h=>by cases h;exact ⟨ρ,rfl,h1⟩
 | d::xs,ρ,v,r,h1,h2,h=>by
  unfold foldO at h
  split at h
  ·rename_i v' hv
   have g1:getR (setR ρ tElt (.d d)) tVal=some (.d v):=by rw [getR_setR,if_neg (by decide +kernel)];exact h1
   have g2:getR (setR ρ tElt (.d d)) tFun=some (.d f):=by rw [getR_setR,if_neg (by decide +kernel)];exact h2
   have g3:getR (setR ρ tElt (.d d)) tElt=some (.d d):=by rw [getR_setR,if_pos (by decide +kernel)]
   have e:exl (ex c G 39) (setR ρ tElt (.d d)) redB=some (setR (setR ρ tElt (.d d)) tVal (.d v'),.next) :=
    exl_next (ex_asg (n:=38) (ev_call2 (n:=39) (ev_loc g2) (evl_cons (ev_loc g1) (evl_cons (ev_loc g3) rfl)) (by rw [hf];exact hv))) rfl
   obtain ⟨ρ',q1,q2⟩:=loop_red hf xs (setR (setR ρ tElt (.d d)) tVal (.d v')) v' r (by rw [getR_setR,if_pos (by decide +kernel)]) (by rw [getR_setR,if_neg (by decide +kernel)];exact g2) h
   refine ⟨ρ',?_,q2⟩
   unfold loopD
   rw [e]
   exact q1
  ·exact ns h
theorem reduce_at {n:Nat}{f:D}{xs i:List D}{r:D}(hf:∀ as,appD (cal n) f as=cal n f as)(h:foldO (λv e=>cal n f [v,e]) (.list i) xs=some r):cal (n+1) (.at 179) [f,.list xs,.list i]=some r:=by
 have b:binds mRed [f,.list xs,.list i]=some [(tIni,.d (.list i)),(tSeq,.d (.list xs)),(tFun,.d f)]:=by kernel_rfl
 obtain ⟨ρ',q1,q2⟩:=loop_red hf xs [(tVal,.d (.list i)),(tIni,.d (.list i)),(tSeq,.d (.list xs)),(tFun,.d f)] (.list i) r (by rfl) (by rfl) h
 refine cal_ret (ρ':=ρ') fns_red b ?_
 refine exl_next (ρ':=[(tIt,.itr xs),(tIni,.d (.list i)),(tSeq,.d (.list xs)),(tFun,.d f)]) (by kernel_rfl) ?_
 refine exl_next (ρ':=[(tVal,.d (.list i)),(tIt,.itr xs),(tIni,.d (.list i)),(tSeq,.d (.list xs)),(tFun,.d f)]) (by kernel_rfl) ?_
 refine exl_next (ρ':=ρ') ?_ (exl_ret (ex_retl (n:=39) q2))
 show loopD _ (dropI _) xs=_
 exact q1
theorem mem_pairs {i j:Nat}(hi:i∈seven)(hj:j∈seven):(i,j)∈pairs:=List.mem_flatMap.mpr ⟨i,hi,List.mem_map.mpr ⟨j,hj,rfl⟩⟩
theorem join_f {i:Nat}(h:i∈seven)(n:Nat):cal (n+2) (.at 200) [.str (pl i),.str [102]]=some (.str (pl i++[47,102])):=map_at (f:=λi=>cal (n+2) (.at 200) [.str (pl i),.str [102]]) (g:=λi=>some (.str (pl i++[47,102]))) (join_all n) h
theorem ahead_f {i j:Nat}(hi:i∈seven)(hj:j∈seven)(n:Nat):cal (n+1) (.at 226) [.str (pl i),.str (pl j)]=some (.int (ahead i j)):=map_at (x:=(i,j)) (f:=λp:Nat×Nat=>cal (n+1) (.at 226) [.str (pl p.1),.str (pl p.2)]) (g:=λp=>some (.int (ahead p.1 p.2))) (ahead_all n) (mem_pairs hi hj)
theorem norm_f {i:Nat}(h:i∈seven)(n:Nat):cal (n+4) (.at 136) [.str (pl i)]=some (.str (pl i)):=map_at (f:=λi=>cal (n+4) (.at 136) [.str (pl i)]) (g:=λi=>some (.str (pl i))) (norm_all n) h
theorem deeper_f {i j:Nat}(hi:i∈seven)(hj:j∈seven)(n:Nat):cal (n+3) (.at 240) [.str (pl i),.str (pl j)]=some (.list (PD (deeper i j))):=map_at (x:=(i,j)) (f:=λp:Nat×Nat=>cal (n+3) (.at 240) [.str (pl p.1),.str (pl p.2)]) (g:=λp=>some (.list (PD (deeper p.1 p.2)))) (deeper_all n) (mem_pairs hi hj)
theorem up_all:pairs.map (λp=>(pl p.1++[47]).isPrefixOf (pl p.2++[47,102]))=pairs.map λp=>up p.1 p.2:=by kernel_rfl
theorem plc_all:seven.map (λi=>(plc.any (eqT (pl i)),Nat.ble (pl i).length 1000))=seven.map λ_=>(true,true):=by kernel_rfl
noncomputable def In7 (is:List Nat):Prop:=∀ i∈is,i∈seven
theorem In7.cons {i:Nat}{is:List Nat}(h:In7 (i::is)):i∈seven/\In7 is:=⟨h i (.head _),λx hx=>h x (.tail _ hx)⟩
theorem strs_PD:∀ (is:List Nat),strsD (PD is)=some (is.map pl)
 | []=>rfl
 | i::is=>by
  show (strsD (PD is)).map (pl i::·)=_
  rw [strs_PD is]
  rfl
theorem ans_f {ks:List Nat}{d:Nat}(hk:In7 ks)(hd:d∈seven):ans (ks.map pl) (pl d)=if ks.any (up · d) then 1 else 0:=by
 unfold ans
 have:(ks.map pl).any (λx=>(x++[47]).isPrefixOf (pl d++[47,102]))=ks.any (up · d):=by
  induction ks with
  | nil=>rfl
  | cons k ks ih =>
   rw [List.map_cons,List.any_cons,List.any_cons,ih hk.cons.2]
   have:=map_at (f:=λp:Nat×Nat=>(pl p.1++[47]).isPrefixOf (pl p.2++[47,102])) up_all (mem_pairs hk.cons.1 hd)
   dsimp only at this
   rw [this]
 rw [this]
theorem mapD_PD {n:Nat}:∀ {is:List Nat},In7 is->mapD (λd=>cal (n+4) (.at 136) [d]) (PD is)=some (PD is)
 | [],_=>rfl
 | i::is,h=>by
  show (match cal (n+4) (.at 136) [.str (pl i)] with
   | some x=>(mapD (λd=>cal (n+4) (.at 136) [d]) (PD is)).map (x::·)
   | none=>none)=_
  rw [norm_f h.cons.1,mapD_PD h.cons.2]
  rfl
theorem fns159:fns 159=none:=by kernel_rfl
theorem cal_own {n:Nat}{as:List D}{d:D}(h:own (cal n) (.at 159) as=some d):cal (n+1) (.at 159) as=some d:=by
 show (match fns 159 with
   | some mf=>(match binds mf as with
    | some ρ=>(match exl (ex (cal n) G K) ρ mf.body with
     | some (_,.ret d)=>some d
     | some (_,.next)=>some D.none
     | _=>none)
    | none=>none)
   | none=>own (cal n) (.at 159) as)=_
 rw [fns159]
 exact h
theorem pl_short {ks:List Nat}(h:In7 ks):((ks.map pl).all λt=>Nat.ble t.length 1000)=true:=by
 rw [List.all_map,List.all_eq_true]
 intro i hi
 have:=map_at (f:=λi=>(plc.any (eqT (pl i)),Nat.ble (pl i).length 1000)) plc_all (h i hi)
 exact congrArg Prod.snd this
theorem ignore_at {n:Nat}{ks:List Nat}(h:In7 ks):cal (n+5) (.at 159) [.none,.list (PD ks)]=some (.rd (ks.map pl) []) :=
 cal_own (own_of (mapD_PD h) (strs_PD ks) (pl_short h))
noncomputable abbrev tKept:Tx:=tS "kept"
noncomputable abbrev tDd:Tx:=tS "d"
noncomputable abbrev lamK:ME:=.ite (.cmp 0 (.meth (.call (.glo (tS "_Ignore")) [.none,.loc tKept]) (tS "names") [.call (.glo (tS "join")) [.loc tDd,.str (tS "f")],.loc tDd]) (.int (.ofNat 0))) (.bin 0 (.loc tKept) (.lst [.loc tDd])) (.loc tKept)
noncomputable def mLeast:MF:=.mk [tS "folders"] .none .none [.ret (.call (.glo (tS "reduce")) [.lam [tKept,tDd] lamK,.ksort (.loc (tS "folders")) (.glo (tS "_law_ahead")),.lst []])]
theorem fns_least:fns 233=some mLeast:=by kernel_rfl
noncomputable def stepI (ks:List Nat)(d:Nat):List Nat:=if ks.any (up · d) then ks else ks++[d]
theorem names_rd {ks:List Nat}{d:Nat}(hk:In7 ks)(hd:d∈seven)(c:List Tx):methD (.rd (ks.map pl) c) (tS "names") [.str (pl d++[47,102]),.str (pl d)]=some (.int (if ks.any (up · d) then 1 else 0)):=by
 rw [<-ans_f hk hd]
 show (if (eqT (tS "names") mNames&&plc.any (eqT (pl d)))=true then (if eqT (pl d++[47,102]) (pl d++[47,102])=true then some (D.int (ans (ks.map pl) (pl d))) else none) else none)=_
 have h1:eqT (tS "names") mNames=true:=by decide +kernel
 have h2:plc.any (eqT (pl d))=true:=congrArg Prod.fst (map_at (f:=λi=>(plc.any (eqT (pl i)),Nat.ble (pl i).length 1000)) plc_all hd)
 rw [if_pos (by rw [h1,h2];rfl),if_pos (eqT_iff.mpr rfl)]
theorem G_ignore:G (tS "_Ignore")=some (.at 159):=by kernel_rfl
theorem G_join:G (tS "join")=some (.at 200):=by kernel_rfl
theorem G_reduce:G (tS "reduce")=some (.at 179):=by kernel_rfl
theorem G_ahead:G (tS "_law_ahead")=some (.at 226):=by kernel_rfl
theorem PD_app (a b:List Nat):PD (a++b)=PD a++PD b:=List.map_append
theorem PD_len (a:List Nat):(PD a).length=a.length:=List.length_map ..
theorem lam_at {n:Nat}{ks:List Nat}{d:Nat}(hk:In7 ks)(hd:d∈seven)(hz:ks.length+1<=lim):cal (n+6) (.lam [tKept,tDd] lamK) [.list (PD ks),.str (pl d)]=some (.list (PD (stepI ks d))):=by
 have g1:getR [(tDd,.d (.str (pl d))),(tKept,.d (.list (PD ks)))] tDd=some (.d (.str (pl d))):=by rfl
 have g2:getR [(tDd,.d (.str (pl d))),(tKept,.d (.list (PD ks)))] tKept=some (.d (.list (PD ks))):=by rfl
 refine cal_lam (n:=n+5) (ρ:=[(tDd,.d (.str (pl d))),(tKept,.d (.list (PD ks)))]) (by rfl) ?_
 have hm:ev (cal (n+5)) G 35 [(tDd,.d (.str (pl d))),(tKept,.d (.list (PD ks)))] (.meth (.call (.glo (tS "_Ignore")) [.none,.loc tKept]) (tS "names") [.call (.glo (tS "join")) [.loc tDd,.str (tS "f")],.loc tDd])=some (.int (if ks.any (up · d) then 1 else 0)) :=
  evi_meth (n:=34) (ev_call2 (n:=33) (fv:=.at 159) G_ignore (evl_cons rfl (evl_cons (ev_loc g2) rfl)) (ignore_at hk))
   (evl_cons (ev_call2 (n:=33) (fv:=.at 200) G_join (evl_cons (ev_loc g1) (evl_cons (d:=.str [102]) (by rfl) rfl)) (join_f hd (n+3))) (evl_cons (ev_loc g1) rfl)) (names_rd hk hd [])
 refine ev_ite (n:=39) (b:=decide ((if ks.any (up · d) then (1:Int) else 0)=0)) (tv_cmp (n:=36) (d':=.int (if ks.any (up · d) then 1 else 0)) (fv:=.int 0) hm rfl rfl) ?_
 unfold stepI
 cases ks.any (up · d) with
 | true =>
  rw [if_neg (by decide),if_pos rfl]
  exact ev_loc (n:=38) g2
 | false =>
  rw [if_pos (by decide),if_neg (by decide)]
  refine ev_bin (n:=38) (ev_loc g2) (ev_lst (n:=37) (es:=[.loc tDd]) (by rfl) (evl_cons (ev_loc (n:=36) g1) rfl)) ?_
  show (if Nat.ble ((PD ks).length+1) lim=true then some (D.list (PD ks++[.str (pl d)])) else none)=_
  rw [if_pos (Nat.ble_eq_true_of_le (by rw [PD_len];exact hz)),PD_app]
  rfl
theorem step_in {ks:List Nat}{d:Nat}(hk:In7 ks)(hd:d∈seven):In7 (stepI ks d):=by
 unfold stepI
 split
 ·exact hk
 ·intro i hi
  rcases List.mem_append.mp hi with h | h
  ·exact hk i h
  ·rw [List.mem_singleton] at h;rw [h];exact hd
theorem step_len {ks:List Nat}{d:Nat}:(stepI ks d).length<=ks.length+1:=by
 unfold stepI
 split
 ·exact Nat.le_succ _
 ·simp
theorem fold_lam {n:Nat}:∀ (ds ks:List Nat),In7 ds->In7 ks->ks.length+ds.length<=lim->foldO (λv e=>cal (n+6) (.lam [tKept,tDd] lamK) [v,e]) (.list (PD ks)) (PD ds)=some (.list (PD (ds.foldl stepI ks)))
 | [],ks,_,_,_=>rfl
 | d::ds,ks,hd,hk,hz=>by
  rw [List.length_cons] at hz
  show (match cal (n+6) (.lam [tKept,tDd] lamK) [.list (PD ks),.str (pl d)] with
   | some v'=>foldO (λv e=>cal (n+6) (.lam [tKept,tDd] lamK) [v,e]) v' (PD ds)
   | none=>none)=_
  rw [lam_at hk hd.cons.1 (Nat.le_trans (Nat.add_le_add_left (Nat.le_add_left 1 _) _) hz)]
  exact fold_lam ds (stepI ks d) hd.cons.2 (step_in hk hd.cons.1) (by have:=@step_len ks d;exact Nat.le_trans (Nat.add_le_add_right this _) (by rw [Nat.add_assoc,Nat.add_comm 1];exact hz))
noncomputable def getsI (xs:List Nat):List Nat->Option (List Nat)
 | []=>some []
 | i::r=>match xs[i]? with
  | some d=>(getsI xs r).map (d::·)
  | none=>none
noncomputable def ltI (is:List Nat)(i j:Nat):Option Bool:=match is[i]?,is[j]? with
 | some a,some b=>some (decide (ahead a b < 0))
 | _,_=>none
noncomputable def sortI (is:List Nat):Option (List Nat):=if Nat.blt is.length 2 then some is else if Nat.blt is.length 64 then
  (match runK (ltI is) (kas_sort is.length) with
  | some p=>getsI is p.toList
  | none=>none) else none
theorem gets_PD (is:List Nat):∀ (r:List Nat),getsD (PD is) r=(getsI is r).map PD
 | []=>rfl
 | i::r=>by
  unfold getsD getsI
  rw [gets_PD is r]
  have e:(PD is)[i]? = (is[i]?).map λi=>D.str (pl i):=List.getElem?_map ..
  rw [e]
  cases is[i]? with
  | none=>rfl
  | some d =>
   dsimp only [Option.map_some]
   cases getsI is r<;>rfl
theorem runK_congr {α:Type}{f g:Nat->Nat->Option Bool}(h:∀ i j,f i j=g i j)(t:KasT α):runK f t=runK g t:=by
 have:f=g:=funext λi=>funext λj=>h i j
 rw [this]
theorem sort_PD {is:List Nat}(h:In7 is)(n:Nat):sortD (λa b=>cal (n+1) (.at 226) [a,b]) (PD is)=(sortI is).map PD:=by
 have ha:(PD is).all isStr=true:=by
  unfold PD
  rw [List.all_map,List.all_eq_true]
  intro i _
  rfl
 unfold sortD sortI
 rw [if_pos ha,PD_len]
 split
 ·rfl
 ·split
  ·have e:∀ i j,ltS (λa b=>cal (n+1) (.at 226) [a,b]) (PD is) i j=ltI is i j:=by
    intro i j
    unfold ltI ltS
    have e1:∀ k,(PD is)[k]? = (is[k]?).map λi=>D.str (pl i):=λk=>List.getElem?_map ..
    rw [e1,e1]
    cases hi:is[i]? with
    | none=>rfl
    | some a =>
     cases hj:is[j]? with
     | none=>rfl
     | some b =>
      show ((cal (n+1) (.at 226) [.str (pl a),.str (pl b)]).bind λd=>(intC d).map λc=>decide (c.i < 0))=_
      rw [ahead_f (h a (List.mem_of_getElem? hi)) (h b (List.mem_of_getElem? hj))]
      rfl
   rw [runK_congr e]
   cases runK (ltI is) (kas_sort is.length) with
   | none=>rfl
   | some p=>exact gets_PD is p.toList
  ·rfl
set_option tactic.hygienic true in
theorem gets_in {is:List Nat}(h:In7 is):∀ {r ys:List Nat},getsI is r=some ys->In7 ys/\ys.length=r.length
 | [],ys,e=>by cases e;exact ⟨λ_ h=>(nomatch h),rfl⟩
 | i::r,ys,e=>by
  unfold getsI at e
  split at e
  ·rename_i d hd
   obtain ⟨zs,h1,rfl⟩:=Option.map_eq_some_iff.mp e
   obtain ⟨g1,g2⟩:=gets_in h h1
   refine ⟨λx hx=>?_,by rw [List.length_cons,List.length_cons,g2]⟩
   rcases List.mem_cons.mp hx with z | z
   ·rw [z];exact h d (List.mem_of_getElem? hd)
   ·exact g1 x z
  ·exact ns e
theorem least_at {n:Nat}{is ys:List Nat}(h:In7 is)(hs:sortI is=some ys)(hy:In7 ys)(hz:ys.length<=lim):cal (n+8) (.at 233) [.list (PD is)]=some (.list (PD (ys.foldl stepI []))):=by
 refine cal_ret (n:=n+7) (ρ:=[(tS "folders",.d (.list (PD is)))]) fns_least (by rfl) (exl_ret (ex_ret (n:=39) (ρ:=[(tS "folders",.d (.list (PD is)))]) ?_))
 refine ev_call2 (n:=39) (fv:=.at 179) G_reduce (evl_cons (d:=.lam [tKept,tDd] lamK) (by rfl) (evl_cons (d:=.list (PD ys)) (evi_ksort (n:=38) (fv:=.at 226) (ev_loc (d:=.list (PD is)) (by rfl)) G_ahead ?_) (evl_cons (d:=.list (PD [])) (by rfl) rfl))) ?_
 ·have:=sort_PD h (n+6)
  rw [hs] at this
  exact this
 ·exact reduce_at (n:=n+6) (λ_=>rfl) (fold_lam ys [] hy (λ_ h=>nomatch h) (by simpa using hz))
section
variable {c:D->List D->Option D}{n:Nat}{ρ ρ':Rho}{x y:Tx}{d d' fv v:D}{e:ME}{xs ds:List D}
theorem ev_call0 {f:ME}(h1:ev c G n ρ f=some fv)(h3:appD c fv []=some d):ev c G (n+1) ρ (.call f [])=some d:=by
 show (match ev c G n ρ f with
   | some fv=>(match evl (ev c G n ρ) [] with | some xs=>appD c fv xs | none=>none)
   | none=>none)=_
 rw [h1]
 exact h3
theorem frees1 (h:getR ρ x=some (.d v)):frees [x] ρ=[(x,.d v)]:=by
 unfold frees
 rw [List.filterMap_cons,h]
 rfl
theorem frees2 {u:D}(h:getR ρ x=some (.d v))(h2:getR ρ y=some (.d u)):frees [x,y] ρ=[(x,.d v),(y,.d u)]:=by
 unfold frees
 rw [List.filterMap_cons,h,List.filterMap_cons,h2]
 rfl
theorem flat_PD {g:D->Option (List D)}{h:Nat->List Nat}:∀ {is:List Nat},(∀ i∈is,g (.str (pl i))=some (PD (h i)))->flat g (PD is)=some (PD (is.flatMap h))
 | [],_=>rfl
 | i::is,hi=>by
  show (match g (.str (pl i)) with
   | some xs=>(flat g (PD is)).map (xs++·)
   | none=>none)=_
  rw [hi i (.head _),flat_PD λj hj=>hi j (.tail _ hj)]
  simp [PD]
theorem flat_map {α:Type}{g:D->Option (List D)}{a b:α->D}:∀ {is:List α},(∀ i∈is,g (a i)=some [b i])->flat g (is.map a)=some (is.map b)
 | [],_=>rfl
 | i::is,hi=>by
  show (match g (a i) with
   | some xs=>(flat g (is.map a)).map (xs++·)
   | none=>none)=_
  rw [hi i (.head _),flat_map λj hj=>hi j (.tail _ hj)]
  rfl
theorem flat_filter {α:Type}{g:D->Option (List D)}{a b:α->D}{p:α->Bool}:∀ {is:List α},(∀ i∈is,g (a i)=some (if p i then [b i] else []))->flat g (is.map a)=some ((is.filter p).map b)
 | [],_=>rfl
 | i::is,hi=>by
  show (match g (a i) with
   | some xs=>(flat g (is.map a)).map (xs++·)
   | none=>none)=_
  rw [hi i (.head _),flat_filter λj hj=>hi j (.tail _ hj),List.filter_cons]
  cases p i<;>rfl
theorem getR_set (h:eqT x y=true){ev:EV}:getR (setR ρ x ev) y=some ev:=by rw [getR_setR,if_pos h]
theorem getR_other {ev ev':EV}(h:eqT x y=false)(h2:getR ρ y=some ev'):getR (setR ρ x ev) y=some ev':=by rw [getR_setR,if_neg (by rw [h];exact Bool.false_ne_true)];exact h2
theorem ex_app (h1:getR ρ x=some (.mut xs))(h2:ev c G K ρ e=some d)(hz:xs.length < lim):ex c G (n+1) ρ (.app x e)=some (setR ρ x (.mut (xs++[d])),.next):=by
 show ((mutR ρ x).bind λxs=>(ev c G K ρ e).bind λd=>if Nat.blt xs.length lim then some (setR ρ x (.mut (xs++[d])),Fl.next) else none)=_
 rw [mutR_of h1,h2]
 exact if_pos (by rw [Nat.blt_eq];exact hz)
theorem ex_loop {body:List MS}{it:ME}{R:Option (Rho×Fl)}(h1:ev c G K ρ it=some d)(h2:itemsD d=some xs)(h3:loopD (λρ d=>exl (ex c G n) (setR ρ x (.d d)) body) ρ xs=R)
  (hg:ex c G (n+1) ρ (.loop x it body)=(match ev c G K ρ it with
    | some d=>(match itemsD d with | some xs=>loopD (λρ d=>exl (ex c G n) (setR ρ x (.d d)) body) ρ xs | none=>none)
    | none=>none):=by rfl):ex c G (n+1) ρ (.loop x it body)=R:=by
 rw [hg,h1]
 dsimp only
 rw [h2]
 exact h3
theorem ex_loopl {body:List MS}{R:Option (Rho×Fl)}(h1:getR ρ y=some (.d d))(h2:itemsD d=some xs)(h3:loopD (λρ d=>exl (ex c G n) (setR ρ x (.d d)) body) ρ xs=R):ex c G (n+1) ρ (.loop x (.loc y) body)=R:=by
 show (match getR ρ y with
   | some v=>(match v with
    | .itr xs=>loopD (λρ d=>exl (ex c G n) (setR ρ x (.d d)) body) (dropI ρ) xs
    | .d d=>(match itemsD d with | some xs=>loopD (λρ d=>exl (ex c G n) (setR ρ x (.d d)) body) ρ xs | none=>none)
    | .mut _=>none)
   | none=>none)=_
 rw [h1]
 dsimp only
 rw [h2]
 exact h3
theorem loopD_cons {g:Rho->D->Option (Rho×Fl)}{R:Option (Rho×Fl)}(h:g ρ d=some (ρ',.next)\/g ρ d=some (ρ',.cont))(h2:loopD g ρ' xs=R):loopD g ρ (d::xs)=R:=by
 unfold loopD
 rcases h with h | h<;>(rw [h];exact h2)
end
theorem inD_zero {b:Nat->Bool}:∀ (ms:List Nat),inD (.int 0) (ms.map λd=>D.int (if b d then 1 else 0))=some (ms.any λd=>!b d)
 | []=>rfl
 | d::ms=>by
  show ((inD (.int 0) (ms.map λd=>D.int (if b d then 1 else 0))).bind λq=>some (decide ((0:Int)=if b d then 1 else 0)||q))=_
  rw [inD_zero ms,List.any_cons]
  cases b d<;>rfl
noncomputable abbrev tLow:Tx:=tS "lower"
noncomputable abbrev tUpp:Tx:=tS "upper"
noncomputable abbrev tRdr:Tx:=tS "reader"
noncomputable abbrev tFin:Tx:=tS "fine"
noncomputable abbrev tPlc:Tx:=tS "place"
noncomputable abbrev tMet:Tx:=tS "met"
noncomputable abbrev tOne:Tx:=tS "one"
noncomputable abbrev tOth:Tx:=tS "other"
noncomputable abbrev meMet:ME:=.comp (.loc tDd) [(tOne,(.loc tLow,[])),(tDd,(.call (.glo (tS "_law_deeper")) [.loc tOne,.loc tPlc],[]))] [tPlc]
noncomputable abbrev meNam:ME:=.meth (.loc tRdr) (tS "names") [.call (.glo (tS "join")) [.loc tDd,.str (tS "f")],.loc tDd]
noncomputable abbrev meAns:ME:=.comp meNam [(tDd,(.loc tMet,[]))] [tRdr]
noncomputable abbrev ifB:List MS:=[.asg tMet meMet,.iff (.cmp 7 (.int (.ofNat 0)) meAns) [.app tFin (.loc tPlc)] []]
noncomputable def mIf:MF:=.mk [tLow,tUpp] .none .none [.asg tRdr (.call (.glo (tS "_Ignore")) [.none,.loc tUpp]),.asg tFin (.lst []),.loop tPlc (.call (.glo (tS "_law_places")) []) ifB,.ret (.loc tFin)]
theorem fns_if:fns 245=some mIf:=by kernel_rfl
theorem places_at (n:Nat):cal (n+1) (.at 219) []=some (.list (PD seven)):=by kernel_rfl
theorem G_deeper:G (tS "_law_deeper")=some (.at 240):=by kernel_rfl
theorem G_places:G (tS "_law_places")=some (.at 219):=by kernel_rfl
theorem up_in7 {i j k:Nat}(hi:i∈seven)(hj:j∈seven)(h:k∈deeper i j):k∈seven:=by
 unfold deeper at h
 split at h
 ·rw [List.mem_singleton] at h;rw [h];exact hj
 ·split at h
  ·rw [List.mem_singleton] at h;rw [h];exact hi
  ·cases h
noncomputable def metI (lo:List Nat)(p:Nat):List Nat:=lo.flatMap λo=>deeper o p
noncomputable def fineI (lo us:List Nat)(p:Nat):Bool:=(metI lo p).all λd=>us.any (up · d)
theorem met_in {lo:List Nat}{p:Nat}(h:In7 lo)(hp:p∈seven):In7 (metI lo p):=λk hk=>by
 refine xEA (List.mem_flatMap.mp hk) λo ho h2=>?_
 exact up_in7 (h o ho) hp h2
theorem deeper_len (i j:Nat):(deeper i j).length<=1:=by
 unfold deeper
 split
 ·exact Nat.le_refl _
 ·split
  ·exact Nat.le_refl _
  ·exact Nat.zero_le _
theorem flat_len {f:Nat->List Nat}(h:∀ i,(f i).length<=1):∀ (l:List Nat),(l.flatMap f).length<=l.length
 | []=>Nat.le_refl _
 | i::l=>by
  rw [List.flatMap_cons,List.length_append,List.length_cons]
  have:=flat_len h l
  have:=h i
  omega
section
variable {n:Nat}{ρ:Rho}
theorem ev_met {lo:List Nat}{p:Nat}(hl:In7 lo)(hp:p∈seven)(hz:lo.length<=lim)(h1:getR ρ tLow=some (.d (.list (PD lo))))(h2:getR ρ tPlc=some (.d (.str (pl p)))):ev (cal (n+5)) G 40 ρ meMet=some (.list (PD (metI lo p))):=by
 have hd:∀ o∈lo,eg (cal (n+5)) G 39 (setR (frees [tPlc] ρ) tOne (.d (.str (pl o)))) (.loc tDd) [] [(tDd,(.call (.glo (tS "_law_deeper")) [.loc tOne,.loc tPlc],[]))]=some (PD (deeper o p)):=by
  intro o ho
  rw [frees1 h2]
  refine eg_more (n:=38) (by rfl) (ev_call2 (n:=37) (fv:=.at 240) G_deeper (evl_cons (ev_loc (n:=36) (d:=.str (pl o)) (by rfl)) (evl_cons (ev_loc (n:=36) (d:=.str (pl p)) (by rfl)) rfl)) (deeper_f (hl o ho) hp (n+2))) (by rfl) ?_
  have:=flat_PD (g:=λi=>eg (cal (n+5)) G 38 (setR (setR [(tPlc,EV.d (D.str (pl p)))] tOne (.d (.str (pl o)))) tDd (.d i)) (.loc tDd) [] []) (h:=λi=>[i]) (is:=deeper o p) λi _=>eg_last (n:=37) (b:=true) rfl λ_=>ev_loc (n:=36) (by rfl)
  rw [List.flatMap_singleton'] at this
  exact this
 refine ev_comp (n:=39) (by rw [frees1 h2];rfl) (ev_loc (n:=38) h1) rfl (flat_PD hd) ?_
 rw [PD_len]
 exact Nat.le_trans (flat_len (λo=>deeper_len o p) lo) hz
theorem ev_ans {us ms:List Nat}(hu:In7 us)(hm:In7 ms)(hz:ms.length<=lim){cc:List Tx}(h1:getR ρ tRdr=some (.d (.rd (us.map pl) cc)))(h2:getR ρ tMet=some (.d (.list (PD ms)))):ev (cal (n+5)) G 37 ρ meAns=some (.list (ms.map λd=>D.int (if us.any (up · d) then 1 else 0))):=by
 refine ev_comp (n:=36) (by rw [frees1 h1];rfl) (ev_loc (n:=35) h2) rfl ?_ (by rw [List.length_map];exact hz)
 refine flat_map (a:=λi=>D.str (pl i)) λi hi=>?_
 rw [frees1 h1]
 refine eg_last (n:=35) (b:=true) rfl λ_=>?_
 exact evi_meth (n:=34) (ev_loc (n:=33) (d:=.rd (us.map pl) cc) (by rfl)) (evl_cons (ev_call2 (n:=33) (fv:=.at 200) G_join (evl_cons (ev_loc (n:=32) (d:=.str (pl i)) (by rfl)) (evl_cons (d:=.str [102]) (by rfl) rfl)) (join_f (hm i hi) (n+3))) (evl_cons (ev_loc (n:=33) (d:=.str (pl i)) (by rfl)) rfl)) (names_rd hu (hm i hi) cc)
theorem if_loop {lo us:List Nat}(hl:In7 lo)(hu:In7 us)(hz:lo.length<=lim):∀ (ps acc:List Nat) (ρ:Rho),In7 ps->acc.length+ps.length < lim->getR ρ tLow=some (.d (.list (PD lo)))->getR ρ tRdr=some (.d (.rd (us.map pl) []))->getR ρ tFin=some (.mut (PD acc)) ->
  ∃ ρ',loopD (λρ d=>exl (ex (cal (n+5)) G 39) (setR ρ tPlc (.d d)) ifB) ρ (PD ps)=some (ρ',.next)/\getR ρ' tFin=some (.mut (PD (acc++ps.filter (fineI lo us))))
 | [],acc,ρ,_,_,h1,h2,h3=>⟨ρ,rfl,by rw [List.filter_nil,List.append_nil];exact h3⟩
 | p::ps,acc,ρ,hp,hz2,h1,h2,h3=>by
  rw [List.length_cons] at hz2
  have n1:getR (setR ρ tPlc (.d (.str (pl p)))) tLow=some (.d (.list (PD lo))):=getR_other (by decide +kernel) h1
  have n2:getR (setR ρ tPlc (.d (.str (pl p)))) tPlc=some (.d (.str (pl p))):=getR_set (by decide +kernel)
  have n3:getR (setR ρ tPlc (.d (.str (pl p)))) tRdr=some (.d (.rd (us.map pl) [])):=getR_other (by decide +kernel) h2
  have n4:getR (setR ρ tPlc (.d (.str (pl p)))) tFin=some (.mut (PD acc)):=getR_other (by decide +kernel) h3
  have em:=ev_met (n:=n) hl hp.cons.1 hz n1 n2
  have m1:getR (setR (setR ρ tPlc (.d (.str (pl p)))) tMet (.d (.list (PD (metI lo p))))) tRdr=some (.d (.rd (us.map pl) [])):=getR_other (by decide +kernel) n3
  have m2:getR (setR (setR ρ tPlc (.d (.str (pl p)))) tMet (.d (.list (PD (metI lo p))))) tMet=some (.d (.list (PD (metI lo p)))):=getR_set (by decide +kernel)
  have m3:getR (setR (setR ρ tPlc (.d (.str (pl p)))) tMet (.d (.list (PD (metI lo p))))) tFin=some (.mut (PD acc)):=getR_other (by decide +kernel) n4
  have m4:getR (setR (setR ρ tPlc (.d (.str (pl p)))) tMet (.d (.list (PD (metI lo p))))) tLow=some (.d (.list (PD lo))):=getR_other (by decide +kernel) n1
  have m5:getR (setR (setR ρ tPlc (.d (.str (pl p)))) tMet (.d (.list (PD (metI lo p))))) tPlc=some (.d (.str (pl p))):=getR_other (by decide +kernel) n2
  have hzm:(metI lo p).length<=lim:=Nat.le_trans (flat_len (λo=>deeper_len o p) lo) hz
  have ht:tv (cal (n+5)) G K (setR (setR ρ tPlc (.d (.str (pl p)))) tMet (.d (.list (PD (metI lo p))))) (.cmp 7 (.int (.ofNat 0)) meAns)=some (fineI lo us p):=by
   refine tv_cmp (n:=37) (d':=.int 0) rfl (ev_ans hu (met_in hl hp.cons.1) hzm m1 m2) ?_
   show (inD (.int 0) _).map (!·)=_
   rw [inD_zero]
   show some (!(metI lo p).any λd=>!us.any (up · d))=_
   unfold fineI
   rw [List.not_any_eq_all_not]
   simp
  obtain ⟨ρb,hb1,hb2,hb3,hb4⟩:∃ ρb,exl (ex (cal (n+5)) G 39) (setR ρ tPlc (.d (.str (pl p)))) ifB=some (ρb,.next)/\getR ρb tLow=some (.d (.list (PD lo)))/\getR ρb tRdr=some (.d (.rd (us.map pl) []))/\getR ρb tFin=some (.mut (PD (acc++if fineI lo us p then [p] else []))):=by
   cases hf:fineI lo us p with
   | true =>
    rw [hf] at ht
    refine ⟨setR (setR (setR ρ tPlc (.d (.str (pl p)))) tMet (.d (.list (PD (metI lo p))))) tFin (.mut (PD acc++[.str (pl p)])),exl_next (ex_asg (n:=38) em) (exl_next (ex_iff (n:=38) ht (exl_next (ex_app (n:=37) m3 (ev_loc (n:=39) m5) (by rw [PD_len];exact Nat.lt_of_le_of_lt (Nat.le_add_right _ _) hz2)) rfl)) rfl),getR_other (by decide +kernel) m4,getR_other (by decide +kernel) m1,?_⟩
    rw [getR_set (by decide +kernel),if_pos rfl,PD_app]
    rfl
   | false =>
    rw [hf] at ht
    refine ⟨_,exl_next (ex_asg (n:=38) em) (exl_next (ex_iff (n:=38) ht rfl) rfl),m4,m1,?_⟩
    rw [if_neg Bool.false_ne_true,List.append_nil]
    exact m3
  obtain ⟨ρ',q1,q2⟩:=if_loop hl hu hz ps (acc++if fineI lo us p then [p] else []) ρb hp.cons.2 (by
   rw [List.length_append]
   split
   ·rw [List.length_singleton];(rw [Nat.add_assoc,Nat.add_comm 1];exact hz2)
   ·rw [List.length_nil];exact Nat.lt_of_le_of_lt (Nat.le_succ _) hz2) hb2 hb3 hb4
  refine ⟨ρ',loopD_cons (.inl hb1) q1,?_⟩
  rw [q2,List.filter_cons,List.append_assoc]
  cases fineI lo us p<;>rfl
theorem if_at' {lo us:List Nat}(hl:In7 lo)(hu:In7 us)(hz:lo.length<=lim):cal (n+6) (.at 245) [.list (PD lo),.list (PD us)]=some (.list (PD (seven.filter (fineI lo us)))):=by
 refine xEA (if_loop (n:=n) hl hu hz seven [] [(tFin,.mut []),(tRdr,.d (.rd (us.map pl) [])),(tUpp,.d (.list (PD us))),(tLow,.d (.list (PD lo)))] (λ_ h=>h) (by decide) (by rfl) (by rfl) (by rfl)) λρ' q1 q2=>?_
 rw [List.nil_append] at q2
 refine cal_ret (n:=n+5) (ρ':=setR ρ' tFin (.d (.list (PD (seven.filter (fineI lo us)))))) (ρ:=[(tUpp,.d (.list (PD us))),(tLow,.d (.list (PD lo)))]) fns_if (by rfl) ?_
 refine exl_next (ρ':=[(tRdr,.d (.rd (us.map pl) [])),(tUpp,.d (.list (PD us))),(tLow,.d (.list (PD lo)))]) (ex_asg (n:=39) (ev_call2 (n:=39) (fv:=.at 159) G_ignore (evl_cons (d:=.none) rfl (evl_cons (ev_loc (n:=38) (d:=.list (PD us)) (by rfl)) rfl)) (ignore_at hu))) ?_
 refine exl_next (ρ':=[(tFin,.mut []),(tRdr,.d (.rd (us.map pl) [])),(tUpp,.d (.list (PD us))),(tLow,.d (.list (PD lo)))]) (by rfl) ?_
 refine exl_next (ρ':=ρ') (ex_loop (n:=39) (d:=.list (PD seven)) ?_ rfl q1) (exl_ret (ex_retm (n:=39) q2))
 exact ev_call0 (n:=39) (fv:=.at 219) G_places (places_at (n+4))
end
section
variable {c:D->List D->Option D}{n:Nat}{ρ ρ':Rho}{x y:Tx}{d d' fv v:D}{e f:ME}{es:List ME}{xs ds:List D}{b b':Bool}
theorem ev_len (h:evt c G n ρ (.loc x)=some (.list xs))(hn:n≠0):ev c G (n+1) ρ (.call (.glo (tS "len")) [.loc x])=some (.int xs.length):=by
 cases n with
 | zero=>exact absurd rfl hn
 | succ n =>
 show (match G (tS "len") with
   | some fv=>if isLen fv then (match evt c G (n+1) ρ (.loc x) with | some x=>biD 0 [x] | none=>none) else (match ev c G (n+1) ρ (.loc x) with | some x=>appD c fv [x] | none=>none)
   | none=>none)=_
 rw [show G (tS "len")=some (.bi 0) from by kernel_rfl,h]
 rfl
theorem evt_call (h:ev c G n ρ (.call f es)=some d):evt c G (n+1) ρ (.call f es)=some d:=h
theorem tv_or2 {e1 e2:ME}(h1:tv c G n ρ e1=some b)(h2:b=false->tv c G n ρ e2=some b')(hb:b=true->b'=true):tv c G (n+1) ρ (.or [e1,e2])=some b':=by
 show tvo (tv c G n ρ) [e1,e2]=_
 unfold tvo
 rw [h1]
 clear h1 e1 tv_or2
 cases b with
 | true=>rw [hb rfl]
 | false =>
  dsimp only
  unfold tvo
  rw [h2 rfl]
  clear h2 hb e2
  cases b'<;>rfl
theorem evi_sli {u:ME}{i:Int}(h1:ev c G n ρ e=some d')(h2:ev c G n ρ u=some (.int i))(hi:small i=true)(h3:sliD d' none (some i)=some d):ev c G (n+1) ρ (.sli e none (some u))=some d:=by
 show (match ev c G n ρ e with
   | some x=>(match evo (ev c G n ρ) none with
    | some dl=>(match evo (ev c G n ρ) (some u) with
     | some du=>(match optI dl with | some i=>(match optI du with | some j=>sliD x i j | none=>none) | none=>none)
     | none=>none)
    | none=>none)
   | none=>none)=_
 rw [h1]
 show (match (ev c G n ρ u).map some with
     | some du=>(match optI du with | some j=>sliD d' none j | none=>none)
     | none=>none)=_
 rw [h2]
 show (match (if small i=true then some (some i) else none) with | some j=>sliD d' none j | none=>none)=_
 rw [if_pos hi]
 exact h3
end
theorem at_m2 (pre:List D)(a b:D):atD (pre++[a,b]) (-2)=some a:=by
 show (if Nat.blt 1 (pre++[a,b]).length=true then (pre++[a,b])[(pre++[a,b]).length - 2]? else none)=_
 rw [if_pos (by rw [Nat.blt_eq];simp)]
 simp
theorem at_m1 (pre:List D)(a b:D):atD (pre++[a,b]) (-1)=some b:=by
 show (if Nat.blt 0 (pre++[a,b]).length=true then (pre++[a,b])[(pre++[a,b]).length - 1]? else none)=_
 rw [if_pos (by rw [Nat.blt_eq];simp)]
 simp
theorem cut_m2 (pre:List D)(a b:D):cut (pre++[a,b]) none (some (-2))=pre:=by
 show ((pre++[a,b]).take ((pre++[a,b]).length - 2)).drop 0=_
 simp
noncomputable def LD (ps:List (List Nat)):D:=.list (ps.map λis=>.list (PD is))
noncomputable def kOf (x:Int):Nat:=(Int.fmod (Int.fdiv x 4) 8).toNat
noncomputable def atomI (k:Nat):List Nat:=if k=0 then [] else [k]
theorem kOf_eq (x:Int):Int.fmod (Int.fdiv x 4) 8=(kOf x:Int)/\kOf x < 8:=by
 have h1:=Int.fmod_nonneg_of_pos (Int.fdiv x 4) (show (0:Int) < 8 by decide)
 have h2:=Int.fmod_lt_of_pos (Int.fdiv x 4) (show (0:Int) < 8 by decide)
 exact ⟨(Int.toNat_of_nonneg h1).symm,(Int.toNat_lt h1).mpr h2⟩
theorem mod_eq (x:Int):∃ r:Nat,Int.fmod x 4=r/\r < 4:=by
 have h1:=Int.fmod_nonneg_of_pos x (show (0:Int) < 4 by decide)
 have h2:=Int.fmod_lt_of_pos x (show (0:Int) < 4 by decide)
 exact ⟨(Int.fmod x 4).toNat,(Int.toNat_of_nonneg h1).symm,(Int.toNat_lt h1).mpr h2⟩
noncomputable abbrev tPil:Tx:=tS "pile"
noncomputable abbrev tX:Tx:=tS "x"
noncomputable abbrev tKk:Tx:=tS "k"
noncomputable abbrev tMade:Tx:=tS "made"
noncomputable abbrev meMod:ME:=.bin 3 (.loc tX) (.int (.ofNat 4))
noncomputable abbrev meNew:ME:=.or [.cmp 2 (.call (.glo (tS "len")) [.loc tPil]) (.int (.ofNat 2)),.cmp 0 meMod (.int (.ofNat 0))]
noncomputable abbrev meK:ME:=.bin 3 (.bin 2 (.loc tX) (.int (.ofNat 4))) (.int (.ofNat 8))
noncomputable abbrev meAtom:ME:=.ite (.cmp 0 (.loc tKk) (.int (.ofNat 0))) (.lst []) (.lst [.idx (.call (.glo (tS "_law_places")) []) (.bin 1 (.loc tKk) (.int (.ofNat 1)))])
noncomputable abbrev meLo:ME:=.idx (.loc tPil) (.neg (.int (.ofNat 2)))
noncomputable abbrev meUp:ME:=.idx (.loc tPil) (.neg (.int (.ofNat 1)))
noncomputable abbrev meBoth:ME:=.comp (.loc tDd) [(tOne,(meLo,[])),(tOth,(meUp,[])),(tDd,(.call (.glo (tS "_law_deeper")) [.loc tOne,.loc tOth],[]))] [tPil]
noncomputable def mDeed:MF:=.mk [tPil,tX] .none .none [.iff meNew [.asg tKk meK,.ret (.bin 0 (.loc tPil) (.lst [meAtom]))] [],.iff (.cmp 0 meMod (.int (.ofNat 1))) [.asg tMade (.bin 0 meLo meUp)] [.iff (.cmp 0 meMod (.int (.ofNat 2))) [.asg tMade meBoth] [.asg tMade (.call (.glo (tS "_law_if")) [meLo,meUp])]],
 .ret (.bin 0 (.sli (.loc tPil) .none (.some (.neg (.int (.ofNat 2))))) (.lst [.call (.glo (tS "_law_least")) [.loc tMade]]))]
theorem fns_deed:fns 250=some mDeed:=by kernel_rfl
section
variable {c:D->List D->Option D}{n m:Nat}{ρ:Rho}{x:Int}{xs:List D}
theorem ev_mod (h:getR ρ tX=some (.d (.int x))):ev c G (n+2) ρ meMod=some (.int (Int.fmod x 4)):=ev_bin (ev_loc h) (d':=.int x) (fv:=.int 4) rfl rfl
theorem tv_mod (h:getR ρ tX=some (.d (.int x)))(k:Nat):tv c G (n+6) ρ (.cmp 0 meMod (.int (.ofNat k)))=some (decide (Int.fmod x 4=k)) :=
 tv_cmp (n:=n+3) (d':=.int (Int.fmod x 4)) (fv:=.int k) (ev_mod h) rfl rfl
theorem ev_k (h:getR ρ tX=some (.d (.int x))):ev c G (n+3) ρ meK=some (.int (kOf x)):=by
 rw [<-(kOf_eq x).1]
 exact ev_bin (d':=.int (Int.fdiv x 4)) (fv:=.int 8) (ev_bin (d':=.int x) (fv:=.int 4) (ev_loc h) rfl rfl) rfl rfl
theorem tv_new (h1:∀ n,evt c G (n+1) ρ (.loc tPil)=some (.list xs))(h2:getR ρ tX=some (.d (.int x))):tv c G 40 ρ meNew=some (decide ((xs.length:Int) < 2)||decide (Int.fmod x 4=0)):=by
 refine tv_or2 (n:=39) (b:=decide ((xs.length:Int) < 2)) (tv_cmp (n:=36) (d':=.int xs.length) (fv:=.int 2) (ev_len (n:=34) ?_ (by decide)) rfl rfl) (λhb=>?_) (λhb=>by rw [hb];rfl)
 ·exact h1 33
 ·rw [hb,Bool.false_or]
  exact tv_mod (n:=33) h2 0
end
section
variable {n:Nat}{ρ:Rho}{x:Int}
theorem small8 {k:Nat}(hk:k < 8):small k=true :=
 (show ∀ i < 8,small ((i:Nat):Int)=true by decide) k hk
theorem binsub {x:Int}(h:small x=true):binD 1 (.int x) (.int 1)=some (.int (x - 1)):=by
 show (if (small x&&small 1)=true then some (D.int (x - 1)) else none)=_
 rw [if_pos]
 rw [h,show small 1=true from by decide]
 rfl
theorem idx_pl {k:Nat}(hk:k < 8)(h0:0 < k):idxD (.list (PD seven)) (.int (k - 1))=some (.str (pl k)):=by
 match k,hk,h0 with
 | 1,_,_=>rfl
 | 2,_,_=>rfl
 | 3,_,_=>rfl
 | 4,_,_=>rfl
 | 5,_,_=>rfl
 | 6,_,_=>rfl
 | 7,_,_=>rfl
 | n+8,h,_=>exact absurd h (Nat.not_lt.mpr (Nat.le_add_left _ _))
theorem ev_atom {k:Nat}(h:getR ρ tKk=some (.d (.int k)))(hk:k < 8):ev (cal (n+1)) G 38 ρ meAtom=some (.list (PD (atomI k))):=by
 refine ev_ite (n:=37) (b:=decide (k=0)) (tv_cmp (n:=34) (d':=.int k) (fv:=.int 0) (evt_loc (n:=33) h) rfl ?_) ?_
 ·show some (decide ((k:Int)=0))=_
  congr 1
  rw [decide_eq_decide]
  exact Int.natCast_eq_zero
 ·clear ev_atom
  rcases Nat.eq_zero_or_pos k with h0 | h0
  ·subst h0
   rw [if_pos (by decide)]
   exact ev_lst (n:=36) (es:=[]) (by rfl) rfl
  ·rw [if_neg (by rw [decide_eq_true_eq];exact Nat.ne_of_gt h0)]
   have e:atomI k=[k]:=by unfold atomI;rw [if_neg (Nat.ne_of_gt h0)]
   rw [e]
   refine ev_lst (n:=36) (es:=[.idx (.call (.glo (tS "_law_places")) []) (.bin 1 (.loc tKk) (.int (.ofNat 1)))]) (by rfl) (evl_cons (d:=.str (pl k)) (evi_idx (n:=35) (d':=.list (PD seven)) (fv:=.int (k - 1)) (evt_call (n:=34) (ev_call0 (n:=33) (fv:=.at 219) G_places (places_at n))) (ev_bin (n:=34) (d':=.int k) (fv:=.int 1) (ev_loc (n:=33) h) rfl ?_) ?_) rfl)
   ·exact binsub (small8 hk)
   ·exact idx_pl hk h0
theorem deed_new {ps:List (List Nat)}(h:ps.length < 2\/Int.fmod x 4=0)(hz:ps.length < lim):cal (n+2) (.at 250) [LD ps,.int x]=some (LD (ps++[atomI (kOf x)])):=by
 have g1:getR [(tX,.d (.int x)),(tPil,.d (LD ps))] tPil=some (.d (LD ps)):=by rfl
 have g2:getR [(tX,.d (.int x)),(tPil,.d (LD ps))] tX=some (.d (.int x)):=by rfl
 have hl:(ps.map λis=>D.list (PD is)).length=ps.length:=List.length_map ..
 refine cal_ret (n:=n+1) (ρ:=[(tX,.d (.int x)),(tPil,.d (LD ps))]) (ρ':=[(tKk,.d (.int (kOf x))),(tX,.d (.int x)),(tPil,.d (LD ps))]) fns_deed (by rfl) (exl_ret (ex_iff (n:=39) (t:=true) ?_ ?_))
 ·have:=tv_new (c:=cal (n+1)) (xs:=ps.map λis=>D.list (PD is)) (λn=>evt_loc g1) g2
  rw [hl] at this
  refine this.trans ?_
  congr 1
  rw [Bool.or_eq_true,decide_eq_true_eq,decide_eq_true_eq]
  exact h.imp (λh=>by exact Int.ofNat_lt.mpr h) id
 ·refine exl_next (ex_asg (n:=38) (ev_k (n:=37) g2)) (exl_ret (ex_ret (n:=38) (ev_bin (n:=39) (d':=LD ps) (fv:=.list [.list (PD (atomI (kOf x)))]) (ev_loc (n:=38) (by rfl)) (ev_lst (n:=38) (by rfl) (evl_cons (ev_atom (by rfl) (kOf_eq x).2) rfl)) ?_)))
  show (if Nat.ble ((ps.map λis=>D.list (PD is)).length+1) lim=true then some (D.list ((ps.map λis=>D.list (PD is))++[.list (PD (atomI (kOf x)))])) else none)=_
  rw [if_pos (Nat.ble_eq_true_of_le (by rw [hl];exact hz))]
  unfold LD
  rw [List.map_append]
  rfl
end
noncomputable def bothI (lo us:List Nat):List Nat:=lo.flatMap λa=>us.flatMap λb=>deeper a b
noncomputable def madeI (r:Nat)(lo us:List Nat):List Nat:=if r=1 then lo++us else if r=2 then bothI lo us else seven.filter (fineI lo us)
theorem both_in {lo us:List Nat}(hl:In7 lo)(hu:In7 us):In7 (bothI lo us):=λk hk=>by
 refine xEA (List.mem_flatMap.mp hk) λa ha h1=>?_
 refine xEA (List.mem_flatMap.mp h1) λb hb h2=>?_
 exact up_in7 (hl a ha) (hu b hb) h2
theorem both_len (us:List Nat):∀ (lo:List Nat),(bothI lo us).length<=lo.length * us.length
 | []=>Nat.zero_le _
 | a::lo=>by
  show ((us.flatMap λb=>deeper a b)++bothI lo us).length<=_
  rw [List.length_append,List.length_cons,Nat.succ_mul]
  have:=both_len us lo
  have:(us.flatMap λb=>deeper a b).length<=us.length:=flat_len (λb=>deeper_len a b) us
  omega
section
variable {n:Nat}{ρ:Rho}{x:Int}{c:D->List D->Option D}
theorem ev_lo {pre:List D}{a b:D}(h:getR ρ tPil=some (.d (.list (pre++[a,b])))):ev c G (n+2) ρ meLo=some a :=
 evi_idx (d':=.list (pre++[a,b])) (fv:=.int (-2)) (evt_loc h) rfl (at_m2 pre a b)
theorem ev_up {pre:List D}{a b:D}(h:getR ρ tPil=some (.d (.list (pre++[a,b])))):ev c G (n+2) ρ meUp=some b :=
 evi_idx (d':=.list (pre++[a,b])) (fv:=.int (-1)) (evt_loc h) rfl (at_m1 pre a b)
theorem ev_both {pre:List D}{lo us:List Nat}(hl:In7 lo)(hu:In7 us)(hz:lo.length * us.length<=lim)(h:getR ρ tPil=some (.d (.list (pre++[.list (PD lo),.list (PD us)])))):ev (cal (n+5)) G 40 ρ meBoth=some (.list (PD (bothI lo us))):=by
 refine ev_comp (n:=39) (by rw [frees1 h];rfl) (ev_lo (n:=37) h) rfl (flat_PD (h:=λa=>us.flatMap λb=>deeper a b) λa ha=>?_) (by rw [PD_len];exact Nat.le_trans (both_len us lo) hz)
 rw [frees1 h]
 refine eg_more (n:=38) (by rfl) (ev_up (n:=36) (pre:=pre) (a:=.list (PD lo)) (by rfl)) rfl (flat_PD (h:=λb=>deeper a b) λb hb=>?_)
 refine eg_more (n:=37) (by rfl) (ev_call2 (n:=36) (fv:=.at 240) G_deeper (evl_cons (ev_loc (n:=35) (d:=.str (pl a)) (by rfl)) (evl_cons (ev_loc (n:=35) (d:=.str (pl b)) (by rfl)) rfl)) (deeper_f (hl a ha) (hu b hb) (n+2))) (by rfl) ?_
 have:=flat_PD (g:=λi=>eg (cal (n+5)) G 37 (setR (setR (setR [(tPil,EV.d (.list (pre++[.list (PD lo),.list (PD us)])))] tOne (.d (.str (pl a)))) tOth (.d (.str (pl b)))) tDd (.d i)) (.loc tDd) [] []) (h:=λi=>[i]) (is:=deeper a b) λi _=>eg_last (n:=36) (b:=true) rfl λ_=>ev_loc (n:=35) (by rfl)
 rw [List.flatMap_singleton'] at this
 exact this
theorem G_if:G (tS "_law_if")=some (.at 245):=by kernel_rfl
theorem G_least:G (tS "_law_least")=some (.at 233):=by kernel_rfl
theorem mod_ne {r k:Nat}(h:Int.fmod x 4=r):decide (Int.fmod x 4=(k:Int))=decide (r=k):=by
 rw [h,decide_eq_decide]
 exact Int.ofNat_inj
theorem deed_two {r:Nat}{ps:List (List Nat)}{lo us ys:List Nat}(hl:In7 lo)(hu:In7 us)(hz:(ps.length+2) * 1<=lim)(hz1:lo.length+us.length<=lim)(hz2:lo.length * us.length<=lim)(hr:Int.fmod x 4=r)(h0:r≠0)(hs:sortI (madeI r lo us)=some ys)(hy:In7 ys)(hyz:ys.length<=lim) :
  cal (n+9) (.at 250) [LD (ps++[lo,us]),.int x]=some (LD (ps++[ys.foldl stepI []])):=by
 have hpd:LD (ps++[lo,us])=.list ((ps.map λis=>D.list (PD is))++[.list (PD lo),.list (PD us)]):=by
  unfold LD
  rw [List.map_append]
  rfl
 rw [hpd]
 generalize hpre:(ps.map λis=>D.list (PD is))=pre
 have hlen:pre.length=ps.length:=by rw [<-hpre,List.length_map]
 have hm7:In7 (madeI r lo us):=by
  unfold madeI
  split
  ·intro i hi
   rcases List.mem_append.mp hi with h | h
   ·exact hl i h
   ·exact hu i h
  ·split
   ·exact both_in hl hu
   ·exact λi hi=>(List.mem_filter.mp hi).1
 have g1:getR [(tX,.d (.int x)),(tPil,.d (.list (pre++[.list (PD lo),.list (PD us)])))] tPil=some (.d (.list (pre++[.list (PD lo),.list (PD us)]))):=by rfl
 have g2:getR [(tX,.d (.int x)),(tPil,.d (.list (pre++[.list (PD lo),.list (PD us)])))] tX=some (.d (.int x)):=by rfl
 refine cal_ret (n:=n+8) (ρ:=[(tX,.d (.int x)),(tPil,.d (.list (pre++[.list (PD lo),.list (PD us)])))]) (ρ':=[(tMade,.d (.list (PD (madeI r lo us)))),(tX,.d (.int x)),(tPil,.d (.list (pre++[.list (PD lo),.list (PD us)])))]) fns_deed (by rfl) ?_
 refine exl_next (ρ':=[(tX,.d (.int x)),(tPil,.d (.list (pre++[.list (PD lo),.list (PD us)])))]) (ex_iff (n:=39) (t:=false) ?_ rfl) ?_
 ·refine (tv_new (xs:=pre++[.list (PD lo),.list (PD us)]) (λn=>evt_loc g1) g2).trans ?_
  congr 1
  rw [Bool.or_eq_false_iff,decide_eq_false_iff_not,decide_eq_false_iff_not]
  refine ⟨?_,?_⟩
  ·rw [List.length_append]
   show ¬ (((pre.length+2:Nat):Int) < 2)
   exact Int.not_lt.mpr (Int.ofNat_le.mpr (Nat.le_add_left 2 _))
  ·rw [hr];omega
 refine exl_next (ρ':=[(tMade,.d (.list (PD (madeI r lo us)))),(tX,.d (.int x)),(tPil,.d (.list (pre++[.list (PD lo),.list (PD us)])))]) ?_ (exl_ret (ex_ret (n:=39) ?_))
 ·refine ex_iff (n:=39) (t:=decide (r=1)) ((tv_mod (n:=34) g2 1).trans (by rw [mod_ne hr])) ?_
  by_cases h1:r=1
  ·rw [if_pos (by rw [decide_eq_true_eq];exact h1)]
   refine exl_next (ρ':=_) (ex_asg (n:=38) (d:=.list (PD (madeI r lo us))) (ev_bin (n:=39) (ev_lo (n:=37) g1) (ev_up (n:=37) g1) ?_)) rfl
   show (if Nat.ble ((PD lo).length+(PD us).length) lim=true then some (D.list (PD lo++PD us)) else none)=_
   rw [if_pos (Nat.ble_eq_true_of_le (by rw [PD_len,PD_len];exact hz1)),← PD_app]
   unfold madeI
   rw [if_pos h1]
  ·rw [if_neg (by rw [decide_eq_true_eq];exact h1)]
   refine exl_next (ρ':=[(tMade,.d (.list (PD (madeI r lo us)))),(tX,.d (.int x)),(tPil,.d (.list (pre++[.list (PD lo),.list (PD us)])))]) (ex_iff (n:=38) (t:=decide (r=2)) ((tv_mod (n:=34) g2 2).trans (by rw [mod_ne hr])) ?_) rfl
   by_cases h2:r=2
   ·rw [if_pos (by rw [decide_eq_true_eq];exact h2)]
    refine exl_next (ex_asg (n:=37) (d:=.list (PD (madeI r lo us))) ?_) rfl
    have:=ev_both (n:=n+3) (pre:=pre) hl hu hz2 g1
    unfold madeI
    rw [if_neg h1,if_pos h2]
    exact this
   ·rw [if_neg (by rw [decide_eq_true_eq];exact h2)]
    refine exl_next (ex_asg (n:=37) (d:=.list (PD (madeI r lo us))) ?_) rfl
    unfold madeI
    rw [if_neg h1,if_neg h2]
    exact ev_call2 (n:=39) (fv:=.at 245) G_if (evl_cons (ev_lo (n:=37) g1) (evl_cons (ev_up (n:=37) g1) rfl)) (if_at' (n:=n+2) hl hu (Nat.le_trans (Nat.le_add_right _ _) hz1))
 ·have hleast:=least_at (n:=n) hm7 hs hy hyz
  refine ev_bin (n:=39) (d':=.list pre) (fv:=.list [.list (PD (ys.foldl stepI []))]) (evi_sli (n:=38) (i:=-2) (ev_loc (n:=37) (d:=.list (pre++[.list (PD lo),.list (PD us)])) (by rfl)) rfl (by decide) ?_) (ev_lst (n:=38) (by rfl) (evl_cons (ev_call1 (n:=37) G_least (ev_loc (n:=36) (d:=.list (PD (madeI r lo us))) (by rfl)) hleast) rfl)) ?_
  ·show some (D.list (cut (pre++[.list (PD lo),.list (PD us)]) none (some (-2))))=_
   rw [cut_m2]
  ·show (if Nat.ble (pre.length+1) lim=true then some (D.list (pre++[.list (PD (ys.foldl stepI []))])) else none)=_
   rw [if_pos (Nat.ble_eq_true_of_le (by rw [hlen];omega))]
   unfold LD
   rw [List.map_append,hpre]
   rfl
end
noncomputable def hasN (u:List Nat)(n:Nat):Bool:=u.any (Nat.beq n)
noncomputable def eqLs:List Nat->List Nat->Bool
 | [],[]=>true
 | a::r,b::q=>Nat.beq a b&&eqLs r q
 | _,_=>false
noncomputable def closed (u:List Nat):Bool:=u.all λn=>seven.all λm=>!(up n m)||hasN u m
noncomputable def subs:List Nat->List (List Nat)
 | []=>[[]]
 | a::l=>subs l++(subs l).map (a::·)
noncomputable def ups:List (List Nat):=(subs seven).filter closed
noncomputable def minl (u:List Nat):List Nat:=u.filter λn=>!hasN u (n / 2)
noncomputable def broke (l u:List Nat):List Nat:=l.filter λn=>!hasN u n
noncomputable def opI (r:Nat)(l u:List Nat):List Nat :=
 if r=1 then seven.filter λn=>hasN l n||hasN u n
 else if r=2 then seven.filter λn=>hasN l n&&hasN u n
 else seven.filter λn=>((broke l u).filter λe=>up n e).isEmpty
noncomputable def atomU (k:Nat):List Nat:=seven.filter λn=>!Nat.beq k 0&&up k n
noncomputable def chk (l u:List Nat)(r:Nat):Bool:=(match sortI (madeI r (minl l) (minl u)) with
 | some ys=>ys.all (hasN seven)&&Nat.ble ys.length 100&&eqLs (ys.foldl stepI []) (minl (opI r l u))
 | none=>false)&&ups.any (eqLs (opI r l u))
theorem chk_all:(ups.all λl=>ups.all λu=>[1,2,3].all λr=>chk l u r)=true:=by decide +kernel
theorem atom_all:((List.range 8).all λk=>eqLs (atomI k) (minl (atomU k))&&ups.any (eqLs (atomU k)))=true:=by decide +kernel
theorem low_all:(ups.all λu=>(minl u).all (hasN seven)&&Nat.ble (minl u).length 7&&Nat.ble u.length 7&&u.all (hasN seven)&&seven.all λk=>((minl u).any (up · k)) == hasN u k)=true:=by decide +kernel
section
variable {c:D->List D->Option D}{n:Nat}{ρ ρ':Rho}{x y:Tx}{d d' fv v:D}{e f e1 e2 e3:ME}{es:List ME}{xs ds:List D}{b b1 b2:Bool}
theorem evt_comp {el:ME}{gs:List (Tx×ME×List ME)}{fr:List Tx}(h:ev c G n ρ (.comp el gs fr)=some d):evt c G (n+1) ρ (.comp el gs fr)=some d:=h
theorem tvl1 {g:ME->Option Bool}(h:g e=some b):tvl g [e]=some b:=by
 unfold tvl
 rw [h]
 clear h tvl1
 cases b<;>rfl
theorem tv_and2 (h1:tv c G n ρ e1=some b1)(h2:tv c G n ρ e2=some b2):tv c G (n+1) ρ (.and [e1,e2])=some (b1&&b2):=by
 show tvl (tv c G n ρ) [e1,e2]=_
 unfold tvl
 rw [h1]
 clear h1 tv_and2
 cases b1 with
 | true=>exact tvl1 h2
 | false=>rfl
theorem tv_orr (h1:tv c G n ρ e1=some b1)(h2:tv c G n ρ e2=some b2):tv c G (n+1) ρ (.or [e1,e2])=some (b1||b2) :=
 tv_or2 h1 (λhb=>by rw [h2,hb];rfl) (λhb=>by rw [hb];rfl)
theorem ev_tup3 {d1 d2 d3:D}(h1:ev c G n ρ e1=some d1)(h2:ev c G n ρ e2=some d2)(h3:ev c G n ρ e3=some d3):ev c G (n+1) ρ (.tup [e1,e2,e3])=some (.tup [d1,d2,d3]):=by
 show (if Nat.ble [e1,e2,e3].length lim=true then (evl (ev c G n ρ) [e1,e2,e3]).map D.tup else none)=_
 rw [if_pos (by rfl),evl_cons h1 (evl_cons h2 (evl_cons h3 rfl))]
 rfl
theorem ex_popTo {z:D}{ys:List D}(hne:eqT y x=false)(h1:getR ρ x=some (.mut (ys++[z]))):ex c G (n+1) ρ (.popTo y x)=some (setR (setR ρ x (.mut ys)) y (.d z),.next):=by
 show (if eqT y x=true then none else (mutR ρ x).bind λxs=>xs.getLast?.bind λd=>some (setR (setR ρ x (.mut xs.dropLast)) y (.d d),Fl.next))=_
 rw [if_neg (by rw [hne];exact Bool.false_ne_true),mutR_of h1]
 show ((ys++[z]).getLast?.bind λd=>some (setR (setR ρ x (.mut (ys++[z]).dropLast)) y (.d d),Fl.next))=_
 rw [List.getLast?_append,List.dropLast_concat]
 rfl
end
noncomputable abbrev I7 (n:Nat):D:=.int (n:Int)
noncomputable def UD (u:List Nat):D:=.list (u.map I7)
theorem nat_beq (a b:Nat):decide ((a:Int)=(b:Int))=Nat.beq a b:=by
 rw [Bool.eq_iff_iff,decide_eq_true_eq,Nat.beq_eq]
 exact Int.ofNat_inj
theorem inD_has (n:Nat):∀ (u:List Nat),inD (I7 n) (u.map I7)=some (hasN u n)
 | []=>rfl
 | a::u=>by
  show ((inD (I7 n) (u.map I7)).bind λq=>some (decide ((n:Int)=(a:Int))||q))=_
  rw [inD_has n u]
  show some (decide ((n:Int)=(a:Int))||hasN u n)=_
  rw [nat_beq]
  rfl
theorem fdiv_nat (a b:Nat)(hb:0 < b):Int.fdiv (a:Int) (b:Int)=((a / b:Nat):Int):=by
 rw [Int.fdiv_eq_ediv_of_nonneg _ (Int.natCast_nonneg _)]
 rfl
theorem inD_up (k n:Nat):inD (I7 k) [I7 n,I7 (n / 2),I7 (n / 4)]=some (up k n):=by
 show some (decide ((k:Int)=(n:Int))||(decide ((k:Int)=((n / 2:Nat):Int))||(decide ((k:Int)=((n / 4:Nat):Int))||false)))=_
 rw [nat_beq,nat_beq,nat_beq,Bool.or_false]
 rfl
theorem eq_nil (xs:List D):eqD (.list xs) (.list [])=some xs.isEmpty:=by
 cases xs<;>rfl
noncomputable abbrev tN:Tx:=tS "n"
noncomputable abbrev tE:Tx:=tS "e"
noncomputable abbrev tBrk:Tx:=tS "broken"
noncomputable abbrev tDeeds:Tx:=tS "deeds"
noncomputable abbrev meRng:ME:=.call (.glo (tS "range")) [.int (.ofNat 1),.int (.ofNat 8)]
noncomputable abbrev meTup (x:Tx):ME:=.tup [.loc x,.bin 2 (.loc x) (.int (.ofNat 2)),.bin 2 (.loc x) (.int (.ofNat 4))]
noncomputable abbrev meSel (cnd:ME)(fr:List Tx):ME:=.comp (.loc tN) [(tN,(meRng,[cnd]))] fr
noncomputable abbrev cAtom:ME:=.and [.cmp 1 (.loc tKk) (.int (.ofNat 0)),.cmp 6 (.loc tKk) (meTup tN)]
noncomputable abbrev cUni:ME:=.or [.cmp 6 (.loc tN) (.loc tLow),.cmp 6 (.loc tN) (.loc tUpp)]
noncomputable abbrev cInt:ME:=.and [.cmp 6 (.loc tN) (.loc tLow),.cmp 6 (.loc tN) (.loc tUpp)]
noncomputable abbrev meHit:ME:=.comp (.loc tE) [(tE,(.loc tBrk,[.cmp 6 (.loc tN) (meTup tE)]))] [tN]
noncomputable abbrev cImp:ME:=.cmp 0 meHit (.lst [])
noncomputable abbrev meBrk:ME:=.comp (.loc tN) [(tN,(.loc tLow,[.cmp 7 (.loc tN) (.loc tUpp)]))] [tUpp]
noncomputable abbrev meaB:List MS:=[.iff meNew [.asg tKk meK,.app tPil (meSel cAtom [tKk]),.cont] [],.popTo tUpp tPil,.popTo tLow tPil,
 .iff (.cmp 0 meMod (.int (.ofNat 1))) [.app tPil (meSel cUni [tLow,tUpp])] [.iff (.cmp 0 meMod (.int (.ofNat 2))) [.app tPil (meSel cInt [tLow,tUpp])] [.asg tBrk meBrk,.app tPil (meSel cImp [tBrk])]]]
noncomputable def mMea:MF:=.mk [tDeeds] .none .none [.asg tPil (.lst []),.loop tX (.loc tDeeds) meaB,.ret (.loc tPil)]
theorem fns_mea:fns 255=some mMea:=by kernel_rfl
section
variable {c:D->List D->Option D}{n:Nat}{ρ:Rho}
theorem G_range:G (tS "range")=some (.ty 3):=by kernel_rfl
theorem rng_items:itemsD (.rng 1 8)=some (seven.map I7):=by kernel_rfl
theorem ev_rng:ev c G (n+2) ρ meRng=some (.rng 1 8):=ev_call2 (n:=n+1) (fv:=.ty 3) G_range (evl_cons (d:=.int 1) rfl (evl_cons (d:=.int 8) rfl rfl)) (by kernel_rfl)
theorem ev_tupN {x:Tx}{k:Nat}(h:getR ρ x=some (.d (I7 k))):ev c G (n+3) ρ (meTup x)=some (.tup [I7 k,I7 (k / 2),I7 (k / 4)]) :=
 ev_tup3 (ev_loc (n:=n+1) h) (ev_bin (n:=n+1) (d':=I7 k) (fv:=.int 2) (ev_loc h) rfl (congrArg (λz=>some (D.int z)) (fdiv_nat k 2 (by decide)))) (ev_bin (n:=n+1) (d':=I7 k) (fv:=.int 4) (ev_loc h) rfl (congrArg (λz=>some (D.int z)) (fdiv_nat k 4 (by decide))))
theorem ev_sel {cnd:ME}{fr:List Tx}{p:Nat->Bool}(hfr:isN (getR (frees fr ρ) tN)=true)(h:∀ k∈seven,tv c G 38 (setR (frees fr ρ) tN (.d (I7 k))) cnd=some (p k)):ev c G 40 ρ (meSel cnd fr)=some (UD (seven.filter p)):=by
 refine ev_comp (n:=39) hfr (ev_rng (n:=37)) rng_items (flat_filter (a:=I7) (b:=I7) (p:=p) λk hk=>?_) ?_
 ·exact eg_last (n:=38) (tvl1 (h k hk)) λ_=>ev_loc (n:=37) (getR_set (by decide +kernel))
 ·rw [List.length_map]
  exact Nat.le_trans (List.length_filter_le ..) (by decide)
theorem tv_has {x:Tx}{u:List Nat}{k:Nat}(h1:getR ρ tN=some (.d (I7 k)))(h2:getR ρ x=some (.d (UD u))):tv c G (n+4) ρ (.cmp 6 (.loc tN) (.loc x))=some (hasN u k) :=
 tv_cmp (n:=n+1) (d':=I7 k) (fv:=UD u) (evt_loc (n:=n) h1) (ev_loc (n:=n) h2) (inD_has k u)
theorem ev_atomU {k:Nat}(h:getR ρ tKk=some (.d (I7 k))):ev c G 40 ρ (meSel cAtom [tKk])=some (UD (atomU k)):=by
 have hf:=frees1 h
 refine ev_sel (by rw [hf];rfl) λm _=>?_
 rw [hf]
 refine tv_and2 (n:=37) (tv_cmp (n:=34) (d':=I7 k) (fv:=.int 0) (evt_loc (n:=33) (by rfl)) rfl ?_) (tv_cmp (n:=34) (d':=I7 k) (fv:=.tup [I7 m,I7 (m / 2),I7 (m / 4)]) (evt_loc (n:=33) (by rfl)) (ev_tupN (n:=31) (by rfl)) (inD_up k m))
 show (some (decide ((k:Int)=((0:Nat):Int)))).map (!·)=_
 rw [nat_beq]
 rfl
theorem ev_uni {l u:List Nat}(h1:getR ρ tLow=some (.d (UD l)))(h2:getR ρ tUpp=some (.d (UD u))):ev c G 40 ρ (meSel cUni [tLow,tUpp])=some (UD (seven.filter λn=>hasN l n||hasN u n)):=by
 have hf:=frees2 h1 h2
 refine ev_sel (by rw [hf];rfl) λm _=>?_
 rw [hf]
 exact tv_orr (n:=37) (tv_has (n:=33) (by rfl) (by rfl)) (tv_has (n:=33) (by rfl) (by rfl))
theorem ev_int {l u:List Nat}(h1:getR ρ tLow=some (.d (UD l)))(h2:getR ρ tUpp=some (.d (UD u))):ev c G 40 ρ (meSel cInt [tLow,tUpp])=some (UD (seven.filter λn=>hasN l n&&hasN u n)):=by
 have hf:=frees2 h1 h2
 refine ev_sel (by rw [hf];rfl) λm _=>?_
 rw [hf]
 exact tv_and2 (n:=37) (tv_has (n:=33) (by rfl) (by rfl)) (tv_has (n:=33) (by rfl) (by rfl))
theorem ev_brk {l u:List Nat}(hz:l.length<=lim)(h1:getR ρ tLow=some (.d (UD l)))(h2:getR ρ tUpp=some (.d (UD u))):ev c G 40 ρ meBrk=some (UD (broke l u)):=by
 have hf:=frees1 h2
 refine ev_comp (n:=39) (by rw [hf];rfl) (ev_loc (n:=38) h1) rfl (flat_filter (a:=I7) (b:=I7) (p:=λk=>!hasN u k) λk hk=>?_) ?_
 ·rw [hf]
  refine eg_last (n:=38) (tvl1 (tv_cmp (n:=35) (d':=I7 k) (fv:=UD u) (evt_loc (n:=34) (by rfl)) (ev_loc (n:=34) (by rfl)) ?_)) λ_=>ev_loc (n:=37) (by rfl)
  show (inD (I7 k) (u.map I7)).map (!·)=_
  rw [inD_has]
  rfl
 ·rw [List.length_map]
  exact Nat.le_trans (List.length_filter_le ..) hz
theorem ev_imp {bs:List Nat}(hz:bs.length<=lim)(h:getR ρ tBrk=some (.d (UD bs))):ev c G 40 ρ (meSel cImp [tBrk])=some (UD (seven.filter λn=>(bs.filter λe=>up n e).isEmpty)):=by
 have hf:=frees1 h
 refine ev_sel (by rw [hf];rfl) λm _=>?_
 rw [hf]
 refine tv_cmp (n:=35) (d':=UD (bs.filter λe=>up m e)) (fv:=.list []) ?_ rfl ?_
 ·refine evt_comp (n:=34) ?_
  have hg:getR (setR [(tBrk,EV.d (UD bs))] tN (.d (I7 m))) tN=some (.d (I7 m)):=by rfl
  have hf2:=frees1 hg
  refine ev_comp (n:=33) (by rw [hf2];rfl) (ev_loc (n:=32) (d:=UD bs) (by rfl)) rfl (flat_filter (a:=I7) (b:=I7) (p:=λe=>up m e) λe he=>?_) ?_
  ·rw [hf2]
   exact eg_last (n:=32) (tvl1 (tv_cmp (n:=29) (d':=I7 m) (fv:=.tup [I7 e,I7 (e / 2),I7 (e / 4)]) (evt_loc (n:=28) (by rfl)) (ev_tupN (n:=26) (by rfl)) (inD_up m e))) λ_=>ev_loc (n:=31) (by rfl)
  ·rw [List.length_map]
   exact Nat.le_trans (List.length_filter_le ..) hz
 ·show eqD (.list _) (.list [])=_
  rw [eq_nil,List.isEmpty_map]
end
theorem eqLs_iff:∀ {a b:List Nat},eqLs a b=true->a=b
 | [],[],_=>rfl
 | [],_::_,h=>by exact nf h
 | _::_,[],h=>by exact nf h
 | a::r,b::q,h=>by
  unfold eqLs at h
  rw [Bool.and_eq_true,Nat.beq_eq] at h
  rw [h.1,eqLs_iff h.2]
theorem has_mem {u:List Nat}{n:Nat}(h:hasN u n=true):n∈u:=by
 refine xEA (List.any_eq_true.mp h) λk h1 h2=>?_
 rw [Nat.beq_eq] at h2
 rw [h2];exact h1
theorem ups_mem {u:List Nat}(h:ups.any (eqLs u)=true):u∈ups:=by
 refine xEA (List.any_eq_true.mp h) λk h1 h2=>?_
 rw [eqLs_iff h2];exact h1
theorem all_has {u v:List Nat}(h:u.all (hasN v)=true):∀ i∈u,i∈v:=λi hi=>has_mem (List.all_eq_true.mp h i hi)
structure Low (u:List Nat):Prop where
 m7:In7 (minl u)
 ml:(minl u).length<=7
 ul:u.length<=7
 an:∀ k∈seven,(minl u).any (up · k)=hasN u k
theorem low_of {u:List Nat}(h:u∈ups):Low u:=by
 have:=List.all_eq_true.mp low_all u h
 simp only [Bool.and_eq_true] at this
 obtain ⟨⟨⟨⟨h1,h2⟩,h3⟩,h4⟩,h5⟩:=this
 exact ⟨all_has h1,Nat.le_of_ble_eq_true h2,Nat.le_of_ble_eq_true h3,λk hk=>by have:=List.all_eq_true.mp h5 k hk;exact beq_iff_eq.mp this⟩
theorem one_four {r:Nat}(h0:r≠0)(h4:r < 4):r=1\/r=2\/r=3:=by
 match r,h0,h4 with
 | 0,h,_=>exact absurd rfl h
 | 1,_,_=>exact .inl rfl
 | 2,_,_=>exact .inr (.inl rfl)
 | 3,_,_=>exact .inr (.inr rfl)
 | n+4,_,h=>exact absurd h (Nat.not_lt.mpr (Nat.le_add_left _ _))
set_option tactic.hygienic true in
theorem opd_of {l u:List Nat}(hl:l∈ups)(hu:u∈ups){r:Nat}(hr:r=1\/r=2\/r=3):∃ ys,sortI (madeI r (minl l) (minl u))=some ys/\In7 ys/\ys.length<=100/\ys.foldl stepI []=minl (opI r l u)/\opI r l u∈ups:=by
 have h:=List.all_eq_true.mp (List.all_eq_true.mp (List.all_eq_true.mp chk_all l hl) u hu) r (by rcases hr with rfl | rfl | rfl<;>simp)
 unfold chk at h
 rw [Bool.and_eq_true] at h
 obtain ⟨h1,h2⟩:=h
 split at h1
 ·rename_i ys hy
  simp only [Bool.and_eq_true] at h1
  obtain ⟨⟨g1,g2⟩,g3⟩:=h1
  exact ⟨ys,hy,all_has g1,Nat.le_of_ble_eq_true g2,eqLs_iff g3,ups_mem h2⟩
 ·exact nf h1
theorem atom_of {k:Nat}(hk:k < 8):atomI k=minl (atomU k)/\atomU k∈ups:=by
 have:=List.all_eq_true.mp atom_all k (List.mem_range.mpr hk)
 rw [Bool.and_eq_true] at this
 exact ⟨eqLs_iff this.1,ups_mem this.2⟩
noncomputable def Ups (hs:List (List Nat)):Prop:=∀ u∈hs,u∈ups
noncomputable def stepU (hs:List (List Nat))(x:Int):List (List Nat):=if hs.length < 2\/Int.fmod x 4=0 then hs++[atomU (kOf x)] else match hs.reverse with
 | u::l::r=>r.reverse++[opI (Int.fmod x 4).toNat l u]
 | _=>hs
theorem two_top {α:Type}{hs:List α}(h:¬ hs.length < 2):∃ pre l u,hs=pre++[l,u]:=by
 rcases hs.eq_nil_or_concat with rfl | ⟨p1,u,rfl⟩
 ·exact absurd (by simp) h
 ·rcases p1.eq_nil_or_concat with rfl | ⟨p2,l,rfl⟩
  ·exact absurd (by simp) h
  ·exact ⟨p2,l,u,by simp⟩
theorem stepU_two {pre:List (List Nat)}{l u:List Nat}{x:Int}(h0:Int.fmod x 4≠0):stepU (pre++[l,u]) x=pre++[opI (Int.fmod x 4).toNat l u]:=by
 unfold stepU
 rw [if_neg (by rw [not_or];exact ⟨by simp,h0⟩)]
 simp
theorem stepU_ok {hs:List (List Nat)}(h:Ups hs)(x:Int):Ups (stepU hs x)/\(stepU hs x).length<=hs.length+1:=by
 by_cases hc:hs.length < 2\/Int.fmod x 4=0
 ·unfold stepU
  rw [if_pos hc]
  refine ⟨λu hu=>?_,by simp⟩
  rcases List.mem_append.mp hu with z | z
  ·exact h u z
  ·rw [List.mem_singleton] at z;rw [z];exact (atom_of (kOf_eq x).2).2
 ·rw [not_or] at hc
  obtain ⟨pre,l,u,rfl⟩:=two_top hc.1
  rw [stepU_two hc.2]
  refine xEA (mod_eq x) λr hr hr4=>?_
  have e:(Int.fmod x 4).toNat=r:=by rw [hr];rfl
  rw [e]
  obtain ⟨ys,_,_,_,_,h5⟩:=opd_of (h l (by simp)) (h u (by simp)) (r:=r) (one_four (λz=>hc.2 (by rw [hr,z];rfl)) hr4)
  refine ⟨λv hv=>?_,by simp⟩
  rcases List.mem_append.mp hv with z | z
  ·exact h v (by simp [z])
  ·rw [List.mem_singleton] at z;rw [z];exact h5
theorem deed_step {n:Nat}{hs:List (List Nat)}(h:Ups hs)(hz:hs.length < 1000)(x:Int):cal (n+9) (.at 250) [LD (hs.map minl),.int x]=some (LD ((stepU hs x).map minl)):=by
 by_cases hc:hs.length < 2\/Int.fmod x 4=0
 ·have:=deed_new (n:=n+7) (x:=x) (ps:=hs.map minl) (by rw [List.length_map];exact hc) (by rw [List.length_map];have:lim=100000:=rfl;exact Nat.lt_trans hz (by rw [this];decide))
  rw [this]
  unfold stepU
  rw [if_pos hc,(atom_of (kOf_eq x).2).1,List.map_append]
  rfl
 ·rw [not_or] at hc
  obtain ⟨pre,l,u,rfl⟩:=two_top hc.1
  rw [stepU_two hc.2]
  refine xEA (mod_eq x) λr hr hr4=>?_
  have e:(Int.fmod x 4).toNat=r:=by rw [hr];rfl
  have hr0:r≠0:=λz=>hc.2 (by rw [hr,z];rfl)
  rw [e]
  obtain ⟨ys,h1,h2,h3,h4,h5⟩:=opd_of (h l (by simp)) (h u (by simp)) (r:=r) (one_four hr0 hr4)
  have ll:=low_of (h l (by simp))
  have lu:=low_of (h u (by simp))
  have hlim:lim=100000:=rfl
  have hmul:(minl l).length * (minl u).length<=7 * 7:=Nat.mul_le_mul ll.ml lu.ml
  have hml:=ll.ml
  have hmu:=lu.ml
  rw [List.map_append,List.map_append]
  rw [List.length_append] at hz
  have:=deed_two (n:=n) (x:=x) (r:=r) (ps:=pre.map minl) (lo:=minl l) (us:=minl u) (ys:=ys) ll.m7 lu.m7 (by rw [List.length_map];simp at hz;omega) (by omega) (by omega) hr hr0 h1 h2 (Nat.le_trans h3 (by rw [hlim];decide))
  rw [h4] at this
  exact this
theorem told_at {n:Nat}:∀ (xs:List Int) (hs:List (List Nat)),Ups hs->hs.length+xs.length < 1000->foldO (λv e=>cal (n+9) (.at 250) [v,e]) (LD (hs.map minl)) (xs.map D.int)=some (LD ((xs.foldl stepU hs).map minl))
 | [],hs,_,_=>rfl
 | x::xs,hs,h,hz=>by
  rw [List.length_cons] at hz
  show (match cal (n+9) (.at 250) [LD (hs.map minl),.int x] with
   | some v'=>foldO (λv e=>cal (n+9) (.at 250) [v,e]) v' (xs.map D.int)
   | none=>none)=_
  rw [deed_step h (Nat.lt_of_le_of_lt (Nat.le_add_right _ _) hz)]
  have:=stepU_ok h x
  exact told_at xs (stepU hs x) this.1 (Nat.lt_of_le_of_lt (Nat.add_le_add_right this.2 _) (by rw [Nat.add_assoc,Nat.add_comm 1];exact hz))
theorem fold_ok:∀ (xs:List Int) (hs:List (List Nat)),Ups hs->Ups (xs.foldl stepU hs)/\(xs.foldl stepU hs).length<=hs.length+xs.length
 | [],hs,h=>⟨h,Nat.le_refl _⟩
 | x::xs,hs,h=>by
  have a:=stepU_ok h x
  have b:=fold_ok xs (stepU hs x) a.1
  refine ⟨b.1,?_⟩
  have:=a.2
  have:=b.2
  rw [List.length_cons]
  show (xs.foldl stepU (stepU hs x)).length<=_
  exact Nat.le_trans b.2 (Nat.le_trans (Nat.add_le_add_right a.2 _) (by rw [Nat.add_assoc,Nat.add_comm 1];exact Nat.le_refl _))
section
variable {c:D->List D->Option D}{ρ:Rho}
theorem mea_turn {hs:List (List Nat)}(h:Ups hs)(hz:hs.length < 1000)(x:Int)(hg:getR ρ tPil=some (.mut (hs.map UD))):∃ ρ',(exl (ex c G 39) (setR ρ tX (.d (.int x))) meaB=some (ρ',.next)\/exl (ex c G 39) (setR ρ tX (.d (.int x))) meaB=some (ρ',.cont))/\getR ρ' tPil=some (.mut ((stepU hs x).map UD)):=by
 have hlim:lim=100000:=rfl
 have g1:getR (setR ρ tX (.d (.int x))) tPil=some (.mut (hs.map UD)):=getR_other (by decide +kernel) hg
 have g2:getR (setR ρ tX (.d (.int x))) tX=some (.d (.int x)):=getR_set (by decide +kernel)
 generalize setR ρ tX (.d (.int x))=ρ1 at *
 have ht:=tv_new (c:=c) (xs:=hs.map UD) (λn=>evt_mut g1) g2
 rw [List.length_map] at ht
 by_cases hc:hs.length < 2\/Int.fmod x 4=0
 ·have g3:getR (setR ρ1 tKk (.d (I7 (kOf x)))) tKk=some (.d (I7 (kOf x))):=getR_set (by decide +kernel)
  have g4:getR (setR ρ1 tKk (.d (I7 (kOf x)))) tPil=some (.mut (hs.map UD)):=getR_other (by decide +kernel) g1
  refine ⟨setR (setR ρ1 tKk (.d (I7 (kOf x)))) tPil (.mut (hs.map UD++[UD (atomU (kOf x))])),.inr (exl_cont (ex_iff (n:=38) (t:=true) (ht.trans ?_) ?_)),?_⟩
  ·congr 1
   rw [Bool.or_eq_true,decide_eq_true_eq,decide_eq_true_eq]
   exact hc.imp (λh=>by exact Int.ofNat_lt.mpr h) id
  ·exact exl_next (ex_asg (n:=37) (ev_k (n:=37) g2)) (exl_next (ex_app (n:=37) g4 (ev_atomU g3) (by rw [List.length_map];exact Nat.lt_trans hz (by rw [hlim];decide))) rfl)
  ·rw [getR_set (by decide +kernel)]
   unfold stepU
   rw [if_pos hc,List.map_append]
   rfl
 ·have hc':=not_or.mp hc
  obtain ⟨pre,l,u,rfl⟩:=two_top hc'.1
  rw [stepU_two hc'.2]
  refine xEA (mod_eq x) λr hr hr4=>?_
  have e:(Int.fmod x 4).toNat=r:=by rw [hr];rfl
  have hr0:r≠0:=λz=>hc'.2 (by rw [hr,z];rfl)
  rw [e]
  have hp:(pre++[l,u]).map UD=(pre.map UD++[UD l])++[UD u]:=by simp
  rw [hp] at g1
  have ll:=low_of (h l (by simp))
  have hul:=ll.ul
  rw [List.length_append] at hz
  have p1:ex c G 39 ρ1 (.popTo tUpp tPil)=some (setR (setR ρ1 tPil (.mut (pre.map UD++[UD l]))) tUpp (.d (UD u)),.next):=ex_popTo (n:=38) (by decide +kernel) g1
  have q1:getR (setR (setR ρ1 tPil (.mut (pre.map UD++[UD l]))) tUpp (.d (UD u))) tPil=some (.mut (pre.map UD++[UD l])):=getR_other (by decide +kernel) (getR_set (by decide +kernel))
  have q2:getR (setR (setR ρ1 tPil (.mut (pre.map UD++[UD l]))) tUpp (.d (UD u))) tUpp=some (.d (UD u)):=getR_set (by decide +kernel)
  have q3:getR (setR (setR ρ1 tPil (.mut (pre.map UD++[UD l]))) tUpp (.d (UD u))) tX=some (.d (.int x)):=getR_other (by decide +kernel) (getR_other (by decide +kernel) g2)
  generalize setR (setR ρ1 tPil (.mut (pre.map UD++[UD l]))) tUpp (.d (UD u))=ρ2 at *
  have p2:ex c G 39 ρ2 (.popTo tLow tPil)=some (setR (setR ρ2 tPil (.mut (pre.map UD))) tLow (.d (UD l)),.next):=ex_popTo (n:=38) (by decide +kernel) q1
  have r1:getR (setR (setR ρ2 tPil (.mut (pre.map UD))) tLow (.d (UD l))) tPil=some (.mut (pre.map UD)):=getR_other (by decide +kernel) (getR_set (by decide +kernel))
  have r2:getR (setR (setR ρ2 tPil (.mut (pre.map UD))) tLow (.d (UD l))) tUpp=some (.d (UD u)):=getR_other (by decide +kernel) (getR_other (by decide +kernel) q2)
  have r3:getR (setR (setR ρ2 tPil (.mut (pre.map UD))) tLow (.d (UD l))) tX=some (.d (.int x)):=getR_other (by decide +kernel) (getR_other (by decide +kernel) q3)
  have r4:getR (setR (setR ρ2 tPil (.mut (pre.map UD))) tLow (.d (UD l))) tLow=some (.d (UD l)):=getR_set (by decide +kernel)
  generalize setR (setR ρ2 tPil (.mut (pre.map UD))) tLow (.d (UD l))=ρ3 at *
  have hz':(pre.map UD).length < lim:=by rw [List.length_map];omega
  have last:∃ ρ',ex c G 39 ρ3 (.iff (.cmp 0 meMod (.int (.ofNat 1))) [.app tPil (meSel cUni [tLow,tUpp])] [.iff (.cmp 0 meMod (.int (.ofNat 2))) [.app tPil (meSel cInt [tLow,tUpp])] [.asg tBrk meBrk,.app tPil (meSel cImp [tBrk])]])=some (ρ',.next)/\getR ρ' tPil=some (.mut (pre.map UD++[UD (opI r l u)])):=by
   have t1:=(tv_mod (c:=c) (n:=34) r3 1).trans (by rw [mod_ne hr]:some (decide (Int.fmod x 4=((1:Nat):Int)))=some (decide (r=1)))
   have t2:=(tv_mod (c:=c) (n:=34) r3 2).trans (by rw [mod_ne hr]:some (decide (Int.fmod x 4=((2:Nat):Int)))=some (decide (r=2)))
   unfold opI
   by_cases h1:r=1
   ·rw [if_pos h1]
    refine ⟨_,ex_iff (n:=38) t1 ?_,getR_set (x:=tPil) (ρ:=ρ3) (by decide +kernel)⟩
    rw [if_pos (by rw [decide_eq_true_eq];exact h1)]
    exact exl_next (ex_app (n:=37) r1 (ev_uni r4 r2) hz') rfl
   ·rw [if_neg h1]
    by_cases h2:r=2
    ·rw [if_pos h2]
     refine ⟨_,ex_iff (n:=38) t1 ?_,getR_set (x:=tPil) (ρ:=ρ3) (by decide +kernel)⟩
     rw [if_neg (by rw [decide_eq_true_eq];exact h1)]
     refine exl_next (ex_iff (n:=37) t2 ?_) rfl
     rw [if_pos (by rw [decide_eq_true_eq];exact h2)]
     exact exl_next (ex_app (n:=36) r1 (ev_int r4 r2) hz') rfl
    ·rw [if_neg h2]
     have s1:getR (setR ρ3 tBrk (.d (UD (broke l u)))) tBrk=some (.d (UD (broke l u))):=getR_set (by decide +kernel)
     have s2:getR (setR ρ3 tBrk (.d (UD (broke l u)))) tPil=some (.mut (pre.map UD)):=getR_other (by decide +kernel) r1
     refine ⟨_,ex_iff (n:=38) t1 ?_,getR_set (x:=tPil) (ρ:=setR ρ3 tBrk (.d (UD (broke l u)))) (by decide +kernel)⟩
     rw [if_neg (by rw [decide_eq_true_eq];exact h1)]
     refine exl_next (ex_iff (n:=37) t2 ?_) rfl
     rw [if_neg (by rw [decide_eq_true_eq];exact h2)]
     have hb:(broke l u).length<=lim:=Nat.le_trans (List.length_filter_le ..) (by omega)
     exact exl_next (ex_asg (n:=36) (ev_brk (by omega) r4 r2)) (exl_next (ex_app (n:=36) s2 (ev_imp hb s1) hz') rfl)
  refine xEA last λρ' l1 l2=>?_
  try clear last
  refine ⟨ρ',.inl (exl_next (ex_iff (n:=38) (t:=false) (ht.trans ?_) rfl) (exl_next p1 (exl_next p2 (exl_next l1 rfl)))),?_⟩
  ·congr 1
   rw [Bool.or_eq_false_iff,decide_eq_false_iff_not,decide_eq_false_iff_not]
   refine ⟨λh=>hc'.1 (by omega),hc'.2⟩
  ·rw [l2]
   simp
theorem mea_loop:∀ (xs:List Int) (hs:List (List Nat)) (ρ:Rho),Ups hs->hs.length+xs.length < 1000->getR ρ tPil=some (.mut (hs.map UD)) ->
  ∃ ρ',loopD (λρ d=>exl (ex c G 39) (setR ρ tX (.d d)) meaB) ρ (xs.map D.int)=some (ρ',.next)/\getR ρ' tPil=some (.mut ((xs.foldl stepU hs).map UD))
 | [],hs,ρ,_,_,hg=>⟨ρ,rfl,hg⟩
 | x::xs,hs,ρ,h,hz,hg=>by
  rw [List.length_cons] at hz
  refine xEA (mea_turn (c:=c) h (Nat.lt_of_le_of_lt (Nat.le_add_right _ _) hz) x hg) λρ1 q1 q2=>?_
  have:=stepU_ok h x
  obtain ⟨ρ',q3,q4⟩:=mea_loop xs (stepU hs x) ρ1 this.1 (Nat.lt_of_le_of_lt (Nat.add_le_add_right this.2 _) (by rw [Nat.add_assoc,Nat.add_comm 1];exact hz)) q2
  exact ⟨ρ',loopD_cons q1 q3,q4⟩
end
theorem meant_at {n:Nat}{xs:List Int}(hz:xs.length < 1000):cal (n+1) (.at 255) [.list (xs.map D.int)]=some (.list ((xs.foldl stepU []).map UD)):=by
 refine xEA (mea_loop (c:=cal n) xs [] [(tPil,.mut []),(tDeeds,.d (.list (xs.map D.int)))] (λ_ h=>nomatch h) (by simpa using hz) (by rfl)) λρ' q1 q2=>?_
 refine cal_ret (n:=n) (ρ:=[(tDeeds,.d (.list (xs.map D.int)))]) (ρ':=setR ρ' tPil (.d (.list ((xs.foldl stepU []).map UD)))) fns_mea (by rfl) ?_
 refine exl_next (ρ':=[(tPil,.mut []),(tDeeds,.d (.list (xs.map D.int)))]) (by rfl) ?_
 exact exl_next (ρ':=ρ') (ex_loopl (n:=39) (d:=.list (xs.map D.int)) (by rfl) rfl q1) (exl_ret (ex_retm (n:=39) q2))
noncomputable def base (i:Nat):Tx:=if i=1 then tS "t" else if i % 2=0 then tS "a" else tS "ab"
noncomputable def long (i:Nat):Tx:=pl i++(tS "/../" ++ (base i++tS "/"))
theorem base_all (n:Nat):seven.map (λi=>cal (n+2) (.at 207) [.str (pl i)])=seven.map λi=>some (.str (base i)):=by kernel_rfl
theorem join4_all (n:Nat):seven.map (λi=>cal (n+2) (.at 200) [.str (pl i),.str (tS ".."),.str (base i),.str []])=seven.map λi=>some (.str (long i)):=by kernel_rfl
theorem long_all (n:Nat):seven.map (λi=>cal (n+4) (.at 136) [.str (long i)])=seven.map λi=>some (.str (pl i)):=by kernel_rfl
theorem idx_all:seven.map (λi:Nat=>idxD (.list (PD seven)) (.int ((i:Int) - 1)))=seven.map λi=>some (.str (pl i)):=by kernel_rfl
noncomputable def bools:Nat->List (List Bool)
 | 0=>[[]]
 | n+1=>(bools n).map (true::·)++(bools n).map (false::·)
theorem bools_mem:∀ (l:List Bool),l∈bools l.length
 | []=>.head _
 | true::l=>List.mem_append.mpr (.inl (List.mem_map.mpr ⟨l,bools_mem l,rfl⟩))
 | false::l=>List.mem_append.mpr (.inr (List.mem_map.mpr ⟨l,bools_mem l,rfl⟩))
noncomputable def bitD (b:Bool):D:=.int (if b then 1 else 0)
theorem rep_all:((bools 7).all λl=>(repB (l.map bitD)).isSome)=true:=by decide +kernel
noncomputable abbrev tScr:Tx:=tS "script"
noncomputable abbrev tMnt:Tx:=tS "meant"
noncomputable abbrev tTold:Tx:=tS "told"
noncomputable abbrev tPls:Tx:=tS "places"
noncomputable abbrev tHeld:Tx:=tS "held"
noncomputable abbrev tRows:Tx:=tS "rows"
noncomputable abbrev tRow:Tx:=tS "row"
noncomputable abbrev tAns:Tx:=tS "answers"
noncomputable abbrev tAgn:Tx:=tS "again"
noncomputable abbrev tBits:Tx:=tS "bits"
noncomputable abbrev meMinl:ME:=.comp (.idx (.loc tPls) (.bin 1 (.loc tN) (.int (.ofNat 1)))) [(tN,(.loc tHeld,[.cmp 7 (.bin 2 (.loc tN) (.int (.ofNat 2))) (.loc tHeld)]))] [tHeld,tPls]
noncomputable abbrev meAll:ME:=.comp meMinl [(tHeld,(.loc tMnt,[]))] [tPls]
noncomputable abbrev lamR:ME:=.bin 0 (.loc tRow) (.loc tOne)
noncomputable abbrev meLong:ME:=.comp (.call (.glo (tS "join")) [.loc tDd,.str (tS ".."),.call (.glo (tS "basename")) [.loc tDd],.str (tS "")]) [(tDd,(.loc tRows,[]))] []
noncomputable abbrev meAns1:ME:=.comp (.meth (.loc tRdr) (tS "names") [.call (.glo (tS "join")) [.loc tPlc,.str (tS "f")],.loc tPlc]) [(tPlc,(.loc tPls,[]))] [tRdr]
noncomputable abbrev meAns2:ME:=.comp (.meth (.loc tRdr) (tS "names") [.none,.loc tPlc]) [(tPlc,(.loc tPls,[]))] [tRdr]
noncomputable abbrev meHld:ME:=.comp (.loc tHeld) [(tHeld,(.loc tMnt,[.cmp 6 (.loc tN) (.loc tHeld)]))] [tN]
noncomputable abbrev meBits:ME:=.comp (.ite (.cmp 1 meHld (.lst [])) (.int (.ofNat 1)) (.int (.ofNat 0))) [(tN,(meRng,[]))] [tMnt]
noncomputable def pc1:List MS:=[.asg tDeeds (.bin 0 (.lst [.int (.ofNat 8),.int (.ofNat 28),.int (.ofNat 1),.int (.ofNat 21),.int (.ofNat 3)]) (.sli (.loc tScr) .none (.some (.int (.ofNat 10))))),
 .asg tMnt (.call (.glo (tS "_law_meant")) [.loc tDeeds]),.asg tTold (.call (.glo (tS "reduce")) [.glo (tS "_law_deed"),.loc tDeeds,.lst []]),.asg tPls (.call (.glo (tS "_law_places")) []),
 .iff (.cmp 1 (.loc tTold) meAll) [.ret (.bool .false)] [],.asg tRows (.call (.glo (tS "reduce")) [.lam [tRow,tOne] lamR,.loc tTold,.lst []]),.asg tRdr (.call (.glo (tS "_Ignore")) [.none,meLong])]
noncomputable def pc2:List MS:=[.asg tAns meAns1]
noncomputable def pc3:List MS:=[.asg tAgn meAns2,.asg tBits meBits]
noncomputable abbrev meS1:ME:=.cmp 0 (.call (.glo (tS "str")) [.loc tAns]) (.call (.glo (tS "str")) [.loc tBits])
noncomputable abbrev meS2:ME:=.cmp 0 (.call (.glo (tS "str")) [.loc tAgn]) (.call (.glo (tS "str")) [.loc tBits])
noncomputable def deedsI (ns:List Int):List Int:=[8,28,1,21,3]++ns.take 10
noncomputable def heldI (ns:List Int):List (List Nat):=(deedsI ns).foldl stepU []
noncomputable def rowsI (ns:List Int):List Nat:=(heldI ns).flatMap minl
theorem deeds_len (ns:List Int):(deedsI ns).length<=15:=by
 unfold deedsI
 rw [List.length_append,List.length_take]
 show 5+min 10 ns.length<=15
 exact Nat.add_le_add_left (Nat.min_le_left _ _) 5
theorem held_ok (ns:List Int):Ups (heldI ns)/\(heldI ns).length<=15:=by
 have:=fold_ok (deedsI ns) [] (λ_ h=>nomatch h)
 have h2:=deeds_len ns
 refine ⟨this.1,?_⟩
 have:=this.2
 simp at this
 unfold heldI
 omega
theorem rows_of:∀ {hs:List (List Nat)},Ups hs->In7 (hs.flatMap minl)/\(hs.flatMap minl).length<=7 * hs.length
 | [],_=>⟨λ_ h=>(nomatch h),Nat.le_refl _⟩
 | u::hs,h=>by
  have l:=low_of (h u (.head _))
  obtain ⟨g1,g2⟩:=rows_of (hs:=hs) λv hv=>h v (.tail _ hv)
  have:=l.ml
  rw [List.flatMap_cons]
  refine ⟨λi hi=>?_,by rw [List.length_append,List.length_cons];omega⟩
  rcases List.mem_append.mp hi with z | z
  ·exact l.m7 i z
  ·exact g1 i z
theorem in7_lt {k:Nat}(h:k∈seven):k < 8:=(show ∀ k∈seven,k < 8 by decide) k h
theorem ups_in7 {u:List Nat}(h:u∈ups):In7 u:=by
 have:=List.all_eq_true.mp low_all u h
 simp only [Bool.and_eq_true] at this
 exact all_has this.1.2
section
variable {c:D->List D->Option D}{n:Nat}{ρ:Rho}
theorem evt_bin {o:Nat}{e1 e2:ME}{d:D}(h:ev c G n ρ (.bin o e1 e2)=some d):evt c G (n+1) ρ (.bin o e1 e2)=some d:=h
theorem ev_minl {u:List Nat}(h:u∈ups)(h1:getR ρ tHeld=some (.d (UD u)))(h2:getR ρ tPls=some (.d (.list (PD seven)))):ev c G 35 ρ meMinl=some (.list (PD (minl u))):=by
 have hf:=frees2 h1 h2
 have hul:=(low_of h).ul
 have e:∀ v:List Nat,PD v=v.map λk=>D.str (pl k):=λ_=>rfl
 have hlim:lim=100000:=rfl
 rw [e]
 refine ev_comp (n:=34) (by rw [hf];rfl) (ev_loc (n:=33) h1) rfl (flat_filter (a:=I7) (b:=λk=>D.str (pl k)) (p:=λk=>!hasN u (k / 2)) λk hk=>?_) ?_
 ·rw [hf]
  have hk7:=ups_in7 h k hk
  refine eg_last (n:=33) (tvl1 (tv_cmp (n:=30) (d':=I7 (k / 2)) (fv:=UD u) ?_ (ev_loc (n:=29) (by rfl)) ?_)) λ_=>?_
  ·refine evt_bin (n:=29) (ev_bin (n:=28) (d':=I7 k) (fv:=.int 2) (ev_loc (n:=27) (by rfl)) rfl (congrArg (λz=>some (D.int z)) (fdiv_nat k 2 (by decide))))
  ·show (inD (I7 (k / 2)) (u.map I7)).map (!·)=_
   rw [inD_has]
   rfl
  ·exact evi_idx (n:=32) (d':=.list (PD seven)) (fv:=.int ((k:Int) - 1)) (evt_loc (n:=31) (by rfl)) (ev_bin (n:=31) (d':=I7 k) (fv:=.int 1) (ev_loc (n:=30) (by rfl)) rfl (binsub (small8 (in7_lt hk7)))) (map_at (x:=k) (f:=λi:Nat=>idxD (.list (PD seven)) (.int ((i:Int) - 1))) (g:=λi=>some (.str (pl i))) idx_all hk7)
 ·rw [List.length_map]
  exact Nat.le_trans (List.length_filter_le ..) (Nat.le_trans hul (show 7<=lim from by decide))
theorem ev_all {hs:List (List Nat)}(h:Ups hs)(hz:hs.length<=lim)(h1:getR ρ tMnt=some (.d (.list (hs.map UD))))(h2:getR ρ tPls=some (.d (.list (PD seven)))):ev c G 37 ρ meAll=some (LD (hs.map minl)):=by
 have hf:=frees1 h2
 have e:LD (hs.map minl)=.list (hs.map λu=>.list (PD (minl u))):=by unfold LD;rw [List.map_map];rfl
 rw [e]
 refine ev_comp (n:=36) (by rw [hf];rfl) (ev_loc (n:=35) h1) rfl (flat_map (a:=UD) (b:=λu=>.list (PD (minl u))) λu hu=>?_) (by rw [List.length_map];exact hz)
 rw [hf]
 exact eg_last (n:=35) (b:=true) rfl λ_=>ev_minl (h u hu) (by rfl) (by rfl)
theorem eqL_PD (is:List Nat):eqL eq0 (PD is) (PD is)=some true:=by
 induction is with
 | nil=>rfl
 | cons i is ih =>
  show (match some (eqT (pl i) (pl i)) with
   | some x=>(eqL eq0 (PD is) (PD is)).map (x&&·)
   | none=>none)=_
  rw [ih,eqT_refl]
  rfl
theorem eqD_LD (ps:List (List Nat)):eqD (LD ps) (LD ps)=some true:=by
 show eqL eq1 (ps.map λis=>.list (PD is)) (ps.map λis=>.list (PD is))=_
 induction ps with
 | nil=>rfl
 | cons p ps ih =>
  show (match eqL eq0 (PD p) (PD p) with
   | some x=>(eqL eq1 (ps.map λis=>.list (PD is)) (ps.map λis=>.list (PD is))).map (x&&·)
   | none=>none)=_
  rw [eqL_PD,ih]
  rfl
theorem lamr_at {a b:List Nat}(hz:a.length+b.length<=lim):cal (n+1) (.lam [tRow,tOne] lamR) [.list (PD a),.list (PD b)]=some (.list (PD (a++b))):=by
 refine cal_lam (n:=n) (ρ:=[(tOne,.d (.list (PD b))),(tRow,.d (.list (PD a)))]) (by rfl) (ev_bin (n:=39) (ev_loc (n:=38) (by rfl)) (ev_loc (n:=38) (by rfl)) ?_)
 show (if Nat.ble ((PD a).length+(PD b).length) lim=true then some (D.list (PD a++PD b)) else none)=_
 rw [if_pos (Nat.ble_eq_true_of_le (by rw [PD_len,PD_len];exact hz)),PD_app]
theorem fold_rows:∀ (ps:List (List Nat)) (acc:List Nat),acc.length+(ps.flatMap id).length<=lim->foldO (λv e=>cal (n+1) (.lam [tRow,tOne] lamR) [v,e]) (.list (PD acc)) (ps.map λis=>.list (PD is))=some (.list (PD (acc++ps.flatMap id)))
 | [],acc,_=>by rw [List.flatMap_nil,List.append_nil];rfl
 | p::ps,acc,hz=>by
  rw [List.flatMap_cons,List.length_append] at hz
  have hz:acc.length+(p.length+(ps.flatMap id).length)<=lim:=hz
  show (match cal (n+1) (.lam [tRow,tOne] lamR) [.list (PD acc),.list (PD p)] with
   | some v'=>foldO (λv e=>cal (n+1) (.lam [tRow,tOne] lamR) [v,e]) v' (ps.map λis=>.list (PD is))
   | none=>none)=_
  rw [lamr_at (Nat.le_trans (Nat.add_le_add_left (Nat.le_add_right _ _) _) hz)]
  have:=fold_rows ps (acc++p) (by rw [List.length_append];(rw [Nat.add_assoc];exact hz))
  rw [List.flatMap_cons,← List.append_assoc]
  exact this
end
theorem cut10 (xs:List D):cut xs none (some 10)=xs.take 10:=by
 show (xs.take (bnd xs.length 10)).drop 0=_
 rw [List.drop_zero]
 show xs.take (if Nat.blt 10 xs.length then 10 else xs.length)=_
 split
 ·rfl
 ·rename_i h
  rw [Nat.blt_eq] at h
  rw [List.take_of_length_le (Nat.le_refl _),List.take_of_length_le (Nat.le_of_not_lt h)]
theorem G_meant:G (tS "_law_meant")=some (.at 255):=by kernel_rfl
theorem G_deed:G (tS "_law_deed")=some (.at 250):=by kernel_rfl
theorem G_base:G (tS "basename")=some (.at 207):=by kernel_rfl
section
variable {n:Nat}{ρ:Rho}
theorem mapD_long:∀ {is:List Nat},In7 is->mapD (λd=>cal (n+4) (.at 136) [d]) (is.map λi=>D.str (long i))=some (PD is)
 | [],_=>rfl
 | i::is,h=>by
  show (match cal (n+4) (.at 136) [.str (long i)] with
   | some x=>(mapD (λd=>cal (n+4) (.at 136) [d]) (is.map λi=>D.str (long i))).map (x::·)
   | none=>none)=_
  rw [show cal (n+4) (.at 136) [.str (long i)]=some (.str (pl i)) from map_at (f:=λi=>cal (n+4) (.at 136) [.str (long i)]) (g:=λi=>some (.str (pl i))) (long_all n) h.cons.1,mapD_long h.cons.2]
  rfl
theorem ignore_long {ks:List Nat}(h:In7 ks):cal (n+5) (.at 159) [.none,.list (ks.map λi=>D.str (long i))]=some (.rd (ks.map pl) []) :=
 cal_own (own_of (mapD_long h) (strs_PD ks) (pl_short h))
theorem ev_long {is:List Nat}(h:In7 is)(hz:is.length<=lim)(h1:getR ρ tRows=some (.d (.list (PD is)))):ev (cal (n+2)) G 39 ρ meLong=some (.list (is.map λi=>D.str (long i))):=by
 refine ev_comp (n:=38) (by rfl) (ev_loc (n:=37) h1) rfl (flat_map (a:=λi=>D.str (pl i)) (b:=λi=>D.str (long i)) λi hi=>?_) (by rw [List.length_map];exact hz)
 have hb:cal (n+2) (.at 207) [.str (pl i)]=some (.str (base i)):=map_at (f:=λi=>cal (n+2) (.at 207) [.str (pl i)]) (g:=λi=>some (.str (base i))) (base_all n) (h i hi)
 have hj:cal (n+2) (.at 200) [.str (pl i),.str (tS ".."),.str (base i),.str []]=some (.str (long i)):=map_at (f:=λi=>cal (n+2) (.at 200) [.str (pl i),.str (tS ".."),.str (base i),.str []]) (g:=λi=>some (.str (long i))) (join4_all n) (h i hi)
 exact eg_last (n:=37) (b:=true) rfl λ_=>ev_call2 (n:=36) (fv:=.at 200) G_join (evl_cons (ev_loc (n:=35) (d:=.str (pl i)) (by rfl)) (evl_cons (d:=.str (tS "..")) (by rfl) (evl_cons (ev_call1 (n:=35) G_base (ev_loc (n:=34) (d:=.str (pl i)) (by rfl)) hb) (evl_cons (d:=.str []) (by rfl) rfl)))) hj
theorem bin_lists {xs ys:List D}(h:xs.length+ys.length<=lim):binD 0 (.list xs) (.list ys)=some (.list (xs++ys)):=by
 show (if Nat.ble (xs.length+ys.length) lim=true then some (D.list (xs++ys)) else none)=_
 rw [if_pos (Nat.ble_eq_true_of_le h)]
theorem rows_fold {hs:List (List Nat)}:(hs.map minl).flatMap id=hs.flatMap minl:=by
 rw [List.flatMap_map]
 rfl
theorem appD_at {c:D->List D->Option D}{a:Nat}{as:List D}:appD c (.at a) as=c (.at a) as:=rfl
theorem told_fold (ns:List Int):foldO (λv e=>cal (n+9) (.at 250) [v,e]) (.list []) ((deedsI ns).map D.int)=some (LD ((heldI ns).map minl)):=by
 have hdl:=deeds_len ns
 unfold heldI
 generalize deedsI ns=xs at *
 exact told_at (n:=n) xs [] (λ_ h=>nomatch h) (by show 0+xs.length < 1000;exact Nat.lt_of_le_of_lt (Nat.le_trans (Nat.le_of_eq (Nat.zero_add _)) hdl) (by decide))
theorem told_red (ns:List Int):cal (n+10) (.at 179) [.at 250,.list ((deedsI ns).map D.int),.list []]=some (LD ((heldI ns).map minl)):=by
 have h:=told_fold (n:=n) ns
 generalize heldI ns=hs at *
 generalize deedsI ns=xs at *
 exact reduce_at (n:=n+9) (f:=.at 250) (λ_=>rfl) h
theorem meant_red (ns:List Int):cal (n+10) (.at 255) [.list ((deedsI ns).map D.int)]=some (.list ((heldI ns).map UD)):=by
 have hdl:=deeds_len ns
 unfold heldI
 generalize deedsI ns=xs at *
 exact meant_at (n:=n+9) (Nat.lt_of_le_of_lt hdl (by decide))
theorem piece1 (ns:List Int):∃ ρ1,exl (ex (cal (n+10)) G 40) [(tScr,.d (.list (ns.map D.int)))] pc1=some (ρ1,.next)/\getR ρ1 tRdr=some (.d (.rd ((rowsI ns).map pl) []))/\getR ρ1 tPls=some (.d (.list (PD seven)))/\getR ρ1 tMnt=some (.d (.list ((heldI ns).map UD))):=by
 have hlim:lim=100000:=rfl
 have hdl:=deeds_len ns
 obtain ⟨hU,hUl⟩:=held_ok ns
 obtain ⟨hR,hRl⟩:=rows_of hU
 have hRl:(rowsI ns).length<=7 * (heldI ns).length:=hRl
 have e1:ev (cal (n+10)) G 40 [(tScr,.d (.list (ns.map D.int)))] (.bin 0 (.lst [.int (.ofNat 8),.int (.ofNat 28),.int (.ofNat 1),.int (.ofNat 21),.int (.ofNat 3)]) (.sli (.loc tScr) .none (.some (.int (.ofNat 10)))))=some (.list ((deedsI ns).map D.int)):=by
  refine ev_bin (n:=39) (d':=.list ([8,28,1,21,3].map D.int)) (fv:=.list ((ns.take 10).map D.int)) (by rfl) (evi_sli (n:=38) (i:=10) (ev_loc (n:=37) (d:=.list (ns.map D.int)) (by rfl)) rfl (by decide) ?_) ?_
  ·show some (D.list (cut (ns.map D.int) none (some 10)))=_
   rw [cut10,List.map_take]
  ·rw [bin_lists]
   ·unfold deedsI
    rw [List.map_append]
   ·rw [List.length_map,List.length_map,List.length_take]
    show 5+min 10 ns.length<=lim
    exact Nat.le_trans (Nat.add_le_add_left (Nat.min_le_left _ _) 5) (by rw [hlim];decide)
 have g0:getR (setR [(tScr,.d (.list (ns.map D.int)))] tDeeds (.d (.list ((deedsI ns).map D.int)))) tDeeds=some (.d (.list ((deedsI ns).map D.int))):=getR_set (by decide +kernel)
 have s1:=ex_asg (n:=39) (x:=tDeeds) e1
 generalize setR [(tScr,.d (.list (ns.map D.int)))] tDeeds (.d (.list ((deedsI ns).map D.int)))=ρ1 at *
 have e2:ev (cal (n+10)) G 40 ρ1 (.call (.glo (tS "_law_meant")) [.loc tDeeds])=some (.list ((heldI ns).map UD)):=ev_call1 (n:=39) G_meant (ev_loc (n:=38) g0) (meant_red ns)
 have s2:=ex_asg (n:=39) (x:=tMnt) e2
 have g1:getR (setR ρ1 tMnt (.d (.list ((heldI ns).map UD)))) tMnt=some (.d (.list ((heldI ns).map UD))):=getR_set (by decide +kernel)
 have g0:getR (setR ρ1 tMnt (.d (.list ((heldI ns).map UD)))) tDeeds=some (.d (.list ((deedsI ns).map D.int))):=getR_other (by decide +kernel) g0
 generalize setR ρ1 tMnt (.d (.list ((heldI ns).map UD)))=ρ2 at *
 have h3':=told_red (n:=n) ns
 have e3:ev (cal (n+10)) G 40 ρ2 (.call (.glo (tS "reduce")) [.glo (tS "_law_deed"),.loc tDeeds,.lst []])=some (LD ((heldI ns).map minl)) :=
  ev_call2 (n:=39) (fv:=.at 179) (xs:=[.at 250,.list ((deedsI ns).map D.int),.list []]) G_reduce (evl_cons G_deed (evl_cons (ev_loc (n:=38) g0) (evl_cons (d:=.list []) (by rfl) rfl))) (appD_at.trans h3')
 have s3:=ex_asg (n:=39) (x:=tTold) e3
 have g2:getR (setR ρ2 tTold (.d (LD ((heldI ns).map minl)))) tTold=some (.d (LD ((heldI ns).map minl))):=getR_set (by decide +kernel)
 have g1:getR (setR ρ2 tTold (.d (LD ((heldI ns).map minl)))) tMnt=some (.d (.list ((heldI ns).map UD))):=getR_other (by decide +kernel) g1
 generalize setR ρ2 tTold (.d (LD ((heldI ns).map minl)))=ρ3 at *
 have e4:ev (cal (n+10)) G 40 ρ3 (.call (.glo (tS "_law_places")) [])=some (.list (PD seven)):=ev_call0 (n:=39) (fv:=.at 219) G_places (places_at (n+9))
 have s4:=ex_asg (n:=39) (x:=tPls) e4
 have g3:getR (setR ρ3 tPls (.d (.list (PD seven)))) tPls=some (.d (.list (PD seven))):=getR_set (by decide +kernel)
 have g2:getR (setR ρ3 tPls (.d (.list (PD seven)))) tTold=some (.d (LD ((heldI ns).map minl))):=getR_other (by decide +kernel) g2
 have g1:getR (setR ρ3 tPls (.d (.list (PD seven)))) tMnt=some (.d (.list ((heldI ns).map UD))):=getR_other (by decide +kernel) g1
 generalize setR ρ3 tPls (.d (.list (PD seven)))=ρ4 at *
 have e5:tv (cal (n+10)) G 40 ρ4 (.cmp 1 (.loc tTold) meAll)=some false:=by
  refine tv_cmp (n:=37) (d':=LD ((heldI ns).map minl)) (fv:=LD ((heldI ns).map minl)) (evt_loc (n:=36) g2) (ev_all hU (Nat.le_trans hUl (by rw [hlim];decide)) g1 g3) ?_
  show (eqD _ _).map (!·)=_
  rw [eqD_LD]
  rfl
 have s5:ex (cal (n+10)) G 40 ρ4 (.iff (.cmp 1 (.loc tTold) meAll) [.ret (.bool .false)] [])=some (ρ4,.next):=ex_iff (n:=39) e5 rfl
 have e6:ev (cal (n+10)) G 40 ρ4 (.call (.glo (tS "reduce")) [.lam [tRow,tOne] lamR,.loc tTold,.lst []])=some (.list (PD (rowsI ns))):=by
  refine ev_call2 (n:=39) (fv:=.at 179) (xs:=[.lam [tRow,tOne] lamR,LD ((heldI ns).map minl),.list []]) G_reduce (evl_cons (d:=.lam [tRow,tOne] lamR) (by rfl) (evl_cons (ev_loc (n:=38) g2) (evl_cons (d:=.list []) (by rfl) rfl))) (appD_at.trans (reduce_at (n:=n+9) (f:=.lam [tRow,tOne] lamR) (xs:=((heldI ns).map minl).map λis=>.list (PD is)) (i:=[]) (λ_=>rfl) ?_))
  have:=fold_rows (n:=n+8) ((heldI ns).map minl) [] (by
   rw [rows_fold]
   show 0+(rowsI ns).length<=lim
   exact Nat.le_trans (Nat.le_of_eq (Nat.zero_add _)) (Nat.le_trans hRl (Nat.le_trans (Nat.mul_le_mul_left 7 hUl) (by rw [hlim];decide))))
  rw [rows_fold,List.nil_append] at this
  exact this
 have s6:=ex_asg (n:=39) (x:=tRows) e6
 have g5:getR (setR ρ4 tRows (.d (.list (PD (rowsI ns))))) tRows=some (.d (.list (PD (rowsI ns)))):=getR_set (by decide +kernel)
 have g3:getR (setR ρ4 tRows (.d (.list (PD (rowsI ns))))) tPls=some (.d (.list (PD seven))):=getR_other (by decide +kernel) g3
 have g1:getR (setR ρ4 tRows (.d (.list (PD (rowsI ns))))) tMnt=some (.d (.list ((heldI ns).map UD))):=getR_other (by decide +kernel) g1
 generalize setR ρ4 tRows (.d (.list (PD (rowsI ns))))=ρ5 at *
 have e7:ev (cal (n+10)) G 40 ρ5 (.call (.glo (tS "_Ignore")) [.none,meLong])=some (.rd ((rowsI ns).map pl) []) :=
  ev_call2 (n:=39) (fv:=.at 159) G_ignore (evl_cons (d:=.none) rfl (evl_cons (ev_long (n:=n+8) hR (by show (rowsI ns).length<=lim;exact Nat.le_trans hRl (Nat.le_trans (Nat.mul_le_mul_left 7 hUl) (by rw [hlim];decide))) g5) rfl)) (appD_at.trans (ignore_long (n:=n+5) hR))
 have s7:=ex_asg (n:=39) (x:=tRdr) e7
 exact ⟨_,exl_next s1 (exl_next s2 (exl_next s3 (exl_next s4 (exl_next s5 (exl_next s6 (exl_next s7 rfl)))))),getR_set (by decide +kernel),getR_other (by decide +kernel) g3,getR_other (by decide +kernel) g1⟩
end
noncomputable def bit (ns:List Int)(k:Nat):Bool:=(rowsI ns).any (up · k)
noncomputable def bitsD (ns:List Int):List D:=seven.map λk=>bitD (bit ns k)
theorem bit_ans (ns:List Int){k:Nat}(hk:k∈seven):ans ((rowsI ns).map pl) (pl k)=if bit ns k then 1 else 0:=ans_f (rows_of (held_ok ns).1).1 hk
theorem bit_held (ns:List Int){k:Nat}(hk:k∈seven):bit ns k=(heldI ns).any (hasN · k):=by
 unfold bit rowsI
 rw [List.any_flatMap]
 have hU:=(held_ok ns).1
 generalize heldI ns=hs at *
 induction hs with
 | nil=>rfl
 | cons u hs ih =>
  rw [List.any_cons,List.any_cons,ih λv hv=>hU v (.tail _ hv),(low_of (hU u (.head _))).an k hk]
noncomputable def gotD (ns:List Int)(g:Nat):List D:=seven.map λk=>.got g (pl k) (if bit ns k then 1 else 0)
section
variable {n:Nat}{ρ:Rho}{ns:List Int}
theorem piece2 {g:Nat}(h1:getR ρ tRdr=some (.d (.rdW g ((rowsI ns).map pl))))(h2:getR ρ tPls=some (.d (.list (PD seven)))) :
  exl (ex (cal (n+2)) G 40) ρ pc2=some (setR ρ tAns (.d (.list (gotD ns g))),.next):=by
 refine exl_next (ex_asg (n:=39) ?_) rfl
 have hf:=frees1 h1
 refine ev_comp (n:=39) (by rw [hf];rfl) (ev_loc (n:=38) h2) rfl (flat_map (a:=λi=>D.str (pl i)) (b:=λk=>.got g (pl k) (if bit ns k then 1 else 0)) λk hk=>?_) (by unfold gotD;rw [List.length_map];decide)
 rw [hf]
 refine eg_last (n:=38) (b:=true) rfl λ_=>?_
 refine evi_meth (n:=37) (ev_loc (n:=36) (d:=.rdW g ((rowsI ns).map pl)) (by rfl)) (evl_cons (ev_call2 (n:=36) (fv:=.at 200) G_join (evl_cons (ev_loc (n:=35) (d:=.str (pl k)) (by rfl)) (evl_cons (d:=.str [102]) (by rfl) rfl)) (appD_at.trans (join_f hk n))) (evl_cons (ev_loc (n:=36) (d:=.str (pl k)) (by rfl)) rfl)) ?_
 show (if (eqT (tS "names") mNames&&plc.any (eqT (pl k))&&eqT (pl k++[47,102]) (pl k++[47,102]))=true then some (D.got g (pl k) (ans ((rowsI ns).map pl) (pl k))) else none)=_
 have e1:eqT (tS "names") mNames=true:=by decide +kernel
 have e2:plc.any (eqT (pl k))=true:=congrArg Prod.fst (map_at (f:=λi=>(plc.any (eqT (pl i)),Nat.ble (pl i).length 1000)) plc_all hk)
 rw [if_pos (by rw [e1,e2,eqT_refl];rfl),bit_ans ns hk]
theorem bits_len:(bitsD ns).length<=lim:=by
 unfold bitsD
 rw [List.length_map]
 decide
theorem ev_again (h1:getR ρ tRdr=some (.d (.rd ((rowsI ns).map pl) plc)))(h2:getR ρ tPls=some (.d (.list (PD seven)))):ev (cal n) G 40 ρ meAns2=some (.list (bitsD ns)):=by
 have hf:=frees1 h1
 refine ev_comp (n:=39) (by rw [hf];rfl) (ev_loc (n:=38) h2) rfl (flat_map (a:=λi=>D.str (pl i)) (b:=λk=>bitD (bit ns k)) λk hk=>?_) bits_len
 rw [hf]
 refine eg_last (n:=38) (b:=true) rfl λ_=>?_
 refine evi_meth (n:=37) (ev_loc (n:=36) (d:=.rd ((rowsI ns).map pl) plc) (by rfl)) (evl_cons (d:=.none) rfl (evl_cons (ev_loc (n:=36) (d:=.str (pl k)) (by rfl)) rfl)) ?_
 show (if (eqT (tS "names") mNames&&plc.any (eqT (pl k)))=true then (if plc.any (eqT (pl k))=true then some (D.int (ans ((rowsI ns).map pl) (pl k))) else none) else none)=_
 have e1:eqT (tS "names") mNames=true:=by decide +kernel
 have e2:plc.any (eqT (pl k))=true:=congrArg Prod.fst (map_at (f:=λi=>(plc.any (eqT (pl i)),Nat.ble (pl i).length 1000)) plc_all hk)
 rw [if_pos (by rw [e1,e2];rfl),if_pos e2,bit_ans ns hk]
 rfl
theorem ev_held {hs:List (List Nat)}(hl:hs.length<=lim)(h1:getR ρ tMnt=some (.d (.list (hs.map UD)))){k:Nat}(hg:getR ρ tN=some (.d (I7 k))):ev (cal n) G 33 ρ meHld=some (.list ((hs.filter λu=>hasN u k).map UD)):=by
 have hf:=frees1 hg
 refine ev_comp (n:=32) (by rw [hf];rfl) (ev_loc (n:=31) h1) rfl (flat_filter (a:=UD) (b:=UD) (p:=λu=>hasN u k) λu _=>?_) ?_
 ·rw [hf]
  exact eg_last (n:=31) (tvl1 (tv_has (n:=27) (by rfl) (by rfl))) λ_=>ev_loc (n:=30) (by rfl)
 ·rw [List.length_map]
  exact Nat.le_trans (List.length_filter_le ..) hl
theorem some_held {hs:List (List Nat)}{k:Nat}:(!(hs.filter λu=>hasN u k).isEmpty)=hs.any λu=>hasN u k:=by
 rw [Bool.eq_iff_iff,Bool.not_eq_true',List.isEmpty_eq_false_iff,ne_eq,List.filter_eq_nil_iff,List.any_eq_true]
 simp
theorem tv_held {hs:List (List Nat)}(hl:hs.length<=lim)(h1:getR ρ tMnt=some (.d (.list (hs.map UD)))){k:Nat}(hg:getR ρ tN=some (.d (I7 k))):tv (cal n) G 37 ρ (.cmp 1 meHld (.lst []))=some (hs.any λu=>hasN u k):=by
 refine tv_cmp (n:=34) (d':=.list ((hs.filter λu=>hasN u k).map UD)) (fv:=.list []) (evt_comp (n:=33) ?_) (by rfl) ?_
 ·exact ev_held hl h1 hg
 ·show (eqD (.list _) (.list [])).map (!·)=_
  rw [eq_nil,List.isEmpty_map,← some_held]
  rfl
theorem ev_bits {hs:List (List Nat)}(hl:hs.length<=lim)(hb:∀ k∈seven,bit ns k=hs.any λu=>hasN u k)(h1:getR ρ tMnt=some (.d (.list (hs.map UD)))):ev (cal n) G 40 ρ meBits=some (.list (bitsD ns)):=by
 have hf:=frees1 h1
 refine ev_comp (n:=39) (by rw [hf];rfl) (ev_rng (n:=37)) rng_items (flat_map (a:=I7) (b:=λk=>bitD (bit ns k)) λk hk=>?_) bits_len
 rw [hf]
 refine eg_last (n:=38) (b:=true) rfl λ_=>?_
 refine ev_ite (n:=37) (tv_held hl (by rfl) (by rfl)) ?_
 rw [<-hb k hk]
 unfold bitD
 cases bit ns k<;>rfl
theorem piece3 (h1:getR ρ tRdr=some (.d (.rd ((rowsI ns).map pl) plc)))(h2:getR ρ tPls=some (.d (.list (PD seven))))(h3:getR ρ tMnt=some (.d (.list ((heldI ns).map UD))))(h4:getR ρ tAns=some (.d (.list (bitsD ns)))) :
  ∃ ρ',exl (ex (cal n) G 40) ρ pc3=some (ρ',.next)/\getR ρ' tAns=some (.d (.list (bitsD ns)))/\getR ρ' tAgn=some (.d (.list (bitsD ns)))/\getR ρ' tBits=some (.d (.list (bitsD ns))):=by
 have s1:=ex_asg (n:=39) (x:=tAgn) (ev_again (n:=n) h1 h2)
 have g1:getR (setR ρ tAgn (.d (.list (bitsD ns)))) tAgn=some (.d (.list (bitsD ns))):=getR_set (by decide +kernel)
 have g2:getR (setR ρ tAgn (.d (.list (bitsD ns)))) tAns=some (.d (.list (bitsD ns))):=getR_other (by decide +kernel) h4
 have g3:getR (setR ρ tAgn (.d (.list (bitsD ns)))) tMnt=some (.d (.list ((heldI ns).map UD))):=getR_other (by decide +kernel) h3
 generalize setR ρ tAgn (.d (.list (bitsD ns)))=ρ1 at *
 have s2:=ex_asg (n:=39) (x:=tBits) (ev_bits (n:=n) (hs:=heldI ns) (by have:=(held_ok ns).2;have e:lim=100000:=rfl;omega) (λk hk=>bit_held ns hk) g3)
 exact ⟨_,exl_next s1 (exl_next s2 rfl),getR_other (by decide +kernel) g2,getR_other (by decide +kernel) g1,getR_set (by decide +kernel)⟩
theorem rep_bits:∃ t,repB (bitsD ns)=some t:=by
 have h:=List.all_eq_true.mp rep_all (seven.map (bit ns)) (bools_mem (seven.map (bit ns)))
 rw [List.map_map] at h
 exact Option.isSome_iff_exists.mp h
theorem G_str:G (tS "str")=some (.ty 0):=by kernel_rfl
theorem ev_str {x:Tx}{t:Tx}{m:Nat}(ht:repB (bitsD ns)=some t)(h:getR ρ x=some (.d (.list (bitsD ns)))):ev (cal n) G (m+2) ρ (.call (.glo (tS "str")) [.loc x])=some (.str t):=by
 show (match G (tS "str") with
   | some fv=>if isLen fv then (match evt (cal n) G (m+1) ρ (.loc x) with | some x=>biD 0 [x] | none=>none) else (match ev (cal n) G (m+1) ρ (.loc x) with | some x=>appD (cal n) fv [x] | none=>none)
   | none=>none)=_
 rw [G_str]
 rw [ev_loc h]
 show (repB (bitsD ns)).map D.str=_
 rw [ht]
 rfl
theorem last_eq {x y:Tx}(h1:getR ρ x=some (.d (.list (bitsD ns))))(h2:getR ρ y=some (.d (.list (bitsD ns)))):ev (cal n) G 40 ρ (.cmp 0 (.call (.glo (tS "str")) [.loc x]) (.call (.glo (tS "str")) [.loc y]))=some (.bool true):=by
 obtain ⟨t,ht⟩:=rep_bits (ns:=ns)
 refine ev_cmp (n:=39) (d':=.str t) (fv:=.str t) (evt_call (n:=38) (ev_str (m:=36) ht h1)) (ev_str (m:=37) ht h2) ?_
 show some (eqT t t)=_
 rw [eqT_refl]
end
section
open PySem.Calls
section
variable {A:Around}{W W' W0 W1 W2:Wd}{P B X:List Addr}{d:D}{s:Shared}{E:Value->Shared->Prop}{env:Env}
variable {nm:List (Str×NameKind)}{ρ ρ':Rho}
theorem Fm.see (F:Fm B nm env W ρ){y:Tx}{ev:EV}(hl:isLoc (lkp nm y)=true)(hg:getR ρ y=some ev):∃ v,EVR B W ev v/\∀ ev',EVR B W ev' v->Fm B nm env W (setR ρ y ev'):=by
 obtain ⟨m,hn,hm⟩:=F.ns
 have kinds:lkp nm y=some .local\/(lkp nm y=some .cell\/lkp nm y=some .free):=by
  revert hl
  unfold isLoc
  cases lkp nm y with
  | none=>simp
  | some k=>cases k<;>simp
 rcases kinds with hk | hk
 ·obtain ⟨v,hv,r⟩:=hm y ev hk hg
  refine ⟨v,r,λev' r'=>{ F with ns:=⟨m,hn,λx e1 k e=>?_⟩,ce:=λx hx=>?_ }⟩
  ·rw [getR_setR] at e
   split at e
   ·rename_i q
    have q':=eqT_iff.mp q
    subst q'
    cases e
    exact ⟨v,hv,r'⟩
   ·exact hm x e1 k e
  ·obtain ⟨c,v0,g1,g2,g3,g4⟩:=F.ce x hx
   refine ⟨c,v0,g1,g2,g3,λe1 e=>?_⟩
   rw [getR_setR] at e
   split at e
   ·rename_i q
    have q':=eqT_iff.mp q
    subst q'
    rw [hk] at hx
    rcases hx with z | z<;>cases z
   ·exact g4 e1 e
 ·obtain ⟨c,v0,g1,g2,g3,g4⟩:=F.ce y hk
  obtain ⟨v,hv,r⟩:=g4 ev hg
  refine ⟨v,r,λev' r'=>{ F with ns:=⟨m,hn,λx e1 k e=>?_⟩,ce:=λx hx=>?_ }⟩
  ·rw [getR_setR] at e
   split at e
   ·rename_i q
    have q':=eqT_iff.mp q
    subst q'
    rw [k] at hk
    rcases hk with z | z<;>cases z
   ·exact hm x e1 k e
  ·by_cases q:eqT y x=true
   ·have q':=eqT_iff.mp q
    subst q'
    refine ⟨c,v0,g1,g2,g3,λe1 e=>?_⟩
    rw [getR_setR,if_pos q] at e
    obtain rfl:=sq e
    exact ⟨v,hv,r'⟩
   ·obtain ⟨c',v0',h1,h2,h3,h4⟩:=F.ce x hx
    refine ⟨c',v0',h1,h2,h3,λe1 e=>?_⟩
    rw [getR_setR,if_neg q] at e
    exact h4 e1 e
theorem Act.see (a:Act W0 B nm env W ρ){y:Tx}{x:D}(hl:isLoc (lkp nm y)=true)(hg:getR ρ y=some (.d x)):∃ v,Rep W x v/\∀ x',Rep W x' v->Act W0 B nm env W (setR ρ y (.d x')):=by
 refine xEA (a.F.see hl hg) λv r h=>?_
 exact ⟨v,r,λx' r'=>⟨a.I,a.L,h (.d x') r',a.one.put λ_=>nofun,a.bs⟩⟩
set_option tactic.hygienic true in
theorem block_app {f:Rho->MS->Option (Rho×Fl)}{cvf:Stmt->MS}(hf:∀ st ρ W ρ' fl,f ρ (cvf st)=some (ρ',fl)->Act W0 B nm env W ρ->StOk A (exec st env) W0 B nm env W ρ' fl)(r:List Stmt){Q:Flow->Shared->Prop} :
  ∀ (sts:List Stmt) (ρ:Rho) (W:Wd) (ρ':Rho),exl f ρ (sts.map cvf)=some (ρ',.next)->Act W0 B nm env W ρ->∀ s,Ok W s->(∀ W1 s1,Act W0 B nm env W1 ρ'->Ok W1 s1->wpAny Mo A (execs r env) Q E s1)->wpAny Mo A (execs (sts++r) env) Q E s
 | [],ρ,W,ρ',h,a,s,o,k=>by
  cases h
  exact k W s a o
 | st::sts,ρ,W,ρ',h,a,s,o,k=>by
  rw [List.map_cons] at h
  unfold exl at h
  rw [List.cons_append]
  refine wpAny_execs_cons ?_
  split at h
  ·rename_i ρ1 h1
   refine hf st ρ W ρ1 .next h1 a s _ _ o λu W1 s1 a1 o1 hu=>?_
   have hu':u=.next:=hu
   clear hu o s a h1 W ρ st
   subst hu'
   exact block_app hf r sts ρ1 W1 ρ' h a1 s1 o1 k
  ·rename_i hx
   exact absurd h (hx ρ')
theorem got_bits {ns:List Int}{g:Nat}(k0:List Nat):∀ {ks:List Nat} {vs:List Value},Reps W (ks.map λk=>.got g (pl k) (if bit ns k then 1 else 0)) vs->Reps W (ks.map λk=>bitD (bit ns k)) vs/\∀ k∈ks,∃ ds,W.ig.lookup g=some ds/\IgAt W.h g ds [pl k]
 | [],vs,h=>⟨h,λ_ h=>nomatch h⟩
 | k::ks,vs,h=>by
  obtain ⟨v,r,rfl,⟨⟨t,hv⟩,ds,e,ia⟩,hr⟩:=h
  obtain ⟨h1,h2⟩:=got_bits k0 (ks:=ks) hr
  refine ⟨?_,λk' hk'=>?_⟩
  ·exact ⟨v,r,rfl,⟨t,hv⟩,h1⟩
  ·clear h1 hv t v hr k0 got_bits ns
   rcases List.mem_cons.mp hk' with rfl | q
   ·exact ⟨ds,e,ia⟩
   ·exact h2 k' q
theorem plc_map:plc=seven.map pl:=by decide +kernel
theorem ig_all {g:Addr}{ds:List Tx}(h0:IgAt W.h g ds [])(e:W.ig.lookup g=some ds)(h:∀ k∈seven,∃ ds,W.ig.lookup g=some ds/\IgAt W.h g ds [pl k]):IgAt W.h g ds plc:=by
 clear e ig_all
 obtain ⟨kvs,hd,hv,_⟩:=h0
 refine ⟨kvs,hd,hv,λk hk=>?_⟩
 rw [plc_map] at hk
 refine xEA (List.mem_map.mp hk) λi hi ee2=>?_
 subst ee2
 refine xEA (h i hi) λds' e' hh2=>?_
 obtain ⟨kvs',hd',_,hc'⟩:=hh2
 have:kvs=kvs':=dict_uniq hd hd'
 clear hd' hd hi h e' g W
 subst this
 exact hc' _ (.head _)
end
noncomputable abbrev nmL:List (Str×NameKind):=(dS 39).2.2.names
theorem law_split:∃ t1 t2 t3 e1 e2 p p',(dS 39).2.1=t1++(t2++(t3++[.Return (some (.BoolOp .And [e1,e2] p)) p']))/\t1.map (cvS K nmL)=pc1/\t2.map (cvS K nmL)=pc2/\t3.map (cvS K nmL)=pc3/\cv K nmL e1=meS1/\cv K nmL e2=meS2:=by
 have h:∃ e1 e2 p p',(dS 39).2.1.drop 10=[.Return (some (.BoolOp .And [e1,e2] p)) p']/\cv K nmL e1=meS1/\cv K nmL e2=meS2:=⟨_,_,_,_,rfl,by kernel_rfl,by kernel_rfl⟩
 obtain ⟨e1,e2,p,p',h1,h2,h3⟩:=h
 refine ⟨(dS 39).2.1.take 7,((dS 39).2.1.drop 7).take 1,((dS 39).2.1.drop 8).take 2,e1,e2,p,p',?_,by kernel_rfl,by kernel_rfl,by kernel_rfl,h2,h3⟩
 rw [<-h1]
 kernel_rfl
theorem law_binds (x:D):binds (mfOf (dS 39)) [x]=some [(tScr,.d x)]:=by kernel_rfl
theorem law_locs:isLoc (lkp nmL tRdr)=true/\isLoc (lkp nmL tAns)=true:=by
 constructor<;>kernel_rfl
section
variable {A:Around}{W W' W0 W1 W2:Wd}{B:List Addr}{s:Shared}{E:Value->Shared->Prop}{env:Env}
theorem law_body (ops:Ops2 A (cal 10) G)(ns:List Int)(I0:Inv W0)(a:Act W0 B nmL env W [(tScr,.d (.list (ns.map D.int)))])(o:Ok W s){Q:Flow->Shared->Prop}
  (po:∀ W' s',LeB B W0 W'->Inv W'->Ok W' s'->Q (.ret (.bool true)) s'):wpAny Mo A (execs (dS 39).2.1 env) Q E s:=by
 clear law_body
 obtain ⟨t1,t2,t3,e1,e2,p,p',hs,c1,c2,c3,k1,k2⟩:=law_split
 rw [hs]
 have hX:=ex_all ops 40
 have hf:∀ st ρ W ρ' fl,ex (cal 10) G 40 ρ (cvS K nmL st)=some (ρ',fl)->Act W0 B nmL env W ρ->StOk A (exec st env) W0 B nmL env W ρ' fl:=λst ρ W ρ' fl h a=>hX _ _ _ _ _ _ _ _ _ _ h I0 a
 clear hX hs
 refine xEAAA (piece1 (n:=0) ns) λρ1 x1 r1 r2 r3=>?_
 rw [<-c1] at x1
 refine block_app hf _ t1 _ W ρ1 x1 a s o λW1 s1 a1 o1=>?_
 clear o s x1 c1
 refine xEA (a1.see law_locs.1 r1) λv rv hsee=>?_
 clear r1 a1
 obtain ⟨g,rg⟩:=rv
 have a1':=hsee (.rdW g ((rowsI ns).map pl)) (by exact rg)
 have y1:getR (setR ρ1 tRdr (.d (.rdW g ((rowsI ns).map pl)))) tRdr=some (.d (.rdW g ((rowsI ns).map pl))):=getR_set (by decide +kernel)
 have y2:getR (setR ρ1 tRdr (.d (.rdW g ((rowsI ns).map pl)))) tPls=some (.d (.list (PD seven))):=getR_other (by decide +kernel) r2
 have y3:getR (setR ρ1 tRdr (.d (.rdW g ((rowsI ns).map pl)))) tMnt=some (.d (.list ((heldI ns).map UD))):=getR_other (by decide +kernel) r3
 generalize setR ρ1 tRdr (.d (.rdW g ((rowsI ns).map pl)))=ρ2 at *
 have x2:=piece2 (n:=8) y1 y2
 rw [<-c2] at x2
 refine block_app hf _ t2 _ W1 _ x2 a1' s1 o1 λW2 s2 a2 o2=>?_
 have z0:getR (setR ρ2 tAns (.d (.list (gotD ns g)))) tAns=some (.d (.list (gotD ns g))):=getR_set (by decide +kernel)
 have z1:getR (setR ρ2 tAns (.d (.list (gotD ns g)))) tRdr=some (.d (.rdW g ((rowsI ns).map pl))):=getR_other (by decide +kernel) y1
 have z2:getR (setR ρ2 tAns (.d (.list (gotD ns g)))) tPls=some (.d (.list (PD seven))):=getR_other (by decide +kernel) y2
 have z3:getR (setR ρ2 tAns (.d (.list (gotD ns g)))) tMnt=some (.d (.list ((heldI ns).map UD))):=getR_other (by decide +kernel) y3
 generalize setR ρ2 tAns (.d (.list (gotD ns g)))=ρ3 at *
 clear y3 y2 y1 o1 s1 a1' x2 c2 r3 r2 rg hsee v
 refine xEA (a2.see law_locs.2 z0) λva ra hseeA=>?_
 clear z0 a2 ρ2 W1 ρ1
 obtain ⟨la,items,hva,hla,hil,hsz,hrs⟩:=ra
 obtain ⟨hb1,hb2⟩:=got_bits [] hrs
 have a3:=hseeA (.list (bitsD ns)) ⟨la,items,hva,hla,hil,hsz,hb1⟩
 have w0:getR (setR ρ3 tAns (.d (.list (bitsD ns)))) tAns=some (.d (.list (bitsD ns))):=getR_set (by decide +kernel)
 have w1:getR (setR ρ3 tAns (.d (.list (bitsD ns)))) tRdr=some (.d (.rdW g ((rowsI ns).map pl))):=getR_other (by decide +kernel) z1
 have w2:getR (setR ρ3 tAns (.d (.list (bitsD ns)))) tPls=some (.d (.list (PD seven))):=getR_other (by decide +kernel) z2
 have w3:getR (setR ρ3 tAns (.d (.list (bitsD ns)))) tMnt=some (.d (.list ((heldI ns).map UD))):=getR_other (by decide +kernel) z3
 generalize setR ρ3 tAns (.d (.list (bitsD ns)))=ρ4 at *
 clear z3 z2 z1 hb1 hsz hil hla hva la hseeA hrs va
 refine xEA (a3.see law_locs.1 w1) λvr rr hseeR=>?_
 have rr':RdAt W2 g ((rowsI ns).map pl) plc vr:=by
  obtain ⟨x,d,ms,a,n,t1,t2,t3,b,items,h1,h2,h3,h4,h5,h6,h7,h8,h9,h10,h11,h12,h13,h14,h15⟩:=rr
  exact ⟨x,d,ms,a,n,t1,t2,t3,b,items,h1,h2,h3,h4,h5,h6,h7,h8,h9,h10,h11,h12,h13,h14,ig_all h15 h14 hb2⟩
 have a4:=hseeR (.rd ((rowsI ns).map pl) plc) ⟨g,rr'⟩
 have u1:getR (setR ρ4 tRdr (.d (.rd ((rowsI ns).map pl) plc))) tRdr=some (.d (.rd ((rowsI ns).map pl) plc)):=getR_set (by decide +kernel)
 have u0:getR (setR ρ4 tRdr (.d (.rd ((rowsI ns).map pl) plc))) tAns=some (.d (.list (bitsD ns))):=getR_other (by decide +kernel) w0
 have u2:getR (setR ρ4 tRdr (.d (.rd ((rowsI ns).map pl) plc))) tPls=some (.d (.list (PD seven))):=getR_other (by decide +kernel) w2
 have u3:getR (setR ρ4 tRdr (.d (.rd ((rowsI ns).map pl) plc))) tMnt=some (.d (.list ((heldI ns).map UD))):=getR_other (by decide +kernel) w3
 generalize setR ρ4 tRdr (.d (.rd ((rowsI ns).map pl) plc))=ρ5 at *
 clear w3 w2 w0 rr' hseeR hb2 items t2 t1 a rr vr w1 a3 ρ3 W
 refine xEAAA (piece3 (n:=10) u1 u2 u3 u0) λρ6 x3 v1 v2 v3=>?_
 rw [<-c3] at x3
 refine block_app hf _ t3 _ W2 _ x3 a4 s2 o2 λW3 s3 a5 o3=>?_
 have l1:ev (cal 10) G 40 ρ6 meS1=some (.bool true):=last_eq (n:=10) v1 v3
 have l2:ev (cal 10) G 40 ρ6 meS2=some (.bool true):=last_eq (n:=10) v2 v3
 rw [<-k1] at l1
 rw [<-k2] at l2
 refine wpAny_execs_cons (ret_value (wpAny_And2 ?_))
 refine (ops.ev 40).1.go l1 a5.F a5.I W3 (Le.refl W3) a5.I s3 _ _ o3 λb1 W4 s4 L4 I4 o4 q1=>?_
 have q1':b1=.bool true:=q1
 clear q1 o3 s3 l1 k2 k1 v3 v2 v1 o2 s2 a4 x3 W2 hf c3 u0 u3 u2 u1 ρ5 ns ρ4 g p' p e1
 subst q1'
 refine wpAny_truthy_bool ?_
 show wpAny Mo A (eval e2 env) _ E s4
 have a6:=a5.le I0 L4 I4
 refine (ops.ev 40).1.go l2 a6.F a6.I W4 (Le.refl W4) a6.I s4 _ _ o4 λb2 W5 s5 L5 I5 o5 q2=>?_
 have q2':b2=.bool true:=q2
 clear q2 o4 s4 l2 ops I4 L4 a5 e2 W3 t3
 subst q2'
 have a7:=a6.le I0 L5 I5
 exact po W5 s5 a7.L a7.I o5
end
section
theorem walk (st:Start zw zS zx.2.2.1 zx.2.2.2):Walk zw zS:=by
 show wpAny (model pw zw) callerA (call (.ref 260) [.ref 261]) (λv s'=>v=.bool true/\OldK zh s'.heap/\s'.os=zo/\s'.gens=#[]) (λ_ _=>False) zS
 have I:=start_inv st
 have o:Ok ⟨zh,[],[]⟩ zS:=⟨rfl,st.gens,rfl⟩
 have O:=outer st
 have hr:Rm 11 callerA:=⟨rfl,rfl,by show 4+100 * (11+1)<=9000;decide,by show 301+10 * (11+1)<=990;decide⟩
 have ri:Reps ⟨zh,[],[]⟩ (zx.2.2.1.map D.int) zx.2.2.2:=ints_reps st.its
 have rl:Reps ⟨zh,[],[]⟩ [.list (zx.2.2.1.map D.int)] [.ref 261]:=by
  refine ⟨_,[],rfl,⟨261,zx.2.2.2.toArray,rfl,λh=>(nomatch h),st.lst,?_,by simpa using ri⟩,rfl⟩
  have:=ri.length
  rw [List.length_map] at this
  have:=st.len
  have:lim=100000:=rfl
  simp;omega
 obtain ⟨ob,fd,ps,va,kw,F,hnm⟩:=fok_at st.keep (a:=260) rfl
 refine wpAny_call (code_fun (Pd:=λ_ v=>v=.bool true) (X:=[]) F hr.room O.nolim O.cs (law_binds _) I rl (λW1 W2 env _ I1 a2 s2 Q E o2 po=>?_) o λv W' s' L I' o' r=>?_)
 ·rw [hnm] at a2
  refine law_body (mkOps O (cal_ok O 10) (hr.deeper env)) zx.2.2.1 I1 a2 o2 λW' s' L' I' o'=>?_
  exact po _ W' s' (L'.all λ_ h=>h) I' o' ⟨_,.inl rfl,rfl⟩
 refine ⟨r,⟨λb ob e=>?_,λb ob e=>?_⟩,o'.2.2,o'.2.1⟩
 ·rw [o'.1]
  by_cases ht:b∈tabs
  ·obtain ⟨vs',e',_⟩:=I'.tab b ht
   have key:∃ ob' c oc vs,(H1 zw.params).get? b=some ob'/\ob'.cls=.none/\ob'={ cls:=.none,data:=.fields #[] }/\(H1 zw.params).get? c=some oc/\oc.cls=.type "code" /\ oc.data=.fields vs/\vs[11]? = some (.ref b):=by
    simp only [tabs,List.mem_cons,List.not_mem_nil,or_false] at ht
    rcases ht with rfl | rfl | rfl
    ·exact ⟨_,169,_,_,rfl,rfl,rfl,rfl,rfl,rfl,rfl⟩
    ·exact ⟨_,232,_,_,rfl,rfl,rfl,rfl,rfl,rfl,rfl⟩
    ·exact ⟨_,259,_,_,rfl,rfl,rfl,rfl,rfl,rfl,rfl⟩
   obtain ⟨ob',c,oc,vs2,g1,g2,g3,g4,g5,g6,g7⟩:=key
   have e2:=st.keep _ _ g1
   have e:zS.heap.get? b=_:=e
   rw [e] at e2
   clear g1
   obtain rfl:=sq e2
   refine .inr (.inl ⟨⟨c,oc,vs2,st.keep _ _ g4,g5,g6,g7⟩,g2,#[],vs',by rw [g3],?_⟩)
   rw [e',g3]
   simp
  ·exact .inl (L.keep b ob e ht (λh=>nomatch h) rfl)
 ·rw [o'.1]
  exact L.alive b ob e λh=>nomatch h
theorem whole:PySem.Challenge.rw_kt0049_01.Holds:=head1 walk
end
end
end Mine
theorem PySem.Challenge.cw_kt0049_01_holds : PySem.Challenge.rw_kt0049_01.Holds :=
  Mine.whole
