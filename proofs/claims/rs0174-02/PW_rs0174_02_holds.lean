import PyProof.Rows.All
import Wide.All
import OpenK.AllK
import Wide.FinOn
import Flt.RightMore
import Lean
import PySem.Challenge.RW_rs0174_02
set_option Elab.async false
set_option linter.all false
set_option tactic.hygienic false
section
namespace Mine
section
section
variable{α β γ δ:Type}{G:Prop}{r:γ}
theorem e7e{P:Prop}(h:∀ G:Prop,(P->G)->G):P:=h P id
theorem ns{a:α}(h:Option.none=some a):G:=by contradiction
theorem nt(h:false=true):G:=by contradiction
theorem ifS{c:Prop}[Decidable c]{a:Option γ}(h:(if c then a else .none)=some r)(k:c->a=some r->G):G:=by
 by_cases hc:c
 ·exact k hc ((if_pos hc).symm.trans h)
 ·exact ns ((if_neg hc).symm.trans h)
theorem ifN{c:Prop}[Decidable c]{a:Option γ}(h:(if c then .none else a)=some r)(k:¬c->a=some r->G):G:=by
 by_cases hc:c
 ·exact ns ((if_pos hc).symm.trans h)
 ·exact k hc ((if_neg hc).symm.trans h)
theorem ifE{c:Prop}[Decidable c]{a b q:α}(h:(if c then a else b)=q)(k1:c->a=q->G)(k2:¬c->b=q->G):G:=by
 by_cases hc:c
 ·exact k1 hc ((if_pos hc).symm.trans h)
 ·exact k2 hc ((if_neg hc).symm.trans h)
theorem a1n{f:α->γ}{x:Option α}(h:x.map f=some r)(k:∀ a,x=some a->f a=r->G):G:=by
 induction x using Option.casesOn with
 | none=>exact ns h
 | some a=>exact k a rfl (Option.some.inj h)
theorem a0g{f:α->Option γ}{x:Option α}(h:x.bind f=some r)(k:∀ a,x=some a->f a=some r->G):G:=by
 induction x using Option.casesOn with
 | none=>exact ns h
 | some a=>exact k a rfl h
theorem c4e{x:Option α}{b:Option γ}{f:α->Option γ}(h:x.elim b f=some r)(k1:∀ a,x=some a->f a=some r->G)(k2:x=.none->b=some r->G):G:=by
 induction x using Option.casesOn with
 | none=>exact k2 rfl h
 | some a=>exact k1 a rfl h
theorem pr{a c:α}{b d:β}(h:(a,b)=(c,d))(k:a=c->b=d->G):G:=k (congrArg Prod.fst h) (congrArg Prod.snd h)
theorem sp{a c:α}{b d:β}(h:some (a,b)=some (c,d))(k:a=c->b=d->G):G:=pr (Option.some.inj h) k
theorem s1{a c:α}(h:some a=some c)(k:a=c->G):G:=k (Option.some.inj h)
theorem a0d{a b:Bool}(h:(a&&b)=true):a=true:=by cases a<;>first | rfl | exact nt h
theorem a0f{a b:Bool}(h:(a&&b)=true):b=true:=by cases a<;>first | exact h | exact nt h
theorem f3g{a b:Bool}(h:¬(a||b)=true):a=false:=by cases a<;>first | rfl | exact absurd rfl h
theorem orn{a b:Bool}(h:(a||!b)=true)(hb:b=true):a=true:=by cases a<;>first | rfl | (subst hb;exact nt h)
theorem c3k{a:Bool}(h:(!a)=true):a=false:=by cases a<;>first | rfl | exact nt h
end
end
end Mine
end
section
open PySem PySem.W PyProof.Rows
namespace Mine
inductive V where
 | none | bool (b:Bool) | int (i:Int) | flt (b:UInt64) | str (s:List Nat)
 | tup (l:List V) | lst (l:List V) | mut (k:Nat) | typ (s:String)
 deriving Inhabited
inductive M where
 | list (l:List V)
 | obj (is:List Nat) (n:Int)
 deriving Inhabited
noncomputable def Kp(as:List Addr)(h h':Heap):Prop:=∀ a o,a∉as->h.get? a=some o->h'.get? a=some o
theorem Kp.refl(as:List Addr)(h:Heap):Kp as h h:=fun zz zz zz e=>e
theorem Kp.push{as:List Addr}{h h':Heap}(x:Kp as h h')(o:Obj):Kp as h (h'.push o):=fun a o' ha e=>Heap.get?_push_of_some o (x a o' ha e)
theorem Kp.mod{as:List Addr}{h hY hJ:Heap}{I:Addr}(x:Kp as h hY)(hI:h.get? I=.none)(y:∀ a o,a≠I->hY.get? a=some o->hJ.get? a=some o):Kp as h hJ:=
 fun a o ha e=>y a o (fun q=>by rw [q,hI]at e;exact ns e) (x a o ha e)
mutual
noncomputable def Rep(h:Heap)(as:List (List Addr)):V->Value->Prop
 | .none,v=>v=.none
 | .bool b,v=>v=.bool b
 | .int i,v=>∃ t,v=.int i t
 | .flt b,v=>∃ t,v=.float b t
 | .str x,v=>∃ t,v=.str ⟨x.toArray⟩ t
 | .tup l,v=>∃ a vs,v=.ref a/\a∉as.flatten/\h.IsTuple a vs.toArray/\Reps h as l vs
 | .lst l,v=>∃ a vs,v=.ref a/\a∉as.flatten/\h.PlainList a vs.toArray/\Reps h as l vs
 | .mut k,v=>∃ a r,as[k+1]?=some (a::r)/\v=.ref a
 | .typ t,v=>v=.type t
noncomputable def Reps(h:Heap)(as:List (List Addr)):List V->List Value->Prop
 | [],vs=>vs=[]
 | x::l,vs=>∃ v r,vs=v::r/\Rep h as x v/\Reps h as l r
end
theorem Reps.length{as:List (List Addr)}{h:Heap}:∀ {l:List V} {vs:List Value},Reps h as l vs->vs.length=l.length:=by
 intro z_;induction z_ with
 | nil=>
  intro _ r;cases r;rfl
 | cons x l ih=>
  intro vs r;obtain⟨v,rs,rfl,_,hr⟩:=r;exact congrArg (·+1) (ih hr)
theorem Reps.nil{as:List (List Addr)}{h:Heap}:Reps h as [] []:=rfl
theorem Reps.cons{as:List (List Addr)}{h:Heap}{x:V}{v:Value}{l:List V}{vs:List Value}(hx:Rep h as x v)(hr:Reps h as l vs):Reps h as (x::l) (v::vs):=⟨v,vs,rfl,hx,hr⟩
theorem Reps.append{as:List (List Addr)}{h:Heap}:∀ {l l':List V} {vs vs':List Value},Reps h as l vs->Reps h as l' vs'->Reps h as (l++l') (vs++vs'):=by
 intro z_;induction z_ with
 | nil=>
  intro _ _ _ r r';cases r;exact r'
 | cons x l ih=>
  intro l' vs vs' r r';obtain⟨v,rs,rfl,hx,hr⟩:=r;exact Reps.cons hx (ih hr r')
theorem Reps.get{as:List (List Addr)}{h:Heap}:∀ {l:List V} {vs:List Value} (i:Nat) {x:V},Reps h as l vs->l[i]?=some x->∃ v,vs[i]?=some v/\Rep h as x v
 | [],_,i,_,_,e=>by exact ns e
 | y::l,vs,0,x,r,e=>by
  obtain⟨v,rs,rfl,hx,_⟩:=r;obtain rfl:=Option.some.inj e;exact⟨v,rfl,hx⟩
 | y::l,vs,i+1,x,r,e=>by
  obtain⟨v,rs,rfl,_,hr⟩:=r;exact Reps.get i hr e
theorem Reps.drop{as:List (List Addr)}{h:Heap}:∀(n:Nat) {l:List V} {vs:List Value},Reps h as l vs->Reps h as (l.drop n) (vs.drop n):=by
 intro n;induction n with
 | zero=>exact fun r=>r
 | succ n ih=>
  intro l vs r;induction l using List.casesOn with
  | nil=>cases r;exact rfl
  | cons y l=>
   obtain⟨v,rs,rfl,_,hr⟩:=r;exact ih hr
theorem Reps.reverse{as:List (List Addr)}{h:Heap}:∀ {l:List V} {vs:List Value},Reps h as l vs->Reps h as l.reverse vs.reverse:=by
 intro z_;induction z_ with
 | nil=>
  intro _ r;cases r;rfl
 | cons y l ih=>
  intro vs r;obtain⟨v,rs,rfl,hv,hr⟩:=r;rw [List.reverse_cons,List.reverse_cons];exact Reps.append (ih hr) (Reps.cons hv .nil)
end Mine
namespace Mine
structure Go(as:List (List Addr))(h:Heap)(as':List (List Addr))(h':Heap):Prop where
 ext:∃ nw,as'=as++nw/\∀ a∈nw.flatten,h.get? a=.none
 keep:Kp as.tail.flatten h h'
 alive:∀ a∈as'.flatten,∃ o,h'.get? a=some o
theorem a4l{as:List (List Addr)}{a:Addr}(h:a∈as.tail.flatten):a∈as.flatten:=by
 induction as using List.casesOn with
 | nil=>simp at h
 | cons x r=>rw [List.flatten_cons];exact List.mem_append_right _ h
theorem b4l{as nw:List (List Addr)}{a:Addr}(h:a∈(as++nw).tail.flatten):a∈as.tail.flatten∨a∈nw.flatten:=by
 induction as using List.casesOn with
 | nil=>exact .inr (a4l h)
 | cons x r=>
  rw [List.cons_append,List.tail_cons,List.flatten_append]at h;exact List.mem_append.mp h
theorem Go.at{as as':List (List Addr)}{h h':Heap}(g:Go as h as' h'){a:Addr}{o:Obj}(ha:a∉as.flatten)(e:h.get? a=some o):h'.get? a=some o:=g.keep a o (fun q=>ha (a4l q)) e
theorem Go.refl{as:List (List Addr)}{h:Heap}(al:∀ a∈as.flatten,∃ o,h.get? a=some o):Go as h as h:=⟨⟨[],by simp,by simp⟩,Kp.refl _ _,al⟩
theorem Go.sub{as as':List (List Addr)}{h h':Heap}(g:Go as h as' h'){a:Addr}(ha:a∈as.flatten):a∈as'.flatten:=by
 obtain⟨nw,rfl,_⟩:=g.ext;rw [List.flatten_append];exact List.mem_append_left _ ha
theorem Go.off{as as':List (List Addr)}{h h':Heap}(g:Go as h as' h'){a:Addr}{o:Obj}(e:h.get? a=some o)(ha:a∉as.flatten):a∉as'.flatten:=by
 obtain⟨nw,rfl,hn⟩:=g.ext;rw [List.flatten_append];intro hm;rcases List.mem_append.mp hm with hm | hm
 ·exact ha hm
 ·rw [hn a hm]at e;exact ns e
theorem Go.trans{as asI asJ:List (List Addr)}{h hY hJ:Heap}(x:Go as h asI hY)(y:Go asI hY asJ hJ):Go as h asJ hJ:=by
 refine⟨?_,fun a o ha e=>y.keep a o (fun q=>?_) (x.keep a o ha e),y.alive⟩
 rotate_left
 ·obtain⟨n1,rfl,h1⟩:=x.ext
  rcases b4l q with q | q
  ·exact ha q
  ·rw [h1 a q]at e;exact ns e
 have xs:=@Go.sub _ _ _ _ x;have xa:=x.alive;have xk:=@Go.at _ _ _ _ x;obtain⟨n1,rfl,h1⟩:=x.ext;obtain⟨n2,rfl,h2⟩:=y.ext;refine⟨n1++n2,by simp,fun a ha=>?_⟩;rw [List.flatten_append]at ha;rcases List.mem_append.mp ha with ha | ha
 ·exact h1 a ha
 ·induction q:h.get? a using Option.casesOn with
  | none=>rfl
  | some o=>
   by_cases m:a∈as.flatten
   ·obtain⟨o',e'⟩:=xa a (xs m)
    rw [h2 a ha]at e';exact ns e'
   ·have:=xk m q
    rw [h2 a ha]at this;exact ns this
theorem Go.get{as as':List (List Addr)}{h h':Heap}(g:Go as h as' h'){k:Nat}{l:List Addr}(e:as[k]?=some l):as'[k]?=some l:=by
 obtain⟨nw,rfl,_⟩:=g.ext;rw [List.getElem?_append_left (List.getElem?_eq_some_iff.mp e).1];exact e
theorem Go.push{as as':List (List Addr)}{h h':Heap}(g:Go as h as' h')(o:Obj):Go as h as' (h'.push o):=
 ⟨g.ext,g.keep.push o,fun a ha=>let⟨o',e⟩:=g.alive a ha;⟨o',Heap.get?_push_of_some o e⟩⟩
theorem Go.mod{as as':List (List Addr)}{h hY hJ:Heap}{I:Addr}(g:Go as h as' hY)(hI:h.get? I=.none)(hn:I∉as'.flatten)(y:∀ a o,a≠I->hY.get? a=some o->hJ.get? a=some o):Go as h as' hJ:=
 ⟨g.ext,g.keep.mod hI y,fun a ha=>let⟨o,e⟩:=g.alive a ha;⟨o,y a o (fun q=>hn (q▸ha)) e⟩⟩
mutual
theorem Rep.tr{as as':List (List Addr)}{h h':Heap}(hO:∀ a o,a∉as.flatten->h.get? a=some o->(∃ xs n,o.data=.seq xs n)->a∉as'.flatten/\h'.get? a=some o)(hM:∀(k:Nat) (l:List Addr),as[k+1]?=some l->as'[k+1]?=some l):∀ {x:V} {v:Value},Rep h as x v->Rep h' as' x v
 | .none,_,r=>r
 | .bool _,_,r=>r
 | .int _,_,r=>r
 | .flt _,_,r=>r
 | .str _,_,r=>r
 | .typ _,_,r=>r
 | .mut _,_,r=>let⟨a,q,e,e2⟩:=r;⟨a,q,hM _ _ e,e2⟩
 | .tup l,v,r=>by
  obtain⟨a,vs,e,ha,⟨o,ho,hc,n,hd⟩,hr⟩:=r;exact⟨a,vs,e,(hO a o ha ho ⟨_,_,hd⟩).1,⟨o,(hO a o ha ho ⟨_,_,hd⟩).2,hc,n,hd⟩,Reps.tr hO hM hr⟩
 | .lst l,v,r=>by
  obtain⟨a,vs,e,ha,⟨n,ho⟩,hr⟩:=r;exact⟨a,vs,e,(hO a _ ha ho ⟨_,_,rfl⟩).1,⟨n,(hO a _ ha ho ⟨_,_,rfl⟩).2⟩,Reps.tr hO hM hr⟩
theorem Reps.tr{as as':List (List Addr)}{h h':Heap}(hO:∀ a o,a∉as.flatten->h.get? a=some o->(∃ xs n,o.data=.seq xs n)->a∉as'.flatten/\h'.get? a=some o)(hM:∀(k:Nat) (l:List Addr),as[k+1]?=some l->as'[k+1]?=some l):∀ {l:List V} {vs:List Value},Reps h as l vs->Reps h' as' l vs
 | [],_,r=>r
 | x::l,vs,r=>by
  obtain⟨v,rs,e,hx,hr⟩:=r;exact⟨v,rs,e,Rep.tr hO hM hx,Reps.tr hO hM hr⟩
end
theorem Rep.go{as as':List (List Addr)}{h h':Heap}(g:Go as h as' h'):∀ {x:V} {v:Value},Rep h as x v->Rep h' as' x v:=fun r=>
 Rep.tr (fun zz zz ha e zz=>⟨g.off e ha,g.at ha e⟩) (fun zz zz=>g.get) r
theorem Reps.go{as as':List (List Addr)}{h h':Heap}(g:Go as h as' h'):∀ {l:List V} {vs:List Value},Reps h as l vs->Reps h' as' l vs:=fun r=>
 Reps.tr (fun zz zz ha e zz=>⟨g.off e ha,g.at ha e⟩) (fun zz zz=>g.get) r
end Mine
end
set_option genInjectivity false
set_option genSizeOf false
set_option bootstrap.genMatcherCode false
section
open PySem PySem.W PyProof.Rows
namespace Mine
section
inductive T where
 | one (i:Nat)
 | many (l:List Nat)
inductive X where
 | cst (v:V)
 | loc (i:Nat)
 | glb (i:Nat)
 | bin (op:Operator) (a b:X)
 | neg (a:X)
 | cmp (op:CmpOp) (a b:X)
 | cmp2 (o1 o2:CmpOp) (a b c:X)
 | and (l:List X)
 | or (l:List X)
 | ite (c a b:X)
 | tup (l:List X)
 | lst (l:List X)
 | mlst (l:List X)
 | sub (a i:X)
 | slc (a:X) (lo hi st:Option X)
 | call (f:Nat) (args:List X)
 | meth (m:Nat) (o:X) (args:List X)
 | attr (m:Nat) (o:X)
 | comp (elt:X) (t:T) (it:X) (ifs:List X) (own:List Nat)
 | subG (i:Nat) (a:X)
 | range (args:List X)
 | enum (a:X)
 | zip (a b:X)
inductive S where
 | assign (i:Nat) (e:X)
 | unpack (l:List Nat) (e:X)
 | aug (i:Nat) (op:Operator) (e:X)
 | ite (c:X) (a b:List S)
 | for (t:T) (it:X) (body:List S)
 | ret (e:X)
 | expr (e:X)
 | lexer (i:Nat) (e:X)
 | fit (i j:Nat)
 | chars (t:T) (i:Nat) (body:List S)
 | line (j:Nat)
 | brk
 | cont
inductive F where
 | next | brk | cont | ret (v:V)
noncomputable abbrev Rho:=List (Nat×V)
noncomputable abbrev Mu:=List M
noncomputable def put(i:Nat)(v:V):Rho->Rho
 | []=>[(i,v)]
 | p::r=>if p.1==i then(i,v)::r else p::put i v r
noncomputable def big:Nat:=1000000
mutual
noncomputable def b1l:V->Option PyData
 | .none=>some .none
 | .bool b=>some (.bool b)
 | .int i=>some (.int i)
 | .flt _=>Option.none
 | .str s=>some (.str ⟨s.toArray⟩)
 | .tup l=>(toPys l).map .tuple
 | .lst l=>(toPys l).map .list
 | .mut _=>Option.none
 | .typ _=>Option.none
noncomputable def toPys:List V->Option (List PyData)
 | []=>some []
 | x::r=>match b1l x,toPys r with
  | some a,some b=>some (a::b)
  | _,_=>Option.none
end
noncomputable def look(μ:Mu):V->V
 | .mut k=>match μ[k]? with
  | some (.list l)=>.lst l
  | _=>.mut k
 | v=>v
noncomputable def fl(r:UInt64):Option V:=some (.flt r)
noncomputable def small(n:Int):Bool:=decide (n.natAbs<2^60)
noncomputable def a0p:Operator->V->V->Option V
 | .Add,.int a,.int b=>some (.int (a+b))
 | .Sub,.int a,.int b=>some (.int (a-b))
 | .Sub,.bool a,.bool b=>some (.int (b2i a-b2i b))
 | .Mult,.int a,.int b=>if small a then some (.int (a * b))else .none
 | .FloorDiv,.int a,.int b=>if b != 0&&small b then some (.int (a.fdiv b))else .none
 | .Mod,.int a,.int b=>if b != 0 then some (.int (a.fmod b))else .none
 | .Pow,.int a,.int b=>if decide (0<=b)&&decide (b<=1000)&&small a then some (.int (a^b.toNat))else .none
 | .Div,.int a,.int b=>if b != 0&&!(Float64.isInf (Float64.ofFrac (decide (a<0) != decide (b<0)) a.natAbs b.natAbs))then fl (Float64.ofFrac (decide (a<0) != decide (b<0)) a.natAbs b.natAbs)else .none
 | .Add,.flt a,.flt b=>fl (Float64.add a b)
 | .Sub,.flt a,.flt b=>fl (Float64.sub a b)
 | .Mult,.flt a,.flt b=>fl (Float64.mul a b)
 | .Div,.flt a,.flt b=>if !(Float64.isZero b)then fl (Float64.div a b)else .none
 | .Mod,.flt a,.flt b=>if !(Float64.isZero b)then fl (Float64.divmod a b).snd else .none
 | .Add,.flt a,.int n=>if small n then fl (Float64.add a (Float64.ofInt n))else .none
 | .Sub,.flt a,.int n=>if small n then fl (Float64.sub a (Float64.ofInt n))else .none
 | .Mult,.int n,.flt a=>if small n then fl (Float64.mul (Float64.ofInt n) a)else .none
 | .Add,.str a,.str b=>if decide (a.length+b.length<=big)then some (.str (a++b))else .none
 | .Mult,.str a,.int n=>if decide (a.length * n.toNat<=big)&&small n then some (.str (List.replicate n.toNat a).flatten)else .none
 | .Add,.lst a,.lst b=>if decide (a.length+b.length<=big)then some (.lst (a++b))else .none
 | .Mult,.lst a,.int n=>if decide (a.length * n.toNat<=big)&&small n then some (.lst (List.replicate n.toNat a).flatten)else .none
 | _,_,_=>.none
section
variable(a b:Int)(x y:UInt64)(s t:List Nat)(l m:List V)
theorem b2o:a0p .Mult (.int a) (.int b)=if small a then some (.int (a * b))else .none:=rfl
theorem a6u:a0p .FloorDiv (.int a) (.int b)=if b != 0&&small b then some (.int (a.fdiv b))else .none:=rfl
theorem b0p:a0p .Mod (.int a) (.int b)=if b != 0 then some (.int (a.fmod b))else .none:=rfl
theorem b2j:a0p .Pow (.int a) (.int b)=if decide (0<=b)&&decide (b<=1000)&&small a then some (.int (a^b.toNat))else .none:=rfl
theorem b5j:a0p .Div (.int a) (.int b)=if b != 0&&!(Float64.isInf (Float64.ofFrac (decide (a<0) != decide (b<0)) a.natAbs b.natAbs))then fl (Float64.ofFrac (decide (a<0) != decide (b<0)) a.natAbs b.natAbs)else .none:=rfl
theorem b2r:a0p .Div (.flt x) (.flt y)=if !(Float64.isZero y)then fl (Float64.div x y)else .none:=rfl
theorem b2g:a0p .Mod (.flt x) (.flt y)=if !(Float64.isZero y)then fl (Float64.divmod x y).snd else .none:=rfl
theorem b1a:a0p .Add (.flt x) (.int a)=if small a then fl (Float64.add x (Float64.ofInt a))else .none:=rfl
theorem a9z:a0p .Sub (.flt x) (.int a)=if small a then fl (Float64.sub x (Float64.ofInt a))else .none:=rfl
theorem a8d:a0p .Mult (.int a) (.flt x)=if small a then fl (Float64.mul (Float64.ofInt a) x)else .none:=rfl
theorem b1z:a0p .Add (.str s) (.str t)=if decide (s.length+t.length<=big)then some (.str (s++t))else .none:=rfl
theorem b2k:a0p .Mult (.str s) (.int a)=if decide (s.length * a.toNat<=big)&&small a then some (.str (List.replicate a.toNat s).flatten)else .none:=rfl
theorem b1y:a0p .Add (.lst l) (.lst m)=if decide (l.length+m.length<=big)then some (.lst (l++m))else .none:=rfl
theorem b1v:a0p .Mult (.lst l) (.int a)=if decide (l.length * a.toNat<=big)&&small a then some (.lst (List.replicate a.toNat l).flatten)else .none:=rfl
theorem b5i:a0p .Add (.int a) (.int b)=some (.int (a+b)):=rfl
end
noncomputable def eqv(u v:V):Option Bool:=match b1l u,b1l v with
 | some a,some b=>if SeqAt.shaped a&&SeqAt.shaped b then some (a.eqv b)else .none
 | _,_=>match u,v with
  | .flt a,.flt b=>some (Float64.cmp a b==some .eq)
  | _,_=>.none
noncomputable def e1q(u v:V):Option Bool:=match u,v with
 | .str x,.str y=>some (Txt.contains ⟨y.toArray⟩ ⟨x.toArray⟩)
 | _,.lst l=>match b1l u,toPys l with
  | some d,some xs=>if SeqAt.shaped (.list xs)&&SeqAt.shaped d then some (xs.any fun y=>y.eqv d)else .none
  | _,_=>.none
 | _,_=>.none
noncomputable def a8z(l:List V)(x:V):Option Nat:=(b1l x).bind fun d=>(toPys l).bind fun xs=>if SeqAt.shaped (.list xs)&&SeqAt.shaped d then xs.findIdx? fun y=>y.eqv d else .none
noncomputable def a0s:CmpOp->V->V->Option Bool
 | .Eq,u,v=>eqv u v
 | .NotEq,u,v=>(eqv u v).map (!·)
 | .In,u,v=>e1q u v
 | .Is,.bool a,.bool b=>some (a==b)
 | .Lt,.int a,.int b=>some (decide (a<b))
 | .LtE,.int a,.int b=>some (decide (a<=b))
 | .Gt,.int a,.int b=>some (decide (a>b))
 | .GtE,.int a,.int b=>some (decide (a≥b))
 | .Lt,.flt a,.flt b=>some (Float64.cmp a b==some .lt)
 | .LtE,.flt a,.flt b=>some (Float64.cmp a b==some .lt||Float64.cmp a b==some .eq)
 | .LtE,.int n,.flt a=>some (Float64.cmpInt a n==some .gt||Float64.cmpInt a n==some .eq)
 | .LtE,.flt a,.int n=>some (Float64.cmpInt a n==some .lt||Float64.cmpInt a n==some .eq)
 | _,_,_=>.none
theorem e7d(u v:V):a0s .Eq u v=eqv u v:=rfl
theorem e7k(u v:V):a0s .NotEq u v=(eqv u v).map (!·):=rfl
theorem e7a(u v:V):a0s .In u v=e1q u v:=rfl
theorem e6v(a b:Int):a0s .Lt (.int a) (.int b)=some (decide (a<b)):=rfl
theorem e6s(a b:Int):a0s .LtE (.int a) (.int b)=some (decide (a<=b)):=rfl
theorem e6w(a b:Int):a0s .Gt (.int a) (.int b)=some (decide (a>b)):=rfl
theorem e7o(a b:Int):a0s .GtE (.int a) (.int b)=some (decide (a≥b)):=rfl
noncomputable def a2z:V->Option Bool
 | .bool b=>some b
 | .str s=>if s.length<=big then some (!s.isEmpty)else .none
 | .lst l=>if l.length<=big then some (!l.isEmpty)else .none
 | _=>.none
noncomputable def item:V->V->Option V
 | .lst l,.int k=>if l.length<=big then(seqIndex? k l.length).bind (l[·]?)else .none
 | .tup l,.int k=>if l.length<=big then(seqIndex? k l.length).bind (l[·]?)else .none
 | _,_=>.none
noncomputable def c3b:Option V->Option (Option Int)
 | .none=>some .none
 | some (.int i)=>some (some i)
 | some .none=>some .none
 | _=>.none
noncomputable def slT(l:List V)(hi st:Option Int):Option Int->Option V
 | some (.ofNat a)=>if 1<=a/\a<=l.length/\l.length<=big/\hi=.none/\st=.none then some (.tup (l.drop a))else .none
 | _=>.none
noncomputable def a1f(a:V)(lo hi st:Option Int):Option V:=
 if st==some 0 then .none else match a with
 | .lst l=>if l.length<=big then some (.lst ((sliceRange (sliceBounds lo hi st l.length).1 (sliceBounds lo hi st l.length).2.1 (sliceBounds lo hi st l.length).2.2).filterMap (l[·]?)))else .none
 | .str s=>if s.length<=big/\((Builtin.Str.strSliceIndices lo hi (st.getD 1) s.length).filterMap (s[·]?)).length<=big then some (.str (if(st.getD 1==1&&(Builtin.Str.strSliceIndices lo hi (st.getD 1) s.length).length==s.length)=true then s else(Builtin.Str.strSliceIndices lo hi (st.getD 1) s.length).filterMap (s[·]?)))else .none
 | .tup l=>slT l hi st lo
 | _=>.none
noncomputable def a8l:List Nat->V->Rho->Option Rho
 | is,.tup l,ρ=>if is.length==l.length then some ((is.zip l).foldl (fun ρ p=>put p.1 p.2 ρ) ρ)else .none
 | is,.lst l,ρ=>if is.length==l.length then some ((is.zip l).foldl (fun ρ p=>put p.1 p.2 ρ) ρ)else .none
 | _,_,_=>.none
noncomputable def a2b:T->V->Rho->Option Rho
 | .one i,v,ρ=>some (put i v ρ)
 | .many is,.tup l,ρ=>a8l is (.tup l) ρ
 | _,_,_=>.none
section
variable{γ:Type}{r:γ}{P:Prop}
theorem a7b{e:Option (V×Mu)}{f:V->Mu->Option γ}(h:(match e with | some (a,b)=>f a b | .none=>.none)=some r)(k:∀ a b,e=some (a,b)->f a b=some r->P):P:=by
 induction e using Option.casesOn with
 | none=>exact ns h
 | some p=>exact k p.1 p.2 rfl h
theorem c9i{e:Option (List V×Mu)}{f:List V->Mu->Option γ}(h:(match e with | some (a,b)=>f a b | .none=>.none)=some r)(k:∀ a b,e=some (a,b)->f a b=some r->P):P:=by
 induction e using Option.casesOn with
 | none=>exact ns h
 | some p=>exact k p.1 p.2 rfl h
theorem e9m{e:Option (Option V×Mu)}{f:Option V->Mu->Option γ}(h:(match e with | some (a,b)=>f a b | .none=>.none)=some r)(k:∀ a b,e=some (a,b)->f a b=some r->P):P:=by
 induction e using Option.casesOn with
 | none=>exact ns h
 | some p=>exact k p.1 p.2 rfl h
theorem d3a{e:Option Bool}{a b:Option γ}(h:(match e with | some true=>a | some false=>b | .none=>.none)=some r)(k1:e=some true->a=some r->P)(k2:e=some false->b=some r->P):P:=by
 induction e using Option.casesOn with
 | none=>exact ns h
 | some c=>induction c using Bool.casesOn with
  | true=>exact k1 rfl h
  | false=>exact k2 rfl h
end
structure G where
 tbl:List Str
 glob:Nat->Option V
 call:Nat->Nat->List V->Mu->Option (V×Mu)
 find:Nat->V->Mu->Bool
 meth:Nat->Nat->V->List V->Mu->Option (V×Mu)
 attr:Nat->V->Mu->Option V
 dic:Nat->Option (List (List Nat×Int))
 lexOn:Bool
noncomputable def evs(f:X->Mu->Option (V×Mu)):List X->Mu->Option (List V×Mu)
 | [],μ=>some ([],μ)
 | x::r,μ=>match f x μ with
  | some (v,μ)=>match evs f r μ with
   | some (vs,μ)=>some (v::vs,μ)
   | .none=>.none
  | .none=>.none
noncomputable def evo(f:X->Mu->Option (V×Mu)):Option X->Mu->Option (Option V×Mu)
 | .none,μ=>some (.none,μ)
 | some x,μ=>match f x μ with
  | some (v,μ)=>some (some v,μ)
  | .none=>.none
noncomputable def d1r(f:X->Mu->Option (V×Mu)):List X->Mu->Option (V×Mu)
 | [],_=>.none
 | [x],μ=>f x μ
 | x::r,μ=>match f x μ with
  | some (v,μ)=>match a2z (look μ v)with
   | some true=>d1r f r μ
   | some false=>some (v,μ)
   | .none=>.none
  | .none=>.none
noncomputable def ors(f:X->Mu->Option (V×Mu)):List X->Mu->Option (V×Mu)
 | [],_=>.none
 | [x],μ=>f x μ
 | x::r,μ=>match f x μ with
  | some (v,μ)=>match a2z (look μ v)with
   | some true=>some (v,μ)
   | some false=>ors f r μ
   | .none=>.none
  | .none=>.none
noncomputable def a2d(a b c:Int):List V:=(List.range (Builtin.Range.rangeSize a b c).toNat).map fun(i:Nat)=>.int (a+(i:Int) * c)
noncomputable def d3o:V->Option Int
 | .int i=>some i
 | _=>.none
noncomputable def a4j:List V->Option (List V)
 | []=>.none
 | [x]=>(d3o x).bind fun b=>if Builtin.Range.small 0 b 1 then some (a2d 0 b 1)else .none
 | [x,y]=>(d3o x).bind fun a=>(d3o y).bind fun b=>if Builtin.Range.small a b 1 then some (a2d a b 1)else .none
 | _::_::_::_=>.none
theorem d2b{b:Int}(h:Builtin.Range.small 0 b 1=true):a4j [.int b]=some (a2d 0 b 1):=if_pos h
theorem d1c{a b:Int}(h:Builtin.Range.small a b 1=true):a4j [.int a,.int b]=some (a2d a b 1):=if_pos h
noncomputable def a5s:V->Option (List V)
 | .lst l=>some l
 | .tup l=>some l
 | .str s=>if s.all (fun c=>decide (c<128))then some (s.map fun c=>.str [c])else .none
 | _=>.none
noncomputable def e7n:X->Bool
 | .range _=>true
 | .enum _=>true
 | .zip _ _=>true
 | _=>false
noncomputable def a1s(f:X->Mu->Option (V×Mu))(x:X)(μ:Mu):Option (List V×Mu):=if e7n x then match x with
 | .range args=>match evs f args μ with
  | some (vs,μ)=>(a4j vs).map (·,μ)
  | .none=>.none
 | .enum a=>match f a μ with
  | some (.lst l,μ)=>some (l.zipIdx.map fun p=>.tup [.int p.2,p.1],μ)
  | _=>.none
 | _=>.none
 else match f x μ with
  | some (v,μ)=>(a5s v).map (·,μ)
  | .none=>.none
noncomputable def b4i(f:X->Mu->Option (V×Mu)):List X->Mu->Option (Bool×Mu)
 | [],μ=>some (true,μ)
 | x::r,μ=>match f x μ with
  | some (v,μ)=>match a2z (look μ v)with
   | some true=>b4i f r μ
   | some false=>some (false,μ)
   | .none=>.none
  | .none=>.none
noncomputable def a5n(f:X->Rho->Mu->Option (V×Mu))(elt:X)(t:T)(ifs:List X):List V->Rho->Mu->Option (List V×Mu)
 | [],_,μ=>some ([],μ)
 | v::r,ρ,μ=>match a2b t v ρ with
  | .none=>.none
  | some ρ=>match b4i (fun x μ=>f x ρ μ) ifs μ with
   | .none=>.none
   | some (false,μ)=>a5n f elt t ifs r ρ μ
   | some (true,μ)=>match f elt ρ μ with
    | .none=>.none
    | some (y,μ)=>match a5n f elt t ifs r ρ μ with
     | .none=>.none
     | some (ys,μ)=>some (y::ys,μ)
noncomputable def a4e(f:X->Rho->Mu->Option (V×Mu))(elt:X)(t:T)(ifs:List X)(P:Mu->Prop)[∀ μ,Decidable (P μ)]:List V->Rho->Mu->Option (List V×Mu)
 | [],_,μ=>if P μ then some ([],μ)else .none
 | v::r,ρ,μ=>if P μ then match a2b t v ρ with
  | .none=>.none
  | some ρ=>match b4i (fun x μ=>f x ρ μ) ifs μ with
   | .none=>.none
   | some (false,μ)=>a4e f elt t ifs P r ρ μ
   | some (true,μ)=>match f elt ρ μ with
    | .none=>.none
    | some (y,μ)=>match a4e f elt t ifs P r ρ μ with
     | .none=>.none
     | some (ys,μ)=>some (y::ys,μ)
  else .none
noncomputable def d1l(f:X->Mu->Option (V×Mu))(x:X)(μ:Mu):Option (Nat×M×List V×Mu):=match f x μ with
 | some (.mut k,μ)=>match μ[k]? with
  | some (.list l)=>some (k,.list l,l,μ)
  | _=>.none
 | _=>.none
noncomputable def e4v(f:X->Mu->Option (V×Mu))(a b:X)(μ:Mu):Option (Nat×M×List V×Mu):=match f a μ with
 | some (.lst l,μ)=>match f b μ with
  | some (.lst m,μ)=>if l.length=m.length then some (μ.length,.obj [] (-9),(l.zip m).map fun p=>.tup [p.1,p.2],μ++[.obj [] (-9)])else .none
  | _=>.none
 | _=>.none
noncomputable def b6i(f:X->Mu->Option (V×Mu))(x:X)(μ:Mu):Option (Nat×M×List V×Mu):=if e7n x then match x with
 | .zip a b=>e4v f a b μ
 | _=>.none
 else d1l f x μ
open Classical in
noncomputable def d4b(f:X->Rho->Mu->Option (V×Mu))(elt:X)(t:T)(it:X)(ifs:List X)(ρ ρ':Rho)(μ:Mu):Option (V×Mu):=(b6i (fun x μ=>f x ρ μ) it μ).bind fun q=>if q.2.2.1.length<=big then
 (a4e f elt t ifs (fun μ=>μ[q.1]?=some q.2.1) q.2.2.1 ρ' q.2.2.2).map fun p=>(.lst p.1,p.2)else .none
noncomputable def ev(Γ:G):Nat->X->Rho->Mu->Option (V×Mu)
 | 0,_,_,_=>.none
 | n+1,x,ρ,μ=>match x with
  | .cst v=>some (v,μ)
  | .loc i=>(ρ.lookup i).map (·,μ)
  | .glb i=>(Γ.glob i).map (·,μ)
  | .bin op a b=>match ev Γ n a ρ μ with
   | some (u,μ)=>match ev Γ n b ρ μ with
    | some (v,μ)=>(a0p op (look μ u) (look μ v)).map (·,μ)
    | .none=>.none
   | .none=>.none
  | .neg a=>match ev Γ n a ρ μ with
   | some (.int i,μ)=>some (.int (-i),μ)
   | _=>.none
  | .cmp op a b=>match ev Γ n a ρ μ with
   | some (u,μ)=>match ev Γ n b ρ μ with
    | some (v,μ)=>(a0s op (look μ u) (look μ v)).map fun b=>(.bool b,μ)
    | .none=>.none
   | .none=>.none
  | .cmp2 o1 o2 a b c=>match ev Γ n a ρ μ with
   | some (u,μ)=>match ev Γ n b ρ μ with
    | some (v,μ)=>match a0s o1 (look μ u) (look μ v)with
     | some true=>match ev Γ n c ρ μ with
      | some (w,μ)=>(a0s o2 (look μ v) (look μ w)).map fun b=>(.bool b,μ)
      | .none=>.none
     | some false=>some (.bool false,μ)
     | .none=>.none
    | .none=>.none
   | .none=>.none
  | .and l=>d1r (fun x μ=>ev Γ n x ρ μ) l μ
  | .or l=>ors (fun x μ=>ev Γ n x ρ μ) l μ
  | .ite c a b=>match ev Γ n c ρ μ with
   | some (v,μ)=>match a2z (look μ v)with
    | some true=>ev Γ n a ρ μ
    | some false=>ev Γ n b ρ μ
    | .none=>.none
   | .none=>.none
  | .tup l=>match evs (fun x μ=>ev Γ n x ρ μ) l μ with
   | some (vs,μ)=>if vs.length<=big then some (.tup vs,μ)else .none
   | .none=>.none
  | .lst l=>match evs (fun x μ=>ev Γ n x ρ μ) l μ with
   | some (vs,μ)=>if vs.length<=big then some (.lst vs,μ)else .none
   | .none=>.none
  | .mlst l=>match evs (fun x μ=>ev Γ n x ρ μ) l μ with
   | some (vs,μ)=>if vs.length<=big then some (.mut μ.length,μ++[.list vs])else .none
   | .none=>.none
  | .sub a i=>match ev Γ n a ρ μ with
   | some (u,μ)=>match ev Γ n i ρ μ with
    | some (v,μ)=>(item (look μ u) v).map (·,μ)
    | .none=>.none
   | .none=>.none
  | .slc a lo hi st=>match ev Γ n a ρ μ with
   | some (u,μ)=>match evo (fun x μ=>ev Γ n x ρ μ) lo μ with
    | some (l,μ)=>match evo (fun x μ=>ev Γ n x ρ μ) hi μ with
     | some (h,μ)=>match evo (fun x μ=>ev Γ n x ρ μ) st μ with
      | some (s,μ)=>match c3b l,c3b h,c3b s with
       | some l,some h,some s=>(a1f (look μ u) l h s).map (·,μ)
       | _,_,_=>.none
      | .none=>.none
     | .none=>.none
    | .none=>.none
   | .none=>.none
  | .call f args=>match evs (fun x μ=>ev Γ n x ρ μ) args μ with
   | some (vs,μ)=>Γ.call n f vs μ
   | .none=>.none
  | .meth m o args=>match ev Γ n o ρ μ with
   | some (u,μ)=>if Γ.find m u μ then match evs (fun x μ=>ev Γ n x ρ μ) args μ with
     | some (vs,μ)=>Γ.meth n m u vs μ
     | .none=>.none
    else .none
   | .none=>.none
  | .attr m o=>match ev Γ n o ρ μ with
   | some (u,μ)=>(Γ.attr m u μ).map (·,μ)
   | .none=>.none
  | .comp elt t it ifs own=>match a1s (fun x μ=>ev Γ n x ρ μ) it μ with
   | some (vs,μ)=>if vs.length<=big then
     match a5n (ev Γ n) elt t ifs vs (ρ.filter fun p=>!own.contains p.1) μ with
     | some (ys,μ)=>some (.lst ys,μ)
     | .none=>.none
    else .none
   | .none=>d4b (ev Γ n) elt t it ifs ρ (ρ.filter fun p=>!own.contains p.1) μ
  | .subG i a=>match ev Γ n a ρ μ,Γ.dic i with
   | some (.str x,μ),some l=>(l.lookup x).map fun k=>(.int k,μ)
   | _,_=>.none
  | .range _=>.none
  | .enum _=>.none
  | .zip _ _=>.none
noncomputable def a6x(f:Rho->Mu->Option (F×Rho×Mu))(t:T):List V->Rho->Mu->Option (F×Rho×Mu)
 | [],ρ,μ=>some (.next,ρ,μ)
 | v::r,ρ,μ=>match a2b t v ρ with
  | .none=>.none
  | some ρ=>match f ρ μ with
   | .none=>.none
   | some (.brk,ρ,μ)=>some (.next,ρ,μ)
   | some (.ret v,ρ,μ)=>some (.ret v,ρ,μ)
   | some (_,ρ,μ)=>a6x f t r ρ μ
noncomputable def a3h(f:Rho->Mu->Option (F×Rho×Mu))(t:T)(P:Mu->Prop)[∀ μ,Decidable (P μ)]:List V->Rho->Mu->Option (F×Rho×Mu)
 | [],ρ,μ=>if P μ then some (.next,ρ,μ)else .none
 | v::r,ρ,μ=>if P μ then match a2b t v ρ with
  | .none=>.none
  | some ρ=>match f ρ μ with
   | .none=>.none
   | some (.brk,ρ,μ)=>some (.next,ρ,μ)
   | some (.ret v,ρ,μ)=>some (.ret v,ρ,μ)
   | some (_,ρ,μ)=>a3h f t P r ρ μ
  else .none
open Classical in
noncomputable def e2e(g:X->Rho->Mu->Option (V×Mu))(f:Rho->Mu->Option (F×Rho×Mu))(t:T)(it:X)(ρ:Rho)(μ:Mu):Option (F×Rho×Mu):=(b6i (fun x μ=>g x ρ μ) it μ).bind fun q=>
 a3h f t (fun μ=>μ[q.1]?=some q.2.1) q.2.2.1 ρ q.2.2.2
noncomputable def a3j(f:S->Rho->Mu->Option (F×Rho×Mu)):List S->Rho->Mu->Option (F×Rho×Mu)
 | [],ρ,μ=>some (.next,ρ,μ)
 | s::r,ρ,μ=>match f s ρ μ with
  | some (.next,ρ,μ)=>a3j f r ρ μ
  | x=>x
noncomputable def chars(t:List Nat):List V:=t.reverse.map fun c=>.str [c]
noncomputable def a7h(μ:Mu)(t:List Nat):Option (Nat×Mu):=if t.length<=big then match (μ[0]?:Option M)with
 | some (.obj [] (-1))=>some (μ.length+2,μ.set 0 (.obj [μ.length+1] (-5))++[.list (chars t),.obj [] (-6),.obj [μ.length,μ.length+1] (-3)])
 | _=>.none
 else .none
noncomputable def b2a(m ks:Nat):Mu:=[.list [],.obj [m,ks] 1]
noncomputable def a0r(μ:Mu)(k:Nat):Option (List Nat×Mu):=match μ[k]? with
 | some (.obj [kp,ks] n)=>if 1<=n then match μ[ks]? with
  | some (.obj [kl,kc] (-3))=>match μ[kl]?,μ[kc]? with
   | some (.list L),some (.obj [] (-6))=>if L.length<=big then match L.getLast? with
    | .none=>some ([],μ)
    | some (.str [c])=>if c<1114112 then(if c=10 then some ([c],(μ.set kl (.list L.dropLast)).set k (.obj [kp,ks] (n+1)))else some ([c],μ.set kl (.list L.dropLast)))else .none
    | _=>.none
    else .none
   | _,_=>.none
  | _=>.none
  else .none
 | _=>.none
noncomputable def draw(μ:Mu)(kf:Nat):Option (Option (List Nat)×Mu):=match μ[kf]? with
 | some (.obj [k] (-2))=>match a0r μ k with
  | some ([],μ)=>some (.none,μ.set kf (.obj [k] (-4)))
  | some (c,μ)=>some (some c,μ)
  | .none=>.none
 | some (.obj [_] (-4))=>some (.none,μ)
 | _=>.none
noncomputable def a2t(f:Rho->Mu->Option (F×Rho×Mu))(t:T)(kf:Nat):Nat->Rho->Mu->Option (F×Rho×Mu)
 | 0,_,_=>.none
 | m+1,ρ,μ=>match draw μ kf with
  | .none=>.none
  | some (.none,μ)=>some (.next,ρ,μ)
  | some (some c,μ)=>match a2b t (.str c) ρ with
   | .none=>.none
   | some ρ=>match f ρ μ with
    | .none=>.none
    | some (.brk,ρ,μ)=>some (.next,ρ,μ)
    | some (.ret v,ρ,μ)=>some (.ret v,ρ,μ)
    | some (_,ρ,μ)=>a2t f t kf m ρ μ
noncomputable def c2l:Operator->V->V->Option V
 | .Add,.str a,.str b=>if decide (a.length+b.length<=big)then some (.str (a++b))else .none
 | _,_,_=>.none
noncomputable def exec(Γ:G):Nat->List S->Rho->Mu->Option (F×Rho×Mu)
 | 0,_,_,_=>.none
 | n+1,ss,ρ,μ=>a3j (fun s ρ μ=>match s with
  | .assign i e=>match ev Γ n e ρ μ with
   | some (v,μ)=>some (.next,put i v ρ,μ)
   | .none=>.none
  | .unpack l e=>match ev Γ n e ρ μ with
   | some (v,μ)=>(a8l l v ρ).map fun ρ=>(.next,ρ,μ)
   | .none=>.none
  | .aug i op e=>match ρ.lookup i with
   | some u=>match ev Γ n e ρ μ with
    | some (v,μ)=>(c2l op u v).map fun r=>(.next,put i r ρ,μ)
    | .none=>.none
   | .none=>.none
  | .ite c a b=>match ev Γ n c ρ μ with
   | some (v,μ)=>match a2z (look μ v)with
    | some true=>exec Γ n a ρ μ
    | some false=>exec Γ n b ρ μ
    | .none=>.none
   | .none=>.none
  | .for t it body=>match a1s (fun x μ=>ev Γ n x ρ μ) it μ with
   | some (vs,μ)=>a6x (fun ρ μ=>exec Γ n body ρ μ) t vs ρ μ
   | .none=>e2e (ev Γ n) (fun ρ μ=>exec Γ n body ρ μ) t it ρ μ
  | .ret e=>match ev Γ n e ρ μ with
   | some (v,μ)=>some (.ret v,ρ,μ)
   | .none=>.none
  | .expr e=>match ev Γ n e ρ μ with
   | some (_,μ)=>some (.next,ρ,μ)
   | .none=>.none
  | .lexer i e=>if Γ.lexOn&&decide (12<=n)then match ev Γ n e ρ μ with
   | some (.mut ks,μ)=>match μ[ks]? with
    | some (.obj [_,_] (-3))=>some (.next,put i (.mut (μ.length+1)) ρ,μ++b2a μ.length ks)
    | _=>.none
   | _=>.none
   else .none
  | .fit i j=>if Γ.lexOn&&decide (12<=n)then match ρ.lookup j with
   | some (.mut k)=>match μ[k]? with
    | some (.obj [_,_] m)=>if 1<=m then some (.next,put i (.mut μ.length) ρ,μ++[.obj [k] (-2)])else .none
    | _=>.none
   | _=>.none
   else .none
  | .chars t i body=>if Γ.lexOn&&decide (12<=n)then match ρ.lookup i with
   | some (.mut k)=>a2t (fun ρ μ=>exec Γ n body ρ μ) t k big ρ μ
   | _=>.none
   else .none
  | .line j=>match ρ.lookup j with
   | some (.mut k)=>match μ[k]? with
    | some (.obj is m)=>if 1<=m then some (.next,ρ,μ.set k (.obj is (m+1)))else .none
    | _=>.none
   | _=>.none
  | .brk=>some (.brk,ρ,μ)
  | .cont=>some (.cont,ρ,μ)) ss ρ μ
mutual
noncomputable def a4u(m:Nat)(μ:Mu):V->Option V
 | .mut k=>if k<m then some (.mut k)else match μ[k]? with
  | some (.list l)=>if a0q l then some (.lst l)else .none
  | _=>.none
 | .tup l=>(b0h m μ l).map .tup
 | .lst l=>if a0q l then some (.lst l)else .none
 | v=>some v
noncomputable def b0h(m:Nat)(μ:Mu):List V->Option (List V)
 | []=>some []
 | x::r=>match a4u m μ x,b0h m μ r with
  | some a,some b=>some (a::b)
  | _,_=>.none
noncomputable def plain:V->Bool
 | .mut _=>false
 | .tup l=>a0q l
 | .lst l=>a0q l
 | _=>true
noncomputable def a0q:List V->Bool
 | []=>true
 | x::r=>plain x&&a0q r
end
noncomputable def okM(m:Nat):M->Bool
 | .list l=>a0q l
 | .obj is _=>is.all (·<m)
noncomputable def a4f(Γ:G)(n:Nat)(params:List Nat)(body:List S)(args:List V)(μ:Mu):Option (V×Mu):=
 if params.length==args.length then match exec Γ n body (params.zip args) μ with
  | some (.ret v,_,μ')=>if(μ'.take μ.length).all (okM μ.length)then(a4u μ.length μ' v).map (·,μ'.take μ.length)else .none
  | some (.next,_,μ')=>if(μ'.take μ.length).all (okM μ.length)then some (.none,μ'.take μ.length)else .none
  | _=>.none
 else .none
section
variable{Γ:G}{n:Nat}{ρ:Rho}{μ:Mu}{a b c i:X}{l:List X}
theorem e3f{v:V}:ev Γ (n+1) (.cst v) ρ μ=some (v,μ):=rfl
theorem e3b{k:Nat}:ev Γ (n+1) (.loc k) ρ μ=(ρ.lookup k).map (·,μ):=rfl
theorem e5w{k:Nat}:ev Γ (n+1) (.glb k) ρ μ=(Γ.glob k).map (·,μ):=rfl
theorem d6n{op:Operator}:ev Γ (n+1) (.bin op a b) ρ μ=(match ev Γ n a ρ μ with
  | some (u,μ)=>match ev Γ n b ρ μ with
   | some (v,μ)=>(a0p op (look μ u) (look μ v)).map (·,μ)
   | .none=>.none
  | .none=>.none):=rfl
theorem e5p:ev Γ (n+1) (.neg a) ρ μ=(match ev Γ n a ρ μ with
  | some (.int i,μ)=>some (.int (-i),μ)
  | _=>.none):=rfl
theorem c9z{op:CmpOp}:ev Γ (n+1) (.cmp op a b) ρ μ=(match ev Γ n a ρ μ with
  | some (u,μ)=>match ev Γ n b ρ μ with
   | some (v,μ)=>(a0s op (look μ u) (look μ v)).map fun b=>(.bool b,μ)
   | .none=>.none
  | .none=>.none):=rfl
theorem d7o:ev Γ (n+1) (.ite c a b) ρ μ=(match ev Γ n c ρ μ with
  | some (v,μ)=>match a2z (look μ v)with
   | some true=>ev Γ n a ρ μ
   | some false=>ev Γ n b ρ μ
   | .none=>.none
  | .none=>.none):=rfl
theorem e0r:ev Γ (n+1) (.tup l) ρ μ=(match evs (fun x μ=>ev Γ n x ρ μ) l μ with
  | some (vs,μ)=>if vs.length<=big then some (.tup vs,μ)else .none
  | .none=>.none):=rfl
theorem d8r:ev Γ (n+1) (.lst l) ρ μ=(match evs (fun x μ=>ev Γ n x ρ μ) l μ with
  | some (vs,μ)=>if vs.length<=big then some (.lst vs,μ)else .none
  | .none=>.none):=rfl
theorem c3m:ev Γ (n+1) (.mlst l) ρ μ=(match evs (fun x μ=>ev Γ n x ρ μ) l μ with
  | some (vs,μ)=>if vs.length<=big then some (.mut μ.length,μ++[.list vs])else .none
  | .none=>.none):=rfl
theorem d7k:ev Γ (n+1) (.sub a i) ρ μ=(match ev Γ n a ρ μ with
  | some (u,μ)=>match ev Γ n i ρ μ with
   | some (v,μ)=>(item (look μ u) v).map (·,μ)
   | .none=>.none
  | .none=>.none):=rfl
theorem c3c{lo hi st:Option X}:ev Γ (n+1) (.slc a lo hi st) ρ μ=(match ev Γ n a ρ μ with
  | some (u,μ)=>match evo (fun x μ=>ev Γ n x ρ μ) lo μ with
   | some (l,μ)=>match evo (fun x μ=>ev Γ n x ρ μ) hi μ with
    | some (h,μ)=>match evo (fun x μ=>ev Γ n x ρ μ) st μ with
     | some (s,μ)=>match c3b l,c3b h,c3b s with
      | some l,some h,some s=>(a1f (look μ u) l h s).map (·,μ)
      | _,_,_=>.none
     | .none=>.none
    | .none=>.none
   | .none=>.none
  | .none=>.none):=rfl
theorem c4n{f:Nat}:ev Γ (n+1) (.call f l) ρ μ=(match evs (fun x μ=>ev Γ n x ρ μ) l μ with
  | some (vs,μ)=>Γ.call n f vs μ
  | .none=>.none):=rfl
theorem c6a{m:Nat}:ev Γ (n+1) (.meth m a l) ρ μ=(match ev Γ n a ρ μ with
  | some (u,μ)=>if Γ.find m u μ then match evs (fun x μ=>ev Γ n x ρ μ) l μ with
    | some (vs,μ)=>Γ.meth n m u vs μ
    | .none=>.none
   else .none
  | .none=>.none):=rfl
theorem c6b{m:Nat}:ev Γ (n+1) (.attr m a) ρ μ=(match ev Γ n a ρ μ with
  | some (u,μ)=>(Γ.attr m u μ).map (·,μ)
  | .none=>.none):=rfl
theorem b4z{t:T}{own:List Nat}:ev Γ (n+1) (.comp a t i l own) ρ μ=(match a1s (fun x μ=>ev Γ n x ρ μ) i μ with
  | some (vs,μ)=>if vs.length<=big then
    match a5n (ev Γ n) a t l vs (ρ.filter fun p=>!own.contains p.1) μ with
    | some (ys,μ)=>some (.lst ys,μ)
    | .none=>.none
   else .none
  | .none=>d4b (ev Γ n) a t i l ρ (ρ.filter fun p=>!own.contains p.1) μ):=rfl
theorem c5i{k:Nat}:ev Γ (n+1) (.subG k a) ρ μ=(match ev Γ n a ρ μ,Γ.dic k with
  | some (.str x,μ),some l=>(l.lookup x).map fun k=>(.int k,μ)
  | _,_=>.none):=rfl
theorem e5d{o1 o2:CmpOp}:ev Γ (n+1) (.cmp2 o1 o2 a b c) ρ μ=(match ev Γ n a ρ μ with
  | some (u,μ)=>match ev Γ n b ρ μ with
   | some (v,μ)=>match a0s o1 (look μ u) (look μ v)with
    | some true=>match ev Γ n c ρ μ with
     | some (w,μ)=>(a0s o2 (look μ v) (look μ w)).map fun b=>(.bool b,μ)
     | .none=>.none
    | some false=>some (.bool false,μ)
    | .none=>.none
   | .none=>.none
  | .none=>.none):=rfl
theorem e8t{f:S->Rho->Mu->Option (F×Rho×Mu)}{s:S}{r:List S}:a3j f (s::r) ρ μ=(match f s ρ μ with
  | some (.next,ρ,μ)=>a3j f r ρ μ
  | x=>x):=rfl
theorem f4f:look μ .none=.none:=rfl
theorem f2v{b:Bool}:look μ (.bool b)=.bool b:=rfl
theorem e4p{b:Int}:look μ (.int b)=.int b:=rfl
theorem f4c{b:UInt64}:look μ (.flt b)=.flt b:=rfl
theorem f4e{b:List Nat}:look μ (.str b)=.str b:=rfl
theorem f3k{b:List V}:look μ (.tup b)=.tup b:=rfl
theorem f1p{b:List V}:look μ (.lst b)=.lst b:=rfl
theorem e9s{k:Nat}:look μ (.mut k)=(match μ[k]? with
  | some (.list l)=>.lst l
  | _=>.mut k):=rfl
theorem f4u{b:List V}:a2z (.lst b)=if b.length<=big then some (!b.isEmpty)else .none:=rfl
theorem au_s{x y:List Nat}:c2l .Add (.str x) (.str y)=if decide (x.length+y.length<=big)then some (.str (x++y))else .none:=rfl
theorem d1t{k:Nat}{v:V}:a2b (.one k) v ρ=some (put k v ρ):=rfl
section
variable{f:X->Mu->Option (V×Mu)}{x y:X}
theorem e8f:d1r f (x::y::l) μ=(match f x μ with
  | some (v,μ)=>match a2z (look μ v)with
   | some true=>d1r f (y::l) μ
   | some false=>some (v,μ)
   | .none=>.none
  | .none=>.none):=rfl
theorem f0l:ors f (x::y::l) μ=(match f x μ with
  | some (v,μ)=>match a2z (look μ v)with
   | some true=>some (v,μ)
   | some false=>ors f (y::l) μ
   | .none=>.none
  | .none=>.none):=rfl
theorem f1x:a1s f (.range l) μ=(match evs f l μ with
  | some (vs,μ)=>(a4j vs).map (·,μ)
  | .none=>.none):=rfl
theorem f2j:a1s f (.enum x) μ=(match f x μ with
  | some (.lst l,μ)=>some (l.zipIdx.map fun p=>.tup [.int p.2,p.1],μ)
  | _=>.none):=rfl
theorem e6x{k:Nat}:a1s f (.loc k) μ=(match f (.loc k) μ with
  | some (v,μ)=>(a5s v).map (·,μ)
  | .none=>.none):=rfl
theorem f0y{lo hi st:Option X}:a1s f (.slc a lo hi st) μ=(match f (.slc a lo hi st) μ with
  | some (v,μ)=>(a5s v).map (·,μ)
  | .none=>.none):=rfl
theorem f2o:a1s f (.tup l) μ=(match f (.tup l) μ with
  | some (v,μ)=>(a5s v).map (·,μ)
  | .none=>.none):=rfl
end
end
end
section
noncomputable def nid:List Str->Str->Option Nat
 | [],_=>.none
 | y::r,x=>if y=x then some 0 else(nid r x).map (·+1)
theorem a0n:∀ {tbl:List Str} {x:Str} {i:Nat},nid tbl x=some i->tbl[i]?=some x:=by
 intro z_;induction z_ with
 | nil=>
  intro x i h;exact ns h
 | cons y r ih=>
  intro x i h;exact ifE h (fun e h'=>by rw [← Option.some.inj h',e];rfl) fun zz h'=>a1n h' fun j q e=>e▸(ih q:r[j]?=some x)
noncomputable def e3e:Const->Option V
 | .none=>some .none
 | .bool b=>some (.bool b)
 | .int i=>some (.int i)
 | .float b=>some (.flt b)
 | .str s=>some (.str s.cps.toList)
 | _=>.none
noncomputable def a1o{α β:Type}(f:α->Option β):List α->Option (List β)
 | []=>some []
 | x::r=>match f x,a1o f r with
  | some a,some b=>some (a::b)
  | _,_=>.none
theorem a4s{α β:Type}{f:α->Option β}{x:α}{r:List α}{a:β}{b:List β}(h1:f x=some a)(h2:a1o f r=some b):a1o f (x::r)=some (a::b):=by
 show(match (generalizing:=false) f x,a1o f r with | some a,some b=>some (a::b) | _,_=>.none)=_
 rw [h1,h2]
theorem a0c{α β:Type}{f:α->Option β}{x:α}{r:List α}{xs:List β}{G:Prop}(h:a1o f (x::r)=some xs)(k:∀ a b,f x=some a->a1o f r=some b->a::b=xs->G):G:=by
 have h:(match (generalizing:=false) f x,a1o f r with | some a,some b=>some (a::b) | _,_=>.none)=some xs:=h
 induction h1:f x using Option.casesOn with
 | none=>rw [h1]at h;exact ns h
 | some a=>induction h2:a1o f r using Option.casesOn with
  | none=>rw [h1,h2]at h;exact ns h
  | some b=>rw [h1,h2]at h;exact k a b h1 h2 (Option.some.inj h)
noncomputable def d8k{α β:Type}(f:α->Option β):Option α->Option (Option β)
 | .none=>some .none
 | some x=>(f x).map some
noncomputable def a1y(sc:Scope)(x:Str):Option NameKind:=sc.names.lookup x
noncomputable def a4z(sc:Scope)(x:Str):Bool:=match a1y sc x with
 | some .local=>true
 | some .cell=>true
 | some .free=>true
 | _=>false
noncomputable def a5j(sc:Scope)(x:Str):Bool:=match a1y sc x with
 | some .globalImplicit=>true
 | _=>false
noncomputable def a7y(sc:Scope)(x:Str):Bool:=match a1y sc x with
 | some .cell=>true
 | some .free=>true
 | _=>false
noncomputable def a1x:Expr->Bool
 | .Starred ..=>false
 | _=>true
noncomputable def a1g(sc:Scope)(x:Str):Bool:=match a1y sc x with
 | some .local=>true
 | some .cell=>true
 | _=>false
noncomputable def a9g(tbl:List Str)(sc:Scope):Expr->Option Nat
 | .Name x _=>if a1g sc x then nid tbl x else .none
 | _=>.none
noncomputable def a1q(tbl:List Str)(sc:Scope):Expr->Option T
 | .Name x _=>if a1g sc x then(nid tbl x).map .one else .none
 | .Tuple elts _ _=>(a1o (a9g tbl sc) elts).map .many
 | _=>.none
noncomputable def b1p(sc cs:Scope)(tbl:List Str):Bool:=
 cs.kind==.function&&cs.names.all (fun p=>(p.2==.local&&cs.names.lookup p.1==some .local)||(p.2==.free&&a7y sc p.1&&cs.names.lookup p.1==some .free&&(nid tbl p.1).isSome)||p.2==.globalImplicit)
noncomputable def c8j(cs:Scope)(tbl:List Str):Option (List Nat):=
 a1o (fun p=>nid tbl p.1) (cs.names.filter fun p=>p.2==.local)
noncomputable def e7f(sc:Scope):Expr->Option Str
 | .Name g _=>if a5j sc g&&!(g==("__debug__":Str))then some g else .none
 | _=>.none
noncomputable def c4a:Expr->Bool
 | .Tuple ..=>true
 | _=>false
noncomputable def d5e(y:Option X):Option X:=y.bind fun x=>if e7n x then .none else some x
noncomputable def a8y(t it:Expr):Bool:=match it with
 | .Call (.Name f _) _ _ _=>c4a t||!(f==("enumerate":Str)||f==("zip":Str))
 | _=>true
noncomputable def b4e:Expr->Option (Str×List Expr)
 | .Call (.Name f _) args [] _=>some (f,args)
 | _=>.none
theorem a7p{e:Expr}{q:Str×List Expr}(h:b4e e=some q):∃ p pos,e=.Call (.Name q.1 p) q.2 [] pos:=by
 induction e using PySem.Expr.casesOn with
 | Call f args kws pos=>induction f using PySem.Expr.casesOn with
  | Name f p=>induction kws using List.casesOn with
   | nil=>obtain rfl:=Option.some.inj h;exact⟨p,pos,rfl⟩
   | cons _ _=>exact ns h
  | _=>exact ns h
 | _=>exact ns h
noncomputable def trE(tbl:List Str):Nat->Scope->Expr->Option X
 | 0,_,_=>.none
 | k+1,sc,e=>match e with
  | .Constant c _ _=>(e3e c).map .cst
  | .Name x _=>if x==("__debug__":Str)||x==("__classdict__":Str)then .none else
    if a4z sc x then(nid tbl x).map .loc else if a5j sc x then(nid tbl x).map .glb else .none
  | .BinOp l op r _=>(trE tbl k sc l).bind fun a=>(trE tbl k sc r).map fun b=>.bin op a b
  | .UnaryOp .USub x _=>(trE tbl k sc x).map .neg
  | .Compare l [op] [r] _=>(trE tbl k sc l).bind fun a=>(trE tbl k sc r).map fun b=>.cmp op a b
  | .Compare l [o1,o2] [r,r2] _=>(trE tbl k sc l).bind fun a=>(trE tbl k sc r).bind fun b=>(trE tbl k sc r2).map fun c=>.cmp2 o1 o2 a b c
  | .BoolOp .And l _=>(a1o (trE tbl k sc) l).map .and
  | .BoolOp .Or l _=>(a1o (trE tbl k sc) l).map .or
  | .IfExp c a b _=>(trE tbl k sc c).bind fun c=>(trE tbl k sc a).bind fun a=>(trE tbl k sc b).map fun b=>.ite c a b
  | .Tuple l _ _=>if l.all a1x then(a1o (trE tbl k sc) l).map .tup else .none
  | .List l _=>if l.all a1x then(a1o (trE tbl k sc) l).map .lst else .none
  | .Subscript a (.Slice lo hi st _) _=>(trE tbl k sc a).bind fun a=>(d8k (trE tbl k sc) lo).bind fun lo=>(d8k (trE tbl k sc) hi).bind fun hi=>(d8k (trE tbl k sc) st).map fun st=>.slc a lo hi st
  | .Subscript a i _=>(e7f sc a).elim ((trE tbl k sc a).bind fun a=>(trE tbl k sc i).map fun i=>.sub a i) fun g=>(nid tbl g).bind fun j=>(trE tbl k sc i).map fun i=>.subG j i
  | .Call (.Name f _) args [] _=>if a5j sc f&&args.all a1x&&decide (args.length<=30)&&!(f==("__debug__":Str))&&!(f==("super":Str))then(nid tbl f).bind fun i=>(a1o (trE tbl k sc) args).map fun l=>.call i l
   else .none
  | .Call (.Attribute o m ap) args [] cp=>if args.all a1x&&decide (args.length<20)&&ap.endLine==cp.line then(nid tbl m).bind fun i=>(trE tbl k sc o).bind fun o=>(a1o (trE tbl k sc) args).map fun l=>.meth i o l
   else .none
  | .Attribute o m _=>(nid tbl m).bind fun i=>(trE tbl k sc o).map fun o=>.attr i o
  | .ListComp elt [⟨t,it,ifs,0⟩] cs _=>if b1p sc cs tbl&&a8y t it then(trE tbl k cs elt).bind fun e=>(a1q tbl cs t).bind fun t=>(trI tbl k sc it).bind fun it=>(a1o (trE tbl k cs) ifs).bind fun ifs=>(c8j cs tbl).map fun own=>.comp e t it ifs own
   else .none
  | _=>.none
where
 trI (tbl:List Str):Nat->Scope->Expr->Option X
 | 0,_,_=>.none
 | k+1,sc,e=>match e with
  | .Call (.Name f _) args [] _=>if a5j sc f&&args.all a1x&&decide (args.length<=30)then
    if f==("range":Str)then(a1o (trE tbl k sc) args).map .range
    else if f==("enumerate":Str)then(match args with | [a]=>(trE tbl k sc a).map .enum | _=>.none)
    else if f==("zip":Str)then(match args with | [a,b]=>(trE tbl k sc a).bind fun a=>(trE tbl k sc b).map fun b=>.zip a b | _=>.none)
    else d5e (trE tbl k sc e)
   else .none
  | _=>d5e (trE tbl k sc e)
end
end Mine
end
section
open PySem PySem.W PySem.Calls PyProof.Rows
namespace Mine
section
structure LxP where
 At:Heap->List Addr->List Addr->Int->Prop
 keep:∀ {h h':Heap} {ads rs:List Addr} {n},At h ads rs n->(∀ a∈ads,∀ o,h.get? a=some o->h'.get? a=some o)->At h' ads rs n
 pair:∀ {h:Heap} {T:Addr},At h [T] [] (-9)↔∃ a b,IsPair h T a b
noncomputable def c2j(as:List (List Addr))(is:List Nat):Option (List Addr):=a1o (fun i=>as[i+1]?.bind List.head?) is
theorem b0n{as as':List (List Addr)}(g:∀(k:Nat) (l:List Addr),as[k+1]?=some l->as'[k+1]?=some l):∀ {is:List Nat} {rs:List Addr},c2j as is=some rs->c2j as' is=some rs:=by
 intro z_;induction z_ with
 | nil=>
  intro _ e;exact e
 | cons i is ih=>
  intro rs e;exact a0c e fun a b h1 h2 e=>a0g h1 fun l q hl=>e▸a4s (by rw [g i l q];exact hl) (ih h2)
theorem c8y{as nw:List (List Addr)}{m:Nat}(hm:as.length=m+1):∀ {is:List Nat} {rs:List Addr},is.all (·<m)=true->c2j (as++nw) is=some rs->c2j as is=some rs:=by
 intro z_;induction z_ with
 | nil=>
  intro _ _ e;exact e
 | cons i is ih=>
  intro rs ha e;exact a0c e fun a b h1 h2 e=>e▸a4s (by
   rw [List.getElem?_append_left (by rw [hm];exact Nat.succ_lt_succ (of_decide_eq_true (a0d ha)))]at h1;exact h1) (ih (a0f ha) h2)
noncomputable def e2o(Lx:LxP)(h:Heap)(as:List (List Addr)):M->List Addr->Prop
 | .list l,ads=>∃ a vs,ads=[a]/\h.PlainList a vs.toArray/\Reps h as l vs
 | .obj is n,ads=>∃ rs,c2j as is=some rs/\Lx.At h ads rs n
noncomputable def Ks(as:List (List Addr))(h h':Heap):Prop:=∀ a o,a∉as.flatten->h.get? a=some o->(∃ xs n,o.data=.seq xs n)->h'.get? a=some o
theorem Rep.ks{as:List (List Addr)}{h h':Heap}(k:Ks as h h'):∀ {x:V} {v:Value},Rep h as x v->Rep h' as x v:=fun r=>
 Rep.tr (fun a o ha e q=>⟨ha,k a o ha e q⟩) (fun zz zz e=>e) r
theorem Reps.ks{as:List (List Addr)}{h h':Heap}(k:Ks as h h'):∀ {l:List V} {vs:List Value},Reps h as l vs->Reps h' as l vs:=fun r=>
 Reps.tr (fun a o ha e q=>⟨ha,k a o ha e q⟩) (fun zz zz e=>e) r
structure Foreign(as:List (List Addr))(h:Heap)(I:Addr):Prop where
 off:I∉as.flatten
 kind:∀ o,h.get? I=some o->∀ xs n,o.data≠.seq xs n
theorem Foreign.ks{as:List (List Addr)}{h h':Heap}{I:Addr}(f:Foreign as h I)(y:∀ a o,a≠I->h.get? a=some o->h'.get? a=some o):Ks as h h':=
 fun a o _ e ⟨xs,n,hd⟩=>y a o (fun q=>f.kind o (q▸e) xs n hd) e
structure GR(Lx:LxP)(base:Heap)(μ:Mu)(as:List (List Addr))(h:Heap):Prop where
 keep:∀ a o,base.get? a=some o->h.get? a=some o
 fresh:∀ a∈as.flatten,base.get? a=.none
 nd:as.flatten.Nodup
 alive:∀ a∈as.flatten,∃ o,h.get? a=some o
 len:as.length=μ.length+1
 mus:∀(k:Nat) (m:M) (ads:List Addr),μ[k]?=some m->as[k+1]?=some ads->e2o Lx h as m ads
theorem PlainList.some{h:Heap}{a:Addr}{xs:Array Value}(p:h.PlainList a xs):∃ o,h.get? a=some o:=let⟨_,e⟩:=p;⟨_,e⟩
section
variable{Lx:LxP}{base:Heap}{μ:Mu}{as:List (List Addr)}{h h':Heap}
theorem GR.go(g:GR Lx base μ as h):Go as h as h:=Go.refl g.alive
theorem GR.mod{I:Addr}(g:GR Lx base μ as h)(hI:Foreign as h I)(hb:base.get? I=.none)(y:∀ a o,a≠I->h.get? a=some o->h'.get? a=some o):GR Lx base μ as h':=by
 have hne:∀ a∈as.flatten,a≠I:=fun a ha q=>hI.off (q▸ha);refine⟨fun a o e=>y a o (fun q=>by rw [q,hb]at e;exact ns e) (g.keep a o e),g.fresh,g.nd,fun a ha=>let⟨o,e⟩:=g.alive a ha;⟨o,y a o (hne a ha) e⟩,g.len,fun k m ads hk ha=>?_⟩;have hm:=g.mus k m ads hk ha;have hin:∀ a∈ads,a∈as.flatten:=fun a hq=>List.mem_flatten.mpr ⟨ads,List.mem_of_getElem? ha,hq⟩;induction m using Mine.M.casesOn with
 | list l=>
  obtain⟨a,vs,rfl,hp,hr⟩:=hm;exact⟨a,vs,rfl,let⟨n,e⟩:=hp;⟨n,y a _ (hne a (hin a (by simp))) e⟩,Reps.ks (hI.ks y) hr⟩
 | obj is n=>exact let⟨rs,e1,e2⟩:=hm;⟨rs,e1,Lx.keep e2 fun a ha o e=>y a o (hne a (hin a ha)) e⟩
theorem GR.push(g:GR Lx base μ as h)(o:Obj):GR Lx base μ as (h.push o):=by
 have hn:h.get? h.objs.size=.none:=by
  induction q:h.get? h.objs.size using Option.casesOn with
  | none=>rfl
  | some o=>exact absurd (Heap.lt_size q) (Nat.lt_irrefl _)
 refine g.mod (I:=h.objs.size) ⟨fun q=>?_,fun o e=>by rw [hn]at e;exact ns e⟩ ?_ fun a o' zz e=>Heap.get?_push_of_some o e
 ·obtain⟨o',e⟩:=g.alive _ q
  rw [hn]at e;exact ns e
 ·induction q:base.get? h.objs.size using Option.casesOn with
  | none=>rfl
  | some o'=>rw [g.keep _ _ q]at hn;cases hn
theorem a1c(h:Heap):h.get? h.objs.size=.none:=by
 induction q:h.get? h.objs.size using Option.casesOn with
 | none=>rfl
 | some o=>exact absurd (Heap.lt_size q) (Nat.lt_irrefl _)
theorem GR.top_off(g:GR Lx base μ as h):h.objs.size∉as.flatten:=fun q=>by
 obtain⟨o',e⟩:=g.alive _ q;rw [a1c]at e;exact ns e
theorem GR.top_base(g:GR Lx base μ as h):base.get? h.objs.size=.none:=by
 induction q:base.get? h.objs.size using Option.casesOn with
 | none=>rfl
 | some o'=>have:=g.keep _ _ q;rw [a1c]at this;exact ns this
noncomputable def a1e(prog:Program)(w:World)(base:Heap)(x:Str)(v:Value):Prop:=
 ∀(env:Env) (A:Around) (E:Value->Shared->Prop) (s:Shared) (Q:Value->Shared->Prop),env.globals=mainGlobals->env.builtins=builtinsNs →
  (∀ a o,base.get? a=some o->s.heap.get? a=some o)->Q v s->wpAny (model prog w) A (loadGlobal env x) Q E s
inductive f0w(tbl:List Str)(env:Env)(ρ:Rho)(as:List (List Addr))(h:Heap):Prop where
 | mk (m:Str->Option Value) (hn:h.Ns env.locals m) (hl:∀ i x v,tbl[i]?=some x->env.kindOf x=some .local->ρ.lookup i=some v->∃ u,m x=some u/\Rep h as v u)
inductive e8p(base:Heap)(env:Env)(ρ:Rho)(as:List (List Addr))(h:Heap)(i:Nat)(x:Str):Prop where
 | mk (c:Addr) (u:Option Value) (h1:env.cells.lookup x=some c) (h2:c∉as.flatten) (h3:base.get? c=.none) (h4:h.IsCell c u) (h5:∀ v,ρ.lookup i=some v->∃ u',u=some u'/\Rep h as v u')
structure ER(tbl:List Str)(base:Heap)(env:Env)(ρ:Rho)(as:List (List Addr))(h:Heap):Prop where
 kind:env.scope.kind=.function
 glob:env.globals=mainGlobals
 bns:env.builtins=builtinsNs
 loc:f0w tbl env ρ as h
 off:env.locals∉as.flatten/\base.get? env.locals=.none
 cel:∀ i x,tbl[i]?=some x->(env.kindOf x=some .cell∨env.kindOf x=some .free)->e8p base env ρ as h i x
 inj:∀ x y c,env.cells.lookup x=some c->env.cells.lookup y=some c->x=y
theorem Ns.go{m:Str->Option Value}{L:Addr}{as':List (List Addr)}(g:Go as h as' h')(hL:L∉as.flatten)(n:h.Ns L m):h'.Ns L m:=
 let⟨o,es,ep,e,r⟩:=n;⟨o,es,ep,g.at hL e,r⟩
theorem Ns.get{m:Str->Option Value}{L:Addr}(n:h.Ns L m):∃ o,h.get? L=some o/\∀ xs k,o.data≠.seq xs k:=
 let⟨o,_,_,e,hd,_⟩:=n;⟨o,e,fun zz zz q=>by rw [hd]at q;cases q⟩
theorem ER.go{tbl:List Str}{env:Env}{ρ:Rho}{as':List (List Addr)}(e:ER tbl base env ρ as h)(g:Go as h as' h'):ER tbl base env ρ as' h':=by
 obtain⟨m,hn,hl⟩:=e.loc;obtain⟨o,ho,_⟩:=Ns.get hn;refine⟨e.kind,e.glob,e.bns,⟨m,Ns.go g e.off.1 hn,fun i x v h1 h2 h3=>?_⟩,⟨g.off ho e.off.1,e.off.2⟩,fun i x h1 h2=>?_,e.inj⟩
 ·obtain⟨u,h4,h5⟩:=hl i x v h1 h2 h3
  exact⟨u,h4,h5.go g⟩
 ·obtain⟨c,u,h3,h4,h5,⟨oc,hoc,hdc⟩,h7⟩:=e.cel i x h1 h2
  refine⟨c,u,h3,g.off hoc h4,h5,⟨oc,g.at h4 hoc,hdc⟩,fun v hv=>?_⟩;obtain⟨u',h8,h9⟩:=h7 v hv;exact⟨u',h8,h9.go g⟩
structure Room(A:Around)(n:Nat):Prop where
 calm:A.handled=.none
 depth:A.depth+n<=900
 units:A.units+10 * n<=9000
variable{prog:Program}{w:World}
noncomputable def Post(Lx:LxP)(base:Heap)(as:List (List Addr))(s:Shared)(r:V)(μ':Mu)(Q:Value->Shared->Prop):Prop:=
 ∀(v:Value) (as':List (List Addr)) (h':Heap) (tk:Nat),GR Lx base μ' as' h'->Go as s.heap as' h'->Rep h' as' r v->Q v { s with heap:=h',toks:=tk}
noncomputable def CallOK(prog:Program)(w:World)(Lx:LxP)(base:Heap)(n:Nat)(f:Value)(args:List V)(μ:Mu)(r:V)(μ':Mu):Prop:=
 ∀(A:Around) (E:Value->Shared->Prop) (s:Shared) (as:List (List Addr)) (vs:List Value) (Q:Value->Shared->Prop),Room A n->GR Lx base μ as s.heap->Reps s.heap as args vs →
  Post Lx base as s r μ' Q->wpAny (model prog w) A (call f vs) Q E s
inductive a7w(base:Heap):Value->Prop where
 | builtin (id:String):a7w base (.builtin id)
 | type (n:String):a7w base (.type n)
 | func (a:Addr) (o:Obj) (fd:FuncData):base.get? a=some o->o.data=.func fd->a7w base (.ref a)
noncomputable def a4v(prog:Program)(w:World)(Lx:LxP)(base:Heap)(x:Str)(u:V)(μ:Mu)(f:Value):Prop:=
 ∀(A:Around) (E:Value->Shared->Prop) (s:Shared) (as:List (List Addr)) (ov:Value) (p:Sem Bool) (Q:Value×List Value->Shared->Prop),GR Lx base μ as s.heap->Rep s.heap as u ov->Q (f,[ov]) s->wpAny (model prog w) A (getMethod ov x p) Q E s
structure Snd(prog:Program)(w:World)(Lx:LxP)(base:Heap)(Γ:G):Prop where
 glob:∀ i v,Γ.glob i=some v->∃ x u,Γ.tbl[i]?=some x/\a1e prog w base x u/\∀ h as,Rep h as v u
 range:a1e prog w base "range" (.type "range")
 enum:a1e prog w base "enumerate" (.type "enumerate")
 zip:a1e prog w base "zip" (.type "zip")
 dic:∀ i l,Γ.dic i=some l->∃ x a,Γ.tbl[i]?=some x/\a1e prog w base x (.ref a)/\StrTab prog w base a (l.map fun p=>(.str ⟨p.1.toArray⟩,.int p.2))
 call:∀ n i args μ r μ',Γ.call n i args μ=some (r,μ')->∃ x f,Γ.tbl[i]?=some x/\a1e prog w base x f/\a7w base f/\CallOK prog w Lx base n f args μ r μ'
 meth:∀ n m u args μO μ r μ',Γ.find m u μO=true->Γ.meth n m u args μ=some (r,μ')->∃ x f,Γ.tbl[m]?=some x/\a7w base f/\a4v prog w Lx base x u μO f/\CallOK prog w Lx base n f (u::args) μ r μ'
 attr:∀ m u μ r,Γ.attr m u μ=some r->∃ x,Γ.tbl[m]?=some x/\∀(A:Around) (E:Value->Shared->Prop) (s:Shared) (as:List (List Addr)) (ov:Value) (Q:Value->Shared->Prop),GR Lx base μ as s.heap->Rep s.heap as u ov →
  Post Lx base as s r μ Q->wpAny (model prog w) A (getAttr ov x true) Q E s
end
end
section
section
variable{Lx:LxP}{base:Heap}{μ:Mu}{as:List (List Addr)}{prog:Program}{w:World}{A:Around}{E:Value->Shared->Prop}{s:Shared}{Q:Value->Shared->Prop}
theorem Post.now{r:V}{v:Value}{tk:Nat}(hQ:Post Lx base as s r μ Q)(g:GR Lx base μ as s.heap)(rv:Rep s.heap as r v):Q v { s with toks:=tk}:=hQ v as s.heap tk g g.go rv
theorem Post.new{r:V}{v:Value}{tk:Nat}{o:Obj}(hQ:Post Lx base as s r μ Q)(g:GR Lx base μ as s.heap)(rv:Rep (s.heap.push o) as r v):Q v { s with heap:=s.heap.push o,toks:=tk}:=hQ v as _ tk (g.push o) (g.go.push o) rv
theorem Post.eq{a r:V}(hQ:Post Lx base as s r μ Q)(h:some a=some r):Post Lx base as s a μ Q:=Option.some.inj h▸hQ
theorem a4i {l:List V} {vs:List Value} (g:GR Lx base μ as s.heap) (r:Reps s.heap as l vs):Rep (s.heap.push { cls:=.type "list",data:=.seq vs.toArray}) as (.lst l) (.ref s.heap.objs.size):=
 ⟨_,vs,rfl,g.top_off,⟨_,Heap.get?_push_size _ rfl⟩,r.go (g.go.push _)⟩
theorem a5g {l:List V} {vs:List Value} (g:GR Lx base μ as s.heap) (r:Reps s.heap as l vs):Rep (s.heap.push { cls:=.type "tuple",data:=.seq vs.toArray}) as (.tup l) (.ref s.heap.objs.size):=
 ⟨_,vs,rfl,g.top_off,⟨_,Heap.get?_push_size _ rfl,rfl,_,rfl⟩,r.go (g.go.push _)⟩
noncomputable def Rep0(h:Heap)(as:List (List Addr)):V->Value->Prop
 | .lst l,v=>∃ a vs,v=.ref a/\h.PlainList a vs.toArray/\Reps h as l vs
 | u,v=>Rep h as u v
theorem a1b{h:Heap}{u:V}{v:Value}(g:GR Lx base μ as h)(r:Rep h as u v):Rep0 h as (look μ u) v:=by
 induction u using Mine.V.casesOn with
 | «mut» k=>
  rw [e9s];induction hk:μ[k]? using Option.casesOn with
  | none=>exact r
  | some m=>induction m using Mine.M.casesOn with
   | list l=>
    obtain⟨a,q,e,rfl⟩:=r;obtain⟨b,vs,eb,hp,hr⟩:=g.mus k _ _ hk e;cases eb;exact⟨_,vs,rfl,hp,hr⟩
   | obj=>exact r
 | lst l=>obtain⟨a,vs,e,_,hp,hr⟩:=r;exact⟨a,vs,e,hp,hr⟩
 | _=>exact r
theorem a8j{n:Int}(h:small n=true):n.natAbs<2^1023:=by
 have h1:n.natAbs<2^60:=of_decide_eq_true h;exact Nat.lt_of_lt_of_le h1 (Nat.pow_le_pow_right (by decide) (by decide))
set_option tactic.hygienic true in
theorem c2k{n:Int}(h:small n=true):Builtin.Int.intBits n<=64:=by
 have h1:n.natAbs<2^60:=of_decide_eq_true h;unfold Builtin.Int.intBits;split
 ·decide
 ·rename_i hn
  have:n.natAbs≠0:=by simpa using hn
  have:=(Nat.log2_lt this).mpr h1;omega
set_option tactic.hygienic true in
theorem b5w{a b:Int}(h:small b=true):Builtin.divisionGoesByPylong a b=false:=by
 have h1:b.natAbs<2^60:=of_decide_eq_true h;have:(if b==0 then 0 else b.natAbs.log2 / 30+1)<=300:=by
  split
  ·omega
  ·rename_i hn
   have hz:b.natAbs≠0:=by simpa using hn
   have:=(Nat.log2_lt hz).mpr h1;omega
 unfold Builtin.divisionGoesByPylong;simp only [Bool.and_eq_false_iff,decide_eq_false_iff_not];left;omega
theorem a1w{n:Nat}(h:n<=big):n<=sizeLine:=by unfold big at h;rw [sizeLine_eq];omega
theorem d8q(x y:List Nat):(⟨x.toArray⟩:Str)++(⟨y.toArray⟩:Str)=⟨(x++y).toArray⟩:=by
 apply Str.ext';show(⟨x.toArray⟩++⟨y.toArray⟩:Str).cps=_;rw [Str.cps_append];simp
theorem b1j{l l':List V}{a b:Value}(ra:Rep0 s.heap as (.lst l) a)(rb:Rep0 s.heap as (.lst l') b)(hsz:l.length+l'.length<=big)(g:GR Lx base μ as s.heap)
  (hQ:Post Lx base as s (.lst (l++l')) μ Q):wpAny (model prog w) A (binaryOp .Add a b) Q E s:=by
 obtain⟨a,vs,rfl,hl,rl⟩:=ra;obtain⟨b,ws,rfl,hb,rb⟩:=rb;obtain⟨n,ho⟩:=id hl;obtain⟨n2,ho2⟩:=id hb;have e:vs.toArray++ws.toArray=(vs++ws).toArray:=by simp
 have hs:vs.toArray.size+ws.toArray.size<=sizeLine:=by
  simp only [List.size_toArray,rl.length,rb.length];exact a1w hsz
 refine concat_meets ⟨_,ho,rfl⟩ ⟨_,ho2,rfl⟩ noFill_list_add seq_list_add PySem.F.slot_list_add PySem.F.entry_list_add (PySem.F.args_list_add_2 _ _) (list_addW a b vs.toArray ws.toArray n n2 _ _ _ _ hs) ⟨ho,ho2,?_⟩;rw [e];exact hQ.new g (a4i g (rl.append rb))
theorem c8w(n:Nat)(vs:List Value):List.foldl (fun x1 x2=>x1++x2) #[] (List.replicate n vs.toArray)=(List.replicate n vs).flatten.toArray:=by
 have:∀(n:Nat) (a:Array Value),List.foldl (fun x1 x2=>x1++x2) a (List.replicate n vs.toArray)=a++(List.replicate n vs).flatten.toArray:=by
  intro n;induction n with
  | zero=>intro a;simp
  | succ k ih=>intro a;simp only [List.replicate_succ,List.foldl_cons,ih,List.flatten_cons];simp
 simpa using this n #[]
theorem c1h(n:Nat)(vs:List Nat):List.foldl (·++·) #[] (List.replicate n vs.toArray)=(List.replicate n vs).flatten.toArray:=by
 have:∀(n:Nat) (a:Array Nat),List.foldl (·++·) a (List.replicate n vs.toArray)=a++(List.replicate n vs).flatten.toArray:=by
  intro n;induction n with
  | zero=>intro a;simp
  | succ k ih=>intro a;simp only [List.replicate_succ,List.foldl_cons,ih,List.flatten_cons];simp
 simpa using this n #[]
theorem Reps.rep{h:Heap}{l:List V}{vs:List Value}(r:Reps h as l vs):∀ n:Nat,Reps h as (List.replicate n l).flatten (List.replicate n vs).flatten:=by
 intro z_;induction z_ with
 | zero=>
  simp [Reps]
 | succ n ih=>
  simpa [List.replicate_succ]using r.append (ih)
theorem b9d{n:Int}(h:small n=true):-(2^63:Int)<=n/\n<2^63:=by
 have h1:n.natAbs<2^60:=of_decide_eq_true h;constructor<;>omega
theorem b1k{l:List V}{x:Int}{a b:Value}(ra:Rep0 s.heap as (.lst l) a)(rb:Rep s.heap as (.int x) b)(hsz:l.length * x.toNat<=big)(hx:small x=true)(g:GR Lx base μ as s.heap)
  (hQ:Post Lx base as s (.lst (List.replicate x.toNat l).flatten) μ Q):wpAny (model prog w) A (binaryOp .Mult a b) Q E s:=by
 simp only [Rep]at rb;obtain⟨a,vs,rfl,⟨k,hl⟩,rl⟩:=ra;obtain⟨u,rfl⟩:=rb;have hlo:=b9d hx;have hs:vs.toArray.size * x.toNat<=2^24:=by
  simp only [List.size_toArray,rl.length];have:=a1w hsz;unfold sizeLine at this;exact this
 refine wpAny_binaryOp_repeat_ref (T:="list") (U:="int") (by decide) ⟨_,hl,rfl⟩ (fun s'=>typeIs_int s' x u) noFill_list_mul F.fills_int_mul F.slot_int_rmul repeat_list F.slot_int_index.lookup
  (call_meets F.slot_int_rmul (typeIs_int s x u) F.entry_int_rmul (F.args_int_rmul_2 _ _) (int___rmul___int_list x u a vs.toArray k)
   ⟨hl,rfl,⟨_,hl,rfl⟩,call_meets F.slot_list_mul ⟨_,hl,rfl⟩ F.entry_list_mul (F.args_list_mul_2 _ _)
    (AutoListH.list___mul___list_int_3 a vs.toArray k x u (by simp [Builtin.List.listFitsIndex];omega) (by omega) (by unfold Builtin.List.listTooLong;rw [decide_eq_true_eq,sizeLine_eq];omega))
    ⟨hl,?_⟩⟩)
 have e:List.foldl (fun x1 x2=>x1++x2) #[] (List.replicate (if vs.toArray.isEmpty=true then 0 else x.toNat) vs.toArray)=(List.replicate x.toNat vs).flatten.toArray:=by
  rw [c8w];induction vs using List.casesOn with
  | nil=>simp
  | cons v r=>simp
 have:=hQ.new (tk:=s.toks) g (a4i g (rl.rep x.toNat));rw [← e]at this;exact this
set_option tactic.hygienic true in
theorem b4k{l:List Nat}{x:Int}{a b:Value}(ra:Rep s.heap as (.str l) a)(rb:Rep s.heap as (.int x) b)(hsz:l.length * x.toNat<=big)(hx:small x=true)(g:GR Lx base μ as s.heap)
  (hQ:Post Lx base as s (.str (List.replicate x.toNat l).flatten) μ Q):wpAny (model prog w) A (binaryOp .Mult a b) Q E s:=by
 simp only [Rep]at ra rb;obtain⟨t,rfl⟩:=ra;obtain⟨u,rfl⟩:=rb;have hlo:=b9d hx;have e:Txt.mul ⟨l.toArray⟩ x=⟨(List.replicate x.toNat l).flatten.toArray⟩:=by
  unfold Txt.mul;split
  ·rename_i h1
   have:x.toNat=0:=by omega
   rw [this];rfl
  ·rename_i h1
   split
   ·rename_i h2
    simp only [Str.length,List.size_toArray,Bool.or_eq_true,beq_iff_eq]at h2;rcases h2 with h2 | h2
    ·subst h2;simp [List.replicate_succ]
    ·rw [List.length_eq_zero_iff]at h2;subst h2;simp
   ·rw [← c1h]
 refine SB.mul ⟨by simp only [Bool.or_eq_false_iff,decide_eq_false_iff_not];omega,fun h1 h2=>?_,fun h1 h2=>?_⟩ fun t' k=>?_
 ·simp only [Str.length,List.size_toArray]
  have hb:l.length<=big:=by
   have:1<=x.toNat:=by omega
   calc l.length=l.length * 1:=(Nat.mul_one _).symm
    _<=l.length * x.toNat:=Nat.mul_le_mul_left _ this
    _<=big:=hsz
  have hb2:((l.length:Int)) * x<=1000000:=by
   have:((l.length * x.toNat:Nat):Int)<=(big:Int):=by exact_mod_cast hsz
   rw [Int.natCast_mul,Int.toNat_of_nonneg (by omega)]at this;exact this
  have:(l.length:Int)<=(2^63-1) / x:=by
   apply Int.le_ediv_of_mul_le (by omega);omega
  omega
 ·simp only [Str.length,List.size_toArray]
  have:=a1w hsz;unfold Builtin.Str.tooLong;simp only [decide_eq_false_iff_not];omega
 ·rw [e]
  exact hQ.now g (by simp [Rep])
theorem d2a{op:Operator}{u v r:V}{a b:Value}(h:a0p op u v=some r)(ra:Rep0 s.heap as u a)(rb:Rep0 s.heap as v b)(hc:A.handled=.none)(g:GR Lx base μ as s.heap)
  (hQ:Post Lx base as s r μ Q):wpAny (model prog w) A (binaryOp op a b) Q E s:=by
 cases op with
 | Add=>induction u using Mine.V.casesOn with
  | int i=>induction v using Mine.V.casesOn with
   | int j=>obtain⟨_,rfl⟩:=ra;obtain⟨_,rfl⟩:=rb;exact add_int ((hQ.eq h).now g ⟨_,rfl⟩)
   | _=>exact ns h
  | flt x=>induction v using Mine.V.casesOn with
   | flt y=>obtain⟨_,rfl⟩:=ra;obtain⟨_,rfl⟩:=rb;exact add_float ((hQ.eq h).now g ⟨_,rfl⟩)
   | int n=>obtain⟨_,rfl⟩:=ra;obtain⟨_,rfl⟩:=rb;exact ifS h fun hs h=>add_fi_fits (a8j hs) ((hQ.eq h).now g ⟨_,rfl⟩)
   | _=>exact ns h
  | str x=>induction v using Mine.V.casesOn with
   | str y=>
    obtain⟨_,rfl⟩:=ra;obtain⟨_,rfl⟩:=rb;exact ifS h fun hs h=>add_str (fun t' tk=>(d8q x y).symm▸(hQ.eq h).now g ⟨_,rfl⟩) (a1w (of_decide_eq_true hs))
   | _=>exact ns h
  | lst l=>induction v using Mine.V.casesOn with
   | lst l'=>exact ifS h fun hs h=>b1j ra rb (of_decide_eq_true hs) g (hQ.eq h)
   | _=>exact ns h
  | _=>exact ns h
 | Sub=>induction u using Mine.V.casesOn with
  | bool x=>induction v using Mine.V.casesOn with
   | bool y=>obtain rfl:=ra;obtain rfl:=rb;exact sub_bool ((hQ.eq h).now g ⟨_,rfl⟩)
   | _=>exact ns h
  | int i=>induction v using Mine.V.casesOn with
   | int j=>obtain⟨_,rfl⟩:=ra;obtain⟨_,rfl⟩:=rb;exact sub_int ((hQ.eq h).now g ⟨_,rfl⟩)
   | _=>exact ns h
  | flt x=>induction v using Mine.V.casesOn with
   | flt y=>obtain⟨_,rfl⟩:=ra;obtain⟨_,rfl⟩:=rb;exact sub_float ((hQ.eq h).now g ⟨_,rfl⟩)
   | int n=>obtain⟨_,rfl⟩:=ra;obtain⟨_,rfl⟩:=rb;exact ifS h fun hs h=>sub_fi_fits (a8j hs) ((hQ.eq h).now g ⟨_,rfl⟩)
   | _=>exact ns h
  | _=>exact ns h
 | Mult=>induction u using Mine.V.casesOn with
  | int i=>induction v using Mine.V.casesOn with
   | int j=>obtain⟨_,rfl⟩:=ra;obtain⟨_,rfl⟩:=rb;exact ifS h fun hs h=>mul_int ((hQ.eq h).now g ⟨_,rfl⟩) (IntMulOk.of_left (c2k hs))
   | flt y=>obtain⟨_,rfl⟩:=ra;obtain⟨_,rfl⟩:=rb;exact ifS h fun hs h=>mul_if_fits (a8j hs) ((hQ.eq h).now g ⟨_,rfl⟩)
   | _=>exact ns h
  | flt x=>induction v using Mine.V.casesOn with
   | flt y=>obtain⟨_,rfl⟩:=ra;obtain⟨_,rfl⟩:=rb;exact mul_float ((hQ.eq h).now g ⟨_,rfl⟩)
   | _=>exact ns h
  | str x=>induction v using Mine.V.casesOn with
   | int n=>exact ifS h fun hs h=>b4k ra rb (of_decide_eq_true (a0d hs)) (a0f hs) g (hQ.eq h)
   | _=>exact ns h
  | lst l=>induction v using Mine.V.casesOn with
   | int n=>exact ifS h fun hs h=>b1k ra rb (of_decide_eq_true (a0d hs)) (a0f hs) g (hQ.eq h)
   | _=>exact ns h
  | _=>exact ns h
 | FloorDiv=>induction u using Mine.V.casesOn with
  | int i=>induction v using Mine.V.casesOn with
   | int j=>obtain⟨_,rfl⟩:=ra;obtain⟨_,rfl⟩:=rb;exact ifS h fun hs h=>floordiv_int (bne_iff_ne.mp (a0d hs)) ((hQ.eq h).now g ⟨_,rfl⟩) (.inl (b5w (a0f hs)))
   | _=>exact ns h
  | _=>exact ns h
 | Mod=>induction u using Mine.V.casesOn with
  | int i=>induction v using Mine.V.casesOn with
   | int j=>obtain⟨_,rfl⟩:=ra;obtain⟨_,rfl⟩:=rb;exact ifS h fun hs h=>mod_int' (bne_iff_ne.mp hs) ((hQ.eq h).now g ⟨_,rfl⟩)
   | _=>exact ns h
  | flt x=>induction v using Mine.V.casesOn with
   | flt y=>obtain⟨_,rfl⟩:=ra;obtain⟨_,rfl⟩:=rb;exact ifS h fun hs h=>Flt.mod_ff hc (fun q=>nt ((c3k hs).symm.trans q)) fun zz=>(hQ.eq h).now g ⟨_,rfl⟩
   | _=>exact ns h
  | _=>exact ns h
 | Pow=>induction u using Mine.V.casesOn with
  | int i=>induction v using Mine.V.casesOn with
   | int j=>
    obtain⟨_,rfl⟩:=ra;obtain⟨_,rfl⟩:=rb;exact ifS h fun hs h=>pow_int_small (of_decide_eq_true (a0d (a0d hs))) (Int.le_trans (of_decide_eq_true (a0f (a0d hs))) (by decide)) (Nat.lt_of_lt_of_le (of_decide_eq_true (a0f hs)) (by decide)) ((hQ.eq h).now g ⟨_,rfl⟩)
   | _=>exact ns h
  | _=>exact ns h
 | Div=>induction u using Mine.V.casesOn with
  | int i=>induction v using Mine.V.casesOn with
   | int j=>obtain⟨_,rfl⟩:=ra;obtain⟨_,rfl⟩:=rb;exact ifS h fun hs h=>Flt.div_ii hc (fun q=>absurd q (bne_iff_ne.mp (a0d hs))) (fun zz q=>nt ((c3k (a0f hs)).symm.trans q)) fun zz zz=>(hQ.eq h).now g ⟨_,rfl⟩
   | _=>exact ns h
  | flt x=>induction v using Mine.V.casesOn with
   | flt y=>obtain⟨_,rfl⟩:=ra;obtain⟨_,rfl⟩:=rb;exact ifS h fun hs h=>truediv_float_or hc (fun q=>nt ((c3k hs).symm.trans q)) fun zz=>(hQ.eq h).now g ⟨_,rfl⟩
   | _=>exact ns h
  | _=>exact ns h
 | _=>exact ns h
end
end
section
mutual
theorem Rep.reads{h:Heap}{as:List (List Addr)}:∀ {u:V} {a:Value} {d:PyData},b1l u=some d->Rep h as u a->∃ bs,Reads h a d bs
 | .none,_,_,e,r=>by cases e;cases r;exact⟨_,.none⟩
 | .bool b,_,_,e,r=>by cases e;cases r;exact⟨_,.bool b⟩
 | .int i,_,_,e,r=>by cases e;obtain⟨t,rfl⟩:=r;exact⟨_,.int i t⟩
 | .flt _,_,_,e,_=>ns e
 | .str x,_,_,e,r=>by cases e;obtain⟨t,rfl⟩:=r;exact⟨_,.str _ t⟩
 | .mut _,_,_,e,_=>ns e
 | .tup l,_,_,e,r=>a1n e fun ds e2 q=>by
  cases q;obtain⟨a,vs,rfl,_,⟨o,ho,hc,n,hd⟩,hr⟩:=r;obtain⟨bs,hb⟩:=Reps.reads e2 hr;exact⟨_,.tuple ho hc hd hb⟩
 | .lst l,_,_,e,r=>a1n e fun ds e2 q=>by
  cases q;obtain⟨a,vs,rfl,_,⟨n,ho⟩,hr⟩:=r;obtain⟨bs,hb⟩:=Reps.reads e2 hr;exact⟨_,.list ho rfl rfl hb⟩
theorem Reps.reads{h:Heap}{as:List (List Addr)}:∀ {l:List V} {vs:List Value} {ds:List PyData},toPys l=some ds->Reps h as l vs->∃ bs,ReadsAll h vs ds bs
 | [],_,_,e,r=>by cases e;cases r;exact⟨_,.nil⟩
 | x::l,vs,ds,e,r=>by
  obtain⟨v,rs,rfl,hx,hr⟩:=r;unfold toPys at e;induction e1:b1l x using Option.casesOn with
  | none=>rw [e1]at e;exact ns e
  | some a=>induction e2:toPys l using Option.casesOn with
   | none=>rw [e1,e2]at e;exact ns e
   | some b=>
    rw [e1,e2]at e;obtain rfl:=Option.some.inj e;obtain⟨b1,h1⟩:=Rep.reads e1 hx;obtain⟨b2,h2⟩:=Reps.reads e2 hr;exact⟨_,.cons h1 h2⟩
end
theorem Rep0.reads{h:Heap}{as:List (List Addr)}{u:V}{a:Value}{d:PyData}(e:b1l u=some d)(r:Rep0 h as u a):∃ bs,Reads h a d bs:=by
 induction u using Mine.V.casesOn with
 | lst l=>
  refine a1n e fun ds e2 q=>?_;cases q;obtain⟨a,vs,rfl,⟨n,ho⟩,hr⟩:=r;obtain⟨bs,hb⟩:=Reps.reads e2 hr;exact⟨_,.list ho rfl rfl hb⟩
 | _=>exact Rep.reads (as:=as) e r
section
variable{Lx:LxP}{base:Heap}{μ:Mu}{as:List (List Addr)}{prog:Program}{w:World}{A:Around}{E:Value->Shared->Prop}{s:Shared}{Q:Value->Shared->Prop}
theorem a1d{c:Bool}{tk:Nat}(hQ:Post Lx base as s (.bool c) μ Q)(g:GR Lx base μ as s.heap):Q (.bool c) { s with toks:=tk}:=hQ.now g rfl
theorem c4p{u v:V}{c:Bool}{P:Prop}(h:eqv u v=some c)(k1:∀ da db,b1l u=some da->b1l v=some db->SeqAt.shaped da=true->SeqAt.shaped db=true->da.eqv db=c->P)
  (k2:∀ x y,u=.flt x->v=.flt y->(Float64.cmp x y==some .eq)=c->P):P:=by
 have fb:(match (generalizing:=false) u,v with | .flt a,.flt b=>some (Float64.cmp a b==some .eq) | _,_=>.none)=some c->P:=fun h=>by
  induction u using Mine.V.casesOn with
  | flt x=>induction v using Mine.V.casesOn with
   | flt y=>exact k2 x y rfl rfl (Option.some.inj h)
   | _=>exact ns h
  | _=>exact ns h
 unfold eqv at h;induction hu:b1l u using Option.casesOn with
 | none=>rw [hu]at h;exact fb h
 | some da=>induction hv:b1l v using Option.casesOn with
  | none=>rw [hu,hv]at h;exact fb h
  | some db=>rw [hu,hv]at h;exact ifS h fun hs h=>k1 da db hu hv (a0d hs) (a0f hs) (Option.some.inj h)
theorem e8c{u v:V}{c:Bool}{a b:Value}(h:eqv u v=some c)(ra:Rep0 s.heap as u a)(rb:Rep0 s.heap as v b)(hu:A.units<=9500)(g:GR Lx base μ as s.heap)
  (hQ:Post Lx base as s (.bool c) μ Q):wpAny (model prog w) A (compareOp .Eq a b) Q E s:=
 c4p h (fun da db ea eb sa sb e=>by
   subst e;obtain⟨_,h1⟩:=ra.reads ea;obtain⟨_,h2⟩:=rb.reads eb;exact SeqAt.compareEq_shaped h1 h2 sa sb (Nat.lt_of_le_of_lt (Nat.add_le_add_right hu 64) (by decide)) (a1d hQ g))
  fun x y e1 e2 e=>by subst e1 e2 e;obtain⟨_,rfl⟩:=ra;obtain⟨_,rfl⟩:=rb;exact AutoFloatOps.eq_0 (a1d hQ g)
theorem e7r{u v:V}{c:Bool}{a b:Value}(h:eqv u v=some c)(ra:Rep0 s.heap as u a)(rb:Rep0 s.heap as v b)(hu:A.units<=9500)(g:GR Lx base μ as s.heap)
  (hQ:Post Lx base as s (.bool (!c)) μ Q):wpAny (model prog w) A (compareOp .NotEq a b) Q E s:=
 c4p h (fun da db ea eb sa sb e=>by
   subst e;obtain⟨_,h1⟩:=ra.reads ea;obtain⟨_,h2⟩:=rb.reads eb;exact SeqAt.compareNe_shaped h1 h2 sa sb (Nat.lt_of_le_of_lt (Nat.add_le_add_right hu 64) (by decide)) (a1d hQ g))
  fun x y e1 e2 e=>by subst e1 e2 e;obtain⟨_,rfl⟩:=ra;obtain⟨_,rfl⟩:=rb;exact AutoFloatOps.ne_0 (a1d hQ g)
theorem b0k{xs:List PyData}(h:SeqAt.shaped (.list xs)=true):PyData.canLayAll0 xs=true:=by
 have:=SeqAt.canLay_of_shaped h;simpa [PyData.canLay0]using this
theorem d5t{n:Nat}(h:n<=big):(n:Int)<2^63:=by unfold big at h;omega
theorem b5f{n d:Nat}(hu:n<=9500)(h:d<=64):n+1+d<cLine:=by unfold cLine;omega
theorem b2e{xs:List PyData}{d:PyData}(h:SeqAt.shaped d=true):min (PyData.depthAll xs) d.depth<=64:=
 Nat.le_trans (Nat.min_le_right _ _) (SeqAt.depth_of_shaped h)
theorem d1y{u v:V}{c:Bool}{P:Prop}(h:e1q u v=some c)(k1:∀ x y,u=.str x->v=.str y->Txt.contains ⟨y.toArray⟩ ⟨x.toArray⟩=c->P)
  (k2:∀ l d xs,v=.lst l->b1l u=some d->b1l v=some (.list xs)->SeqAt.shaped (.list xs)=true->SeqAt.shaped d=true->(xs.any fun y=>y.eqv d)=c->P):P:=by
 induction v using Mine.V.casesOn with
 | str y=>induction u using Mine.V.casesOn with
  | str x=>exact k1 x y rfl rfl (Option.some.inj h)
  | _=>exact ns h
 | lst l=>
  have fb:(match (generalizing:=false) b1l u,toPys l with | some d,some xs=>if SeqAt.shaped (.list xs)&&SeqAt.shaped d then some (xs.any fun y=>y.eqv d)else .none | _,_=>.none)=some c->P:=fun h=>by
   induction hu:b1l u using Option.casesOn with
   | none=>rw [hu]at h;exact ns h
   | some d=>induction hv:toPys l using Option.casesOn with
    | none=>rw [hu,hv]at h;exact ns h
    | some xs=>rw [hu,hv]at h;exact ifS h fun hs h=>k2 l d xs rfl hu (congrArg (Option.map PyData.list) hv) (a0d hs) (a0f hs) (Option.some.inj h)
  induction u using Mine.V.casesOn<;>exact fb h
 | _=>induction u using Mine.V.casesOn<;>exact ns h
theorem e9o{u v:V}{c:Bool}{a b:Value}(h:e1q u v=some c)(ra:Rep0 s.heap as u a)(rb:Rep0 s.heap as v b)(hu:A.units<=9500)(g:GR Lx base μ as s.heap)
  (hQ:Post Lx base as s (.bool c) μ Q):wpAny (model prog w) A (compareOp .In a b) Q E s:=
 d1y h (fun x y e1 e2 e=>by subst e1 e2 e;obtain⟨_,rfl⟩:=ra;obtain⟨_,rfl⟩:=rb;exact SB.contains (a1d hQ g))
  fun l d xs zz e1 e2 s1 s2 e=>by
   subst e;obtain⟨_,h1⟩:=ra.reads e1;obtain⟨_,h2⟩:=rb.reads e2;exact SeqAt.in_list_reads h2 h1 (b0k s1) (SeqAt.canLay_of_shaped s2) (b5f hu (@b2e xs _ s2)) (a1d hQ g)
theorem a7d{op:CmpOp}{u v:V}{c:Bool}{a b:Value}(h:a0s op u v=some c)(ra:Rep0 s.heap as u a)(rb:Rep0 s.heap as v b)(hu:A.units<=9500)(g:GR Lx base μ as s.heap)
  (hQ:Post Lx base as s (.bool c) μ Q):wpAny (model prog w) A (compareOp op a b) Q E s:=by
 cases op with
 | Eq=>exact e8c h ra rb hu g hQ
 | NotEq=>exact a1n h fun c h e=>e7r h ra rb hu g (e▸hQ)
 | In=>exact e9o h ra rb hu g hQ
 | NotIn=>exact ns h
 | Is=>induction u using Mine.V.casesOn with
  | bool x=>induction v using Mine.V.casesOn with
   | bool y=>cases ra;cases rb;exact is_bool (a1d (Option.some.inj h▸hQ) g)
   | _=>exact ns h
  | _=>exact ns h
 | IsNot=>exact ns h
 | Lt=>induction u using Mine.V.casesOn with
  | int x=>induction v using Mine.V.casesOn with
   | int y=>obtain⟨_,rfl⟩:=ra;obtain⟨_,rfl⟩:=rb;exact lt_int (a1d (Option.some.inj h▸hQ) g)
   | _=>exact ns h
  | flt x=>induction v using Mine.V.casesOn with
   | flt y=>obtain⟨_,rfl⟩:=ra;obtain⟨_,rfl⟩:=rb;exact AutoFloatOps.lt_0 (a1d (Option.some.inj h▸hQ) g)
   | _=>exact ns h
  | _=>exact ns h
 | LtE=>induction u using Mine.V.casesOn with
  | int x=>induction v using Mine.V.casesOn with
   | int y=>obtain⟨_,rfl⟩:=ra;obtain⟨_,rfl⟩:=rb;exact le_int (a1d (Option.some.inj h▸hQ) g)
   | flt y=>obtain⟨_,rfl⟩:=ra;obtain⟨_,rfl⟩:=rb;exact le_if (a1d (Option.some.inj h▸hQ) g)
   | _=>exact ns h
  | flt x=>induction v using Mine.V.casesOn with
   | flt y=>obtain⟨_,rfl⟩:=ra;obtain⟨_,rfl⟩:=rb;exact AutoFloatOps.le_0 (a1d (Option.some.inj h▸hQ) g)
   | int y=>obtain⟨_,rfl⟩:=ra;obtain⟨_,rfl⟩:=rb;exact le_fi (a1d (Option.some.inj h▸hQ) g)
   | _=>exact ns h
  | _=>exact ns h
 | Gt=>induction u using Mine.V.casesOn with
  | int x=>induction v using Mine.V.casesOn with
   | int y=>obtain⟨_,rfl⟩:=ra;obtain⟨_,rfl⟩:=rb;exact gt_int (a1d (Option.some.inj h▸hQ) g)
   | _=>exact ns h
  | _=>exact ns h
 | GtE=>induction u using Mine.V.casesOn with
  | int x=>induction v using Mine.V.casesOn with
   | int y=>obtain⟨_,rfl⟩:=ra;obtain⟨_,rfl⟩:=rb;exact ge_int (a1d (Option.some.inj h▸hQ) g)
   | _=>exact ns h
  | _=>exact ns h
theorem c7t{l:List V}{vs:List Value}(hr:Reps s.heap as l vs):(!vs.toArray.isEmpty)=!l.isEmpty:=by
 have hl:=hr.length;induction l using List.casesOn with
 | nil=>induction vs using List.casesOn with
  | nil=>rfl
  | cons _ _=>cases hl
 | cons x r=>induction vs using List.casesOn with
  | nil=>cases hl
  | cons v t=>simp
theorem a7n{u:V}{c:Bool}{a:Value}{Q:Bool->Shared->Prop}(h:a2z u=some c)(ra:Rep0 s.heap as u a)
  (hQ:∀ tk,Q c { s with toks:=tk}):wpAny (model prog w) A (truthy a) Q E s:=by
 induction u using Mine.V.casesOn with
 | bool b=>cases ra;exact wpAny_truthy_bool (Option.some.inj h▸hQ s.toks)
 | str l=>
  obtain⟨_,rfl⟩:=ra;refine ifS h fun hb h=>P.truthy_str (Int.not_le.mpr (d5t hb)) ?_;have e:(((⟨l.toArray⟩:Str).length:Int) != 0)=!l.isEmpty:=by
   induction l using List.casesOn with
   | nil=>rfl
   | cons a r=>simp [Str.length];omega
  exact(e.trans (Option.some.inj h)).symm▸hQ _
 | lst l=>
  obtain⟨a,vs,rfl,ht,hr⟩:=ra;exact ifS h fun hb h=>wpAny_truthy_list ht.isList (by rw [List.size_toArray,hr.length];exact d5t hb) (((c7t hr).trans (Option.some.inj h)).symm▸hQ _)
 | _=>exact ns h
theorem c6j{k:Int}{n j:Nat}(h:seqIndex? k n=some j)(hn:n<=big):j<n /\ -(2^63:Int)<=k/\k<2^63/\(k<0 -> -(n:Int)<=k/\(k+n).toNat=j)/\(¬k<0->k.toNat=j/\0<=k):=by
 have hb:(n:Int)<=1000000:=Int.ofNat_le.mpr hn;unfold seqIndex? at h;by_cases hk:k<0
 ·rw [if_pos hk]at h
  refine ifS h fun h2 h=>?_;have h3:=of_decide_eq_true (a0d h2);have h4:=of_decide_eq_true (a0f h2);have h5:=Option.some.inj h;have h6:-(n:Int)<=k:=by have:=Int.sub_le_sub_right h3 n;rwa [Int.zero_sub,Int.add_sub_cancel]at this
  exact⟨h5▸(Int.toNat_lt h3).mpr h4,Int.le_trans (Int.le_trans (by decide) (Int.neg_le_neg hb)) h6,Int.lt_trans hk (by decide),fun zz=>⟨h6,h5⟩,fun q=>absurd hk q⟩
 ·rw [if_neg hk]at h
  refine ifS h fun h2 h=>?_;have h3:=of_decide_eq_true (a0d h2);have h4:=of_decide_eq_true (a0f h2);have h5:=Option.some.inj h;exact⟨h5▸(Int.toNat_lt h3).mpr h4,Int.le_trans (by decide) h3,Int.lt_of_lt_of_le h4 (Int.le_trans hb (by decide)),fun q=>absurd q hk,fun zz=>⟨h5,h3⟩⟩
theorem d8a{u v r:V}{a b:Value}(h:item u v=some r)(ra:Rep0 s.heap as u a)(rb:Rep s.heap as v b)(g:GR Lx base μ as s.heap)
  (hQ:Post Lx base as s r μ Q):wpAny (model prog w) A (getItem a b) Q E s:=by
 induction u using Mine.V.casesOn with
 | lst l=>induction v using Mine.V.casesOn with
  | int k=>
   obtain⟨a,vs,rfl,ht,hr⟩:=ra;obtain⟨t,rfl⟩:=rb;refine ifS h fun hb h=>a0g h fun j h1 h2=>?_;obtain⟨hj,hlo,hhi,hn,hp⟩:=c6j h1 hb;obtain⟨y,hy,ry⟩:=hr.get j h2;by_cases hk:k<0
   ·obtain⟨h3,h4⟩:=hn hk
    refine wpAny_getItem_list_neg ht.isList hk (by rw [List.size_toArray,hr.length];exact h3) hlo (x:=y) ?_ (hQ.now g ry);rw [List.size_toArray,hr.length,h4];exact(List.getElem?_toArray ..).trans hy
   ·obtain⟨h3,h4⟩:=hp hk
    exact wpAny_getItem_list ht.isList h4 hhi (x:=y) (by rw [h3];exact(List.getElem?_toArray ..).trans hy) (hQ.now g ry)
  | _=>exact ns h
 | tup l=>induction v using Mine.V.casesOn with
  | int k=>
   obtain⟨a,vs,rfl,_,ht,hr⟩:=ra;obtain⟨t,rfl⟩:=rb;refine ifS h fun hb h=>a0g h fun j h1 h2=>?_;obtain⟨hj,hlo,hhi,_⟩:=c6j h1 hb;obtain⟨y,hy,ry⟩:=hr.get j h2;exact getItem_tuple ht hlo hhi (by rw [List.size_toArray,hr.length];exact h1) ((List.getElem?_toArray ..).trans hy) (hQ.now g ry)
  | _=>exact ns h
 | _=>exact ns h
theorem Reps.pick{h:Heap}{l:List V}{vs:List Value}(r:Reps h as l vs):∀ is:List Nat,Reps h as (is.filterMap (l[·]?)) (is.filterMap (vs[·]?)):=by
 intro z_;induction z_ with
 | nil=>
  simp [Reps]
 | cons i is ih=>
  rw [List.filterMap_cons,List.filterMap_cons];induction q:l[i]? using Option.casesOn with
  | none=>
   have:vs[i]?=.none:=by
    rw [List.getElem?_eq_none_iff]at q ⊢;rw [r.length];exact q
   simp only [this];exact ih
  | some x=>
   obtain⟨v,hv,rv⟩:=r.get i q;simp only [hv];exact .cons rv (ih)
noncomputable def IsP(u:Option V)(a:Value):Prop:=match u with
 | .none=>a=.none
 | some (.int i)=>∃ t,a=.int i t
 | some .none=>a=.none
 | _=>False
theorem c5z{u:Option V}{p:Option Int}{a:Value}(h:c3b u=some p)(r:IsP u a):IsPart a p:=by
 induction u using Option.casesOn with
 | none=>cases r;cases h;exact .none
 | some v=>induction v using Mine.V.casesOn with
  | none=>cases r;cases h;exact .none
  | int i=>obtain⟨t,rfl⟩:=r;obtain rfl:=Option.some.inj h;exact .int _ t
  | _=>exact ns h
theorem b3m{l:List V}{lo hi st:Option Int}{r:V}{a vl vu vs:Value}{sl:Addr}(h:a1f (.lst l) lo hi st=some r)(ra:Rep0 s.heap as (.lst l) a)(hs:s.heap.IsSliceOf sl vl vu vs)(h1:IsPart vl lo)(h2:IsPart vu hi)(h3:IsPart vs st)(g:GR Lx base μ as s.heap)
  (hQ:Post Lx base as s r μ Q):wpAny (model prog w) A (getItem a (.ref sl)) Q E s:=by
 refine ifN h fun h0 h=>ifS h fun hb h=>?_;obtain⟨a,vs',rfl,ht,hr⟩:=ra;have hl:=hr.length;refine wpAny_getItem_list_slice ht.isList hs h1 h2 h3 (by intro q;subst q;simp at h0) ?_ (by simp only [List.size_toArray,hl];exact a1w hb);have:=(hQ.eq h).new (tk:=s.toks) g (a4i g (hr.pick ((sliceRange (sliceBounds lo hi st l.length).1 (sliceBounds lo hi st l.length).2.1 (sliceBounds lo hi st l.length).2.2))));unfold slicePick;simp only [List.size_toArray,hl,List.getElem?_toArray];exact this
noncomputable def a9b:Option Int->Value->Option (Int×Tok)
 | some i,.int _ t=>some (i,t)
 | _,_=>.none
theorem a5w{p:Option Int}{a:Value}(h:IsPart a p):partValue (a9b p a)=a/\(a9b p a).map (·.1)=p:=by
 cases h<;>exact⟨rfl,rfl⟩
theorem b4t{x:List Nat}{lo hi st:Option Int}{r:V}{a vl vu vs:Value}{sl:Addr}(h:a1f (.str x) lo hi st=some r)(ra:Rep s.heap as (.str x) a)(hs:s.heap.IsSliceOf sl vl vu vs)(h1:IsPart vl lo)(h2:IsPart vu hi)(h3:IsPart vs st)(g:GR Lx base μ as s.heap)
  (hQ:Post Lx base as s r μ Q):wpAny (model prog w) A (getItem a (.ref sl)) Q E s:=by
 refine ifN h fun h0 h=>ifS h fun hb h=>?_;have hQ:=hQ.eq h;obtain⟨t,rfl⟩:=ra;obtain⟨e1,f1⟩:=a5w h1;obtain⟨e2,f2⟩:=a5w h2;obtain⟨e3,f3⟩:=a5w h3;have hS:s.heap.IsSlice sl (a9b lo vl) (a9b hi vu) (a9b st vs):=by
  obtain⟨o,ho,hc,hd⟩:=hs;exact⟨o,ho,hc,by rw [e1,e2,e3];exact hd⟩
 refine wpAny_getItem_str_slice hS ?_ ?_
 ·rw [f3]
  induction st using Option.casesOn with
  | none=>rfl
  | some i=>
   simp only [beq_iff_eq,Option.some.injEq]at h0;simpa using h0
 ·unfold sliceMade
  have idx:slicePicked ⟨x.toArray⟩ (a9b lo vl) (a9b hi vu) (a9b st vs)=Builtin.Str.strSliceIndices lo hi (st.getD 1) x.length:=by
   unfold slicePicked;rw [f1,f2,f3];rfl
  rw [idx,f3];by_cases hw:(st.getD 1==1&&(Builtin.Str.strSliceIndices lo hi (st.getD 1) x.length).length==x.length)=true
  ·rw [if_pos hw]at hQ
   exact(if_pos hw).symm▸hQ.now g ⟨_,rfl⟩
  ·rw [if_neg hw]at hQ
   have hx:=a1w hb.2;refine(if_neg hw).symm▸⟨?_,?_⟩
   ·simp only [List.getElem?_toArray,Str.length,List.size_toArray]
    exact hx
   ·simp only [List.getElem?_toArray]
    exact hQ.now g ⟨_,rfl⟩
theorem b6a{l:List V}{lo hi st:Option Int}{r:V}{a vl vu vs:Value}{sl:Addr}(h:a1f (.tup l) lo hi st=some r)(ra:Rep0 s.heap as (.tup l) a)(hs:s.heap.IsSliceOf sl vl vu vs)(h1:IsPart vl lo)(h2:IsPart vu hi)(h3:IsPart vs st)(g:GR Lx base μ as s.heap)
  (hQ:Post Lx base as s r μ Q):wpAny (model prog w) A (getItem a (.ref sl)) Q E s:=by
 refine ifN h fun zz h=>?_;induction lo using Option.casesOn with
 | none=>exact ns h
 | some i=>induction i using Int.casesOn with
  | negSucc _=>exact ns h
  | ofNat n=>
   replace h:slT l hi st (some (.ofNat n))=some r:=h;refine ifS h fun hc h9=>?_;obtain⟨c1,c2,c3,rfl,rfl⟩:=hc;cases h1;cases h2;cases h3;obtain⟨a,vs',rfl,_,ht,hr⟩:=ra;have hl:=hr.length;refine getItem_tuple_from ht hs c1 (by rw [List.size_toArray,hl];exact c2) ?_ (by rw [List.size_toArray,hl];exact a1w c3);exact(hQ.eq h9).new (tk:=s.toks) g (a5g g (hr.drop n))
theorem c9k{u r:V}{lo hi st:Option Int}{a vl vu vs:Value}{sl:Addr}(h:a1f u lo hi st=some r)(ra:Rep0 s.heap as u a)(hs:s.heap.IsSliceOf sl vl vu vs)(h1:IsPart vl lo)(h2:IsPart vu hi)(h3:IsPart vs st)(g:GR Lx base μ as s.heap)
  (hQ:Post Lx base as s r μ Q):wpAny (model prog w) A (getItem a (.ref sl)) Q E s:=by
 induction u using Mine.V.casesOn with
 | lst l=>exact b3m h ra hs h1 h2 h3 g hQ
 | tup l=>exact b6a h ra hs h1 h2 h3 g hQ
 | str x=>exact b4t h ra hs h1 h2 h3 g hQ
 | _=>exact ifN h fun zz h=>ns h
end
end
section
noncomputable def Mv(own:List Addr)(h h':Heap):Prop:=∀ a o,a∉own->h.get? a=some o->h'.get? a=some o
structure Sf(own:List Addr)(as:List (List Addr))(h:Heap)(as':List (List Addr))(h':Heap):Prop where
 off':∀ a o,h.get? a=some o->a∉as.flatten->a∉as'.flatten
 get':∀(k:Nat) (l:List Addr),as[k+1]?=some l->as'[k+1]?=some l
 keep:∀ a o,a∉as.flatten->h.get? a=some o->(a∈own∨∃ xs n,o.data=.seq xs n)->h'.get? a=some o
theorem Sf.off{own as h as' h'}(g:Sf own as h as' h'){a:Addr}{o:Obj}(e:h.get? a=some o)(ha:a∉as.flatten):a∉as'.flatten:=g.off' a o e ha
theorem Rep.sf{own:List Addr}{as as':List (List Addr)}{h h':Heap}(g:Sf own as h as' h'):∀ {x:V} {v:Value},Rep h as x v->Rep h' as' x v:=fun r=>
 Rep.tr (fun a o ha e q=>⟨g.off e ha,g.keep a o ha e (.inr q)⟩) g.get' r
theorem Reps.sf{own:List Addr}{as as':List (List Addr)}{h h':Heap}(g:Sf own as h as' h'):∀ {l:List V} {vs:List Value},Reps h as l vs->Reps h' as' l vs:=fun r=>
 Reps.tr (fun a o ha e q=>⟨g.off e ha,g.keep a o ha e (.inr q)⟩) g.get' r
structure Wk0(prog:Program)(w:World)(A:Around)(base h₀:Heap)(tg:Expr)(it:Value)(own:List Addr)(vs:List V)(St:Nat->List (List Addr)->Heap->Prop):Prop where
 fresh:∀ a∈own,h₀.get? a=.none/\base.get? a=.none
 off:∀ i as h,St i as h->∀ a∈own,a∉as.flatten/\∃ o,h.get? a=some o/\∀ xs n,o.data≠.seq xs n
 stay:∀ i as h as' h',St i as h->Sf own as h as' h'->St i as' h'
 item:∀ i as (s:Shared) (Q:Value->Shared->Prop) (E:Value->Shared->Prop) x,vs[i]?=some x->(∀ a∈as.flatten,∃ o,s.heap.get? a=some o)->St i as s.heap →
  (∀ v h' tk,Rep h' as x v->St (i+1) as h'->Mv own s.heap h'->Q v { s with heap:=h',toks:=tk}) →
  wpAny (model prog w) A (pyNext it) (fun r sI=>match r with | .none=>False | some v=>wpAny (model prog w) A (letOwnedTupleGo tg it v) (fun zz sJ=>Q v sJ) E sI) E s
 done:∀ as (s:Shared) (Q:Option Value->Shared->Prop) (E:Value->Shared->Prop),St vs.length as s.heap →
  (∀ h' tk,Mv own s.heap h'->Q .none { s with heap:=h',toks:=tk})->wpAny (model prog w) A (pyNext it) Q E s
 self:∀ i as (s:Shared) (Q:Value->Shared->Prop) (E:Value->Shared->Prop),St i as s.heap->Q it s->wpAny (model prog w) A (pyIter it) Q E s
section
variable{prog:Program}{w:World}{A:Around}{base h₀:Heap}{tg:Expr}{as:List (List Addr)}
noncomputable def b6k:Expr->Bool
 | .Name ..=>true
 | .Tuple ..=>true
 | _=>false
theorem a1z{M:Model}{E:Value->Shared->Prop}{s:Shared}{I:Addr}{o:Obj}{vs:Array Value}{n:String}{v:Value}{Q:Unit->Shared->Prop}(ht:b6k tg=true)(ho:s.heap.get? I=some o)(hc:o.cls=.type n)(hd:o.data=.fields vs)
  (hn:(["enumerate","zip","dict_itemiterator","dict_reverseitemiterator","odict_iterator","itertools.zip_longest","itertools.pairwise"].contains n)=false) (hQ:Q () s):wpAny M A (letOwnedTupleGo tg (.ref I) v) Q E s:=by
 induction tg using PySem.Expr.casesOn with
 | Name=>exact wpAny_pure hQ
 | Tuple=>
  cases v with
  | ref a=>
   refine wpAny_bind (wpAny_load ho ?_);rw [hc,hd];show wpAny M A (if(["enumerate","zip","dict_itemiterator","dict_reverseitemiterator","odict_iterator","itertools.zip_longest","itertools.pairwise"].contains n&&vs[0]?==some (rawInt a))=true then _ else _) Q E s
   rw [hn,Bool.false_and,if_neg (by decide)];exact wpAny_pure hQ
  | _=>exact wpAny_pure hQ
 | _=>exact nt ht
theorem Wk0.list(hh:A.handled=.none)(ht:b6k tg=true)(I ax:Addr)(l:List V)(vals:List Value)(hf:h₀.get? I=.none/\base.get? I=.none) :
  Wk0 prog w A base h₀ tg (.ref I) [I] l (fun i as h=>h.IsListIter I ax i/\I∉as.flatten/\ax∉as.flatten/\h.PlainList ax vals.toArray/\Reps h as l vals) where
 fresh:=fun a ha=>by rw [List.mem_singleton]at ha;subst ha;exact hf
 off:=fun i as h st a ha=>by
  rw [List.mem_singleton]at ha;subst ha;obtain⟨o,ho,hc,hd⟩:=st.1;exact⟨st.2.1,o,ho,fun zz zz q=>by rw [hd]at q;cases q⟩
 stay:=fun i as h as' h' st g=>by
  obtain⟨⟨o,ho,hc,hd⟩,h1,h2,⟨n,h3⟩,h4⟩:=st;exact⟨⟨o,g.keep I o h1 ho (.inl (by simp)),hc,hd⟩,g.off ho h1,g.off h3 h2,⟨n,g.keep ax _ h2 h3 (.inr ⟨_,_,rfl⟩)⟩,h4.sf g⟩
 item:=fun i as s Q E x hx zz st hQ=>by
  obtain⟨h0,h1,h2,h3,h4⟩:=st;obtain⟨y,hy,ry⟩:=h4.get i hx;obtain⟨o,ho,hc,hd⟩:=id h0;have hne:ax≠I:=fun q=>by obtain⟨n,e⟩:=h3;rw [q,ho]at e;cases e;cases hd
  refine wpAny_pyNext_list_item h0 h3.isList (x:=y) (by simpa using hy) fun h' hit hs=>?_;obtain⟨o',ho',hc',hd'⟩:=id hit;have mv:Mv [I] s.heap h':=fun a o ha e=>(hs.2 a (by simpa using ha)).trans e;have ks:Ks as s.heap h':=fun a o _ e ⟨xs,n,q⟩=>mv a o (fun hm=>by rw [List.mem_singleton]at hm;subst hm;rw [ho]at e;cases e;rw [hd]at q;cases q) e;refine a1z ht ho' hc' hd' (by decide) (hQ y h' s.toks (ry.ks ks) ⟨hit,h1,h2,?_,h4.ks ks⟩ mv);obtain⟨n,e⟩:=h3;exact⟨n,mv ax _ (by simpa using hne) e⟩
 done:=fun as s Q E st hQ=>by
  obtain⟨h0,h1,h2,h3,h4⟩:=st;refine wpAny_pyNext_list_end hh h0 h3.isList (by simp [h4.length]) fun h' he=>hQ h' s.toks fun a o ha e=>he a o (by simpa using ha) e
 self:=fun zz zz zz zz zz st hQ=>wpAny_pyIter_listiter st.1 hQ
theorem Wk0.tuple(hh:A.handled=.none)(ht:b6k tg=true)(I ax:Addr)(l:List V)(vals:List Value)(hf:h₀.get? I=.none/\base.get? I=.none) :
  Wk0 prog w A base h₀ tg (.ref I) [I] l (fun i as h=>h.IsTupleIter I ax i/\I∉as.flatten/\ax∉as.flatten/\h.IsTuple ax vals.toArray/\Reps h as l vals) where
 fresh:=fun a ha=>by rw [List.mem_singleton]at ha;subst ha;exact hf
 off:=fun i as h st a ha=>by
  rw [List.mem_singleton]at ha;subst ha;obtain⟨o,ho,hc,hd⟩:=st.1;exact⟨st.2.1,o,ho,fun zz zz q=>by rw [hd]at q;cases q⟩
 stay:=fun i as h as' h' st g=>by
  obtain⟨⟨o,ho,hc,hd⟩,h1,h2,⟨o2,ho2,hc2,n,hd2⟩,h4⟩:=st;exact⟨⟨o,g.keep I o h1 ho (.inl (by simp)),hc,hd⟩,g.off ho h1,g.off ho2 h2,⟨o2,g.keep ax _ h2 ho2 (.inr ⟨_,_,hd2⟩),hc2,n,hd2⟩,h4.sf g⟩
 item:=fun i as s Q E x hx zz st hQ=>by
  obtain⟨h0,h1,h2,h3,h4⟩:=st;obtain⟨y,hy,ry⟩:=h4.get i hx;obtain⟨o,ho,hc,hd⟩:=id h0;have hne:ax≠I:=fun q=>by obtain⟨o2,ho2,hc2,n,hd2⟩:=h3;rw [q,ho]at ho2;cases ho2;rw [hd]at hd2;cases hd2
  refine wpAny_pyNext_tuple_item h0 h3 (x:=y) (by simpa using hy) fun h' hit hs=>?_;obtain⟨o',ho',hc',hd'⟩:=id hit;have mv:Mv [I] s.heap h':=fun a o ha e=>(hs.2 a (by simpa using ha)).trans e;have ks:Ks as s.heap h':=fun a o _ e ⟨xs,n,q⟩=>mv a o (fun hm=>by rw [List.mem_singleton]at hm;subst hm;rw [ho]at e;cases e;rw [hd]at q;cases q) e;refine a1z ht ho' hc' hd' (by decide) (hQ y h' s.toks (ry.ks ks) ⟨hit,h1,h2,?_,h4.ks ks⟩ mv);obtain⟨o2,ho2,r⟩:=h3;exact⟨o2,mv ax _ (by simpa using hne) ho2,r⟩
 done:=fun as s Q E st hQ=>by
  obtain⟨h0,h1,h2,h3,h4⟩:=st;refine wpAny_pyNext_tuple_end hh h0 h3 (by simp [h4.length]) fun h' he=>hQ h' s.toks fun a o ha e=>he a o (by simpa using ha) e
 self:=fun zz zz zz zz zz st hQ=>wpAny_pyIter_tupleiter st.1 hQ
theorem Wk0.strA(hh:A.handled=.none)(ht:b6k tg=true)(I:Addr)(x:List Nat)(t:Tok)(hf:h₀.get? I=.none/\base.get? I=.none) :
  Wk0 prog w A base h₀ tg (.ref I) [I] (x.map fun c=>.str [c]) (fun i as h=>h.IsStrIter I "str_ascii_iterator" ⟨x.toArray⟩ t i/\I∉as.flatten) where
 fresh:=fun a ha=>by rw [List.mem_singleton]at ha;subst ha;exact hf
 off:=fun i as h st a ha=>by
  rw [List.mem_singleton]at ha;subst ha;obtain⟨o,ho,hc,hd⟩:=st.1;exact⟨st.2,o,ho,fun zz zz q=>by rw [hd]at q;cases q⟩
 stay:=fun i as h as' h' st g=>by
  obtain⟨⟨o,ho,hc,hd⟩,h1⟩:=st;exact⟨⟨o,g.keep I o h1 ho (.inl (by simp)),hc,hd⟩,g.off ho h1⟩
 item:=fun i as s Q E y hx zz st hQ=>by
  obtain⟨h0,h1⟩:=st;simp only [List.getElem?_map,Option.map_eq_some_iff]at hx;obtain⟨c,hc,rfl⟩:=hx;refine wpAny_pyNext_ascii_item h0 (c:=c) (by simpa using hc) fun h' hit hs=>?_;obtain⟨o',ho',hc',hd'⟩:=id hit;exact a1z ht ho' hc' hd' (by decide) (hQ _ h' _ (by simp [Rep]) ⟨hit,h1⟩ fun a o ha e=>(hs.2 a (by simpa using ha)).trans e)
 done:=fun as s Q E st hQ=>by
  obtain⟨h0,h1⟩:=st;refine wpAny_pyNext_ascii_end hh h0 (by simp) fun h' he=>hQ h' s.toks fun a o ha e=>he a o (by simpa using ha) e
 self:=fun zz zz zz zz zz st hQ=>wpAny_pyIter_striter_ascii st.1 hQ
theorem Wk0.range(hh:A.handled=.none)(ht:b6k tg=true)(I:Addr)(a b c:Int)(hf:h₀.get? I=.none/\base.get? I=.none) :
  Wk0 prog w A base h₀ tg (.ref I) [I] (a2d a b c) (fun i as h=>IsRangeIter h I (a+(i:Int) * c) (Builtin.Range.rangeSize a b c-i) c/\I∉as.flatten/\i<=(Builtin.Range.rangeSize a b c).toNat) where
 fresh:=fun a ha=>by rw [List.mem_singleton]at ha;subst ha;exact hf
 off:=fun i as h st a ha=>by
  rw [List.mem_singleton]at ha;subst ha;exact⟨st.2.1,_,st.1,fun zz zz q=>by cases q⟩
 stay:=fun i as h as' h' st g=>⟨g.keep I _ st.2.1 st.1 (.inl (by simp)),g.off st.1 st.2.1,st.2.2⟩
 item:=fun i as s Q E y hx zz st hQ=>by
  obtain⟨h0,h1,h2⟩:=st;refine a1n (List.getElem?_map.symm.trans hx) fun j hj e=>?_;subst e;obtain⟨hlt,e⟩:=List.getElem?_eq_some_iff.mp hj;rw [List.getElem_range]at e;subst e;rw [List.length_range]at hlt;refine wpAny_pyNext_range_item h0 (by omega) fun h' hit hs=>?_;refine a1z (n:="range_iterator") ht hit rfl rfl (by decide) (hQ _ h' _ (by simp [Rep]) ⟨?_,h1,by omega⟩ fun a o ha e=>(hs.2 a (by simpa using ha)).trans e)
  have e1:a+((i+1:Nat):Int) * c=a+(i:Int) * c+c:=by
   rw [Int.natCast_add,Int.add_mul];simp;omega
  have e2:Builtin.Range.rangeSize a b c-((i+1:Nat):Int)=Builtin.Range.rangeSize a b c-i-1:=by omega
  rw [e1,e2];exact hit
 done:=fun as s Q E st hQ=>by
  obtain⟨h0,h1,h2⟩:=st;have hl:(a2d a b c).length=(Builtin.Range.rangeSize a b c).toNat:=(List.length_map _).trans List.length_range;rw [hl]at h0 h2;refine wpAny_pyNext_range_end hh h0 (by omega) fun h' he=>hQ h' s.toks fun a o ha e=>he a o (by simpa using ha) e
 self:=fun zz zz zz zz zz st hQ=>wpAny_pyIter_rangeiter st.1 hQ
end
section
variable{prog:Program}{w:World}{Lx:LxP}{base:Heap}{μ:Mu}{as:List (List Addr)}{h h':Heap}
theorem b3g(g:GR Lx base μ as h){j k:Nat}{ads ads':List Addr}(hj:as[j]?=some ads)(hk:as[k]?=some ads')(hne:j≠k){a:Addr}(ha:a∈ads):a∉ads':=by
 intro hm;have nd:as.flatten.Pairwise (·≠·):=g.nd;rw [List.pairwise_flatten]at nd;have pw:=nd.2;rw [List.pairwise_iff_getElem]at pw;obtain⟨hj1,hj2⟩:=List.getElem?_eq_some_iff.mp hj;obtain⟨hk1,hk2⟩:=List.getElem?_eq_some_iff.mp hk;rcases Nat.lt_or_gt_of_ne hne with q | q
 ·have:=pw j k hj1 hk1 q
  rw [hj2,hk2]at this;exact this a ha a hm rfl
 ·have:=pw k j hk1 hj1 q
  rw [hj2,hk2]at this;exact this a hm a ha rfl
theorem GR.mvs(g:GR Lx base μ as h){own:List Addr}(ho:∀ a∈own,a∉as.flatten/\base.get? a=.none/\∃ o,h.get? a=some o/\∀ xs n,o.data≠.seq xs n)(mv:Mv own h h'):GR Lx base μ as h'/\Ks as h h':=by
 have ks:Ks as h h':=fun a o ha e ⟨xs,n,hd⟩=>mv a o (fun hm=>by
  obtain⟨_,_,o',e',hk⟩:=ho a hm;rw [e]at e';obtain rfl:=Option.some.inj e';exact hk xs n hd) e
 have off:∀ a∈as.flatten,a∉own:=fun a ha hm=>(ho a hm).1 ha;refine⟨⟨fun a o e=>mv a o (fun hm=>by rw [(ho a hm).2.1]at e;exact ns e) (g.keep a o e),g.fresh,g.nd,fun a ha=>?_,g.len,fun i m ads hi ha=>?_⟩,ks⟩
 ·obtain⟨o,e⟩:=g.alive a ha
  exact⟨o,mv a o (off a ha) e⟩
 ·have hm:=g.mus i m ads hi ha
  have hin:∀ a∈ads,a∉own:=fun a hq=>off a (List.mem_flatten.mpr ⟨ads,List.mem_of_getElem? ha,hq⟩);induction m using Mine.M.casesOn with
  | list l=>
   obtain⟨a,vs,rfl,⟨n,hp⟩,hr⟩:=hm;exact⟨a,vs,rfl,⟨n,mv a _ (hin a (by simp)) hp⟩,hr.ks ks⟩
  | obj is n=>exact let⟨rs,e1,e2⟩:=hm;⟨rs,e1,Lx.keep e2 fun a ha o e=>mv a o (hin a ha) e⟩
theorem GR.mvd(g:GR Lx base μ as h){own:List Addr}{k:Nat}{T:Addr}{x y:Value}(hk:as[k+1]?=some [T])(hm:μ[k]?=some (.obj [] (-9)))(ho:∀ a∈own,a≠T->a∉as.flatten/\base.get? a=.none/\∃ o,h.get? a=some o/\∀ xs n,o.data≠.seq xs n)(mv:Mv own h h')(hT:IsPair h' T x y):GR Lx base μ as h'/\Ks as h h':=by
 have hin:T∈as.flatten:=List.mem_flatten.mpr ⟨[T],List.mem_of_getElem? hk,List.mem_singleton_self _⟩;have ks:Ks as h h':=fun a o ha e ⟨xs,n,hd⟩=>mv a o (fun hm=>by
  obtain⟨_,_,o',e',hk⟩:=ho a hm fun q=>ha (q▸hin);rw [e]at e';obtain rfl:=Option.some.inj e';exact hk xs n hd) e
 have off:∀ a∈as.flatten,a≠T->a∉own:=fun a ha q hm=>(ho a hm q).1 ha;refine⟨⟨fun a o e=>mv a o (fun hm=>?_) (g.keep a o e),g.fresh,g.nd,fun a ha=>?_,g.len,fun i m ads hi ha=>?_⟩,ks⟩
 ·by_cases q:a=T
  ·rw [q,g.fresh T hin]at e;exact ns e
  ·rw [(ho a hm q).2.1]at e;exact ns e
 ·by_cases q:a=T
  ·exact⟨_,q▸hT⟩
  ·obtain⟨o,e⟩:=g.alive a ha
   exact⟨o,mv a o (off a ha q) e⟩
 ·by_cases q:i=k
  ·subst q
   cases hi.symm.trans hm;cases ha.symm.trans hk;exact⟨[],rfl,Lx.pair.mpr ⟨x,y,hT⟩⟩
  ·have hM:=g.mus i m ads hi ha
   have hno:∀ a∈ads,a∉own:=fun a hq=>off a (List.mem_flatten.mpr ⟨ads,List.mem_of_getElem? ha,hq⟩) fun e=>b3g g ha hk (by omega) hq (List.mem_singleton.mpr e);induction m using Mine.M.casesOn with
   | list l=>
    obtain⟨a,vs,rfl,⟨n,hp⟩,hr⟩:=hM;exact⟨a,vs,rfl,⟨n,mv a _ (hno a (List.mem_singleton_self _)) hp⟩,hr.ks ks⟩
   | obj is n=>exact let⟨rs,e1,e2⟩:=hM;⟨rs,e1,Lx.keep e2 fun a ha o e=>mv a o (hno a ha) e⟩
structure Wk(prog:Program)(w:World)(Lx:LxP)(A:Around)(base h₀:Heap)(tg:Expr)(it:Value)(own:List Addr)(vs:List V)(St:Nat->List (List Addr)->Heap->Prop)(P:Mu->Prop):Prop where
 fresh:∀ a∈own,h₀.get? a=.none/\base.get? a=.none
 alive:∀ i μ as h,P μ->GR Lx base μ as h->St i as h->∀ a∈own,∃ o,h.get? a=some o
 stay:∀ i as h as' h',St i as h->Sf own as h as' h'->St i as' h'
 item:∀ i μ as (s:Shared) (Q:Value->Shared->Prop) (E:Value->Shared->Prop) x,vs[i]?=some x->P μ->GR Lx base μ as s.heap->St i as s.heap →
  (∀ v h' tk,Rep h' as x v->St (i+1) as h'->GR Lx base μ as h'->Ks as s.heap h'->Mv own s.heap h'->Q v { s with heap:=h',toks:=tk}) →
  wpAny (model prog w) A (pyNext it) (fun r sI=>match r with | .none=>False | some v=>wpAny (model prog w) A (letOwnedTupleGo tg it v) (fun zz sJ=>Q v sJ) E sI) E s
 done:∀ μ as (s:Shared) (Q:Option Value->Shared->Prop) (E:Value->Shared->Prop),P μ->GR Lx base μ as s.heap->St vs.length as s.heap →
  (∀ h' tk,GR Lx base μ as h'->Ks as s.heap h'->Mv own s.heap h'->Q .none { s with heap:=h',toks:=tk})->wpAny (model prog w) A (pyNext it) Q E s
 self:∀ i as (s:Shared) (Q:Value->Shared->Prop) (E:Value->Shared->Prop),St i as s.heap->Q it s->wpAny (model prog w) A (pyIter it) Q E s
theorem Wk0.wk{A:Around}{h₀:Heap}{tg:Expr}{it:Value}{own:List Addr}{vs:List V}{St:Nat->List (List Addr)->Heap->Prop}(k:Wk0 prog w A base h₀ tg it own vs St):Wk prog w Lx A base h₀ tg it own vs St fun zz=>True where
 fresh:=k.fresh
 alive:=fun i μ as h zz zz st a ha=>let⟨_,o,e,_⟩:=k.off i as h st a ha;⟨o,e⟩
 stay:=k.stay
 item:=fun i μ as s Q E x hx zz g st hQ=>k.item i as s Q E x hx g.alive st fun v h' tk rv st' mv=>
  let⟨g',ks⟩:=g.mvs (fun a ha=>⟨(k.off i as _ st a ha).1,(k.fresh a ha).2,(k.off i as _ st a ha).2⟩) mv
  hQ v h' tk rv st' g' ks mv
 done:=fun μ as s Q E zz g st hQ=>k.done as s Q E st fun h' tk mv=>
  let⟨g',ks⟩:=g.mvs (fun a ha=>⟨(k.off _ as _ st a ha).1,(k.fresh a ha).2,(k.off _ as _ st a ha).2⟩) mv
  hQ h' tk g' ks mv
 self:=k.self
theorem GR.own_list(g:GR Lx base μ as h){k:Nat}{l:List V}{ax:Addr}(hm:μ[k]?=some (.list l))(hk:as[k+1]?=some [ax]):∃ vals:List Value,h.PlainList ax vals.toArray/\Reps h as l vals:=by
 obtain⟨_,vals,e,hp,hr⟩:=g.mus k _ _ hm hk;cases e;exact⟨vals,hp,hr⟩
theorem Wk.own{A:Around}{h₀:Heap}{tg:Expr}(hh:A.handled=.none)(ht:b6k tg=true)(k:Nat)(I ax:Addr)(l:List V)(hf:h₀.get? I=.none/\base.get? I=.none) :
  Wk prog w Lx A base h₀ tg (.ref I) [I] l (fun i as h=>h.IsListIter I ax i/\I∉as.flatten/\as[k+1]?=some [ax]) (fun μ=>μ[k]?=some (.list l)) where
 fresh:=fun a ha=>by rw [List.mem_singleton]at ha;subst ha;exact hf
 alive:=fun i μ as h zz zz st a ha=>by
  rw [List.mem_singleton]at ha;subst ha;obtain⟨o,ho,_⟩:=st.1;exact⟨o,ho⟩
 stay:=fun i as h as' h' st g=>by
  obtain⟨⟨o,ho,hc,hd⟩,h1,h2⟩:=st;exact⟨⟨o,g.keep I o h1 ho (.inl (List.mem_singleton_self _)),hc,hd⟩,g.off ho h1,g.get' _ _ h2⟩
 item:=fun i μ as s Q E x hx hm g st hQ=>by
  obtain⟨h0,h1,h2⟩:=st;obtain⟨vals,h3,h4⟩:=g.own_list hm h2;obtain⟨y,hy,ry⟩:=h4.get i hx;obtain⟨o,ho,hc,hd⟩:=id h0;refine wpAny_pyNext_list_item h0 h3.isList (x:=y) ((List.getElem?_toArray ..).trans hy) fun h' hit hs=>?_;obtain⟨o',ho',hc',hd'⟩:=id hit;have mv:Mv [I] s.heap h':=fun a o ha e=>(hs.2 a (fun q=>ha (List.mem_singleton.mpr q))).trans e;obtain⟨g',ks⟩:=g.mvs (fun a ha=>by rw [List.mem_singleton]at ha;subst ha;exact⟨h1,hf.2,o,ho,fun zz zz q=>by rw [hd]at q;cases q⟩) mv;exact a1z ht ho' hc' hd' (by decide) (hQ y h' s.toks (ry.ks ks) ⟨hit,h1,h2⟩ g' ks mv)
 done:=fun μ as s Q E hm g st hQ=>by
  obtain⟨vals,h3,h4⟩:=g.own_list hm st.2.2;obtain⟨o,ho,hc,hd⟩:=id st.1;refine wpAny_pyNext_list_end hh st.1 h3.isList (by simp [h4.length]) fun h' he=>?_;have mv:Mv [I] s.heap h':=fun a o ha e=>he a o (fun q=>ha (List.mem_singleton.mpr q)) e;obtain⟨g',ks⟩:=g.mvs (fun a ha=>by rw [List.mem_singleton]at ha;subst ha;exact⟨st.2.1,hf.2,o,ho,fun zz zz q=>by rw [hd]at q;cases q⟩) mv;exact hQ h' s.toks g' ks mv
 self:=fun zz zz zz zz zz st hQ=>wpAny_pyIter_listiter st.1 hQ
end
end
section
section
variable{prog:Program}{w:World}{A:Around}{base h₀:Heap}{as:List (List Addr)}
theorem c1l{l:List V}{i:Nat}{y:V}(h:(l.zipIdx.map fun p=>V.tup [.int (p.2:Int),p.1])[i]?=some y):∃ x,l[i]?=some x/\y=.tup [.int (i:Int),x]:=by
 rw [List.getElem?_map,Option.map_eq_some_iff]at h;obtain⟨p,hp,rfl⟩:=h;rw [List.getElem?_zipIdx,Option.map_eq_some_iff]at hp;obtain⟨x,hx,rfl⟩:=hp;exact⟨x,hx,by simp⟩
theorem Wk0.enum0{elts:List Expr}{k:Nat}{pos:Pos}(hh:A.handled=.none)(e I ax:Addr)(l:List V)(vals:List Value)(hf:h₀.get? I=.none/\base.get? I=.none)(hf':h₀.get? e=.none/\base.get? e=.none)(hne:e≠I) :
  Wk0 prog w A base h₀ (.Tuple elts k pos) (.ref e) [e,I] (l.zipIdx.map fun p=>V.tup [.int (p.2:Int),p.1])
   (fun i as h=>(∃ old,IsEnum h e I i old)/\h.IsListIter I ax i/\e∉as.flatten/\I∉as.flatten/\ax∉as.flatten/\h.PlainList ax vals.toArray/\Reps h as l vals) where
 fresh:=fun a ha=>by
  rcases List.mem_cons.mp ha with rfl | ha
  ·exact hf'
  ·rw [List.mem_singleton]at ha;subst ha;exact hf
 off:=fun i as h st a ha=>by
  obtain⟨⟨old,he⟩,⟨o,ho,hc,hd⟩,h1,h2,_⟩:=st;rcases List.mem_cons.mp ha with rfl | ha
  ·exact⟨h1,_,he,fun zz zz q=>by cases q⟩
  ·rw [List.mem_singleton]at ha;subst ha
   exact⟨h2,o,ho,fun zz zz q=>by rw [hd]at q;cases q⟩
 stay:=fun i as h as' h' st g=>by
  obtain⟨⟨old,he⟩,⟨o,ho,hc,hd⟩,h1,h2,h3,⟨n,h4⟩,h5⟩:=st;exact⟨⟨old,g.keep e _ h1 he (.inl (by simp))⟩,⟨o,g.keep I o h2 ho (.inl (by simp)),hc,hd⟩,g.off he h1,g.off ho h2,g.off h4 h3,⟨n,g.keep ax _ h3 h4 (.inr ⟨_,_,rfl⟩)⟩,h5.sf g⟩
 item:=fun i as s Q E y hx al st hQ=>by
  refine e7e fun G0 hG=>?_;obtain⟨⟨old,he⟩,hi,h1,h2,h3,h4,h5⟩:=st;obtain⟨x,hx',rfl⟩:=c1l hx;obtain⟨u,hu,ru⟩:=h5.get i hx';obtain⟨o,ho,hc,hd⟩:=id hi;obtain⟨n,hn⟩:=id h4;have ne1:ax≠I:=fun q=>by rw [q,ho]at hn;cases hn;cases hd
  have ne2:ax≠e:=fun q=>by
   rw [q,he]at hn;have:=congrArg Obj.data (Option.some.inj hn);cases this
  refine hG (wpAny_pyNext_enum_item he hi h4.isList (x:=u) (by simpa using hu) hne fun h' ho' hi' hnew hsz hk=>?_);refine wpAny_letOwnedTupleGo_enum ho' fun h'' he'' hs=>?_;have szne:s.heap.objs.size≠e:=Nat.ne_of_gt (Heap.lt_size he);have mv1:Mv [e,I] s.heap h':=fun a o ha q=>by
   simp only [List.mem_cons,List.not_mem_nil,or_false,not_or]at ha;exact hk a o ha.1 ha.2 q
  have mv2:∀ a o,a≠e->h'.get? a=some o->h''.get? a=some o:=fun a o ha q=>(hs.2 a ha).trans q;have mv:Mv [e,I] s.heap h'':=fun a o ha q=>by
   have:=mv1 a o ha q;simp only [List.mem_cons,List.not_mem_nil,or_false,not_or]at ha;exact mv2 a o ha.1 this
  have ks:Ks as s.heap h'':=fun a o _ q ⟨xs,n,hq⟩=>by
   refine mv a o (fun hm=>?_) q;simp only [List.mem_cons,List.not_mem_nil,or_false]at hm;rcases hm with rfl | rfl
   ·rw [he]at q;cases q;cases hq
   ·rw [ho]at q;cases q;rw [hd]at hq;cases hq
  refine hQ _ h'' _ ?_ ⟨⟨u,?_⟩,?_,h1,h2,h3,?_,h5.ks ks⟩ mv
  ·refine⟨_,[.int i s.toks,u],rfl,fun hm=>?_,⟨_,mv2 _ _ szne hnew,rfl,_,rfl⟩,_,_,rfl,⟨_,rfl⟩,_,_,rfl,ru.ks ks,rfl⟩
   obtain⟨o',q⟩:=al _ hm;exact absurd (Heap.lt_size q) (Nat.lt_irrefl _)
  ·exact he''
  ·obtain⟨o2,ho2,r⟩:=hi'
   exact⟨o2,mv2 _ _ (Ne.symm hne) ho2,r⟩
  ·exact⟨n,mv ax _ (by simp [ne1,ne2]) hn⟩
 done:=fun as s Q E st hQ=>by
  obtain⟨⟨old,he⟩,hi,h1,h2,h3,h4,h5⟩:=st;have hl:(l.zipIdx.map fun p=>V.tup [.int (p.2:Int),p.1]).length=l.length:=by simp
  rw [hl]at he hi;refine wpAny_pyNext_enum_end hh he hi h4.isList (by simp [h5.length]) fun h' he'=>hQ h' s.toks fun a o ha q=>he' a o (fun hm=>ha (by simp [hm])) q
 self:=fun zz zz zz zz zz st hQ=>let⟨⟨_,he⟩,_⟩:=st;wpAny_pyIter_enum he hQ
theorem Wk0.enum{tg:Expr}(hh:A.handled=.none)(ht:c4a tg=true)(e I ax:Addr)(l:List V)(vals:List Value)(hf:h₀.get? I=.none/\base.get? I=.none)(hf':h₀.get? e=.none/\base.get? e=.none)(hne:e≠I) :
  Wk0 prog w A base h₀ tg (.ref e) [e,I] (l.zipIdx.map fun p=>V.tup [.int (p.2:Int),p.1])
   (fun i as h=>(∃ old,IsEnum h e I i old)/\h.IsListIter I ax i/\e∉as.flatten/\I∉as.flatten/\ax∉as.flatten/\h.PlainList ax vals.toArray/\Reps h as l vals):=by
 induction tg using PySem.Expr.casesOn with
 | Tuple elts k pos=>exact Wk0.enum0 hh e I ax l vals hf hf' hne
 | _=>exact nt ht
end
section
variable{prog:Program}{w:World}{Lx:LxP}{A:Around}{base h₀:Heap}{E:Value->Shared->Prop}
theorem d3q{s:Shared}{z TI TO i1 i2 l1:Addr}{k1:Nat}{xs:Array Value}{Q:Option Value->Shared->Prop}(hh:A.handled=.none)(n1:i1≠z)(n2:l1≠z)(hz:IsZip s.heap z TI TO .none)(hTI:IsPair s.heap TI (.ref i1) (.ref i2))
  (h1:s.heap.IsListIter i1 l1 k1) (hl1:s.heap.IsList l1 xs) (he:xs[k1]?=.none) (hQ:∀ h',(∀ c o,c≠z->c≠i1->s.heap.get? c=some o->h'.get? c=some o)->Q .none { s with heap:=h'}):wpAny (model prog w) A (pyNext (.ref z)) Q E s:=by
 have hT:s.TypeIs (.ref z) "zip":=⟨_,hz,rfl⟩
 refine wpAny_bind (wpAny_attempt (wpAny_callSpecial?_slot (name:=Str.ofString "__next__") hT F.slot_zip_next (wpAny_call_entry F.slot_zip_next hT F.entry_zip_next ?_ (F.args_zip_next_1 _))))
 show wpAny _ _ (field (.ref z) 2 >>= _) _ _ _;refine wpAny_bind (wpAny_field hz rfl (x:=.bool false) rfl ?_);show wpAny _ _ (field (.ref z) 3 >>= _) _ _ _;refine wpAny_bind (wpAny_field hz rfl (x:=.ref TI) rfl (wpAny_bind (wpAny_seqItems hTI rfl ?_)));show wpAny _ _ (Builtin.SmallTypes.ownedTupleIsFree (.ref z) >>= _) _ _ _;refine wpAny_bind (wpAny_bind (wpAny_field hz rfl (x:=.none) rfl (wpAny_pure ?_)));rw [if_pos rfl];refine wpAny_bind (wpAny_rule (wpAny_bind (wpAny_field hz rfl (x:=.ref TO) rfl (wpAny_bind (wpAny_setField_rec hz (Nat.zero_lt_succ _) fun hY hzI hsI=>?_)))));refine wpAny_bind (wpAny_bind (wpAny_bind (wpAny_onRaise ?_)));show wpAny _ _ (Builtin.SmallTypes.nextOf (.ref i1) >>= _) _ _ _;refine wpAny_bind (wpAny_nextOf_list_end hh (h1.extBut hsI.extBut n1) (hl1.extBut hsI.extBut n2) he fun hJ e hsJ he=>?_);obtain⟨oe,hoe,hce⟩:=he;have hzJ:hJ.get? z=some { cls:=.type "zip",dict:=none,data:=.fields #[.ellipsis,.bool false,.bool false,.ref TI,.ref TO],slots:=#[]}:=hsJ _ _ (Ne.symm n1) hzI
 have hez:e≠z:=fun x=>by subst x;rw [hzJ]at hoe;cases hoe;exact absurd (PySem.Value.type.inj hce) (by decide)
 refine wpAny_setField_rec hzJ (Nat.zero_lt_succ _) fun h₃ zz hsK=>?_;refine wpAny_bind (wpAny_isInstance (T:="StopIteration") (b:=true) ⟨oe,hsK.extBut _ _ hez hoe,hce⟩ isSubtype_stop ?_)
 exact wpAny_pure (hQ _ fun c o c1 c3 x=>hsK.extBut _ _ c1 (hsJ _ _ c3 (hsI.extBut _ _ c1 x)))
structure ZipSt(z TI TO i1 i2 ax bx:Addr)(k:Nat)(l m:List V)(us vs:List Value)(i:Nat)(as:List (List Addr))(h:Heap):Prop where
 hz:IsZip h z TI TO .none
 hTI:IsPair h TI (.ref i1) (.ref i2)
 h1:h.IsListIter i1 ax i
 h2:h.IsListIter i2 bx i
 off:z∉as.flatten/\TI∉as.flatten/\i1∉as.flatten/\i2∉as.flatten/\ax∉as.flatten/\bx∉as.flatten
 hT:as[k+1]?=some [TO]
 p1:h.PlainList ax us.toArray
 p2:h.PlainList bx vs.toArray
 r1:Reps h as l us
 r2:Reps h as m vs
theorem d9k{l m:List V}{i:Nat}{y:V}(h:((l.zip m).map fun p=>V.tup [p.1,p.2])[i]?=some y):∃ a b,l[i]?=some a/\m[i]?=some b/\y=.tup [a,b]:=by
 refine a1n (List.getElem?_map.symm.trans h) fun p hp e=>?_;obtain⟨h1,h2⟩:=List.getElem?_zip_eq_some.mp hp;exact⟨p.1,p.2,h1,h2,e.symm⟩
section
variable{z TI TO i1 i2 ax bx:Addr}{k:Nat}{l m:List V}{us vs:List Value}
theorem ZipSt.own{i:Nat}{as:List (List Addr)}{h:Heap}(st:ZipSt z TI TO i1 i2 ax bx k l m us vs i as h)(hf:∀ a∈[z,TO,i1,i2],base.get? a=.none):∀ a∈[z,TO,i1,i2],a≠TO->a∉as.flatten/\base.get? a=.none/\∃ o,h.get? a=some o/\∀ xs n,o.data≠.seq xs n:=fun a ha hne=>by
 obtain⟨z1,_,z3,z4,_⟩:=st.off;have hb:=hf a ha;simp only [List.mem_cons,List.not_mem_nil,or_false]at ha;rcases ha with rfl | rfl | rfl | rfl
 ·exact⟨z1,hb,_,st.hz,fun zz zz q=>by cases q⟩
 ·exact absurd rfl hne
 ·obtain⟨o,e,_,hd⟩:=st.h1;exact⟨z3,hb,o,e,fun zz zz q=>by rw [hd]at q;cases q⟩
 ·obtain⟨o,e,_,hd⟩:=st.h2;exact⟨z4,hb,o,e,fun zz zz q=>by rw [hd]at q;cases q⟩
theorem GR.pair{μ:Mu}{as:List (List Addr)}{h:Heap}(g:GR Lx base μ as h)(hm:μ[k]?=some (.obj [] (-9)))(hT:as[k+1]?=some [TO]):∃ a b,IsPair h TO a b:=by
 obtain⟨rs,e,h2⟩:=g.mus k _ _ hm hT;cases e;exact Lx.pair.mp h2
theorem Wk.zip0{elts:List Expr}{kk:Nat}{pos:Pos}(hh:A.handled=.none)(D:ZipApart z TI TO i1 i2 ax bx)(hl:l.length=m.length)(hf:∀ a∈[z,TO,i1,i2],h₀.get? a=.none/\base.get? a=.none) :
  Wk prog w Lx A base h₀ (.Tuple elts kk pos) (.ref z) [z,TO,i1,i2] ((l.zip m).map fun p=>V.tup [p.1,p.2]) (ZipSt z TI TO i1 i2 ax bx k l m us vs) (fun μ=>μ[k]?=some (.obj [] (-9))) where
 fresh:=hf
 alive:=fun i μ as h hm g st a ha=>by
  by_cases q:a=TO
  ·obtain⟨_,_,e⟩:=g.pair hm st.hT
   exact⟨_,q▸e⟩
  ·exact let⟨_,_,o,e,_⟩:=st.own (fun a ha=>(hf a ha).2) a ha q;⟨o,e⟩
 stay:=fun i as h as' h' st g=>by
  obtain⟨hz,hTI,⟨o1,e1,c1,d1⟩,⟨o2,e2,c2,d2⟩,⟨z1,z2,z3,z4,z5,z6⟩,hT,⟨n1,p1⟩,⟨n2,p2⟩,r1,r2⟩:=st;exact⟨g.keep _ _ z1 hz (.inl (.head _)),g.keep _ _ z2 hTI (.inr ⟨_,_,rfl⟩),⟨o1,g.keep _ _ z3 e1 (.inl (.tail _ (.tail _ (.head _)))),c1,d1⟩,⟨o2,g.keep _ _ z4 e2 (.inl (.tail _ (.tail _ (.tail _ (.head _))))),c2,d2⟩,
   ⟨g.off hz z1,g.off hTI z2,g.off e1 z3,g.off e2 z4,g.off p1 z5,g.off p2 z6⟩,g.get' _ _ hT,⟨n1,g.keep _ _ z5 p1 (.inr ⟨_,_,rfl⟩)⟩,⟨n2,g.keep _ _ z6 p2 (.inr ⟨_,_,rfl⟩)⟩,r1.sf g,r2.sf g⟩
 item:=fun i μ as s Q E y hx hm g st hQ=>by
  refine e7e fun G0 hG=>?_;obtain⟨x,y,hx1,hx2,rfl⟩:=d9k hx;obtain⟨a,b,hTO⟩:=g.pair hm st.hT;obtain⟨u,hu,ru⟩:=st.r1.get i hx1;obtain⟨v,hv,rv⟩:=st.r2.get i hx2;refine hG (wpAny_pyNext_zip_item D st.hz st.hTI hTO st.h1 st.h2 st.p1.isList st.p2.isList ((List.getElem?_toArray ..).trans hu) ((List.getElem?_toArray ..).trans hv) fun h' hz' hTO' h1' h2' hnew hsz hk=>?_);refine wpAny_letOwnedTupleGo_zip hz' fun h'' hz'' hs=>?_;have lt:∀ {c o},s.heap.get? c=some o->s.heap.objs.size≠c:=fun e=>Nat.ne_of_gt (Heap.lt_size e);have up:∀ {c o},c≠z->h'.get? c=some o->h''.get? c=some o:=fun hc e=>(hs.2 _ hc).trans e;have mv:Mv [z,TO,i1,i2] s.heap h'':=fun c o hc e=>by
   simp only [List.mem_cons,List.not_mem_nil,or_false,not_or]at hc;exact up hc.1 (hk c o hc.1 hc.2.1 hc.2.2.1 hc.2.2.2 e)
  obtain⟨g',ks⟩:=g.mvd st.hT hm (st.own fun a ha=>(hf a ha).2) mv (up D.TOz hTO');obtain⟨z1,z2,z3,z4,z5,z6⟩:=st.off;refine hQ _ h'' s.toks ⟨_,[u,v],rfl,g.top_off,⟨_,up (lt st.hz) hnew,rfl,_,rfl⟩,.cons (ru.ks ks) (.cons (rv.ks ks) .nil)⟩ ⟨hz'',?_,h1'.at fun o e=>up D.i1z e,h2'.at fun o e=>up D.i2z e,st.off,st.hT,?_,?_,st.r1.ks ks,st.r2.ks ks⟩ g' ks mv
  ·exact ks _ _ z2 st.hTI ⟨_,_,rfl⟩
  ·obtain⟨n,e⟩:=st.p1;exact⟨n,ks _ _ z5 e ⟨_,_,rfl⟩⟩
  ·obtain⟨n,e⟩:=st.p2;exact⟨n,ks _ _ z6 e ⟨_,_,rfl⟩⟩
 done:=fun μ as s Q E hm g st hQ=>by
  obtain⟨a,b,hTO⟩:=g.pair hm st.hT;have hlen:((l.zip m).map fun p=>V.tup [p.1,p.2]).length=l.length:=by rw [List.length_map,List.length_zip,← hl,Nat.min_self]
  have h1:=st.h1;rw [hlen,← st.r1.length]at h1;refine d3q hh D.i1z D.l1z st.hz st.hTI h1 st.p1.isList (by simp) fun h' hk=>?_;have mv:Mv [z,TO,i1,i2] s.heap h':=fun c o hc e=>by
   simp only [List.mem_cons,List.not_mem_nil,or_false,not_or]at hc;exact hk c o hc.1 hc.2.2.1 e
  obtain⟨g',ks⟩:=g.mvd st.hT hm (st.own fun a ha=>(hf a ha).2) mv (hk _ _ D.TOz D.TOi1 hTO);exact hQ h' s.toks g' ks mv
 self:=fun zz zz zz zz zz st hQ=>wpAny_pyIter_zip st.hz hQ
theorem Wk.zip{tg:Expr}(ht:c4a tg=true)(hh:A.handled=.none)(D:ZipApart z TI TO i1 i2 ax bx)(hl:l.length=m.length)(hf:∀ a∈[z,TO,i1,i2],h₀.get? a=.none/\base.get? a=.none) :
  Wk prog w Lx A base h₀ tg (.ref z) [z,TO,i1,i2] ((l.zip m).map fun p=>V.tup [p.1,p.2]) (ZipSt z TI TO i1 i2 ax bx k l m us vs) (fun μ=>μ[k]?=some (.obj [] (-9))):=by
 induction tg using PySem.Expr.casesOn with
 | Tuple elts kk pos=>exact Wk.zip0 hh D hl hf
 | _=>exact nt ht
end
end
end
section
theorem lk_self{l:Rho}{i:Nat}{v:V}:((i,v)::l).lookup i=some v:=by rw [List.lookup_cons,beq_self_eq_true]
theorem c7p{l:Rho}{i j:Nat}{v:V}(h:¬j=i):((i,v)::l).lookup j=l.lookup j:=by rw [List.lookup_cons,beq_false_of_ne h]
theorem a0b(i:Nat)(v:V):∀(ρ:Rho) (j:Nat),(put i v ρ).lookup j=if j=i then some v else ρ.lookup j:=by
 intro z_;induction z_ with
 | nil=>
  intro j;by_cases h:j=i
  ·subst h;rw [if_pos rfl];exact lk_self
  ·rw [if_neg h];exact c7p h
 | cons z1_ r ih=>
  obtain⟨a,b⟩:=z1_;intro j;by_cases h:a=i
  ·have e:put i v ((a,b)::r)=(i,v)::r:=if_pos (beq_iff_eq.mpr h)
   rw [e];subst h;by_cases hj:j=a
   ·subst hj;rw [if_pos rfl];exact lk_self
   ·rw [if_neg hj,c7p hj,c7p hj]
  ·have e:put i v ((a,b)::r)=(a,b)::put i v r:=if_neg (fun q=>h (beq_iff_eq.mp q))
   rw [e];by_cases hj:j=a
   ·subst hj;rw [if_neg h];exact lk_self.trans lk_self.symm
   ·rw [c7p hj,c7p hj,ih j]
noncomputable def Wf(tbl:List Str)(env:Env)(a:Addr):Prop:=a=env.locals∨∃(i:Nat) (x:Str),tbl[i]?=some x/\(env.kindOf x=some .cell∨env.kindOf x=some .free)/\env.cells.lookup x=some a
structure GoS(W:Addr->Prop)(as:List (List Addr))(h:Heap)(as':List (List Addr))(h':Heap):Prop where
 ext:∃ nw,as'=as++nw/\∀ a∈nw.flatten,h.get? a=.none
 keep:∀ a o,a∉as.tail.flatten->¬ W a->h.get? a=some o->h'.get? a=some o
 alive:∀ a∈as'.flatten,∃ o,h'.get? a=some o
theorem Go.toS{W as h as' h'}(g:Go as h as' h'):GoS W as h as' h':=⟨g.ext,fun a o ha zz e=>g.keep a o ha e,g.alive⟩
theorem GoS.sub{W as h as' h'}(g:GoS W as h as' h'){a:Addr}(ha:a∈as.flatten):a∈as'.flatten:=by
 obtain⟨nw,rfl,_⟩:=g.ext;rw [List.flatten_append];exact List.mem_append_left _ ha
theorem GoS.off{W as h as' h'}(g:GoS W as h as' h'){a:Addr}{o:Obj}(e:h.get? a=some o)(ha:a∉as.flatten):a∉as'.flatten:=by
 obtain⟨nw,rfl,hn⟩:=g.ext;rw [List.flatten_append];intro hm;rcases List.mem_append.mp hm with hm | hm
 ·exact ha hm
 ·rw [hn a hm]at e;exact ns e
theorem GoS.trans{W as asI asJ h hY hJ}(x:GoS W as h asI hY)(y:GoS W asI hY asJ hJ)(hw:∀ a,W a->∃ o,hY.get? a=some o):GoS W as h asJ hJ:=by
 refine⟨?_,fun a o ha hf e=>y.keep a o (fun q=>?_) hf (x.keep a o ha hf e),y.alive⟩
 rotate_left
 ·obtain⟨n1,rfl,h1⟩:=x.ext
  rcases b4l q with q | q
  ·exact ha q
  ·rw [h1 a q]at e;exact ns e
 have xs:=@GoS.sub _ _ _ _ _ x;have xa:=x.alive;have xk:=x.keep;obtain⟨n1,rfl,h1⟩:=x.ext;obtain⟨n2,rfl,h2⟩:=y.ext;refine⟨n1++n2,by simp,fun a ha=>?_⟩;rw [List.flatten_append]at ha;rcases List.mem_append.mp ha with ha | ha
 ·exact h1 a ha
 ·induction q:h.get? a using Option.casesOn with
  | none=>rfl
  | some o=>
   exfalso;by_cases m:a∈as.flatten
   ·obtain⟨o',e'⟩:=xa a (xs m)
    rw [h2 a ha]at e';exact ns e'
   ·by_cases hf:W a
    ·obtain⟨o',e'⟩:=hw a hf
     rw [h2 a ha]at e';exact ns e'
    ·have:=xk a o (fun z=>m (a4l z)) hf q
     rw [h2 a ha]at this;exact ns this
section
variable{Lx:LxP}{base:Heap}{μ:Mu}{as:List (List Addr)}{h h':Heap}{tbl:List Str}{env:Env}{ρ:Rho}
theorem ER.held(e:ER tbl base env ρ as h){a:Addr}(hw:Wf tbl env a):a∉as.flatten/\base.get? a=.none/\∃ o,h.get? a=some o/\∀ xs n,o.data≠.seq xs n:=by
 rcases hw with rfl | ⟨i,x,h1,h2,h3⟩
 ·obtain⟨m,hn,_⟩:=e.loc
  exact⟨e.off.1,e.off.2,Ns.get hn⟩
 ·obtain⟨c,u,h4,h5,h6,⟨o,ho,hd⟩,_⟩:=e.cel i x h1 h2
  rw [h3]at h4;obtain rfl:=Option.some.inj h4;exact⟨h5,h6,o,ho,fun zz zz q=>by rw [hd]at q;cases q⟩
theorem ER.foreign(e:ER tbl base env ρ as h){a:Addr}(hw:Wf tbl env a):Foreign as h a:=by
 obtain⟨h1,_,o,ho,hk⟩:=e.held hw;exact⟨h1,fun o' e'=>by rw [ho]at e';obtain rfl:=Option.some.inj e';exact hk⟩
theorem ER.congr{ρ':Rho}(e:ER tbl base env ρ as h)(hq:∀ i,ρ'.lookup i=ρ.lookup i):ER tbl base env ρ' as h:=
 ⟨e.kind,e.glob,e.bns,let⟨m,h1,h2⟩:=e.loc;⟨m,h1,fun i x v a b c=>h2 i x v a b (by rw [← hq];exact c)⟩,e.off,fun i x a b=>let⟨c,u,h1,h2,h3,h4,h5⟩:=e.cel i x a b;⟨c,u,h1,h2,h3,h4,fun v hv=>h5 v (by rw [← hq];exact hv)⟩,e.inj⟩
theorem GoS.sf{W:Addr->Prop}{as' own}(g:GoS W as h as' h')(hk:∀ a,W a->∀ o,h.get? a=some o->∀ xs n,o.data≠.seq xs n)(ho:∀ a∈own,¬ W a):Sf own as h as' h':=
 ⟨fun a o e ha=>g.off e ha,fun k l e=>by obtain⟨nw,rfl,_⟩:=g.ext;rw [List.getElem?_append_left (List.getElem?_eq_some_iff.mp e).1];exact e,fun a o ha hq hk'=>g.keep a o (fun z=>ha (a4l z)) (fun hw=>by
  rcases hk' with hk' | ⟨xs,n,hk'⟩
  ·exact ho a hk' hw
  ·exact hk a hw o hq xs n hk') hq⟩
theorem ER.wk(e:ER tbl base env ρ as h):∀ a,Wf tbl env a->∀ o,h.get? a=some o->∀ xs n,o.data≠.seq xs n:=fun a hw o ho=>by
 obtain⟨_,_,o',e',hd⟩:=e.held hw;rw [ho]at e';obtain rfl:=Option.some.inj e';exact hd
noncomputable def InW(W:Addr->Prop)(env:Env)(x:Str):Prop:=a1g env.scope x=true/\(env.kindOf x=some .local->W env.locals)/\(∀ c,env.kindOf x=some .cell->env.cells.lookup x=some c->W c)
theorem b8s{a:Addr}(f:Foreign as h a)(hs:Heap.SameBut a h h'):Ks as h h':=f.ks fun b zz hb q=>(hs.2 b hb).trans q
theorem a6z{sc:Scope}{x:Str}(h:a1g sc x=true):sc.names.lookup x=some .local∨sc.names.lookup x=some .cell:=by
 unfold a1g at h;induction q:a1y sc x using Option.casesOn with
 | none=>rw [q]at h;exact nt h
 | some k=>
  rw [q]at h;cases k with
  | «local»=>exact .inl q
  | cell=>exact .inr q
  | _=>exact nt h
theorem b3q{prog:Program}{w:World}{A:Around}{E:Value->Shared->Prop}{s:Shared}{Q:Unit->Shared->Prop}{i:Nat}{x:Str}{u:V}{v:Value}
  (nd:∀(i j:Nat) (x:Str),tbl[i]?=some x->tbl[j]?=some x->i=j) (hx:tbl[i]?=some x) {W:Addr->Prop} (hW:InW W env x) (er:ER tbl base env ρ as s.heap) (gr:GR Lx base μ as s.heap) (ru:Rep s.heap as u v)
  (hQ:∀ h' tk,GR Lx base μ as h'->ER tbl base env (put i u ρ) as h'->GoS W as s.heap as h'->Ks as s.heap h'->Q () { s with heap:=h',toks:=tk}) :
  wpAny (model prog w) A (storeName env x v) Q E s:=by
 obtain⟨ho,hWl,hWc⟩:=hW;have goS:∀(a:Addr) (h':Heap),W a->Wf tbl env a->Heap.SameBut a s.heap h'->GoS W as s.heap as h':=fun a h' hwa hw hs=>
  ⟨⟨[],by simp,by simp⟩,fun b o zz hb q=>(hs.2 b (fun e=>hb (e▸hwa))).trans q,fun b hb=>by
   obtain⟨o,e⟩:=gr.alive b hb;exact⟨o,(hs.2 b (fun q=>(er.held hw).1 (q▸hb))).trans e⟩⟩
 obtain⟨m,hn,hl⟩:=er.loc;rcases a6z ho with hk | hk
 ·replace hk:env.kindOf x=_:=hk
  refine wpAny_storeName_local hk hn (fun h' hn' hs=>?_) (by rw [er.kind];rfl);have hw:Wf tbl env env.locals:=.inl rfl;have ks:=b8s (er.foreign hw) hs;refine hQ h' _ (gr.mod (er.foreign hw) (er.held hw).2.1 fun a o ha q=>(hs.2 a ha).trans q) ?_ (goS _ _ (hWl hk) hw hs) ks;refine⟨er.kind,er.glob,er.bns,⟨_,hn',fun j y z h1 h2 h3=>?_⟩,er.off,fun j y h1 h2=>?_,er.inj⟩
  ·rw [a0b]at h3
   by_cases hj:j=i
   ·subst hj
    rw [hx]at h1;obtain rfl:=Option.some.inj h1;rw [if_pos rfl]at h3;cases h3;exact⟨v,if_pos rfl,ru.ks ks⟩
   ·rw [if_neg hj]at h3
    have hne:y≠x:=fun q=>hj (nd j i x (q▸h1) hx);obtain⟨u',h4,h5⟩:=hl j y z h1 h2 h3;exact⟨u',by rw [if_neg hne];exact h4,h5.ks ks⟩
  ·obtain⟨c,u',h3,h4,h5,⟨oc,hoc,hdc⟩,h7⟩:=er.cel j y h1 h2
   have hcl:c≠env.locals:=fun q=>by
    obtain⟨o,es,ep,e1,e2,_⟩:=hn;rw [q,e1]at hoc;cases hoc;rw [e2]at hdc;cases hdc
   refine⟨c,u',h3,h4,h5,⟨oc,(hs.2 c hcl).trans hoc,hdc⟩,fun z hz=>?_⟩;rw [a0b]at hz;by_cases hj:j=i
   ·subst hj
    rw [hx]at h1;cases h1;rcases h2 with h2 | h2<;>cases hk.symm.trans h2
   ·rw [if_neg hj]at hz
    obtain⟨u'',h8,h9⟩:=h7 z hz;exact⟨u'',h8,h9.ks ks⟩
 ·replace hk:env.kindOf x=_:=hk
  obtain⟨c,u',h3,h4,h5,hic,h7⟩:=er.cel i x hx (.inl hk);refine wpAny_storeName_cell er.kind hk h3 hic fun h' hic' hs=>?_;have hw:Wf tbl env c:=.inr ⟨i,x,hx,.inl hk,h3⟩;have ks:=b8s (er.foreign hw) hs;have hlc:env.locals≠c:=fun q=>by
   obtain⟨o,es,ep,e1,e2,_⟩:=hn;obtain⟨oc,hoc,hdc⟩:=hic;rw [← q,e1]at hoc;cases hoc;rw [e2]at hdc;cases hdc
  refine hQ h' s.toks (gr.mod (er.foreign hw) (er.held hw).2.1 fun a o ha q=>(hs.2 a ha).trans q) ?_ (goS _ _ (hWc c hk h3) hw hs) ks;refine⟨er.kind,er.glob,er.bns,⟨m,hn.sameBut hs hlc,fun j y z h1 h2 h3'=>?_⟩,er.off,fun j y h1 h2=>?_,er.inj⟩
  ·rw [a0b]at h3'
   by_cases hj:j=i
   ·subst hj
    rw [hx]at h1;obtain rfl:=Option.some.inj h1;cases hk.symm.trans h2
   ·rw [if_neg hj]at h3'
    obtain⟨u'',h8,h9⟩:=hl j y z h1 h2 h3';exact⟨u'',h8,h9.ks ks⟩
  ·by_cases hj:j=i
   ·subst hj
    rw [hx]at h1;obtain rfl:=Option.some.inj h1;refine⟨c,some v,h3,h4,h5,hic',fun z hz=>?_⟩;rw [a0b,if_pos rfl]at hz;obtain rfl:=Option.some.inj hz;exact⟨v,rfl,ru.ks ks⟩
   ·obtain⟨c',u'',g3,g4,g5,⟨oc,hoc,hdc⟩,g7⟩:=er.cel j y h1 h2
    have hcc:c'≠c:=fun q=>by
     subst q;have:=er.inj y x c' g3 h3;subst this;exact hj (nd j i y h1 hx)
    refine⟨c',u'',g3,g4,g5,⟨oc,(hs.2 c' hcc).trans hoc,hdc⟩,fun z hz=>?_⟩;rw [a0b,if_neg hj]at hz;obtain⟨z',g8,g9⟩:=g7 z hz;exact⟨z',g8,g9.ks ks⟩
end
end
section
section
variable{Lx:LxP}{base:Heap}{μ:Mu}{as:List (List Addr)}{h h':Heap}{tbl:List Str}{env:Env}{ρ:Rho}{prog:Program}{w:World}{A:Around}{E:Value->Shared->Prop}{s:Shared}{Q:Unit->Shared->Prop}
theorem GR.all(g:GR Lx base μ as h)(k:∀ a o,a≠h.objs.size->h.get? a=some o->h'.get? a=some o):GR Lx base μ as h'/\Go as h as h':=by
 refine⟨g.mod (I:=h.objs.size) ⟨g.top_off,fun o e=>by rw [a1c]at e;exact ns e⟩ g.top_base k,?_⟩;exact⟨⟨[],by simp,by simp⟩,fun a o zz e=>k a o (fun q=>by rw [q,a1c]at e;exact ns e) e,fun a ha=>by
  obtain⟨o,e⟩:=g.alive a ha;exact⟨o,k a o (fun q=>by rw [q,a1c]at e;exact ns e) e⟩⟩
theorem GR.new(g:GR Lx base μ as h){ads:List Addr}{m:M}(kp:∀ b o,h.get? b=some o->h'.get? b=some o)(fr:∀ a∈ads,h.get? a=.none)(nd:ads.Nodup)(al:∀ a∈ads,∃ o,h'.get? a=some o)
  (hm:e2o Lx h' (as++[ads]) m ads):GR Lx base (μ++[m]) (as++[ads]) h'/\Go as h (as++[ads]) h':=by
 have go:Go as h (as++[ads]) h':=by
  refine⟨⟨[ads],rfl,by simpa using fr⟩,fun b o zz e=>kp b o e,fun b hb=>?_⟩;rw [List.flatten_append,List.mem_append]at hb;rcases hb with hb | hb
  ·obtain⟨o,e⟩:=g.alive b hb;exact⟨o,kp b o e⟩
  ·exact al b (by simpa using hb)
 refine⟨⟨fun b o e=>kp b o (g.keep b o e),fun b hb=>?_,?_,go.alive,by rw [List.length_append,List.length_append,g.len];rfl,fun j M ads' hj hads=>?_⟩,go⟩
 ·rw [List.flatten_append,List.mem_append]at hb
  rcases hb with hb | hb
  ·exact g.fresh b hb
  ·have:=fr b (by simpa using hb)
   induction q:base.get? b using Option.casesOn with
   | none=>rfl
   | some o=>rw [g.keep b o q]at this;cases this
 ·rw [List.flatten_append,List.nodup_append]
  refine⟨g.nd,by simpa using nd,fun a ha b hb q=>?_⟩;subst q;obtain⟨o,e⟩:=g.alive a ha;rw [fr a (by simpa using hb)]at e;exact ns e
 ·by_cases q:j<μ.length
  ·rw [List.getElem?_append_left q]at hj
   rw [List.getElem?_append_left (by rw [g.len];omega)]at hads;have hM:=g.mus j M ads' hj hads;induction M using Mine.M.casesOn with
   | list l'=>
    obtain⟨b,us,rfl,⟨m',hp⟩,hr⟩:=hM;exact⟨b,us,rfl,⟨m',kp b _ hp⟩,hr.go go⟩
   | obj is n'=>exact let⟨rs,e1,e2⟩:=hM;⟨rs,b0n (fun j l e=>by rw [List.getElem?_append_left (List.getElem?_eq_some_iff.mp e).1];exact e) e1,Lx.keep e2 fun b hb o e=>kp b o e⟩
  ·have hj':j=μ.length:=by
    have:=(List.getElem?_eq_some_iff.mp hj).1;simp at this;omega
   subst hj';rw [List.getElem?_append_right (Nat.le_refl _)]at hj;rw [List.getElem?_append_right (by rw [g.len];omega)]at hads;have hz:μ.length+1-as.length=0:=by rw [g.len];omega
   rw [hz]at hads;simp only [Nat.sub_self,List.getElem?_cons_zero,Option.some.injEq]at hj hads;subst hj;subst hads;exact hm
theorem Go.ks{as'}(g:Go as h as' h'):Ks as h h':=fun a o ha e zz=>g.at ha e
theorem GoS.refl{W:Addr->Prop}(g:GR Lx base μ as h):GoS W as h as h:=g.go.toS
noncomputable def c4t(Lx:LxP)(base:Heap)(tbl:List Str)(env:Env)(W:Addr->Prop)(as:List (List Addr))(s:Shared)(ρ:Rho)(μ:Mu)(Q:Unit->Shared->Prop):Prop:=
 ∀ h' tk,GR Lx base μ as h'->ER tbl base env ρ as h'->GoS W as s.heap as h'->Ks as s.heap h'->Q () { s with heap:=h',toks:=tk}
theorem a9t{hY hJ h₃:Heap}(x:Ks as hY hJ)(y:Ks as hJ h₃):Ks as hY h₃:=fun a o ha e hk=>y a o ha (x a o ha e hk) hk
theorem b0f{tbl:List Str}{sc:Scope}{e:Expr}{i:Nat}{G:Prop}(h:a9g tbl sc e=some i)(k:∀ x p,e=.Name x p->a1g sc x=true->nid tbl x=some i->G):G:=by
 induction e using PySem.Expr.casesOn with
 | Name x p=>exact ifS h fun hx h=>k x p rfl hx h
 | _=>exact ns h
theorem b1q{W:Addr->Prop}{sc:Scope}(hW:∀ x,a1g sc x=true->InW W env x)(ha:∀ a,W a->Wf tbl env a)(nd:∀(i j:Nat) (x:Str),tbl[i]?=some x->tbl[j]?=some x->i=j):∀(elts:List Expr) (is:List Nat) (l:List V) (vals:List Value) (ρ:Rho) (s:Shared),
  a1o (a9g tbl sc) elts=some is->is.length=l.length->ER tbl base env ρ as s.heap->GR Lx base μ as s.heap->Reps s.heap as l vals →
  c4t Lx base tbl env W as s ((is.zip l).foldl (fun ρ p=>put p.1 p.2 ρ) ρ) μ Q->wpAny (model prog w) A (assignInOrder ((assignEach elts env).map (·.2)) vals) Q E s:=by
 intro z_;induction z_ with
 | nil=>
  intro is l vals ρ s e hl er gr rl hQ;obtain rfl:=Option.some.inj e;induction l using List.casesOn with
  | cons a r=>cases hl
  | nil=>
   cases rl;exact wpAny_assignInOrder_none (hQ s.heap s.toks gr er (GoS.refl gr) fun zz zz zz e zz=>e)
 | cons t ts ih=>
  intro is l vals ρ s e hl er gr rl hQ;refine a0c e fun i js e1 e2 e=>?_;induction l using List.casesOn with
  | nil=>subst e;cases hl
  | cons u l=>
   refine b0f e1 fun x p ht hx hi=>?_;subst e ht;obtain⟨v,vr,rfl,ru,rl⟩:=rl;refine wpAny_assignInOrder_more (wpAny_assign_Name (b3q nd (a0n hi) (hW x hx) er gr ru fun h' tk gr' er' go' ks'=>?_));refine ih js l vr _ _ e2 (Nat.succ.inj hl) er' gr' (rl.ks ks') ?_;intro h'' tk' gr'' er'' go'' ks'';refine hQ h'' tk' gr'' er'' (go'.trans go'' fun a hq=>?_) (a9t ks' ks'');obtain⟨_,_,o,ho,_⟩:=er'.held (ha a hq);exact⟨o,ho⟩
theorem c0f:∀ elts:List Expr,(assignEach elts env).length=elts.length:=by
 intro z_;induction z_ with
 | nil=>
  exact rfl
 | cons e r ih=>
  cases e<;>exact congrArg Nat.succ (ih)
theorem a5z{α β:Type}{f:α->Option β}:∀ {l:List α} {r:List β},a1o f l=some r->r.length=l.length:=by
 intro z_;induction z_ with
 | nil=>
  intro r h;obtain rfl:=Option.some.inj h;rfl
 | cons _ _ ih=>
  intro _ h;exact a0c h fun zz zz zz h2 e=>e▸congrArg Nat.succ (ih h2)
theorem a8f{sc:Scope}:∀ {elts:List Expr} {is:List Nat},a1o (a9g tbl sc) elts=some is->(assignEach elts env).findIdx? (·.1)=.none
 | [],_,_=>rfl
 | e::r,is,h=>a0c h fun zz zz h1 h2 zz=>b0f h1 fun x p he zz zz=>by
  subst he;show(((false,assign (.Name x p) env):Bool×(Value->Sem Unit))::assignEach r env).findIdx? (·.1)=.none;rw [List.findIdx?_cons];simp [a8f h2]
theorem a5e{W:Addr->Prop}{sc:Scope}(hW:∀ x,a1g sc x=true->InW W env x)(hWf:∀ a,W a->Wf tbl env a){t:T}{tg:Expr}{u:V}{v:Value}{ρ':Rho}(nd:∀(i j:Nat) (x:Str),tbl[i]?=some x->tbl[j]?=some x->i=j)(ht:a1q tbl sc tg=some t)(hc:A.handled=.none)
  (hb:a2b t u ρ=some ρ') (er:ER tbl base env ρ as s.heap) (gr:GR Lx base μ as s.heap) (ru:Rep s.heap as u v)
  (hQ:c4t Lx base tbl env W as s ρ' μ Q):wpAny (model prog w) A (assign tg env v) Q E s:=by
 induction tg using PySem.Expr.casesOn with
 | Name x p=>
  refine ifS ht fun hx ht=>a1n ht fun i hi e=>?_;subst e;exact wpAny_assign_Name (b3q nd (a0n hi) (hW x hx) er gr ru (Option.some.inj hb▸hQ))
 | Tuple elts k p=>
  refine a1n ht fun is hi e=>?_;subst e;induction u using Mine.V.casesOn with
  | tup l=>
   refine ifS hb fun hl hb=>?_;have hQ:=Option.some.inj hb▸hQ;obtain⟨a,vs,rfl,ha,hT,hr⟩:=ru;have hl:is.length=l.length:=of_decide_eq_true hl;refine wpAny_assign_Tuple hc hT ?_ (a8f hi) fun h' he=>?_
   ·rw [c0f,List.size_toArray,hr.length,← hl,a5z hi]
   ·obtain⟨gr',go'⟩:=gr.all (h':=h') fun a o ha e=>he a o ha e
    have hr':=hr.go go';refine b1q (s:={ s with heap:=h',toks:=s.toks}) hW hWf nd elts is l vs ρ hi hl (er.go go') gr' hr' ?_;intro h'' tk gr'' er'' go'' ks'';refine hQ h'' tk gr'' er'' (go'.toS.trans go'' fun a hq=>?_) (a9t go'.ks ks'');obtain⟨_,_,o,ho,_⟩:=(er.go go').held (hWf a hq);exact⟨o,ho⟩
  | _=>exact ns hb
 | _=>exact ns ht
end
end
section
structure ScR(sc:Scope)(env:Env):Prop where
 var:∀ x,a4z sc x=true->a4z env.scope x=true
 glb:∀ x,a5j sc x=true->a5j env.scope x=true
 held:∀ x,a7y sc x=true->a7y env.scope x=true
theorem b1s{env:Env}{x:Str}(h:a4z env.scope x=true):env.kindOf x=some .local∨env.kindOf x=some .cell∨env.kindOf x=some .free:=by
 show a1y env.scope x=_∨a1y env.scope x=_∨a1y env.scope x=_;unfold a4z at h;induction q:a1y env.scope x using Option.casesOn with
 | none=>rw [q]at h;exact nt h
 | some k=>
  rw [q]at h;cases k with
  | «local»=>exact .inl rfl
  | cell=>exact .inr (.inl rfl)
  | free=>exact .inr (.inr rfl)
  | _=>exact nt h
theorem c3g{env:Env}{x:Str}(h:a5j env.scope x=true):env.kindOf x=some .globalImplicit:=by
 show a1y env.scope x=_;unfold a5j at h;induction q:a1y env.scope x using Option.casesOn with
 | none=>rw [q]at h;exact nt h
 | some k=>
  rw [q]at h;cases k with
  | globalImplicit=>rfl
  | _=>exact nt h
section
variable{prog:Program}{w:World}{Lx:LxP}{base:Heap}{Γ:G}
noncomputable def a6n(prog:Program)(w:World)(Lx:LxP)(base:Heap)(Γ:G)(n:Nat):Prop:=
 ∀(x:X) (k:Nat) (sc:Scope) (e:Expr),trE Γ.tbl k sc e=some x->∀(A:Around) (E:Value->Shared->Prop) (env:Env) (ρ:Rho) (μ:Mu) (as:List (List Addr)) (s:Shared) (r:V) (μ':Mu) (Q:Value->Shared->Prop),
  Room A n->ScR sc env->ER Γ.tbl base env ρ as s.heap->GR Lx base μ as s.heap->ev Γ n x ρ μ=some (r,μ')->Post Lx base as s r μ' Q->wpAny (model prog w) A (eval e env) Q E s
noncomputable def PostB(Lx:LxP)(base:Heap)(as:List (List Addr))(s:Shared)(b:Bool)(μ':Mu)(Q:Bool->Shared->Prop):Prop:=
 ∀(as':List (List Addr)) (h':Heap) (tk:Nat),GR Lx base μ' as' h'->Go as s.heap as' h'->Q b { s with heap:=h',toks:=tk}
noncomputable def a6l(prog:Program)(w:World)(Lx:LxP)(base:Heap)(Γ:G)(n:Nat):Prop:=
 ∀(x:X) (k:Nat) (sc:Scope) (e:Expr),trE Γ.tbl k sc e=some x->∀(A:Around) (E:Value->Shared->Prop) (env:Env) (ρ:Rho) (μ:Mu) (as:List (List Addr)) (s:Shared) (r:V) (b:Bool) (μ':Mu) (Q:Bool->Shared->Prop),
  Room A n->ScR sc env->ER Γ.tbl base env ρ as s.heap->GR Lx base μ as s.heap->ev Γ n x ρ μ=some (r,μ')->a2z (look μ' r)=some b->PostB Lx base as s b μ' Q->wpAny (model prog w) A (isTrue e env (eval e env)) Q E s
theorem Room.less{A:Around}{n m:Nat}(h:Room A n)(hm:m<=n):Room A m:=⟨h.calm,by have:=h.depth;omega,by have:=h.units;omega⟩
variable{A:Around}{E:Value->Shared->Prop}{env:Env}{ρ:Rho}{as:List (List Addr)}{s:Shared}{sc:Scope}
theorem a0t{n k:Nat}{x:X}{e:Expr}{μ μ₁:Mu}{u:V}{Q:Value->Shared->Prop}(H:a6n prog w Lx base Γ n)(t:trE Γ.tbl k sc e=some x)(rm:Room A n)(c:ScR sc env)(er:ER Γ.tbl base env ρ as s.heap)(gr:GR Lx base μ as s.heap)
  (h:ev Γ n x ρ μ=some (u,μ₁))
  (K:∀(v:Value) (asI:List (List Addr)) (hY:Heap) (tk:Nat),GR Lx base μ₁ asI hY->ER Γ.tbl base env ρ asI hY->Go as s.heap asI hY->Rep hY asI u v->Q v { s with heap:=hY,toks:=tk}) :
  wpAny (model prog w) A (eval e env) Q E s:=
 H x k sc e t A E env ρ μ as s u μ₁ Q rm c er gr h fun v asI hY tk g go r=>K v asI hY tk g (er.go go) go r
theorem Post.after{asI:List (List Addr)}{hY:Heap}{tk:Nat}{r:V}{μ:Mu}{Q:Value->Shared->Prop}(hQ:Post Lx base as s r μ Q)(go:Go as s.heap asI hY):Post Lx base asI { s with heap:=hY,toks:=tk} r μ Q:=
 fun v as' h' tk' g go' rv=>hQ v as' h' tk' g (go.trans go') rv
theorem PostB.after{asI:List (List Addr)}{hY:Heap}{tk:Nat}{b:Bool}{μ:Mu}{Q:Bool->Shared->Prop}(hQ:PostB Lx base as s b μ Q)(go:Go as s.heap asI hY):PostB Lx base asI { s with heap:=hY,toks:=tk} b μ Q:=
 fun as' h' tk' g go'=>hQ as' h' tk' g (go.trans go')
theorem e0y{f:X->Mu->Option (V×Mu)}{x:X}{r:List X}{μ μ':Mu}{vs:List V}{G:Prop}(h:evs f (x::r) μ=some (vs,μ'))(k:∀ v μ₁ vr μ₂,f x μ=some (v,μ₁)->evs f r μ₁=some (vr,μ₂)->v::vr=vs->μ₂=μ'->G):G:=
 a7b h fun v μ₁ h1 h=>c9i h fun vr μ₂ h2 h=>sp h fun e1 e2=>k v μ₁ vr μ₂ h1 h2 e1 e2
theorem a2m{e:Expr}{rest:List Expr}(h:a1x e=true):starEach (e::rest) env=(false,eval e env)::starEach rest env:=by
 induction e using PySem.Expr.casesOn<;>first | rfl | exact nt h
theorem b8t{n k:Nat}(H:a6n prog w Lx base Γ n)(rm:Room A n)(c:ScR sc env)(pos:Pos):∀(elts:List Expr) (xs:List X) (μ μ':Mu) (vs:List V) (as:List (List Addr)) (s:Shared) (Q:List Value->Shared->Prop),
  elts.all a1x=true->a1o (trE Γ.tbl k sc) elts=some xs->ER Γ.tbl base env ρ as s.heap->GR Lx base μ as s.heap->evs (fun x μ=>ev Γ n x ρ μ) xs μ=some (vs,μ') →
  (∀(vals:List Value) (as':List (List Addr)) (h':Heap) (tk:Nat),GR Lx base μ' as' h'->Go as s.heap as' h'->Reps h' as' vs vals->Q vals { s with heap:=h',toks:=tk}) →
  wpAny (model prog w) A (spliced (backTo pos (starEach elts env))) Q E s:=by
 intro z_;induction z_ with
 | nil=>
  intro xs μ μ' vs as s Q _ t er gr h hQ;obtain rfl:=Option.some.inj t;cases h;exact wpAny_items_nil (hQ [] as s.heap s.toks gr gr.go .nil)
 | cons e r ih=>
  intro xs μ μ' vs as s Q hp t er gr h hQ;refine a0c t fun x xr t1 t2 t=>?_;subst t;refine e0y h fun v μ₁ vr μ₂ h1 h2 h3 h4=>?_;subst h3 h4;refine wpAny_items_cons (a0t H t1 rm c er gr h1 fun a asI hY tk gI erI goI ra=>?_) (a2m (a0d hp));refine ih xr μ₁ _ vr asI _ _ (a0f hp) t2 erI gI h2 fun vals asJ hJ tkJ gJ goJ rv=>?_;exact hQ (a::vals) asJ hJ tkJ gJ (goI.trans goJ) (.cons (ra.go goJ) rv)
end
end
section
section
variable{prog:Program}{w:World}{Lx:LxP}{base:Heap}{Γ:G}
variable{A:Around}{E:Value->Shared->Prop}{env:Env}{ρ:Rho}{as:List (List Addr)}{s:Shared}{sc:Scope}
theorem evx{y x:X}{μ:Mu}{n:Nat}{q:V×Mu}(e:y=x)(h:ev Γ n x ρ μ=some q):ev Γ n y ρ μ=some q:=e▸h
theorem spQ{μ μ':Mu}{a r:V}{Q:Value->Shared->Prop}(h:some (a,μ)=some (r,μ'))(hQ:Post Lx base as s r μ' Q):Post Lx base as s a μ Q:=by cases h;exact hQ
theorem e1f{α:Type}{f:α->V}{x:Option α}{μ μ':Mu}{r:V}{Q:Value->Shared->Prop}{G:Prop}(h:x.map (fun a=>(f a,μ))=some (r,μ'))(hQ:Post Lx base as s r μ' Q)(k:∀ a,x=some a->Post Lx base as s (f a) μ Q->G):G:=by
 induction x using Option.casesOn with
 | none=>exact ns h
 | some a=>exact k a rfl (spQ h hQ)
theorem e5m{c:Const}{kk:Nat}{pos:Pos}{v:V}{μ:Mu}{Q:Value->Shared->Prop}(t:e3e c=some v)(gr:GR Lx base μ as s.heap)(hQ:Post Lx base as s v μ Q):wpAny (model prog w) A (eval (.Constant c kk pos) env) Q E s:=by
 cases c with
 | none=>exact wpAny_Constant_none ((hQ.eq t).now gr rfl)
 | bool _=>exact wpAny_Constant_bool ((hQ.eq t).now gr rfl)
 | int _=>exact wpAny_Constant_int ((hQ.eq t).now gr ⟨_,rfl⟩)
 | float _=>exact wpAny_Constant_float ((hQ.eq t).now gr ⟨_,rfl⟩)
 | str _=>exact wpAny_Constant_str ((hQ.eq t).now gr ⟨_,rfl⟩)
 | _=>exact ns t
theorem e5x {x:Str} {pos:Pos} {i:Nat} {v:V} {μ:Mu} {Q:Value->Shared->Prop} (hd:(x==("__debug__":Str)||x==("__classdict__":Str))=false) (hv:a4z sc x=true) (hi:nid Γ.tbl x=some i) (c:ScR sc env) (er:ER Γ.tbl base env ρ as s.heap) (gr:GR Lx base μ as s.heap)
  (h:ρ.lookup i=some v) (hQ:Post Lx base as s v μ Q):wpAny (model prog w) A (eval (.Name x pos) env) Q E s:=by
 rw [Bool.or_eq_false_iff]at hd;refine wpAny_Name ?_ hd.1;have hx:=a0n hi;rcases b1s (c.var x hv)with hk | hk | hk
 ·obtain⟨m,hn,hl⟩:=er.loc
  obtain⟨u,h1,h2⟩:=hl i x v hx hk h;exact wpAny_loadName_local er.kind hk hn h1 (hQ.now gr h2)
 ·obtain⟨cc,u,h3,_,_,h6,h7⟩:=er.cel i x hx (.inl hk)
  obtain⟨u',rfl,hr⟩:=h7 v h;exact wpAny_loadName_cell er.kind hk h3 h6 (hQ.now gr hr)
 ·obtain⟨cc,u,h3,_,_,h6,h7⟩:=er.cel i x hx (.inr hk)
  obtain⟨u',rfl,hr⟩:=h7 v h;exact wpAny_loadName_free er.kind hk h3 h6 (hQ.now gr hr) hd.2
theorem a3z {x:Str} {pos:Pos} {v:Value} {Q:Value->Shared->Prop} (hd:(x==("__debug__":Str))=false) (hv:a5j sc x=true) (c:ScR sc env) (er:ER Γ.tbl base env ρ as s.heap) {μ:Mu} (gr:GR Lx base μ as s.heap) (g:a1e prog w base x v)
  (hQ:Q v s):wpAny (model prog w) A (eval (.Name x pos) env) Q E s:=
 Name_function_global er.kind (c3g (c.glb x hv)) (g env A E s Q er.glob er.bns gr.keep hQ) hd
theorem b3w{n k:Nat}{x y:X}{e f:Expr}{μ μ₁ μ₂:Mu}{u v:V}(H:a6n prog w Lx base Γ n)(t1:trE Γ.tbl k sc e=some x)(t2:trE Γ.tbl k sc f=some y)(rm:Room A n)(c:ScR sc env)(er:ER Γ.tbl base env ρ as s.heap)(gr:GR Lx base μ as s.heap)
  (h1:ev Γ n x ρ μ=some (u,μ₁)) (h2:ev Γ n y ρ μ₁=some (v,μ₂)) {P:Value->Value->Shared->Prop}
  (K:∀(a b:Value) (asI:List (List Addr)) (hY:Heap) (tk:Nat),GR Lx base μ₂ asI hY->ER Γ.tbl base env ρ asI hY->Go as s.heap asI hY->Rep hY asI u a->Rep hY asI v b->P a b { s with heap:=hY,toks:=tk}) :
  wpAny (model prog w) A (eval e env) (fun a sI=>wpAny (model prog w) A (eval f env) (fun b sJ=>P a b sJ) E sI) E s:=
 a0t H t1 rm c er gr h1 fun a asI hY tk gI erI goI ra=>a0t H t2 rm c erI gI h2 fun b asJ hJ tkJ gJ erJ goJ rb=>
  K a b asJ hJ tkJ gJ erJ (goI.trans goJ) (ra.go goJ) rb
theorem c6h{k:Nat}{e:Expr}{x:X}{op:CmpOp}(t:trE Γ.tbl k sc e=some x):behindInMarks op e=false:=by
 induction e using PySem.Expr.casesOn with
 | Set elts kk pos=>cases k<;>exact ns t
 | _=>rfl
theorem d9q{n k:Nat}(H:a6n prog w Lx base Γ n)(rm:Room A n)(c:ScR sc env)(pos:Pos):∀(elts:List Expr) (xs:List X) (μ μ':Mu) (r:V) (as:List (List Addr)) (s:Shared) (Q:Value->Shared->Prop),
  a1o (trE Γ.tbl k sc) elts=some xs->ER Γ.tbl base env ρ as s.heap->GR Lx base μ as s.heap->d1r (fun x μ=>ev Γ n x ρ μ) xs μ=some (r,μ')->Post Lx base as s r μ' Q →
  wpAny (model prog w) A (eval (.BoolOp .And elts pos) env) Q E s:=by
 intro z_;induction z_ with
 | nil=>
  intro xs μ μ' r as s Q t er gr h hQ;obtain rfl:=Option.some.inj t;exact ns h
 | cons e z_ ih=>induction z_ using List.casesOn with
  | nil=>
   intro xs μ μ' r as s Q t er gr h hQ;refine a0c t fun x xr t1 t2 e'=>?_;obtain rfl:=Option.some.inj t2;subst e';exact BoolOp_one (H x k sc e t1 A E env ρ μ as s r μ' Q rm c er gr h hQ)
  | cons e2 er'=>
   intro xs μ μ' r as s Q t er gr h hQ;refine a0c t fun x xr t1 t2 e'=>a0c t2 fun y ys zz zz e2'=>?_;subst e2' e';exact a7b h fun v μ₁ h1 h=>BoolOp_and (a0t H t1 rm c er gr h1 fun a asI hY tk gI erI goI ra=>d3a h
    (fun hb h=>a7n hb (a1b gI ra) fun tk'=>ih (y::ys) μ₁ μ' r asI _ Q t2 erI gI h (hQ.after goI))
    fun hb h=>a7n hb (a1b gI ra) fun tk'=>spQ h hQ a asI hY tk' gI goI ra)
theorem e3m{n k:Nat}(H:a6n prog w Lx base Γ n)(rm:Room A n)(c:ScR sc env)(pos:Pos):∀(elts:List Expr) (xs:List X) (μ μ':Mu) (r:V) (as:List (List Addr)) (s:Shared) (Q:Value->Shared->Prop),
  a1o (trE Γ.tbl k sc) elts=some xs->ER Γ.tbl base env ρ as s.heap->GR Lx base μ as s.heap->ors (fun x μ=>ev Γ n x ρ μ) xs μ=some (r,μ')->Post Lx base as s r μ' Q →
  wpAny (model prog w) A (eval (.BoolOp .Or elts pos) env) Q E s:=by
 intro z_;induction z_ with
 | nil=>
  intro xs μ μ' r as s Q t er gr h hQ;obtain rfl:=Option.some.inj t;exact ns h
 | cons e z_ ih=>induction z_ using List.casesOn with
  | nil=>
   intro xs μ μ' r as s Q t er gr h hQ;refine a0c t fun x xr t1 t2 e'=>?_;obtain rfl:=Option.some.inj t2;subst e';exact BoolOp_one (H x k sc e t1 A E env ρ μ as s r μ' Q rm c er gr h hQ)
  | cons e2 er'=>
   intro xs μ μ' r as s Q t er gr h hQ;refine a0c t fun x xr t1 t2 e'=>a0c t2 fun y ys zz zz e2'=>?_;subst e2' e';exact a7b h fun v μ₁ h1 h=>BoolOp_or (a0t H t1 rm c er gr h1 fun a asI hY tk gI erI goI ra=>d3a h
    (fun hb h=>a7n hb (a1b gI ra) fun tk'=>spQ h hQ a asI hY tk' gI goI ra)
    fun hb h=>a7n hb (a1b gI ra) fun tk'=>ih (y::ys) μ₁ μ' r asI _ Q t2 erI gI h (hQ.after goI))
theorem a9x{a1f:Expr}(hs:∀ lo hi st p,a1f≠.Slice lo hi st p)(o i:Value):subscripted a1f false o i=operate [o,i] (getItem o i):=by
 induction a1f using PySem.Expr.casesOn with
 | Slice _ _ _ _=>exact absurd rfl (hs _ _ _ _)
 | _=>rfl
theorem e4y{value a1f:Expr}{u v r:V}{μ:Mu}{a b:Value}{ops:List Value}{Q:Value->Shared->Prop}(hi:item u v=some r)(ra:Rep0 s.heap as u a)(rb:Rep s.heap as v b)(gr:GR Lx base μ as s.heap)(hs:subscripted a1f false a b=operate ops (getItem a b))
  (hQ:Post Lx base as s r μ Q):wpAny (model prog w) A (subscriptTail value a1f a b) Q E s:=by
 have hg:=d8a (prog:=prog) (w:=w) (A:=A) (E:=E) hi ra rb gr hQ;induction u using Mine.V.casesOn with
 | lst l=>
  obtain⟨a,vs,rfl,hp,_⟩:=ra;exact tail_any hp.isList.typeIs slot_list_getitem.lookup hg hs
 | tup l=>
  obtain⟨a,vs,rfl,_,hp,_⟩:=ra;exact tail_any hp.typeIs slot_tuple_getitem.lookup hg hs
 | str l=>
  obtain⟨_,rfl⟩:=ra;exact tail_any (typeIs_str _ _ _) slot_str_getitem.lookup hg hs
 | _=>induction v using Mine.V.casesOn<;>exact ns hi
end
end
section
section
variable{prog:Program}{w:World}{Lx:LxP}{base:Heap}{Γ:G}
variable{A:Around}{E:Value->Shared->Prop}{env:Env}{ρ:Rho}{as:List (List Addr)}{s:Shared}{sc:Scope}
theorem spB{μ μ':Mu}{a r:V}{b c:Bool}{Q:Bool->Shared->Prop}(h:some (a,μ)=some (r,μ'))(h1:a2z (look μ a)=some c)(hb:a2z (look μ' r)=some b)(hQ:PostB Lx base as s b μ' Q):PostB Lx base as s c μ Q:=by
 cases h;cases h1.symm.trans hb;exact hQ
theorem c6s{n k:Nat}(H:a6n prog w Lx base Γ n)(T:a6l prog w Lx base Γ n)(rm:Room A n)(c:ScR sc env):∀(elts:List Expr) (xs:List X) (μ μ':Mu) (r:V) (b:Bool) (as:List (List Addr)) (s:Shared) (Q:Bool->Shared->Prop),
  a1o (trE Γ.tbl k sc) elts=some xs->ER Γ.tbl base env ρ as s.heap->GR Lx base μ as s.heap->d1r (fun x μ=>ev Γ n x ρ μ) xs μ=some (r,μ')->a2z (look μ' r)=some b->PostB Lx base as s b μ' Q →
  wpAny (model prog w) A (allTrue .And elts env) Q E s:=by
 intro z_;induction z_ with
 | nil=>
  intro xs μ μ' r b as s Q t er gr h hb hQ;obtain rfl:=Option.some.inj t;exact ns h
 | cons e z_ ih=>induction z_ using List.casesOn with
  | nil=>
   intro xs μ μ' r b as s Q t er gr h hb hQ;refine a0c t fun x xr t1 t2 e'=>?_;obtain rfl:=Option.some.inj t2;subst e';refine wpAny_allTrue_And_cons (T x k sc e t1 A E env ρ μ as s r b μ' _ rm c er gr h hb fun as' h' tk g go=>?_);induction b using Bool.casesOn with
   | true=>exact wpAny_allTrue_And_nil (hQ as' h' tk g go)
   | false=>exact hQ as' h' tk g go
  | cons e2 er'=>
   intro xs μ μ' r b as s Q t er gr h hb hQ;refine a0c t fun x xr t1 t2 e'=>a0c t2 fun y ys zz zz e2'=>?_;subst e2' e';exact a7b h fun v μ₁ h1 h=>d3a h
    (fun hb1 h=>wpAny_allTrue_And_cons (T x k sc e t1 A E env ρ μ as s v true μ₁ _ rm c er gr h1 hb1 fun as' h' tk g go=>ih (y::ys) μ₁ μ' r b as' _ Q t2 (er.go go) g h hb (hQ.after go)))
    fun hb1 h=>wpAny_allTrue_And_cons (T x k sc e t1 A E env ρ μ as s v false μ₁ _ rm c er gr h1 hb1 fun as' h' tk g go=>spB h hb1 hb hQ as' h' tk g go)
theorem d0w{n k:Nat}(H:a6n prog w Lx base Γ n)(T:a6l prog w Lx base Γ n)(rm:Room A n)(c:ScR sc env):∀(elts:List Expr) (xs:List X) (μ μ':Mu) (r:V) (b:Bool) (as:List (List Addr)) (s:Shared) (Q:Bool->Shared->Prop),
  a1o (trE Γ.tbl k sc) elts=some xs->ER Γ.tbl base env ρ as s.heap->GR Lx base μ as s.heap->ors (fun x μ=>ev Γ n x ρ μ) xs μ=some (r,μ')->a2z (look μ' r)=some b->PostB Lx base as s b μ' Q →
  wpAny (model prog w) A (allTrue .Or elts env) Q E s:=by
 intro z_;induction z_ with
 | nil=>
  intro xs μ μ' r b as s Q t er gr h hb hQ;obtain rfl:=Option.some.inj t;exact ns h
 | cons e z_ ih=>induction z_ using List.casesOn with
  | nil=>
   intro xs μ μ' r b as s Q t er gr h hb hQ;refine a0c t fun x xr t1 t2 e'=>?_;obtain rfl:=Option.some.inj t2;subst e';refine wpAny_allTrue_Or_cons (T x k sc e t1 A E env ρ μ as s r b μ' _ rm c er gr h hb fun as' h' tk g go=>?_);induction b using Bool.casesOn with
   | true=>exact hQ as' h' tk g go
   | false=>exact wpAny_allTrue_Or_nil (hQ as' h' tk g go)
  | cons e2 er'=>
   intro xs μ μ' r b as s Q t er gr h hb hQ;refine a0c t fun x xr t1 t2 e'=>a0c t2 fun y ys zz zz e2'=>?_;subst e2' e';exact a7b h fun v μ₁ h1 h=>d3a h
    (fun hb1 h=>wpAny_allTrue_Or_cons (T x k sc e t1 A E env ρ μ as s v true μ₁ _ rm c er gr h1 hb1 fun as' h' tk g go=>spB h hb1 hb hQ as' h' tk g go))
    fun hb1 h=>wpAny_allTrue_Or_cons (T x k sc e t1 A E env ρ μ as s v false μ₁ _ rm c er gr h1 hb1 fun as' h' tk g go=>ih (y::ys) μ₁ μ' r b as' _ Q t2 (er.go go) g h hb (hQ.after go))
noncomputable def c6q:Expr->Bool
 | .UnaryOp .Not _ _=>false
 | .BoolOp ..=>false
 | .IfExp ..=>false
 | .Compare ..=>false
 | _=>true
theorem c8z{e:Expr}{whole:Sem Value}(h:c6q e=true):isTrue e env whole=(do let v ← whole;standAt e.pos;holding [v] (truthy v)):=by
 induction e using PySem.Expr.casesOn with
 | UnaryOp op x p=>cases op<;>first | rfl | exact nt h
 | _=>first | rfl | exact nt h
theorem c3f{n k:Nat}{x:X}{e:Expr}{μ μ':Mu}{r:V}{b:Bool}{Q:Bool->Shared->Prop}(H:a6n prog w Lx base Γ n)(hp:c6q e=true)(t:trE Γ.tbl k sc e=some x)(rm:Room A n)(c:ScR sc env)(er:ER Γ.tbl base env ρ as s.heap)(gr:GR Lx base μ as s.heap)
  (h:ev Γ n x ρ μ=some (r,μ')) (hb:a2z (look μ' r)=some b) (hQ:PostB Lx base as s b μ' Q):wpAny (model prog w) A (isTrue e env (eval e env)) Q E s:=
 isTrue_plain (a0t H t rm c er gr h fun a asI hY tk gI erI goI ra=>a7n hb (a1b gI ra) fun tk'=>hQ asI hY tk' gI goI) (c8z hp)
theorem b3a{n:Nat}(rm:Room A n):A.units<=9500:=Nat.le_trans (Nat.le_trans (Nat.le_add_right _ _) rm.units) (by decide)
theorem a8g{b c:Bool}{μ:Mu}(h:a2z (look μ (.bool b))=some c):c=b:=(Option.some.inj h).symm
noncomputable def d7f(l:List (List Nat×Int)):List (PyData×PyData):=l.map fun p=>(.str ⟨p.1.toArray⟩,.int p.2)
theorem c1n(x:List Nat):∀ l:List (List Nat×Int),Spec.lookup (.str ⟨x.toArray⟩) (d7f l)=(l.lookup x).map .int:=by
 intro z_;induction z_ with
 | nil=>
  exact rfl
 | cons z1_ r ih=>
  obtain⟨a,b⟩:=z1_;show(if Spec.same (.str ⟨a.toArray⟩) (.str ⟨x.toArray⟩)=true then some (PyData.int b)else Spec.lookup (.str ⟨x.toArray⟩) (d7f r))=_;rw [List.lookup_cons,ih,Spec.same];by_cases h:x=a
  ·subst h;simp
  ·have h1:(x==a)=false:=by simpa using h
   have h2:((⟨a.toArray⟩:Str)==⟨x.toArray⟩)=false:=by
    rw [beq_eq_false_iff_ne];intro q
    injection q with q
    exact h (by simpa using congrArg Array.toList q.symm)
   rw [h1,h2];rfl
theorem c4m {a:Expr} {g:Str} (h:e7f sc a=some g):∃ p,a=.Name g p/\a5j sc g=true/\(g==("__debug__":Str))=false:=by
 induction a using PySem.Expr.casesOn with
 | Name x p=>exact ifS h fun hq h=>by obtain rfl:=Option.some.inj h;exact⟨p,rfl,a0d hq,c3k (a0f hq)⟩
 | _=>exact ns h
theorem f3u{α:Type}{r:α}{G:Prop}{e:Option (V×Mu)}{e':Option (List (List Nat×Int))}{f:List Nat->Mu->List (List Nat×Int)->Option α}(h:(match e,e' with | some (.str i,μ),some l=>f i μ l | _,_=>.none)=some r)(k:∀ i μ l,e=some (.str i,μ)->e'=some l->f i μ l=some r->G):G:=by
 induction e using Option.casesOn with
 | none=>exact ns h
 | some p=>cases p with | mk v μ=>induction v using Mine.V.casesOn<;>first | exact ns h | (cases e' with | none=>exact ns h | some l=>exact k _ _ _ rfl rfl h)
theorem b0b(S:Snd prog w Lx base Γ){n k:Nat}{x:X}{l r:Expr}{op:CmpOp}{pos:Pos}{μ μ':Mu}{v:V}{P:Value->Shared->Prop}(H:a6n prog w Lx base Γ n)(t:trE Γ.tbl (k+1) sc (.Compare l [op] [r] pos)=some x)(rm:Room A (n+1))(c:ScR sc env)(er:ER Γ.tbl base env ρ as s.heap)(gr:GR Lx base μ as s.heap)
  (h:ev Γ (n+1) x ρ μ=some (v,μ')) (hQ:Post Lx base as s v μ' P) :
  behindInMarks op r=false/\(∃ b,v=.bool b)/\wpAny (model prog w) A (eval l env) (fun a sI=>wpAny (model prog w) A (eval r env) (fun b sJ=>wpAny (model prog w) A (compareOp op a b) P E sJ) E sI) E s:=by
 have rm':=rm.less (Nat.le_succ n);refine a0g t fun y t1 t=>a1n t fun z t2 e=>a7b (evx e h) fun u μ₁ h1 h=>a7b h fun u2 μ₂ h2 h=>a1n h fun b hb h=>?_
 ·have hQ:=spQ (congrArg some h) hQ
  exact⟨c6h t2,⟨b,(congrArg Prod.fst h).symm⟩,b3w H t1 t2 rm' c er gr h1 h2 fun a b asI hY tk gI erI goI ra rb=>a7d hb (a1b gI ra) (a1b gI rb) (b3a rm) gI (hQ.after goI)⟩
theorem c5f{n k:Nat}{x:X}{l r1 r2:Expr}{o1 o2:CmpOp}{pos:Pos}{μ μ':Mu}{v:V}{G:Prop}(t:trE Γ.tbl (k+1) sc (.Compare l [o1,o2] [r1,r2] pos)=some x)(h:ev Γ (n+1) x ρ μ=some (v,μ'))
  (K:∀ y z z2 u u2 μ₁ μ₂ b1,trE Γ.tbl k sc l=some y->trE Γ.tbl k sc r1=some z->trE Γ.tbl k sc r2=some z2->ev Γ n y ρ μ=some (u,μ₁)->ev Γ n z ρ μ₁=some (u2,μ₂)->a0s o1 (look μ₂ u) (look μ₂ u2)=some b1 →
   ((b1=false/\.bool false=v/\μ₂=μ')∨(b1=true/\∃ u3 b,ev Γ n z2 ρ μ₂=some (u3,μ')/\a0s o2 (look μ' u2) (look μ' u3)=some b/\.bool b=v))->G):G:=
 a0g t fun y t1 t=>a0g t fun z t2 t=>a1n t fun z2 t3 e=>a7b (evx e h) fun u μ₁ h1 h=>a7b h fun u2 μ₂ h2 h=>d3a h
  (fun hb h=>K y z z2 u u2 μ₁ μ₂ true t1 t2 t3 h1 h2 hb (.inr ⟨rfl,a7b h fun u3 μ₃ h3 h=>a1n h fun b hb2 h=>by
   obtain rfl:=congrArg Prod.snd h;exact⟨u3,b,h3,hb2,congrArg Prod.fst h⟩⟩))
  fun hb h=>K y z z2 u u2 μ₁ μ₂ false t1 t2 t3 h1 h2 hb (.inl ⟨rfl,congrArg Prod.fst (Option.some.inj h),congrArg Prod.snd (Option.some.inj h)⟩)
theorem d4r{k:Nat}{e1 e2:Expr}{y z:X}{o1 o2:CmpOp}(t2:trE Γ.tbl k sc e2=some z):lastMarks [o1,o2] [e1,e2]=false:=c6h t2
theorem c7u{n k:Nat}{x:X}{l r1 r2:Expr}{o1 o2:CmpOp}{pos:Pos}{μ μ':Mu}{v:V}{b:Bool}{whole:Sem Value}{Q:Bool->Shared->Prop}(H:a6n prog w Lx base Γ n)(t:trE Γ.tbl (k+1) sc (.Compare l [o1,o2] [r1,r2] pos)=some x)(rm:Room A (n+1))(c:ScR sc env)(er:ER Γ.tbl base env ρ as s.heap)(gr:GR Lx base μ as s.heap)
  (h:ev Γ (n+1) x ρ μ=some (v,μ')) (hb:a2z (look μ' v)=some b) (hQ:PostB Lx base as s b μ' Q):wpAny (model prog w) A (isTrue (.Compare l [o1,o2] [r1,r2] pos) env whole) Q E s:=by
 have rm':=rm.less (Nat.le_succ n);have hu:=b3a rm;refine c5f t h fun y z z2 u u2 μ₁ μ₂ b1 t1 t2 t3 h1 h2 hb1 hr=>?_;refine isTrue_chain (a0t H t1 rm' c er gr h1 fun a asI hY tkI gI erI goI ra=>test_link (a0t H t2 rm' c erI gI h2 fun a2 asJ hJ tkJ gJ erJ goJ rb=>?_)) (d4r (y:=y) t3);refine a7d (μ:=μ₂) (as:=asJ) hb1 (a1b gJ (ra.go goJ)) (a1b gJ rb) hu gJ fun v3 asK h₃ tkK gT goK r3=>?_;cases r3;refine wpAny_truthy_bool ?_;rcases hr with⟨rfl,rfl,rfl⟩ | ⟨rfl,u3,b2,h3,hb2,rfl⟩
 ·have:=a8g hb;subst this
  exact hQ asK h₃ tkK gT ((goI.trans goJ).trans goK)
 ·have:=a8g hb;subst this
  refine test_last (a0t H t3 rm' c ((erJ.go goK)) gT h3 fun a4 asL hU tkL gU erL goU rc=>?_);refine a7d (as:=asL) hb2 (a1b gU ((rb.go goK).go goU)) (a1b gU rc) hu gU fun v5 asM h₅ tkM gM goM r5=>?_;cases r5;exact wpAny_truthy_bool (hQ asM h₅ tkM gM (((goI.trans goJ).trans goK).trans (goU.trans goM)))
theorem d2q{n k:Nat}{x:X}{l r1 r2:Expr}{o1 o2:CmpOp}{pos:Pos}{μ μ':Mu}{v:V}{Q:Value->Shared->Prop}(H:a6n prog w Lx base Γ n)(t:trE Γ.tbl (k+1) sc (.Compare l [o1,o2] [r1,r2] pos)=some x)(rm:Room A (n+1))(c:ScR sc env)(er:ER Γ.tbl base env ρ as s.heap)(gr:GR Lx base μ as s.heap)
  (h:ev Γ (n+1) x ρ μ=some (v,μ')) (hQ:Post Lx base as s v μ' Q):wpAny (model prog w) A (eval (.Compare l [o1,o2] [r1,r2] pos) env) Q E s:=by
 have rm':=rm.less (Nat.le_succ n);have hu:=b3a rm;refine c5f t h fun y z z2 u u2 μ₁ μ₂ b1 t1 t2 t3 h1 h2 hb1 hr=>?_;refine Compare_chain (a0t H t1 rm' c er gr h1 fun a asI hY tkI gI erI goI ra=>chain_link (a0t H t2 rm' c erI gI h2 fun a2 asJ hJ tkJ gJ erJ goJ rb=>?_)) (d4r (y:=y) t3);refine a7d (μ:=μ₂) (as:=asJ) hb1 (a1b gJ (ra.go goJ)) (a1b gJ rb) hu gJ fun v3 asK h₃ tkK gT goK r3=>?_;cases r3;refine wpAny_truthy_bool ?_;rcases hr with⟨rfl,rfl,rfl⟩ | ⟨rfl,u3,b2,h3,hb2,rfl⟩
 ·exact hQ _ asK h₃ tkK gT ((goI.trans goJ).trans goK) rfl
 ·refine chain_last (a0t H t3 rm' c ((erJ.go goK)) gT h3 fun a4 asL hU tkL gU erL goU rc=>?_)
  refine a7d (as:=asL) hb2 (a1b gU ((rb.go goK).go goU)) (a1b gU rc) hu gU fun v5 asM h₅ tkM gM goM r5=>?_;exact hQ _ asM h₅ tkM gM (((goI.trans goJ).trans goK).trans (goU.trans goM)) r5
theorem c8u(S:Snd prog w Lx base Γ)(n:Nat)(H:a6n prog w Lx base Γ n)(H1:a6n prog w Lx base Γ (n+1))(T:a6l prog w Lx base Γ n):a6l prog w Lx base Γ (n+1):=by
 intro x k sc e t A E env ρ μ as s r b μ' Q rm c er gr h hb hQ;have rm':=rm.less (Nat.le_succ n);by_cases hp:c6q e=true
 ·exact c3f H1 hp t rm c er gr h hb hQ
 induction k using Nat.casesOn with
 | zero=>exact ns t
 | succ k=>
  induction e using PySem.Expr.casesOn with
  | UnaryOp op e1 p=>cases op with
   | Not=>exact ns t
   | _=>exact absurd rfl hp
  | BoolOp op elts p=>
   rw [arm_isTrue_BoolOp];cases op with
   | And=>exact a1n t fun xs t e=>c6s H T rm' c elts xs μ μ' r b as s Q t er gr (evx e h) hb hQ
   | Or=>exact a1n t fun xs t e=>d0w H T rm' c elts xs μ μ' r b as s Q t er gr (evx e h) hb hQ
  | IfExp e0 e1 e2 p=>
   exact a0g t fun y0 t0 t=>a0g t fun y1 t1 t=>a1n t fun y2 t2 e=>a7b (evx e h) fun v μ₁ h1 h=>d3a h
    (fun hb1 h=>isTrue_IfExp (T y0 k sc e0 t0 A E env ρ μ as s v true μ₁ _ rm' c er gr h1 hb1 fun as' h' tk g go=>T y1 k sc e1 t1 A E env ρ μ₁ as' _ r b μ' Q rm' c (er.go go) g h hb (hQ.after go)))
    fun hb1 h=>isTrue_IfExp (T y0 k sc e0 t0 A E env ρ μ as s v false μ₁ _ rm' c er gr h1 hb1 fun as' h' tk g go=>T y2 k sc e2 t2 A E env ρ μ₁ as' _ r b μ' Q rm' c (er.go go) g h hb (hQ.after go))
  | Compare l ops rs p=>induction ops using List.casesOn with
   | nil=>exact ns t
   | cons o1 ops=>induction ops using List.casesOn with
    | nil=>induction rs using List.casesOn with
     | nil=>exact ns t
     | cons r1 rs=>induction rs using List.casesOn with
      | nil=>
       obtain⟨hm,⟨b',rfl⟩,_⟩:=b0b (P:=fun zz zz=>True) (E:=E) (A:=A) S H t rm c er gr h fun zz zz zz zz zz zz zz=>trivial;have:=a8g hb;subst this;refine wpAny_isTrue_Compare1 (b0b (E:=E) (A:=A) S H t rm c er gr h fun v asI hY tk gI goI rv=>?_).2.2 hm;cases rv;exact wpAny_truthy_bool (hQ asI hY tk gI goI)
      | cons _ _=>exact ns t
    | cons o2 ops=>induction ops using List.casesOn with
     | nil=>induction rs using List.casesOn with
      | nil=>exact ns t
      | cons r1 rs=>induction rs using List.casesOn with
       | nil=>exact ns t
       | cons r2 rs=>induction rs using List.casesOn with
        | nil=>exact c7u H t rm c er gr h hb hQ
        | cons _ _=>exact ns t
     | cons _ _=>induction rs using List.casesOn with
      | nil=>exact ns t
      | cons _ rs=>cases rs<;>exact ns t
  | _=>exact absurd rfl hp
end
end
section
section
variable{prog:Program}{w:World}{Lx:LxP}{base:Heap}{Γ:G}
variable{A:Around}{E:Value->Shared->Prop}{env:Env}{ρ:Rho}{as:List (List Addr)}{s:Shared}{sc:Scope}
theorem a9l(pos:Pos):∀ {elts:List Expr},elts.all a1x=true->(backTo pos (starEach elts env)).any (·.1)=false:=by
 intro z_;induction z_ with
 | nil=>
  intro _;exact rfl
 | cons e r ih=>
  intro h;rw [List.all_cons,Bool.and_eq_true]at h;rw [a2m h.1];show(((false,eval e env):Bool×Sem Value)::backTo pos (starEach r env)).any (·.1)=false;rw [List.any_cons,ih h.2];rfl
theorem a4t{n k:Nat}{pos:Pos}{f:Value}{elts:List Expr}{xs:List X}{μ μ':Mu}{vs:List V}{Q:Args->Shared->Prop}(H:a6n prog w Lx base Γ n)(rm:Room A n)(c:ScR sc env)(hp:elts.all a1x=true)(t:a1o (trE Γ.tbl k sc) elts=some xs)
  (er:ER Γ.tbl base env ρ as s.heap) (gr:GR Lx base μ as s.heap) (h:evs (fun x μ=>ev Γ n x ρ μ) xs μ=some (vs,μ'))
  (K:∀(vals:List Value) (as':List (List Addr)) (h':Heap) (tk:Nat),GR Lx base μ' as' h'->Go as s.heap as' h'->Reps h' as' vs vals->Q ⟨vals,[]⟩ { s with heap:=h',toks:=tk}) :
  wpAny (model prog w) A (evalArgs f true (backTo pos (starEach elts env)) []) Q E s:=by
 induction elts using List.casesOn with
 | nil=>
  obtain rfl:=Option.some.inj t;refine sp h ?_;rintro rfl rfl;exact evalArgs_nil3 (K [] as s.heap s.toks gr gr.go .nil)
 | cons e r=>
  have:=b8t (E:=E) H rm c pos (e::r) xs μ μ' vs as s (fun vals s'=>Q ⟨vals,[]⟩ s') hp t er gr h K;rw [List.all_cons,Bool.and_eq_true]at hp;rw [a2m hp.1]at this ⊢;exact evalArgs_plain this
theorem b0v{n k:Nat}{pos:Pos}{f:Value}{elts:List Expr}{xs:List X}{μ μ₁ μ':Mu}{us vs:List V}{first:List Value}{r:V}{Q:Value->Shared->Prop}(H:a6n prog w Lx base Γ n)(rm:Room A n)(c:ScR sc env)(hp:elts.all a1x=true)(t:a1o (trE Γ.tbl k sc) elts=some xs)
  (er:ER Γ.tbl base env ρ as s.heap) (gr:GR Lx base μ as s.heap) (h:evs (fun x μ=>ev Γ n x ρ μ) xs μ=some (vs,μ₁)) (hf:a7w base f) (hr:Reps s.heap as us first)
  (hc:CallOK prog w Lx base n f (us++vs) μ₁ r μ') (hQ:Post Lx base as s r μ' Q):wpAny (model prog w) A (callWith pos f first (backTo pos (starEach elts env)) []) Q E s:=by
 have fin:∀(vals:List Value) (as':List (List Addr)) (h':Heap) (tk:Nat),GR Lx base μ₁ as' h'->Go as s.heap as' h'->Reps h' as' vs vals->wpAny (model prog w) A (call f (first++vals)) Q E { s with heap:=h',toks:=tk}:=
  fun vals as' h' tk g go rv=>hc A E _ as' (first++vals) Q rm g ((hr.go go).append rv) (hQ.after go)
 cases hf with
 | builtin id=>exact Calls.callWith_builtin (a9l pos hp) (a4t H rm c hp t er gr h fun vals as' h' tk g go rv=>fin vals as' h' tk g go rv)
 | type n=>exact PyProof.Rows.callWith_type (a9l pos hp) (a4t H rm c hp t er gr h fun vals as' h' tk g go rv=>fin vals as' h' tk g go rv)
 | func a o fd h1 h2=>exact Calls.callWith_function (o:=o) (fd:=fd) (a4t H rm c hp t er gr h fun vals as' h' tk g go rv=>⟨⟨g.keep a o h1,h2⟩,fin vals as' h' tk g go rv⟩)
theorem b5a{o:Expr}{name:Str}{k:Nat}{x:X}(t:trE Γ.tbl k sc o=some x):attributeBase o name env (eval o env)=eval o env:=by
 induction o using PySem.Expr.casesOn with
 | Call f args kw pos=>
  induction f using PySem.Expr.casesOn with
  | Name id p=>
   induction args using List.casesOn with
   | nil=>
    induction kw using List.casesOn with
    | nil=>
     induction k using Nat.casesOn with
     | zero=>exact ns t
     | succ k=>
      exact ifS t fun hq zz=>by
       have:(id != ("super":Str))=true:=by rw [bne,c3k (a0f hq)];rfl
       exact(if_pos (by rw [this];rfl)).trans rfl
    | cons _ _=>rfl
   | cons _ _=>rfl
  | _=>rfl
 | _=>rfl
theorem c2t(pos:Pos):∀ {elts:List Expr},elts.all a1x=true->(backTo pos (starEach elts env)).all (!·.1)=true:=by
 intro z_;induction z_ with
 | nil=>
  intro _;exact rfl
 | cons e r ih=>
  intro h;rw [List.all_cons,Bool.and_eq_true]at h;rw [a2m h.1];show(((false,eval e env):Bool×Sem Value)::backTo pos (starEach r env)).all (!·.1)=true;rw [List.all_cons,ih h.2];rfl
theorem d9l(S:Snd prog w Lx base Γ){n k m:Nat}{o:Expr}{name:Str}{ap pos:Pos}{elts:List Expr}{x:X}{xs:List X}{u r:V}{vs:List V}{μ μ₁ μ₂ μ':Mu}{Q:Value->Shared->Prop}(H:a6n prog w Lx base Γ n)(rm:Room A n)(c:ScR sc env)
  (hm:nid Γ.tbl name=some m) (to:trE Γ.tbl k sc o=some x) (t:a1o (trE Γ.tbl k sc) elts=some xs) (hp:elts.all a1x=true) (hl:elts.length<20) (hline:(ap.endLine==pos.line)=true)
  (er:ER Γ.tbl base env ρ as s.heap) (gr:GR Lx base μ as s.heap) (h1:ev Γ n x ρ μ=some (u,μ₁)) (hf:Γ.find m u μ₁=true) (h2:evs (fun x μ=>ev Γ n x ρ μ) xs μ₁=some (vs,μ₂)) (h3:Γ.meth n m u vs μ₂=some (r,μ'))
  (hQ:Post Lx base as s r μ' Q):wpAny (model prog w) A (eval (.Call (.Attribute o name ap) elts [] pos) env) Q E s:=by
 rw [arm_eval_Call,b5a to];refine wpAny_bind (a0t H to rm c er gr h1 fun ov asI hY tk gI erI goI ro=>?_);refine wpAny_bind (wpAny_standAt ?_);obtain⟨nm,f,hn,hc,hfind,hcall⟩:=S.meth n m u vs μ₁ μ₂ r μ' hf h3;have:=a0n hm;rw [hn]at this;obtain rfl:=Option.some.inj this;have few:methodCallForm (elts.length+([]:List Keyword).length) (backTo pos (starEach elts env)) (backToKw pos (keywordEach [] env))=true:=by
  show((backTo pos (starEach elts env)).all (!·.1)&&true&&decide (elts.length+0+0<30))=true;rw [c2t pos hp];exact decide_eq_true (Nat.lt_of_lt_of_le hl (by decide))
 unfold methodCall;rw [few];refine wpAny_bind (wpAny_holding (hfind A E _ asI ov _ _ gI ro ?_));show wpAny (model prog w) A (methodCallPos true o env ap pos >>= fun cp=>callWith cp f [ov] (backTo pos (starEach elts env)) []) Q E _;have hpos:methodCallPos true o env ap pos=pure pos:=by
  unfold methodCallPos;rw [if_pos (by simpa using hline)]
 rw [hpos];refine wpAny_bind (wpAny_pure ?_);exact b0v (us:=[u]) H rm c hp t erI gI h2 hc (.cons ro .nil) hcall (hQ.after goI)
theorem e0k(S:Snd prog w Lx base Γ){n k m:Nat}{o:Expr}{name:Str}{pos:Pos}{x:X}{u r:V}{μ μ₁:Mu}{Q:Value->Shared->Prop}(H:a6n prog w Lx base Γ n)(rm:Room A n)(c:ScR sc env)
  (hm:nid Γ.tbl name=some m) (to:trE Γ.tbl k sc o=some x) (er:ER Γ.tbl base env ρ as s.heap) (gr:GR Lx base μ as s.heap) (h1:ev Γ n x ρ μ=some (u,μ₁)) (h2:Γ.attr m u μ₁=some r)
  (hQ:Post Lx base as s r μ₁ Q):wpAny (model prog w) A (eval (.Attribute o name pos) env) Q E s:=by
 obtain⟨nm,hn,ha⟩:=S.attr m u μ₁ r h2;have:=a0n hm;rw [hn]at this;cases this;refine Attribute_any_ (a0t H to rm c er gr h1 fun ov asI hY tk gI erI goI ro=>ha A E _ asI ov Q gI ro (hQ.after goI)) ?_;show(do
   let o' ← attributeBase o name env (eval o env)
   standAt pos.atName
   let r ← holding [o'] (getAttr o' name true)
   letTemporaryGo o o' r
   pure r)=_
 rw [b5a to]
theorem c4c{n k:Nat}(H:a6n prog w Lx base Γ n)(rm:Room A n)(c:ScR sc env){e:Option Expr}{x:Option X}{μ μ':Mu}{u:Option V}{Q:Value->Shared->Prop}(t:d8k (trE Γ.tbl k sc) e=some x)(er:ER Γ.tbl base env ρ as s.heap)(gr:GR Lx base μ as s.heap)
  (h:evo (fun x μ=>ev Γ n x ρ μ) x μ=some (u,μ'))
  (K:∀(a:Value) (as':List (List Addr)) (h':Heap) (tk:Nat),GR Lx base μ' as' h'->ER Γ.tbl base env ρ as' h'->Go as s.heap as' h'->(∀ p,c3b u=some p->IsPart a p)->Q a { s with heap:=h',toks:=tk}) :
  wpAny (model prog w) A (evalPart e env) Q E s:=by
 induction e using Option.casesOn with
 | none=>
  obtain rfl:=Option.some.inj t;refine sp h ?_;rintro rfl rfl;exact wpAny_evalPart_none (K .none as s.heap s.toks gr er gr.go fun p hp=>c5z hp rfl)
 | some e=>
  refine a1n t fun y t1 e1=>?_;subst e1;refine a7b h fun v μ₁ h1 h=>?_;refine sp h ?_;rintro rfl rfl;refine wpAny_evalPart_some (a0t H t1 rm c er gr h1 fun a asI hY tk gI erI goI ra=>K a asI hY tk gI erI goI fun p hp=>c5z hp ?_);induction v using Mine.V.casesOn with
  | none=>exact ra
  | int i=>exact ra
  | _=>exact ns hp
end
end
section
section
variable{prog:Program}{w:World}{Lx:LxP}{base:Heap}{Γ:G}
variable{A:Around}{E:Value->Shared->Prop}{env:Env}{ρ:Rho}{as:List (List Addr)}{s:Shared}{sc:Scope}
noncomputable def b2v(prog:Program)(w:World)(Lx:LxP)(base:Heap)(as:List (List Addr))(s:Shared)(tg:Expr)(vs:List V)(μ':Mu)(P:Mu->Prop)(Q:Value->Shared->Prop):Prop:=
 ∀(itv:Value) (own:List Addr) (St:Nat->List (List Addr)->Heap->Prop) (as':List (List Addr)) (h':Heap) (tk:Nat),
  (∀ A':Around,A'.handled=.none->Wk prog w Lx A' base s.heap tg itv own vs St P)->St 0 as' h'->GR Lx base μ' as' h'->Go as s.heap as' h'->Q itv { s with heap:=h',toks:=tk}
theorem a4r{h hY:Heap}{as asI:List (List Addr)}{I:Addr}(go:Go as h asI hY)(hI:hY.get? I=.none):h.get? I=.none:=by
 induction q:h.get? I using Option.casesOn with
 | none=>rfl
 | some o=>
  exfalso;by_cases m:I∈as.flatten
  ·obtain⟨o',e'⟩:=go.alive I (go.sub m)
   rw [hI]at e';exact ns e'
  ·have:=go.at m q
   rw [hI]at this;exact ns this
theorem a8p{h:Heap}{μ:Mu}{I:Addr}(g:GR Lx base μ as h)(hI:h.get? I=.none):base.get? I=.none:=by
 induction q:base.get? I using Option.casesOn with
 | none=>rfl
 | some o=>have:=g.keep I o q;rw [hI]at this;exact ns this
theorem d1e{v:V}{a:Value}{vs:List V}{μ:Mu}{tg:Expr}{h₀:Heap}{Q:Value->Shared->Prop}(ht:b6k tg=true)(h:a5s v=some vs)(ra:Rep s.heap as v a)(gr:GR Lx base μ as s.heap)(hf:∀ I,s.heap.get? I=.none->h₀.get? I=.none)
  (K:∀(itv:Value) (own:List Addr) (St:Nat->List (List Addr)->Heap->Prop) (o:Obj),(∀ A':Around,A'.handled=.none->Wk prog w Lx A' base h₀ tg itv own vs St fun zz=>True)->St 0 as (s.heap.push o)->Q itv { s with heap:=s.heap.push o}) :
  wpAny (model prog w) A (pyIter a) Q E s:=by
 have fr:h₀.get? s.heap.objs.size=.none/\base.get? s.heap.objs.size=.none:=⟨hf _ (a1c _),gr.top_base⟩;induction v using Mine.V.casesOn with
 | lst l=>
  obtain rfl:=Option.some.inj h;obtain⟨ax,vals,rfl,hax,hp,hr⟩:=ra;refine wpAny_pyIter_list hp.isList (K _ _ _ _ (fun A' hA=>(Wk0.list hA ht _ ax l vals fr).wk) ⟨⟨_,Heap.get?_push_size _ rfl,rfl,rfl⟩,gr.top_off,hax,?_,hr.go (gr.go.push _)⟩);obtain⟨n,e⟩:=hp;exact⟨n,Heap.get?_push_of_some _ e⟩
 | tup l=>
  obtain rfl:=Option.some.inj h;obtain⟨ax,vals,rfl,hax,hp,hr⟩:=ra;refine wpAny_pyIter_tuple hp (K _ _ _ _ (fun A' hA=>(Wk0.tuple hA ht _ ax l vals fr).wk) ⟨⟨_,Heap.get?_push_size _ rfl,rfl,rfl⟩,gr.top_off,hax,?_,hr.go (gr.go.push _)⟩);obtain⟨o,e,r⟩:=hp;exact⟨o,Heap.get?_push_of_some _ e,r⟩
 | str x=>
  refine ifS h fun ha h=>?_;obtain rfl:=Option.some.inj h;obtain⟨t,rfl⟩:=ra;exact wpAny_pyIter_ascii ((List.all_toArray ..).trans ha) (K _ _ _ _ (fun A' hA=>(Wk0.strA hA ht _ x t fr).wk) ⟨⟨_,Heap.get?_push_size _ rfl,rfl,rfl⟩,gr.top_off⟩)
 | _=>exact ns h
theorem b0o{x:V}{i:Int}{a:Value}{h:Heap}(e:d3o x=some i)(r:Rep h as x a):∃ t,a=.int i t:=by
 induction x using Mine.V.casesOn with
 | int j=>obtain rfl:=Option.some.inj e;exact r
 | _=>exact ns e
theorem c2s{args vs:List V}{vals:List Value}{μ:Mu}{tg:Expr}{h₀:Heap}{Q:Value->Shared->Prop}(ht:b6k tg=true)(h:a4j args=some vs)(ra:Reps s.heap as args vals)(gr:GR Lx base μ as s.heap)(hf:∀ I,s.heap.get? I=.none->h₀.get? I=.none)
  (K:∀(itv:Value) (own:List Addr) (St:Nat->List (List Addr)->Heap->Prop) (oI o:Obj) (tk:Nat),(∀ A':Around,A'.handled=.none->Wk prog w Lx A' base h₀ tg itv own vs St fun zz=>True)->St 0 as ((s.heap.push oI).push o)->Q itv { s with heap:=(s.heap.push oI).push o,toks:=tk}) :
  wpAny (model prog w) A (call (.type "range") vals) (fun v sI=>wpAny (model prog w) A (pyIter v) Q E sI) E s:=by
 have core:∀(a b c:Int) (t u v:Tok) (tk:Nat),Builtin.Range.small a b c=true->vs=a2d a b c →
   wpAny (model prog w) A (pyIter (.ref s.heap.objs.size)) Q E { s with heap:=s.heap.push { cls:=.type "range",data:=.fields #[.int a t,.int b u,.int c v]},toks:=tk}:=by
  intro a b c t u v tk hs hvs;subst hvs;have gr1:=gr.push { cls:=.type "range",data:=.fields #[.int a t,.int b u,.int c v]}
  have hn:=a1c (s.heap.push { cls:=.type "range",data:=.fields #[.int a t,.int b u,.int c v]})
  have h0n:h₀.get? (s.heap.push { cls:=.type "range",data:=.fields #[.int a t,.int b u,.int c v]}).objs.size=.none:=by
   refine hf _ ?_;induction q:s.heap.get? (s.heap.push { cls:=.type "range",data:=.fields #[.int a t,.int b u,.int c v]}).objs.size using Option.casesOn with
   | none=>rfl
   | some o=>have:=Heap.get?_push_of_some { cls:=.type "range",data:=.fields #[.int a t,.int b u,.int c v]} q;rw [hn]at this;exact ns this
  refine wpAny_pyIter_range (IsRange.new ..) hs (K _ _ _ _ _ _ (fun A' hA=>(Wk0.range hA ht _ a b c ⟨h0n,gr1.top_base⟩).wk) ⟨?_,gr1.top_off,Nat.zero_le _⟩);have:=Heap.get?_push_size (s.heap.push { cls:=.type "range",data:=.fields #[.int a t,.int b u,.int c v]}) (o:={ cls:=.type "range_iterator",data:=.fields #[rawInt a,rawInt (Builtin.Range.rangeSize a b c),rawInt c]}) rfl
  simpa [IsRangeIter]using this
 induction args using List.casesOn with
 | nil=>exact ns h
 | cons x args=>
  obtain⟨_,_,rfl,rx,ra⟩:=ra;induction args using List.casesOn with
  | nil=>
   cases ra;exact a0g h fun b hb h=>ifS h fun hs h=>by
    obtain⟨t,rfl⟩:=b0o hb rx;exact call_range_1 (core _ _ _ _ _ _ _ hs (Option.some.inj h).symm)
  | cons y args=>
   obtain⟨_,_,rfl,ry,ra⟩:=ra;induction args using List.casesOn with
   | nil=>
    cases ra;exact a0g h fun a ha h=>a0g h fun b hb h=>ifS h fun hs h=>by
     obtain⟨t,rfl⟩:=b0o ha rx;obtain⟨u,rfl⟩:=b0o hb ry;exact call_range_2 (core _ _ _ _ _ _ _ hs (Option.some.inj h).symm)
   | cons _ _=>exact ns h
theorem b0d {n k:Nat} {T:String} {f:Str} {np pos:Pos} {elts:List Expr} {xs:List X} {μ μ₁:Mu} {vs:List V} {Q:Value->Shared->Prop} (H:a6n prog w Lx base Γ n) (rm:Room A n) (c:ScR sc env) (hg:a5j sc f=true) (hd:(f==("__debug__":Str))=false)
  (gn:a1e prog w base f (.type T)) (hp:elts.all a1x=true) (t:a1o (trE Γ.tbl k sc) elts=some xs) (er:ER Γ.tbl base env ρ as s.heap) (gr:GR Lx base μ as s.heap) (h:evs (fun x μ=>ev Γ n x ρ μ) xs μ=some (vs,μ₁))
  (K:∀(vals:List Value) (as':List (List Addr)) (h':Heap) (tk:Nat),GR Lx base μ₁ as' h'->Go as s.heap as' h'->Reps h' as' vs vals->wpAny (model prog w) A (call (.type T) vals) Q E { s with heap:=h',toks:=tk}) :
  wpAny (model prog w) A (eval (.Call (.Name f np) elts [] pos) env) Q E s:=by
 refine wpAny_Call_ofName (a3z hd hg c er gr gn ?_);exact PyProof.Rows.callWith_type (a9l pos hp) (a4t H rm c hp t er gr h fun vals as' h' tk g go rv=>K vals as' h' tk g go rv)
theorem c4w{f:X->Mu->Option (V×Mu)}{x:X}{y:Option X}{μ:Mu}{G:Prop}(t:d5e y=some x)(k:y=some x->a1s f x μ=(match f x μ with | some (v,μ)=>(a5s v).map (·,μ) | .none=>.none)->G):G:=by
 exact a0g t fun z e t=>ifN t fun h t=>by
  obtain rfl:=Option.some.inj t;exact k e (if_neg h)
theorem c1v{n k:Nat}{x:X}{e:Expr}{μ μ':Mu}{vs:List V}{tg:Expr}{Q:Value->Shared->Prop}(H:a6n prog w Lx base Γ n)(ht:b6k tg=true)(t:trE Γ.tbl k sc e=some x)(rm:Room A n)(c:ScR sc env)(er:ER Γ.tbl base env ρ as s.heap)(gr:GR Lx base μ as s.heap)
  (h:(match ev Γ n x ρ μ with | some (v,μ)=>(a5s v).map (·,μ) | .none=>.none)=some (vs,μ')) (hQ:b2v prog w Lx base as s tg vs μ' (fun zz=>True) Q) :
  wpAny (model prog w) A (eval e env) (fun v sI=>wpAny (model prog w) A (pyIter v) Q E sI) E s:=by
 refine a7b h fun v μ₁ h1 h=>a1n h fun vs h2 h=>pr h ?_;rintro rfl rfl;refine a0t H t rm c er gr h1 fun a asI hY tk gI erI goI ra=>?_;refine d1e (h₀:=s.heap) ht h2 ra gI (fun I hI=>a4r goI hI) fun itv own St o wk st=>?_;exact hQ itv own St asI _ tk wk st (gI.push o) (goI.push o)
theorem e5v{α:Type}{r:α}{G:Prop}{e:Option (V×Mu)}{f:List V->Mu->Option α}(h:(match e with | some (.lst i,μ)=>f i μ | _=>.none)=some r)(k:∀ i μ,e=some (.lst i,μ)->f i μ=some r->G):G:=by
 induction e using Option.casesOn with
 | none=>exact ns h
 | some p=>cases p with | mk v μ=>induction v using Mine.V.casesOn<;>first | exact k _ _ rfl h | exact ns h
theorem b9r{α β:Type}{f:α->Option β}{x:α}{y:β}(h:f x=some y):a1o f [x]=some [y]:=a4s h rfl
theorem d9b{f:X->Mu->Option (V×Mu)}{x:X}{μ μ':Mu}{v:V}(h:f x μ=some (v,μ')):evs f [x] μ=some ([v],μ'):=by
 show(match (generalizing:=false) f x μ with | some (v,μ)=>some ([v],μ) | .none=>.none)=_
 rw [h]
theorem d8e{f:X->Mu->Option (V×Mu)}{y x:X}{μ:Mu}{q:List V×Mu}(e:y=x)(h:a1s f x μ=some q):a1s f y μ=some q:=e▸h
theorem spI{tg:Expr}{vs us:List V}{μ μ':Mu}{Q:Value->Shared->Prop}(h:(us,μ)=(vs,μ'))(hQ:b2v prog w Lx base as s tg vs μ' (fun zz=>True) Q):b2v prog w Lx base as s tg us μ (fun zz=>True) Q:=by cases h;exact hQ
theorem c9o:(("range":Str)==("__debug__":Str))=false:=by decide +kernel
theorem d7l:(("enumerate":Str)==("__debug__":Str))=false:=by decide +kernel
theorem c0j{tbl:List Str}{k:Nat}{sc:Scope}{e:Expr}:(∃ f np args pos,e=.Call (.Name f np) args [] pos)∨trE.trI tbl (k+1) sc e=d5e (trE tbl k sc e):=by
 generalize hq:d5e (trE tbl k sc e)=q;induction e using PySem.Expr.casesOn with
 | Call f args kws pos=>induction f using PySem.Expr.casesOn with
  | Name f np=>induction kws using List.casesOn with
   | nil=>exact .inl ⟨f,np,args,pos,rfl⟩
   | cons _ _=>exact .inr hq
  | _=>exact .inr hq
 | _=>exact .inr hq
theorem c8f(S:Snd prog w Lx base Γ){n k:Nat}{x:X}{e:Expr}{μ μ':Mu}{vs:List V}{tg:Expr}{Q:Value->Shared->Prop}(H:a6n prog w Lx base Γ n)(ht:b6k tg=true)(he:a8y tg e=true)(t:trE.trI Γ.tbl k sc e=some x)(rm:Room A n)(c:ScR sc env)(er:ER Γ.tbl base env ρ as s.heap)(gr:GR Lx base μ as s.heap)
  (h:a1s (fun x μ=>ev Γ n x ρ μ) x μ=some (vs,μ')) (hQ:b2v prog w Lx base as s tg vs μ' (fun zz=>True) Q) :
  wpAny (model prog w) A (eval e env) (fun v sI=>wpAny (model prog w) A (pyIter v) Q E sI) E s:=by
 induction k using Nat.casesOn with
 | zero=>exact ns t
 | succ k=>
  have other:∀ {k:Nat},d5e (trE Γ.tbl k sc e)=some x->wpAny (model prog w) A (eval e env) (fun v sI=>wpAny (model prog w) A (pyIter v) Q E sI) E s:=fun t=>
   c4w t fun t q=>c1v H ht t rm c er gr (q.symm.trans h) hQ
  rcases c0j (tbl:=Γ.tbl) (k:=k) (sc:=sc) (e:=e)with⟨f,np,args,pos,rfl⟩ | q
  rotate_left
  ·exact other (q.symm.trans t)
  ···refine ifS t fun hq t=>ifE t (fun hr t=>?_) fun zz t=>ifE t (fun hr t=>?_) fun zz t=>ifE t (fun hr t=>?_) fun zz t=>other t
     ·refine a1n t fun xs t1 e1=>c9i (d8e e1 h) fun us μ₁ h1 h=>a1n h fun vs h2 h=>?_
      have hQ:=spI h hQ;refine b0d H rm c (a0d (a0d hq)) (eq_of_beq hr▸c9o) (eq_of_beq hr▸S.range) (a0f (a0d hq)) t1 er gr h1 fun vals as' h' tk g go rv=>?_;refine c2s (h₀:=s.heap) ht h2 rv g (fun I hI=>a4r go hI) fun itv own St oI o tk' wk st=>?_;exact hQ itv own St as' _ tk' wk st ((g.push oI).push o) ((go.push oI).push o)
     ·clear other
      induction args using List.casesOn with
      | nil=>exact ns t
      | cons a args=>induction args using List.casesOn with
       | cons _ _=>exact ns t
       | nil=>
        refine a1n t fun y t1 e1=>e5v (d8e e1 h) fun l μ₁ h1 h=>?_;have hQ:=spI (Option.some.inj h) hQ;have hit:c4a tg=true:=orn he (Bool.or_eq_true_iff.mpr (.inl hr));refine b0d H rm c (a0d (a0d hq)) (eq_of_beq hr▸d7l) (eq_of_beq hr▸S.enum) (a0f (a0d hq)) (k:=k) (xs:=[y]) (vs:=[.lst l]) (μ₁:=μ₁) (b9r t1) er gr (d9b h1) fun vals as' h' tk g go rv=>?_;obtain⟨_,_,rfl,⟨ax,vs',rfl,hax,hpl,hr⟩,q⟩:=rv;cases q;refine call_enumerate_list hpl.isList fun h'' he hi hsz hk=>wpAny_pyIter_enum he ?_;obtain⟨g',go'⟩:=g.all (h':=h'') fun a o zz e=>hk a o e;have n1:=a1c h';have n2:h'.get? (h'.objs.size+1)=.none:=by
         induction q:h'.get? (h'.objs.size+1)using Option.casesOn with
         | none=>rfl
         | some o=>exact absurd (Nat.lt_of_succ_lt (Heap.lt_size q)) (Nat.lt_irrefl _)
        have off1:h'.objs.size∉as'.flatten:=g.top_off;have off2:h'.objs.size+1∉as'.flatten:=fun hm=>by
         obtain⟨o,e⟩:=g.alive _ hm;exact ns (n2.symm.trans e)
        refine hQ _ _ _ as' h'' tk (fun A' hA=>(Wk0.enum hA hit _ _ ax l vs' ⟨a4r go n1,a8p g n1⟩ ⟨a4r go n2,a8p g n2⟩ (Nat.succ_ne_self _)).wk) ⟨⟨_,he⟩,hi,off2,off1,hax,?_,hr.go go'⟩ g' (go.trans go');obtain⟨m,e⟩:=hpl;exact⟨m,hk _ _ e⟩
     ·induction args using List.casesOn with
      | nil=>exact ns t
      | cons a args=>induction args using List.casesOn with
       | nil=>exact ns t
       | cons b args=>induction args using List.casesOn with
        | cons _ _=>exact ns t
        | nil=>
         refine a0g t fun a zz t=>a1n t fun b zz e1=>?_;have h:=d8e e1 h;cases n<;>exact ns h
theorem f1q{α:Type}{r:α}{G:Prop}{e:Option (V×Mu)}{f:Nat->Mu->Option α}(h:(match e with | some (.mut i,μ)=>f i μ | _=>.none)=some r)(k:∀ i μ,e=some (.mut i,μ)->f i μ=some r->G):G:=by
 induction e using Option.casesOn with
 | none=>exact ns h
 | some p=>cases p with | mk v μ=>induction v using Mine.V.casesOn<;>first | exact k _ _ rfl h | exact ns h
theorem f2h{α:Type}{r:α}{G:Prop}{e:Option M}{f:List V->Option α}(h:(match e with | some (.list l)=>f l | _=>.none)=some r)(k:∀ l,e=some (.list l)->f l=some r->G):G:=by
 induction e using Option.casesOn with
 | none=>exact ns h
 | some m=>induction m using Mine.M.casesOn with
  | list l=>exact k l rfl h
  | obj _ _=>exact ns h
theorem f4l{h:Heap}{j:Nat}(hj:h.objs.size<=j):h.get? j=.none:=by
 induction q:h.get? j using Option.casesOn with
 | none=>rfl
 | some o=>exact absurd (Heap.lt_size q) (Nat.not_lt.mpr hj)
theorem c9q{n k i:Nat}{m:M}{x:X}{e:Expr}{l:List V}{μ μ':Mu}{tg:Expr}{Q:Value->Shared->Prop}(H:a6n prog w Lx base Γ n)(ht:b6k tg=true)(t:trE Γ.tbl k sc e=some x)(rm:Room A n)(c:ScR sc env)(er:ER Γ.tbl base env ρ as s.heap)(gr:GR Lx base μ as s.heap)
  (h:d1l (fun x μ=>ev Γ n x ρ μ) x μ=some (i,m,l,μ')) (hQ:b2v prog w Lx base as s tg l μ' (fun μ=>μ[i]?=some m) Q) :
  wpAny (model prog w) A (eval e env) (fun v sI=>wpAny (model prog w) A (pyIter v) Q E sI) E s:=by
 refine f1q h fun j μ₁ h1 h=>?_;refine f2h h fun l' hl h=>?_;cases h;refine a0t H t rm c er gr h1 fun v asI hY tk g er' go rv=>?_;obtain⟨a,r,e1,rfl⟩:=rv;obtain⟨ax,vals,e2,hp,hr⟩:=g.mus _ _ _ hl e1;obtain⟨rfl,rfl⟩:=List.cons.inj e2;exact wpAny_pyIter_list hp.isList (hQ _ _ _ asI _ tk (fun A' hA=>Wk.own hA ht i _ a l ⟨a4r go (a1c _),a8p g (a1c _)⟩) ⟨⟨_,Heap.get?_push_size _ rfl,rfl,rfl⟩,g.top_off,e1⟩ (g.push _) (go.push _))
theorem d1w{α β:Type}{f:α->Option β}{x x':α}{y y':β}(h:f x=some y)(h':f x'=some y'):a1o f [x,x']=some [y,y']:=a4s h (b9r h')
theorem f0n{f:X->Mu->Option (V×Mu)}{x y:X}{μ μ' μ'':Mu}{v u:V}(h:f x μ=some (v,μ'))(h':f y μ'=some (u,μ'')):evs f [x,y] μ=some ([v,u],μ''):=by
 show(match (generalizing:=false) f x μ with | some (v,μ)=>(match (generalizing:=false) evs f [y] μ with | some (vs,μ)=>some (v::vs,μ) | .none=>.none) | .none=>.none)=_
 rw [h];show(match (generalizing:=false) evs f [y] μ' with | some (vs,μ)=>some (v::vs,μ) | .none=>.none)=_
 rw [d9b h']
theorem e1t:(("zip":Str)==("__debug__":Str))=false:=by decide +kernel
theorem e1z{f:X->Mu->Option (V×Mu)}{x:X}{y:Option X}{μ:Mu}{G:Prop}(t:d5e y=some x)(k:y=some x->b6i f x μ=d1l f x μ->G):G:=by
 exact a0g t fun z e t=>ifN t fun h t=>by
  obtain rfl:=Option.some.inj t;exact k e (if_neg h)
theorem c9n (S:Snd prog w Lx base Γ) {n k:Nat} {a b:Expr} {xa xb:X} {np pos:Pos} {l m:List V} {μ μ₁ μ₂:Mu} {tg:Expr} {Q:Value->Shared->Prop} (H:a6n prog w Lx base Γ n) (ht:c4a tg=true) (hg:a5j sc "zip" = true) (hp:[a,b].all a1x=true) (ta:trE Γ.tbl k sc a=some xa) (tb:trE Γ.tbl k sc b=some xb) (rm:Room A n) (c:ScR sc env) (er:ER Γ.tbl base env ρ as s.heap) (gr:GR Lx base μ as s.heap)
  (h1:ev Γ n xa ρ μ=some (.lst l,μ₁)) (h2:ev Γ n xb ρ μ₁=some (.lst m,μ₂)) (hl:l.length=m.length) (hQ:b2v prog w Lx base as s tg ((l.zip m).map fun p=>V.tup [p.1,p.2]) (μ₂++[.obj [] (-9)]) (fun μ=>μ[μ₂.length]?=some (.obj [] (-9))) Q) :
  wpAny (model prog w) A (eval (.Call (.Name "zip" np) [a,b] [] pos) env) (fun v sI=>wpAny (model prog w) A (pyIter v) Q E sI) E s:=by
 refine b0d H rm c hg e1t S.zip hp (d1w ta tb) er gr (f0n h1 h2) fun vals as' h' tk g go rv=>?_;obtain⟨_,_,rfl,⟨ax,us,rfl,hax,hpa,hra⟩,_,_,rfl,⟨bx,vs,rfl,hbx,hpb,hrb⟩,q⟩:=rv;cases q;obtain⟨na,ea⟩:=id hpa;obtain⟨nb,eb⟩:=id hpb;refine call_zip_2 hpa.isList hpb.isList fun h'' hz hTI hTO hi1 hi2 hsz hk=>wpAny_pyIter_zip hz ?_;have g1:∀ j,h'.objs.size<=j->h'.get? j=.none:=fun j hj=>f4l hj;have off:∀ j,h'.objs.size<=j->j∉as'.flatten:=fun j hj hm=>by
  obtain⟨o,e⟩:=g.alive _ hm;exact ns ((g1 j hj).symm.trans e)
 obtain⟨g',go'⟩:=g.new (h':=h'') (ads:=[h'.objs.size+3]) (m:=.obj [] (-9)) hk (fun a ha=>by rw [List.mem_singleton]at ha;subst ha;exact g1 _ (Nat.le_add_right _ 3)) (List.nodup_cons.mpr ⟨List.not_mem_nil,List.nodup_nil⟩)
  (fun a ha=>by rw [List.mem_singleton]at ha;subst ha;exact⟨_,hTO⟩) ⟨[],rfl,Lx.pair.mpr ⟨_,_,hTO⟩⟩
 have off':∀ j,h'.objs.size<=j->j≠h'.objs.size+3->j∉(as'++[[h'.objs.size+3]]).flatten:=fun j hj hne hm=>by
  rw [List.flatten_append]at hm;rcases List.mem_append.mp hm with hm | hm
  ·exact off j hj hm
  ·exact hne (List.mem_singleton.mp hm)
 have old:∀ {j o},h'.get? j=some o->j∉as'.flatten->j∉(as'++[[h'.objs.size+3]]).flatten:=fun {j o} e hj hm=>by
  rw [List.flatten_append]at hm;rcases List.mem_append.mp hm with hm | hm
  ·exact hj hm
  ·obtain rfl:=List.mem_singleton.mp hm
   exact ns ((g1 _ (Nat.le_add_right _ 3)).symm.trans e)
 have hlen:=g.len;have D:=zipApart_new (Heap.lt_size ea) (Heap.lt_size eb);refine hQ _ _ _ _ h'' tk (fun A' hA=>Wk.zip ht hA D hl fun a ha=>?_) ⟨hz,hTI,hi1,hi2,⟨off' _ (Nat.le_add_right _ 4) D.TOz.symm,off' _ (Nat.le_add_right _ 2) D.TITO,off' _ (Nat.le_refl _) D.TOi1.symm,off' _ (Nat.le_add_right _ 1) D.TOi2.symm,old ea hax,old eb hbx⟩,?_,⟨na,hk _ _ ea⟩,⟨nb,hk _ _ eb⟩,hra.go go',hrb.go go'⟩ g' (go.trans go')
 ·have:h'.objs.size<=a:=by
   simp only [List.mem_cons,List.not_mem_nil,or_false]at ha;rcases ha with rfl | rfl | rfl | rfl
   ·exact Nat.le_add_right _ 4
   ·exact Nat.le_add_right _ 3
   ·exact Nat.le_refl _
   ·exact Nat.le_add_right _ 1
  exact⟨a4r go (g1 _ this),a8p g (g1 _ this)⟩
 ·rw [← hlen,List.getElem?_append_right (Nat.le_refl _),Nat.sub_self]
  rfl
theorem b9l(S:Snd prog w Lx base Γ){n k i:Nat}{m:M}{x:X}{e:Expr}{l:List V}{μ μ':Mu}{tg:Expr}{Q:Value->Shared->Prop}(H:a6n prog w Lx base Γ n)(ht:b6k tg=true)(he:a8y tg e=true)(t:trE.trI Γ.tbl k sc e=some x)(rm:Room A n)(c:ScR sc env)(er:ER Γ.tbl base env ρ as s.heap)(gr:GR Lx base μ as s.heap)
  (h:b6i (fun x μ=>ev Γ n x ρ μ) x μ=some (i,m,l,μ')) (hQ:b2v prog w Lx base as s tg l μ' (fun μ=>μ[i]?=some m) Q) :
  wpAny (model prog w) A (eval e env) (fun v sI=>wpAny (model prog w) A (pyIter v) Q E sI) E s:=by
 induction k using Nat.casesOn with
 | zero=>exact ns t
 | succ k=>
  have other:∀ {k:Nat},d5e (trE Γ.tbl k sc e)=some x->wpAny (model prog w) A (eval e env) (fun v sI=>wpAny (model prog w) A (pyIter v) Q E sI) E s:=fun t=>e1z t fun t q=>c9q H ht t rm c er gr (q.symm.trans h) hQ;have no:∀ y,b6i (fun x μ=>ev Γ n x ρ μ) y μ=.none->y≠x:=fun y hi q=>by
   subst q;exact ns (hi.symm.trans h)
  rcases c0j (tbl:=Γ.tbl) (k:=k) (sc:=sc) (e:=e)with⟨f,np,args,pos,rfl⟩ | q
  rotate_left
  ·exact other (q.symm.trans t)
  ·refine ifS t fun hq t=>ifE t (fun hr t=>a1n t fun xs zz e1=>absurd e1 (no _ rfl)) fun zz t=>ifE t (fun hr t=>?_) fun zz t=>ifE t (fun hr t=>?_) fun zz t=>other t
   ·clear other
    induction args using List.casesOn with
    | nil=>exact ns t
    | cons a args=>induction args using List.casesOn with
     | cons _ _=>exact ns t
     | nil=>exact a1n t fun y zz e1=>absurd e1 (no _ rfl)
   ·clear other no
    induction args using List.casesOn with
    | nil=>exact ns t
    | cons a args=>induction args using List.casesOn with
     | nil=>exact ns t
     | cons b args=>induction args using List.casesOn with
      | cons _ _=>exact ns t
      | nil=>
       refine a0g t fun y ta t=>a1n t fun z tb e1=>?_;subst e1;refine e5v (e:=ev Γ n y ρ μ) h fun l1 μ₁ h1 h=>e5v (e:=ev Γ n z ρ μ₁) h fun l2 μ₂ h2 h=>ifS h fun hl h=>?_;cases h;cases eq_of_beq hr;exact c9n S H (orn he (Bool.or_eq_true_iff.mpr (.inr hr))) (a0d (a0d hq)) (a0f (a0d hq)) ta tb rm c er gr h1 h2 hl hQ
end
end
section
noncomputable def hide(D:Addr):List (List Addr)->List (List Addr)
 | []=>[[D]]
 | x::r=>(D::x)::r
theorem hide_mem{D a:Addr}{as:List (List Addr)}:a∈(hide D as).flatten↔a=D∨a∈as.flatten:=by
 induction as using List.casesOn with
 | nil=>exact List.mem_singleton.trans ⟨.inl,fun h=>h.elim id fun q=>absurd q (List.not_mem_nil)⟩
 | cons x r=>exact List.mem_cons
theorem a2n{D:Addr}{as:List (List Addr)}(k:Nat):(hide D as)[k+1]?=as[k+1]?:=by
 cases as<;>rfl
theorem a9p{D:Addr}{as nw:List (List Addr)}(h:as≠[]):hide D as++nw=hide D (as++nw):=by
 induction as using List.casesOn with
 | nil=>exact absurd rfl h
 | cons x r=>rfl
theorem c0p{as:List (List Addr)}{h:Heap}{D a:Addr}{o:Obj}(hD:h.get? D=.none)(ha:a∉as.flatten)(e:h.get? a=some o):a∉(Mine.hide D as).flatten:=fun hm=>
 (hide_mem.mp hm).elim (fun q=>by rw [q,hD]at e;exact ns e) ha
theorem Rep.hide{as:List (List Addr)}{h h':Heap}{D:Addr}(hD:h.get? D=.none)(k:∀ a o,h.get? a=some o->h'.get? a=some o):∀ {x:V} {v:Value},Rep h as x v->Rep h' (hide D as) x v:=fun r=>
 Rep.tr (fun a o ha e zz=>⟨c0p hD ha e,k a o e⟩) (fun k zz e=>(a2n k).trans e) r
theorem Reps.hide{as:List (List Addr)}{h h':Heap}{D:Addr}(hD:h.get? D=.none)(k:∀ a o,h.get? a=some o->h'.get? a=some o):∀ {l:List V} {vs:List Value},Reps h as l vs->Reps h' (hide D as) l vs:=fun r=>
 Reps.tr (fun a o ha e zz=>⟨c0p hD ha e,k a o e⟩) (fun k zz e=>(a2n k).trans e) r
theorem Rep.show{as:List (List Addr)}{h:Heap}{D:Addr}:∀ {x:V} {v:Value},Rep h (Mine.hide D as) x v->Rep h as x v:=fun r=>
 Rep.tr (fun a o ha e zz=>⟨fun hm=>ha (hide_mem.mpr (.inr hm)),e⟩) (fun k zz e=>(a2n k).symm.trans e) r
theorem Reps.show{as:List (List Addr)}{h:Heap}{D:Addr}:∀ {l:List V} {vs:List Value},Reps h (Mine.hide D as) l vs->Reps h as l vs:=fun r=>
 Reps.tr (fun a o ha e zz=>⟨fun hm=>ha (hide_mem.mpr (.inr hm)),e⟩) (fun k zz e=>(a2n k).symm.trans e) r
section
variable{Lx:LxP}{base:Heap}{μ:Mu}{as:List (List Addr)}{h h':Heap}{D:Addr}
theorem c1g(nd:as.flatten.Nodup)(hD:D∉as.flatten):(hide D as).flatten.Nodup:=by
 induction as using List.casesOn with
 | nil=>exact List.nodup_cons.mpr ⟨List.not_mem_nil,List.nodup_nil⟩
 | cons x r=>
  have e:(hide D (x::r)).flatten=D::(x::r).flatten:=rfl;rw [e];exact List.nodup_cons.mpr ⟨hD,nd⟩
theorem a6b(nd:(hide D as).flatten.Nodup):as.flatten.Nodup/\D∉as.flatten:=by
 induction as using List.casesOn with
 | nil=>simp
 | cons x r=>
  have e:(hide D (x::r)).flatten=D::(x::r).flatten:=rfl;rw [e]at nd;exact⟨(List.nodup_cons.mp nd).2,(List.nodup_cons.mp nd).1⟩
theorem c0v(h:as≠[]):(hide D as).length=as.length:=by
 induction as using List.casesOn with
 | nil=>exact absurd rfl h
 | cons x r=>rfl
theorem GR.ne(g:GR Lx base μ as h):as≠[]:=fun q=>by
 have:=g.len;rw [q]at this;simp at this
theorem GR.hide(g:GR Lx base μ as h)(hD:h.get? D=.none)(hb:base.get? D=.none)(k:∀ a o,h.get? a=some o->h'.get? a=some o){oD:Obj}(hn:h'.get? D=some oD):GR Lx base μ (hide D as) h':=by
 have off:D∉as.flatten:=fun hm=>by
  obtain⟨o,e⟩:=g.alive _ hm;rw [hD]at e;exact ns e
 refine⟨fun a o e=>k a o (g.keep a o e),fun a ha=>?_,c1g g.nd off,fun a ha=>?_,by rw [c0v g.ne];exact g.len,fun i m ads hi ha=>?_⟩
 ·rcases hide_mem.mp ha with rfl | ha
  ·exact hb
  ·exact g.fresh a ha
 ·rcases hide_mem.mp ha with rfl | ha
  ·exact⟨_,hn⟩
  ·obtain⟨o,e⟩:=g.alive a ha
   exact⟨o,k a o e⟩
 ·rw [a2n]at ha
  have hm:=g.mus i m ads hi ha;induction m using Mine.M.casesOn with
  | list l=>
   obtain⟨a,vs,rfl,⟨n,hp⟩,hr⟩:=hm;exact⟨a,vs,rfl,⟨n,k a _ hp⟩,hr.hide hD k⟩
  | obj is n=>exact let⟨rs,e1,e2⟩:=hm;⟨rs,b0n (fun j l e=>by rw [a2n];exact e) e1,Lx.keep e2 fun a zz o e=>k a o e⟩
theorem GR.show(g:GR Lx base μ (Mine.hide D as) h)(hne:as≠[]):GR Lx base μ as h:=by
 refine⟨g.keep,fun a ha=>g.fresh a (hide_mem.mpr (.inr ha)),(a6b g.nd).1,fun a ha=>g.alive a (hide_mem.mpr (.inr ha)),by rw [← c0v (D:=D) hne];exact g.len,fun i m ads hi ha=>?_⟩;have hm:=g.mus i m ads hi (by rw [a2n];exact ha);induction m using Mine.M.casesOn with
 | list l=>
  obtain⟨a,vs,rfl,hp,hr⟩:=hm;exact⟨a,vs,rfl,hp,hr.show⟩
 | obj is n=>exact let⟨rs,e1,e2⟩:=hm;⟨rs,b0n (fun j l e=>by rw [a2n]at e;exact e) e1,e2⟩
theorem GR.modHid(g:GR Lx base μ (Mine.hide D as) h)(hs:Heap.SameBut D h h'){oD:Obj}(hn:h'.get? D=some oD):GR Lx base μ (Mine.hide D as) h':=by
 have hD:D∈(Mine.hide D as).flatten:=hide_mem.mpr (.inl rfl);have nd:=a6b g.nd;have ks:Ks (Mine.hide D as) h h':=fun a o ha e zz=>(hs.2 a (fun q=>ha (q▸hD))).trans e;refine⟨fun a o e=>(hs.2 a (fun q=>by rw [q,g.fresh D hD]at e;exact ns e)).trans (g.keep a o e),g.fresh,g.nd,fun a ha=>?_,g.len,fun i m ads hi ha=>?_⟩
 ·by_cases q:a=D
  ·exact⟨oD,q▸hn⟩
  ·obtain⟨o,e⟩:=g.alive a ha
   exact⟨o,(hs.2 a q).trans e⟩
 ·have hm:=g.mus i m ads hi ha
  have hne:∀ a∈ads,a≠D:=fun a hq q=>nd.2 (by
   rw [a2n]at ha;exact q▸List.mem_flatten.mpr ⟨ads,List.mem_of_getElem? ha,hq⟩)
  induction m using Mine.M.casesOn with
  | list l=>
   obtain⟨a,vs,rfl,⟨n,hp⟩,hr⟩:=hm;exact⟨a,vs,rfl,⟨n,(hs.2 a (hne a (by simp))).trans hp⟩,hr.ks ks⟩
  | obj is n=>exact let⟨rs,e1,e2⟩:=hm;⟨rs,e1,Lx.keep e2 fun a ha o e=>(hs.2 a (hne a ha)).trans e⟩
theorem ER.mvs{tbl:List Str}{env:Env}{ρ:Rho}(e:ER tbl base env ρ as h){own:List Addr}(ho:∀ a,Wf tbl env a->a∉own)(mv:Mv own h h')(ks:Ks as h h'):ER tbl base env ρ as h':=by
 obtain⟨m,hn,hl⟩:=e.loc;refine⟨e.kind,e.glob,e.bns,⟨m,?_,fun i x v h1 h2 h3=>?_⟩,e.off,fun i x h1 h2=>?_,e.inj⟩
 ·obtain⟨o,es,ep,e1,r⟩:=hn
  exact⟨o,es,ep,mv _ _ (ho _ (.inl rfl)) e1,r⟩
 ·obtain⟨u,h4,h5⟩:=hl i x v h1 h2 h3
  exact⟨u,h4,h5.ks ks⟩
 ·obtain⟨c,u,h3,h4,h5,⟨oc,hoc,hdc⟩,h7⟩:=e.cel i x h1 h2
  refine⟨c,u,h3,h4,h5,⟨oc,mv c oc (ho c (.inr ⟨i,x,h1,h2,h3⟩)) hoc,hdc⟩,fun v hv=>?_⟩;obtain⟨u',h8,h9⟩:=h7 v hv;exact⟨u',h8,h9.ks ks⟩
theorem Go.over{as₀ nw:List (List Addr)}{h₀:Heap}{W:Addr->Prop}(x:Go as₀ h₀ as h)(y:GoS W (Mine.hide D as) h (Mine.hide D as++nw) h')(hne:as≠[])(hW:∀ a,W a->h₀.get? a=.none):Go as₀ h₀ (as++nw) h':=by
 have xsub:=@Go.sub _ _ _ _ x;have xk:=x.keep;have xa:=x.alive;have tl:(Mine.hide D as).tail=as.tail:=by induction as using List.casesOn with
  | nil=>exact absurd rfl hne
  | cons a r=>rfl
 obtain⟨n1,e1,h1⟩:=x.ext;obtain⟨n2,e2,h2⟩:=y.ext;have e2:nw=n2:=List.append_cancel_left e2;subst e2;refine⟨⟨n1++nw,by rw [e1];simp,fun a ha=>?_⟩,fun a o ha e=>?_,fun a ha=>y.alive a ?_⟩
 ·rw [List.flatten_append]at ha
  rcases List.mem_append.mp ha with ha | ha
  ·exact h1 a ha
  ·induction q:h₀.get? a using Option.casesOn with
   | none=>rfl
   | some o=>
    exfalso;by_cases m:a∈as₀.tail.flatten
    ·obtain⟨o',e'⟩:=xa a (xsub (a4l m))
     rw [h2 a ha]at e';exact ns e'
    ·have:=xk a o m q
     rw [h2 a ha]at this;exact ns this
 ·refine y.keep a o (fun hm=>?_) (fun hw=>by rw [hW a hw]at e;exact ns e) (xk a o ha e)
  rw [tl,e1]at hm;rcases b4l hm with hm | hm
  ·exact ha hm
  ·rw [h1 a hm]at e;exact ns e
 ·rw [List.flatten_append]at ha ⊢
  rcases List.mem_append.mp ha with ha | ha
  ·exact List.mem_append_left _ (hide_mem.mpr (.inr ha))
  ·exact List.mem_append_right _ ha
theorem Go.sf{as':List (List Addr)}{own:List Addr}(g:Go as h as' h'):Sf own as h as' h':=⟨fun a o e ha=>g.off e ha,fun k l e=>g.get e,fun a o ha e zz=>g.at ha e⟩
end
end
section
noncomputable def clo(env:Env):List (Str×NameKind)->List (Str×Addr)->List (Str×Addr)
 | [],cs=>cs
 | (n,k)::r,cs=>if k==.free then clo env r ((n,(env.cells.lookup n).getD 0)::cs)else clo env r cs
theorem c3q{env:Env}{n:Str}{k:NameKind}{r:List (Str×NameKind)}{cs:List (Str×Addr)}(h:(k==.free)=true):clo env ((n,k)::r) cs=clo env r ((n,(env.cells.lookup n).getD 0)::cs):=if_pos h
theorem d1a{env:Env}{n:Str}{k:NameKind}{r:List (Str×NameKind)}{cs:List (Str×Addr)}(h:¬(k==.free)=true):clo env ((n,k)::r) cs=clo env r cs:=if_neg h
theorem d7a{env:Env}(f:Str×NameKind->List (Str×Addr)->Sem (ForInStep (List (Str×Addr))))(h1:∀ n k cs,(k==NameKind.free)=false->f (n,k) cs=pure (ForInStep.yield cs))
  (h2:∀ n c cs,env.cells.lookup n=some c->f (n,.free) cs=pure (ForInStep.yield ((n,c)::cs))):∀(l:List (Str×NameKind)) (cs:List (Str×Addr)),(∀ p∈l,p.2=.free->∃ c,env.cells.lookup p.1=some c)->forIn l cs f=pure (clo env l cs):=by
 intro z_;induction z_ with
 | nil=>
  intro cs _;exact rfl
 | cons z1_ r ih=>
  obtain⟨n,k⟩:=z1_;intro cs hp;rw [List.forIn_cons];by_cases hk:(k==NameKind.free)=true
  ·have hk':k=.free:=by simpa using hk
   subst hk';obtain⟨c,hc⟩:=hp (n,.free) (by simp) rfl;simp only at hc;rw [h2 n c cs hc];show(forIn r ((n,c)::cs) f:Sem (List (Str×Addr)))=_;rw [ih _ fun q hq=>hp q (by simp [hq])];have e:clo env ((n,.free)::r) cs=clo env r ((n,c)::cs):=by
    rw [c3q rfl,hc];rfl
   rw [e]
  ·have hk':(k==NameKind.free)=false:=by simpa using hk
   rw [h1 n k cs hk'];show(forIn r cs f:Sem (List (Str×Addr)))=_;rw [ih _ fun q hq=>hp q (by simp [hq])];have e:clo env ((n,k)::r) cs=clo env r cs:=d1a hk;rw [e]
theorem e3y{scope:Scope}{env:Env}(h:∀ p∈scope.names,p.2=.free->∃ c,env.cells.lookup p.1=some c):closureFor scope env=pure (clo env scope.names []):=by
 simp only [closureFor];rw [d7a (env:=env) _ (fun n k cs hk=>?_) (fun n c cs hc=>?_) scope.names [] h]
 ·rfl
 ·simp only [hk];rfl
 ·unfold cellOf
  simp only [hc];rfl
theorem c9g{env:Env}:∀(l:List (Str×NameKind)) (cs:List (Str×Addr)) (p:Str×Addr),p∈clo env l cs->p∈cs∨(∃ q∈l,q.2=.free/\p=(q.1,(env.cells.lookup q.1).getD 0)):=by
 intro z_;induction z_ with
 | nil=>
  intro cs p h;exact .inl h
 | cons z1_ r ih=>
  obtain⟨n,k⟩:=z1_;intro cs p h;by_cases hk:(k==.free)=true
  ·rw [c3q hk]at h
   rcases ih _ p h with h | ⟨q,hq,h1,h2⟩
   ·rcases List.mem_cons.mp h with rfl | h
    ·exact .inr ⟨(n,k),.head _,eq_of_beq hk,rfl⟩
    ·exact .inl h
   ·exact .inr ⟨q,.tail _ hq,h1,h2⟩
  ·rw [d1a hk]at h
   rcases ih _ p h with h | ⟨q,hq,h1,h2⟩
   ·exact .inl h
   ·exact .inr ⟨q,.tail _ hq,h1,h2⟩
theorem d8z{env:Env}:∀(l:List (Str×NameKind)) (cs:List (Str×Addr)) (p:Str×Addr),p∈cs->p∈clo env l cs:=by
 intro z_;induction z_ with
 | nil=>
  intro _ _ h;exact h
 | cons z1_ r ih=>
  obtain⟨n,k⟩:=z1_;intro cs p h;by_cases hk:(k==.free)=true
  ·rw [c3q hk];exact ih _ p (.tail _ h)
  ·rw [d1a hk];exact ih _ p h
theorem b6o{env:Env}:∀(l:List (Str×NameKind)) (cs:List (Str×Addr)) (q:Str×NameKind),q∈l->q.2=.free->(q.1,(env.cells.lookup q.1).getD 0)∈clo env l cs
 | (n,k)::r,cs,q,hq,hf=>by
  rcases List.mem_cons.mp hq with rfl | hq
  ·have hf':k=.free:=hf
   subst hf';rw [c3q rfl];exact d8z r _ _ (.head _)
  ·by_cases hk:(k==.free)=true
   ·rw [c3q hk];exact b6o r _ q hq hf
   ·rw [d1a hk];exact b6o r _ q hq hf
theorem b1g{l:List (Str×Addr)}{x:Str}{c:Addr}(h:∀ p∈l,p.1=x->p.2=c)(hm:(x,c)∈l):l.lookup x=some c:=by
 induction l with
 | nil=>cases hm
 | cons p r ih=>
  obtain⟨a,b⟩:=p;rw [List.lookup_cons];by_cases hx:x=a
  ·subst hx
   simp only [beq_self_eq_true];have:=h (x,b) (by simp) rfl;simp only at this;rw [this]
  ·have:(x==a)=false:=by simpa using hx
   rw [this];refine ih (fun p hp e=>h p (by simp [hp]) e) ?_;rcases List.mem_cons.mp hm with q | q
   ·exact absurd (congrArg Prod.fst q) hx
   ·exact q
theorem b1d{l:List (Str×Addr)}{x:Str}{c:Addr}(h:l.lookup x=some c):(x,c)∈l:=by
 induction l with
 | nil=>simp at h
 | cons p r ih=>
  obtain⟨a,b⟩:=p;rw [List.lookup_cons]at h;by_cases hx:x=a
  ·subst hx
   simp only [beq_self_eq_true,Option.some.injEq]at h;subst h;simp
  ·have:(x==a)=false:=by simpa using hx
   rw [this]at h;exact List.mem_cons_of_mem _ (ih h)
theorem a8e{env:Env}{l:List (Str×NameKind)}{x:Str}{c:Addr}(h:(clo env l []).lookup x=some c):(∃ q∈l,q.2=.free/\q.1=x)/\c=(env.cells.lookup x).getD 0:=by
 rcases c9g l [] _ (b1d h)with q | ⟨q,hq,h1,h2⟩
 ·cases q
 ·simp only [Prod.mk.injEq]at h2
  obtain⟨rfl,rfl⟩:=h2;exact⟨⟨q,hq,h1,rfl⟩,rfl⟩
theorem b0a{env:Env}{l:List (Str×NameKind)}{x:Str}{c:Addr}(hm:(x,NameKind.free)∈l)(hc:env.cells.lookup x=some c):(clo env l []).lookup x=some c:=by
 refine b1g (fun p hp e=>?_) ?_
 ·rcases c9g l [] p hp with q | ⟨q,hq,h1,h2⟩
  ·cases q
  ·subst h2
   simp only at e;subst e;simp [hc]
 ·have:=b6o (env:=env) l [] (x,.free) hm rfl
  simpa [hc]using this
set_option tactic.hygienic true in
theorem a3w(cs:Scope)(env:Env)(x:Str):(relabel cs env).names.lookup x=(cs.names.lookup x).map fun k=>if(k==.free&&env.scope.kind==.function&&env.kindOf x==some .cell)then .cell else k:=by
 have:∀ l:List (Str×NameKind),(l.map fun(n,k)=>if(k==.free&&env.scope.kind==.function&&env.kindOf n==some .cell)then(n,NameKind.cell)else(n,k)).lookup x=(l.lookup x).map fun k=>if(k==.free&&env.scope.kind==.function&&env.kindOf x==some .cell)then .cell else k:=by
  intro l;induction l with
  | nil=>rfl
  | cons p r ih=>
   obtain⟨n,k⟩:=p;rw [List.map_cons];by_cases hx:x=n
   ·subst hx
    simp only;split
    ·rename_i h
     rw [List.lookup_cons,List.lookup_cons];simp only [beq_self_eq_true,Option.map_some];rw [if_pos h]
    ·rename_i h
     rw [List.lookup_cons,List.lookup_cons];simp only [beq_self_eq_true,Option.map_some];rw [if_neg h]
   ·have hb:(x==n)=false:=by simpa using hx
    simp only;split
    ·simp only [List.lookup_cons,hb,ih]
    ·simp only [List.lookup_cons,hb,ih]
 exact this cs.names
theorem ScR.comp{cs:Scope}{env cenv:Env}(hs:cenv.scope=relabel cs env):ScR cs cenv:=by
 have key:∀ x,cenv.scope.names.lookup x=(cs.names.lookup x).map fun k=>if(k==.free&&env.scope.kind==.function&&env.kindOf x==some .cell)then .cell else k:=fun x=>by rw [hs,a3w]
 refine⟨fun x h=>?_,fun x h=>?_,fun x h=>?_⟩
 ·unfold a4z a1y at h ⊢
  rw [key];induction q:cs.names.lookup x using Option.casesOn with
  | none=>rw [q]at h;exact nt h
  | some k=>
   rw [q]at h;cases k with
   | «local»=>rfl
   | cell=>rfl
   | free=>
    rw [Option.map_some];by_cases hc:(NameKind.free==.free&&env.scope.kind==.function&&env.kindOf x==some .cell)=true
    ·rw [if_pos hc]
    ·rw [if_neg hc]
   | _=>exact nt h
 ·unfold a5j a1y at h ⊢
  rw [key];induction q:cs.names.lookup x using Option.casesOn with
  | none=>rw [q]at h;exact nt h
  | some k=>
   rw [q]at h;cases k with
   | globalImplicit=>rfl
   | _=>exact nt h
 ·unfold a7y a1y at h ⊢
  rw [key];induction q:cs.names.lookup x using Option.casesOn with
  | none=>rw [q]at h;exact nt h
  | some k=>
   rw [q]at h;cases k with
   | cell=>rfl
   | free=>
    rw [Option.map_some];by_cases hc:(NameKind.free==.free&&env.scope.kind==.function&&env.kindOf x==some .cell)=true
    ·rw [if_pos hc]
    ·rw [if_neg hc]
   | _=>exact nt h
end
section
section
variable{prog:Program}{w:World}{Lx:LxP}{base:Heap}{Γ:G}
variable{A:Around}{E:Value->Shared->Prop}{env cenv:Env}{ρ:Rho}{as:List (List Addr)}{s:Shared}{sc cs:Scope}
theorem a7x{f:Nat->Bool}:∀(ρ:Rho) (i:Nat),(ρ.filter fun p=>f p.1).lookup i=if f i then ρ.lookup i else .none:=by
 intro z_;induction z_ with
 | nil=>
  intro i;simp
 | cons z1_ r ih=>
  obtain⟨a,v⟩:=z1_;intro i;rw [List.filter_cons];by_cases ha:f a=true
  ·rw [if_pos ha,List.lookup_cons,List.lookup_cons,ih i]
   by_cases hi:i=a
   ·subst hi;simp [ha]
   ·have:(i==a)=false:=by simpa using hi
    simp [this]
  ·rw [if_neg ha,ih i,List.lookup_cons]
   by_cases hi:i=a
   ·subst hi;simp [ha]
   ·have:(i==a)=false:=by simpa using hi
    simp [this]
structure d5j(tbl:List Str)(sc cs:Scope):Prop where
 kind:cs.kind=.function
 names:∀ p∈cs.names,(p.2=.local/\cs.names.lookup p.1=some .local)∨(p.2=.free/\a7y sc p.1=true/\cs.names.lookup p.1=some .free/\(nid tbl p.1).isSome=true)∨p.2=.globalImplicit
theorem c8p{tbl:List Str}(h:b1p sc cs tbl=true):d5j tbl sc cs:=by
 unfold b1p at h;simp only [Bool.and_eq_true,beq_iff_eq,List.all_eq_true,Bool.or_eq_true]at h;refine⟨h.1,fun p hp=>?_⟩;rcases h.2 p hp with(h | h) | h
 ·exact .inl h
 ·exact .inr (.inl ⟨h.1.1.1,h.1.1.2,h.1.2,h.2⟩)
 ·exact .inr (.inr h)
theorem e0v{tbl:List Str}{own:List Nat}{l:List (Str×NameKind)}(h:a1o (fun p:Str×NameKind=>nid tbl p.1) (l.filter fun p=>p.2==.local)=some own){p:Str×NameKind}(hp:p∈l)(hk:p.2=.local):∃ i,nid tbl p.1=some i/\i∈own:=by
 have key:∀(l:List (Str×NameKind)) (own:List Nat),a1o (fun p:Str×NameKind=>nid tbl p.1) l=some own->∀ p∈l,∃ i,nid tbl p.1=some i/\i∈own:=by
  intro l;induction l with
  | nil=>intro _ _ p hp;cases hp
  | cons q r ih=>
   intro own h p hp;refine a0c h fun a b h1 h2 e=>?_;subst e;rcases List.mem_cons.mp hp with rfl | hp
   ·exact⟨a,h1,.head _⟩
   ·obtain⟨i,h3,h4⟩:=ih b h2 p hp
    exact⟨i,h3,.tail _ h4⟩
 exact key _ own h p (by simp [List.mem_filter,hp,hk])
theorem a7q{x:Str}(h:a7y env.scope x=true):env.kindOf x=some .cell∨env.kindOf x=some .free:=by
 show a1y env.scope x=_∨a1y env.scope x=_;unfold a7y at h;induction q:a1y env.scope x using Option.casesOn with
 | none=>rw [q]at h;exact nt h
 | some k=>
  rw [q]at h;cases k with
  | cell=>exact .inl rfl
  | free=>exact .inr rfl
  | _=>exact nt h
theorem a5x{l:List (Str×NameKind)}{x:Str}{k:NameKind}(h:l.lookup x=some k):(x,k)∈l:=by
 induction l with
 | nil=>simp at h
 | cons p r ih=>
  obtain⟨a,b⟩:=p;rw [List.lookup_cons]at h;by_cases hx:x=a
  ·subst hx
   simp only [beq_self_eq_true,Option.some.injEq]at h;subst h;simp
  ·have:(x==a)=false:=by simpa using hx
   rw [this]at h;exact List.mem_cons_of_mem _ (ih h)
theorem d8j{tbl:List Str}{hY h₃:Heap}{D C:Addr}{own:List Nat}(nd:∀(i j:Nat) (x:Str),tbl[i]?=some x->tbl[j]?=some x->i=j)(co:d5j tbl sc cs)(c:ScR sc env)(ho:c8j cs tbl=some own)(er:ER tbl base env ρ as hY)
  (hD:hY.get? D=.none) (k:∀ a o,hY.get? a=some o->h₃.get? a=some o) (hC:h₃.Ns C fun zz=>.none) (hCa:C∉(hide D as).flatten) (hCb:base.get? C=.none)
  (e1:cenv.scope=relabel cs env) (e2:cenv.locals=C) (e3:cenv.globals=env.globals) (e4:cenv.cells=clo env cs.names []) (e5:cenv.builtins=env.builtins) :
  ER tbl base cenv (ρ.filter fun p=>!own.contains p.1) (hide D as) h₃:=by
 have kind:∀ x,cenv.kindOf x=(cs.names.lookup x).map fun k=>if(k==.free&&env.scope.kind==.function&&env.kindOf x==some .cell)then .cell else k:=fun x=>by
  unfold Env.kindOf;rw [e1];exact a3w cs env x
 have free:∀ x,(cenv.kindOf x=some .cell∨cenv.kindOf x=some .free)->(x,NameKind.free)∈cs.names/\a7y sc x=true:=by
  intro x hx;rw [kind]at hx;induction q:cs.names.lookup x using Option.casesOn with
  | none=>rw [q]at hx;simp at hx
  | some kk=>
   have hm:=a5x q;rw [q]at hx;simp only [Option.map_some,Option.some.injEq]at hx;rcases co.names _ hm with⟨h1,_⟩ | ⟨h1,h2,_,_⟩ | h1
   ·simp only at h1;subst h1;simp at hx
   ·simp only at h1;subst h1;exact⟨hm,h2⟩
   ·simp only at h1;subst h1;simp at hx
 refine⟨by rw [e1];exact co.kind,e3.trans er.glob,e5.trans er.bns,⟨fun zz=>.none,by rw [e2];exact hC,fun i x v h1 h2 h3=>?_⟩,by rw [e2];exact⟨hCa,hCb⟩,fun i x h1 h2=>?_,fun x y a h1 h2=>?_⟩
 ·exfalso
  rw [kind]at h2;induction q:cs.names.lookup x using Option.casesOn with
  | none=>rw [q]at h2;simp at h2
  | some kk=>
   rw [q]at h2;simp only [Option.map_some,Option.some.injEq]at h2;have hk:kk=.local:=by
    split at h2
    ·cases h2
    ·exact h2
   subst hk;obtain⟨j,hj,hjo⟩:=e0v ho (a5x q) rfl;have:=nd i j x h1 (a0n hj);subst this;rw [a7x (f:=fun i=>!own.contains i)]at h3;have:(!own.contains i)=false:=by simpa using hjo
   rw [this]at h3;simp at h3
 ·obtain⟨hm,hh⟩:=free x h2
  obtain⟨cc,u,h3,h4,h5,⟨oc,hoc,hdc⟩,h7⟩:=er.cel i x h1 (a7q (c.held x hh));refine⟨cc,u,by rw [e4];exact b0a hm h3,fun hq=>?_,h5,⟨oc,k _ _ hoc,hdc⟩,fun v hv=>?_⟩
  ·rcases hide_mem.mp hq with rfl | hq
   ·rw [hD]at hoc;exact ns hoc
   ·exact h4 hq
  ·rw [a7x (f:=fun i=>!own.contains i)]at hv
   split at hv
   ·obtain⟨u',h8,h9⟩:=h7 v hv
    exact⟨u',h8,h9.hide hD k⟩
   ·exact ns hv
 ·rw [e4]at h1 h2
  obtain⟨⟨p,hp,hpf,rfl⟩,r1⟩:=a8e h1;obtain⟨⟨q,hq,hqf,rfl⟩,r2⟩:=a8e h2;obtain⟨pn,pk⟩:=p;obtain⟨qn,qk⟩:=q;simp only at hpf hqf;subst hpf hqf;have lk:∀ n,(n,NameKind.free)∈cs.names->∃(i:Nat) (c:Addr),tbl[i]?=some n/\env.cells.lookup n=some c:=by
   intro n hn;rcases co.names _ hn with⟨h1,_⟩ | ⟨_,h2,_,h4⟩ | h1
   ·cases h1
   ·obtain⟨i,hi⟩:=Option.isSome_iff_exists.mp h4
    obtain⟨cc,u,h3,_⟩:=er.cel i n (a0n hi) (a7q (c.held n h2));exact⟨i,cc,a0n hi,h3⟩
   ·cases h1
  obtain⟨_,c1,_,h3⟩:=lk pn hp;obtain⟨_,c2,_,h4⟩:=lk qn hq;simp only [h3,Option.getD_some]at r1;simp only [h4,Option.getD_some]at r2;subst r1;subst r2;exact er.inj pn qn _ h3 h4
theorem c1k{Q:Bool->Shared->Prop}(l:List Expr):∀(s:Shared),Q false s->wpAny (model prog w) A (forIn l false fun c r=>if r=true then do let ok ← isTrue c env (eval c env);pure (ForInStep.yield ok)else pure (ForInStep.yield r)) Q E s:=by
 induction l with
 | nil=>intro s hq;exact wpAny_pure hq
 | cons e r ih=>
  intro s hq;rw [List.forIn_cons];refine wpAny_bind ?_;rw [if_neg (by decide)];exact wpAny_pure (ih s hq)
theorem c1a{n k:Nat}(TT:a6l prog w Lx base Γ n)(rm:Room A n)(c:ScR sc env):∀(ifs:List Expr) (xs:List X) (μ μ':Mu) (b:Bool) (as:List (List Addr)) (s:Shared) (Q:Bool->Shared->Prop),
  a1o (trE Γ.tbl k sc) ifs=some xs->ER Γ.tbl base env ρ as s.heap->GR Lx base μ as s.heap->b4i (fun x μ=>ev Γ n x ρ μ) xs μ=some (b,μ')->PostB Lx base as s b μ' Q →
  wpAny (model prog w) A (forIn ifs true fun c r=>if r=true then do let ok ← isTrue c env (eval c env);pure (ForInStep.yield ok)else pure (ForInStep.yield r)) Q E s:=by
 intro z_;induction z_ with
 | nil=>
  intro xs μ μ' b as s Q t er gr h hQ;obtain rfl:=Option.some.inj t;cases h;exact wpAny_pure (hQ as s.heap s.toks gr gr.go)
 | cons e r ih=>
  intro xs μ μ' b as s Q t er gr h hQ;refine a0c t fun x xr t1 t2 t=>?_;subst t;rw [List.forIn_cons];refine a7b h fun v μ₁ h1 h=>wpAny_bind ?_;rw [if_pos rfl];refine d3a h (fun hb h=>?_) fun hb h=>?_
  ·refine wpAny_bind (TT x k sc e t1 A E env ρ μ as s v true μ₁ _ rm c er gr h1 hb fun as' h' tk g go=>wpAny_pure ?_)
   exact ih xr μ₁ μ' b as' _ Q t2 (er.go go) g h (hQ.after go)
  ·refine sp h fun e1 e2=>?_
   subst e1 e2;refine wpAny_bind (TT x k sc e t1 A E env ρ μ as s v false _ _ rm c er gr h1 hb fun as' h' tk g go=>wpAny_pure ?_);exact c1k r _ (hQ as' h' tk g go)
end
end
section
section
variable{prog:Program}{w:World}{Lx:LxP}{base:Heap}{Γ:G}
variable{A:Around}{env cenv:Env}{cs:Scope}
theorem ER.all{tbl:List Str}{ρ:Rho}{as:List (List Addr)}{h h':Heap}(e:ER tbl base env ρ as h)(g:Go as h as h'):ER tbl base env ρ as h':=e.go g
theorem b7r{f:X->Rho->Mu->Option (V×Mu)}{elt:X}{t:T}{ifs:List X}:∀(l:List V) (ρ:Rho) (μ:Mu),a4e f elt t ifs (fun zz=>True) l ρ μ=a5n f elt t ifs l ρ μ:=by
 intro l;induction l with
 | nil=>exact fun ρ μ=>rfl
 | cons v r ih=>
  intro ρ μ;have e:a4e f elt t ifs (fun zz=>True) r=a5n f elt t ifs r:=funext fun ρ=>funext fun μ=>ih ρ μ;refine(if_pos (c:=True) trivial).trans ?_;rw [e];rfl
theorem b8f{f:X->Rho->Mu->Option (V×Mu)}{elt:X}{t:T}{ifs:List X}{P:Mu->Prop}{d:∀ μ,Decidable (P μ)}{v:V}{r zs:List V}{ρ:Rho}{μ μ':Mu}{G:Prop}(h:a4e f elt t ifs P (v::r) ρ μ=some (zs,μ'))
  (k:∀ ρI b μ₂,P μ->a2b t v ρ=some ρI->b4i (fun x μ=>f x ρI μ) ifs μ=some (b,μ₂)->((b=false/\a4e f elt t ifs P r ρI μ₂=some (zs,μ'))∨(b=true/\∃ y μ₃ zs',f elt ρI μ₂=some (y,μ₃)/\a4e f elt t ifs P r ρI μ₃=some (zs',μ')/\y::zs'=zs))->G):G:=by
 refine ifS h fun hP h=>?_;have h:(match (generalizing:=false) a2b t v ρ with | .none=>.none | some ρ=>_)=some (zs,μ'):=h
 induction q:a2b t v ρ using Option.casesOn with
 | none=>rw [q]at h;exact ns h
 | some ρI=>
  rw [q]at h;dsimp only at h;induction q1:b4i (fun x μ=>f x ρI μ) ifs μ using Option.casesOn with
  | none=>rw [q1]at h;exact ns h
  | some p=>
   obtain⟨b,μ₂⟩:=p;rw [q1]at h;induction b using Bool.casesOn with
   | false=>exact k ρI _ μ₂ hP q q1 (.inl ⟨rfl,h⟩)
   | true=>
    dsimp only at h;induction q2:f elt ρI μ₂ using Option.casesOn with
    | none=>rw [q2]at h;exact ns h
    | some p=>
     obtain⟨y,μ₃⟩:=p;rw [q2]at h;dsimp only at h;induction q3:a4e f elt t ifs P r ρI μ₃ using Option.casesOn with
     | none=>rw [q3]at h;exact ns h
     | some p=>
      obtain⟨zs',μL⟩:=p;rw [q3]at h;exact sp h fun e1 e2=>k ρI _ μ₂ hP q q1 (.inr ⟨rfl,y,μ₃,zs',q2,by rw [q3,e2],e1⟩)
theorem c8g{n k:Nat}{elt tg it:Expr}{ifs:List Expr}{pos:Pos}{x:X}{t:T}{xs:List X}{itv:Value}{own:List Addr}{vs:List V}{St:Nat->List (List Addr)->Heap->Prop}{P:Mu->Prop}{d:∀ μ,Decidable (P μ)}{D C:Addr}{as₀:List (List Addr)}{h₀ hw:Heap}{R:Result->Shared->Prop}
  (H:a6n prog w Lx base Γ n) (TT:a6l prog w Lx base Γ n) (rm:Room A n) (c:ScR cs cenv) (nd:∀(i j:Nat) (x:Str),Γ.tbl[i]?=some x->Γ.tbl[j]?=some x->i=j) (te:trE Γ.tbl k cs elt=some x) (tt:a1q Γ.tbl cs tg=some t) (ti:a1o (trE Γ.tbl k cs) ifs=some xs)
  (wk:Wk prog w Lx A base hw tg itv own vs St P) (hDn:D∉own) (hvl:vs.length<=big) (hD0:h₀.get? D=.none) (hC0:h₀.get? C=.none) (hown0:∀ a∈own,h₀.get? a=.none) (hCo:∀ a,Wf Γ.tbl cenv a->a∉own) (loc:cenv.locals=C)
  (hW:∀ x,a1g cs x=true->InW (fun a=>a=C) cenv x) :
  ∀(rest:List V) (i:Nat) (ρ:Rho) (μ μ':Mu) (zs:List V) (as:List (List Addr)) (s:Shared) (ys:List V) (vals:List Value),vs.drop i=rest->i<=vs.length->ys.length<=i->a4e (ev Γ n) x t xs P rest ρ μ=some (zs,μ') →
   as≠[]->ER Γ.tbl base cenv ρ (hide D as) s.heap->GR Lx base μ (hide D as) s.heap->St i (hide D as) s.heap->s.heap.PlainList D vals.toArray->Reps s.heap (hide D as) ys vals->Go as₀ h₀ as s.heap →
   (∀(as':List (List Addr)) (h':Heap) (tk:Nat) (vals':List Value) (ρ':Rho),as'≠[]->ER Γ.tbl base cenv ρ' (hide D as') h'->GR Lx base μ' (hide D as') h'->h'.PlainList D vals'.toArray->Reps h' (hide D as') (ys++zs) vals'->Go as₀ h₀ as' h'->R (.ok .next) { s with heap:=h',toks:=tk}) →
   codeAny (model prog w) A (.compLoop (.ListComp elt [⟨tg,it,ifs,0⟩] cs pos) 0 itv (.ref D) cenv) R s:=by
 intro rest;induction rest with
 | nil=>
  intro i ρ μ μ' zs as s ys vals hd hi hy h hne er gr st hp hr go K;refine ifS h fun hP h=>sp h ?_;clear h;rintro rfl rfl;have hi':i=vs.length:=by
   have:=List.drop_eq_nil_iff.mp hd;omega
  subst hi';refine codeAny_of_tree ?_;show wpAny (model prog w) A ((compTurn (.ListComp elt [⟨tg,it,ifs,0⟩] cs pos) 0 itv (.ref D) cenv).onRaise (fun x=>do noteFrame x cenv;theTreesLotGoes x)) _ _ s
  refine wpAny_noted ?_;rw [compTurn_list];refine wpAny_bind (wpAny_standAt (wpAny_bind (wk.done _ _ s _ _ hP gr st fun h' tk gr' ks mv=>wpAny_pure ?_)));have er':=er.mvs hCo mv ks;refine K as h' tk vals ρ hne er' gr' ?_ (by simpa using hr.ks ks) ?_
  ·obtain⟨m,e⟩:=hp;exact⟨m,mv D _ hDn e⟩
  ·refine⟨go.ext,fun a o ha e=>mv a o (fun hm=>by rw [hown0 a hm]at e;exact ns e) (go.keep a o ha e),fun a ha=>gr'.alive a (hide_mem.mpr (.inr ha))⟩
 | cons v rest ih=>
  intro i ρ μ μ' zs as s ys vals hd hi hy h hne er gr st hp hr go K;have hlt:i<vs.length:=by
   rcases Nat.lt_or_ge i vs.length with q | q
   ·exact q
   ·rw [List.drop_eq_nil_of_le q]at hd;cases hd
  have hv:vs[i]?=some v:=by
   have:=congrArg List.head? hd;rw [List.head?_drop]at this;simpa using this
  have hd':vs.drop (i+1)=rest:=by
   rw [← List.drop_drop,hd];rfl
  refine b8f h fun ρI b μ₂ hPm hb ht fin=>?_;clear h
  ·skip
   refine codeAny_of_tree ?_;show wpAny (model prog w) A ((compTurn (.ListComp elt [⟨tg,it,ifs,0⟩] cs pos) 0 itv (.ref D) cenv).onRaise (fun x=>do noteFrame x cenv;theTreesLotGoes x)) _ _ s
   refine wpAny_noted ?_;rw [compTurn_list];refine wpAny_bind (wpAny_standAt (wpAny_bind ?_));obtain⟨EO,hEO⟩:∃ EO:Value->Shared->Prop,EO=notedBy (model prog w) A cenv fun e s'=>R (.error e) s':=⟨_,rfl⟩;obtain⟨L,hL⟩:∃ L:Shared->Prop,L=fun sM=>codeAny (model prog w) A (.compLoop (.ListComp elt [⟨tg,it,ifs,0⟩] cs pos) 0 itv (.ref D) cenv) R sM:=⟨_,rfl⟩;obtain⟨P2,hP2⟩:∃ P2:Bool->Shared->Prop,P2=fun ok sK=>if ok=true then wpAny (model prog w) A (eval elt cenv) (fun y sL=>wpAny (model prog w) A (call (.builtin "list.append") [.ref D,y]) (fun zz sM=>L sM) EO sL) EO sK else L sK:=⟨_,rfl⟩
   obtain⟨P1,hP1⟩:∃ P1:Shared->Prop,P1=fun sJ=>wpAny (model prog w) A (forIn ifs true fun c r=>if r=true then do let ok ← isTrue c cenv (eval c cenv);pure (ForInStep.yield ok)else pure (ForInStep.yield r)) P2 EO sJ:=⟨_,rfl⟩
   obtain⟨PP,hP⟩:∃ PP:Value->Shared->Prop,PP=fun u s'=>wpAny (model prog w) A (assign tg cenv u) (fun zz sJ=>P1 sJ) EO s':=⟨_,rfl⟩;rw [← hEO];refine wpAny_mono (wk.item i _ (hide D as) s PP EO v hv hPm gr st fun u h' tk ru st' gr' ks mv=>?_) (fun r s' hr'=>?_) fun zz zz e=>e
   ·rw [hP]
    have er':=er.mvs hCo mv ks;have hDn':h'.PlainList D vals.toArray:=let⟨m,e⟩:=hp;⟨m,mv D _ hDn e⟩;have go':Go as₀ h₀ as h':=⟨go.ext,fun a o ha e=>mv a o (fun hm=>by rw [hown0 a hm]at e;exact ns e) (go.keep a o ha e),fun a ha=>gr'.alive a (hide_mem.mpr (.inr ha))⟩;have hCw:Wf Γ.tbl cenv C:=.inl loc.symm;refine a5e hW (fun a ha=>by rw [ha];exact hCw) nd tt rm.calm hb er' gr' ru fun hJ tkJ gJ erJ gsJ ksJ=>?_;have hCown:C∉own:=hCo C hCw;have wkind:∀ a,a=C->∀ o,h'.get? a=some o->∀ xs n,o.data≠.seq xs n:=fun a ha o ho=>er'.wk a (by rw [ha];exact hCw) o ho;have stJ:=wk.stay _ _ _ _ _ st' (gsJ.sf wkind fun a ha q=>hCown (q▸ha));have hDC:D≠C:=fun q=>(er'.held hCw).1 (by rw [← q];exact hide_mem.mpr (.inl rfl));have htl:∀ {as:List (List Addr)},as≠[]->(hide D as).flatten.Nodup->D∉(hide D as).tail.flatten:=by
     intro as hne nd;induction as using List.casesOn with
     | nil=>exact absurd rfl hne
     | cons a r=>
      have:=(a6b nd).2;intro q;exact this (by rw [List.flatten_cons];exact List.mem_append_right _ q)
    have hpJ:hJ.PlainList D vals.toArray:=by
     obtain⟨m,e⟩:=hDn';exact⟨m,gsJ.keep D _ (htl hne gJ.nd) hDC e⟩
    have goJ:Go as₀ h₀ as hJ:=by
     have:=go'.over (nw:=[]) (W:=fun a=>a=C) (by simpa using gsJ) hne (fun a ha=>by rw [ha];exact hC0);simpa using this
    have hrJ:=(hr.ks ks).ks ksJ;rw [hP1];rcases fin with⟨rfl,h⟩ | ⟨rfl,y,μ₃,zs',he,hz,rfl⟩
    ·skip
     refine c1a TT rm c ifs xs μ μ₂ false _ _ _ ti erJ gJ ht fun asK h₃ tkK gT goK=>?_;rw [hP2];show L _;obtain⟨nw,eK,hnK⟩:=id goK.ext;rw [a9p hne]at eK;subst eK;rw [hL];refine ih (i+1) ρI μ₂ μ' zs (as++nw) _ ys vals hd' hlt (by omega) h (by simp [hne]) (erJ.go goK) gT (wk.stay _ _ _ _ _ stJ goK.sf) ?_ (hrJ.go goK) ?_ ?_
     ·obtain⟨m,e⟩:=hpJ;exact⟨m,goK.keep D _ (htl hne gJ.nd) e⟩
     ·exact goJ.over (W:=fun zz=>False) (by rw [a9p hne];exact goK.toS) hne (fun a ha=>ha.elim)
     ·exact fun as' h' tk vals' ρ' h1 h2 h3 h4 h5 h6=>K as' h' tk vals' ρ' h1 h2 h3 h4 h5 h6
    ·refine c1a TT rm c ifs xs μ μ₂ true _ _ _ ti erJ gJ ht fun asK h₃ tkK gT goK=>?_
     rw [hP2];show wpAny (model prog w) A (eval elt cenv) (fun y sL=>wpAny (model prog w) A (call (.builtin "list.append") [.ref D,y]) (fun zz sM=>L sM) EO sL) EO _
     ··skip
       refine a0t H te rm c (erJ.go goK) gT he fun yv asL hU tkL gU erL goU ry=>?_;have goKL:=goK.trans goU;obtain⟨nw,eU,hnL⟩:=id goKL.ext;rw [a9p hne]at eU;subst eU;have hne':as++nw≠[]:=by simp [hne]
       have hpL:hU.PlainList D vals.toArray:=let⟨m,e⟩:=hpJ;⟨m,goKL.keep D _ (htl hne gJ.nd) e⟩;have hrL:=hrJ.go goKL;have stL:=wk.stay _ _ _ _ _ stJ goKL.sf;have goM:Go as₀ h₀ (as++nw) hU:=goJ.over (W:=fun zz=>False) (by rw [a9p hne];exact goKL.toS) hne (fun a ha=>ha.elim);refine wpAny_list_append_plain hpL (fun h₅ hpM hsM=>?_) (by
        simp only [List.size_toArray,hrL.length];exact a1w (by omega))
       obtain⟨mM,eV⟩:=id hpM;have ksM:Ks (hide D (as++nw)) hU h₅:=fun a o ha e zz=>(hsM.2 a (fun q=>ha (hide_mem.mpr (.inl q)))).trans e;have mvM:Mv [D] hU h₅:=fun a o ha e=>(hsM.2 a (by simpa using ha)).trans e;have grM:=gU.modHid hsM eV;have erM:=erL.mvs (own:=[D]) (fun a ha hm=>by
        rw [List.mem_singleton]at hm;subst hm;exact(erL.held ha).1 (hide_mem.mpr (.inl rfl))) mvM ksM
       rw [hL];refine ih (i+1) ρI μ₃ _ zs' (as++nw) _ (ys++[y]) (vals++[yv]) hd' hlt (by simp;omega) hz hne' erM grM (wk.stay _ _ _ _ _ stL ⟨fun a o e ha=>ha,fun k l e=>e,fun a o ha e zz=>(hsM.2 a (fun q=>ha (hide_mem.mpr (.inl q)))).trans e⟩) ?_ ((hrL.append (.cons ry .nil)).ks ksM) ?_ ?_
       ·have e:(vals++[yv]).toArray=vals.toArray.push yv:=by simp
        rw [e];exact hpM
       ·exact⟨goM.ext,fun a o ha e=>(hsM.2 a (fun q=>by rw [q,hD0]at e;exact ns e)).trans (goM.keep a o ha e),fun a ha=>grM.alive a (hide_mem.mpr (.inr ha))⟩
       ·intro as' h' tk vals' ρ' h1 h2 h3 h4 h5 h6
        exact K as' h' tk vals' ρ' h1 h2 h3 h4 (by simpa using h5) h6
   ·induction r using Option.casesOn with
    | none=>exact hr'.elim
    | some u=>
     subst hP hP1 hP2 hL;refine wpAny_bind (wpAny_mono hr' (fun zz sI hY=>?_) fun zz zz e=>e);refine wpAny_bind (wpAny_mono hY (fun zz sJ hJ=>wpAny_bind (wpAny_mono hJ (fun ok sK h₃=>?_) fun zz zz h'=>h')) fun zz zz h'=>h');induction ok using Bool.casesOn with
     | false=>exact wpAny_pure ⟨rfl,h₃⟩
     | true=>
      exact wpAny_bind (wpAny_bind (wpAny_mono h₃ (fun x sL hU=>wpAny_bind (wpAny_mono hU (fun zz sM h₅=>wpAny_pure (wpAny_pure ⟨rfl,h₅⟩)) fun zz zz h'=>h')) fun zz zz h'=>h'))
end
end
section
section
variable{prog:Program}{w:World}{Lx:LxP}{base:Heap}{Γ:G}
variable{A:Around}{E:Value->Shared->Prop}{env:Env}{ρ:Rho}{as:List (List Addr)}{s:Shared}{sc cs:Scope}
theorem a7v{tbl:List Str}{tg:Expr}{t:T}(h:a1q tbl cs tg=some t):b6k tg=true:=by
 induction tg using PySem.Expr.casesOn<;>first | rfl | exact ns h
theorem b0i{k:Nat}{e:Expr}{x:X}(t:trE.trI Γ.tbl k sc e=some x)(v:Value):foldedSetIterable e env v=pure v:=by
 induction e using PySem.Expr.casesOn with
 | Set elts kk pos=>induction k using Nat.casesOn with
  | zero=>exact ns t
  | succ k=>cases k<;>exact ns t
 | _=>rfl
theorem d9p{sc:Scope}{x:Str}(h:sc.names.lookup x=some .local):a1g sc x=true:=by
 show(match (generalizing:=false) sc.names.lookup x with | some .local=>true | some .cell=>true | _=>false)=true
 rw [h]
inductive e7v(prog:Program)(w:World)(Lx:LxP)(base:Heap)(Γ:G)(A:Around)(E:Value->Shared->Prop)(env:Env)(as:List (List Addr))(s:Shared)(tg it:Expr)(n:Nat)(x:X)(t:T)(xs:List X)(ρ:Rho)(zs:List V)(μ':Mu):Prop
 | mk (vs:List V) (μ₁:Mu) (P:Mu->Prop) (d:∀ μ,Decidable (P μ)) (hI:∀ Q,b2v prog w Lx base as s tg vs μ₁ P Q->wpAny (model prog w) A (eval it env) (fun v sI=>wpAny (model prog w) A (pyIter v) Q E sI) E s)
   (h0:P μ₁) (hl:vs.length<=big) (h2:a4e (ev Γ n) x t xs P vs ρ μ₁=some (zs,μ'))
theorem b6u{f:X->Mu->Option (V×Mu)}{x:X}{μ μ':Mu}{i:Nat}{m:M}{l:List V}(h:b6i f x μ=some (i,m,l,μ')):μ'[i]?=some m:=by
 refine ifE h (fun zz h=>?_) fun zz h=>f1q h fun j μ₁ zz h=>f2h h fun l' hl h=>by cases h;exact hl
 induction x using Mine.X.casesOn with
 | zip a b=>
  refine e5v (e:=f a μ) h fun l1 μ₁ h1 h=>e5v (e:=f b μ₁) h fun l2 μ₂ h2 h=>ifS h fun hl h=>?_;cases h;rw [List.getElem?_append_right (Nat.le_refl _),Nat.sub_self];rfl
 | _=>exact ns h
theorem c0b(S:Snd prog w Lx base Γ){n k:Nat}{tg it:Expr}{x ix:X}{t:T}{xs:List X}{own:List Nat}{μ μ':Mu}{r:V}{G:Prop}(H:a6n prog w Lx base Γ n)(rm:Room A n)(c:ScR sc env)(he:a8y tg it=true)(tt:a1q Γ.tbl cs tg=some t)(tit:trE.trI Γ.tbl k sc it=some ix)
  (er:ER Γ.tbl base env ρ as s.heap) (gr:GR Lx base μ as s.heap) (h:ev Γ (n+1) (.comp x t ix xs own) ρ μ=some (r,μ'))
  (K:∀ zs μ₂,e7v prog w Lx base Γ A E env as s tg it n x t xs (ρ.filter fun p=>!own.contains p.1) zs μ₂->some (.lst zs,μ₂)=some (r,μ')->G):G:=by
 rw [b4z]at h;induction hi:a1s (fun x μ=>ev Γ n x ρ μ) ix μ using Option.casesOn with
 | some p=>
  rw [hi]at h;refine ifS h fun hl h=>c9i h fun ys μ₂ hcl h=>K ys μ₂ ⟨p.1,p.2,fun zz=>True,fun zz=>instDecidableTrue,fun Q hQ=>c8f S H (a7v tt) he tit rm c er gr hi hQ,trivial,hl,?_⟩ h;exact(b7r _ _ _).trans hcl
 | none=>
  rw [hi]at h;exact a0g h fun q hq h=>ifS h fun hl h=>a1n h fun p hp h=>K p.1 p.2 ⟨q.2.2.1,q.2.2.2,_,_,fun Q hQ=>b9l S H (a7v tt) he tit rm c er gr hq hQ,b6u hq,hl,hp⟩ (congrArg some h)
theorem b4x(S:Snd prog w Lx base Γ)(nd:∀(i j:Nat) (x:Str),Γ.tbl[i]?=some x->Γ.tbl[j]?=some x->i=j){n k:Nat}{elt tg it:Expr}{ifs:List Expr}{pos cpos:Pos}{x ix:X}{t:T}{xs:List X}{own:List Nat}{μ μ':Mu}{zs:List V}{use:Option (Value->Sem Unit)}{Q:Value->Shared->Prop}
  (H:a6n prog w Lx base Γ n) (TT:a6l prog w Lx base Γ n) (rm:Room A n) (c:ScR sc env) (co:b1p sc cs Γ.tbl=true) (he:a8y tg it=true) (te:trE Γ.tbl k cs elt=some x) (tt:a1q Γ.tbl cs tg=some t) (tit:trE.trI Γ.tbl k sc it=some ix) (ti:a1o (trE Γ.tbl k cs) ifs=some xs) (ho:c8j cs Γ.tbl=some own)
  (er:ER Γ.tbl base env ρ as s.heap) (gr:GR Lx base μ as s.heap) (RR:e7v prog w Lx base Γ A E env as s tg it n x t xs (ρ.filter fun p=>!own.contains p.1) zs μ')
  (K:∀(D C:Addr) (as':List (List Addr)) (h':Heap) (tk:Nat) (m:Str->Option Value),GR Lx base μ' as' h'->ER Γ.tbl base env ρ as' h'->Go as s.heap as' h'->Rep h' as' (.lst zs) (.ref D)->h'.Ns C m->Foreign as' h' C->s.heap.get? C=.none->base.get? C=.none->¬ Wf Γ.tbl env C →
   compPost (model prog w) A E use Q (.ref D) C (.ok .next) { s with heap:=h',toks:=tk}) :
  wpAny (model prog w) A (comprehension (.ListComp elt [⟨tg,it,ifs,0⟩] cs pos) cs env cpos (newList []) false (eval it env) use) Q E s:=by
 have cok:=c8p co;have free:∀ p∈cs.names,p.2=.free->∃ cc,env.cells.lookup p.1=some cc:=by
  intro p hp hf;rcases cok.names p hp with⟨q,_⟩ | ⟨_,hh,_,hn⟩ | q
  ·rw [hf]at q;cases q
  ·obtain⟨i,hi⟩:=Option.isSome_iff_exists.mp hn
   obtain⟨cc,_,q,_⟩:=er.cel i p.1 (a0n hi) (a7q (c.held _ hh));exact⟨cc,q⟩
  ·rw [hf]at q;cases q
 have nocell:∀ p∈cs.names,p.2≠.cell:=by
  intro p hp hq;rcases cok.names p hp with⟨q,_⟩ | ⟨q,_⟩ | q<;>(rw [hq]at q;cases q)
 refine wpAny_comprehension_free (g:=⟨tg,it,ifs,0⟩) (gs:=[]) rfl (fun v=>b0i tit v) (e3y free) cok.kind (fun p hp hk=>?_) ?_
 ·rcases cok.names p hp with⟨_,q⟩ | ⟨q,_⟩ | q
  ·exact q
  ·rw [hk]at q;cases q
  ·rw [hk]at q;cases q
 ·obtain⟨vs,μ₁,P,dP,hI,hP0,hl,h2⟩:=RR
  refine hI _ fun itv ownA St asI hY tkI wk st gI goI=>?_;have eD:(List.toArray ([]:List Value))=#[]:=rfl;refine wpAny_newList ?_ (by simp);obtain⟨hD,hhD⟩:∃ D,D=hY.objs.size:=⟨_,rfl⟩;obtain⟨hJ,hhJ⟩:∃ hJ,hJ=hY.push { cls:=.type "list",data:=.seq ([]:List Value).toArray}:=⟨_,rfl⟩
  have hDn:hY.get? hD=.none:=by rw [hhD];exact a1c hY
  have kIJ:∀ a o,hY.get? a=some o->hJ.get? a=some o:=fun a o e=>by rw [hhJ];exact Heap.get?_push_of_some _ e
  have hDo:hJ.get? hD=some { cls:=.type "list",data:=.seq ([]:List Value).toArray}:=by rw [hhJ,hhD];exact Heap.get?_push_size _ rfl
  refine wpAny_newFunctionEnv nocell (fun x hx=>by cases hx) (fun h₃ hns hsb=>?_) cok.kind;obtain⟨C,hhC⟩:∃ C,C=hJ.objs.size:=⟨_,rfl⟩;have hns':h₃.Ns C fun zz=>.none:=by
   rw [hhC,hhJ];have:(fun x=>List.lookup x ([]:List (Str×Value)).reverse)=fun zz=>(.none:Option Value):=by funext x;rfl
   rw [this]at hns;exact hns
  have hCn:hJ.get? C=.none:=by rw [hhC];exact a1c hJ
  have hCnI:hY.get? C=.none:=by
   induction q:hY.get? C using Option.casesOn with
   | none=>rfl
   | some o=>rw [kIJ _ _ q]at hCn;cases hCn
  have kJK:∀ a o,hJ.get? a=some o->h₃.get? a=some o:=fun a o e=>by
   have hne:a≠C:=fun q=>by rw [q,hCn]at e;exact ns e
   rw [hhC,hhJ]at hne;rw [hhJ]at e;rw [hsb.2 a hne];exact Heap.get?_push_of_some _ e
  have kIK:∀ a o,hY.get? a=some o->h₃.get? a=some o:=fun a o e=>kJK a o (kIJ a o e);have hDoK:=kJK _ _ hDo;have hDC:hD≠C:=fun q=>by rw [q,hCn]at hDo;exact ns hDo
  have gT:GR Lx base μ₁ (hide hD asI) h₃:=gI.hide hDn (a8p gI hDn) kIK hDoK;have hCb:base.get? C=.none:=a8p gI hCnI;have hCoff:C∉(hide hD asI).flatten:=fun hm=>by
   rcases hide_mem.mp hm with q | q
   ·exact hDC q.symm
   ·obtain⟨o,e⟩:=gI.alive _ q
    rw [hCnI]at e;exact ns e
  have erI:=er.go goI;obtain⟨cenv,hcenv⟩:∃ cenv:Env,cenv={ newEnv cs C env.globals (clo env cs.names []) env.qual .none .none (some env) 0 with scope:=relabel cs env}:=⟨_,rfl⟩;have erc:ER Γ.tbl base cenv (ρ.filter fun p=>!own.contains p.1) (hide hD asI) h₃:=
   d8j nd cok c ho erI hDn kIK hns' hCoff hCb (by rw [hcenv]) (by rw [hcenv];rfl) (by rw [hcenv];rfl) (by rw [hcenv];rfl) (by rw [hcenv];rfl)
  have loc:cenv.locals=C:=by rw [hcenv];rfl
  have hst:St 0 (hide hD asI) h₃:=(wk A rm.calm).stay _ _ _ _ _ st ⟨fun a o e ha hm=>by
    rcases hide_mem.mp hm with q | q
    ·rw [q,hDn]at e;exact ns e
    ·exact ha q,fun k l e=>by rw [a2n];exact e,fun a o zz e zz=>kIK a o e⟩
  have hf0:∀ I,hY.get? I=.none->s.heap.get? I=.none:=fun I hI=>a4r goI hI;have goK:Go as s.heap asI h₃:=⟨goI.ext,fun a o ha e=>kIK a o (goI.keep a o ha e),fun a ha=>let⟨o,e⟩:=goI.alive a ha;⟨o,kIK a o e⟩⟩;have hCo:∀ a,Wf Γ.tbl cenv a->a∉ownA:=fun a hw hm=>by
   rcases hw with rfl | ⟨i,x,h1,h2,h3⟩
   ·obtain⟨o,e⟩:=(wk A rm.calm).alive _ _ _ _ hP0 gI st _ hm
    rw [loc,hCnI]at e;exact ns e
   ·
    rw [hcenv]at h3;obtain⟨⟨q,hq,hqf,rfl⟩,r⟩:=a8e h3;obtain⟨cc,hcc⟩:=free q hq hqf;obtain⟨i',hi'⟩:∃ i':Nat,nid Γ.tbl q.1=some i':=by
     rcases cok.names q hq with⟨z,_⟩ | ⟨_,_,_,z⟩ | z
     ·rw [hqf]at z;cases z
     ·exact Option.isSome_iff_exists.mp z
     ·rw [hqf]at z;cases z
    have hh:a7y sc q.1=true:=by
     rcases cok.names q hq with⟨z,_⟩ | ⟨_,z,_⟩ | z
     ·rw [hqf]at z;cases z
     ·exact z
     ·rw [hqf]at z;cases z
    obtain⟨cc',_,q1,_,_,⟨oc,hoc,_⟩,_⟩:=er.cel i' q.1 (a0n hi') (a7q (c.held _ hh));have e1:a=cc':=by rw [r,q1];rfl
    have:=((wk A rm.calm).fresh a hm).1;rw [e1,hoc]at this;cases this
  have hW:∀ x,a1g cs x=true->InW (fun a=>a=C) cenv x:=by
   intro x hx;have hk:cs.names.lookup x=some .local:=(a6z hx).elim id fun e=>absurd rfl (nocell _ (a5x e));have hk':cenv.kindOf x=some .local:=by
    unfold Env.kindOf;rw [hcenv];show(relabel cs env).names.lookup x=_;rw [a3w,hk];rfl
   exact⟨d9p hk',fun zz=>loc,fun c' q zz=>by rw [hk']at q;cases q⟩
  have hR:∀(as':List (List Addr)) (h':Heap) (tk:Nat) (vals':List Value) (ρ':Rho),as'≠[]->ER Γ.tbl base cenv ρ' (hide hD as') h'->GR Lx base μ' (hide hD as') h'->h'.PlainList hD vals'.toArray->Reps h' (hide hD as') ([]++zs) vals'->Go as s.heap as' h' →
    compPost (model prog w) A E use Q (.ref hD) C (.ok .next) { s with heap:=h',toks:=tk}:=by
   intro as' h' tk vals' ρ' hne er' gr' hp' hr' go';obtain⟨m,hm,_⟩:=er'.loc;rw [loc]at hm;have hCw:Wf Γ.tbl cenv C:=.inl loc.symm;have f:=er'.foreign hCw;refine K hD C as' h' tk m (gr'.show hne) (er.go go') go' ?_ hm ⟨fun q=>f.off (hide_mem.mpr (.inr q)),f.kind⟩ (hf0 _ hCnI) hCb fun hw=>?_
   ·simp only [Rep]
    exact⟨hD,vals',rfl,(a6b gr'.nd).2,hp',by simpa using hr'.show⟩
   ·obtain⟨_,_,o,e,_⟩:=er.held hw
    rw [hf0 _ hCnI]at e;exact ns e
  have loop:=c8g (A:=A) (R:=compPost (model prog w) A E use Q (.ref hD) C) (D:=hD) (it:=it) (pos:=pos) (h₀:=s.heap) (as₀:=as) H TT rm (ScR.comp (by rw [hcenv])) nd te tt ti (wk A rm.calm) (fun hm=>by obtain⟨o,e⟩:=(wk A rm.calm).alive _ _ _ _ hP0 gI st _ hm;rw [hDn]at e;exact ns e) hl (hf0 _ hDn) (hf0 _ hCnI) (fun a ha=>((wk A rm.calm).fresh a ha).1) hCo loc hW vs 0 _ μ₁ μ' zs asI { s with heap:=h₃,toks:=tkI+0} [] [] rfl (Nat.zero_le _) (Nat.le_refl _) h2 gI.ne erc gT hst ⟨0,hDoK⟩ (by simp [Reps]) goK hR;have both:=codeAny_compStart_list loop ((wk A rm.calm).self 0 (hide hD asI) { s with heap:=h₃,toks:=tkI+0} _ _ hst loop);rw [hcenv,hhC,hhJ,hhD]at both;exact both
end
end
section
section
variable{prog:Program}{w:World}{Lx:LxP}{base:Heap}{Γ:G}
variable{A:Around}{E:Value->Shared->Prop}{env:Env}{ρ:Rho}{as:List (List Addr)}{s:Shared}{sc cs:Scope}
theorem d0b(S:Snd prog w Lx base Γ)(nd:∀(i j:Nat) (x:Str),Γ.tbl[i]?=some x->Γ.tbl[j]?=some x->i=j){n k:Nat}{elt tg it:Expr}{ifs:List Expr}{pos:Pos}{x ix:X}{t:T}{xs:List X}{own:List Nat}{μ μ':Mu}{zs:List V}{Q:Value->Shared->Prop}
  (H:a6n prog w Lx base Γ n) (TT:a6l prog w Lx base Γ n) (rm:Room A n) (c:ScR sc env) (co:b1p sc cs Γ.tbl=true) (he:a8y tg it=true) (te:trE Γ.tbl k cs elt=some x) (tt:a1q Γ.tbl cs tg=some t) (tit:trE.trI Γ.tbl k sc it=some ix) (ti:a1o (trE Γ.tbl k cs) ifs=some xs) (ho:c8j cs Γ.tbl=some own)
  (er:ER Γ.tbl base env ρ as s.heap) (gr:GR Lx base μ as s.heap) (RR:e7v prog w Lx base Γ A E env as s tg it n x t xs (ρ.filter fun p=>!own.contains p.1) zs μ')
  (hQ:Post Lx base as s (.lst zs) μ' Q):wpAny (model prog w) A (eval (.ListComp elt [⟨tg,it,ifs,0⟩] cs pos) env) Q E s:=by
 show wpAny (model prog w) A (comprehension (.ListComp elt [⟨tg,it,ifs,0⟩] cs pos) cs env (firstIterPos [⟨tg,it,ifs,0⟩] pos) (newList []) false (eval it env)) Q E s;refine b4x S nd H TT rm c co he te tt tit ti ho er gr RR fun D C as' h' tk m g er' go r hm f hC hb hw=>?_;refine⟨m,hm,fun h'' hs=>?_⟩;have y:∀ a o,a≠C->h'.get? a=some o->h''.get? a=some o:=fun a o ha e=>(hs.2 a ha).trans e;exact hQ (.ref D) as' h'' tk (g.mod f hb y) (go.mod hC f.off y) (r.ks (f.ks y))
theorem e4m{n k:Nat}{a:Expr}{lo hi st:Option Expr}{p pos:Pos}{x:X}{xl xh xs:Option X}{u r:V}{vl vh vst:Option V}{pl ph ps:Option Int}{μ μ₁ μ₂ μ₃ μL:Mu}{Q:Value->Shared->Prop}(H:a6n prog w Lx base Γ n)(rm:Room A n)(c:ScR sc env)
  (ta:trE Γ.tbl k sc a=some x) (tl:d8k (trE Γ.tbl k sc) lo=some xl) (th:d8k (trE Γ.tbl k sc) hi=some xh) (ts:d8k (trE Γ.tbl k sc) st=some xs)
  (er:ER Γ.tbl base env ρ as s.heap) (gr:GR Lx base μ as s.heap) (h1:ev Γ n x ρ μ=some (u,μ₁)) (h2:evo (fun x μ=>ev Γ n x ρ μ) xl μ₁=some (vl,μ₂)) (h3:evo (fun x μ=>ev Γ n x ρ μ) xh μ₂=some (vh,μ₃)) (h4:evo (fun x μ=>ev Γ n x ρ μ) xs μ₃=some (vst,μL))
  (p1:c3b vl=some pl) (p2:c3b vh=some ph) (p3:c3b vst=some ps) (hr:a1f (look μL u) pl ph ps=some r) (hQ:Post Lx base as s r μL Q):wpAny (model prog w) A (eval (.Subscript a (.Slice lo hi st p) pos) env) Q E s:=by
 refine Subscript_ (a0t H ta rm c er gr h1 fun av asI hY tkI gI erI goI ra=>wpAny_Slice ?_);refine c4c H rm c tl erI gI h2 fun lv asJ hJ tkJ gJ erJ goJ pl'=>?_;refine c4c H rm c th erJ gJ h3 fun hv asK h₃ tkK gT erK goK ph'=>?_;refine c4c H rm c ts erK gT h4 fun sv asL hU tkL gU erL goU ps'=>?_;have raL:=((ra.go goJ).go goK).go goU;have gM:=gU.push { cls:=.type "slice",data:=.fields #[lv,hv,sv]}
 have goM:=gU.go.push { cls:=.type "slice",data:=.fields #[lv,hv,sv]}
 have goA:=(((goI.trans goJ).trans goK).trans goU).trans goM;have hsl:(hU.push { cls:=.type "slice",data:=.fields #[lv,hv,sv]}).IsSliceOf hU.objs.size lv hv sv:=⟨_,Heap.get?_push_size _ rfl,rfl,rfl⟩
 have rl:=a1b gM (raL.go goM);have core:=c9k (prog:=prog) (w:=w) (A:=A) (E:=E) (s:={ s with heap:=hU.push { cls:=.type "slice",data:=.fields #[lv,hv,sv]},toks:=tkL}) hr rl hsl (pl' _ p1) (ph' _ p2) (ps' _ p3) gM (hQ.after goA)
 have hsub:∀ o i:Value,∃ ops,subscripted (.Slice lo hi st p) false o i=operate ops (getItem o i):=by
  intro o i;induction st using Option.casesOn with
  | none=>exact⟨_,rfl⟩
  | some e=>exact⟨_,rfl⟩
 obtain⟨ops,hops⟩:=hsub av (.ref hU.objs.size);induction hk:look μL u using Mine.V.casesOn with
 | lst l=>
  rw [hk]at rl;obtain⟨aa,vs,rfl,hp,_⟩:=rl;exact tail_any hp.isList.typeIs slot_list_getitem.lookup core hops
 | tup l=>
  rw [hk]at rl;obtain⟨aa,vs,rfl,_,hp,_⟩:=rl;exact tail_any (T:="tuple") hp.typeIs slot_tuple_getitem.lookup core hops
 | str l=>
  rw [hk]at rl;obtain⟨_,rfl⟩:=rl;exact tail_any (typeIs_str _ _ _) slot_str_getitem.lookup core hops
 | _=>rw [hk]at hr;exact ifN hr fun zz h=>ns h
theorem b9i{k:Nat}{e:Expr}{x:X}(t:trE Γ.tbl k sc e=some x):∀ lo hi st p,e≠.Slice lo hi st p:=by
 intro lo hi st p q;subst q;cases k<;>exact ns t
theorem f4m{α:Type}{r:α}{G:Prop}{e:Option (V×Mu)}{f:Int->Mu->Option α}(h:(match e with | some (.int i,μ)=>f i μ | _=>.none)=some r)(k:∀ i μ,e=some (.int i,μ)->f i μ=some r->G):G:=by
 induction e using Option.casesOn with
 | none=>exact ns h
 | some p=>cases p with | mk v μ=>induction v using Mine.V.casesOn<;>first | exact k _ _ rfl h | exact ns h
theorem f3p{γ:Type}{r:γ}{P:Prop}{a b c:Option (Option Int)}{f:Option Int->Option Int->Option Int->Option γ}(h:(match a,b,c with | some l,some h,some s=>f l h s | _,_,_=>.none)=some r)(k:∀ l h s,a=some l->b=some h->c=some s->f l h s=some r->P):P:=by
 induction a using Option.casesOn with
 | none=>exact ns h
 | some a=>induction b using Option.casesOn with
  | none=>exact ns h
  | some b=>induction c using Option.casesOn with
   | none=>exact ns h
   | some c=>exact k _ _ _ rfl rfl rfl h
theorem f2x(tbl:List Str)(k:Nat)(sc:Scope)(a i:Expr)(pos:Pos):(∃ lo hi st p,i=.Slice lo hi st p)∨trE tbl (k+1) sc (.Subscript a i pos)=(e7f sc a).elim ((trE tbl k sc a).bind fun a=>(trE tbl k sc i).map fun i=>.sub a i) fun g=>(nid tbl g).bind fun j=>(trE tbl k sc i).map fun i=>.subG j i:=by
 generalize hq:((e7f sc a).elim ((trE tbl k sc a).bind fun a=>(trE tbl k sc i).map fun i=>X.sub a i) fun g=>(nid tbl g).bind fun j=>(trE tbl k sc i).map fun i=>.subG j i)=q;induction i using PySem.Expr.casesOn with
 | Slice lo hi st p=>exact .inl ⟨lo,hi,st,p,rfl⟩
 | _=>exact .inr hq
theorem d6s(S:Snd prog w Lx base Γ)(nd:∀(i j:Nat) (x:Str),Γ.tbl[i]?=some x->Γ.tbl[j]?=some x->i=j)(n:Nat)(H:a6n prog w Lx base Γ n)(TT:a6l prog w Lx base Γ n):a6n prog w Lx base Γ (n+1):=by
 intro x k sc e t A E env ρ μ as s r μ' Q rm c er gr h hQ;have rm':=rm.less (Nat.le_succ n);induction k using Nat.casesOn with
 | zero=>exact ns t
 | succ k=>
  induction e using PySem.Expr.casesOn with
  | Constant v _ _=>exact a1n t fun v t e1=>e5m t gr (spQ (evx e1 h) hQ)
  | Name x p=>
   exact ifN t fun hd t=>ifE t
    (fun hv t=>a1n t fun i t e1=>e1f (evx e1 h) hQ fun v hl hQ=>e5x (Bool.eq_false_iff.mpr hd) hv t c er gr hl hQ)
    fun zz t=>ifS t fun hv t=>a1n t fun i t e1=>e1f (evx e1 h) hQ fun v hl hQ=>by
     obtain⟨x',u,h1,h2,h3⟩:=S.glob i v hl;cases (a0n t).symm.trans h1;exact a3z (f3g hd) hv c er gr h2 (hQ.now gr (h3 _ _))
  | BinOp l op r0 p=>
   exact a0g t fun a t1 t=>a1n t fun b t2 e=>a7b (evx e h) fun u μ₁ h1 h=>a7b h fun v μ₂ h2 h=>e1f h hQ fun r hb hQ=>
    wpAny_BinOp (b3w H t1 t2 rm' c er gr h1 h2 fun a b asI hY tk gI erI goI ra rb=>d2a hb (a1b gI ra) (a1b gI rb) rm.calm gI (hQ.after goI))
  | UnaryOp op y p=>cases op with
   | USub=>
    exact a1n t fun y t e1=>f4m (evx e1 h) fun i μ₁ h1 h=>UnaryOp_ (a0t H t rm' c er gr h1 fun a asI hY tk gI erI goI ra=>by
     obtain⟨tt,rfl⟩:=ra;exact PyProof.Rows.neg_int (((spQ h hQ).after goI).now gI ⟨_,rfl⟩))
   | Not=>exact ns t
   | _=>exact ns t
  | Compare l ops rs p=>induction ops using List.casesOn with
   | nil=>exact ns t
   | cons o1 ops=>induction ops using List.casesOn with
    | nil=>induction rs using List.casesOn with
     | nil=>exact ns t
     | cons r1 rs=>induction rs using List.casesOn with
      | nil=>
       obtain⟨hm,_,core⟩:=b0b S H t rm c er gr h hQ;exact wpAny_Compare1 core hm
      | cons _ _=>exact ns t
    | cons o2 ops=>induction ops using List.casesOn with
     | nil=>induction rs using List.casesOn with
      | nil=>exact ns t
      | cons r1 rs=>induction rs using List.casesOn with
       | nil=>exact ns t
       | cons r2 rs=>induction rs using List.casesOn with
        | nil=>exact d2q H t rm c er gr h hQ
        | cons _ _=>exact ns t
     | cons _ _=>induction rs using List.casesOn with
      | nil=>exact ns t
      | cons _ rs=>cases rs<;>exact ns t
  | BoolOp op l p=>cases op with
   | And=>exact a1n t fun y t e1=>d9q H rm' c _ _ _ _ _ _ _ _ _ t er gr (evx e1 h) hQ
   | Or=>exact a1n t fun y t e1=>e3m H rm' c _ _ _ _ _ _ _ _ _ t er gr (evx e1 h) hQ
  | IfExp c0 a b p=>
   exact a0g t fun y0 t9 t=>a0g t fun y1 t1 t=>a1n t fun y2 t2 e=>a7b (evx e h) fun v μ₁ h1 h=>d3a h
    (fun hb1 h=>wpAny_IfExp (TT y0 k sc _ t9 A E env ρ μ as s v true μ₁ _ rm' c er gr h1 hb1 fun as' h' tk g go=>H y1 k sc _ t1 A E env ρ μ₁ as' _ r μ' Q rm' c (er.go go) g h (hQ.after go)))
    fun hb1 h=>wpAny_IfExp (TT y0 k sc _ t9 A E env ρ μ as s v false μ₁ _ rm' c er gr h1 hb1 fun as' h' tk g go=>H y2 k sc _ t2 A E env ρ μ₁ as' _ r μ' Q rm' c (er.go go) g h (hQ.after go))
  | Tuple l _ p=>
   exact ifS t fun hp t=>a1n t fun y t e1=>c9i (evx e1 h) fun vs μ₁ h1 h=>ifS h fun hlen h=>
    wpAny_Tuple_spliced (b8t H rm' c _ _ _ _ _ _ _ _ _ hp t er gr h1 fun vals as' h' tk g go rv=>⟨by rw [rv.length];exact a1w hlen,((spQ h hQ).after go).new g (a5g (s:={ s with heap:=h',toks:=tk}) g rv)⟩)
  | List l p=>
   exact ifS t fun hp t=>a1n t fun y t e1=>c9i (evx e1 h) fun vs μ₁ h1 h=>ifS h fun hlen h=>
    wpAny_List_spliced (b8t H rm' c _ _ _ _ _ _ _ _ _ hp t er gr h1 fun vals as' h' tk g go rv=>⟨by rw [rv.length];exact a1w hlen,((spQ h hQ).after go).new g (a4i (s:={ s with heap:=h',toks:=tk}) g rv)⟩)
  | Subscript a i p=>
   rcases f2x Γ.tbl k sc a i p with⟨lo,hi,st,p',rfl⟩ | q
   ·exact a0g t fun y t1 t=>a0g t fun yl t2 t=>a0g t fun yh t3 t=>a1n t fun ys t4 e=>a7b (evx e h) fun u μ₁ h1 h=>e9m h fun vl μ₂ h2 h=>e9m h fun vh μ₃ h3 h=>e9m h fun vst μL h4 h=>f3p h fun pl ph ps p1 p2 p3 h=>e1f h hQ fun r hr hQ=>
     e4m H rm' c t1 t2 t3 t4 er gr h1 h2 h3 h4 p1 p2 p3 hr hQ
   ·exact c4e (q.symm.trans t)
     (fun g hg t=>a0g t fun j hj t=>a1n t fun y t1 e=>f3u (evx e h) fun x μ₁ l' h1 hd h=>e1f h hQ fun kk hl hQ=>by
      obtain⟨p,rfl,hglb,hdbg⟩:=c4m hg;obtain⟨g',ad,hx,gn,tab⟩:=S.dic j l' hd;cases (a0n hj).symm.trans hx;refine Subscript_ (a3z hdbg hglb c er gr gn (a0t H t1 rm' c er gr h1 fun a asI hY tk gI erI goI ra=>?_));obtain⟨tt,rfl⟩:=ra;refine item_strTab (D:=d7f l') (dv:=.int kk) (tab.keep gI.keep) (by rw [c1n,hl];rfl) (fun v hv=>?_) (a9x (b9i t1) _ _) (fun zz=>rfl);obtain⟨tt',rfl⟩:=hv.int_inv;exact(hQ.after goI).now gI ⟨_,rfl⟩)
     fun zz t=>a0g t fun y t1 t=>a1n t fun z t2 e=>a7b (evx e h) fun u μ₁ h1 h=>a7b h fun v μ₂ h2 h=>e1f h hQ fun r hr hQ=>
      Subscript_ (b3w H t1 t2 rm' c er gr h1 h2 fun a b asI hY tk gI erI goI ra rb=>e4y hr (a1b gI ra) rb gI (a9x (b9i t2) _ _) (hQ.after goI))
  | Call f args kws p=>induction f using PySem.Expr.casesOn with
   | Name f p'=>induction kws using List.casesOn with
    | nil=>
     exact ifS t fun hq t=>a0g t fun i hi t=>a1n t fun l t e1=>c9i (evx e1 h) fun vs μ₁ h1 h=>by
      obtain⟨x',f,hx,gn,hf,hc⟩:=S.call n i vs μ₁ r μ' h;cases (a0n hi).symm.trans hx;exact wpAny_Call_ofName (a3z (c3k (a0f (a0d hq))) (a0d (a0d (a0d (a0d hq)))) c er gr gn (b0v (us:=[]) (first:=[]) H rm' c (a0f (a0d (a0d (a0d hq)))) t er gr h1 hf .nil hc hQ))
    | cons _ _=>exact ns t
   | Attribute o m p'=>induction kws using List.casesOn with
    | nil=>
     exact ifS t fun hq t=>a0g t fun i hi t=>a0g t fun o to t=>a1n t fun l tl e1=>a7b (evx e1 h) fun u μ₁ h1 h=>ifS h fun hf h=>c9i h fun vs μ₂ h2 h=>
      d9l S H rm' c hi to tl (a0d (a0d hq)) (of_decide_eq_true (a0f (a0d hq))) (a0f hq) er gr h1 hf h2 h hQ
    | cons _ _=>exact ns t
   | _=>exact ns t
  | Attribute o m p=>exact a0g t fun i hi t=>a1n t fun o to e=>a7b (evx e h) fun u μ₁ h1 h=>e1f h hQ fun r hr hQ=>e0k S H rm' c hi to er gr h1 hr hQ
  | ListComp elt gens cs p=>induction gens using List.casesOn with
   | nil=>exact ns t
   | cons g gs=>induction gs using List.casesOn with
    | cons _ _=>cases g with | mk _ _ _ i=>induction i using Int.casesOn with
     | negSucc _=>exact ns t
     | ofNat i=>cases i<;>exact ns t
    | nil=>cases g with | mk tg it ifs i=>cases i with
     | negSucc _=>exact ns t
     | ofNat i=>induction i using Nat.casesOn with
     | succ _=>exact ns t
     | zero=>
      exact ifS t fun hq t=>a0g t fun e1 h1 t=>a0g t fun t1 h2 t=>a0g t fun it1 h3 t=>a0g t fun ifs1 h4 t=>a1n t fun own1 h5 e=>c0b S H rm' c (a0f hq) h2 h3 er gr (evx e h) fun ys μ₂ RR h=>
       d0b S nd H TT rm' c (a0d hq) (a0f hq) h1 h2 h3 h4 h5 er gr RR (spQ h hQ)
  | _=>exact ns t
end
end
section
section
variable{prog:Program}{w:World}{Lx:LxP}{base:Heap}{Γ:G}
variable{A:Around}{E:Value->Shared->Prop}{env:Env}{ρ:Rho}{as:List (List Addr)}{s:Shared}{sc cs:Scope}
theorem a3m(S:Snd prog w Lx base Γ)(nd:∀(i j:Nat) (x:Str),Γ.tbl[i]?=some x->Γ.tbl[j]?=some x->i=j):∀ n,a6n prog w Lx base Γ n/\a6l prog w Lx base Γ n:=by
 intro z_;induction z_ with
 | zero=>
  exact⟨fun x k sc e t A E env ρ μ as s r μ' Q rm c er gr h=>ns h,fun x k sc e t A E env ρ μ as s r b μ' Q rm c er gr h=>ns h⟩
 | succ n ih=>
  obtain⟨H,TT⟩:=ih;have H1:=d6s S nd n H TT;exact⟨H1,c8u S n H H1 TT⟩
theorem GR.newList{μ:Mu}{h:Heap}{vs:List V}{vals:List Value}(g:GR Lx base μ as h)(r:Reps h as vs vals) :
  GR Lx base (μ++[.list vs]) (as++[[h.objs.size]]) (h.push { cls:=.type "list",data:=.seq vals.toArray})/\Go as h (as++[[h.objs.size]]) (h.push { cls:=.type "list",data:=.seq vals.toArray}):=by
 have off:=g.top_off;have hnew:(h.push { cls:=.type "list",data:=.seq vals.toArray}).get? h.objs.size=some { cls:=.type "list",data:=.seq vals.toArray}:=Heap.get?_push_size _ rfl
 have fl:∀ a,a∈(as++[[h.objs.size]]).flatten↔a∈as.flatten∨a=h.objs.size:=fun a=>by simp [List.flatten_append]
 have go:Go as h (as++[[h.objs.size]]) (h.push { cls:=.type "list",data:=.seq vals.toArray}):=by
  refine⟨⟨[[h.objs.size]],rfl,fun a ha=>?_⟩,fun a o zz e=>Heap.get?_push_of_some _ e,fun a ha=>?_⟩
  ·simp only [List.flatten_cons,List.flatten_nil,List.append_nil,List.mem_singleton]at ha
   subst ha;exact a1c h
  ·rcases(fl a).mp ha with ha | rfl
   ·obtain⟨o,e⟩:=g.alive a ha;exact⟨o,Heap.get?_push_of_some _ e⟩
   ·exact⟨_,hnew⟩
 refine⟨⟨fun a o e=>Heap.get?_push_of_some _ (g.keep a o e),fun a ha=>?_,?_,go.alive,by simp [g.len],fun k m ads hk ha=>?_⟩,go⟩
 ·rcases(fl a).mp ha with ha | rfl
  ·exact g.fresh a ha
  ·exact g.top_base
 ·rw [List.flatten_append]
  refine List.nodup_append.mpr ⟨g.nd,by simp,fun a ha b hb q=>?_⟩;simp only [List.flatten_cons,List.flatten_nil,List.append_nil,List.mem_singleton]at hb;subst hb;subst q;exact off ha
 ·by_cases hlt:k<μ.length
  ·rw [List.getElem?_append_left hlt]at hk
   rw [List.getElem?_append_left (by rw [g.len];omega)]at ha;have hm:=g.mus k m ads hk ha;induction m using Mine.M.casesOn with
   | list l=>
    obtain⟨a,vs',rfl,⟨n,hp⟩,hr⟩:=hm;exact⟨a,vs',rfl,⟨n,Heap.get?_push_of_some _ hp⟩,hr.go go⟩
   | obj is n=>exact let⟨rs,e1,e2⟩:=hm;⟨rs,b0n (fun j l e=>by rw [List.getElem?_append_left (List.getElem?_eq_some_iff.mp e).1];exact e) e1,Lx.keep e2 fun a zz o e=>Heap.get?_push_of_some _ e⟩
  ·have hk':k=μ.length:=by
    have:=(List.getElem?_eq_some_iff.mp hk).1;simp at this;omega
   subst hk';rw [List.getElem?_append_right (Nat.le_refl _)]at hk;rw [List.getElem?_append_right (by rw [g.len];omega)]at ha;have hz:μ.length+1-as.length=0:=by rw [g.len];omega
   rw [hz]at ha;simp only [Nat.sub_self,List.getElem?_cons_zero,Option.some.injEq]at hk ha;subst hk;subst ha;exact⟨_,vals,rfl,⟨0,hnew⟩,r.go go⟩
noncomputable def trV(tbl:List Str)(k:Nat)(sc:Scope)(m:Bool)(e:Expr):Option X:=
 if m then(match e with
  | .List l _=>if l.all a1x then(a1o (trE tbl k sc) l).map .mlst else .none
  | _=>.none)
 else trE tbl k sc e
theorem d6e(S:Snd prog w Lx base Γ)(nd:∀(i j:Nat) (x:Str),Γ.tbl[i]?=some x->Γ.tbl[j]?=some x->i=j){n k:Nat}{m:Bool}{e:Expr}{x:X}{r:V}{μ μ':Mu}{Q:Value->Shared->Prop}(t:trV Γ.tbl k sc m e=some x)(rm:Room A n)(c:ScR sc env)
  (er:ER Γ.tbl base env ρ as s.heap) (gr:GR Lx base μ as s.heap) (h:ev Γ n x ρ μ=some (r,μ')) (hQ:Post Lx base as s r μ' Q):wpAny (model prog w) A (eval e env) Q E s:=by
 refine ifE t (fun zz t=>?_) fun zz t=>(a3m S nd n).1 x k sc e t A E env ρ μ as s r μ' Q rm c er gr h hQ;induction e using PySem.Expr.casesOn with
 | List l pos=>
  refine ifS t fun hp t=>a1n t fun xs t1 e1=>?_;induction n using Nat.casesOn with
  | zero=>exact ns h
  | succ n=>
   refine c9i (evx e1 h) fun vs μ₁ h1 h=>ifS h fun hlen h=>?_;refine wpAny_List_spliced (b8t (a3m S nd n).1 (rm.less (Nat.le_succ n)) c _ _ _ _ _ _ _ _ _ hp t1 er gr h1 fun vals as' h' tk g go rv=>⟨by rw [rv.length];exact a1w hlen,?_⟩);obtain⟨g',go'⟩:=g.newList rv;refine spQ h hQ _ _ _ tk g' (go.trans go') ⟨h'.objs.size,[],?_,rfl⟩;rw [List.getElem?_append_right (Nat.le_of_eq g.len),g.len];simp
 | _=>exact ns t
noncomputable def isList:Expr->Bool
 | .List ..=>true
 | _=>false
noncomputable def b0q:Expr->Bool
 | .ListComp ..=>true
 | _=>false
noncomputable def e6l:Expr->Option Str
 | .Name x _=>some x
 | _=>.none
noncomputable def f1z{α β γ:Type}(f:α->β->Option γ):List α->List β->Option (List γ)
 | [],[]=>some []
 | a::r,b::q=>(f a b).bind fun c=>(f1z f r q).map fun d=>c::d
 | _,_=>.none
noncomputable def d8s(tbl:List Str)(k:Nat)(sc:Scope)(mt:List Str)(ts vs:List Expr):Option (List X):=
 f1z (fun t v=>(e6l t).bind fun x=>trV tbl k sc (mt.contains x&&isList v) v) ts vs
noncomputable def b9t:List Nat->Bool
 | []=>true
 | a::r=>!r.contains a&&b9t r
noncomputable def c0s:Expr->Option (Str×Str)
 | .Attribute (.Name x _) a _=>some (x,a)
 | _=>.none
theorem b3z{e:Expr}{q:Str×Str}(h:c0s e=some q):∃ p p',e=.Attribute (.Name q.1 p) q.2 p':=by
 induction e using PySem.Expr.casesOn with
 | Attribute o a p'=>induction o using PySem.Expr.casesOn with
  | Name x p=>obtain rfl:=Option.some.inj h;exact⟨p,p',rfl⟩
  | _=>exact ns h
 | _=>exact ns h
noncomputable def e2l:Expr->Option Str
 | .Constant (.str e) _ _=>some e
 | _=>.none
theorem c3h{e:Expr}{q:Str}(h:e2l e=some q):∃ k p,e=.Constant (.str q) k p:=by
 induction e using PySem.Expr.casesOn with
 | Constant c k p=>induction c using PySem.Const.casesOn with
  | str x=>obtain rfl:=Option.some.inj h;exact⟨k,p,rfl⟩
  | _=>exact ns h
 | _=>exact ns h
noncomputable def d0m(sc:Scope)(v:Expr):Option Str:=(b4e v).bind fun q=>match q.2 with
 | [a1,a2]=>(c0s a1).bind fun xa=>(e2l a2).bind fun e=>if q.1==("iter":Str)&&xa.2==("_read_char":Str)&&e==("":Str)&&a5j sc q.1&&a4z sc xa.1&&!(xa.1==("__debug__":Str))&&!(xa.1==("__classdict__":Str))then some xa.1 else .none
 | _=>.none
theorem c7h {sc:Scope} {v:Expr} {y:Str} {P:Prop} (h:d0m sc v=some y) (k:∀ p1 p2 p3 p4 p5 kd,v=.Call (.Name "iter" p1) [.Attribute (.Name y p2) "_read_char" p3,.Constant (.str "") kd p4] [] p5->a5j sc "iter" = true->a4z sc y=true->(y==("__debug__":Str))=false->(y==("__classdict__":Str))=false->P):P:=by
 refine a0g h fun q hq h'=>?_;clear h;obtain⟨f,args⟩:=q;obtain⟨p1,p5,rfl⟩:=a7p hq;induction args using List.casesOn with
 | nil=>exact ns h'
 | cons a1 args=>induction args using List.casesOn with
  | nil=>exact ns h'
  | cons a2 args=>induction args using List.casesOn with
   | cons _ _=>exact ns h'
   | nil=>
    refine a0g h' fun xa hx h=>a0g h fun e he h=>ifS h fun hc h9=>?_;obtain⟨p2,p3,rfl⟩:=b3z hx;obtain⟨kd,p4,rfl⟩:=c3h he;obtain rfl:=Option.some.inj h9;have h1:=a0d (a0d (a0d (a0d hc)));refine k p1 p2 p3 p4 p5 kd ?_ ?_ (a0f (a0d (a0d hc))) (c3k (a0f (a0d hc))) (c3k (a0f hc))
    ·rw [eq_of_beq (a0d (a0d h1)),eq_of_beq (a0f (a0d h1)),eq_of_beq (a0f h1)]
    ·rw [← eq_of_beq (a0d (a0d h1))];exact a0f (a0d (a0d (a0d hc)))
noncomputable def f1t(sc:Scope):Expr->Option Str
 | .Name x _=>if x==("fiter":Str)&&a4z sc x then some x else .none
 | _=>.none
noncomputable def d8v(sc:Scope)(v:Expr):Option Expr:=(b4e v).bind fun q=>match q.2 with
 | [e]=>if q.1==("_netrclex":Str)&&a5j sc q.1&&a1x e then some e else .none
 | _=>.none
theorem c5a {sc:Scope} {v e:Expr} {P:Prop} (h:d8v sc v=some e) (k:∀ p1 p2,v=.Call (.Name "_netrclex" p1) [e] [] p2->a5j sc "_netrclex" = true->a1x e=true->P):P:=by
 refine a0g h fun q hq h'=>?_;clear h;obtain⟨f,args⟩:=q;obtain⟨p1,p5,rfl⟩:=a7p hq;induction args using List.casesOn with
 | nil=>exact ns h'
 | cons a1 args=>induction args using List.casesOn with
  | cons _ _=>exact ns h'
  | nil=>
   refine ifS h' fun hc h9=>?_;obtain rfl:=Option.some.inj h9;have h1:=eq_of_beq (a0d (a0d hc));exact k p1 p5 (by rw [← h1]) (by rw [← h1];exact a0f (a0d hc)) (a0f hc)
noncomputable def trS(tbl:List Str)(mt:List Str):Nat->Scope->Stmt->Option S
 | 0,_,_=>.none
 | k+1,sc,st=>match st with
  | .Assign [.Name x _] v _=>if a1g sc x then(nid tbl x).bind fun i=>(d0m sc v).elim ((d8v sc v).elim ((trV tbl k sc (mt.contains x&&isList v) v).map (.assign i)) fun e=>(trE tbl k sc e).map (.lexer i)) fun y=>(nid tbl y).map (.fit i)else .none
  | .Assign [.Tuple ts _ _] (.Tuple vs _ _) _=>if vs.all a1x&&!(vs.all (constantsAlone 8))then(a1o (a9g tbl sc) ts).bind fun is=>(d8s tbl k sc mt ts vs).bind fun l=>if b9t is then some (.unpack is (.tup l))else .none
   else .none
  | .Assign [.Tuple ts _ _] v _=>(a1o (a9g tbl sc) ts).bind fun is=>(trE tbl k sc v).map fun e=>.unpack is e
  | .If c a b _=>(trE tbl k sc c).bind fun c=>(trSs tbl mt k sc a).bind fun a=>(trSs tbl mt k sc b).map fun b=>.ite c a b
  | .AugAssign (.Name x _) .Add e _=>if a1g sc x then(nid tbl x).bind fun i=>(trE tbl k sc e).map fun e=>.aug i .Add e else .none
  | .AugAssign (.Attribute (.Name x _) a _) .Add (.Constant (.int 1) _ _) _=>if a4z sc x&&a==("lineno":Str)&&!(x==("__debug__":Str))&&!(x==("__classdict__":Str))then(nid tbl x).map .line else .none
  | .For t it body [] _=>(f1t sc it).elim (if a8y t it then(a1q tbl sc t).bind fun t=>(trE.trI tbl k sc it).bind fun it=>(trSs tbl mt k sc body).map fun body=>.for t it body else .none)
    fun x=>(a1q tbl sc t).bind fun t=>(nid tbl x).bind fun i=>(trSs tbl mt k sc body).map fun b=>.chars t i b
  | .Return (some e) _=>(trE tbl k sc e).map .ret
  | .Expr e _=>if b0q e then .none else(trE tbl k sc e).map .expr
  | .Break _=>some .brk
  | .Continue _=>some .cont
  | _=>.none
where
 trSs (tbl:List Str) (mt:List Str):Nat->Scope->List Stmt->Option (List S)
 | 0,_,_=>.none
 | k+1,sc,l=>match l with
  | []=>some []
  | st::r=>(trS tbl mt k sc st).bind fun a=>(trSs tbl mt k sc r).map fun b=>a::b
end
end
section
noncomputable def a0e(Γ:G)(n:Nat)(s:S)(ρ:Rho)(μ:Mu):Option (F×Rho×Mu):=match s with
  | .assign i e=>match ev Γ n e ρ μ with
   | some (v,μ)=>some (.next,put i v ρ,μ)
   | .none=>.none
  | .unpack l e=>match ev Γ n e ρ μ with
   | some (v,μ)=>(a8l l v ρ).map fun ρ=>(.next,ρ,μ)
   | .none=>.none
  | .aug i op e=>match ρ.lookup i with
   | some u=>match ev Γ n e ρ μ with
    | some (v,μ)=>(c2l op u v).map fun r=>(.next,put i r ρ,μ)
    | .none=>.none
   | .none=>.none
  | .ite c a b=>match ev Γ n c ρ μ with
   | some (v,μ)=>match a2z (look μ v)with
    | some true=>exec Γ n a ρ μ
    | some false=>exec Γ n b ρ μ
    | .none=>.none
   | .none=>.none
  | .for t it body=>match a1s (fun x μ=>ev Γ n x ρ μ) it μ with
   | some (vs,μ)=>a6x (fun ρ μ=>exec Γ n body ρ μ) t vs ρ μ
   | .none=>e2e (ev Γ n) (fun ρ μ=>exec Γ n body ρ μ) t it ρ μ
  | .ret e=>match ev Γ n e ρ μ with
   | some (v,μ)=>some (.ret v,ρ,μ)
   | .none=>.none
  | .expr e=>match ev Γ n e ρ μ with
   | some (_,μ)=>some (.next,ρ,μ)
   | .none=>.none
  | .lexer i e=>if Γ.lexOn&&decide (12<=n)then match ev Γ n e ρ μ with
   | some (.mut ks,μ)=>match μ[ks]? with
    | some (.obj [_,_] (-3))=>some (.next,put i (.mut (μ.length+1)) ρ,μ++b2a μ.length ks)
    | _=>.none
   | _=>.none
   else .none
  | .fit i j=>if Γ.lexOn&&decide (12<=n)then match ρ.lookup j with
   | some (.mut k)=>match μ[k]? with
    | some (.obj [_,_] m)=>if 1<=m then some (.next,put i (.mut μ.length) ρ,μ++[.obj [k] (-2)])else .none
    | _=>.none
   | _=>.none
   else .none
  | .chars t i body=>if Γ.lexOn&&decide (12<=n)then match ρ.lookup i with
   | some (.mut k)=>a2t (fun ρ μ=>exec Γ n body ρ μ) t k big ρ μ
   | _=>.none
   else .none
  | .line j=>match ρ.lookup j with
   | some (.mut k)=>match μ[k]? with
    | some (.obj is m)=>if 1<=m then some (.next,ρ,μ.set k (.obj is (m+1)))else .none
    | _=>.none
   | _=>.none
  | .brk=>some (.brk,ρ,μ)
  | .cont=>some (.cont,ρ,μ)
section
variable{Γ:G}{n:Nat}{ρ:Rho}{μ:Mu}{i:Nat}{e:X}{a b:List S}
theorem a9j:a0e Γ n (.assign i e) ρ μ=(match ev Γ n e ρ μ with
  | some (v,μ)=>some (.next,put i v ρ,μ)
  | .none=>.none):=rfl
theorem a9o{l:List Nat}:a0e Γ n (.unpack l e) ρ μ=(match ev Γ n e ρ μ with
  | some (v,μ)=>(a8l l v ρ).map fun ρ=>(.next,ρ,μ)
  | .none=>.none):=rfl
theorem d3w{op:Operator}:a0e Γ n (.aug i op e) ρ μ=(match ρ.lookup i with
  | some u=>match ev Γ n e ρ μ with
   | some (v,μ)=>(c2l op u v).map fun r=>(.next,put i r ρ,μ)
   | .none=>.none
  | .none=>.none):=rfl
theorem c6k:a0e Γ n (.ite e a b) ρ μ=(match ev Γ n e ρ μ with
  | some (v,μ)=>match a2z (look μ v)with
   | some true=>exec Γ n a ρ μ
   | some false=>exec Γ n b ρ μ
   | .none=>.none
  | .none=>.none):=rfl
theorem c2u{t:T}:a0e Γ n (.for t e a) ρ μ=(match a1s (fun x μ=>ev Γ n x ρ μ) e μ with
  | some (vs,μ)=>a6x (fun ρ μ=>exec Γ n a ρ μ) t vs ρ μ
  | .none=>e2e (ev Γ n) (fun ρ μ=>exec Γ n a ρ μ) t e ρ μ):=rfl
theorem d1o:a0e Γ n (.ret e) ρ μ=(match ev Γ n e ρ μ with
  | some (v,μ)=>some (.ret v,ρ,μ)
  | .none=>.none):=rfl
theorem b9n:a0e Γ n (.expr e) ρ μ=(match ev Γ n e ρ μ with
  | some (_,μ)=>some (.next,ρ,μ)
  | .none=>.none):=rfl
theorem d8p:a0e Γ n (.lexer i e) ρ μ=(if Γ.lexOn&&decide (12<=n)then match ev Γ n e ρ μ with
  | some (.mut ks,μ)=>match μ[ks]? with
   | some (.obj [_,_] (-3))=>some (.next,put i (.mut (μ.length+1)) ρ,μ++b2a μ.length ks)
   | _=>.none
  | _=>.none
  else .none):=rfl
theorem e8q{j:Nat}:a0e Γ n (.fit i j) ρ μ=(if Γ.lexOn&&decide (12<=n)then match ρ.lookup j with
  | some (.mut k)=>match μ[k]? with
   | some (.obj [_,_] m)=>if 1<=m then some (.next,put i (.mut μ.length) ρ,μ++[.obj [k] (-2)])else .none
   | _=>.none
  | _=>.none
  else .none):=rfl
theorem b4b{t:T}:a0e Γ n (.chars t i a) ρ μ=(if Γ.lexOn&&decide (12<=n)then match ρ.lookup i with
  | some (.mut k)=>a2t (fun ρ μ=>exec Γ n a ρ μ) t k big ρ μ
  | _=>.none
  else .none):=rfl
end
theorem d7w(Γ:G)(n:Nat)(ss:List S)(ρ:Rho)(μ:Mu):exec Γ (n+1) ss ρ μ=a3j (a0e Γ n) ss ρ μ:=rfl
section
variable{prog:Program}{w:World}{Lx:LxP}{base:Heap}{Γ:G}
variable{A:Around}{E:Value->Shared->Prop}{env:Env}{ρ:Rho}{as:List (List Addr)}{s:Shared}
noncomputable def e4g(h:Heap)(as:List (List Addr)):F->Flow->Prop
 | .next,.next=>True
 | .brk,.brk=>True
 | .cont,.cont=>True
 | .ret v,.ret u=>Rep h as v u
 | _,_=>False
noncomputable def SPost(Lx:LxP)(base:Heap)(tbl:List Str)(env:Env)(as:List (List Addr))(s:Shared)(f:F)(ρ':Rho)(μ':Mu)(Q:Flow->Shared->Prop):Prop:=
 ∀ fl as' h' tk,GR Lx base μ' as' h'->ER tbl base env ρ' as' h'->GoS (Wf tbl env) as s.heap as' h'->e4g h' as' f fl->Q fl { s with heap:=h',toks:=tk}
theorem SPost.after{f:F}{ρ':Rho}{μ':Mu}{asI:List (List Addr)}{hY:Heap}{tk:Nat}{Q:Flow->Shared->Prop}(hQ:SPost Lx base Γ.tbl env as s f ρ' μ' Q)(go:GoS (Wf Γ.tbl env) as s.heap asI hY)(hw:∀ a,Wf Γ.tbl env a->∃ o,hY.get? a=some o) :
  SPost Lx base Γ.tbl env asI { s with heap:=hY,toks:=tk} f ρ' μ' Q:=fun fl as' h' tk' g er go' r=>hQ fl as' h' tk' g er (go.trans go' hw) r
theorem ER.there{tbl:List Str}{h:Heap}(e:ER tbl base env ρ as h):∀ a,Wf tbl env a->∃ o,h.get? a=some o:=fun a ha=>let⟨_,_,o,ho,_⟩:=e.held ha;⟨o,ho⟩
theorem b3y{tbl:List Str}{h:Heap}(er:ER tbl base env ρ as h)(hn:∀ x,a1g env.scope x=true->(nid tbl x).isSome=true):∀ x,a1g env.scope x=true->InW (Wf tbl env) env x:=fun x hx=>by
 refine⟨hx,fun zz=>.inl rfl,fun c hk hc=>?_⟩;obtain⟨i,hi⟩:=Option.isSome_iff_exists.mp (hn x hx);exact .inr ⟨i,x,a0n hi,.inl hk,hc⟩
theorem b0x{tbl:List Str}{μ:Mu}{i:Nat}{x:Str}{u:V}{v:Value}{Q:Unit->Shared->Prop}(nd:∀(i j:Nat) (x:Str),tbl[i]?=some x->tbl[j]?=some x->i=j)(hx:nid tbl x=some i)(ho:a1g env.scope x=true)(er:ER tbl base env ρ as s.heap)(gr:GR Lx base μ as s.heap)(ru:Rep s.heap as u v)
  (hQ:c4t Lx base tbl env (Wf tbl env) as s (put i u ρ) μ Q):wpAny (model prog w) A (storeName env x v) Q E s:=
 b3q nd (a0n hx) ⟨ho,fun zz=>.inl rfl,fun c hk hc=>.inr ⟨i,x,a0n hx,.inl hk,hc⟩⟩ er gr ru hQ
theorem b5e{e:Expr}{tg:Option Expr}{line:Nat}{k:Nat}{x:X}{sc:Scope}{m:Bool}(hc:b0q e=false)(ht:(trV Γ.tbl k sc m e)=some x)(htg:tg.isSome=true):swapsWith e tg line env=pure false:=by
 induction e using PySem.Expr.casesOn with
 | ListComp _ _ _ _=>cases hc
 | SetComp _ _ _ _=>cases m<;>cases k<;>exact ns ht
 | DictComp _ _ _ _ _=>cases m<;>cases k<;>exact ns ht
 | _=>rfl
theorem c3i{k:Nat}{sc cs:Scope}{elt:Expr}{gens:List Comprehension}{cp:Pos}{y:X}{G:Prop}(t:trE Γ.tbl (k+1) sc (.ListComp elt gens cs cp)=some y)
  (K:∀ tg it ifs e1 t1 it1 ifs1 own,gens=[⟨tg,it,ifs,0⟩]->b1p sc cs Γ.tbl=true->a8y tg it=true->trE Γ.tbl k cs elt=some e1->a1q Γ.tbl cs tg=some t1->trE.trI Γ.tbl k sc it=some it1->a1o (trE Γ.tbl k cs) ifs=some ifs1->c8j cs Γ.tbl=some own->.comp e1 t1 it1 ifs1 own=y->G):G:=by
 induction gens using List.casesOn with
 | nil=>exact ns t
 | cons g gs=>induction gs using List.casesOn with
  | cons _ _=>cases g with | mk _ _ _ i=>induction i using Int.casesOn with
   | negSucc _=>exact ns t
   | ofNat i=>cases i<;>exact ns t
  | nil=>cases g with | mk tg it ifs i=>cases i with
   | negSucc _=>exact ns t
   | ofNat i=>induction i using Nat.casesOn with
   | succ _=>exact ns t
   | zero=>
    exact ifS t fun hq t=>a0g t fun e1 h1 t=>a0g t fun t1 h2 t=>a0g t fun it1 h3 t=>a0g t fun ifs1 h4 t=>a1n t fun own1 h5 e=>K tg it ifs e1 t1 it1 ifs1 own1 rfl (a0d hq) (a0f hq) h1 h2 h3 h4 h5 e
theorem spS{f fI:F}{ρI ρ₂:Rho}{μ₁ μ₂:Mu}{Q:Flow->Shared->Prop}(h:some (fI,ρI,μ₁)=some (f,ρ₂,μ₂))(hQ:SPost Lx base Γ.tbl env as s f ρ₂ μ₂ Q):SPost Lx base Γ.tbl env as s fI ρI μ₁ Q:=by cases h;exact hQ
theorem stx{y x:S}{n:Nat}{μ:Mu}{q:F×Rho×Mu}(e:y=x)(h:a0e Γ n x ρ μ=some q):a0e Γ n y ρ μ=some q:=e▸h
section
variable{α:Type}{r:α}{G:Prop}
theorem f0g{e:Option (V×Mu)}{f:Nat->Mu->Option α}(h:(match e with | some (.mut i,μ)=>f i μ | _=>.none)=some r)(k:∀ i μ,e=some (.mut i,μ)->f i μ=some r->G):G:=by
 induction e using Option.casesOn with
 | none=>exact ns h
 | some p=>cases p with | mk v μ=>induction v using Mine.V.casesOn<;>first | exact k _ _ rfl h | exact ns h
theorem lkM{e:Option V}{f:Nat->Option α}(h:(match e with | some (.mut i)=>f i | _=>.none)=some r)(k:∀ i,e=some (.mut i)->f i=some r->G):G:=by
 induction e using Option.casesOn with
 | none=>exact ns h
 | some v=>induction v using Mine.V.casesOn<;>first | exact k _ rfl h | exact ns h
theorem f3n{e:Option M}{f:Int->Option α}(h:(match e with | some (.obj [_,_] m)=>f m | _=>.none)=some r)(k:∀ a b m,e=some (.obj [a,b] m)->f m=some r->G):G:=by
 induction e using Option.casesOn with
 | none=>exact ns h
 | some m=>induction m using Mine.M.casesOn with
  | list _=>exact ns h
  | obj is m=>induction is using List.casesOn with
   | nil=>exact ns h
   | cons a is=>induction is using List.casesOn with
    | nil=>exact ns h
    | cons b is=>induction is using List.casesOn with
     | nil=>exact k a b m rfl h
     | cons _ _=>exact ns h
theorem f3w{e:Option M}{f:List Nat->Int->Option α}(h:(match e with | some (.obj is m)=>f is m | _=>.none)=some r)(k:∀ is m,e=some (.obj is m)->f is m=some r->G):G:=by
 induction e using Option.casesOn with
 | none=>exact ns h
 | some m=>induction m using Mine.M.casesOn with
  | list _=>exact ns h
  | obj is m=>exact k is m rfl h
theorem f4q{e:Option M}{a:Option α}(h:(match e with | some (.obj [_,_] (-3))=>a | _=>.none)=some r)(k:∀ x y,e=some (.obj [x,y] (-3))->a=some r->G):G:=by
 induction e using Option.casesOn with
 | none=>exact ns h
 | some m=>induction m using Mine.M.casesOn with
  | list _=>exact ns h
  | obj is n=>induction is using List.casesOn with
   | nil=>exact ns h
   | cons x is=>induction is using List.casesOn with
    | nil=>exact ns h
    | cons y is=>induction is using List.casesOn with
     | cons _ _=>exact ns h
     | nil=>induction n using Int.casesOn with
      | ofNat _=>exact ns h
      | negSucc m=>rcases m with _ | _ | _ | m<;>first | exact ns h | exact k x y rfl h
theorem f4d{e:Option V}{f:V->Option α}(h:(match e with | some a=>f a | .none=>.none)=some r)(k:∀ a,e=some a->f a=some r->G):G:=by
 induction e using Option.casesOn with
 | none=>exact ns h
 | some a=>exact k a rfl h
end
theorem b1e(S:Snd prog w Lx base Γ)(nd:∀(i j:Nat) (x:Str),Γ.tbl[i]?=some x->Γ.tbl[j]?=some x->i=j){n k i:Nat}{m:Bool}{x:Str}{p pos:Pos}{e:Expr}{y:X}{r:V}{μ μ':Mu}{Q:Flow->Shared->Prop}
  (hx:nid Γ.tbl x=some i) (ho:a1g env.scope x=true) (t:trV Γ.tbl k env.scope m e=some y) (rm:Room A n) (c:ScR env.scope env) (er:ER Γ.tbl base env ρ as s.heap) (gr:GR Lx base μ as s.heap) (h:ev Γ n y ρ μ=some (r,μ')) (hm:b0q e=true->m=false)
  (hQ:SPost Lx base Γ.tbl env as s .next (put i r ρ) μ' Q):wpAny (model prog w) A (PySem.exec (.Assign [.Name x p] e pos) env) Q E s:=by
 have plain:swapsWith e (some (.Name x p)) pos.line env=pure false->wpAny (model prog w) A (PySem.exec (.Assign [.Name x p] e pos) env) Q E s:=by
  intro hs;refine wpAny_Assign_Name (d6e S nd t rm c er gr h fun v asI hY tk gI goI rv=>?_) hs;refine b0x nd hx ho (er.go goI) gI rv fun hJ tkJ gJ erJ gsJ ksJ=>?_;exact hQ .next asI hJ tkJ gJ erJ (goI.toS.trans gsJ (er.go goI).there) trivial
 by_cases hc:b0q e=true
 ·have hm':=hm hc
  subst hm';obtain⟨elt,gens,cs,cp,rfl⟩:∃ elt gens cs cp,e=.ListComp elt gens cs cp:=by
   induction e using PySem.Expr.casesOn with
   | ListComp a b c d=>exact⟨a,b,c,d,rfl⟩
   | _=>exact nt hc
  have hs:∃ b,swapsWith (.ListComp elt gens cs cp) (some (.Name x p)) pos.line env=pure b:=⟨_,rfl⟩;obtain⟨b,hs⟩:=hs;induction b using Bool.casesOn with
  | false=>exact plain hs
  | true=>
   rw [exec_Assign_Name_used _ _ _ _ hs];refine wpAny_bind (wpAny_standAt (wpAny_bind ?_));have t':trE Γ.tbl k env.scope (.ListComp elt gens cs cp)=some y:=t;induction k using Nat.casesOn with
   | zero=>exact ns t'
   | succ k=>
    refine c3i t' fun tg it ifs e1 t1 it1 ifs1 own eg p1 p2 p3 p4 p5 p6 p7 ey=>?_;subst eg;induction n using Nat.casesOn with
    | zero=>exact ns (evx ey h)
    | succ n'=>
    refine c0b (E:=E) S (a3m S nd n').1 (rm.less (Nat.le_succ n')) c p2 p4 p5 er gr (evx ey h) fun ys μ₂ RR eh=>?_;cases eh;show wpAny (model prog w) A (comprehension (.ListComp elt [⟨tg,it,ifs,0⟩] cs cp) cs env (firstIterPos [⟨tg,it,ifs,0⟩] cp) (newList []) false (eval it env) (some (assign (.Name x p) env)) >>= fun zz=>pure ()) _ E s;refine wpAny_bind (b4x S nd (a3m S nd n').1 (a3m S nd n').2 (rm.less (Nat.le_succ n')) c p1 p2 p3 p4 p5 p6 p7 er gr RR fun D C as' h' tk mm g er' go r hmm f hC hb hw=>?_);refine wpAny_assign_Name (b0x nd hx ho er' g r fun hJ tkJ gJ erJ gsJ ksJ=>?_);have hCk:∀ o,h'.get? C=some o->hJ.get? C=some o:=fun o e=>gsJ.keep C o (fun q=>f.off (a4l q)) hw e;have hmJ:hJ.Ns C mm:=let⟨o,es,ep,e,r⟩:=hmm;⟨o,es,ep,hCk o e,r⟩;refine⟨mm,hmJ,fun h₃ hs=>wpAny_pure (wpAny_pure ?_)⟩;have y:∀ a o,a≠C->hJ.get? a=some o->h₃.get? a=some o:=fun a o ha e=>(hs.2 a ha).trans e;have fJ:Foreign as' hJ C:=⟨f.off,fun o e=>let⟨o',e',hk⟩:=Ns.get hmJ;by rw [e]at e';obtain rfl:=Option.some.inj e';exact hk⟩;have ksK:Ks as' hJ h₃:=fJ.ks y;have gT:=gJ.mod fJ hb y;have erK:ER Γ.tbl base env (put i (.lst ys) ρ) as' h₃:=erJ.mvs (own:=[C]) (fun a ha hq=>by rw [List.mem_singleton]at hq;subst hq;exact hw ha) (fun a o ha e=>y a o (by simpa using ha) e) ksK;refine hQ .next as' h₃ _ gT erK ?_ trivial;have gA:GoS (Wf Γ.tbl env) as s.heap as' hJ:=go.toS.trans gsJ er'.there;exact⟨gA.ext,fun a o ha hwf e=>y a o (fun q=>by rw [q,hC]at e;exact ns e) (gA.keep a o ha hwf e),gT.alive⟩
 ·have hc':b0q e=false:=by simpa using hc
  exact plain (b5e hc' t rfl)
end
end
section
section
variable{prog:Program}{w:World}{Lx:LxP}{base:Heap}{Γ:G}
variable{A:Around}{E:Value->Shared->Prop}{env:Env}{ρ:Rho}{as:List (List Addr)}{s:Shared}{tbl:List Str}
theorem a8c{i:Nat}:∀(ps:List (Nat×V)) (ρ:Rho),i∉ps.map (·.1)->(ps.foldl (fun ρ p=>put p.1 p.2 ρ) ρ).lookup i=ρ.lookup i:=by
 intro z_;induction z_ with
 | nil=>
  intro _ _;exact rfl
 | cons p r ih=>
  intro ρ h;simp only [List.map_cons,List.mem_cons,not_or]at h;rw [List.foldl_cons,ih _ h.2,a0b,if_neg h.1]
theorem b9b{i:Nat}{v:V}:∀(ps:List (Nat×V)) (ρ:Rho),(ps.map (·.1)).Nodup->(i,v)∈ps->(ps.foldl (fun ρ p=>put p.1 p.2 ρ) ρ).lookup i=some v:=by
 intro z_;induction z_ with
 | nil=>
  intro _ _ h;cases h
 | cons p r ih=>
  intro ρ nd h;rw [List.map_cons,List.nodup_cons]at nd;rw [List.foldl_cons];rcases List.mem_cons.mp h with rfl | h
  ·rw [a8c r _ nd.1,a0b,if_pos rfl]
  ·exact ih _ nd.2 h
theorem d3z(ps:List (Nat×V))(ρ:Rho)(nd:(ps.map (·.1)).Nodup)(i:Nat):(ps.reverse.foldl (fun ρ p=>put p.1 p.2 ρ) ρ).lookup i=(ps.foldl (fun ρ p=>put p.1 p.2 ρ) ρ).lookup i:=by
 by_cases h:i∈ps.map (·.1)
 ·obtain⟨⟨j,v⟩,hm,rfl⟩:=List.mem_map.mp h
  rw [b9b ps ρ nd hm,b9b ps.reverse ρ (by rw [List.map_reverse];exact(List.reverse_perm _).nodup_iff.mpr nd) (List.mem_reverse.mpr hm)]
 ·rw [a8c ps ρ h,a8c ps.reverse ρ (by rw [List.map_reverse];simpa using h)]
theorem c6o:∀ {l:List Nat},b9t l=true->l.Nodup:=by
 intro z_;induction z_ with
 | nil=>
  intro _;exact List.nodup_nil
 | cons a r ih=>
  intro h;have h1:(!r.contains a)=true:=a0d h;exact List.nodup_cons.mpr ⟨by simpa using h1,ih (a0f h)⟩
noncomputable def e5t(tbl:List Str)(sc:Scope)(x:Str):Option Nat:=if a1g sc x then nid tbl x else .none
theorem b7s{μ:Mu}{Q:Unit->Shared->Prop}(nd:∀(i j:Nat) (x:Str),tbl[i]?=some x->tbl[j]?=some x->i=j):∀(names:List Str) (is:List Nat) (l:List V) (vals:List Value) (ρ:Rho) (as:List (List Addr)) (s:Shared),
  a1o (e5t tbl env.scope) names=some is->is.length=l.length->ER tbl base env ρ as s.heap->GR Lx base μ as s.heap->Reps s.heap as l vals →
  c4t Lx base tbl env (Wf tbl env) as s ((is.zip l).foldl (fun ρ p=>put p.1 p.2 ρ) ρ) μ Q->wpAny (model prog w) A (assignInOrder (names.map fun n=>bindName env n) vals) Q E s:=by
 intro z_;induction z_ with
 | nil=>
  intro is l vals ρ as s e hl er gr rl hQ;simp only [a1o,Option.some.injEq]at e;subst e;induction l using List.casesOn with
  | cons a r=>cases hl
  | nil=>
   simp only [Reps]at rl;subst rl;exact wpAny_assignInOrder_none (hQ s.heap s.toks gr er (GoS.refl gr) fun zz zz zz e zz=>e)
 | cons x xs ih=>
  intro is l vals ρ as s e hl er gr rl hQ;refine a0c e fun i js e1 e2 e=>?_;subst e;induction l using List.casesOn with
  | nil=>cases hl
  | cons u l=>
   obtain⟨v,vr,rfl,ru,rl⟩:=rl;refine ifS e1 fun hx e1=>?_;refine wpAny_assignInOrder_more (wpAny_bindName (b0x nd e1 hx er gr ru fun h' tk gr' er' go' ks'=>?_));refine ih js l vr _ as _ e2 (Nat.succ.inj hl) er' gr' (rl.ks ks') ?_;intro h'' tk' gr'' er'' go'' ks'';exact hQ h'' tk' gr'' er'' (go'.trans go'' er'.there) (a9t ks' ks'')
theorem d2r{α β:Type}{f:α->Option β}:∀ {l l':List α} {r r':List β},a1o f l=some r->a1o f l'=some r'->a1o f (l++l')=some (r++r'):=by
 intro z_;induction z_ with
 | nil=>
  intro _ r _ h h';obtain rfl:=Option.some.inj h;exact h'
 | cons a l ih=>
  intro l' r r' h h';exact a0c h fun b c h1 h2 e=>e▸a4s h1 (ih h2 h')
theorem b9c{α β:Type}{f:α->Option β}:∀ {l:List α} {r:List β},a1o f l=some r->a1o f l.reverse=some r.reverse
 | [],r,h=>by obtain rfl:=Option.some.inj h;rfl
 | a::l,r,h=>a0c h fun b c h1 h2 e=>by
  rw [← e,List.reverse_cons,List.reverse_cons];exact d2r (b9c h2) (a4s h1 rfl)
noncomputable def a5v(env:Env)(line:Nat):Expr->Option Str
 | .Name id pos=>if env.kindOf id==some .local&&pos.line==line then some id else .none
 | _=>.none
theorem c0c{line:Nat}:∀(ts:List Expr) (is:List Nat),a1o (a9g tbl env.scope) ts=some is →
  (ts.filterMap (a5v env line)).length=ts.length →
  a1o (e5t tbl env.scope) (ts.filterMap (a5v env line))=some is
 | [],is,h,_=>h
 | t::ts,is,h,hl=>a0c h fun i js h1 h2 e=>b0f h1 fun x p ht hx hi=>by
  subst e ht;by_cases hq:(env.kindOf x==some .local&&p.line==line)=true
  ·have e1:a5v env line (.Name x p)=some x:=if_pos hq
   rw [List.filterMap_cons_some e1]at hl ⊢;exact a4s ((if_pos hx).trans hi) (c0c ts js h2 (Nat.succ.inj hl))
  ·have e1:a5v env line (.Name x p)=.none:=if_neg hq
   rw [List.filterMap_cons_none e1]at hl;exact absurd (hl▸List.length_filterMap_le _ ts) (Nat.not_succ_le_self _)
theorem b4c{ts vs:List Expr}{k k':Nat}{p p':Pos}(hc:vs.all (constantsAlone 8)=false) :
  swappedStores [.Tuple ts k p] (.Tuple vs k' p') env=pure .none∨∃ line,swappedStores [.Tuple ts k p] (.Tuple vs k' p') env=pure (some (ts.filterMap (a5v env line))) ∧
   (ts.filterMap (a5v env line)).length=ts.length:=by
 have K:∀ {c:Prop} [Decidable c] {a:Sem (Option (List Str))},(¬c->a=pure .none∨∃ line,a=pure (some (ts.filterMap (a5v env line)))/\(ts.filterMap (a5v env line)).length=ts.length) →
   ((if c then pure .none else a)=pure .none∨∃ line,(if c then pure .none else a)=pure (some (ts.filterMap (a5v env line)))/\(ts.filterMap (a5v env line)).length=ts.length):=fun {c} _ {a} h=>by
  by_cases hc:c
  ·exact .inl (if_pos hc)
  ·rw [if_neg hc];exact h hc
 refine K fun zz=>K fun zz=>K fun hl=>K fun zz=>?_;rw [if_neg (by rw [hc];decide)];simp only [Bool.or_eq_true,bne_iff_ne,ne_eq,not_or,Decidable.not_not]at hl;refine .inr ⟨(ts.head?.map (·.pos.line)).getD 0,?_,?_⟩
 ·refine congrArg (fun g:Expr->Option Str=>(pure (some (ts.filterMap g)):Sem (Option (List Str)))) ?_
  funext x;induction x using PySem.Expr.casesOn<;>rfl
 ·refine Eq.trans (congrArg (fun g:Expr->Option Str=>(ts.filterMap g).length) ?_) hl.1
  funext x;induction x using PySem.Expr.casesOn<;>rfl
end
end
section
section
variable{prog:Program}{w:World}{Lx:LxP}{base:Heap}{Γ:G}
variable{A:Around}{E:Value->Shared->Prop}{env:Env}{ρ:Rho}{as:List (List Addr)}{s:Shared}
theorem e0a(S:Snd prog w Lx base Γ)(nd:∀(i j:Nat) (x:Str),Γ.tbl[i]?=some x->Γ.tbl[j]?=some x->i=j){n k:Nat}{mt:List Str}{sc:Scope}(rm:Room A n)(c:ScR sc env)(pos:Pos):∀(ts elts:List Expr) (xs:List X) (μ μ':Mu) (vs:List V) (as:List (List Addr)) (s:Shared) (Q:List Value->Shared->Prop),
  elts.all a1x=true->d8s Γ.tbl k sc mt ts elts=some xs->ER Γ.tbl base env ρ as s.heap->GR Lx base μ as s.heap->evs (fun x μ=>ev Γ n x ρ μ) xs μ=some (vs,μ') →
  (∀(vals:List Value) (as':List (List Addr)) (h':Heap) (tk:Nat),GR Lx base μ' as' h'->Go as s.heap as' h'->Reps h' as' vs vals->Q vals { s with heap:=h',toks:=tk}) →
  wpAny (model prog w) A (spliced (backTo pos (starEach elts env))) Q E s:=by
 intro ts;induction ts with
 | nil=>
  intro elts xs μ μ' vs as s Q _ t er gr h hQ;induction elts using List.casesOn with
  | nil=>
   obtain rfl:=Option.some.inj t;refine sp h fun e1 e2=>?_;subst e1 e2;exact wpAny_items_nil (hQ [] as s.heap s.toks gr gr.go .nil)
  | cons _ _=>exact ns t
 | cons tg ts ih=>
  intro elts xs μ μ' vs as s Q hp t er gr h hQ;induction elts using List.casesOn with
  | nil=>exact ns t
  | cons e r=>
   refine a0g t fun x t1 t'=>a1n t' fun xr t2 e1=>a0g t1 fun nm hnm t1=>?_;subst e1;refine a7b h fun v μ₁ h1 h'=>c9i h' fun vr μ₂ h2 h'=>sp h' fun e1 e2=>?_;subst e1 e2;refine wpAny_items_cons (d6e S nd t1 rm c er gr h1 fun a asI hY tk gI goI ra=>?_) (a2m (a0d hp));refine ih r xr μ₁ _ vr asI _ _ (a0f hp) t2 (er.go goI) gI h2 fun vals asJ hJ tkJ gJ goJ rv=>?_;exact hQ (a::vals) asJ hJ tkJ gJ (goI.trans goJ) (.cons (ra.go goJ) rv)
theorem b7a{elts:List Expr}{kk:Nat}{pos:Pos}{is:List Nat}{l:List V}{a:Value}{μ:Mu}{ρ':Rho}{Q:Unit->Shared->Prop}(nd:∀(i j:Nat) (x:Str),Γ.tbl[i]?=some x->Γ.tbl[j]?=some x->i=j)(hi:a1o (a9g Γ.tbl env.scope) elts=some is)(hc:A.handled=.none)(hl:is.length=l.length)
  (er:ER Γ.tbl base env ρ as s.heap) (gr:GR Lx base μ as s.heap) (ra:Rep s.heap as (.lst l) a) (own:∀ x,a1g env.scope x=true->InW (Wf Γ.tbl env) env x)
  (hQ:c4t Lx base Γ.tbl env (Wf Γ.tbl env) as s ((is.zip l).foldl (fun ρ p=>put p.1 p.2 ρ) ρ) μ Q):wpAny (model prog w) A (assign (.Tuple elts kk pos) env a) Q E s:=by
 obtain⟨ax,vs,rfl,ha,hp,hr⟩:=ra;show wpAny (model prog w) A (do standAt pos;unpack (.ref ax) (assignEach elts env)) Q E s
 refine wpAny_bind (wpAny_standAt ?_);unfold unpack;rw [a8f hi];have hlen:(assignEach elts env).length=vs.toArray.size:=by
  rw [c0f,List.size_toArray,hr.length,← hl,a5z hi]
 rw [hlen];refine wpAny_bind (wpAny_holding (kun_itemsOf hc hp.isList fun h' he=>?_));obtain⟨gr',go'⟩:=gr.all (h':=h') fun a o ha e=>he a o ha e;refine b1q (s:={ s with heap:=h',toks:=s.toks}) own (fun a ha=>ha) nd elts is l _ ρ hi hl (er.go go') gr' (by simpa using hr.go go') ?_;intro h'' tk gr'' er'' go'' ks'';exact hQ h'' tk gr'' er'' (go'.toS.trans go'' (er.go go').there) (a9t go'.ks ks'')
theorem b8g(S:Snd prog w Lx base Γ)(nd:∀(i j:Nat) (x:Str),Γ.tbl[i]?=some x->Γ.tbl[j]?=some x->i=j)(own:∀ x,a1g env.scope x=true->(nid Γ.tbl x).isSome=true){n k:Nat}{ts:List Expr}{kk:Nat}{p pos:Pos}{e:Expr}{is:List Nat}{y:X}{r:V}{μ μ':Mu}{ρ':Rho}{Q:Flow->Shared->Prop}
  (hi:a1o (a9g Γ.tbl env.scope) ts=some is) (hnt:∀ vs k p,e≠.Tuple vs k p) (t:trE Γ.tbl k env.scope e=some y) (rm:Room A n) (c:ScR env.scope env) (er:ER Γ.tbl base env ρ as s.heap) (gr:GR Lx base μ as s.heap) (h:ev Γ n y ρ μ=some (r,μ')) (hu:a8l is r ρ=some ρ')
  (hQ:SPost Lx base Γ.tbl env as s .next ρ' μ' Q):wpAny (model prog w) A (PySem.exec (.Assign [.Tuple ts kk p] e pos) env) Q E s:=by
 have hs:swapsWithSole [.Tuple ts kk p] e pos.line env=pure false:=by
  induction e using PySem.Expr.casesOn with
  | SetComp _ _ _ _=>cases k<;>exact ns t
  | DictComp _ _ _ _ _=>cases k<;>exact ns t
  | _=>rfl
 have hw:swappedStores [.Tuple ts kk p] e env=pure .none:=by
  induction e using PySem.Expr.casesOn with
  | Tuple vs k p=>exact absurd rfl (hnt _ _ _)
  | _=>rfl
 refine Assign_Tuple ((a3m S nd n).1 y k env.scope e t A E env ρ μ as s r μ' _ rm c er gr h fun v asI hY tk gI goI rv=>?_) hs hw;have erI:=er.go goI;have ow:=b3y erI own;have fin:∀ {hJ:Heap} {tkJ:Nat},GR Lx base μ' asI hJ->ER Γ.tbl base env ρ' asI hJ->GoS (Wf Γ.tbl env) asI hY asI hJ->Q .next { s with heap:=hJ,toks:=tkJ}:=fun gJ erJ gsJ=>hQ .next asI _ _ gJ erJ (goI.toS.trans gsJ erI.there) trivial;induction r using Mine.V.casesOn with
 | tup l=>
  refine ifS hu fun hl hu=>?_;obtain rfl:=Option.some.inj hu;exact a5e (t:=.many is) (sc:=env.scope) ow (fun a ha=>ha) nd (congrArg (Option.map T.many) hi) rm.calm (show a2b (.many is) (.tup l) ρ=_ from if_pos hl) erI gI rv fun hJ tkJ gJ erJ gsJ zz=>fin gJ erJ gsJ
 | lst l=>
  refine ifS hu fun hl hu=>?_;obtain rfl:=Option.some.inj hu;exact b7a (ρ':=ρ) nd hi rm.calm (eq_of_beq hl) erI gI rv ow fun hJ tkJ gJ erJ gsJ zz=>fin gJ erJ gsJ
 | _=>exact ns hu
theorem c7d{α β:Type}:∀(l:List α) (r:List β),l.length=r.length->l.reverse.zip r.reverse=(l.zip r).reverse
 | [],[],_=>rfl
 | [],_::_,h=>by cases h
 | _::_,[],h=>by cases h
 | a::l,b::r,h=>by
  have h':l.length=r.length:=by simpa using h
  rw [List.reverse_cons,List.reverse_cons,List.zip_append (by simpa using h'),c7d l r h'];simp
theorem c3j(S:Snd prog w Lx base Γ)(nd:∀(i j:Nat) (x:Str),Γ.tbl[i]?=some x->Γ.tbl[j]?=some x->i=j)(own:∀ x,a1g env.scope x=true->(nid Γ.tbl x).isSome=true){n k:Nat}{mt:List Str}{ts vs:List Expr}{kk kk':Nat}{p p' pos:Pos}{is:List Nat}{xs:List X}{r:V}{μ μ':Mu}{ρ':Rho}{Q:Flow->Shared->Prop}
  (hi:a1o (a9g Γ.tbl env.scope) ts=some is) (hnd:b9t is=true) (hp:vs.all a1x=true) (hcon:vs.all (constantsAlone 8)=false) (t:d8s Γ.tbl k env.scope mt ts vs=some xs) (rm:Room A n) (c:ScR env.scope env) (er:ER Γ.tbl base env ρ as s.heap) (gr:GR Lx base μ as s.heap)
  (h:ev Γ n (.tup xs) ρ μ=some (r,μ')) (hu:a8l is r ρ=some ρ')
  (hQ:SPost Lx base Γ.tbl env as s .next ρ' μ' Q):wpAny (model prog w) A (PySem.exec (.Assign [.Tuple ts kk p] (.Tuple vs kk' p') pos) env) Q E s:=by
 have hs:swapsWithSole [.Tuple ts kk p] (.Tuple vs kk' p') pos.line env=pure false:=rfl;induction n using Nat.casesOn with
 | zero=>exact ns h
 | succ n=>
  refine c9i h fun us μ₁ h1 h'=>ifS h' fun hlen h'=>sp h' ?_;rintro rfl rfl;refine ifS hu fun hq hu=>?_;have hl:=eq_of_beq hq;obtain rfl:=Option.some.inj hu;have rm':=rm.less (Nat.le_succ n);have evt:∀(Q':Value->Shared->Prop),Post Lx base as s (.tup us) μ₁ Q'->wpAny (model prog w) A (eval (.Tuple vs kk' p') env) Q' E s:=fun Q' hQ'=>
   wpAny_Tuple_spliced (e0a S nd rm' c _ ts vs xs μ μ₁ us as s _ hp t er gr h1 fun vals as' h' tk g go rv=>⟨by rw [rv.length];exact a1w hlen,(hQ'.after go).new g (a5g (s:={ s with heap:=h',toks:=tk}) g rv)⟩)
  rcases b4c (ts:=ts) (k:=kk) (p:=p) (k':=kk') (p':=p') (env:=env) hcon with hw | ⟨line,hw,hlen'⟩
  ·refine Assign_Tuple (evt _ fun v asI hY tk gI goI rv=>?_) hs hw
   have erI:=er.go goI;exact a5e (t:=.many is) (sc:=env.scope) (b3y erI own) (fun a ha=>ha) nd (congrArg (Option.map T.many) hi) rm.calm (show a2b (.many is) (.tup us) ρ=_ from if_pos (beq_iff_eq.mpr hl)) erI gI rv fun hJ tkJ gJ erJ gsJ zz=>hQ .next asI _ _ gJ erJ (goI.toS.trans gsJ erI.there) trivial
  ·refine Assign_Tuple_swapped (evt _ fun v asI hY tk gI goI rv=>?_) hs hw
   have erI:=er.go goI;obtain⟨ax,vals,rfl,hax,hT,hr⟩:=rv;have hsz:(ts.filterMap (a5v env line)).length=vals.toArray.size:=by
    rw [hlen',List.size_toArray,hr.length,← hl,a5z hi]
   rw [hsz];refine unpackItems_tuple rm.calm hT fun hJ he=>?_;obtain⟨gJ,goJ⟩:=gI.all (h':=hJ) fun a o ha e=>he a o ha e;have erJ:=erI.go goJ;refine b7s (s:={ s with heap:=hJ,toks:=tk}) nd _ is.reverse us.reverse _ ρ asI (b9c (c0c ts is hi hlen')) (by simpa using hl) erJ gJ (by simpa using (hr.go goJ).reverse) fun h₃ tkK gT erK gsK zz=>?_;refine hQ .next asI h₃ tkK gT (erK.congr fun i=>?_) ((goI.trans goJ).toS.trans gsK erJ.there) trivial;have hz:is.reverse.zip us.reverse=(is.zip us).reverse:=by
    exact c7d is us hl
   rw [hz,d3z];rw [List.map_fst_zip (by omega)];exact c6o hnd
end
end
section
section
variable{prog:Program}{w:World}{Lx:LxP}{base:Heap}{Γ:G}
noncomputable def c4k(prog:Program)(w:World)(Lx:LxP)(base:Heap)(Γ:G)(n:Nat):Prop:=
 ∀(k:Nat) (e v:Expr) (y:X) (A:Around) (E:Value->Shared->Prop) (env:Env) (ρ:Rho) (μ:Mu) (as:List (List Addr)) (s:Shared) (ks kl kc:Nat) (μ':Mu) (Q:Value->Shared->Prop),
  d8v env.scope v=some e->trE Γ.tbl k env.scope e=some y->Room A n->ScR env.scope env->ER Γ.tbl base env ρ as s.heap->GR Lx base μ as s.heap->ev Γ n y ρ μ=some (.mut ks,μ')->μ'[ks]?=some (.obj [kl,kc] (-3)) →
  Post Lx base as s (.mut (μ'.length+1)) (μ'++b2a μ'.length ks) Q->wpAny (model prog w) A (eval v env) Q E s
structure a5q(prog:Program)(w:World)(Lx:LxP)(base:Heap)(Γ:G)(n:Nat):Prop where
 new:Γ.lexOn=true->12<=n->c4k prog w Lx base Γ n
 fit:∀(v:Expr) (y:Str) (j k kp ks:Nat) (m:Int) (A:Around) (E:Value->Shared->Prop) (env:Env) (ρ:Rho) (μ:Mu) (as:List (List Addr)) (s:Shared) (Q:Value->Shared->Prop),
  Γ.lexOn=true->12<=n->d0m env.scope v=some y->nid Γ.tbl y=some j->ρ.lookup j=some (.mut k)->μ[k]?=some (.obj [kp,ks] m)->1<=m->Room A n->ER Γ.tbl base env ρ as s.heap->GR Lx base μ as s.heap →
  Post Lx base as s (.mut μ.length) (μ++[.obj [k] (-2)]) Q->wpAny (model prog w) A (eval v env) Q E s
 line:∀(x a:Str) (p q r c:Pos) (kd:Nat) (j k:Nat) (is:List Nat) (m:Int) (A:Around) (E:Value->Shared->Prop) (env:Env) (ρ:Rho) (μ:Mu) (as:List (List Addr)) (s:Shared) (Q:Flow->Shared->Prop),
  a4z env.scope x=true->a = "lineno" -> nid Γ.tbl x=some j->(x==("__debug__":Str))=false->(x==("__classdict__":Str))=false->ρ.lookup j=some (.mut k)->μ[k]?=some (.obj is m)->1<=m->Room A n->ER Γ.tbl base env ρ as s.heap->GR Lx base μ as s.heap →
  (∀ h' tk,GR Lx base (μ.set k (.obj is (m+1))) as h'->Go as s.heap as h'->Q .next { s with heap:=h',toks:=tk})->wpAny (model prog w) A (PySem.exec (.AugAssign (.Attribute (.Name x p) a q) .Add (.Constant (.int 1) kd c) r) env) Q E s
 draw:∀(A:Around) (E:Value->Shared->Prop) (s:Shared) (as:List (List Addr)) (μ μ':Mu) (k:Nat) (a:Addr) (q:List Addr) (r:Option (List Nat)) (Q:Option Value->Shared->Prop),Γ.lexOn=true->12<=n->Room A n->GR Lx base μ as s.heap->as[k+1]?=some (a::q)->Mine.draw μ k=some (r,μ') →
  (∀ h' tk rv,GR Lx base μ' as h'->Go as s.heap as h'->(match r with | .none=>rv=.none | some c=>∃ t,rv=some (.str ⟨c.toArray⟩ t))->Q rv { s with heap:=h',toks:=tk})->wpAny (model prog w) A (pyNext (.ref a)) Q E s
 self:∀(A:Around) (E:Value->Shared->Prop) (s:Shared) (as:List (List Addr)) (μ:Mu) (k:Nat) (a:Addr) (q:List Addr) (is:List Nat) (m:Int) (Q:Value->Shared->Prop),Γ.lexOn=true->GR Lx base μ as s.heap->as[k+1]?=some (a::q)->μ[k]?=some (.obj is m)->(m = -2∨m = -4)->Q (.ref a) s->wpAny (model prog w) A (pyIter (.ref a)) Q E s
 lets:∀(A:Around) (E:Value->Shared->Prop) (s:Shared) (as:List (List Addr)) (μ:Mu) (k:Nat) (a:Addr) (q:List Addr) (is:List Nat) (m:Int) (tg:Expr) (v:Value) (Q:Unit->Shared->Prop),Γ.lexOn=true->GR Lx base μ as s.heap->as[k+1]?=some (a::q)->μ[k]?=some (.obj is m)->(m = -2∨m = -4)->b6k tg=true->Q () s->wpAny (model prog w) A (letOwnedTupleGo tg (.ref a) v) Q E s
noncomputable def b2m(prog:Program)(w:World)(Lx:LxP)(base:Heap)(Γ:G)(n:Nat):Prop:=
 ∀(ss:List S) (mt:List Str) (k:Nat) (stmts:List Stmt) (A:Around) (E:Value->Shared->Prop) (env:Env) (ρ ρ':Rho) (μ μ':Mu) (as:List (List Addr)) (s:Shared) (f:F) (Q:Flow->Shared->Prop),
  trS.trSs Γ.tbl mt k env.scope stmts=some ss->(∀ x,a1g env.scope x=true->(nid Γ.tbl x).isSome=true)->interactive env=false->Room A n->ScR env.scope env->ER Γ.tbl base env ρ as s.heap->GR Lx base μ as s.heap->exec Γ n ss ρ μ=some (f,ρ',μ') →
  SPost Lx base Γ.tbl env as s f ρ' μ' Q->wpAny (model prog w) A (execs stmts env) Q E s
variable{A:Around}{E:Value->Shared->Prop}{env:Env}{ρ:Rho}{as:List (List Addr)}{s:Shared}
theorem GoS.mv{W:Addr->Prop}{own:List Addr}{as asI:List (List Addr)}{h₀ h h':Heap}(g:GoS W as h₀ asI h)(hf:∀ a∈own,h₀.get? a=.none)(mv:Mv own h h')(al:∀ a∈asI.flatten,∃ o,h'.get? a=some o):GoS W as h₀ asI h':=
 ⟨g.ext,fun a o ha hw e=>mv a o (fun hm=>by rw [hf a hm]at e;exact ns e) (g.keep a o ha hw e),al⟩
noncomputable def d7i(f:F)(ρ:Rho)(μ:Mu)(go:Option (F×Rho×Mu)):Option (F×Rho×Mu):=match f with
 | .brk=>some (.next,ρ,μ)
 | .ret v=>some (.ret v,ρ,μ)
 | _=>go
theorem b8p{f:Rho->Mu->Option (F×Rho×Mu)}{t:T}:∀(l:List V) (ρ:Rho) (μ:Mu),a3h f t (fun zz=>True) l ρ μ=a6x f t l ρ μ:=by
 intro l;induction l with
 | nil=>exact fun ρ μ=>rfl
 | cons v r ih=>
  intro ρ μ;have e:a3h f t (fun zz=>True) r=a6x f t r:=funext fun ρ=>funext fun μ=>ih ρ μ;refine(if_pos (c:=True) trivial).trans ?_;rw [e];rfl
theorem b7h{f:Rho->Mu->Option (F×Rho×Mu)}{t:T}{P:Mu->Prop}{d:∀ μ,Decidable (P μ)}{v:V}{r:List V}{ρ ρ':Rho}{μ μ':Mu}{g:F}{G:Prop}(h:a3h f t P (v::r) ρ μ=some (g,ρ',μ'))
  (k:∀ ρ₂ fK ρK μ₃,P μ->a2b t v ρ=some ρ₂->f ρ₂ μ=some (fK,ρK,μ₃)->d7i fK ρK μ₃ (a3h f t P r ρK μ₃)=some (g,ρ',μ')->G):G:=by
 refine ifS h fun hP h=>?_;have h:(match (generalizing:=false) a2b t v ρ with | .none=>.none | some ρ=>_)=some (g,ρ',μ'):=h
 induction q:a2b t v ρ using Option.casesOn with
 | none=>rw [q]at h;exact ns h
 | some ρ₂=>
  rw [q]at h;dsimp only at h;induction q2:f ρ₂ μ using Option.casesOn with
  | none=>rw [q2]at h;exact ns h
  | some p=>
   obtain⟨x,ρK,μ₃⟩:=p;rw [q2]at h;cases x<;>exact k ρ₂ _ ρK μ₃ hP q q2 h
theorem b5p{fK f:F}{fl:Flow}{ρK ρ':Rho}{μ₃ μ':Mu}{go:Option (F×Rho×Mu)}{N:Prop}{Q:Flow->Shared->Prop}{R:Result->Shared->Prop}{asL:List (List Addr)}{hU:Heap}{tkL:Nat}(hR:∀ fl s',Q fl s'->R (.ok fl) s')(hQ:SPost Lx base Γ.tbl env as s f ρ' μ' Q)
  (h:d7i fK ρK μ₃ go=some (f,ρ',μ')) (fr:e4g hU asL fK fl) (g:GR Lx base μ₃ asL hU) (er:ER Γ.tbl base env ρK asL hU) (gs:GoS (Wf Γ.tbl env) as s.heap asL hU) (k:go=some (f,ρ',μ')->N) :
  (match (generalizing:=false) fl with
   | .next | .cont=>N
   | .brk=>R (.ok .next) { s with heap:=hU,toks:=tkL}
   | .ret v=>R (.ok (.ret v)) { s with heap:=hU,toks:=tkL}):=by
 induction fK using Mine.F.casesOn with
 | next=>induction fl using PySem.Flow.casesOn with
  | next=>exact k h
  | _=>exact fr.elim
 | cont=>induction fl using PySem.Flow.casesOn with
  | cont=>exact k h
  | _=>exact fr.elim
 | brk=>induction fl using PySem.Flow.casesOn with
  | brk=>exact hR _ _ (spS h hQ .next asL hU tkL g er gs trivial)
  | _=>exact fr.elim
 | ret v=>induction fl using PySem.Flow.casesOn with
  | ret u=>exact hR _ _ (spS h hQ (.ret u) asL hU tkL g er gs fr)
  | _=>exact fr.elim
inductive f2d(Lx:LxP)(base:Heap)(Γ:G)(env:Env)(as:List (List Addr))(s:Shared)(n:Nat)(bs:List S)(t:T)(vs:List V)(St:Nat->List (List Addr)->Heap->Prop)(P:Mu->Prop)(d:∀ μ,Decidable (P μ))(f:F)(ρ':Rho)(μ':Mu)(m:Nat)(s':Shared):Prop
 | mk (i:Nat) (ρI:Rho) (μ₁:Mu) (asI:List (List Addr)) (hY:Heap) (tkI:Nat) (hm:m=vs.length-i) (hi:i<=vs.length) (hs:s'={ s with heap:=hY,toks:=tkI}) (hf:a3h (fun ρ μ=>exec Γ n bs ρ μ) t P (vs.drop i) ρI μ₁=some (f,ρ',μ')) (er:ER Γ.tbl base env ρI asI hY) (gr:GR Lx base μ₁ asI hY) (st:St i asI hY) (gs:GoS (Wf Γ.tbl env) as s.heap asI hY)
theorem d1b{n k:Nat}{mt:List Str}{tg:Expr}{t:T}{body:List Stmt}{bs:List S}{itv:Value}{own:List Addr}{vs:List V}{St:Nat->List (List Addr)->Heap->Prop}{P:Mu->Prop}{d:∀ μ,Decidable (P μ)}{ρ':Rho}{μ':Mu}{f:F}{Q:Flow->Shared->Prop}{R:Result->Shared->Prop}
  (X:b2m prog w Lx base Γ n) (nd:∀(i j:Nat) (x:Str),Γ.tbl[i]?=some x->Γ.tbl[j]?=some x->i=j) (hown:∀ x,a1g env.scope x=true->(nid Γ.tbl x).isSome=true) (hint:interactive env=false) (rm:Room A n) (c:ScR env.scope env) (tt:a1q Γ.tbl env.scope tg=some t) (tb:trS.trSs Γ.tbl mt k env.scope body=some bs)
  (wk:Wk prog w Lx A base s.heap tg itv own vs St P) (hCo:∀ a,Wf Γ.tbl env a->a∉own) (hR:∀ fl s',Q fl s'->R (.ok fl) s')
  (hQ:SPost Lx base Γ.tbl env as s f ρ' μ' Q) :
  ∀(rest:List V) (i:Nat) (ρI:Rho) (μ₁:Mu) (asI:List (List Addr)) (hY:Heap) (tkI:Nat),vs.drop i=rest->i<=vs.length->a3h (fun ρ μ=>exec Γ n bs ρ μ) t P rest ρI μ₁=some (f,ρ',μ') →
   ER Γ.tbl base env ρI asI hY->GR Lx base μ₁ asI hY->St i asI hY->GoS (Wf Γ.tbl env) as s.heap asI hY →
   codeAny (model prog w) A (.forLoop tg itv body [] env) R { s with heap:=hY,toks:=tkI}:=by
 intro rest i ρI μ₁ asI hY tkI hd hi hf er gr st gs;refine codeAny_forLoop_any (f2d Lx base Γ env as s n bs t vs St P d f ρ' μ') (fun m s' hm=>?_) (vs.length-i) (.mk i ρI μ₁ asI hY tkI rfl hi rfl (by rw [hd];exact hf) er gr st gs);clear hd hf er gr st gs hi;obtain⟨i,ρI,μ₁,asI,hY,tkI,rfl,hi,rfl,hf,er,gr,st,gs⟩:=hm;generalize hI:f2d Lx base Γ env as s n bs t vs St P d f ρ' μ'=I;have hfr:∀ a∈own,s.heap.get? a=.none:=fun a ha=>(wk.fresh a ha).1;rcases Nat.lt_or_ge i vs.length with hlt | hge
 ·obtain⟨v,hv⟩:∃ v,vs[i]?=some v:=⟨vs[i],List.getElem?_eq_getElem hlt⟩
  have hdr:vs.drop i=v::vs.drop (i+1):=by
   rw [List.drop_eq_getElem_cons hlt];have:vs[i]=v:=by rw [List.getElem?_eq_getElem hlt]at hv;exact Option.some.inj hv
   rw [this]
  rw [hdr]at hf;refine b7h hf fun ρ₂ fK ρK μ₃ hP hb he hf=>?_;generalize notedBy (model prog w) A env (fun e s'=>R (.error e) s')=EO;refine wpAny_mono (wk.item i _ asI { s with heap:=hY,toks:=tkI} (fun u s'=>wpAny (model prog w) A (assign tg env u) (fun zz sJ=>wpAny (model prog w) A (execs body env) (fun fl sK=>match fl with
     | .next | .cont=>∃ m,m<vs.length-i/\I m sK
     | .brk=>R (.ok .next) sK
     | .ret v=>R (.ok (.ret v)) sK) EO sJ) EO s') EO v hv hP gr st fun u h' tk ru st' gr' ks mv=>?_) (fun r s' hr'=>?_) fun zz zz e=>e
  ·have er':=er.mvs hCo mv ks
   have gs':=gs.mv hfr mv gr'.alive;refine a5e (b3y er' hown) (fun a ha=>ha) nd tt rm.calm hb er' gr' ru fun hJ tkJ gJ erJ gsJ ksJ=>?_;have stJ:=wk.stay _ _ _ _ _ st' (gsJ.sf (fun a ha o ho=>er'.wk a ha o ho) fun a ha q=>hCo a q ha);have gsK:=gs'.trans gsJ er'.there;refine X bs mt k body A EO env _ _ _ _ asI _ _ _ tb hown hint rm c erJ gJ he fun fl asL hU tkL gU erL gsL fr=>?_;have gsM:=gsK.trans gsL erJ.there;exact b5p (s:=s) hR hQ hf fr gU erL gsM fun hf=>⟨vs.length-(i+1),by omega,hI▸.mk (i+1) ρK μ₃ asL hU tkL rfl hlt rfl hf erL gU ( wk.stay _ _ _ _ _ stJ (gsL.sf (fun a ha o ho=>erJ.wk a ha o ho) fun a ha q=>hCo a q ha)) gsM⟩
  ·induction r using Option.casesOn with
   | none=>exact hr'.elim
   | some u=>exact hr'
 ·have hi':i=vs.length:=by omega
  subst hi';rw [List.drop_length]at hf;refine ifS hf fun hP hf=>?_;refine wk.done _ asI _ _ _ hP gr st fun h' tk gr' ks mv=>?_;have er':=er.mvs hCo mv ks;exact wpAny_execs_nil (hR _ _ (spS hf hQ .next asI h' tk gr' er' (gs.mv hfr mv gr'.alive) trivial))
section
variable{γ:Type}{r:γ}{G:Prop}
theorem mo2{e:Option M}{f:Nat->Nat->Int->Option γ}(h:(match e with | some (.obj [a,b] n)=>f a b n | _=>.none)=some r)(k:∀ a b n,e=some (.obj [a,b] n)->f a b n=some r->G):G:=by
 induction e using Option.casesOn with
 | none=>exact ns h
 | some m=>induction m using Mine.M.casesOn with
  | list _=>exact ns h
  | obj is n=>induction is using List.casesOn with
   | nil=>exact ns h
   | cons x is=>induction is using List.casesOn with
    | nil=>exact ns h
    | cons y is=>induction is using List.casesOn with
     | cons _ _=>exact ns h
     | nil=>exact k x y n rfl h
theorem mo3{e:Option M}{f:Nat->Nat->Option γ}(h:(match e with | some (.obj [a,b] (-3))=>f a b | _=>.none)=some r)(k:∀ a b,e=some (.obj [a,b] (-3))->f a b=some r->G):G:=by
 induction e using Option.casesOn with
 | none=>exact ns h
 | some m=>induction m using Mine.M.casesOn with
  | list _=>exact ns h
  | obj is n=>induction is using List.casesOn with
   | nil=>exact ns h
   | cons x is=>induction is using List.casesOn with
    | nil=>exact ns h
    | cons y is=>induction is using List.casesOn with
     | cons _ _=>exact ns h
     | nil=>induction n using Int.casesOn with
      | ofNat _=>exact ns h
      | negSucc m=>rcases m with _ | _ | _ | m<;>first | exact ns h | exact k x y rfl h
theorem mLC{e e':Option M}{f:List V->Option γ}(h:(match e,e' with | some (.list L),some (.obj [] (-6))=>f L | _,_=>.none)=some r)(k:∀ L,e=some (.list L)->e'=some (.obj [] (-6))->f L=some r->G):G:=by
 induction e using Option.casesOn with
 | none=>exact ns h
 | some m=>induction m using Mine.M.casesOn with
  | obj _ _=>exact ns h
  | list L=>induction e' using Option.casesOn with
   | none=>exact ns h
   | some m=>induction m using Mine.M.casesOn with
    | list _=>exact ns h
    | obj is n=>induction is using List.casesOn with
     | cons _ _=>exact ns h
     | nil=>induction n using Int.casesOn with
      | ofNat _=>exact ns h
      | negSucc m=>rcases m with _ | _ | _ | _ | _ | _ | m<;>first | exact ns h | exact k L rfl rfl h
theorem mD{e:Option M}{f:Nat->Option γ}{a:Option γ}(h:(match e with | some (.obj [k] (-2))=>f k | some (.obj [_] (-4))=>a | _=>.none)=some r)(k1:∀ k,e=some (.obj [k] (-2))->f k=some r->G)(k2:∀ k,e=some (.obj [k] (-4))->a=some r->G):G:=by
 induction e using Option.casesOn with
 | none=>exact ns h
 | some m=>induction m using Mine.M.casesOn with
  | list _=>exact ns h
  | obj is n=>induction is using List.casesOn with
   | nil=>exact ns h
   | cons x is=>induction is using List.casesOn with
    | cons _ _=>exact ns h
    | nil=>induction n using Int.casesOn with
     | ofNat _=>exact ns h
     | negSucc m=>rcases m with _ | _ | _ | _ | m<;>first | exact ns h | exact k1 x rfl h | exact k2 x rfl h
theorem mG{e:Option V}{a:Option γ}{f:Nat->Option γ}(h:(match e with | .none=>a | some (.str [c])=>f c | _=>.none)=some r)(k1:e=.none->a=some r->G)(k2:∀ c,e=some (.str [c])->f c=some r->G):G:=by
 induction e using Option.casesOn with
 | none=>exact k1 rfl h
 | some v=>induction v using Mine.V.casesOn with
  | str x=>induction x using List.casesOn with
   | nil=>exact ns h
   | cons c x=>induction x using List.casesOn with
    | nil=>exact k2 c rfl h
    | cons _ _=>exact ns h
  | _=>exact ns h
end
theorem b2t{μ μ':Mu}{k:Nat}{c:List Nat}{G:Prop}(h:a0r μ k=some (c,μ'))(K:∀ kp ks kl kc n L,μ[k]?=some (.obj [kp,ks] n)->1<=n->μ[ks]?=some (.obj [kl,kc] (-3))->μ[kl]?=some (.list L)->μ[kc]?=some (.obj [] (-6))->L.length<=big →
  ((L.getLast?=.none/\c=[]/\μ'=μ)∨∃ z,L.getLast?=some (.str [z])/\z<1114112/\c=[z]/\(z=10/\μ'=(μ.set kl (.list L.dropLast)).set k (.obj [kp,ks] (n+1))∨z≠10/\μ'=μ.set kl (.list L.dropLast)))->G):G:=by
 refine mo2 (e:=μ[k]?) h fun kp ks n hk h=>ifS h fun hn h=>mo3 h fun kl kc hs h=>mLC h fun L hL hC h=>ifS h fun hl h=>K kp ks kl kc n L hk hn hs hL hC hl ?_;refine mG h (fun hg h=>sp h fun e1 e2=>.inl ⟨hg,e1.symm,e2.symm⟩) fun z hg h=>?_;exact ifS h fun hz h=>ifE h (fun hq h=>sp h fun e1 e2=>.inr ⟨z,hg,hz,e1.symm,.inl ⟨hq,e2.symm⟩⟩) fun hq h=>sp h fun e1 e2=>.inr ⟨z,hg,hz,e1.symm,.inr ⟨hq,e2.symm⟩⟩
theorem a3u{μ μ':Mu}{k kf:Nat}{c:List Nat}{is:List Nat}(h:a0r μ k=some (c,μ'))(hf:μ[kf]?=some (.obj is (-2))):μ'[kf]?=some (.obj is (-2)):=by
 refine b2t h fun kp ks kl kc n L hk hn hs hL hC zz q=>?_;have h1:kf≠k:=fun q=>by rw [q,hk]at hf;cases hf;exact absurd hn (by decide)
 have h2:kf≠kl:=fun q=>by rw [q,hL]at hf;cases hf
 rcases q with⟨_,_,rfl⟩ | ⟨z,_,_,_,⟨_,rfl⟩ | ⟨_,rfl⟩⟩
 ·exact hf
 ·rw [List.getElem?_set_ne (fun z=>h1 z.symm),List.getElem?_set_ne (fun z=>h2 z.symm)];exact hf
 ·rw [List.getElem?_set_ne (fun z=>h2 z.symm)];exact hf
theorem b9e{μ μ':Mu}{kf:Nat}{r:Option (List Nat)}{G:Prop}(h:draw μ kf=some (r,μ'))(K1:∀ k c μ₁,μ[kf]?=some (.obj [k] (-2))->a0r μ k=some (c,μ₁)->((c=[]/\r=.none/\μ'=μ₁.set kf (.obj [k] (-4)))∨(c≠[]/\r=some c/\μ'=μ₁))->G)
  (K2:∀ k,μ[kf]?=some (.obj [k] (-4))->r=.none->μ'=μ->G):G:=by
 refine mD (e:=μ[kf]?) h (fun k hk h=>?_) fun k hk h=>sp h fun e1 e2=>K2 k hk e1.symm e2.symm;induction hr:a0r μ k using Option.casesOn with
 | none=>rw [hr]at h;exact ns h
 | some p=>
  obtain⟨c,μ₁⟩:=p;rw [hr]at h;induction c using List.casesOn with
  | nil=>exact sp h fun e1 e2=>K1 k _ μ₁ hk hr (.inl ⟨rfl,e1.symm,e2.symm⟩)
  | cons a c=>exact sp h fun e1 e2=>K1 k _ μ₁ hk hr (.inr ⟨List.cons_ne_nil _ _,e1.symm,e2.symm⟩)
theorem c5u{μ μ':Mu}{kf:Nat}{r:Option (List Nat)}(h:draw μ kf=some (r,μ')):(∃ k m,μ[kf]?=some (.obj [k] m)/\(m = -2∨m = -4))/\∃ k m,μ'[kf]?=some (.obj [k] m)/\(m = -2∨m = -4):=
 b9e h (fun k c μ₁ hk hr q=>⟨⟨k,_,hk,.inl rfl⟩,by
  have:=a3u hr hk;rcases q with⟨_,_,rfl⟩ | ⟨_,_,rfl⟩
  ·exact⟨k,-4,by rw [List.getElem?_set_self (List.getElem?_eq_some_iff.mp this).1],.inr rfl⟩
  ·exact⟨k,-2,this,.inl rfl⟩⟩) fun k hk zz e=>by subst e;exact⟨⟨k,_,hk,.inr rfl⟩,⟨k,_,hk,.inr rfl⟩⟩
theorem c1w{f:Rho->Mu->Option (F×Rho×Mu)}{t:T}{kf m:Nat}{ρ ρ':Rho}{μ μ':Mu}{g:F}{G:Prop}(h:a2t f t kf (m+1) ρ μ=some (g,ρ',μ'))(k1:∀ μ₂,draw μ kf=some (.none,μ₂)->some (F.next,ρ,μ₂)=some (g,ρ',μ')->G)
  (k2:∀ c μ₂ ρ₂ fK ρK μ₃,draw μ kf=some (some c,μ₂)->a2b t (.str c) ρ=some ρ₂->f ρ₂ μ₂=some (fK,ρK,μ₃)->d7i fK ρK μ₃ (a2t f t kf m ρK μ₃)=some (g,ρ',μ')->G):G:=by
 have h:(match (generalizing:=false) draw μ kf with | .none=>.none | some (.none,μ)=>_ | some (some c,μ)=>_)=some (g,ρ',μ'):=h
 induction q:draw μ kf using Option.casesOn with
 | none=>rw [q]at h;exact ns h
 | some p=>
  obtain⟨c,μ₂⟩:=p;rw [q]at h;induction c using Option.casesOn with
  | none=>exact k1 μ₂ q h
  | some c=>
   dsimp only at h;induction q1:a2b t (.str c) ρ using Option.casesOn with
   | none=>rw [q1]at h;exact ns h
   | some ρ₂=>
    rw [q1]at h;dsimp only at h;induction q2:f ρ₂ μ₂ using Option.casesOn with
    | none=>rw [q2]at h;exact ns h
    | some p=>
     obtain⟨x,ρK,μ₃⟩:=p;rw [q2]at h;cases x<;>exact k2 c μ₂ ρ₂ _ ρK μ₃ q q1 q2 h
inductive e2b(Lx:LxP)(base:Heap)(Γ:G)(env:Env)(as:List (List Addr))(s:Shared)(n:Nat)(bs:List S)(t:T)(kf:Nat)(f:F)(ρ':Rho)(μ':Mu)(m:Nat)(s':Shared):Prop
 | mk (ρI:Rho) (μ₁:Mu) (asI:List (List Addr)) (hY:Heap) (tkI:Nat) (hs:s'={ s with heap:=hY,toks:=tkI}) (hf:a2t (fun ρ μ=>exec Γ n bs ρ μ) t kf m ρI μ₁=some (f,ρ',μ')) (er:ER Γ.tbl base env ρI asI hY) (gr:GR Lx base μ₁ asI hY) (gs:GoS (Wf Γ.tbl env) as s.heap asI hY)
theorem c3p{n k:Nat}{mt:List Str}{tg:Expr}{t:T}{body:List Stmt}{bs:List S}{kf:Nat}{a:Addr}{q:List Addr}{ρ':Rho}{μ':Mu}{f:F}{Q:Flow->Shared->Prop}{R:Result->Shared->Prop}
  (LX:a5q prog w Lx base Γ n) (on:Γ.lexOn=true) (hn:12<=n) (X:b2m prog w Lx base Γ n) (nd:∀(i j:Nat) (x:Str),Γ.tbl[i]?=some x->Γ.tbl[j]?=some x->i=j) (hown:∀ x,a1g env.scope x=true->(nid Γ.tbl x).isSome=true) (hint:interactive env=false) (rm:Room A n) (c:ScR env.scope env) (tt:a1q Γ.tbl env.scope tg=some t) (htg:b6k tg=true) (tb:trS.trSs Γ.tbl mt k env.scope body=some bs)
  (hR:∀ fl s',Q fl s'->R (.ok fl) s') (ha:as[kf+1]?=some (a::q))
  (hQ:SPost Lx base Γ.tbl env as s f ρ' μ' Q) :
  ∀(m:Nat) (ρI:Rho) (μ₁:Mu) (asI:List (List Addr)) (hY:Heap) (tkI:Nat),a2t (fun ρ μ=>exec Γ n bs ρ μ) t kf m ρI μ₁=some (f,ρ',μ') →
   ER Γ.tbl base env ρI asI hY->GR Lx base μ₁ asI hY->GoS (Wf Γ.tbl env) as s.heap asI hY →
   codeAny (model prog w) A (.forLoop tg (.ref a) body [] env) R { s with heap:=hY,toks:=tkI}:=by
 intro m ρI μ₁ asI hY tkI hf er gr gs;refine codeAny_forLoop_any (e2b Lx base Γ env as s n bs t kf f ρ' μ') (fun m s' hm=>?_) m (.mk ρI μ₁ asI hY tkI rfl hf er gr gs);clear hf er gr gs;obtain⟨ρI,μ₁,asI,hY,tkI,rfl,hf,er,gr,gs⟩:=hm;generalize hI:e2b Lx base Γ env as s n bs t kf f ρ' μ'=I;have haI:asI[kf+1]?=some (a::q):=by
  obtain⟨nw,rfl,_⟩:=gs.ext;rw [List.getElem?_append_left (List.getElem?_eq_some_iff.mp ha).1];exact ha
 induction m using Nat.casesOn with
 | zero=>exact ns hf
 | succ m=>
  generalize notedBy (model prog w) A env (fun e s'=>R (.error e) s')=EO;refine c1w hf (fun μ₂ hd hf=>?_) fun cc μ₂ ρ₂ fK ρK μ₃ hd hb he hf=>?_
  ·refine LX.draw A EO _ asI μ₁ μ₂ kf a q .none _ on hn rm gr haI hd fun h' tk rv g' go' hr=>?_
   cases hr;exact wpAny_execs_nil (hR _ _ (spS hf hQ .next asI h' tk g' (er.go go') (gs.trans go'.toS er.there) trivial))
  ·obtain⟨_,kJ,mJ,hkJ,hmJ⟩:=c5u hd
   refine LX.draw A EO _ asI μ₁ μ₂ kf a q (some cc) _ on hn rm gr haI hd fun h' tk rv g' go' hr=>?_;obtain⟨ttO,rfl⟩:=hr;have er':=er.go go';have gs':=gs.trans go'.toS er.there;refine LX.lets A EO { s with heap:=h',toks:=tk} asI μ₂ kf a q [kJ] mJ tg _ _ on g' haI hkJ hmJ htg ?_;refine a5e (b3y er' hown) (fun a ha=>ha) nd tt rm.calm hb er' g' ⟨_,rfl⟩ fun hJ tkJ gJ erJ gsJ ksJ=>?_;have gsK:=gs'.trans gsJ er'.there;refine X bs mt k body A EO env _ _ _ _ asI _ _ _ tb hown hint rm c erJ gJ he fun fl asL hU tkL gU erL gsL fr=>?_;have gsM:=gsK.trans gsL erJ.there;exact b5p (s:=s) hR hQ hf fr gU erL gsM fun hf=>⟨m,Nat.lt_succ_self m,hI▸.mk ρK μ₃ asL hU tkL rfl hf erL gU gsM⟩
end
end
section
section
variable{prog:Program}{w:World}{Lx:LxP}{base:Heap}{Γ:G}
variable{A:Around}{E:Value->Shared->Prop}{env:Env}{ρ:Rho}{as:List (List Addr)}{s:Shared}
theorem a5k{x:Str}{p pos:Pos}{e:Expr}{Q:Flow->Shared->Prop}(h:wpAny (model prog w) A (eval e env) (fun v sI=>wpAny (model prog w) A (storeName env x v) (fun zz=>Q .next) E sI) E s)(hs:swapsWith e (some (.Name x p)) pos.line env=pure false) :
  wpAny (model prog w) A (PySem.exec (.Assign [.Name x p] e pos) env) Q E s:=wpAny_Assign_Name h hs
theorem d9w{e:Expr}(h:b0q e=true):isList e=false:=by induction e using PySem.Expr.casesOn<;>first | rfl | exact nt h
theorem d7p{tbl:List Str}{k line:Nat}{sc:Scope}{e:Expr}{y:Mine.X}(hcmp:b0q e=false)(t:trE tbl k sc e=some y):swapsWith e none line env=pure false:=by
 induction e using PySem.Expr.casesOn with
 | ListComp _ _ _ _=>cases hcmp
 | SetComp _ _ _ _=>cases k<;>exact ns t
 | DictComp _ _ _ _ _=>cases k<;>exact ns t
 | _=>rfl
theorem b9g {tbl:List Str} {env:Env} {ρ:Rho} {i:Nat} {x:Str} {v:V} {Q:Value->Shared->Prop} (er:ER tbl base env ρ as s.heap) (hx:nid tbl x=some i) (hv:a4z env.scope x=true) (hc:(x==("__classdict__":Str))=false) (hρ:ρ.lookup i=some v)
  (h:∀ u,Rep s.heap as v u->Q u s):wpAny (model prog w) A (loadName env x) Q E s:=by
 rcases b1s hv with hk | hk | hk
 ·obtain⟨m,hn,hl⟩:=er.loc
  obtain⟨u,h1,h2⟩:=hl i x v (a0n hx) hk hρ;exact wpAny_loadName_local er.kind hk hn h1 (h u h2)
 ·obtain⟨c,u,h1,_,_,h2,h3⟩:=er.cel i x (a0n hx) (.inl hk)
  obtain⟨u',rfl,r⟩:=h3 v hρ;exact wpAny_loadName_cell er.kind hk h1 h2 (h u' r)
 ·obtain⟨c,u,h1,_,_,h2,h3⟩:=er.cel i x (a0n hx) (.inr hk)
  obtain⟨u',rfl,r⟩:=h3 v hρ;exact wpAny_loadName_free er.kind hk h1 h2 (h u' r) hc
theorem e2h{tbl:List Str}{env:Env}{ρ:Rho}{i:Nat}{x:Str}{v:V}{Q:Value->Shared->Prop}(er:ER tbl base env ρ as s.heap)(hx:nid tbl x=some i)(hv:a1g env.scope x=true)(hρ:ρ.lookup i=some v)
  (h:∀ u,Rep s.heap as v u->Q u s):wpAny (model prog w) A (loadName env x) Q E s:=by
 rcases a6z hv with hk | hk
 ·obtain⟨m,hn,hl⟩:=er.loc
  obtain⟨u,h1,h2⟩:=hl i x v (a0n hx) hk hρ;exact wpAny_loadName_local er.kind hk hn h1 (h u h2)
 ·obtain⟨c,u,h1,_,_,h2,h3⟩:=er.cel i x (a0n hx) (.inl hk)
  obtain⟨u',rfl,r⟩:=h3 v hρ;exact wpAny_loadName_cell er.kind hk h1 h2 (h u' r)
theorem d2u{a b:List Nat}{t u:Tok}{Q:Value->Shared->Prop}(hl:a.length+b.length<=big)(h:∀ t' tk',Q (.str ⟨(a++b).toArray⟩ t') { s with toks:=tk'}):wpAny (model prog w) A (inplaceOp .Add (.str ⟨a.toArray⟩ t) (.str ⟨b.toArray⟩ u)) Q E s:=by
 have e:(⟨a.toArray⟩:Str)++(⟨b.toArray⟩:Str)=⟨(a++b).toArray⟩:=by
  show(⟨a.toArray++b.toArray⟩:Str)=_;simp
 refine iadd_str (fun t' tk'=>by rw [e];exact h t' tk') ?_;have e2:(⟨a.toArray⟩:Str).length+(⟨b.toArray⟩:Str).length=a.length+b.length:=by simp [Str.length]
 rw [e2,sizeLine_eq];unfold big at hl;omega
theorem e2y(S:Snd prog w Lx base Γ)(nd:∀(i j:Nat) (x:Str),Γ.tbl[i]?=some x->Γ.tbl[j]?=some x->i=j){n k i:Nat}{x:Str}{p pos:Pos}{e:Expr}{y:Mine.X}{u v r:V}{μ μ₁:Mu}{Q:Flow->Shared->Prop}
  (hx:nid Γ.tbl x=some i) (ho:a1g env.scope x=true) (te:trE Γ.tbl k env.scope e=some y) (rm:Room A n) (c:ScR env.scope env) (er:ER Γ.tbl base env ρ as s.heap) (gr:GR Lx base μ as s.heap) (hu:ρ.lookup i=some u) (h1:ev Γ n y ρ μ=some (v,μ₁)) (hop:c2l .Add u v=some r)
  (hQ:SPost Lx base Γ.tbl env as s .next (put i r ρ) μ₁ Q):wpAny (model prog w) A (PySem.exec (.AugAssign (.Name x p) .Add e pos) env) Q E s:=by
 refine wpAny_AugAssign_Name (e2h er hx ho hu fun a ra=>?_);refine(a3m S nd n).1 y k env.scope e te A E env ρ μ as s v μ₁ _ rm c er gr h1 fun b asI hY tk gI goI rb=>?_;have ra:=ra.go goI;have fin:∀ {w':Value} {tk':Nat},Rep hY asI r w'->wpAny (model prog w) A (storeName env x w') (fun zz=>Q .next) E { s with heap:=hY,toks:=tk'}:=fun {w' tk'} rw'=>
  b0x (s:={ s with heap:=hY,toks:=tk'}) nd hx ho (er.go goI) gI rw' fun hJ tkJ gJ erJ gsJ ksJ=>hQ .next asI hJ tkJ gJ erJ (goI.toS.trans gsJ (er.go goI).there) trivial
 induction u using Mine.V.casesOn with
 | str a=>induction v using Mine.V.casesOn with
  | str b=>
   refine ifS hop fun hl hop=>?_;obtain rfl:=Option.some.inj hop;obtain⟨t1,rfl⟩:=ra;obtain⟨t2,rfl⟩:=rb;exact d2u (of_decide_eq_true hl) fun t' tk'=>fin ⟨t',rfl⟩
  | _=>exact ns hop
 | _=>induction v using Mine.V.casesOn<;>exact ns hop
theorem d0a{n k:Nat}(LX:a5q prog w Lx base Γ n)(on:Γ.lexOn=true)(hn:12<=n)(X:b2m prog w Lx base Γ n)(nd:∀(i j:Nat) (x:Str),Γ.tbl[i]?=some x->Γ.tbl[j]?=some x->i=j){mt:List Str}{tg it:Expr}{body:List Stmt}{pos:Pos}{x:Str}{t:T}{i kf:Nat}{bs:List Mine.S}{ρ':Rho}{μ μ':Mu}{f:F}{Q:Flow->Shared->Prop}
  (hown:∀ x,a1g env.scope x=true->(nid Γ.tbl x).isSome=true) (hint:interactive env=false) (rm:Room A n) (c:ScR env.scope env) (hch:f1t env.scope it=some x) (tt:a1q Γ.tbl env.scope tg=some t) (hx:nid Γ.tbl x=some i) (tb:trS.trSs Γ.tbl mt k env.scope body=some bs)
  (er:ER Γ.tbl base env ρ as s.heap) (gr:GR Lx base μ as s.heap) (hρ:ρ.lookup i=some (.mut kf)) (h:a2t (fun ρ μ=>exec Γ n bs ρ μ) t kf big ρ μ=some (f,ρ',μ')) (hQ:SPost Lx base Γ.tbl env as s f ρ' μ' Q) :
  wpAny (model prog w) A (PySem.exec (.For tg it body [] pos) env) Q E s:=by
 induction it using PySem.Expr.casesOn with
 | Name y p=>
  refine ifS hch fun hy hch=>?_;obtain rfl:=Option.some.inj hch;obtain rfl:=eq_of_beq (a0d hy);refine wpAny_For (wpAny_Name (b9g er hx (a0f hy) (by decide) hρ fun u ru=>?_) (by decide)) fun v=>rfl;obtain⟨a,q,ha,rfl⟩:=ru;obtain⟨⟨r,μ₂⟩,hd⟩:∃ r,Mine.draw μ kf=some r:=by
   induction hd:Mine.draw μ kf using Option.casesOn with
   | some r=>exact⟨r,rfl⟩
   | none=>
    have h:a2t (fun ρ μ=>exec Γ n bs ρ μ) t kf (999999+1) ρ μ=some (f,ρ',μ'):=h;unfold a2t at h;rw [hd]at h;exact ns h
  obtain⟨⟨kI,mI,hkI,hmI⟩,_⟩:=c5u hd;refine LX.self A E s as μ kf a q [kI] mI _ on gr ha hkI hmI ?_;exact c3p (f:=f) (ρ':=ρ') (μ':=μ') (Q:=Q) LX on hn X nd hown hint rm c tt (a7v tt) tb (fun fl s' q=>q) ha hQ big ρ μ as s.heap s.toks h er gr (GoS.refl gr)
 | _=>exact ns hch
theorem f2u(tbl:List Str)(mt:List Str)(k:Nat)(sc:Scope)(ts:List Expr)(kk:Nat)(p:Pos)(v:Expr)(pos:Pos):(∃ vs k p,v=.Tuple vs k p)∨(trS tbl mt (k+1) sc (.Assign [.Tuple ts kk p] v pos)=((a1o (a9g tbl sc) ts).bind fun is=>(trE tbl k sc v).map fun e=>.unpack is e)/\∀ vs k p,v≠.Tuple vs k p):=by
 generalize hq:((a1o (a9g tbl sc) ts).bind fun is=>(trE tbl k sc v).map fun e=>Mine.S.unpack is e)=q;induction v using PySem.Expr.casesOn with
 | Tuple vs k p=>exact .inl ⟨vs,k,p,rfl⟩
 | _=>exact .inr ⟨hq,fun zz zz zz h=>nomatch h⟩
theorem b7k(S:Snd prog w Lx base Γ)(nd:∀(i j:Nat) (x:Str),Γ.tbl[i]?=some x->Γ.tbl[j]?=some x->i=j){n:Nat}(LX:a5q prog w Lx base Γ n)(X:b2m prog w Lx base Γ n){k:Nat}{mt:List Str}{st:Stmt}{x:Mine.S}{ρ':Rho}{μ μ':Mu}{f:F}{Q:Flow->Shared->Prop}
  (t:trS Γ.tbl mt k env.scope st=some x) (hown:∀ x,a1g env.scope x=true->(nid Γ.tbl x).isSome=true) (hint:interactive env=false) (rm:Room A n) (c:ScR env.scope env) (er:ER Γ.tbl base env ρ as s.heap) (gr:GR Lx base μ as s.heap) (h:a0e Γ n x ρ μ=some (f,ρ',μ'))
  (hQ:SPost Lx base Γ.tbl env as s f ρ' μ' Q):wpAny (model prog w) A (PySem.exec st env) Q E s:=by
 induction k using Nat.casesOn with
 | zero=>exact ns t
 | succ k=>
  cases st with
  | Assign targets v pos=>induction targets using List.casesOn with
   | nil=>exact ns t
   | cons t0 ts=>induction ts using List.casesOn with
    | cons _ _=>induction t0 using PySem.Expr.casesOn<;>exact ns t
    | nil=>induction t0 using PySem.Expr.casesOn with
     | Name x p=>
      refine ifS t fun ho t=>a0g t fun i hx t=>c4e t (fun y hfit t=>?_) fun zz t=>c4e t (fun e hlex t=>?_) fun zz t=>?_
      ·exact a1n t fun j hj e=>ifS (stx e h) fun hon h=>lkM h fun kx hρ h=>f3n h fun kp ks m hk h=>ifS h fun hm h=>
        a5k (LX.fit _ y j kx kp ks m A E env ρ μ as s _ (a0d hon) (of_decide_eq_true (a0f hon)) hfit hj hρ hk hm rm er gr fun v asI hY tk gI goI rv=>
         b0x nd hx ho (er.go goI) gI rv fun hJ tkJ gJ erJ gsJ ksJ=>spS h hQ .next asI hJ tkJ gJ erJ (goI.toS.trans gsJ (er.go goI).there) trivial) (c7h hfit fun zz zz zz zz zz zz e zz zz zz zz=>e▸rfl)
      ·exact a1n t fun y t e1=>ifS (stx e1 h) fun hon h=>f0g h fun ks μ₁ h1 h=>f4q h fun kl kc hks h=>
        a5k (LX.new (a0d hon) (of_decide_eq_true (a0f hon)) k e _ y A E env ρ μ as s ks kl kc μ₁ _ hlex t rm c er gr h1 hks fun v asI hY tk gI goI rv=>
         b0x nd hx ho (er.go goI) gI rv fun hJ tkJ gJ erJ gsJ ksJ=>spS h hQ .next asI hJ tkJ gJ erJ (goI.toS.trans gsJ (er.go goI).there) trivial) (c5a hlex fun zz zz e zz zz=>e▸rfl)
      ·exact a1n t fun y t e=>a7b (stx e h) fun v μ₁ h1 h=>b1e S nd hx ho t rm c er gr h1 (fun hc=>by rw [d9w hc,Bool.and_false]) (spS h hQ)
     | Tuple ts kk p=>
      rcases f2u Γ.tbl mt k env.scope ts kk p v pos with⟨vs,k',p',rfl⟩ | ⟨q,hnt⟩
      ·exact ifS t fun hq t=>a0g t fun is hi t=>a0g t fun l tl t=>ifS t fun hnd t=>a7b (stx (Option.some.inj t) h) fun v μ₁ h1 h=>a1n h fun ρI hu h=>
        c3j S nd hown hi hnd (a0d hq) (c3k (a0f hq)) tl rm c er gr h1 hu (spS (congrArg some h) hQ)
      ·exact a0g (q.symm.trans t) fun is hi t=>a1n t fun e te e1=>a7b (stx e1 h) fun v μ₁ h1 h=>a1n h fun ρI hu h=>b8g S nd hown hi hnt te rm c er gr h1 hu (spS (congrArg some h) hQ)
     | _=>exact ns t
  | If c0 a b pos=>
   exact a0g t fun cx tc t=>a0g t fun ax ta t=>a1n t fun bx tb e=>a7b (stx e h) fun v μ₁ h1 h=>wpAny_If (d3a h
    (fun h2 h=>(a3m S nd n).2 cx k env.scope _ tc A E env ρ μ as s v true μ₁ _ rm c er gr h1 h2 fun asI hY tk gI goI=>X _ mt k _ A E env ρ _ _ _ asI _ f _ ta hown hint rm c (er.go goI) gI h (hQ.after goI.toS (er.go goI).there))
    fun h2 h=>(a3m S nd n).2 cx k env.scope _ tc A E env ρ μ as s v false μ₁ _ rm c er gr h1 h2 fun asI hY tk gI goI=>X _ mt k _ A E env ρ _ _ _ asI _ f _ tb hown hint rm c (er.go goI) gI h (hQ.after goI.toS (er.go goI).there))
  | AugAssign tg op e pos=>induction tg using PySem.Expr.casesOn with
   | Name x p=>cases op with
    | Add=>exact ifS t fun ho t=>a0g t fun i hx t=>a1n t fun ex te e1=>f4d (stx e1 h) fun u hu h=>a7b h fun v μ₁ h1 h=>a1n h fun r hop h=>e2y S nd hx ho te rm c er gr hu h1 hop (spS (congrArg some h) hQ)
    | _=>exact ns t
   | Attribute o a p=>induction o using PySem.Expr.casesOn with
    | Name x p'=>cases op with
     | Add=>induction e using PySem.Expr.casesOn with
      | Constant cst kd pc=>induction cst using PySem.Const.casesOn with
       | int z=>induction z using Int.casesOn with
        | negSucc _=>exact ns t
        | ofNat z=>induction z using Nat.casesOn with
         | zero=>exact ns t
         | succ z=>induction z using Nat.casesOn with
          | succ _=>exact ns t
          | zero=>
           exact ifS t fun hq t=>a1n t fun j hj e=>lkM (stx e h) fun kx hρ h=>f3w h fun is m hk h=>ifS h fun hm h=>
            LX.line _ _ _ _ _ _ _ j kx is m A E env ρ μ as s Q (a0d (a0d (a0d hq))) (eq_of_beq (a0f (a0d (a0d hq)))) hj (c3k (a0f (a0d hq))) (c3k (a0f hq)) hρ hk hm rm er gr fun h' tk g' go'=>spS h hQ .next as h' tk g' (er.go go') go'.toS trivial
       | _=>exact ns t
      | _=>exact ns t
     | _=>exact ns t
    | _=>exact ns t
   | _=>exact ns t
  | For tg it body orelse pos=>induction orelse using List.casesOn with
   | cons _ _=>exact ns t
   | nil=>
    refine c4e t (fun x hch t=>?_) fun zz t=>?_
    ·exact a0g t fun tt h1 t=>a0g t fun i h2 t=>a1n t fun bs h3 e=>ifS (stx e h) fun hon h=>lkM h fun kf hρ h=>
      d0a LX (a0d hon) (of_decide_eq_true (a0f hon)) X nd hown hint rm c hch h1 h2 h3 er gr hρ h hQ
    ·refine ifS t fun he t=>a0g t fun tt h1 t=>a0g t fun ix h2 t=>a1n t fun bs h3 e=>?_
     have core:∀(vs:List V) (μ₁:Mu) (P:Mu->Prop) (d:∀ μ,Decidable (P μ)),(∀ E Q,b2v prog w Lx base as s tg vs μ₁ P Q->wpAny (model prog w) A (eval it env) (fun v sI=>wpAny (model prog w) A (pyIter v) Q E sI) E s)->a3h (fun ρ μ=>exec Γ n bs ρ μ) tt P vs ρ μ₁=some (f,ρ',μ') →
       wpAny (model prog w) A (PySem.exec (.For tg it body [] pos) env) Q E s:=fun vs μ₁ P d hI h=>by
      refine wpAny_For (hI _ _ fun itv own St asI hY tkI wk st gI goI=>?_) fun v=>b0i h2 v;have erI:=er.go goI;refine d1b (f:=f) (ρ':=ρ') (μ':=μ') (Q:=Q) (d:=d) X nd hown hint rm c h1 h3 (wk A rm.calm) (fun a ha hm=>?_) (fun fl s' q=>q) hQ vs 0 ρ μ₁ asI hY tkI rfl (Nat.zero_le _) h erI gI st goI.toS;obtain⟨_,_,o,e,_⟩:=er.held ha;exact ns (((wk A rm.calm).fresh a hm).1.symm.trans e)
     have h:=stx e h;rw [c2u]at h;induction hi:a1s (fun x μ=>ev Γ n x ρ μ) ix μ using Option.casesOn with
     | some p=>
      rw [hi]at h;exact core p.1 p.2 (fun zz=>True) (fun zz=>instDecidableTrue) (fun E Q hQ=>c8f S (a3m S nd n).1 (a7v h1) he h2 rm c er gr hi hQ) ((b8p _ _ _).trans h)
     | none=>
      rw [hi]at h;exact a0g h fun q hq h=>core q.2.2.1 q.2.2.2 _ _ (fun E Q hQ=>b9l S (a3m S nd n).1 (a7v h1) he h2 rm c er gr hq hQ) h
  | Return e pos=>induction e using Option.casesOn with
   | none=>exact ns t
   | some e=>exact a1n t fun y t e1=>a7b (stx e1 h) fun v μ₁ h1 h=>wpAny_Return_some ((a3m S nd n).1 y k env.scope _ t A E env ρ μ as s v _ _ rm c er gr h1 fun u asI hY tk gI goI rv=>spS h hQ (.ret u) asI hY tk gI (er.go goI) goI.toS rv)
  | Expr e pos=>
   exact ifN t fun hcmp t=>a1n t fun y t e1=>a7b (stx e1 h) fun v μ₁ h1 h=>wpAny_Expr_any ((a3m S nd n).1 y k env.scope _ t A E env ρ μ as s v _ _ rm c er gr h1 fun u asI hY tk gI goI rv=>spS h hQ .next asI hY tk gI (er.go goI) goI.toS trivial) hint (d7p (Bool.eq_false_iff.mpr hcmp) t)
  | Break pos=>exact wpAny_Break (spS (stx (Option.some.inj t) h) hQ .brk as s.heap s.toks gr er (GoS.refl gr) trivial)
  | Continue pos=>exact wpAny_Continue (spS (stx (Option.some.inj t) h) hQ .cont as s.heap s.toks gr er (GoS.refl gr) trivial)
  | _=>exact ns t
end
end
section
section
variable{prog:Program}{w:World}{Lx:LxP}{base:Heap}{Γ:G}
variable{A:Around}{E:Value->Shared->Prop}{env:Env}{as:List (List Addr)}{s:Shared}
theorem c5d{f:S->Rho->Mu->Option (F×Rho×Mu)}{a:S}{b:List S}{ρ ρ':Rho}{μ μ':Mu}{g:F}{G:Prop}(h:a3j f (a::b) ρ μ=some (g,ρ',μ'))(k1:∀ ρI μ₁,f a ρ μ=some (.next,ρI,μ₁)->a3j f b ρI μ₁=some (g,ρ',μ')->G)(k2:f a ρ μ=some (g,ρ',μ')->g≠.next->G):G:=by
 have h:(match (generalizing:=false) f a ρ μ with
  | some (.next,ρ,μ)=>a3j f b ρ μ
  | x=>x)=some (g,ρ',μ'):=h
 induction q:f a ρ μ using Option.casesOn with
 | none=>rw [q]at h;exact ns h
 | some p=>
  obtain⟨x,ρI,μ₁⟩:=p;rw [q]at h;induction x using Mine.F.casesOn with
  | next=>exact k1 ρI μ₁ q h
  | _=>exact k2 (q.trans h) fun e=>by subst e;cases h
theorem b9s(S:Snd prog w Lx base Γ)(nd:∀(i j:Nat) (x:Str),Γ.tbl[i]?=some x->Γ.tbl[j]?=some x->i=j){n:Nat}(LX:a5q prog w Lx base Γ n)(X:b2m prog w Lx base Γ n){mt:List Str}(hown:∀ x,a1g env.scope x=true->(nid Γ.tbl x).isSome=true)(hint:interactive env=false)(rm:Room A n)(c:ScR env.scope env) :
  ∀(k:Nat) (stmts:List Stmt) (ss:List Mine.S) (ρ ρ':Rho) (μ μ':Mu) (as:List (List Addr)) (s:Shared) (f:F) (Q:Flow->Shared->Prop),
  trS.trSs Γ.tbl mt k env.scope stmts=some ss->ER Γ.tbl base env ρ as s.heap->GR Lx base μ as s.heap->a3j (a0e Γ n) ss ρ μ=some (f,ρ',μ') →
  SPost Lx base Γ.tbl env as s f ρ' μ' Q->wpAny (model prog w) A (execs stmts env) Q E s:=by
 intro k;induction k with
 | zero=>intro stmts ss ρ ρ' μ μ' as s f Q t er gr h hQ;exact ns t
 | succ k ih=>
  intro stmts ss ρ ρ' μ μ' as s f Q t er gr h hQ;induction stmts using List.casesOn with
  | nil=>
   obtain rfl:=Option.some.inj t;exact wpAny_execs_nil (spS h hQ .next as s.heap s.toks gr er (GoS.refl gr) trivial)
  | cons st r=>
   refine a0g t fun a t1 t=>a1n t fun b t2 e=>?_;have h:a3j (a0e Γ n) (a::b) ρ μ=_:=e▸h;refine c5d h (fun ρI μ₁ h1 h=>?_) fun h hne=>?_
   ·refine wpAny_execs_cons (b7k S nd LX X t1 hown hint rm c er gr h1 fun fl asI hY tk gI erI gsI fr=>?_)
    induction fl using PySem.Flow.casesOn with
    | next=>exact ih r b ρI ρ' μ₁ μ' asI _ f Q t2 erI gI h (hQ.after gsI erI.there)
    | _=>exact fr.elim
   ·refine wpAny_execs_cons (b7k S nd LX X t1 hown hint rm c er gr h fun fl asI hY tk gI erI gsI fr=>?_)
    induction fl using PySem.Flow.casesOn with
    | next=>induction f using Mine.F.casesOn with
     | next=>exact absurd rfl hne
     | _=>exact fr.elim
    | _=>exact hQ _ asI hY tk gI erI gsI fr
theorem a6j(S:Snd prog w Lx base Γ)(nd:∀(i j:Nat) (x:Str),Γ.tbl[i]?=some x->Γ.tbl[j]?=some x->i=j)(LX:∀ n,a5q prog w Lx base Γ n):∀ n,b2m prog w Lx base Γ n
 | 0=>fun ss mt k stmts A E env ρ ρ' μ μ' as s f Q zz zz zz zz zz zz zz h zz=>ns h
 | n+1=>fun ss mt k stmts A E env ρ ρ' μ μ' as s f Q t ho hi rm c er gr h hQ=>by
  rw [d7w]at h;exact b9s S nd (LX n) (a6j S nd LX n) ho hi (rm.less (Nat.le_succ n)) c k stmts ss ρ ρ' μ μ' as s f Q t er gr h hQ
end
end
section
section
variable{h:Heap}{as as':List (List Addr)}
mutual
theorem Rep.plain_to(sub:∀ a,a∈as.flatten->a∈as'.flatten):∀ {x:V} {v:Value},plain x=true->Rep h as' x v->Rep h as x v
 | .none,_,_,r=>r
 | .bool _,_,_,r=>r
 | .int _,_,_,r=>r
 | .flt _,_,_,r=>r
 | .str _,_,_,r=>r
 | .typ _,_,_,r=>r
 | .mut _,_,p,_=>nt p
 | .tup l,v,p,r=>by
  obtain⟨a,vs,e,ha,hi,hr⟩:=r;exact⟨a,vs,e,fun q=>ha (sub a q),hi,Reps.plain_to sub p hr⟩
 | .lst l,v,p,r=>by
  obtain⟨a,vs,e,ha,hi,hr⟩:=r;exact⟨a,vs,e,fun q=>ha (sub a q),hi,Reps.plain_to sub p hr⟩
theorem Reps.plain_to(sub:∀ a,a∈as.flatten->a∈as'.flatten):∀ {l:List V} {vs:List Value},a0q l=true->Reps h as' l vs->Reps h as l vs
 | [],_,_,r=>r
 | x::l,vs,p,r=>by
  obtain⟨v,rs,e,hx,hr⟩:=r;exact⟨v,rs,e,Rep.plain_to sub (a0d p) hx,Reps.plain_to sub (a0f p) hr⟩
end
variable{Lx:LxP}{base:Heap}{μ:Mu}{nw:List (List Addr)}
theorem mL{α:Type}{r:α}{G:Prop}{e:Option M}{f:List V->Option α}(h:(match e with | some (.list l)=>f l | _=>.none)=some r)(k:∀ l,e=some (.list l)->f l=some r->G):G:=by
 induction e using Option.casesOn with
 | none=>exact ns h
 | some m=>induction m using Mine.M.casesOn with
  | list l=>exact k l rfl h
  | obj _ _=>exact ns h
mutual
theorem Rep.frozen{m:Nat}(g:GR Lx base μ (as++nw) h)(hm:as.length=m+1):∀ {x y:V} {v:Value},a4u m μ x=some y->Rep h (as++nw) x v->Rep h as y v
 | .none,_,_,f,r=>by obtain rfl:=Option.some.inj f;exact r
 | .bool _,_,_,f,r=>by obtain rfl:=Option.some.inj f;exact r
 | .int _,_,_,f,r=>by obtain rfl:=Option.some.inj f;exact r
 | .flt _,_,_,f,r=>by obtain rfl:=Option.some.inj f;exact r
 | .str _,_,_,f,r=>by obtain rfl:=Option.some.inj f;exact r
 | .typ _,_,_,f,r=>by obtain rfl:=Option.some.inj f;exact r
 | .mut k,y,v,f,r=>by
  have sub:∀ a,a∈as.flatten->a∈(as++nw).flatten:=fun a q=>by rw [List.flatten_append];exact List.mem_append_left _ q
  obtain⟨a,q,e,rfl⟩:=r;refine ifE f (fun hk f=>?_) fun hk f=>mL f fun l hl f=>ifS f fun hp f=>?_
  ·obtain rfl:=Option.some.inj f
   rw [List.getElem?_append_left (hm▸Nat.succ_lt_succ hk)]at e;exact⟨a,q,e,rfl⟩
  ·cases f
   obtain⟨a',vs,e',hpl,hr⟩:=g.mus k _ _ hl e;cases e';refine⟨a,vs,rfl,fun hin=>?_,hpl,hr.plain_to sub hp⟩;rw [List.getElem?_append_right (hm▸Nat.succ_le_succ (Nat.not_lt.mp hk))]at e;have h2:a∈nw.flatten:=List.mem_flatten.mpr ⟨[a],List.mem_of_getElem? e,List.mem_singleton.mpr rfl⟩;have:=g.nd;rw [List.flatten_append,List.nodup_append]at this;exact this.2.2 a hin a h2 rfl
 | .tup l,y,v,f,r=>a1n f fun l' f2 e2=>by
  cases e2;obtain⟨a,vs,e,ha,hi,hr⟩:=r;exact⟨a,vs,e,fun q=>ha (by rw [List.flatten_append];exact List.mem_append_left _ q),hi,Reps.frozen g hm f2 hr⟩
 | .lst l,y,v,f,r=>ifS f fun hp f=>by
  obtain rfl:=Option.some.inj f;exact Rep.plain_to (as:=as) (as':=as++nw) (x:=.lst l) (fun a q=>by rw [List.flatten_append];exact List.mem_append_left _ q) hp r
theorem Reps.frozen{m:Nat}(g:GR Lx base μ (as++nw) h)(hm:as.length=m+1):∀ {l l':List V} {vs:List Value},b0h m μ l=some l'->Reps h (as++nw) l vs->Reps h as l' vs
 | [],_,_,f,r=>by obtain rfl:=Option.some.inj f;exact r
 | x::l,l',vs,f,r=>by
  have f:(match (generalizing:=false) a4u m μ x,b0h m μ l with | some a,some b=>some (a::b) | _,_=>.none)=some l':=f
  obtain⟨v,rs,e,hx,hr⟩:=r;induction f1:a4u m μ x using Option.casesOn with
  | none=>rw [f1]at f;exact ns f
  | some a=>induction f2:b0h m μ l using Option.casesOn with
   | none=>rw [f1,f2]at f;exact ns f
   | some b=>
    rw [f1,f2]at f;obtain rfl:=Option.some.inj f;exact⟨v,rs,e,Rep.frozen g hm f1 hx,Reps.frozen g hm f2 hr⟩
end
theorem GR.drop{m:Nat}(g:GR Lx base μ (as++nw) h)(hm:as.length=m+1)(hok:(μ.take m).all (okM m)=true)(hl:m<=μ.length):GR Lx base (μ.take m) as h:=by
 have sub:∀ a,a∈as.flatten->a∈(as++nw).flatten:=fun a q=>by rw [List.flatten_append];exact List.mem_append_left _ q
 refine⟨g.keep,fun a ha=>g.fresh a (sub a ha),?_,fun a ha=>g.alive a (sub a ha),by rw [hm,List.length_take];omega,fun k M ads hk ha=>?_⟩
 ·have:=g.nd
  rw [List.flatten_append,List.nodup_append]at this;exact this.1
 ·have hk':k<m:=by
   have:=(List.getElem?_eq_some_iff.mp hk).1;rw [List.length_take]at this;omega
  have hM:okM m M=true:=List.all_eq_true.mp hok M (List.mem_of_getElem? hk);rw [List.getElem?_take_of_lt hk']at hk;have:=g.mus k M ads hk (by rw [List.getElem?_append_left (by omega)];exact ha);induction M using Mine.M.casesOn with
  | list l=>
   obtain⟨a,vs,rfl,hp,hr⟩:=this;exact⟨a,vs,rfl,hp,hr.plain_to sub hM⟩
  | obj is n=>exact let⟨rs,e1,e2⟩:=this;⟨rs,c8y hm hM e1,e2⟩
end
end
section
theorem b8h(f:Str->Option NameKind){x:Str}:∀(bs:List (Str×Value)) (m:Str->Option Value),x∉bs.map (·.1)->bindL f bs m x=m x:=by
 intro z_;induction z_ with
 | nil=>
  intro _ _;exact rfl
 | cons z1_ r ih=>
  obtain⟨n,v⟩:=z1_;intro m h;refine(ih _ fun q=>h (List.mem_cons_of_mem _ q)).trans ?_;by_cases hf:f n=some .local
  ·rw [if_pos hf];exact if_neg fun q=>h (List.mem_cons.mpr (.inl q))
  ·rw [if_neg hf]
theorem b0e(f:Str->Option NameKind){x:Str}{u:Value}(hx:f x=some .local):∀(bs:List (Str×Value)) (m:Str->Option Value),(bs.map (·.1)).Nodup->(x,u)∈bs->bindL f bs m x=some u:=by
 intro z_;induction z_ with
 | nil=>
  intro _ _ h;cases h
 | cons z1_ r ih=>
  obtain⟨n,v⟩:=z1_;intro m nd h;rw [List.map_cons,List.nodup_cons]at nd;rcases List.mem_cons.mp h with e | h
  ·cases e
   refine(b8h f r _ nd.1).trans ?_;rw [if_pos hx];exact if_pos rfl
  ·exact ih _ nd.2 h
theorem b8m(f:Str->Option NameKind){x:Str}:∀(bs:List (Str×Value)) (m:Str->Option Value),x∉bs.map (·.1)->bindC f bs m x=m x:=by
 intro z_;induction z_ with
 | nil=>
  intro _ _;exact rfl
 | cons z1_ r ih=>
  obtain⟨n,v⟩:=z1_;intro m h;refine(ih _ fun q=>h (List.mem_cons_of_mem _ q)).trans ?_;by_cases hf:f n=some .local
  ·rw [if_pos hf]
  ·rw [if_neg hf];exact if_neg fun q=>h (List.mem_cons.mpr (.inl q))
theorem c8l(f:Str->Option NameKind){x:Str}{u:Value}(hx:f x≠some .local):∀(bs:List (Str×Value)) (m:Str->Option Value),(bs.map (·.1)).Nodup->(x,u)∈bs->bindC f bs m x=some u:=by
 intro z_;induction z_ with
 | nil=>
  intro _ _ h;cases h
 | cons z1_ r ih=>
  obtain⟨n,v⟩:=z1_;intro m nd h;rw [List.map_cons,List.nodup_cons]at nd;rcases List.mem_cons.mp h with e | h
  ·cases e
   refine(b8m f r _ nd.1).trans ?_;rw [if_neg hx];exact if_pos rfl
  ·exact ih _ nd.2 h
theorem a2g{x:Str}(ns:List (Str×NameKind))(n:Nat)(acc:List (Str×Addr))(h:ns.lookup x=some .cell):((cellsFrom n ns acc).lookup x).isSome=true:=cellsFrom_some ns n acc (.inl h)
theorem a8o{tbl:List Str}{h:Heap}{as:List (List Addr)}{i:Nat}{x:Str}{v:V}(hx:tbl[i]?=some x):∀(names:List Str) (is:List Nat) (args:List V) (vals:List Value),a1o (nid tbl) names=some is->Reps h as args vals->(is.zip args).lookup i=some v →
  ∃ u,(x,u)∈names.zip vals/\Rep h as v u
 | [],is,args,vals,a,r,e=>by cases a;cases e
 | n::ns,is,[],vals,a,r,e=>by rw [List.zip_nil_right]at e;cases e
 | n::ns,is,y::ys,vals,a,r,e=>by
  refine a0c a fun j js h1 h2 a=>?_;cases a;obtain⟨u,us,rfl,ru,rr⟩:=r;rw [List.zip_cons_cons,List.lookup_cons]at e;induction q:i==j using Bool.casesOn with
  | true=>
   rw [q]at e;obtain rfl:=Option.some.inj e;cases eq_of_beq q;rw [a0n h1]at hx;obtain rfl:=Option.some.inj hx;exact⟨u,List.mem_cons_self,ru⟩
  | false=>
   rw [q]at e;obtain⟨u',m,r'⟩:=a8o hx ns js ys us h2 rr e;exact⟨u',List.mem_cons_of_mem _ m,r'⟩
section
variable{prog:Program}{w:World}{Lx:LxP}{base:Heap}{Γ:G}
theorem b3k{tbl:List Str}{fd:FuncData}{a:Addr}{as:List (List Addr)}{s sI:Shared}{names:List Str}{is:List Nat}{args:List V}{vals:List Value}{μ:Mu}
  (hk:fd.scope.kind=.function) (hg:fd.globals=mainGlobals) (hb:fd.builtins=builtinsNs) (hfree:∀ p∈fd.scope.names,p.2≠.free) (hnd:names.Nodup) (hi:a1o (nid tbl) names=some is)
  (x:InCallC s (callEnvC fd s.heap.objs.size a).locals (bindL (callEnvC fd s.heap.objs.size a).kindOf (names.zip vals) fun zz=>.none) (callEnvC fd s.heap.objs.size a).cells
    (bindC (callEnvC fd s.heap.objs.size a).kindOf (names.zip vals) fun zz=>.none) sI)
  (hl:names.length=vals.length) (g:GR Lx base μ as s.heap) (ra:Reps sI.heap as args vals):ER tbl base (callEnvC fd s.heap.objs.size a) (is.zip args) as sI.heap:=by
 have hndz:((names.zip vals).map (·.1)).Nodup:=by rw [List.map_fst_zip (by omega)];exact hnd
 have off:∀ c,s.heap.objs.size<=c->c∉as.flatten/\base.get? c=.none:=fun c hc=>by
  have hn:s.heap.get? c=.none:=by
   induction q:s.heap.get? c using Option.casesOn with
   | none=>rfl
   | some o=>exact absurd (Heap.lt_size q) (Nat.not_lt.mpr hc)
  refine⟨fun q=>?_,?_⟩
  ·obtain⟨o,e⟩:=g.alive c q
   rw [hn]at e;exact ns e
  ·induction q:base.get? c using Option.casesOn with
   | none=>rfl
   | some o=>have:=g.keep _ _ q;rw [hn]at this;exact ns this
 refine⟨hk,hg,hb,⟨_,x.toInCall.ns,fun i y v h1 h2 h3=>?_⟩,off _ x.toInCall.fresh,fun i y h1 h2=>?_,fun y z c h1 h2=>?_⟩
 ·obtain⟨u,hm,hr⟩:=a8o h1 names is args vals hi ra h3
  exact⟨u,b0e _ h2 _ _ hndz hm,hr⟩
 ·have hkc:(callEnvC fd s.heap.objs.size a).kindOf y=some .cell:=by
   rcases h2 with q | q
   ·exact q
   ·exact absurd rfl (hfree _ (a5x q))
  obtain⟨c,hc⟩:=Option.isSome_iff_exists.mp (a2g fd.scope.names (s.heap.objs.size+1) [] hkc);have hc':(callEnvC fd s.heap.objs.size a).cells.lookup y=some c:=hc;have hlt:s.heap.objs.size<=c:=Nat.le_of_lt (Nat.lt_of_le_of_lt x.toInCall.fresh (x.above _ _ (mem_of_lookup hc')));refine⟨c,_,hc',(off c hlt).1,(off c hlt).2,x.cell _ _ hc',fun v hv=>?_⟩;obtain⟨u,hm,hr⟩:=a8o h1 names is args vals hi ra hv;exact⟨u,c8l _ (by rw [hkc];intro q;cases q) _ _ hndz hm,hr⟩
 ·exact name_of_addr x.apart (mem_of_lookup h1) (mem_of_lookup h2)
theorem f3a{m:Nat}{ex:Option (F×Rho×Mu)}{r:V}{μ':Mu}{P:Prop}(h:(match ex with | some (.ret v,_,μ')=>if(μ'.take m).all (okM m)then(a4u m μ' v).map (·,μ'.take m)else .none | some (.next,_,μ')=>if(μ'.take m).all (okM m)then some (.none,μ'.take m)else .none | _=>.none)=some (r,μ'))
  (k1:∀ v ρ₂ μ₂ v',ex=some (.ret v,ρ₂,μ₂)->(μ₂.take m).all (okM m)=true->a4u m μ₂ v=some v'->v'=r->μ₂.take m=μ'->P) (k2:∀ ρ₂ μ₂,ex=some (.next,ρ₂,μ₂)->(μ₂.take m).all (okM m)=true->V.none=r->μ₂.take m=μ'->P):P:=by
 induction ex using Option.casesOn with
 | none=>exact ns h
 | some p=>
  obtain⟨f,ρ₂,μ₂⟩:=p;induction f using Mine.F.casesOn with
  | ret v=>exact ifS h fun hok h=>a1n h fun v' hf h=>pr h fun e1 e2=>k1 v ρ₂ μ₂ v' rfl hok hf e1 e2
  | next=>exact ifS h fun hok h=>sp h fun e1 e2=>k2 ρ₂ μ₂ rfl hok e1 e2
  | _=>exact ns h
theorem e6h(S:Snd prog w Lx base Γ)(nd:∀(i j:Nat) (x:Str),Γ.tbl[i]?=some x->Γ.tbl[j]?=some x->i=j)(LX:∀ n,a5q prog w Lx base Γ n)(hbig:base.NoLimit)
  {n k:Nat} {mt:List Str} {a:Addr} {o:Obj} {fd:FuncData} {body:List Stmt} {ss:List Mine.S} {names:List Str} {is:List Nat} {args:List V} {μ μ':Mu} {r:V}
  (ho:base.get? a=some o) (hd:o.data=.func fd) (hcd:base.CodeRec fd.code fd.qualname) (hbody:fd.body=.stmts body)
  (hg:fd.globals=mainGlobals) (hb:fd.builtins=builtinsNs) (hclo:fd.closure=[])
  (hco:fd.scope.isCoroutine=false) (hgen:fd.scope.isGenerator=false) (hk:fd.scope.kind=.function)
  (hbind:∀ vals:List Value,vals.length=names.length->bindArgs fd ⟨vals,[]⟩=pure (names.zip vals))
  (hi:a1o (nid Γ.tbl) names=some is) (hnd:names.Nodup) (hkn:∀ x∈names,fd.scope.names.lookup x=some .local∨fd.scope.names.lookup x=some .cell)
  (hfree:∀ p∈fd.scope.names,p.2≠.free) (hown:∀ x,a1g fd.scope x=true->(nid Γ.tbl x).isSome=true) (hint:∀ L,interactive (callEnvC fd L a)=false)
  (t:trS.trSs Γ.tbl mt k fd.scope body=some ss) (h:a4f Γ n is ss args μ=some (r,μ')):CallOK prog w Lx base (n+1) (.ref a) args μ r μ':=by
 intro A E s as vals Q rm g ra hQ
 ·refine ifS h fun hlen h=>?_
  have hlen:is.length=args.length:=eq_of_beq hlen;have hl:names.length=vals.length:=by rw [ra.length,← hlen,a5z hi]
  have rm':∀ env,Room (A.deeper env) n:=fun env=>⟨rm.calm,by show A.depth+1+n<=900;have:=rm.depth;omega,by show A.units+3+10 * n<=9000;have:=rm.units;omega⟩;refine wpAny_call (codeAny_call_cells (by have:=rm.depth;show A.depth<1000;omega) (g.keep _ _ ho) hd (hbig.keeps fun b o e=>g.keep b o e) (hcd.keeps fun b o e=>g.keep b o e) hbody (hbind vals hl.symm) hclo (fun x hx=>?_) (fun sI x=>?_) hco hgen hk)
  ·rcases hkn x.1 (List.of_mem_zip hx).1 with q | q
   ·exact .inl q
   ·exact .inr ⟨q,a2g _ _ _ q⟩
  ·obtain⟨hY,tkI,eI,hkeep⟩:=x.done
   have gI:GR Lx base μ as sI.heap/\Go as s.heap as sI.heap:=g.all fun a o zz e=>x.toInCall.keep a o e;obtain⟨gI,goI⟩:=gI;have er:=b3k (tbl:=Γ.tbl) hk hg hb hfree hnd hi x hl g (ra.go goI);have hwf:∀ b,Wf Γ.tbl (callEnvC fd s.heap.objs.size a) b->s.heap.get? b=.none:=by
    intro b hb;have:s.heap.objs.size<=b:=by
     rcases hb with rfl | ⟨i,y,_,_,hc⟩
     ·exact x.toInCall.fresh
     ·exact Nat.le_of_lt (Nat.lt_of_le_of_lt x.toInCall.fresh (x.above _ _ (mem_of_lookup hc)))
    induction q:s.heap.get? b using Option.casesOn with
    | none=>rfl
    | some o=>exact absurd (Heap.lt_size q) (Nat.not_lt.mpr this)
   have fin:∀ {μ₂:Mu} {asJ:List (List Addr)} {hJ:Heap} {u:Value} {v v':V} {tk:Nat},GR Lx base μ₂ asJ hJ->GoS (Wf Γ.tbl (callEnvC fd s.heap.objs.size a)) as sI.heap asJ hJ->((μ₂.take μ.length).all (okM μ.length)=true)->Rep hJ asJ v u->a4u μ.length μ₂ v=some v' →
     (∀ u h' tk,GR Lx base (μ₂.take μ.length) as h'->Go as s.heap as h'->Rep h' as v' u->Q u { s with heap:=h',toks:=tk})->Q u { s with heap:=hJ,toks:=tk}:=by
    intro μ₂ asJ hJ u v v' tk gJ gs hok rv hf K;obtain⟨nw,rfl,_⟩:=gs.ext;have hlm:as.length=μ.length+1:=g.len;have hle:μ.length<=μ₂.length:=by
     have:=gJ.len;rw [List.length_append]at this;omega
    refine K u hJ tk (gJ.drop hlm hok hle) ⟨⟨[],by simp,by simp⟩,fun b o hb e=>?_,fun b hb=>?_⟩ (rv.frozen gJ hlm hf)
    ·exact gs.keep b o hb (fun q=>by rw [hwf b q]at e;exact ns e) (x.toInCall.keep b o e)
    ·exact gJ.alive b (by rw [List.flatten_append];exact List.mem_append_left _ hb)
   rw [eI];rw [eI]at gI er;refine f3a h (fun v ρ₂ μ₂ v' hx hok hf e1 e2=>?_) fun ρ₂ μ₂ hx hok e1 e2=>?_
   ·subst e1 e2
    refine a6j S nd LX n ss mt k body _ _ _ _ ρ₂ _ μ₂ as _ (.ret v) _ t hown (hint _) (rm' _) ⟨fun zz q=>q,fun zz q=>q,fun zz q=>q⟩ er gI hx fun fl asJ hJ tk gJ erJ gs fr=>?_;induction fl using PySem.Flow.casesOn<;>try exact fr.elim
    exact fin gJ (by rw [eI];exact gs) hok fr hf fun u h' tk g' go' r'=>hQ u as h' tk g' go' r'
   ·subst e1 e2
    refine a6j S nd LX n ss mt k body _ _ _ _ ρ₂ _ μ₂ as _ .next _ t hown (hint _) (rm' _) ⟨fun zz q=>q,fun zz q=>q,fun zz q=>q⟩ er gI hx fun fl asJ hJ tk gJ erJ gs fr=>?_;induction fl using PySem.Flow.casesOn<;>try exact fr.elim
    exact fin (v:=.none) (v':=.none) gJ (by rw [eI];exact gs) hok rfl rfl fun u h' tk g' go' r'=>hQ u as h' tk g' go' r'
end
end
section
theorem Ns.keep{h h':Heap}{a:Addr}{m:Str->Option Value}(x:h.Ns a m)(k:∀ b o,h.get? b=some o->h'.get? b=some o):h'.Ns a m:=
 let⟨o,es,ep,e,r⟩:=x;⟨o,es,ep,k _ _ e,r⟩
section
variable{prog:Program}{w:World}{Lx:LxP}{base:Heap}{Γ:G}
theorem a1p{x:Str}{v:Value}{mg:Str->Option Value}(hg:base.Ns mainGlobals mg)(hv:mg x=some v):a1e prog w base x v:=
 fun env A E s Q eg eb keep q=>loadGlobal_global (mg:=mg) (by rw [eg];exact Ns.keep hg keep) hv q
theorem b7t{x:Str}{v:Value}{mg mb:Str->Option Value}(hg:base.Ns mainGlobals mg)(hn:mg x=.none)(hb:base.Ns builtinsNs mb)(hv:mb x=some v):a1e prog w base x v:=
 fun env A E s Q eg eb keep q=>loadGlobal_builtin (mg:=mg) (mb:=mb) (by rw [eg];exact Ns.keep hg keep) hn (by rw [eb];exact Ns.keep hb keep) hv q
noncomputable def f4w(Γ:G)(id:Nat)(params:List Nat)(body:List S):G:=
 { Γ with call:=fun n i args μ=>if i=id then(match n with | 0=>.none | n+1=>a4f Γ n params body args μ)else Γ.call n i args μ}
noncomputable def okF(tbl:List Str)(sc:Scope)(names:List Str)(is:List Nat):Bool:=
 a1o (nid tbl) names==some is&&decide names.Nodup&&names.all (fun x=>sc.names.lookup x==some .local||sc.names.lookup x==some .cell) &&
 sc.names.all (fun p=>p.2 != .free)&&sc.names.all (fun p=>(nid tbl p.1).isSome)&&!sc.isCoroutine&&!sc.isGenerator&&sc.kind==.function
theorem a6d{tbl:List Str}{sc:Scope}(h:sc.names.all (fun p=>(nid tbl p.1).isSome)=true):∀ x,a1g sc x=true->(nid tbl x).isSome=true:=by
 intro x hx;unfold a1g a1y at hx;have:∃ k,sc.names.lookup x=some k:=by
  induction q:sc.names.lookup x using Option.casesOn with
  | none=>rw [q]at hx;cases hx
  | some k=>exact⟨k,rfl⟩
 obtain⟨k,hk⟩:=this;exact List.all_eq_true.mp h (x,k) (mem_of_lookup hk)
end
end
section
noncomputable def a8w:List V->Option (List Int)
 | []=>some []
 | .int i::r=>(a8w r).map (i::·)
 | _=>.none
noncomputable def a8v:List V->Option (List (List Nat))
 | []=>some []
 | .str i::r=>(a8v r).map (i::·)
 | _=>.none
noncomputable def a3i(a b:UInt64):UInt64:=if Float64.cmp a b==some .lt then b else a
noncomputable def a5a(a b:UInt64):UInt64:=if Float64.cmp b a==some .lt then b else a
section
variable{prog:Program}{w:World}{Lx:LxP}{base:Heap}{μ:Mu}{h:Heap}{as:List (List Addr)}{n:Nat}
theorem Post.same{s:Shared}{r:V}{v:Value}{tk:Nat}{Q:Value->Shared->Prop}(hQ:Post Lx base as s r μ Q)(g:GR Lx base μ as s.heap)(rv:Rep s.heap as r v):Q v { s with toks:=tk}:=
 hQ v as s.heap tk g g.go rv
theorem Post.kept{s:Shared}{r:V}{v:Value}{h':Heap}{tk:Nat}{Q:Value->Shared->Prop}(hQ:Post Lx base as s r μ Q)(g:GR Lx base μ as s.heap)(k:∀ b o,s.heap.get? b=some o->h'.get? b=some o)(rv:Rep h' as r v):Q v { s with heap:=h',toks:=tk}:=
 let⟨g',go⟩:=g.all fun a o zz e=>k a o e
 hQ v as h' tk g' go rv
theorem d0r:∀ {l:List V} {ns:List Int} {vs:List Value},a8w l=some ns->Reps h as l vs->IntsAre vs ns:=by
 intro z_;induction z_ with
 | nil=>
  intro ns vs e r;cases e;cases r;exact .nil
 | cons x l ih=>
  intro ns vs e r;obtain⟨v,rs,rfl,rx,rr⟩:=r;induction x using Mine.V.casesOn with
  | int i=>
   refine a1n e fun ms e2 q=>?_;cases q;obtain⟨t,rfl⟩:=rx;exact .cons _ _ (ih e2 rr)
  | _=>exact Mine.ns e
theorem c6p{vs:List Value}{ns:List Int}(x:IntsAre vs ns):Reps h as (ns.map .int) vs:=by
 induction x with
 | nil=>rfl
 | cons i t _ ih=>exact⟨_,_,rfl,⟨_,rfl⟩,ih⟩
theorem b2d:∀ {vs:List Value} {ns:List Int},IntsAre vs ns->∃ ys:List (Int×Tok),vs=ys.map (fun p=>Value.int p.1 p.2)/\ys.map (·.1)=ns
 | _,_,.nil=>⟨[],rfl,rfl⟩
 | _,_,.cons i t x=>by
  obtain⟨ys,e1,e2⟩:=b2d x;exact⟨(i,t)::ys,by simp [e1],by simp [e2]⟩
theorem e0q {l:List V} (hl:l.length<=big):CallOK prog w Lx base n (.builtin "len") [.lst l] μ (.int l.length) μ:=fun A E s as vs Q rm g ra hQ=>by
 obtain⟨v,r,rfl,⟨a,us,rfl,ha,hp,hr⟩,rfl⟩:=ra;refine len_list hp.isList ?_ (hQ.same (tk:=s.toks+1+1) g ?_)
 ·rw [List.size_toArray,hr.length];unfold big at hl;omega
 ·simp only [Rep,List.size_toArray,hr.length];exact⟨_,rfl⟩
theorem d6q {l:List V} {ns:List Int} (hi:a8w l=some ns):CallOK prog w Lx base n (.builtin "sum") [.lst l] μ (.int ns.sum) μ:=fun A E s as vs Q rm g ra hQ=>by
 obtain⟨v,r,rfl,⟨a,us,rfl,ha,hp,hr⟩,rfl⟩:=ra;obtain⟨ys,rfl,rfl⟩:=b2d (d0r hi hr);have e:(ys.map fun p=>Value.int p.1 p.2).toArray=intItems ys.toArray:=by simp [intItems]
 rw [e]at hp;refine sum_intListG rm.calm hp.isList fun h' tk t' k=>hQ.kept g k ?_;refine⟨t',?_⟩;rw [preSum_eq,List.take_of_length_le (by simp)]
theorem d8f {l:List V}:CallOK prog w Lx base n (.builtin "isinstance") [.tup l,.typ "tuple"] μ (.bool true) μ:=fun A E s as vs Q rm g ra hQ=>by
 obtain⟨v,r,rfl,⟨a,us,rfl,ha,⟨o,ho,hc,_⟩,hr⟩,v2,r2,rfl,rfl,rfl⟩:=ra;exact PySem.IsiPair.tuple_tuple ho hc (hQ.same (tk:=s.toks) g rfl)
end
end
section
section
variable{prog:Program}{w:World}{Lx:LxP}{base:Heap}{μ:Mu}{h:Heap}{as:List (List Addr)}{n:Nat}
variable{A:Around}{E:Value->Shared->Prop}{s:Shared}
theorem e5g{bt:Nat->Nat->Bool}{a b c:UInt64}{t u x:Tok}{v:Value}(m:UInt64->UInt64->Bool)(h10:bt 1 0=m a b)(h20:bt 2 0=m a c)(h21:bt 2 1=m b c)(hP:#[Value.float a t,.float b u,.float c x][argBest bt 2]?=some v):∃ tk,v=.float (if m (if m a b then b else a) c then c else(if m a b then b else a)) tk:=by
 have e:argBest bt 2=if bt 2 (if bt 1 0 then 1 else 0)then 2 else if bt 1 0 then 1 else 0:=rfl;rw [e,h10]at hP;induction hc:m a b using Bool.casesOn with
 | false=>
  rw [hc,if_neg Bool.false_ne_true,h20]at hP;rw [if_neg Bool.false_ne_true];induction hd:m a c using Bool.casesOn with
  | false=>rw [hd]at hP;exact⟨t,(Option.some.inj hP).symm⟩
  | true=>rw [hd]at hP;exact⟨x,(Option.some.inj hP).symm⟩
 | true=>
  rw [hc,if_pos rfl,h21]at hP;rw [if_pos rfl];induction hd:m b c using Bool.casesOn with
  | false=>rw [hd]at hP;exact⟨u,(Option.some.inj hP).symm⟩
  | true=>rw [hd]at hP;exact⟨x,(Option.some.inj hP).symm⟩
theorem b2y{a b c:UInt64}{t u x:Tok}{Q:Value->Shared->Prop}(hh:A.handled=.none)
  (h:∀ h' tk tk',(∀ d o,s.heap.get? d=some o->h'.get? d=some o)->Q (.float (a3i (a3i a b) c) tk') { s with heap:=h',toks:=tk}) :
  wpAny (model prog w) A (call (.builtin "max") [.float a t,.float b u,.float c x]) Q E s:=by
 have hT:(s.heap.push { cls:=.type "tuple",data:=.seq #[.float a t,.float b u,.float c x]}).IsTuple s.heap.objs.size #[.float a t,.float b u,.float c x]:=⟨_,Heap.get?_push_size _ rfl,rfl,0,rfl⟩
 refine call_max_three (wpAny_pyIter_tuple hT ?_);have hsz:(s.heap.push { cls:=.type "tuple",data:=.seq #[.float a t,.float b u,.float c x]}).objs.size=s.heap.objs.size+1:=Heap.size_push ..
 refine⟨_,[_,s.heap.objs.size],[_],_,_,_,_,rfl,Walks.tuple (A:=A.in1) hh _ s.heap.objs.size (by rw [hsz];exact Nat.ne_of_lt (Nat.lt_succ_self _)) #[.float a t,.float b u,.float c x],
  ⟨⟨_,Heap.get?_push_size _ rfl,rfl,rfl⟩,hT.push _⟩,fun d hd=>?_,by simp,Flt.cmpOf_gt #[.float a t,.float b u,.float c x] (by simp only [List.mem_toArray,List.mem_cons,List.not_mem_nil,or_false];rintro v (rfl | rfl | rfl)<;>exact .float _ _),fun v h' tk hP hk=>?_⟩
 ·show d<((s.heap.push _).push _).objs.size
  rw [Heap.size_push,hsz];rcases List.mem_cons.mp hd with rfl | hd
  ·rw [hsz];exact Nat.lt_succ_self _
  ·rcases List.mem_cons.mp hd with rfl | hd
   ·exact Nat.lt_succ_of_lt (Nat.lt_succ_self _)
   ·cases hd
 ·have hold:∀ d o,s.heap.get? d=some o->h'.get? d=some o:=fun d o e=>by
   refine hk d o (fun hm=>?_) (Heap.get?_push_of_some _ (Heap.get?_push_of_some _ e));rcases List.mem_cons.mp hm with e1 | hm
   ·have:=Heap.lt_size e;rw [e1,hsz]at this;exact Nat.lt_irrefl _ (Nat.lt_of_succ_lt this)
   ·cases hm
  obtain⟨tk',rfl⟩:=e5g (fun p q=>Float64.cmp p q==some .lt) rfl rfl rfl hP;exact h h' tk tk' hold
theorem b3v{a b c:UInt64}{t u x:Tok}{Q:Value->Shared->Prop}(hh:A.handled=.none)
  (h:∀ h' tk tk',(∀ d o,s.heap.get? d=some o->h'.get? d=some o)->Q (.float (a5a (a5a a b) c) tk') { s with heap:=h',toks:=tk}) :
  wpAny (model prog w) A (call (.builtin "min") [.float a t,.float b u,.float c x]) Q E s:=by
 have hT:(s.heap.push { cls:=.type "tuple",data:=.seq #[.float a t,.float b u,.float c x]}).IsTuple s.heap.objs.size #[.float a t,.float b u,.float c x]:=⟨_,Heap.get?_push_size _ rfl,rfl,0,rfl⟩
 refine call_min_three (wpAny_pyIter_tuple hT ?_);have hsz:(s.heap.push { cls:=.type "tuple",data:=.seq #[.float a t,.float b u,.float c x]}).objs.size=s.heap.objs.size+1:=Heap.size_push ..
 refine⟨_,[_,s.heap.objs.size],[_],_,_,_,_,rfl,Walks.tuple (A:=A.in1) hh _ s.heap.objs.size (by rw [hsz];exact Nat.ne_of_lt (Nat.lt_succ_self _)) #[.float a t,.float b u,.float c x],
  ⟨⟨_,Heap.get?_push_size _ rfl,rfl,rfl⟩,hT.push _⟩,fun d hd=>?_,by simp,Flt.cmpOf_lt #[.float a t,.float b u,.float c x] (by simp only [List.mem_toArray,List.mem_cons,List.not_mem_nil,or_false];rintro v (rfl | rfl | rfl)<;>exact .float _ _),fun v h' tk hP hk=>?_⟩
 ·show d<((s.heap.push _).push _).objs.size
  rw [Heap.size_push,hsz];rcases List.mem_cons.mp hd with rfl | hd
  ·rw [hsz];exact Nat.lt_succ_self _
  ·rcases List.mem_cons.mp hd with rfl | hd
   ·exact Nat.lt_succ_of_lt (Nat.lt_succ_self _)
   ·cases hd
 ·have hold:∀ d o,s.heap.get? d=some o->h'.get? d=some o:=fun d o e=>by
   refine hk d o (fun hm=>?_) (Heap.get?_push_of_some _ (Heap.get?_push_of_some _ e));rcases List.mem_cons.mp hm with e1 | hm
   ·have:=Heap.lt_size e;rw [e1,hsz]at this;exact Nat.lt_irrefl _ (Nat.lt_of_succ_lt this)
   ·cases hm
  obtain⟨tk',rfl⟩:=e5g (fun p q=>Float64.cmp q p==some .lt) rfl rfl rfl hP;exact h h' tk tk' hold
theorem d7q {a b c:UInt64}:CallOK prog w Lx base n (.builtin "max") [.flt a,.flt b,.flt c] μ (.flt (a3i (a3i a b) c)) μ:=fun A E s as vs Q rm g ra hQ=>by
 obtain⟨v1,r1,rfl,⟨t1,rfl⟩,v2,r2,rfl,⟨t2,rfl⟩,v3,r3,rfl,⟨t3,rfl⟩,rfl⟩:=ra;exact b2y rm.calm fun h' tk tk' k=>hQ.kept g k (⟨_,rfl⟩)
theorem d8l {a b c:UInt64}:CallOK prog w Lx base n (.builtin "min") [.flt a,.flt b,.flt c] μ (.flt (a5a (a5a a b) c)) μ:=fun A E s as vs Q rm g ra hQ=>by
 obtain⟨v1,r1,rfl,⟨t1,rfl⟩,v2,r2,rfl,⟨t2,rfl⟩,v3,r3,rfl,⟨t3,rfl⟩,rfl⟩:=ra;exact b3v rm.calm fun h' tk tk' k=>hQ.kept g k (⟨_,rfl⟩)
theorem d8c {a b:Int}:CallOK prog w Lx base n (.builtin "min") [.int a,.int b] μ (.int (if b<a then b else a)) μ:=fun A E s as vs Q rm g ra hQ=>by
 obtain⟨v1,r1,rfl,⟨t1,rfl⟩,v2,r2,rfl,⟨t2,rfl⟩,rfl⟩:=ra;refine min_two_ints rm.calm fun h' tk k=>hQ.kept g k ?_;by_cases q:b<a
 ·rw [if_pos q,if_pos q];exact⟨_,rfl⟩
 ·rw [if_neg q,if_neg q];exact⟨_,rfl⟩
theorem e0j {a:UInt64} (ha:Float64.isFinite a=true):CallOK prog w Lx base n (.type "int") [.flt a] μ (.int (Flt.toInt Float64.truncOf a)) μ:=fun A E s as vs Q rm g ra hQ=>by
 obtain⟨v1,r1,rfl,⟨t1,rfl⟩,rfl⟩:=ra;have h1:Float64.isNaN a=false:=by
  unfold Float64.isFinite at ha;unfold Float64.isNaN;cases e:Float64.decode a with
  | fin=>rfl
  | _=>first | rfl | (rw [e]at ha;exact nt ha)
 have h2:Float64.isInf a=false:=by
  unfold Float64.isFinite at ha;unfold Float64.isInf;cases e:Float64.decode a with
  | fin=>rfl
  | _=>first | rfl | (rw [e]at ha;exact nt ha)
 refine Flt.call_int_float3 rm.calm (fun q=>by rw [h1]at q;cases q) (fun q=>by rw [h2]at q;cases q) fun zz=>?_;exact hQ.same (tk:=s.toks+1) g (⟨_,rfl⟩)
noncomputable def txt(x:List Nat):Str:=⟨x.toArray⟩
theorem c1p{x y:Str}{t u:Tok}{Q:Value->Shared->Prop}(hy:(y.length==0)=false)
  (h:∀(l:List (Str×Tok)) (k:Nat),l.map (·.1)=Txt.split x y->Q (.ref s.heap.objs.size) { s with heap:=s.heap.push { cls:=.type "list",data:=.seq (strValues l).toArray},toks:=k})
  (hsz:x.length+2<=sizeLine):wpAny (model prog w) A (call (.builtin "str.split") [.str x t,.str y u]) Q E s:=by
 have hn:(Builtin.Str.partsBetween x (Builtin.Str.occurrences x y 0 x.length (x.length+1)) y.length).length<=sizeLine:=by
  have e1:=StrLaws.occ_length_le x y 0 x.length (x.length+1);rw [length_partsBetween];omega
 cases h1:(decide (x.length<y.length)||decide (Builtin.Str.strKind x<Builtin.Str.strKind y))
 ·cases hf:(Builtin.Str.occurrences x y 0 x.length (x.length+1)).isEmpty
  ·refine call_meets F.slot_str_split (typeIs_str _ _ _) F.entry_str_split (F.args_str_split_2 _ _) (meets_str_split_sep x y t u h1 hy hf (by omega) hn) ?_
   show wants Q E _ { s with toks:=_,heap:=s.heap.push { cls:=.type "list",data:=.seq (strsFrom s.toks (Builtin.Str.partsBetween x (Builtin.Str.occurrences x y 0 x.length (x.length+1)) y.length)).toArray}}
   rw [strsFrom_eq];exact h (numbered s.toks _) _ ((numbered_texts _ _).trans ((if_neg (ne_true_of_eq_false h1)).trans (if_neg (ne_true_of_eq_false hf))).symm)
  ·exact call_meets F.slot_str_split (typeIs_str _ _ _) F.entry_str_split (F.args_str_split_2 _ _) (meets_str_split_not_found x y t u h1 hy hf)
    (h [(x,t)] s.toks ((if_neg (ne_true_of_eq_false h1)).trans (if_pos hf)).symm)
 ·exact call_meets F.slot_str_split (typeIs_str _ _ _) F.entry_str_split (F.args_str_split_2 _ _) (meets_str_split_cannot_occur x y t u h1)
   (h [(x,t)] s.toks (if_pos h1).symm)
end
end
section
noncomputable def b3c(sep:List Nat):List (List Nat)->List Nat
 | []=>[]
 | [x]=>x
 | x::r=>x++sep++b3c sep r
noncomputable def c5t(s:Str):List Nat:=s.cps.toList
theorem c5g(x y:List Nat):txt x++txt y=txt (x++y):=by
 show(⟨(txt x).cps++(txt y).cps⟩:Str)=_;simp [txt]
theorem d0u(sep:List Nat):∀ l:List (List Nat),Str.join (txt sep) (l.map txt)=txt (b3c sep l):=by
 intro z_;induction z_ with
 | nil=>
  exact rfl
 | cons x z_ ih=>induction z_ using List.casesOn with
  | nil=>
   exact rfl
  | cons y r=>
   have:=ih;rw [List.map_cons]at this;rw [List.map_cons,List.map_cons,Str.join,this,c5g,c5g]
   ·rfl
   ·intro q;cases q
section
variable{prog:Program}{w:World}{Lx:LxP}{base:Heap}{μ:Mu}{h:Heap}{as:List (List Addr)}{n:Nat}
variable{A:Around}{E:Value->Shared->Prop}{s:Shared}
theorem b7p:∀(l:List (Str×Tok)),Reps h as ((l.map (·.1)).map fun x=>V.str (c5t x)) (strValues l):=by
 intro z_;induction z_ with
 | nil=>
  exact rfl
 | cons p r ih=>
  exact⟨_,_,rfl,⟨p.2,rfl⟩,ih⟩
theorem d4c:∀ {l:List V} {ts:List (List Nat)} {vs:List Value},a8v l=some ts->Reps h as l vs->StrsAre vs (ts.map txt):=by
 intro z_;induction z_ with
 | nil=>
  intro ns vs e r;cases e;cases r;exact .nil
 | cons x l ih=>
  intro ns vs e r;obtain⟨v,rs,rfl,rx,rr⟩:=r;induction x using Mine.V.casesOn with
  | str i=>
   refine a1n e fun ms e2 q=>?_;cases q;obtain⟨t,rfl⟩:=rx;exact .cons _ _ (ih e2 rr)
  | _=>exact Mine.ns e
theorem Rep.int_of{c:Int}(tk:Tok):Rep h as (.int c) (.int c tk):=⟨tk,rfl⟩
theorem c6v {x y:List Nat} (hy:y≠[]) (hx:x.length<=big):CallOK prog w Lx base n (.builtin "str.split") [.str x,.str y] μ (.lst ((Txt.split (txt x) (txt y)).map fun p=>.str (c5t p))) μ:=fun A E s as vs Q rm g ra hQ=>by
 obtain⟨v1,r1,rfl,⟨t1,rfl⟩,v2,r2,rfl,⟨t2,rfl⟩,rfl⟩:=ra;have e1:(txt x).length=x.length:=by simp [Str.length,txt]
 have e2:(txt y).length=y.length:=by simp [Str.length,txt]
 refine c1p (x:=txt x) (y:=txt y) (by rw [e2];induction y using List.casesOn with | nil=>exact absurd rfl hy | cons=>rfl) (fun l k hl=>?_) (by rw [e1,sizeLine_eq];unfold big at hx;omega)
 refine hQ.kept g (fun b o e=>Heap.get?_push_of_some _ e) ?_;refine⟨s.heap.objs.size,strValues l,rfl,g.top_off,⟨0,Heap.get?_push_size _ rfl⟩,?_⟩;rw [← hl];exact b7p l
theorem d3p {x:List Nat} {l:List V} {ts:List (List Nat)} (hs:a8v l=some ts) (hl:(ts.map (·.length)).sum+ts.length * x.length<=big):CallOK prog w Lx base n (.builtin "str.join") [.str x,.lst l] μ (.str (b3c x ts)) μ:=fun A E s as vs Q rm g ra hQ=>by
 obtain⟨v1,r1,rfl,⟨t1,rfl⟩,v2,r2,rfl,⟨a,us,rfl,ha,hp,hr⟩,rfl⟩:=ra;refine join_list (ys:=ts.map txt) hp.isList (by simpa using d4c hs hr) ?_ fun t' k=>?_
 ·have e:((ts.map txt).map fun x=>x.length)=ts.map (·.length):=by
   rw [List.map_map];exact List.map_congr_left fun y zz=>by simp [Str.length,txt]
  rw [e,List.length_map];have e1:(⟨x.toArray⟩:Str).length=x.length:=by simp [Str.length]
  rw [e1];unfold big at hl;omega
 ·have e:Txt.join ⟨x.toArray⟩ (ts.map txt)=txt (b3c x ts):=by
   show Builtin.Str.glued (txt x) (ts.map txt)=_;rw [StrLaws.glued_eq_join,d0u]
  rw [e];exact hQ.same (tk:=k) g (⟨t',rfl⟩)
theorem c6c {x y:Str} {t u:Tok} {Q:Value->Shared->Prop} (h:∀ tk tk',Q (.int (Txt.count x y) tk) { s with toks:=tk'}):wpAny (model prog w) A (call (.builtin "str.count") [.str x t,.str y u]) Q E s:=SC.count (h _ _)
theorem c6e {x y:List Nat}:CallOK prog w Lx base n (.builtin "str.count") [.str x,.str y] μ (.int (Txt.count (txt x) (txt y))) μ:=fun A E s as vs Q rm g ra hQ=>by
 obtain⟨v1,r1,rfl,⟨t1,rfl⟩,v2,r2,rfl,⟨t2,rfl⟩,rfl⟩:=ra;refine c6c (x:=txt x) (y:=txt y) fun tk tk'=>?_;exact hQ.same (tk:=tk') g (Rep.int_of _)
theorem c2r {x:List Nat}:a4v prog w Lx base "split" (.str x) μ (.builtin "str.split"):=by
 intro A E s as ov p Q g r h;rw [Rep]at r;obtain⟨t,rfl⟩:=r
 with_reducible exact GM.split h
theorem c7r {x:List Nat}:a4v prog w Lx base "join" (.str x) μ (.builtin "str.join"):=by
 intro A E s as ov p Q g r h;rw [Rep]at r;obtain⟨t,rfl⟩:=r
 with_reducible exact GM.join h
theorem c1r {x:List Nat}:a4v prog w Lx base "count" (.str x) μ (.builtin "str.count"):=by
 intro A E s as ov p Q g r h;rw [Rep]at r;obtain⟨t,rfl⟩:=r
 with_reducible exact GM.count h
theorem b7n {k:Nat} {l:List V} (hk:μ[k]?=some (.list l)):a4v prog w Lx base "append" (.mut k) μ (.builtin "list.append"):=fun A E s as ov p Q g r h=>by
 obtain⟨a,q,e,rfl⟩:=r;obtain⟨a',us,e',⟨m,hp⟩,hr⟩:=g.mus k _ _ hk e;obtain⟨rfl,rfl⟩:=List.cons.inj e';exact getMethod_list_append hp rfl rfl h
theorem c1y {k:Nat} {l:List V} {x:V} (hk:μ[k]?=some (.list l)) (hl:l.length<=big):CallOK prog w Lx base n (.builtin "list.append") [.mut k,x] μ .none (μ.set k (.list (l++[x]))):=fun A E s as vs Q rm g ra hQ=>by
 obtain⟨v1,r1,rfl,⟨a,q,e,rfl⟩,v2,r2,rfl,rx,rfl⟩:=ra;obtain⟨a',us,e',hp,hr⟩:=g.mus k _ _ hk e;obtain⟨rfl,rfl⟩:=List.cons.inj e';have hin:a∈as.flatten:=List.mem_flatten.mpr ⟨[a],List.mem_of_getElem? e,by simp⟩;have htl:a∈as.tail.flatten:=by
  refine List.mem_flatten.mpr ⟨[a],?_,by simp⟩;have:as.tail[k]?=some [a]:=by rw [List.getElem?_tail];exact e
  exact List.mem_of_getElem? this
 refine wpAny_list_append_plain hp (fun h' hp' hs=>?_) (by rw [List.size_toArray,hr.length,sizeLine_eq];unfold big at hl;omega);have ks:Ks as s.heap h':=fun b o hb e' zz=>(hs.2 b (fun q=>hb (q▸hin))).trans e';have hb:base.get? a=.none:=g.fresh a hin;have only:∀ j ads,as[j+1]?=some ads->j≠k->a∉ads:=by
  intro j ads hj hne hm;have nd:as.flatten.Pairwise (·≠·):=g.nd;rw [List.pairwise_flatten]at nd;have pw:=nd.2;rw [List.pairwise_iff_getElem]at pw;obtain⟨hj1,hj2⟩:=List.getElem?_eq_some_iff.mp hj;obtain⟨hk1,hk2⟩:=List.getElem?_eq_some_iff.mp e;rcases Nat.lt_or_gt_of_ne (show j+1≠k+1 by omega)with q | q
  ·have:=pw (j+1) (k+1) hj1 hk1 q
   rw [hj2,hk2]at this;exact this a hm a (by simp) rfl
  ·have:=pw (k+1) (j+1) hk1 hj1 q
   rw [hj2,hk2]at this;exact this a (by simp) a hm rfl
 have g':GR Lx base (μ.set k (.list (l++[x]))) as h':=by
  refine⟨fun b o e'=>(hs.2 b (fun q=>by rw [q,hb]at e';exact ns e')).trans (g.keep b o e'),g.fresh,g.nd,fun b hbm=>?_,by rw [List.length_set];exact g.len,fun j m ads hj hads=>?_⟩
  ·by_cases q:b=a
   ·obtain⟨m,e'⟩:=hp';exact⟨_,by rw [q];exact e'⟩
   ·obtain⟨o,e'⟩:=g.alive b hbm;exact⟨o,(hs.2 b q).trans e'⟩
  ·by_cases q:j=k
   ·subst q
    have hjl:j<μ.length:=(List.getElem?_eq_some_iff.mp hk).1;rw [List.getElem?_set_self hjl,Option.some.injEq]at hj;subst hj;rw [e,Option.some.injEq]at hads;subst hads;refine⟨a,us++[v2],rfl,?_,(hr.ks ks).append (.cons (rx.ks ks) .nil)⟩;have:(us++[v2]).toArray=us.toArray.push v2:=by simp
    rw [this];exact hp'
   ·rw [List.getElem?_set_ne (fun z=>q z.symm)]at hj
    have hm:=g.mus j m ads hj hads;have hn:=only j ads hads q;induction m using Mine.M.casesOn with
    | list l'=>
     obtain⟨b,ws,rfl,hpl,hrl⟩:=hm;refine⟨b,ws,rfl,?_,hrl.ks ks⟩;obtain⟨m,e'⟩:=hpl;exact⟨m,(hs.2 b (fun z=>hn (by simp [z]))).trans e'⟩
    | obj is n'=>exact let⟨rs,e1,e2⟩:=hm;⟨rs,e1,Lx.keep e2 fun b hb' o e'=>(hs.2 b (fun z=>hn (z▸hb'))).trans e'⟩
 refine hQ .none as h' s.toks g' ⟨⟨[],by simp,by simp⟩,fun b o hb' e'=>(hs.2 b (fun q=>hb' (q▸htl))).trans e',fun b hbm=>g'.alive b hbm⟩ (by simp [Rep])
end
end
section
inductive e5r(base:Heap)(C N:Addr):Prop where
 | mk {nm q:Str} {bs:List Value} {sn:List Str} {sub:List Value} {ab:Bool} {col:Option Bool} {dd:Option Addr} {k0 k1 k2 k3 k5:Option Value} {newId:String} (h:base.get? C=some (excClassObj nm q C N bs [.type "object"] true sn sub ab col dd k0 k1 k2 k3 k5 newId)):e5r base C N
structure LB(base:Heap) where
 C:Addr
 N:Addr
 mN:Str->Option Value
 cls:e5r base C N
 ns:base.Ns N mN
 nga:mN "__getattribute__" = .none
 ngt:mN "__getattr__" = .none
 nsa:mN "__setattr__" = .none
 own:∀ x:Str,x = "lineno" ∨ x = "instream" ∨ x = "whitespace" ∨ x = "pushback" -> mN x=.none
 fr:Addr
 fg:Addr
 fp:Addr
 read:mN "_read_char" = some (.ref fr)
 get:mN "get_token" = some (.ref fg)
 push:mN "push_token" = some (.ref fp)
theorem LB.ne{base:Heap}(B:LB base){X:Addr}(h:base.get? X=.none):X≠B.C:=fun q=>by
 obtain⟨hC⟩:=B.cls;exact Mine.ns ((q▸h:base.get? B.C=.none).symm.trans hC)
noncomputable def ws:List Nat:=[10,9,13,32]
structure a7l(mA:Str->Option Value)(PB F:Addr)(n:Int):Prop where
 line:∃ t,mA "lineno" = some (.int n t)
 stream:mA "instream" = some (.ref F)
 white:∃ t,mA "whitespace" = some (.str (txt ws) t)
 back:mA "pushback" = some (.ref PB)
 only:∀ x:Str,x ≠ "lineno" -> x ≠ "instream" -> x ≠ "whitespace" -> x ≠ "pushback" -> mA x=.none
inductive LexerAt(C:Addr)(h:Heap)(ads rs:List Addr)(n:Int):Prop where
 | mk (X D PB F:Addr) (o:Obj) (mA:Str->Option Value) (e1:ads=[X,D]) (e2:rs=[PB,F]) (h1:h.get? X=some o) (h2:o.cls=.ref C) (h3:∀ c,o.data≠.cls c) (h4:o.dict=some D) (h5:D≠X) (h6:h.Ns1 D mA) (h7:a7l mA PB F n)
inductive e0e(C:Addr)(h:Heap)(ads rs:List Addr)(n:Int):Prop where
 | mk (X D PB F:Addr) (mA:Str->Option Value) (e1:ads=[X,D]) (e2:rs=[PB,F]) (h1:h.Inst X C mA) (h2:a7l mA PB F n)
theorem LexerAt.keep{C:Addr}{h h':Heap}{ads rs:List Addr}{n:Int}(x:LexerAt C h ads rs n)(k:∀ a∈ads,∀ o,h.get? a=some o->h'.get? a=some o):LexerAt C h' ads rs n:=by
 obtain⟨X,D,PB,F,o,mA,rfl,rfl,h1,h2,h3,h4,h5,h6,h7⟩:=x;exact⟨X,D,PB,F,o,mA,rfl,rfl,k X (.head _) o h1,h2,h3,h4,h5,h6.at (fun o e=>k D (.tail _ (.head _)) o e),h7⟩
theorem LexerAt.inst{C:Addr}{h:Heap}{ads rs:List Addr}{n:Int}(x:LexerAt C h ads rs n):e0e C h ads rs n:=by
 obtain⟨X,D,PB,F,o,mA,rfl,rfl,h1,h2,h3,h4,h5,h6,h7⟩:=x;exact⟨X,D,PB,F,mA,rfl,rfl,⟨o,h1,h2,h3,.inr ⟨D,h4,h5,h6⟩⟩,h7⟩
theorem c5b (x:Str) (h:x = "lineno" ∨ x = "instream" ∨ x = "whitespace" ∨ x = "pushback" ∨ x = "_read_char" ∨ x = "get_token" ∨ x = "push_token"):typeLookup (.type "object") x=pure .none:=by
 rcases h with rfl | rfl | rfl | rfl | rfl | rfl | rfl<;>(rw [typeLookup_type,builtinLookup_eq_fast];kernel_rfl)
section
variable{prog:Program}{w:World}{base:Heap}{B:LB base}{A:Around}{E:Value->Shared->Prop}{s:Shared}
theorem a7f {mA:Str->Option Value} {X:Addr} {x:Str} {v:Value} {Q:Value->Shared->Prop} (k:∀ a o,base.get? a=some o->s.heap.get? a=some o) (I:s.heap.Inst X B.C mA) (hx:x = "lineno" ∨ x = "instream" ∨ x = "whitespace" ∨ x = "pushback") (hv:mA x=some v) (hh:handedOut v=pure v)
  (h:Q v { s with toks:=s.toks+1}):wpAny (model prog w) A (getAttr (.ref X) x true) Q E s:=by
 obtain⟨hC⟩:=B.cls;exact load_attr (k _ _ hC) (Ns.keep B.ns k) B.nga (B.own x hx) (c5b x (by rcases hx with h | h | h | h<;>simp [h])) I hv hh h
theorem c9l {mA:Str->Option Value} {X f:Addr} {of:Obj} {x:Str} {p:Sem Bool} {Q:Value×List Value->Shared->Prop} (k:∀ a o,base.get? a=some o->s.heap.get? a=some o) (I:s.heap.Inst X B.C mA) (hx:x = "_read_char" ∨ x = "get_token" ∨ x = "push_token")
  (hf:B.mN x=some (.ref f)) (ho:base.get? f=some of) (hc:of.cls=.type "function") (hsh:mA x=.none) (h:Q (.ref f,[.ref X]) s):wpAny (model prog w) A (getMethod (.ref X) x p) Q E s:=by
 obtain⟨hC⟩:=B.cls;exact method_of (k _ _ hC) (Ns.keep B.ns k) B.nga B.ngt hf (k _ _ ho) hc (c5b x (by rcases hx with h | h | h<;>simp [h])) I hsh h
end
end
section
section
variable{prog:Program}{w:World}{Lx:LxP}{base:Heap}{μ:Mu}{h h':Heap}{as:List (List Addr)}{n:Nat}
variable{A:Around}{E:Value->Shared->Prop}{s:Shared}
theorem GR.upd(g:GR Lx base μ as h){k:Nat}{ads:List Addr}{m:M}(hk:as[k+1]?=some ads)(hkl:k<μ.length)(kp:∀ b o,b∉ads->h.get? b=some o->h'.get? b=some o)(al:∀ a∈ads,∃ o,h'.get? a=some o)
  (hm:Ks as h h'->e2o Lx h' as m ads):GR Lx base (μ.set k m) as h'/\Go as h as h':=by
 have sub:∀ a∈ads,a∈as.flatten:=fun a ha=>List.mem_flatten.mpr ⟨ads,List.mem_of_getElem? hk,ha⟩;have subt:∀ a∈ads,a∈as.tail.flatten:=fun a ha=>List.mem_flatten.mpr ⟨ads,by
  have:as.tail[k]?=some ads:=by rw [List.getElem?_tail];exact hk
  exact List.mem_of_getElem? this,ha⟩
 have ks:Ks as h h':=fun b o hb e zz=>kp b o (fun q=>hb (sub b q)) e;have alive:∀ b∈as.flatten,∃ o,h'.get? b=some o:=fun b hb=>by
  by_cases q:b∈ads
  ·exact al b q
  ·obtain⟨o,e⟩:=g.alive b hb;exact⟨o,kp b o q e⟩
 refine⟨⟨fun b o e=>kp b o (fun q=>by rw [g.fresh b (sub b q)]at e;exact ns e) (g.keep b o e),g.fresh,g.nd,alive,by rw [List.length_set];exact g.len,fun j M ads' hj hads=>?_⟩,⟨⟨[],by simp,by simp⟩,fun b o hb e=>kp b o (fun q=>hb (subt b q)) e,alive⟩⟩;by_cases q:j=k
 ·subst q
  rw [List.getElem?_set_self hkl,Option.some.injEq]at hj;subst hj;rw [hk,Option.some.injEq]at hads;subst hads;exact hm ks
 ·rw [List.getElem?_set_ne (fun z=>q z.symm)]at hj
  have hM:=g.mus j M ads' hj hads;have hn:∀ a∈ads',a∉ads:=fun a ha=>b3g g hads hk (by omega) ha;induction M using Mine.M.casesOn with
  | list l'=>
   obtain⟨b,us,rfl,⟨m',hp⟩,hr⟩:=hM;exact⟨b,us,rfl,⟨m',kp b _ (hn b (by simp)) hp⟩,hr.ks ks⟩
  | obj is n'=>exact let⟨rs,e1,e2⟩:=hM;⟨rs,e1,Lx.keep e2 fun b hb o e=>kp b o (hn b hb) e⟩
end
end
end Mine
end
section
open PySem PySem.W PySem.Calls PyProof.Rows
set_option maxRecDepth 100000
namespace Mine
section
open PySem.Flt (wpAny_nsGet_known wpAny_loadPart_known)
namespace FF
theorem slot_ga:Slot "function" "__getattribute__" "object.__getattribute__":=
 .of (owner:="object") (n:="__getattribute__") (by rw [typeLookup_type,builtinLookup_eq_fast];kernel_rfl) (by decide +kernel) (by decide +kernel) (by decide +kernel)
  (by first | exact .inl (by decide +kernel) | exact .inr (by decide +kernel)) (by rw [isSubtype_type];kernel_rfl)
theorem lk_read:typeLookup (.type "function") "read" = pure .none:=by rw [typeLookup_type,builtinLookup_eq_fast];kernel_rfl
theorem lk_getattr:typeLookup (.type "function") "__getattr__" = pure .none:=by rw [typeLookup_type,builtinLookup_eq_fast];kernel_rfl
theorem canon:(Manifest.canonical "object.__getattribute__" != "object.__getattribute__")=false:=by decide +kernel
theorem sub_static:isSubtype (.type "function") (.type "staticmethod")=pure false:=by rw [isSubtype_type];kernel_rfl
theorem sub_classm:isSubtype (.type "function") (.type "classmethod")=pure false:=by rw [isSubtype_type];kernel_rfl
end FF
noncomputable def a9a (h:Heap) (a D:Addr) (m:Str->Option Value):Prop:=(∃ fd sl,h.get? a=some { cls:=.type "function",dict:=some D,data:=.func fd,slots:=sl})/\h.Ns D m
section
variable{prog:Program}{w:World}{A:Around}{E:Value->Shared->Prop}{h:Heap}{g:Array GenState}{d:Drawn}{t:Nat}{os:OsState}{Fa D:Addr}{md:Str->Option Value}
theorem c9m {tk:Tok} {v:Value} {Q:Fin->Shared->Prop} (hm:a9a h Fa D md) (hv:md "read" = some v)
  (hq:Q (.done (.ret v)) ⟨h,g,d,t,os⟩):wpAny (model prog w) A (Builtin.«object.__getattribute__» ⟨[.ref Fa,.str "read" tk],[]⟩) Q E ⟨h,g,d,t,os⟩:=by
 obtain⟨⟨fd,sl,hM⟩,hD⟩:=hm;have hT:(⟨h,g,d,t,os⟩:Shared).TypeIs (.ref Fa) "function":=⟨_,hM,rfl⟩
 have f1:=FF.sub_static;have f2:=FF.sub_classm;have hnm:=FF.lk_read
 repeat (any_goals (first | assumption | with_reducible apply wpAny_nsGet_known | with_reducible apply wpAny_loadPart_known | wp_step))
theorem e0p {v:Value} {Q:Value->Shared->Prop} (hm:a9a h Fa D md) (hv:md "read" = some v)
  (hh:handedOut v=pure v) (hq:Q v ⟨h,g,d,t+1,os⟩):wpAny (model prog w) A (getAttr (.ref Fa) "read" false) Q E ⟨h,g,d,t,os⟩:=by
 obtain⟨⟨fd,sl,hM⟩,hD⟩:=id hm;have hT:(⟨h,g,d,t,os⟩:Shared).TypeIs (.ref Fa) "function":=⟨_,hM,rfl⟩
 have hT1:(⟨h,g,d,t+1,os⟩:Shared).TypeIs (.ref Fa) "function":=⟨_,hM,rfl⟩
 have f1:=FF.slot_ga.lookup;have f2:=FF.lk_getattr;have f4:=FF.slot_ga.bind (.ref Fa)
 repeat (any_goals (first | assumption | wp_step))
 refine codeAny_call_builtin FF.slot_ga.plain F.entry_object_getattribute (FF.slot_ga.check _ _ _ _ _ _ _ _ hT1 (F.args_object_getattribute_2 _ _) (c9m hm hv ?_))
 repeat (any_goals (first | assumption | wp_step))
theorem c9e {v:Value} {pl:Sem Bool} {Q:Value×List Value->Shared->Prop} (hm:a9a h Fa D md) (hv:md "read" = some v)
  (hh:handedOut v=pure v) (hq:Q (v,[]) ⟨h,g,d,t+1,os⟩):wpAny (model prog w) A (getMethod (.ref Fa) "read" pl) Q E ⟨h,g,d,t,os⟩:=by
 obtain⟨⟨fd,sl,hM⟩,hD⟩:=id hm;have hT:(⟨h,g,d,t,os⟩:Shared).TypeIs (.ref Fa) "function":=⟨_,hM,rfl⟩
 have f1:=FF.slot_ga.lookup;unfold getMethod;refine wpAny_bind (wpAny_specialOf hT f1 ?_);show wpAny _ A (if(Manifest.canonical "object.__getattribute__" != "object.__getattribute__")=true then _ else _) Q E _
 rw [FF.canon,if_neg Bool.false_ne_true];refine wpAny_bind (wpAny_specialOf hT FF.lk_getattr ?_);show wpAny _ A (if(Option.isSome (.none:Option Value))=true then _ else _) Q E _;rw [if_neg (by decide)];refine wpAny_bind (wpAny_specialOf hT FF.lk_read ?_);refine wpAny_bind (e0p hm hv hh ?_);exact wpAny_pure hq
end
end
section
section
variable{prog:Program}{w:World}{Lx:LxP}{base:Heap}{μ:Mu}{h h':Heap}{as:List (List Addr)}{n:Nat}
variable{A:Around}{E:Value->Shared->Prop}{s:Shared}
theorem c3w {D:Addr} {y:Value} {ys:List Value} {m:Nat} {u:Tok} {Q:Value->Shared->Prop} (hD:s.heap.get? D=some { cls:=.type "list",data:=.seq (y::ys).toArray m}) (hz:(y::ys).length<=big)
  (h:∀ h',Heap.SameBut D s.heap h'->h'.PlainList D ys.toArray->Q y { s with heap:=h'}):wpAny (model prog w) A (call (.builtin "list.pop") [.ref D,.int 0 u]) Q E s:=by
 have hf:Builtin.List.listFitsIndex 0=true:=by decide +kernel
 have hk:seqIndex? 0 (y::ys).toArray.size=some 0:=by
  simp [seqIndex?]
 have hy:(y::ys).toArray[0]?=some y:=by simp
 have hz':(y::ys).toArray.size<=sizeLine:=by rw [List.size_toArray,sizeLine_eq];unfold big at hz;omega
 refine call_meets PySem.F.slot_list_pop ⟨_,hD,rfl⟩ PySem.F.entry_list_pop (PySem.F.args_list_pop_2 _ _) (PySem.MeetsSeq.list_pop_at D _ m 0 u _ y hf hk hy hz') ⟨hD,h _ (Heap.SameBut.update ..) ?_⟩;refine⟨m+1,?_⟩;rw [Heap.get?_update_self _ hD rfl];simp only [Obj.mapSeq];have e:((y::ys).toArray.eraseIdxIfInBounds 0)=ys.toArray:=by
  simp
 simp [e]
theorem b9w{k:Nat}{l:List V}{v:Value}(g:GR Lx base μ as s.heap)(hk:μ[k]?=some (.list l))(r:Rep s.heap as (.mut k) v):∃ a us,as[k+1]?=some [a]/\v=.ref a/\s.heap.PlainList a us.toArray/\Reps s.heap as l us:=by
 obtain⟨a,q,e,rfl⟩:=r;obtain⟨a',us,e',hp,hr⟩:=g.mus k _ _ hk e;obtain⟨rfl,rfl⟩:=List.cons.inj e';exact⟨a,us,e,rfl,hp,hr⟩
theorem d1q {k:Nat} {l:List V} (hk:μ[k]?=some (.list l)):a4v prog w Lx base "pop" (.mut k) μ (.builtin "list.pop"):=by
 intro A E s as ov p Q g r h;obtain⟨a,us,_,rfl,hp,_⟩:=b9w g hk r;obtain⟨m,e⟩:=id hp;exact getMethod_list_of F.slot_list_pop F.type_list_pop hp.isList ⟨_,e,rfl⟩ h
theorem c9t {k:Nat} {x:V} {l:List V} (hk:μ[k]?=some (.list (x::l))) (hl:(x::l).length<=big):CallOK prog w Lx base n (.builtin "list.pop") [.mut k,.int 0] μ x (μ.set k (.list l)):=fun A E s as vs Q rm g ra hQ=>by
 obtain⟨v1,r1,rfl,r,v2,r2,rfl,rx,rfl⟩:=ra;obtain⟨a,us,e,rfl,⟨m,hp⟩,hr⟩:=b9w g hk r;obtain⟨t,rfl⟩:=rx;obtain⟨y,ys,rfl,ry,rys⟩:=hr;refine c3w hp (by have:=rys.length;simp only [List.length_cons]at hl ⊢;omega) fun h' hs hp'=>?_;have hin:a∈as.flatten:=List.mem_flatten.mpr ⟨[a],List.mem_of_getElem? e,by simp⟩;obtain⟨g',go⟩:=g.upd (m:=.list l) e (List.getElem?_eq_some_iff.mp hk).1 (fun b o hb e'=>(hs.2 b (by simpa using hb)).trans e') (fun b hb=>by
  rw [List.mem_singleton]at hb;subst hb;obtain⟨m,e'⟩:=hp';exact⟨_,e'⟩) fun ks=>⟨a,ys,rfl,hp',rys.ks ks⟩
 exact hQ y as h' s.toks g' go (ry.ks fun b o hb e' zz=>(hs.2 b (fun q=>hb (q▸hin))).trans e')
theorem c1o {l:List V}:a4v prog w Lx base "index" (.lst l) μ (.builtin "list.index"):=by
 intro A E s as ov p Q g r h;obtain⟨a,us,rfl,_,hp,_⟩:=r;obtain⟨m,e⟩:=id hp;exact getMethod_list_of F.slot_list_index F.type_list_index hp.isList ⟨_,e,rfl⟩ h
theorem c3s {l:List V} {x:V} {j:Nat} (h:a8z l x=some j) (hl:l.length<=big):CallOK prog w Lx base n (.builtin "list.index") [.lst l,x] μ (.int j) μ:=fun A E s as vs Q rm g ra hQ=>by
 obtain⟨v1,r1,rfl,r,v2,r2,rfl,rx,rfl⟩:=ra;refine a0g h fun d e1 h=>a0g h fun xs e2 h=>ifS h fun hs h=>?_;obtain⟨a,us,rfl,ha,⟨m,hp⟩,hr⟩:=r;obtain⟨_,h1⟩:=Reps.reads e2 hr;obtain⟨_,h2⟩:=rx.reads e1;have hxs:=b0k (a0d hs);have hm:=SeqAt.readsAll_map xs us _ hxs h1;obtain⟨hj,b1,b2⟩:=List.findIdx?_eq_some_iff_getElem.mp h;subst hm;have hj:j<us.length:=by rw [List.length_map]at hj;exact hj
 have hlen:=hr.length;refine call_meets PySem.F.slot_list_index ⟨_,hp,rfl⟩ PySem.F.entry_list_index (PySem.F.args_list_index_2 _ _)
  (SeqAt.list_indexAt a us.toArray m .none #[] v2 (fun y=>PyData.eqv (SeqAt.readOf s.heap y) d) j (by rw [List.size_toArray];exact hj) (by unfold big at hl;omega) (by simpa using b1) fun i hi hlt=>?_)
  ⟨hp,SeqAt.items_eqAt (vs:=us.toArray) h1 h2 hxs (SeqAt.canLay_of_shaped (a0f hs)) (b5f (by have:=rm.units;omega) (@b2e _ _ (a0f hs))),?_⟩
 ·have:=b2 i hlt
  simpa using this
 ·exact hQ.now (tk:=s.toks+1) g ⟨_,rfl⟩
end
end
section
structure LamT where
 qual:Str
 params:Arguments
 scope:Scope
 p1:Pos
 p2:Pos
 p3:Pos
 p4:Pos
 p5:Pos
 p6:Pos
 kd:Nat
 pos0:Pos
 pos:Pos
noncomputable def LamT.body (l:LamT):Expr:=.IfExp (.Name "letters" l.p1) (.Call (.Attribute (.Name "letters" l.p2) "pop" l.p3) [] [] l.p4) (.Constant (.str "") l.kd l.p5) l.p6
structure b7f(l:LamT):Prop where
 bind:∀(cl:List (Str×Addr)) (pm cdv ct v:Value),bindArgs (kla_fn "<lambda>" l.qual l.params l.body l.scope cl pm cdv ct) ⟨[v],[]⟩=pure [(("size":Str),v)]
 size:l.scope.names.lookup ("size":Str)=some NameKind.local
 letters:l.scope.names.lookup ("letters":Str)=some NameKind.free
 nocell:∀ x∈l.scope.names,x.2≠.cell
 kind:l.scope.kind=.function
 coro:l.scope.isCoroutine=false
 gen:l.scope.isGenerator=false
 line:(l.p3.endLine==l.p4.line)=true
section
variable{prog:Program}{w:World}{A:Around}{E:Value->Shared->Prop}{s:Shared}
theorem d0c{l:LamT}(ok:b7f l)(hh:A.handled=.none)(hd:A.depth<1000){G LC LL cG:Addr}{pm ctv v:Value}{us:List Value}{Q:Value->Shared->Prop}
  (hG:s.heap.get? G=some (kla_obj "<lambda>" l.qual l.params l.body l.scope [("letters",LC)] pm cG ctv)) (hcd:s.heap.CodeRec (.ref cG) l.qual) (hbig:s.heap.NoLimit) (hC:s.heap.IsCell LC (some (.ref LL))) (hL:s.heap.PlainList LL us.toArray) (hz:us.length<=big)
  (h0:us=[]->∀ h' tk t,(∀ b o,s.heap.get? b=some o->h'.get? b=some o)->Q (.str "" t) { s with heap:=h',toks:=tk})
  (h1:∀ y ys,us=ys++[y]->∀ h' tk,(∀ b o,b≠LL->s.heap.get? b=some o->h'.get? b=some o)->h'.PlainList LL ys.toArray->Q y { s with heap:=h',toks:=tk}) :
  wpAny (model prog w) A (call (.ref G) [v]) Q E s:=by
 refine wpAny_call (kla_callFunE hd hG rfl ok.coro ok.gen rfl hcd ?_);rw [ok.bind];refine wpAny_pure (wpAny_newFunctionEnv ok.nocell (by
  intro x hx;rw [List.mem_singleton]at hx;subst hx;exact ok.size) (fun h' hns hsb=>?_) ok.kind)
 have kp:∀ b o,s.heap.get? b=some o->h'.get? b=some o:=fun b o e=>hsb.extBut b o (Nat.ne_of_lt (Heap.lt_size e)) (Heap.get?_push_of_some _ e);refine⟨hbig.keeps kp,kla_codeExpr ?_⟩;obtain⟨env,henv⟩:∃ env,env=newEnv l.scope s.heap.objs.size mainGlobals [("letters",LC)] (l.qual++".<locals>.") (some G) (.ref cG) .none builtinsNs:=⟨_,rfl⟩
 show wpAny (model prog w) (A.deeper (newEnv l.scope s.heap.objs.size mainGlobals [("letters",LC)] (l.qual++".<locals>.") (some G) (.ref cG) .none builtinsNs)) (eval l.body (newEnv l.scope s.heap.objs.size mainGlobals [("letters",LC)] (l.qual++".<locals>.") (some G) (.ref cG) .none builtinsNs)) _ _ _
 rw [← henv];have hk:env.scope.kind=.function:=by rw [henv];exact ok.kind
 have hl:env.kindOf "letters" = some .free:=by rw [henv];exact ok.letters
 have hc:env.cells.lookup ("letters":Str)=some LC:=by rw [henv];rfl
 have hC':h'.IsCell LC (some (.ref LL)):=hC.keeps kp;obtain⟨m,eL⟩:=hL;have eL':=kp _ _ eL;have hsz:us.toArray.size<=sizeLine:=by rw [List.size_toArray,sizeLine_eq];unfold big at hz;omega
 unfold LamT.body;have name:∀ {p:Pos} {E':Value->Shared->Prop} {Q':Value->Shared->Prop} {tk:Nat},Q' (.ref LL) { s with heap:=h',toks:=tk}->wpAny (model prog w) (A.deeper env) (eval (.Name "letters" p) env) Q' E' { s with heap:=h',toks:=tk}:=fun {p E' Q' tk} q=>
  wpAny_Name (wpAny_loadName_free hk hl hc hC' q) (by decide)
 refine wpAny_IfExp (isTrue_plain (name ?_));refine wpAny_truthy_list (items:=us.toArray) ⟨_,eL',rfl,m,rfl⟩ (by simp only [List.size_toArray];unfold big at hz;omega) ?_;rcases List.eq_nil_or_concat us with rfl | ⟨ys,y,rfl⟩
 ·simp only [List.isEmpty_toArray,List.isEmpty_nil,Bool.not_true,Bool.false_eq_true,if_false]
  exact wpAny_Constant_str (h0 rfl h' _ _ kp)
 ·have e1:(!(ys++[y]).toArray.isEmpty)=true:=by simp
  simp only [List.concat_eq_append]at eL' hz hsz h1 ⊢;rw [e1,if_pos rfl,arm_eval_Call];refine wpAny_bind (name ?_);refine wpAny_bind (wpAny_standAt ?_);have few:methodCallForm (([]:List Expr).length+([]:List Keyword).length) (backTo l.p4 (starEach [] env)) (backToKw l.p4 (keywordEach [] env))=true:=rfl;unfold methodCall;rw [few];refine wpAny_bind (wpAny_holding (getMethod_list_of F.slot_list_pop F.type_list_pop (items:=(ys++[y]).toArray) ⟨_,eL',rfl,m,rfl⟩ ⟨_,eL',rfl⟩ ?_));show wpAny (model prog w) _ (methodCallPos true _ env l.p3 l.p4 >>= fun cp=>callWith cp (.builtin "list.pop") [.ref LL] (backTo l.p4 (starEach [] env)) []) _ _ _
  have hpos:methodCallPos true (.Name "letters" l.p2) env l.p3 l.p4=pure l.p4:=by
   unfold methodCallPos;rw [if_pos (by simpa using ok.line)]
  rw [hpos];refine wpAny_bind (wpAny_pure ?_);refine P.pop_list (items:=(ys++[y]).toArray) (n:=m) eL' (y:=y) (by simp) ?_ hsz;refine h1 y ys rfl _ _ (fun b o hb e=>?_) ⟨m+1,?_⟩
  ·rw [Heap.get?_update_ne _ _ _ _ hb];exact kp b o e
  ·rw [Heap.get?_update_self _ eL' rfl]
   simp only [Obj.mapSeq];have e3:(ys++[y]).eraseIdx ys.length=ys:=by simpa using kl_eraseL ys [] y
   simp [e3]
end
end
section
inductive StreamAt(lm:LamT)(h:Heap)(ads rs:List Addr):Prop where
 | mk (F FD G LC cG LL:Addr) (pm:Value) (ctv:Value) (mF:Str->Option Value) (e1:ads=[F,FD,G,LC]) (e2:rs=[LL,cG]) (h1:a9a h F FD mF) (h2:mF "read" = some (.ref G)) (h3:h.get? G=some (kla_obj "<lambda>" lm.qual lm.params lm.body lm.scope [("letters",LC)] pm cG ctv)) (h4:h.IsCell LC (some (.ref LL)))
noncomputable def CodeAt(lm:LamT)(h:Heap)(ads:List Addr):Prop:=∃ c,ads=[c]/\h.CodeRec (.ref c) lm.qual
noncomputable def a6p (a b:Value) (e:Bool):Obj:={ cls:=.type "callable_iterator",data:=.fields #[a,b,.bool e]}
inductive FitAt(fr:Addr)(h:Heap)(ads rs:List Addr):Prop where
 | mk (fi bm X:Addr) (t:Tok) (e1:ads=[fi,bm]) (e2:rs=[X]) (h1:h.get? fi=some (a6p (.ref bm) (.str "" t) false)) (h2:h.get? bm=some (methodObj (.ref fr) (.ref X)))
noncomputable def EndAt(h:Heap)(ads:List Addr):Prop:=∃ fi bm,ads=[fi,bm]/\h.get? fi=some (a6p .none .none true)
noncomputable def TabAt(lm:LamT)(P:Addr)(h:Heap)(ads rs:List Addr)(n:Int):Prop:=ads=[P] ∧
 ((n = -1/\h.get? P=some (tabObj #[]))∨n = -8 ∨
 (n = -5/\∃ c1 c2,rs=[c2]/\h.get? P=some (tabObj #[rawInt lm.pos0.line,rawInt lm.pos0.col,.ref c1,rawInt lm.pos.line,rawInt lm.pos.col,.ref c2])))
section
variable{lm:LamT}{P fr:Addr}{h h':Heap}{ads rs:List Addr}{n:Int}
theorem StreamAt.keep(x:StreamAt lm h ads rs)(k:∀ a∈ads,∀ o,h.get? a=some o->h'.get? a=some o):StreamAt lm h' ads rs:=by
 obtain⟨F,FD,G,LC,cG,LL,pm,ctv,mF,rfl,rfl,⟨⟨fd,sl,h1⟩,h2⟩,h3,h4,⟨oc,h5,h6⟩⟩:=x;exact⟨F,FD,G,LC,cG,LL,pm,ctv,mF,rfl,rfl,⟨⟨fd,sl,k F (.head _) _ h1⟩,let⟨o,es,ep,e,r⟩:=h2;⟨o,es,ep,k FD (.tail _ (.head _)) _ e,r⟩⟩,h3,k G (.tail _ (.tail _ (.head _))) _ h4,⟨oc,k LC (.tail _ (.tail _ (.tail _ (.head _)))) _ h5,h6⟩⟩
theorem FitAt.keep(x:FitAt fr h ads rs)(k:∀ a∈ads,∀ o,h.get? a=some o->h'.get? a=some o):FitAt fr h' ads rs:=by
 obtain⟨fi,bm,X,t,rfl,rfl,h1,h2⟩:=x;exact⟨fi,bm,X,t,rfl,rfl,k fi (.head _) _ h1,k bm (.tail _ (.head _)) _ h2⟩
theorem EndAt.keep(x:EndAt h ads)(k:∀ a∈ads,∀ o,h.get? a=some o->h'.get? a=some o):EndAt h' ads:=by
 obtain⟨fi,bm,rfl,h1⟩:=x;exact⟨fi,bm,rfl,k fi (.head _) _ h1⟩
theorem CodeAt.keep(x:CodeAt lm h ads)(k:∀ a∈ads,∀ o,h.get? a=some o->h'.get? a=some o):CodeAt lm h' ads:=by
 obtain⟨c',rfl,c,o,vs,t,e,h7,h8⟩:=x;cases e;exact⟨c',rfl,c',o,vs,t,rfl,k c' (.head _) _ h7,h8⟩
theorem TabAt.keep(x:TabAt lm P h ads rs n)(k:∀ a∈ads,∀ o,h.get? a=some o->h'.get? a=some o):TabAt lm P h' ads rs n:=by
 obtain⟨rfl,x⟩:=x;exact⟨rfl,x.imp (And.imp_right (k P (.head _) _)) (Or.imp_right (And.imp_right fun⟨c1,c2,h2,h3⟩=>⟨c1,c2,h2,k P (.head _) _ h3⟩))⟩
end
noncomputable def a1i{base:Heap}(B:LB base)(lm:LamT)(P:Addr):LxP where
 At h ads rs n:=(1<=n/\LexerAt B.C h ads rs n)∨(n = -3/\StreamAt lm h ads rs)∨(n = -2/\FitAt B.fr h ads rs)∨(n = -4/\EndAt h ads)∨(n = -6/\CodeAt lm h ads)∨((n = -1∨n = -8∨n = -5)/\TabAt lm P h ads rs n)∨(n = -9/\∃ T a b,ads=[T]/\IsPair h T a b)
 keep:=fun x k=>x.imp (And.imp_right (·.keep k)) (Or.imp (And.imp_right (StreamAt.keep · k)) (Or.imp (And.imp_right (FitAt.keep · k)) (Or.imp (And.imp_right (EndAt.keep · k)) (Or.imp (And.imp_right (CodeAt.keep · k)) (Or.imp (And.imp_right (TabAt.keep · k)) (And.imp_right fun⟨T,a,b,e,hT⟩=>⟨T,a,b,e,k T (e▸List.mem_singleton_self T) _ hT⟩))))))
 pair:=⟨fun x=>by
  rcases x with⟨q,_⟩ | ⟨q,_⟩ | ⟨q,_⟩ | ⟨q,_⟩ | ⟨q,_⟩ | ⟨q,_⟩ | ⟨_,_,a,b,e,h⟩
  ·exact absurd q (by decide)
  ·exact absurd q (by decide)
  ·exact absurd q (by decide)
  ·exact absurd q (by decide)
  ·exact absurd q (by decide)
  ·exact absurd q (by decide)
  ·cases e;exact⟨a,b,h⟩,fun⟨a,b,h⟩=>.inr (.inr (.inr (.inr (.inr (.inr ⟨rfl,_,a,b,rfl,h⟩)))))⟩
section
variable{prog:Program}{w:World}{base:Heap}{B:LB base}{lm:LamT}{P:Addr}{μ:Mu}{as:List (List Addr)}{A:Around}{E:Value->Shared->Prop}{s:Shared}
inductive e8l(C:Addr)(as:List (List Addr))(h:Heap)(k:Nat)(is:List Nat)(n:Int)(v:Value):Prop where
 | mk (X D PB F:Addr) (mA:Str->Option Value) (e1:v=.ref X) (e2:as[k+1]?=some [X,D]) (e3:c2j as is=some [PB,F]) (h1:h.Inst X C mA) (h2:a7l mA PB F n)
theorem e7p{n m:Int}{G:Prop}(q:n=m)(h:1<=n)(hm:m<1):G:=absurd (Int.lt_of_lt_of_le hm (q▸h)) (Int.lt_irrefl _)
theorem a3p{k:Nat}{is:List Nat}{n:Int}{h:Heap}{v:Value}(g:GR (a1i B lm P) base μ as h)(hk:μ[k]?=some (.obj is n))(hn:1<=n)(r:Rep h as (.mut k) v) :
  e8l B.C as h k is n v:=by
 obtain⟨a,q,e,rfl⟩:=r;obtain⟨rs,e1,e2⟩:=g.mus k _ _ hk e;rcases e2 with⟨_,x⟩ | ⟨q,_⟩ | ⟨q,_⟩ | ⟨q,_⟩ | ⟨q,_⟩ | ⟨q,_⟩ | ⟨q,_⟩
 ·obtain⟨X,D,PB,F,mA,ea,er,I,L⟩:=x.inst
  rw [ea]at e;obtain⟨rfl,_⟩:=List.cons.inj ea;exact⟨_,D,PB,F,mA,rfl,e,by rw [e1,er],I,L⟩
 all_goals first | exact e7p q hn (by decide) | omega
theorem b3d{kp ks:Nat}{PB F:Addr}(h:c2j as [kp,ks]=some [PB,F]):(∃ q,as[kp+1]?=some (PB::q))/\∃ q,as[ks+1]?=some (F::q):=by
 refine a0c h fun x y h1 h2 e=>a0c h2 fun z zz h3 zz e2=>?_;subst e2;cases e;refine a0g h1 fun l1 h1 e1=>a0g h3 fun l2 h2 e2=>?_;induction l1 using List.casesOn with
 | nil=>exact ns e1
 | cons a q1=>induction l2 using List.casesOn with
  | nil=>exact ns e2
  | cons b q2=>
   cases e1;cases e2;exact⟨⟨_,h1⟩,⟨_,h2⟩⟩
theorem c5x {k:Nat} {is:List Nat} {n:Int} {ov:Value} {Q:Value->Shared->Prop} (hk:μ[k]?=some (.obj is n)) (hn:1<=n) (g:GR (a1i B lm P) base μ as s.heap) (r:Rep s.heap as (.mut k) ov) (hQ:Post (a1i B lm P) base as s (.int n) μ Q):wpAny (model prog w) A (getAttr ov "lineno" true) Q E s:=by
 obtain⟨X,D,PB,F,mA,rfl,_,_,I,L⟩:=a3p g hk hn r;obtain⟨t,hl⟩:=L.line;exact a7f (B:=B) g.keep I (by simp) hl rfl (hQ.same (tk:=s.toks+1) g (⟨_,rfl⟩))
theorem c2q {k:Nat} {is:List Nat} {n:Int} {ov:Value} {Q:Value->Shared->Prop} (hk:μ[k]?=some (.obj is n)) (hn:1<=n) (g:GR (a1i B lm P) base μ as s.heap) (r:Rep s.heap as (.mut k) ov) (hQ:Post (a1i B lm P) base as s (.str ws) μ Q):wpAny (model prog w) A (getAttr ov "whitespace" true) Q E s:=by
 obtain⟨X,D,PB,F,mA,rfl,_,_,I,L⟩:=a3p g hk hn r;obtain⟨t,hl⟩:=L.white;exact a7f (B:=B) g.keep I (by simp) hl rfl (hQ.same (tk:=s.toks+1) g (⟨_,rfl⟩))
theorem c4z {k kp ks:Nat} {n:Int} {ov:Value} {Q:Value->Shared->Prop} (hk:μ[k]?=some (.obj [kp,ks] n)) (hn:1<=n) (g:GR (a1i B lm P) base μ as s.heap) (r:Rep s.heap as (.mut k) ov) (hQ:Post (a1i B lm P) base as s (.mut kp) μ Q):wpAny (model prog w) A (getAttr ov "pushback" true) Q E s:=by
 obtain⟨X,D,PB,F,mA,rfl,_,hr,I,L⟩:=a3p g hk hn r;obtain⟨⟨q,h1⟩,_⟩:=b3d hr;exact a7f (B:=B) g.keep I (by simp) L.back rfl (hQ.same (tk:=s.toks+1) g (⟨_,_,h1,rfl⟩))
end
end
end Mine
end
section
open PySem PySem.W PySem.Calls PyProof.Rows
namespace Mine
section
section
variable{prog:Program}{w:World}{Lx:LxP}{base:Heap}
noncomputable def CodeOK(prog:Program)(w:World)(Lx:LxP)(base:Heap)(n:Nat)(f:Value)(args:List V)(μ:Mu)(r:V)(μ':Mu):Prop:=
 ∀(A:Around) (R:Result->Shared->Prop) (s:Shared) (as:List (List Addr)) (vs:List Value),Room A n->GR Lx base μ as s.heap->Reps s.heap as args vs →
  Post Lx base as s r μ' (fun v s'=>R (.ok (.ret v)) s')->codeAny (model prog w) A (.call f ⟨vs,[]⟩) R s
theorem CodeOK.call{n:Nat}{f:Value}{args:List V}{μ μ':Mu}{r:V}(h:CodeOK prog w Lx base n f args μ r μ'):CallOK prog w Lx base n f args μ r μ':=
 fun A E s as vs Q rm g ra hQ=>wpAny_call (h A _ s as vs rm g ra hQ)
theorem d9o{tbl:List Str}(hbig:base.NoLimit)
  {n:Nat} {a:Addr} {o:Obj} {fd:FuncData} {body:List Stmt} {v:F} {μ₂:Mu} {ρ₂:Rho} {names:List Str} {is:List Nat} {args:List V} {μ μ':Mu} {r:V}
  (ho:base.get? a=some o) (hd:o.data=.func fd) (hcd:base.CodeRec fd.code fd.qualname) (hbody:fd.body=.stmts body)
  (hg:fd.globals=mainGlobals) (hb:fd.builtins=builtinsNs) (hclo:fd.closure=[])
  (hco:fd.scope.isCoroutine=false) (hgen:fd.scope.isGenerator=false) (hk:fd.scope.kind=.function)
  (hbind:∀ vals:List Value,vals.length=names.length->bindArgs fd ⟨vals,[]⟩=pure (names.zip vals))
  (hi:a1o (nid tbl) names=some is) (hnd:names.Nodup) (hkn:∀ x∈names,fd.scope.names.lookup x=some .local∨fd.scope.names.lookup x=some .cell)
  (hfree:∀ p∈fd.scope.names,p.2≠.free) (hlen:is.length=args.length)
  (hx:∀(A:Around) (E:Value->Shared->Prop) (L:Addr) (as:List (List Addr)) (s:Shared) (Q:Flow->Shared->Prop),Room A n->s.heap.NoLimit->ER tbl base (callEnvC fd L a) (is.zip args) as s.heap->GR Lx base μ as s.heap->SPost Lx base tbl (callEnvC fd L a) as s v ρ₂ μ₂ Q->wpAny (model prog w) A (execs body (callEnvC fd L a)) Q E s)
  (hok:(μ₂.take μ.length).all (okM μ.length)=true∨μ₂.length=μ.length) (hμ:μ'=μ₂.take μ.length) (hr:match v with | .ret u=>a4u μ.length μ₂ u=some r | .next=>r=.none | _=>False):CodeOK prog w Lx base (n+1) (.ref a) args μ r μ':=by
 intro A R s as vals rm g ra hQ;obtain⟨Q,hQe⟩:∃ Q:Value->Shared->Prop,Q=fun v s'=>R (.ok (.ret v)) s':=⟨_,rfl⟩;rw [← hQe]at hQ;subst hμ
 ·have hl:names.length=vals.length:=by rw [ra.length,← hlen,a5z hi]
  have rm':∀ env,Room (A.deeper env) n:=fun env=>⟨rm.calm,by show A.depth+1+n<=900;have:=rm.depth;omega,by show A.units+3+10 * n<=9000;have:=rm.units;omega⟩;refine(codeAny_call_cells (by have:=rm.depth;show A.depth<1000;omega) (g.keep _ _ ho) hd (hbig.keeps fun b o e=>g.keep b o e) (hcd.keeps fun b o e=>g.keep b o e) hbody (hbind vals hl.symm) hclo (fun x hx=>?_) (fun sI x=>?_) hco hgen hk)
  ·rcases hkn x.1 (List.of_mem_zip hx).1 with q | q
   ·exact .inl q
   ·exact .inr ⟨q,a2g _ _ _ q⟩
  ·obtain⟨hY,tkI,eI,hkeep⟩:=x.done
   have gI:GR Lx base μ as sI.heap/\Go as s.heap as sI.heap:=g.all fun a o zz e=>x.toInCall.keep a o e;obtain⟨gI,goI⟩:=gI;have er:=b3k (tbl:=tbl) hk hg hb hfree hnd hi x hl g (ra.go goI);have hwf:∀ b,Wf tbl (callEnvC fd s.heap.objs.size a) b->s.heap.get? b=.none:=by
    intro b hb;have:s.heap.objs.size<=b:=by
     rcases hb with rfl | ⟨i,y,_,_,hc⟩
     ·exact x.toInCall.fresh
     ·exact Nat.le_of_lt (Nat.lt_of_le_of_lt x.toInCall.fresh (x.above _ _ (mem_of_lookup hc)))
    induction q:s.heap.get? b using Option.casesOn with
    | none=>rfl
    | some o=>exact absurd (Heap.lt_size q) (Nat.not_lt.mpr this)
   have fin:∀ {μ₂:Mu} {asJ:List (List Addr)} {hJ:Heap} {u:Value} {v v':V} {tk:Nat},GR Lx base μ₂ asJ hJ->GoS (Wf tbl (callEnvC fd s.heap.objs.size a)) as sI.heap asJ hJ->((μ₂.take μ.length).all (okM μ.length)=true∨μ₂.length=μ.length)->Rep hJ asJ v u->a4u μ.length μ₂ v=some v' →
     (∀ u h' tk,GR Lx base (μ₂.take μ.length) as h'->Go as s.heap as h'->Rep h' as v' u->Q u { s with heap:=h',toks:=tk})->Q u { s with heap:=hJ,toks:=tk}:=by
    intro μ₂ asJ hJ u v v' tk gJ gs hok rv hf K;obtain⟨nw,rfl,_⟩:=gs.ext;have hlm:as.length=μ.length+1:=g.len;have hle:μ.length<=μ₂.length:=by
     have:=gJ.len;rw [List.length_append]at this;omega
    have gd:GR Lx base (μ₂.take μ.length) as hJ:=by
     rcases hok with hok | hok
     ·exact gJ.drop hlm hok hle
     ·have hn0:nw=[]:=by
       have:=gJ.len;rw [List.length_append]at this;exact List.eq_nil_of_length_eq_zero (by omega)
      rw [← hok,List.take_length];rw [hn0,List.append_nil]at gJ;exact gJ
    refine K u hJ tk gd ⟨⟨[],by simp,by simp⟩,fun b o hb e=>?_,fun b hb=>?_⟩ (rv.frozen gJ hlm hf)
    ·exact gs.keep b o hb (fun q=>by rw [hwf b q]at e;exact ns e) (x.toInCall.keep b o e)
    ·exact gJ.alive b (by rw [List.flatten_append];exact List.mem_append_left _ hb)
   rw [eI];rw [eI]at gI er;induction v using Mine.F.casesOn with
   | ret u=>
    refine hx _ _ _ as _ _ (rm' _) (by have:=hbig.keeps (fun b o e=>gI.keep b o e);exact this) er gI fun fl asJ hJ tk gJ erJ gs fr=>?_;induction fl using PySem.Flow.casesOn<;>try exact fr.elim
    have gs':GoS (Wf tbl (callEnvC fd s.heap.objs.size a)) as sI.heap asJ hJ:=by rw [eI];exact gs
    have z:=fin (tk:=tk) gJ gs' hok fr hr fun u h' tk g' go' r'=>hQ u as h' tk g' go' r';rw [hQe]at z;exact z
   | next=>
    simp only at hr;subst hr;refine hx _ _ _ as _ _ (rm' _) (by have:=hbig.keeps (fun b o e=>gI.keep b o e);exact this) er gI fun fl asJ hJ tk gJ erJ gs fr=>?_;induction fl using PySem.Flow.casesOn<;>try exact fr.elim
    have gs':GoS (Wf tbl (callEnvC fd s.heap.objs.size a)) as sI.heap asJ hJ:=by rw [eI];exact gs
    have z:=fin (v:=.none) (v':=.none) (u:=Value.none) (tk:=tk) gJ gs' hok (by simp [Rep]) rfl fun u h' tk g' go' r'=>hQ u as h' tk g' go' r';rw [hQe]at z;exact z
   | _=>exact hr.elim
end
end
end Mine
end
section
open PySem PySem.W PySem.Calls PyProof.Rows
set_option maxRecDepth 100000
namespace Mine
section
section
variable{prog:Program}{w:World}{base:Heap}{B:LB base}{lm:LamT}{P:Addr}{μ:Mu}{as:List (List Addr)}{A:Around}{E:Value->Shared->Prop}{s:Shared}
theorem c1d {mA:Str->Option Value} {PB F:Addr} {n:Int} (L:a7l mA PB F n):Within mA ["lineno","instream","whitespace","pushback"]:=by
 intro y hy;by_cases h1:y = "lineno"
 ·simp [h1]
 by_cases h2:y = "instream"
 ·simp [h2]
 by_cases h3:y = "whitespace"
 ·simp [h3]
 by_cases h4:y = "pushback"
 ·simp [h4]
 exact absurd (L.only y h1 h2 h3 h4) hy
theorem c1x{k:Nat}{is:List Nat}{n m:Int}{v:Value}{t:Tok}{Q:Unit->Shared->Prop}(hk:μ[k]?=some (.obj is n))(hn:1<=n)(hm:1<=m)(g:GR (a1i B lm P) base μ as s.heap)(r:Rep s.heap as (.mut k) v)
  (h:∀ h' tk,GR (a1i B lm P) base (μ.set k (.obj is m)) as h'->Go as s.heap as h'->Q () { s with heap:=h',toks:=tk}):wpAny (model prog w) A (setAttr v "lineno" (.int m t)) Q E s:=by
 obtain⟨X,D,PB,F,mA,rfl,e,er,I,L⟩:=a3p g hk hn r;obtain⟨hC⟩:=B.cls;have hXC:X≠B.C:=B.ne (g.fresh X (List.mem_flatten.mpr ⟨[X,D],List.mem_of_getElem? e,.head _⟩));obtain⟨o,hX,hc,hnc,hd⟩:=id I;have hD:o.dict=some D/\D≠X/\s.heap.Ns1 D mA:=by
  obtain⟨rs,e1,e2⟩:=g.mus k _ _ hk e;rcases e2 with⟨_,x⟩ | ⟨q,_⟩ | ⟨q,_⟩ | ⟨q,_⟩ | ⟨q,_⟩ | ⟨q,_⟩ | ⟨q,_⟩
  ·obtain⟨X',D',PB',F',o',mA',ea,er',h1,h2,h3,h4,h5,h6,h7⟩:=x
   simp only [List.cons.injEq,and_true]at ea;obtain⟨rfl,rfl⟩:=ea;rw [hX]at h1;obtain rfl:=Option.some.inj h1;refine⟨h4,h5,?_⟩;rcases hd with⟨q,_⟩ | ⟨d,hd1,hd2,hd3⟩
   ·rw [h4]at q;cases q
   ·rw [h4]at hd1;obtain rfl:=Option.some.inj hd1;exact hd3
  all_goals first | exact e7p q hn (by decide) | omega
 refine store_attr PySem.F.store_object (g.keep _ _ hC) (Ns.keep B.ns g.keep) B.nsa (B.own _ (.inl rfl)) (c5b _ (.inl rfl)) hXC I (fun h' tk' I' hk' hsame=>?_) (c1d L) (by decide);obtain⟨oI,hoI,hcI,hdI,_,hdd⟩:=hsame o hX;have hI':∃ o',h'.get? X=some o'/\o'.dict=some D/\h'.Ns1 D (fun y=>if y = "lineno" then some (.int m t)else mA y):=by
  obtain⟨o',h1,h2,h3,h4⟩:=I';rw [hoI]at h1;obtain rfl:=Option.some.inj h1;have hdd':=hdd D hD.1;rcases h4 with⟨q,_⟩ | ⟨d,q1,q2,q3⟩
  ·rw [hdd']at q;cases q
  ·rw [hdd']at q1;obtain rfl:=Option.some.inj q1;exact⟨_,hoI,hdd',q3⟩
 obtain⟨o',ho',hdo',hns'⟩:=hI';rw [hoI]at ho';obtain rfl:=Option.some.inj ho';have at':a7l (fun y=>if y = "lineno" then some (.int m t)else mA y) PB F m:=by
  refine⟨⟨t,by simp⟩,?_,?_,?_,fun x h1 h2 h3 h4=>?_⟩
  ·rw [if_neg (by decide)];exact L.stream
  ·rw [if_neg (by decide)];exact L.white
  ·rw [if_neg (by decide)];exact L.back
  ·rw [if_neg h1];exact L.only x h1 h2 h3 h4
 obtain⟨g',go⟩:=g.upd (h':=h') (m:=.obj is m) e (List.getElem?_eq_some_iff.mp hk).1 (fun b ob hb eb=>by
   simp only [List.mem_cons,List.not_mem_nil,or_false,not_or]at hb;refine hk' b ob hb.1 (fun oO dx e0 e1=>?_) eb;rw [hX]at e0;obtain rfl:=Option.some.inj e0;rw [hD.1]at e1;obtain rfl:=Option.some.inj e1;exact hb.2) (fun b hb=>by
   simp only [List.mem_cons,List.not_mem_nil,or_false]at hb;rcases hb with rfl | rfl
   ·exact⟨_,hoI⟩
   ·obtain⟨od,es,ep,ed,_⟩:=hns';exact⟨_,ed⟩) (fun ks=>⟨[PB,F],er,.inl ⟨hm,X,D,PB,F,oI,_,rfl,rfl,hoI,by rw [hcI,hc],by rw [hdI];exact hnc,hdo',hD.2.1,hns',at'⟩⟩)
 exact h h' tk' g' go
theorem c8c {Γ:G} {env:Env} {ρ:Rho} {x a:Str} {p q r c:Pos} {kd j k:Nat} {is:List Nat} {m:Int} {Q:Flow->Shared->Prop} (hv:a4z env.scope x=true) (ha:a = "lineno") (hx:nid Γ.tbl x=some j) (h1:(x==("__debug__":Str))=false) (h2:(x==("__classdict__":Str))=false)
  (hρ:ρ.lookup j=some (.mut k)) (hk:μ[k]?=some (.obj is m)) (hm:1<=m) (er:ER Γ.tbl base env ρ as s.heap) (g:GR (a1i B lm P) base μ as s.heap)
  (h:∀ h' tk,GR (a1i B lm P) base (μ.set k (.obj is (m+1))) as h'->Go as s.heap as h'->Q .next { s with heap:=h',toks:=tk}):wpAny (model prog w) A (PySem.exec (.AugAssign (.Attribute (.Name x p) a q) .Add (.Constant (.int 1) kd c) r) env) Q E s:=by
 subst ha;refine wpAny_AugAssign_AttributeAny (wpAny_Name (b9g er hx hv h2 hρ fun u ru=>?_) h1);obtain⟨X,D,PB,F,mA,rfl,_,_,I,L⟩:=a3p g hk hm ru;obtain⟨t,hl⟩:=L.line;refine a7f (B:=B) g.keep I (by simp) hl rfl (wpAny_Constant_int (iadd_int ?_));exact c1x (s:={ s with toks:=s.toks+1+1+1}) hk hm (by omega) g ru fun h'' tk'' g'' go''=>h h'' tk'' g'' go''
end
end
section
section
variable{prog:Program}{w:World}{base:Heap}{B:LB base}{lm:LamT}{P:Addr}{μ:Mu}{as:List (List Addr)}{A:Around}{E:Value->Shared->Prop}{s:Shared}
inductive d3j(lm:LamT)(as:List (List Addr))(h:Heap)(kl:Nat)(v:Value):Prop where
 | mk (F FD G LC cG LL:Addr) (pm ctv:Value) (mF:Str->Option Value) (q:List Addr) (e1:v=.ref F) (e2:as[kl+1]?=some (LL::q)) (h1:a9a h F FD mF) (h2:mF "read" = some (.ref G)) (h3:h.get? G=some (kla_obj "<lambda>" lm.qual lm.params lm.body lm.scope [("letters",LC)] pm cG ctv)) (h4:h.IsCell LC (some (.ref LL))) (h5:h.CodeRec (.ref cG) lm.qual)
theorem c6n{ks kl kc:Nat}{h:Heap}{v:Value}(g:GR (a1i B lm P) base μ as h)(hs:μ[ks]?=some (.obj [kl,kc] (-3)))(hc:μ[kc]?=some (.obj [] (-6)))(r:Rep h as (.mut ks) v) :
  d3j lm as h kl v:=by
 obtain⟨a,q,e,rfl⟩:=r;obtain⟨rs,e1,e2⟩:=g.mus ks _ _ hs e;rcases e2 with⟨q,_⟩ | ⟨_,x⟩ | ⟨q,_⟩ | ⟨q,_⟩ | ⟨q,_⟩ | ⟨q,_⟩ | ⟨q,_⟩
 ·first | exact absurd q (by decide) | exact absurd z (by decide)
 ·obtain⟨F,FD,G,LC,cG,LL,pm,ctv,mF,ea,rfl,h1,h2,h3,h4⟩:=x
  obtain⟨rfl,rfl⟩:=List.cons.inj ea;obtain⟨⟨q,hl⟩,⟨q2,hl2⟩⟩:=b3d e1;obtain⟨rs2,_,e3⟩:=g.mus kc _ _ hc hl2;rcases e3 with⟨z,_⟩ | ⟨z,_⟩ | ⟨z,_⟩ | ⟨z,_⟩ | ⟨_,c,ec,hcode⟩ | ⟨z,_⟩ | ⟨z,_⟩
  ·first | exact absurd q (by decide) | exact absurd z (by decide)
  ·first | exact absurd q (by decide) | exact absurd z (by decide)
  ·first | exact absurd q (by decide) | exact absurd z (by decide)
  ·first | exact absurd q (by decide) | exact absurd z (by decide)
  ·simp only [List.cons.injEq]at ec
   obtain⟨rfl,_⟩:=ec;exact⟨_,FD,G,LC,_,LL,pm,ctv,mF,q,rfl,hl,h1,h2,h3,h4,hcode⟩
  ·first | exact absurd q (by decide) | exact absurd z (by decide)
  ·exact absurd z (by decide)
 all_goals omega
theorem c7y{h:Heap}{x:V}:∀ {L':List V} {us:List Value},Reps h as (L'++[x]) us->∃ ys' y',us=ys'++[y']/\Reps h as L' ys'/\Rep h as x y':=by
 intro z_;induction z_ with
 | nil=>
  intro us hr;simp only [List.nil_append,Reps]at hr;obtain⟨v,r',rfl,hx,rfl⟩:=hr;exact⟨[],v,rfl,by simp [Reps],hx⟩
 | cons a b ih=>
  intro us hr;simp only [List.cons_append,Reps]at hr;obtain⟨v,r',rfl,ha,hb⟩:=hr;obtain⟨ys',y',rfl,c1,c2⟩:=ih hb;exact⟨v::ys',y',rfl,⟨v,ys',rfl,ha,c1⟩,c2⟩
theorem c8t(ok:b7f lm)(hbig:base.NoLimit)(hh:A.handled=.none)(hd:A.depth<1000){ks kl kc:Nat}{L:List V}{v:Value}{p:Sem Bool}{R:Value×List Value->Shared->Prop}{Q:Value->Shared->Prop}(g:GR (a1i B lm P) base μ as s.heap)(hs:μ[ks]?=some (.obj [kl,kc] (-3)))(hkc:μ[kc]?=some (.obj [] (-6)))(hl:μ[kl]?=some (.list L))(hz:L.length<=big)(r:Rep s.heap as (.mut ks) v)
  (h0:L=[]->∀ h' tk t,GR (a1i B lm P) base μ as h'->Go as s.heap as h'->Q (.str "" t) { s with heap:=h',toks:=tk})
  (h1:∀ L' x,L=L'++[x]->∀ h' tk y,GR (a1i B lm P) base (μ.set kl (.list L')) as h'->Go as s.heap as h'->Rep h' as x y->Q y { s with heap:=h',toks:=tk})
  (hR:∀(G:Addr) (o:Obj) (fd:FuncData) (tk:Nat),s.heap.get? G=some o->o.data=.func fd->(∀(A':Around) (one:Value) (tk:Nat),A'.handled=.none->A'.depth<1000->wpAny (model prog w) A' (call (.ref G) [one]) Q E { s with toks:=tk})->R (.ref G,[]) { s with toks:=tk}) :
  wpAny (model prog w) A (getMethod v "read" p) R E s:=by
 obtain⟨F,FD,G,LC,cG,LL,pm,ctv,mF,q,rfl,hLL,h2,h3,h4,h5,h6⟩:=c6n g hs hkc r;obtain⟨LL',us,e',hp,hr⟩:=g.mus kl _ _ hl hLL;obtain⟨rfl,rfl⟩:=List.cons.inj e';refine c9e h2 h3 rfl (hR G _ _ _ h4 rfl fun A' one tk hh' hd'=>?_);refine d0c (s:={ s with toks:=tk}) ok hh' hd' h4 h6 (hbig.keeps g.keep) h5 hp (by rw [hr.length];exact hz) (fun e h' tk' t kp=>?_) (fun y ys e h' tk' kp hp'=>?_)
 ·subst e
  have eL:L=[]:=by
   induction L using List.casesOn with
   | nil=>rfl
   | cons a b=>simp [Reps]at hr
  obtain⟨g',go⟩:=g.all fun a o zz e=>kp a o e;exact h0 eL h' tk' t g' go
 ·rcases List.eq_nil_or_concat L with rfl | ⟨L',x,rfl⟩
  ·simp only [Reps]at hr;subst hr;simp at e
  ·simp only [List.concat_eq_append]at hl hr h1 hz
   obtain⟨ys',y',e2,r1,r2⟩:=c7y hr;rw [e2]at e;obtain⟨rfl,e3⟩:=List.append_inj' e rfl;simp only [List.cons.injEq,and_true]at e3;subst e3;have hin:LL∈as.flatten:=List.mem_flatten.mpr ⟨[LL],List.mem_of_getElem? hLL,by simp⟩;obtain⟨g',go⟩:=g.upd (h':=h') (m:=.list L') hLL (List.getElem?_eq_some_iff.mp hl).1 (fun b o hb e=>kp b o (by simpa using hb) e) (fun b hb=>by
    rw [List.mem_singleton]at hb;subst hb;obtain⟨m,e'⟩:=hp';exact⟨_,e'⟩) fun ks=>⟨LL,ys',rfl,hp',r1.ks ks⟩
   exact h1 L' x rfl h' tk' y' g' go (r2.ks fun b o hb e' zz=>kp b o (fun q=>hb (q▸hin)) e')
end
end
section
section
variable{prog:Program}{w:World}{base:Heap}{B:LB base}{lm:LamT}{P:Addr}{μ:Mu}{as:List (List Addr)}{A:Around}{E:Value->Shared->Prop}{s:Shared}{Γ:G}{env:Env}{ρ:Rho}
theorem c8d(S:Snd prog w (a1i B lm P) base Γ)(nd:∀(i j:Nat) (x:Str),Γ.tbl[i]?=some x->Γ.tbl[j]?=some x->i=j)(ok:b7f lm)(hbig:base.NoLimit)(rm:Room A 5)(c:ScR env.scope env){k kp ks kl kc j kd:Nat}{n:Int}{L:List V}{p1 p2 p3 p4 p5:Pos}{Q:Value->Shared->Prop}
  (hv:a4z env.scope "self" = true) (hx:nid Γ.tbl "self" = some j) (hρ:ρ.lookup j=some (.mut k)) (hline:(p3.endLine==p5.line)=true)
  (hk:μ[k]?=some (.obj [kp,ks] n)) (hn:1<=n) (hs:μ[ks]?=some (.obj [kl,kc] (-3))) (hkc:μ[kc]?=some (.obj [] (-6))) (hl:μ[kl]?=some (.list L)) (hz:L.length<=big)
  (er:ER Γ.tbl base env ρ as s.heap) (g:GR (a1i B lm P) base μ as s.heap)
  (h0:L=[]->∀ h' tk t,GR (a1i B lm P) base μ as h'->Go as s.heap as h'->Q (.str "" t) { s with heap:=h',toks:=tk})
  (h1:∀ L' x,L=L'++[x]->∀ h' tk y,GR (a1i B lm P) base (μ.set kl (.list L')) as h'->Go as s.heap as h'->Rep h' as x y->Q y { s with heap:=h',toks:=tk}) :
  wpAny (model prog w) A (eval (.Call (.Attribute (.Attribute (.Name "self" p1) "instream" p2) "read" p3) [.Constant (.int 1) kd p4] [] p5) env) Q E s:=by
 have hb1:attributeBase (.Attribute (.Name "self" p1) "instream" p2) "read" env (eval (.Attribute (.Name "self" p1) "instream" p2) env)=eval (.Attribute (.Name "self" p1) "instream" p2) env:=rfl
 rw [arm_eval_Call,hb1];refine wpAny_bind (Attribute_any_ (wpAny_Name (b9g er hx hv (by decide) hρ fun u ru=>?_) (by decide)) rfl);obtain⟨X,D,PB,F,mA,rfl,_,hr,I,La⟩:=a3p g hk hn ru;obtain⟨_,⟨q,hF⟩⟩:=b3d hr;refine a7f (B:=B) g.keep I (by simp) La.stream rfl ?_;refine wpAny_bind (wpAny_standAt ?_);have few:methodCallForm ([(.Constant (.int 1) kd p4:Expr)].length+([]:List Keyword).length) (backTo p5 (starEach [.Constant (.int 1) kd p4] env)) (backToKw p5 (keywordEach [] env))=true:=rfl;unfold methodCall;rw [few];refine wpAny_bind (wpAny_holding (c8t (s:={ s with toks:=s.toks+1}) (Q:=Q) ok hbig rm.calm (by have:=rm.depth;omega) g hs hkc hl hz (⟨F,q,hF,rfl⟩) h0 h1 fun G o fd tk hG hfd hcall=>?_));show wpAny (model prog w) A (methodCallPos true (.Attribute (.Name "self" p1) "instream" p2) env p3 p5 >>= fun cp=>callWith cp (.ref G) [] (backTo p5 (starEach [.Constant (.int 1) kd p4] env)) []) Q E _
 have hpos:methodCallPos true (.Attribute (.Name "self" p1) "instream" p2) env p3 p5=pure p5:=by
  unfold methodCallPos;rw [if_pos (by simpa using hline)]
 rw [hpos];refine wpAny_bind (wpAny_pure ?_);refine Calls.callWith_function (o:=o) (fd:=fd) ?_;refine evalArgs_plain (wpAny_items_cons (wpAny_Constant_int ?_) rfl);exact wpAny_items_nil ⟨⟨hG,hfd⟩,hcall A _ _ rm.calm (by have:=rm.depth;omega)⟩
end
end
section
section
variable{prog:Program}{w:World}{base:Heap}{B:LB base}{lm:LamT}{P:Addr}{Γ:G}
theorem e7i(hoff:Γ.lexOn=false)(n:Nat):a5q prog w (a1i B lm P) base Γ n where
 new:=fun h=>nt (hoff.symm.trans h)
 fit:=fun zz zz zz zz zz zz zz zz zz zz zz zz zz zz zz h=>nt (hoff.symm.trans h)
 line:=fun x a p q r c kd j k is m A E env ρ μ as s Q h1 h2 h3 h4 h5 h6 h7 h8 rm er g hQ=>c8c h1 h2 h3 h4 h5 h6 h7 h8 er g hQ
 draw:=fun zz zz zz zz zz zz zz zz zz zz zz h=>nt (hoff.symm.trans h)
 self:=fun zz zz zz zz zz zz zz zz zz zz zz h=>nt (hoff.symm.trans h)
 lets:=fun zz zz zz zz zz zz zz zz zz zz zz zz zz h=>nt (hoff.symm.trans h)
theorem c4o{a b:List Nat}(ha:PyData.strOk ⟨a.toArray⟩=true)(hb:PyData.strOk ⟨b.toArray⟩=true):eqv (.str a) (.str b)=some (decide (a=b)):=by
 have e:eqv (.str a) (.str b)=some ((PyData.str ⟨a.toArray⟩).eqv (PyData.str ⟨b.toArray⟩)):=by
  have h:∀ x:List Nat,b1l (.str x)=some (PyData.str ⟨x.toArray⟩):=fun x=>by simp [b1l]
  unfold eqv;rw [h,h];simp [SeqAt.shaped,PyData.canLay0,PyData.depth,ha,hb]
 rw [e];congr 1;by_cases h:a=b
 ·subst h;simp [PyData.eqv]
 ·simp [PyData.eqv,h]
noncomputable def d9r(js jc:Nat):List Mine.S:=[.ite (.cmp .Eq (.loc jc) (.cst (.str [10]))) [.line js] [],.ret (.loc jc)]
theorem d1f{js jc k kp ks:Nat}{n:Int}{μ:Mu}{c:List Nat}(hne:js≠jc)(hk:μ[k]?=some (.obj [kp,ks] n))(hn:1<=n)(hc:PyData.strOk ⟨c.toArray⟩=true) :
  ∃ ρ',a3j (a0e Γ 6) (d9r js jc) (put jc (.str c) [(js,.mut k)]) μ=some (.ret (.str c),ρ',if c=[10]then μ.set k (.obj [kp,ks] (n+1))else μ):=by
 have l1:(put jc (.str c) [(js,V.mut k)]).lookup jc=some (.str c):=by rw [a0b,if_pos rfl]
 have l2:(put jc (.str c) [(js,V.mut k)]).lookup js=some (.mut k):=by rw [a0b,if_neg hne];simp
 generalize put jc (.str c) [(js,V.mut k)]=ρ at l1 l2;have e1:ev Γ 6 (.cmp .Eq (.loc jc) (.cst (.str [10]))) ρ μ=some (.bool (decide (c=[10])),μ):=by
  have h10:PyData.strOk ⟨[10].toArray⟩=true:=by decide +kernel
  show(match (ρ.lookup jc).map (·,μ)with
   | some (u,μ)=>(a0s .Eq (look μ u) (.str [10])).map fun b=>((.bool b:V),μ)
   | .none=>.none)=_
  rw [l1];show(eqv (.str c) (.str [10])).map (fun b=>((.bool b:V),μ))=_;rw [c4o hc h10];rfl
 have e2:∀ μ',ev Γ 6 (.loc jc) ρ μ'=some (.str c,μ'):=fun μ'=>by
  show(ρ.lookup jc).map (·,μ')=_;rw [l1];rfl
 refine⟨ρ,?_⟩;have e3:a0e Γ 6 (.ite (.cmp .Eq (.loc jc) (.cst (.str [10]))) [.line js] []) ρ μ=some (.next,ρ,if c=[10]then μ.set k (.obj [kp,ks] (n+1))else μ):=by
  show(match ev Γ 6 (.cmp .Eq (.loc jc) (.cst (.str [10]))) ρ μ with
   | some (v,μ)=>match a2z (look μ v)with
    | some true=>exec Γ 6 [.line js] ρ μ
    | some false=>exec Γ 6 [] ρ μ
    | .none=>.none
   | .none=>.none)=_
  rw [e1];by_cases h:c=[10]
  ·subst h
   show(match (match ρ.lookup js with
    | some (.mut k)=>match μ[k]? with
     | some (.obj is m)=>if 1<=m then some (F.next,ρ,μ.set k (.obj is (m+1)))else .none
     | _=>.none
    | _=>.none)with
    | some (.next,ρ,μ)=>some (F.next,ρ,μ)
    | x=>x)=_
   rw [l2];show(match (match μ[k]? with
     | some (.obj is m)=>if 1<=m then some (F.next,ρ,μ.set k (.obj is (m+1)))else .none
     | _=>.none)with
    | some (.next,ρ,μ)=>some (F.next,ρ,μ)
    | x=>x)=_
   rw [hk];show(match (if 1<=n then some (F.next,ρ,μ.set k (.obj [kp,ks] (n+1)))else .none)with
    | some (.next,ρ,μ)=>some (F.next,ρ,μ)
    | x=>x)=_
   rw [if_pos hn,if_pos rfl]
  ·rw [if_neg h,decide_eq_false h];rfl
 show(match a0e Γ 6 (.ite (.cmp .Eq (.loc jc) (.cst (.str [10]))) [.line js] []) ρ μ with
  | some (.next,ρ,μ)=>a3j (a0e Γ 6) [.ret (.loc jc)] ρ μ
  | x=>x)=_
 rw [e3];show(match (match ev Γ 6 (.loc jc) ρ _ with
   | some (v,μ)=>some (F.ret v,ρ,μ)
   | .none=>.none)with
  | some (.next,ρ,μ)=>some (F.next,ρ,μ)
  | x=>x)=_
 rw [e2]
end
end
section
structure e1n{base:Heap}(B:LB base)(tbl:List Str)(js jc:Nat) where
 o:Obj
 fd:FuncData
 p1:Pos
 p2:Pos
 p3:Pos
 p4:Pos
 p5:Pos
 p6:Pos
 p7:Pos
 kd:Nat
 rest:List Stmt
 at':base.get? B.fr=some o
 data:o.data=.func fd
 code:base.CodeRec fd.code fd.qualname
 body:fd.body=.stmts (.Assign [.Name "ch" p6] (.Call (.Attribute (.Attribute (.Name "self" p1) "instream" p2) "read" p3) [.Constant (.int 1) kd p4] [] p5) p7::rest)
 line:(p3.endLine==p5.line)=true
 glob:fd.globals=mainGlobals
 built:fd.builtins=builtinsNs
 clos:fd.closure=[]
 coro:fd.scope.isCoroutine=false
 gen:fd.scope.isGenerator=false
 kind:fd.scope.kind=.function
 bind:∀ vals:List Value,vals.length=[("self":Str)].length->bindArgs fd ⟨vals,[]⟩=pure ([("self":Str)].zip vals)
 self:nid tbl "self" = some js
 ch:nid tbl "ch" = some jc
 ne:js≠jc
 kself:fd.scope.names.lookup ("self":Str)=some NameKind.local
 kch:fd.scope.names.lookup ("ch":Str)=some NameKind.local
 nofree:∀ p∈fd.scope.names,p.2≠.free
 own:∀ x,a1g fd.scope x=true->(nid tbl x).isSome=true
 calm:∀ L,interactive (callEnvC fd L B.fr)=false
 tr:∃ mt k,trS.trSs tbl mt k fd.scope rest=some (d9r js jc)
section
variable{prog:Program}{w:World}{base:Heap}{B:LB base}{lm:LamT}{P:Addr}{Γ:G}{μ μ':Mu}
theorem a8x(S:Snd prog w (a1i B lm P) base Γ)(hoff:Γ.lexOn=false)(nd:∀(i j:Nat) (x:Str),Γ.tbl[i]?=some x->Γ.tbl[j]?=some x->i=j)(ok:b7f lm)(hbig:base.NoLimit){js jc:Nat}(R:e1n B Γ.tbl js jc){k:Nat}{c:List Nat}
  (h:a0r μ k=some (c,μ')) (hlen:μ'.length=μ.length):CodeOK prog w (a1i B lm P) base 11 (.ref B.fr) [.mut k] μ (.str c) μ':=by
 have tkm:μ'.take μ.length=μ':=by rw [← hlen,List.take_length]
 refine b2t h fun kp ks kl kc n L hk hn hs hl hkc hz fin=>?_;obtain⟨mt,kk,tr⟩:=R.tr;have main:∀(μ₁:Mu),PyData.strOk ⟨c.toArray⟩=true->μ₁[k]?=some (.obj [kp,ks] n)->(if c=[10]then μ₁.set k (.obj [kp,ks] (n+1))else μ₁)=μ' →
   (∀(t:Tok),L=[]->c=[]/\μ₁=μ)->(∀ L' x,L=L'++[x]->x=.str c/\μ₁=μ.set kl (.list L'))->CodeOK prog w (a1i B lm P) base 11 (.ref B.fr) [.mut k] μ (.str c) μ':=by
  intro μ₁ hc hkI hμI c0 c1;obtain⟨ρ₂,hρJ⟩:=d1f (Γ:=Γ) (μ:=μ₁) R.ne hkI hn hc;rw [hμI]at hρJ;refine d9o (tbl:=Γ.tbl) (v:=.ret (.str c)) (μ₂:=μ') (ρ₂:=ρ₂) (names:=["self"]) (is:=[js]) hbig R.at' R.data R.code R.body R.glob R.built R.clos R.coro R.gen R.kind R.bind (by simp only [a1o,R.self]) (by decide) (fun x hx=>by rw [List.mem_singleton]at hx;subst hx;exact .inl R.kself) R.nofree rfl ?_ (.inr hlen) tkm.symm rfl
  intro A E Lc as s Q rm big er g hQ;have hv:a4z (callEnvC R.fd Lc B.fr).scope "self" = true:=by
   show a4z R.fd.scope "self" = true
   unfold a4z a1y;rw [R.kself]
  have hch:a1g (callEnvC R.fd Lc B.fr).scope "ch" = true:=by
   show a1g R.fd.scope "ch" = true
   unfold a1g a1y;rw [R.kch]
  have rest:∀(h':Heap) (tk:Nat) (y:Value),GR (a1i B lm P) base μ₁ as h'->Go as s.heap as h'->Rep h' as (.str c) y →
    wpAny (model prog w) A (storeName (callEnvC R.fd Lc B.fr) "ch" y) (fun zz s'=>wpAny (model prog w) A (execs R.rest (callEnvC R.fd Lc B.fr)) Q E s') E { s with heap:=h',toks:=tk}:=by
   intro h' tk y g' go' ry;refine b0x (s:={ s with heap:=h',toks:=tk}) nd R.ch hch (er.go go') g' ry fun hJ tkJ gJ erJ gsJ ksJ=>?_;exact b9s S nd (e7i hoff 6) (a6j S nd (e7i hoff) 6) R.own (R.calm _) (rm.less (by decide)) ⟨fun zz q=>q,fun zz q=>q,fun zz q=>q⟩ kk R.rest (d9r js jc) _ ρ₂ μ₁ μ' as { s with heap:=hJ,toks:=tkJ} (.ret (.str c)) Q tr erJ gJ hρJ (hQ.after (go'.toS.trans gsJ (er.go go').there) erJ.there)
  refine wpAny_execs_cons (a5k (c8d S nd ok hbig (rm.less (by decide)) ⟨fun zz q=>q,fun zz q=>q,fun zz q=>q⟩ hv R.self (by simp [List.zip]) R.line hk hn hs hkc hl hz er g (fun e h' tk t g' go'=>?_) (fun L' x e h' tk y g' go' ry=>?_)) rfl)
  ·obtain⟨rfl,e2⟩:=c0 t e
   subst e2;exact rest h' tk _ g' go' ⟨t,rfl⟩
  ·obtain⟨rfl,e2⟩:=c1 L' x e
   subst e2;exact rest h' tk y g' go' ry
 have hkkl:k≠kl:=fun q=>by rw [q,hl]at hk;cases hk
 rcases fin with⟨hlast,rfl,rfl⟩ | ⟨ch,hlast,hlt,rfl,fin⟩
 ·have eL:L=[]:=by simpa using hlast
  refine main _ (by decide +kernel) hk (if_neg (by decide)) (fun zz zz=>⟨rfl,rfl⟩) fun L' x e=>?_;rw [eL]at e;simp at e
 ·obtain⟨LO,hLO⟩:∃ LO,L=LO++[.str [ch]]:=by
   rcases List.eq_nil_or_concat L with q | ⟨LO,x,q⟩
   ·rw [q]at hlast;exact ns hlast
   ·rw [q]at hlast
    simp at hlast;subst hlast;exact⟨LO,by rw [q];simp⟩
  have hd:L.dropLast=LO:=by rw [hLO];simp
  rw [hd]at fin;have hkI:(μ.set kl (.list LO))[k]?=some (.obj [kp,ks] n):=by rw [List.getElem?_set_ne (fun z=>hkkl z.symm)];exact hk
  have sok:PyData.strOk ⟨[ch].toArray⟩=true:=by
   unfold PyData.strOk;simp [hlt]
  refine main _ sok hkI ?_ (fun zz e=>by rw [hLO]at e;simp at e) fun L' x e=>?_
  ·rcases fin with⟨h10,e⟩ | ⟨h10,e⟩
   ·rw [e,h10,if_pos rfl]
   ·rw [e,if_neg (by simpa using h10)]
  ·rw [hLO]at e
   obtain⟨rfl,e3⟩:=List.append_inj' e rfl;simp only [List.cons.injEq,and_true]at e3;exact⟨e3.symm,rfl⟩
end
end
section
namespace FF
theorem slot_ci_next:Slot "callable_iterator" "__next__" "callable_iterator.__next__":=
 .of (owner:="callable_iterator") (n:="__next__") (by rw [typeLookup_type,builtinLookup_eq_fast];kernel_rfl) (by decide +kernel) (by decide +kernel) (by decide +kernel)
  (by first | exact .inl (by decide +kernel) | exact .inr (by decide +kernel)) (by rw [isSubtype_type];kernel_rfl)
theorem entry_ci_next:entryFor table "callable_iterator.__next__" = some Builtin.«callable_iterator.__next__»:=entryFor_of_tree (by kernel_rfl)
theorem args_ci_next (a:Value):argsOk "callable_iterator.__next__" ⟨[a],[]⟩:=by unfold argsOk;kernel_rfl
end FF
section
variable{prog:Program}{w:World}{A:Around}{E:Value->Shared->Prop}{s:Shared}
theorem d0j{fi:Addr}{Q:Option Value->Shared->Prop}(hh:A.handled=.none)(ho:s.heap.get? fi=some (a6p .none .none true))
  (hQ:∀ h' tk,(∀ b o,s.heap.get? b=some o->h'.get? b=some o)->Q .none { s with heap:=h',toks:=tk}):wpAny (model prog w) A (pyNext (.ref fi)) Q E s:=by
 have hT:s.TypeIs (.ref fi) "callable_iterator":=⟨_,ho,rfl⟩
 unfold pyNext;refine wpAny_bind (wpAny_attempt (wpAny_callSpecial?_slot (name:=Str.ofString "__next__") hT FF.slot_ci_next
  (wpAny_call_entry FF.slot_ci_next hT FF.entry_ci_next ?_ (FF.args_ci_next _))))
 show wpAny _ _ (field (.ref fi) 2 >>= _) _ _ s;refine wpAny_bind (wpAny_field ho rfl (x:=.bool true) rfl ?_);show wpAny _ _ (if((Value.bool true==Value.bool true)=true)then _ else _) _ _ s;rw [if_pos (by rfl)];refine wpAny_bind (wpAny_rule ?_);refine wpAny_bind ?_;show wpAny _ _ (newExc (.type "StopIteration") [] >>= _) _ _ _
 refine wpAny_bind ?_;simp only [newExc,newTuple];refine wpAny_bind (wpAny_newObj_type ?_ (by size_fits));refine wpAny_bind (m:=firstArgMember _ _) (wpAny_of_eq (a:=Value.none) (by first | rfl | (simp only [firstArgMember];rfl)) ?_)
 refine wpAny_newObj_type ?_ (by size_fits);unfold raiseNew;refine wpAny_bind (wpAny_handled ?_);rw [show A.in1.handled=none from hh];refine wpAny_bind (wpAny_pure (wpAny_throw ?_));refine wpAny_bind (wpAny_isInstance (T:="StopIteration") (b:=true) ⟨_,Heap.get?_push_size _ rfl,rfl⟩ isSubtype_stop ?_)
 exact wpAny_pure (hQ _ _ fun b o e=>Heap.get?_push_of_some _ (Heap.get?_push_of_some _ e))
end
end
section
section
variable{M:Model}{A:Around}{E:Value->Shared->Prop}{s:Shared}
theorem b6l{Γ:Ctx}{p:Pos}{E:Value->Pos->Shared->Prop}(f:Value)(pos:List Value)(Q:Value->Pos->Shared->Prop) :
  Sem.wp M Γ (callBorrowed f pos) Q E p s=wpCode M (Γ.enter (.call f ⟨pos,[]⟩) Option.none p) (fun r s'=>match r with | .ok (.ret v)=>Q v p s' | .ok _=>False | .error e=>E e p s') p s:=by
 unfold callBorrowed;rw [Sem.wp];congr 1;funext r s';cases r with
 | error e=>rfl
 | ok f=>cases f<;>rfl
theorem a7r{f:Value}{pos:List Value}{Q:Value->Shared->Prop}
  (hc:codeAny M A (.call f ⟨pos,[]⟩) (fun r s'=>match r with | .ok (.ret v)=>Q v s' | .ok _=>False | .error e=>E e s') s):wpAny M A (callBorrowed f pos) Q E s:=fun Γ p hΓ=>by
 rw [b6l];exact hc _ p rfl (hΓ.enter _ Option.none p (by intro x;exact ns x))
end
end
section
section
variable{prog:Program}{w:World}{A:Around}{E:Value->Shared->Prop}{s:Shared}
theorem a7e{M:Model}{bm fr:Addr}{X:Value}{of:Obj}{fd:FuncData}{Q:Bool->Shared->Prop}(hb:s.heap.get? bm=some (methodObj (.ref fr) X))(hf:s.heap.get? fr=some of)(hd:of.data=.func fd)(h:Q true s):wpAny M A (borrowsExactly (.ref bm)) Q E s:=by
 unfold borrowsExactly;refine wpAny_bind (wpAny_load hb ?_);show wpAny M A (if((Value.type "method" == Value.type "method")=true)then _ else _) Q E s
 rw [if_pos (by rfl)];show wpAny M A (load fr >>= _) Q E s;refine wpAny_bind (wpAny_load hf ?_);rw [hd];exact wpAny_pure h
theorem b5l{bm fr:Addr}{X:Value}{of:Obj}{fd:FuncData}{Q:Value->Shared->Prop}(hb:s.heap.get? bm=some (methodObj (.ref fr) X))(hf:s.heap.get? fr=some of)(hd:of.data=.func fd)
  (hc:codeAny (model prog w) A (.call (.ref fr) ⟨[X],[]⟩) (fun r s'=>match r with | .ok (.ret v)=>Q v s' | .ok _=>False | .error e=>E e s') s):wpAny (model prog w) A (callOutOfASlot (.ref bm)) Q E s:=by
 unfold callOutOfASlot;refine wpAny_bind (a7e hb hf hd ?_);rw [if_pos rfl];exact a7r (ks_codeAny_call_bound hb hc)
end
end
section
section
variable{prog:Program}{w:World}{A:Around}{E:Value->Shared->Prop}{s:Shared}
theorem c5s {fi bm fr:Addr} {X:Value} {of:Obj} {fd:FuncData} {t:Tok} {K:Str->Heap->Nat->Tok->Prop} {Q:Option Value->Shared->Prop} (ho:s.heap.get? fi=some (a6p (.ref bm) (.str "" t) false)) (hb:s.heap.get? bm=some (methodObj (.ref fr) X)) (hf:s.heap.get? fr=some of) (hd:of.data=.func fd)
  (hcall:∀ R:Result->Shared->Prop,(∀ c h' tk u t',K c h' tk u->h'.get? fi=some (a6p (.ref bm) (.str "" t') false)->c ≠ "" -> R (.ok (.ret (.str c u))) { s with heap:=h',toks:=tk})->codeAny (model prog w) A.in1 (.call (.ref fr) ⟨[X],[]⟩) R s)
  (hQ:∀ c h' tk tk' u,K c h' tk u->Q (some (.str c u)) { s with heap:=h',toks:=tk'}):wpAny (model prog w) A (pyNext (.ref fi)) Q E s:=by
 have hT:s.TypeIs (.ref fi) "callable_iterator":=⟨_,ho,rfl⟩
 unfold pyNext;refine wpAny_bind (wpAny_attempt (wpAny_callSpecial?_slot (name:=Str.ofString "__next__") hT FF.slot_ci_next
  (wpAny_call_entry FF.slot_ci_next hT FF.entry_ci_next ?_ (FF.args_ci_next _))))
 show wpAny _ _ (field (.ref fi) 2 >>= _) _ _ s;refine wpAny_bind (wpAny_field ho rfl (x:=.bool false) rfl ?_);show wpAny _ _ (if((Value.bool false==Value.bool true)=true)then _ else _) _ _ s;rw [if_neg (by decide)];show wpAny _ _ (field (.ref fi) 0 >>= _) _ _ s;refine wpAny_bind (wpAny_field ho rfl (x:=.ref bm) rfl ?_);refine wpAny_bind (wpAny_attempt (b5l hb hf hd (hcall _ fun c h' tk u t' k ho' hc=>?_)));show wpAny _ _ (field (.ref fi) 2 >>= _) _ _ _;refine wpAny_bind (wpAny_field ho' rfl (x:=.bool false) rfl ?_);show wpAny _ _ (if((Value.bool false==Value.bool true)=true)then _ else _) _ _ _;rw [if_neg (by decide)];show wpAny _ _ (field (.ref fi) 1 >>= _) _ _ _;refine wpAny_bind (wpAny_field ho' rfl (x:=.str "" t') rfl ?_)
 refine wpAny_bind (wpAny_holding (wpAny_eqBool_str ?_));rw [show decide (("":Str)=c)=false from decide_eq_false (fun q=>hc q.symm)]
 exact wpAny_pure ⟨_,rfl,wpAny_pure (hQ _ _ _ _ _ k)⟩
end
end
section
section
variable{prog:Program}{w:World}{A:Around}{E:Value->Shared->Prop}{s:Shared}
theorem b8n {fi bm fr:Addr} {X:Value} {of:Obj} {fd:FuncData} {t:Tok} {K:Heap->Nat->Prop} {Q:Option Value->Shared->Prop} (hh:A.handled=.none) (ho:s.heap.get? fi=some (a6p (.ref bm) (.str "" t) false)) (hb:s.heap.get? bm=some (methodObj (.ref fr) X)) (hf:s.heap.get? fr=some of) (hd:of.data=.func fd)
  (hcall:∀ R:Result->Shared->Prop,(∀ h' tk u t',K h' tk->h'.get? fi=some (a6p (.ref bm) (.str "" t') false)->h'.get? bm=some (methodObj (.ref fr) X)->h'.get? fr=some of->R (.ok (.ret (.str "" u))) { s with heap:=h',toks:=tk})->codeAny (model prog w) A.in1 (.call (.ref fr) ⟨[X],[]⟩) R s)
  (hQ:∀ h' tk h'' tk',K h' tk->(∀ b o,b≠fi->h'.get? b=some o->h''.get? b=some o)->h''.get? fi=some (a6p .none .none true)->Q .none { s with heap:=h'',toks:=tk'}):wpAny (model prog w) A (pyNext (.ref fi)) Q E s:=by
 have hT:s.TypeIs (.ref fi) "callable_iterator":=⟨_,ho,rfl⟩
 unfold pyNext;refine wpAny_bind (wpAny_attempt (wpAny_callSpecial?_slot (name:=Str.ofString "__next__") hT FF.slot_ci_next
  (wpAny_call_entry FF.slot_ci_next hT FF.entry_ci_next ?_ (FF.args_ci_next _))))
 show wpAny _ _ (field (.ref fi) 2 >>= _) _ _ s;refine wpAny_bind (wpAny_field ho rfl (x:=.bool false) rfl ?_);show wpAny _ _ (if((Value.bool false==Value.bool true)=true)then _ else _) _ _ s;rw [if_neg (by decide)];show wpAny _ _ (field (.ref fi) 0 >>= _) _ _ s;refine wpAny_bind (wpAny_field ho rfl (x:=.ref bm) rfl ?_);refine wpAny_bind (wpAny_attempt (b5l hb hf hd (hcall _ fun h' tk u t' k ho' hb' hf'=>?_)));show wpAny _ _ (field (.ref fi) 2 >>= _) _ _ _;refine wpAny_bind (wpAny_field ho' rfl (x:=.bool false) rfl ?_);show wpAny _ _ (if((Value.bool false==Value.bool true)=true)then _ else _) _ _ _;rw [if_neg (by decide)];show wpAny _ _ (field (.ref fi) 1 >>= _) _ _ _;refine wpAny_bind (wpAny_field ho' rfl (x:=.str "" t') rfl ?_)
 refine wpAny_bind (wpAny_holding (wpAny_eqBool_str ?_));rw [show decide ((("":Str)) = "")=true from decide_eq_true rfl]
 refine wpAny_bind (wpAny_rule ?_);refine wpAny_bind ?_;show wpAny _ _ (field (.ref fi) 0 >>= fun old=>slotLetsGo "callable_iterator.__next__" old _ >>= fun zz=>setField (.ref fi) 0 .none >>= fun zz=>setField (.ref fi) 1 .none >>= fun zz=>setField (.ref fi) 2 (.bool true)) _ _ _
 refine wpAny_bind (wpAny_field ho' rfl (x:=.ref bm) rfl ?_);refine wpAny_bind ?_;unfold slotLetsGo;refine wpAny_bind (a7e hb' hf' hd ?_);rw [if_pos rfl];refine wpAny_pure ?_;refine wpAny_bind (wpAny_setField_rec ho' (by simp) fun h1 e1 s1=>?_);refine wpAny_bind (wpAny_setField_rec e1 (by simp) fun h2 e2 s2=>?_);refine wpAny_setField_rec e2 (by simp) fun h3 e3 s3=>?_;show wpAny _ _ (newExc (.type "StopIteration") [] >>= _) _ _ _
 refine wpAny_bind ?_;simp only [newExc,newTuple];refine wpAny_bind (wpAny_newObj_type ?_ (by size_fits));refine wpAny_bind (m:=firstArgMember _ _) (wpAny_of_eq (a:=Value.none) (by first | rfl | (simp only [firstArgMember];rfl)) ?_)
 refine wpAny_newObj_type ?_ (by size_fits);simp only [raiseNew];refine wpAny_bind (wpAny_handled ?_);rw [show A.in1.handled=none from hh];refine wpAny_bind (wpAny_pure (wpAny_throw ?_));refine wpAny_bind (wpAny_isInstance (T:="StopIteration") (b:=true) ⟨_,Heap.get?_push_size _ rfl,rfl⟩ isSubtype_stop ?_)
 refine wpAny_pure (hQ _ _ _ _ k (fun b o hb e=>Heap.get?_push_of_some _ (Heap.get?_push_of_some _ ((s3.2 b hb).trans ((s2.2 b hb).trans ((s1.2 b hb).trans e))))) (Heap.get?_push_of_some _ (Heap.get?_push_of_some _ ?_)));rw [e3];rfl
end
end
section
section
variable{prog:Program}{w:World}{base:Heap}{B:LB base}{lm:LamT}{P:Addr}{μ:Mu}{as:List (List Addr)}{A:Around}{E:Value->Shared->Prop}{s:Shared}
theorem b6e{h:Heap}{k:Nat}{a:Addr}{q:List Addr}{is:List Nat}{m:Int}(g:GR (a1i B lm P) base μ as h)(ha:as[k+1]?=some (a::q))(hk:μ[k]?=some (.obj is m))(hm:m = -2∨m = -4):∃ x y e,h.get? a=some (a6p x y e):=by
 obtain⟨rs,e1,e2⟩:=g.mus k _ _ hk ha;rcases e2 with⟨z,_⟩ | ⟨z,_⟩ | ⟨_,x⟩ | ⟨_,x⟩ | ⟨z,_⟩ | ⟨z,_⟩ | ⟨z,_⟩
 ·omega
 ·omega
 ·obtain⟨fi,bm,X,t,ea,_,h1,_⟩:=x
  obtain⟨rfl,_⟩:=List.cons.inj ea;exact⟨_,_,_,h1⟩
 ·obtain⟨fi,bm,ea,h1⟩:=x
  obtain⟨rfl,_⟩:=List.cons.inj ea;exact⟨_,_,_,h1⟩
 ·omega
 ·omega
 ·omega
theorem d9a{k:Nat}{a:Addr}{q:List Addr}{is:List Nat}{m:Int}{tg:Expr}{v:Value}{Q:Unit->Shared->Prop}(g:GR (a1i B lm P) base μ as s.heap)(ha:as[k+1]?=some (a::q))(hk:μ[k]?=some (.obj is m))(hm:m = -2∨m = -4)(ht:b6k tg=true)(h:Q () s):wpAny (model prog w) A (letOwnedTupleGo tg (.ref a) v) Q E s:=by
 obtain⟨x,y,e,ho⟩:=b6e g ha hk hm;exact a1z ht ho rfl rfl (by decide) h
end
end
section
namespace FF
theorem slot_ci_iter:Slot "callable_iterator" "__iter__" "callable_iterator.__iter__":=
 .of (owner:="callable_iterator") (n:="__iter__") (by rw [typeLookup_type,builtinLookup_eq_fast];kernel_rfl) (by decide +kernel) (by decide +kernel) (by decide +kernel)
  (by first | exact .inl (by decide +kernel) | exact .inr (by decide +kernel)) (by rw [isSubtype_type];kernel_rfl)
theorem entry_ci_iter:entryFor table "callable_iterator.__iter__" = some Builtin.«dict_keyiterator.__iter__»:=
 entryFor_alias (id':="dict_keyiterator.__iter__") (by kernel_rfl) rfl (by decide +kernel) (by kernel_rfl)
theorem args_ci_iter (a:Value):argsOk "callable_iterator.__iter__" ⟨[a],[]⟩:=by unfold argsOk;kernel_rfl
end FF
section
variable{prog:Program}{w:World}{base:Heap}{B:LB base}{lm:LamT}{P:Addr}{μ:Mu}{as:List (List Addr)}{A:Around}{E:Value->Shared->Prop}{s:Shared}
theorem d7h{k:Nat}{a:Addr}{q:List Addr}{is:List Nat}{m:Int}{Q:Value->Shared->Prop}(g:GR (a1i B lm P) base μ as s.heap)(ha:as[k+1]?=some (a::q))(hk:μ[k]?=some (.obj is m))(hm:m = -2∨m = -4)(h:Q (.ref a) s):wpAny (model prog w) A (pyIter (.ref a)) Q E s:=by
 obtain⟨x,y,e,ho⟩:=b6e g ha hk hm;have hT:s.TypeIs (.ref a) "callable_iterator":=⟨_,ho,rfl⟩
 refine wpAny_pyIter_slot hT FF.slot_ci_iter (wpAny_call_entry FF.slot_ci_iter hT FF.entry_ci_iter ?_ (FF.args_ci_iter _));show wpAny _ _ (ret (.ref a)) _ _ s;exact wpAny_pure ⟨_,rfl,"callable_iterator",_,hT,FF.slot_ci_next.lookup,h⟩
end
end
section
theorem a6m{μ μ':Mu}{k:Nat}{c:List Nat}(h:a0r μ k=some (c,μ')):μ'.length=μ.length/\(c=[]->μ'=μ)/\∃ kp ks n,μ[k]?=some (.obj [kp,ks] n)/\1<=n:=by
 refine b2t h fun kp ks kl kc n L hk hn hs hL hC zz fin=>?_;rcases fin with⟨_,rfl,rfl⟩ | ⟨z,_,_,rfl,⟨_,rfl⟩ | ⟨_,rfl⟩⟩
 ·exact⟨rfl,fun zz=>rfl,kp,ks,n,hk,hn⟩
 ·exact⟨by rw [List.length_set,List.length_set],(by intro e;cases e),kp,ks,n,hk,hn⟩
 ·exact⟨List.length_set,(by intro e;cases e),kp,ks,n,hk,hn⟩
section
variable{prog:Program}{w:World}{base:Heap}{B:LB base}{lm:LamT}{P:Addr}{Γ:G}{μ μ':Mu}{as:List (List Addr)}{A:Around}{E:Value->Shared->Prop}{s:Shared}
theorem e0w{Lx:LxP}{μ μ':Mu}{as as':List (List Addr)}{h h':Heap}(g:GR Lx base μ as h)(g':GR Lx base μ' as' h')(go:Go as h as' h')(hl:μ'.length=μ.length):as'=as:=by
 obtain⟨nw,rfl,_⟩:=go.ext;have h1:=g'.len;have h2:=g.len;rw [List.length_append]at h1;have:nw=[]:=List.eq_nil_of_length_eq_zero (by omega);rw [this,List.append_nil]
theorem d6f{h:Heap}{k kx:Nat}{a:Addr}{q:List Addr}(g:GR (a1i B lm P) base μ as h)(ha:as[k+1]?=some (a::q))(hk:μ[k]?=some (.obj [kx] (-2))) :
  ∃ bm X t r,a::q=[a,bm]/\as[kx+1]?=some (X::r)/\h.get? a=some (a6p (.ref bm) (.str "" t) false)/\h.get? bm=some (methodObj (.ref B.fr) (.ref X)):=by
 obtain⟨rs,e1,e2⟩:=g.mus k _ _ hk ha;rcases e2 with⟨z,_⟩ | ⟨z,_⟩ | ⟨_,x⟩ | ⟨z,_⟩ | ⟨z,_⟩ | ⟨z,_⟩ | ⟨z,_⟩
 ·exact absurd z (by decide)
 ·exact absurd z (by decide)
 ·obtain⟨fi,bm,X,t,ea,rfl,h1,h2⟩:=x
  obtain⟨rfl,rfl⟩:=List.cons.inj ea;unfold c2j at e1;simp only [a1o]at e1;induction hl:as[kx+1]? using Option.casesOn with
  | none=>rw [hl]at e1;simp at e1
  | some l=>
   rw [hl]at e1;induction l using List.casesOn with
   | nil=>simp at e1
   | cons b q=>
    simp at e1;subst e1;exact⟨bm,_,t,q,rfl,rfl,h1,h2⟩
 ·exact absurd z (by decide)
 ·exact absurd z (by decide)
 ·exact absurd z (by decide)
 ·exact absurd z (by decide)
theorem e1b(S:Snd prog w (a1i B lm P) base Γ)(hoff:Γ.lexOn=false)(nd:∀(i j:Nat) (x:Str),Γ.tbl[i]?=some x->Γ.tbl[j]?=some x->i=j)(ok:b7f lm)(hbig:base.NoLimit){js jc:Nat}(R:e1n B Γ.tbl js jc)
  {k:Nat} {a:Addr} {q:List Addr} {r:Option (List Nat)} {Q:Option Value->Shared->Prop} (rm:Room A 12) (g:GR (a1i B lm P) base μ as s.heap) (ha:as[k+1]?=some (a::q)) (h:Mine.draw μ k=some (r,μ'))
  (hQ:∀ h' tk rv,GR (a1i B lm P) base μ' as h'->Go as s.heap as h'->(match r with | .none=>rv=.none | some c=>∃ t,rv=some (.str ⟨c.toArray⟩ t))->Q rv { s with heap:=h',toks:=tk}):wpAny (model prog w) A (pyNext (.ref a)) Q E s:=by
 have rm1:Room A.in1 11:=⟨rm.calm,by have:=rm.depth;show A.depth+11<=900;omega,by have:=rm.units;show A.units+1+10 * 11<=9000;omega⟩;refine b9e h (fun kx cc μ₁ hk hr fin=>?_) fun kx hk e1 e2=>?_
 ·have hrO:=hr
  obtain⟨bm,X,t,qx,eq,hX,h1,h2⟩:=d6f g ha hk;have hfr:=g.keep _ _ R.at';have rX:Reps s.heap as [V.mut kx] [Value.ref X]:=Reps.cons ⟨X,qx,hX,rfl⟩ .nil;have call:∀ {c:List Nat} {μ₁:Mu} {RR:Result->Shared->Prop},a0r μ kx=some (c,μ₁)->(∀ h' tk u,GR (a1i B lm P) base μ₁ as h'->Go as s.heap as h'->(∃ t',h'.get? a=some (a6p (.ref bm) (.str "" t') false))->h'.get? bm=some (methodObj (.ref B.fr) (.ref X))->RR (.ok (.ret (.str ⟨c.toArray⟩ u))) { s with heap:=h',toks:=tk}) →
    codeAny (model prog w) A.in1 (.call (.ref B.fr) ⟨[.ref X],[]⟩) RR s:=by
   intro c μ₁ RR hr hRR;obtain⟨hlen,_,_⟩:=a6m hr;refine a8x S hoff nd ok hbig R hr hlen A.in1 RR s as [.ref X] rm1 g rX fun v as' h' tk g' go' rv=>?_;have:=e0w g g' go' hlen;subst this;obtain⟨u,rfl⟩:=rv;obtain⟨bm',X',t',q',e',hX',i1,i2⟩:=d6f g' ha (a3u hr hk);rw [eq]at e';simp only [List.cons.injEq,and_true,true_and]at e';subst e';rw [hX]at hX';simp only [Option.some.injEq,List.cons.injEq]at hX';obtain⟨rfl,_⟩:=hX';exact hRR h' tk u g' go' ⟨t',i1⟩ i2
  rcases fin with⟨rfl,rfl,rfl⟩ | ⟨hc,rfl,rfl⟩
  ·clear hrO
   refine b8n (K:=fun h' tk=>GR (a1i B lm P) base μ₁ as h'/\Go as s.heap as h') rm.calm h1 h2 hfr R.data (fun RR hRR=>call hr fun h' tk u g' go' i1 i2=>?_) (fun h' tk h'' tk' K hk' hend=>?_)
   ·obtain⟨t',i1⟩:=i1
    exact hRR h' tk u t' ⟨g',go'⟩ i1 i2 (g'.keep _ _ R.at')
   ·obtain⟨g',go'⟩:=K
    have hkl:k<μ₁.length:=(List.getElem?_eq_some_iff.mp (a3u hr hk)).1;have bmo:∃ o,h'.get? bm=some o:=g'.alive bm (List.mem_flatten.mpr ⟨a::q,List.mem_of_getElem? ha,by rw [eq];simp⟩);obtain⟨g'',go''⟩:=g'.upd (h':=h'') (m:=.obj [kx] (-4)) ha hkl (fun b o hb e=>hk' b o (fun z=>hb (by rw [z];simp)) e) (fun b hb=>by
     by_cases z:b=a
     ·exact⟨_,z▸hend⟩
     ·obtain⟨o,e⟩:=g'.alive b (List.mem_flatten.mpr ⟨a::q,List.mem_of_getElem? ha,hb⟩)
      exact⟨o,hk' b o z e⟩) (fun ks=>⟨[X],by unfold c2j;simp only [a1o,hX,Option.bind_some,List.head?_cons],.inr (.inr (.inr (.inl ⟨rfl,a,bm,eq,hend⟩)))⟩)
    exact hQ h'' tk' .none g'' (go'.trans go'') rfl
  ·refine c5s (K:=fun c' h' tk u=>c'=(⟨cc.toArray⟩:Str)/\GR (a1i B lm P) base μ' as h'/\Go as s.heap as h') h1 h2 hfr R.data (fun RR hRR=>call hr fun h' tk u g' go' i1 i2=>?_) (fun c' h' tk tk' u K=>?_)
   ·obtain⟨t',i1⟩:=i1
    refine hRR _ h' tk u t' ⟨rfl,g',go'⟩ i1 fun q=>?_;have:cc=[]:=by
     have e0:(Str.ofString "").cps.toList=[]:=by rfl
     have:=congrArg (fun x:Str=>x.cps.toList) q;rw [e0]at this;simpa using this
    exact hc this
   ·obtain⟨rfl,g',go'⟩:=K
    exact hQ h' tk' _ g' go' ⟨u,rfl⟩
 ·subst e1 e2
  obtain⟨rs,e1,e2⟩:=g.mus k _ _ hk ha;rcases e2 with⟨z,_⟩ | ⟨z,_⟩ | ⟨z,_⟩ | ⟨_,x⟩ | ⟨z,_⟩ | ⟨z,_⟩ | ⟨z,_⟩
  ·exact absurd z (by decide)
  ·exact absurd z (by decide)
  ·exact absurd z (by decide)
  ·obtain⟨fi,bm,ea,h1⟩:=x
   obtain⟨rfl,_⟩:=List.cons.inj ea;refine d0j rm.calm h1 fun h' tk kp=>?_;obtain⟨g',go'⟩:=g.all fun b o zz e=>kp b o e;exact hQ h' tk _ g' go' rfl
  ·exact absurd z (by decide)
  ·exact absurd z (by decide)
  ·exact absurd z (by decide)
end
end
section
open Builtin Builtin.ObjectAttr
namespace FF
theorem slot_fn_get:Slot "function" "__get__" "function.__get__":=
 .of (owner:="function") (n:="__get__") (by rw [typeLookup_type,builtinLookup_eq_fast];kernel_rfl) (by decide +kernel) (by decide +kernel) (by decide +kernel)
  (by first | exact .inl (by decide +kernel) | exact .inr (by decide +kernel)) (by rw [isSubtype_type];kernel_rfl)
theorem lk_set:typeLookup (.type "function") "__set__" = pure none:=by rw [typeLookup_type,builtinLookup_eq_fast];kernel_rfl
theorem lk_del:typeLookup (.type "function") "__delete__" = pure none:=by rw [typeLookup_type,builtinLookup_eq_fast];kernel_rfl
end FF
section
variable{prog:Program}{w:World}{A:Around}{E:Value->Shared->Prop}{h:Heap}{g:Array GenState}{d:Drawn}{t:Nat}{os:OsState}
variable{nm q:Str}{C N x:Addr}{bs:List Value}{sn:List Str}{sub:List Value}{ab:Bool}{col:Option Bool}{dd:Option Addr}{k0 k1 k2 k3 k5:Option Value}{newId:String}
 {mN mA:Str->Option Value} {name:Str} {v:Value}
theorem d8b {f:Addr} {of:Obj} {tp:Value} {R:Result->Shared->Prop} (hfo:h.get? f=some of) (hfc:of.cls=.type "function")
  (hq:R (.ok (.ret (.ref h.objs.size))) ⟨h.push (methodObj (.ref f) (.ref x)),g,d,t,os⟩):codeAny (model prog w) A (.call (.builtin "function.__get__") ⟨[.ref f,.ref x,tp],[]⟩) R ⟨h,g,d,t,os⟩:=by
 refine codeAny_call_builtin KF.slot_fn.plain KF.entry_fn (KF.slot_fn.check _ _ _ _ _ _ _ _ ⟨_,hfo,hfc⟩ (KF.args_fn _ _ _) ?_)
 repeat k_node
 exact hq
set_option tactic.hygienic true in
theorem b7x{tk:Tok}{f dx:Addr}{o of:Obj}{Q:Fin->Shared->Prop}
  (hC:h.get? C=some (excClassObj nm q C N bs [.type "object"] true sn sub ab col dd k0 k1 k2 k3 k5 newId)) (hn:h.Ns N mN) (hnh:mN "__getattr__" = none) (hf:mN name=some (.ref f)) (hfo:h.get? f=some of) (hfc:of.cls=.type "function")
  (hcn:(["__module__","__name__","__qualname__","__doc__","__annotations__"]:List Str).contains name=false)
  (hB:typeLookup (.type "object") name=pure none) (hx:h.get? x=some o) (hc:o.cls=.ref C) (hnc:∀ c,o.data≠.cls c) (hdx:o.dict=some dx) (hns:h.Ns dx mA) (hv:mA name=none) (hq:Q (.done (.ret (.ref h.objs.size))) ⟨h.push (methodObj (.ref f) (.ref x)),g,d,t,os⟩) :
  wpAny (model prog w) A (Builtin.«proto.getattr_hooked» ⟨[.ref x,.str name tk],[]⟩) Q E ⟨h,g,d,t,os⟩:=by
 have f1:=FF.slot_fn_get.lookup;have f2:=FF.lk_set;have f3:=FF.lk_del;have hTf:(⟨h,g,d,t,os⟩:Shared).TypeIs (.ref f) "function":=⟨_,hfo,hfc⟩
 unfold Builtin.«proto.getattr_hooked»
 repeat (first | (with_reducible refine wpAny_loadPart_at hx ?_;rw [hc]) | (with_reducible refine wpAny_typeLookup_exc hC hn F.mro_object hB ?_;rw [hf]) | wp_step)
 split
 ·rename_i c hcd
  exact absurd hcd (hnc c)
 unfold instanceDict
 repeat (first | (with_reducible refine wpAny_loadPart_at hx ?_;rw [hc]) | with_reducible refine wpAny_loadPart_at hC ?_ | wp_step)
 rw [hdx]
 repeat (first | (with_reducible refine wpAny_nsGet hns ?_;rw [hv]) | wp_step)
 rw [hcn,if_neg Bool.false_ne_true];unfold byTheClass
 repeat (first | assumption | (with_reducible refine wpAny_typeLookup_exc hC hn F.mro_object F.lk_object_getattr ?_;rw [hnh]) | wp_step)
 refine d8b hfo hfc ?_;exact wpAny_pure hq
theorem c2d{expr:Bool}{f dx:Addr}{o of:Obj}{Q:Value->Shared->Prop}
  (hC:h.get? C=some (excClassObj nm q C N bs [.type "object"] true sn sub ab col dd k0 k1 k2 k3 k5 newId)) (hn:h.Ns N mN) (hng:mN "__getattribute__" = none) (hnh:mN "__getattr__" = none) (hf:mN name=some (.ref f)) (hfo:h.get? f=some of) (hfc:of.cls=.type "function")
  (hcn:(["__module__","__name__","__qualname__","__doc__","__annotations__"]:List Str).contains name=false)
  (hB:typeLookup (.type "object") name=pure none) (hx:h.get? x=some o) (hc:o.cls=.ref C) (hnc:∀ c,o.data≠.cls c) (hdx:o.dict=some dx) (hns:h.Ns dx mA) (hv:mA name=none) (hq:Q (.ref h.objs.size) ⟨h.push (methodObj (.ref f) (.ref x)),g,d,t+1,os⟩) :
  wpAny (model prog w) A (getAttr (.ref x) name expr) Q E ⟨h,g,d,t,os⟩:=by
 unfold getAttr getAttrBy
 repeat (first | (with_reducible refine wpAny_loadPart_at hx ?_;rw [hc]) | (with_reducible refine wpAny_typeLookup_exc hC hn F.mro_object F.lk_object_ga ?_;rw [hng]) | wp_step)
 show wpAny _ _ ((runValue (.builtin "proto.getattr_hooked" ⟨[.ref x,.str name t],[]⟩)).onRaise (noteIf true (.ref x) (.str name t))) _ _ _
 refine wpAny_onRaise (wpAny_runValue (codeAny_builtin F.plainObj_entry_getattr_hooked (b7x hC hn hnh hf hfo hfc hcn hB hx hc hnc hdx hns hv ?_)));show wpAny _ _ (handedOut (.ref h.objs.size)) _ _ _;exact wpAny_pure hq
end
end
section
namespace FF
theorem args_iter2 (a b:Value):argsOk "iter" ⟨[a,b],[]⟩:=by unfold argsOk;kernel_rfl
theorem lk_method_call:typeLookup (.type "method") "__call__" = pure (some (.builtin "method.__call__")):=by rw [typeLookup_type,builtinLookup_eq_fast];kernel_rfl
end FF
section
variable{prog:Program}{w:World}{base:Heap}{B:LB base}{lm:LamT}{P:Addr}{Γ:G}{μ μ':Mu}{as:List (List Addr)}{A:Around}{E:Value->Shared->Prop}{s:Shared}{env:Env}{ρ:Rho}
theorem d3k {bm:Addr} {fr X:Value} {t:Tok} {Q:Value->Shared->Prop} (hb:s.heap.get? bm=some (methodObj fr X)) (h:Q (.ref s.heap.objs.size) { s with heap:=s.heap.push (a6p (.ref bm) (.str "" t) false)}) :
  wpAny (model prog w) A (call (.builtin "iter") [.ref bm,.str "" t]) Q E s:=by
 refine call_function_entry (by decide +kernel) (by decide +kernel) kdk_entry_iter (FF.args_iter2 _ _) ?_;unfold Builtin.«iter»;refine wpAny_bind (m:=someArgs "iter" 1 2 _) (wpAny_of_eq (a:=[Value.ref bm,.str "" t]) (by first | rfl | kernel_rfl!) ?_)
 show wpAny _ _ (specialOf (.ref bm) "__call__" >>= _) _ _ _
 refine wpAny_bind (wpAny_specialOf (T:="method") ⟨_,hb,rfl⟩ FF.lk_method_call ?_)
 show wpAny _ _ (if(Option.isNone (some (Value.builtin "method.__call__")))=true then _ else _) _ _ _
 rw [if_neg (by decide)];refine wpAny_bind (wpAny_rule ?_);refine wpAny_bind ?_;unfold newFields;refine wpAny_newObj_type ?_ (by size_fits);exact wpAny_pure ⟨_,rfl,h⟩
theorem e4u (hiter:a1e prog w base "iter" (.builtin "iter")) {of:Obj} (hf:base.get? B.fr=some of) (hfc:of.cls=.type "function") {v:Expr} {y:Str} {j k kp ks n:Nat} {m:Int} {Q:Value->Shared->Prop}
  (hv:d0m env.scope v=some y) (hy:nid Γ.tbl y=some j) (hρ:ρ.lookup j=some (.mut k)) (hk:μ[k]?=some (.obj [kp,ks] m)) (hm:1<=m) (er:ER Γ.tbl base env ρ as s.heap) (g:GR (a1i B lm P) base μ as s.heap)
  (hQ:Post (a1i B lm P) base as s (.mut μ.length) (μ++[.obj [k] (-2)]) Q):wpAny (model prog w) A (eval v env) Q E s:=by
 refine c7h hv fun p1 p2 p3 p4 p5 kd ev hg hvx hd1' hd2'=>?_;subst ev;refine wpAny_Call_ofName (a3z (Γ:=Γ) (sc:=env.scope) (by decide) hg ⟨fun zz q=>q,fun zz q=>q,fun zz q=>q⟩ er g hiter ?_);refine Calls.callWith_builtin (a9l _ (by rfl)) ?_;refine evalArgs_plain (wpAny_items_cons (Attribute_any_ (wpAny_Name (b9g er hy hvx hd2' hρ fun u ru=>?_) hd1') rfl) rfl);obtain⟨X,D,PB,F,mA,rfl,hX,hr,I,La⟩:=a3p g hk hm ru;obtain⟨o,hxo,hc,hnc,hd⟩:=id I;obtain⟨hD,hns⟩:o.dict=some D/\s.heap.Ns D mA:=by
  obtain⟨rs,e1,e2⟩:=g.mus k _ _ hk hX;rcases e2 with⟨_,x⟩ | ⟨q,_⟩ | ⟨q,_⟩ | ⟨q,_⟩ | ⟨q,_⟩ | ⟨q,_⟩ | ⟨q,_⟩
  ·obtain⟨X',D',PB',F',o',mA',ea,er',h1,h2,h3,h4,h5,h6,h7⟩:=x
   simp only [List.cons.injEq,and_true]at ea;obtain⟨rfl,rfl⟩:=ea;rw [hxo]at h1;obtain rfl:=Option.some.inj h1;refine⟨h4,?_⟩;rcases hd with⟨q,_⟩ | ⟨d,hd1,hd2,hd3⟩
   ·rw [h4]at q;cases q
   ·rw [h4]at hd1;obtain rfl:=Option.some.inj hd1;exact hd3.ns
  all_goals first | exact e7p q hm (by decide) | omega
 obtain⟨hC⟩:=B.cls;refine c2d (g.keep _ _ hC) (Ns.keep B.ns g.keep) B.nga B.ngt B.read (g.keep _ _ hf) hfc (by decide) (c5b _ (by simp)) hxo hc hnc hD hns (La.only _ (by decide) (by decide) (by decide) (by decide)) ?_;refine wpAny_items_cons (wpAny_Constant_str ?_) rfl;refine wpAny_items_nil ?_;have hb:(s.heap.push (methodObj (.ref B.fr) (.ref X))).get? s.heap.objs.size=some (methodObj (.ref B.fr) (.ref X)):=Heap.get?_push_size _ rfl;refine d3k hb ?_;have hsz:(s.heap.push (methodObj (.ref B.fr) (.ref X))).objs.size=s.heap.objs.size+1:=by simp [Heap.push]
 have hit:((s.heap.push (methodObj (.ref B.fr) (.ref X))).push (a6p (.ref s.heap.objs.size) (.str "" (s.toks+1)) false)).get? (s.heap.objs.size+1)=some (a6p (.ref s.heap.objs.size) (.str "" (s.toks+1)) false):=by
  rw [← hsz];exact Heap.get?_push_size _ rfl
 have hnone:∀ b,s.heap.objs.size<=b->s.heap.get? b=.none:=fun b hb=>by
  induction q:s.heap.get? b using Option.casesOn with
  | none=>rfl
  | some o=>exact absurd (Heap.lt_size q) (Nat.not_lt.mpr hb)
 obtain⟨g',go⟩:=g.new (h':=(s.heap.push (methodObj (.ref B.fr) (.ref X))).push (a6p (.ref s.heap.objs.size) (.str "" (s.toks+1)) false)) (ads:=[s.heap.objs.size+1,s.heap.objs.size]) (m:=.obj [k] (-2))
  (fun b o e=>Heap.get?_push_of_some _ (Heap.get?_push_of_some _ e))
  (fun a ha=>by
   simp only [List.mem_cons,List.not_mem_nil,or_false]at ha;rcases ha with rfl | rfl
   ·exact hnone _ (by omega)
   ·exact hnone _ (Nat.le_refl _))
  (by simp)
  (fun a ha=>by
   simp only [List.mem_cons,List.not_mem_nil,or_false]at ha;rcases ha with rfl | rfl
   ·exact⟨_,hit⟩
   ·exact⟨_,Heap.get?_push_of_some _ hb⟩)
  ⟨[X],by
   unfold c2j;simp only [a1o];rw [List.getElem?_append_left (List.getElem?_eq_some_iff.mp hX).1,hX];rfl,.inr (.inr (.inl ⟨rfl,_,_,X,_,rfl,rfl,hit,Heap.get?_push_of_some _ hb⟩))⟩
 refine hQ _ _ _ _ g' go ?_;refine⟨s.heap.objs.size+1,[s.heap.objs.size],?_,by rw [hsz]⟩;rw [List.getElem?_append_right (by rw [g.len];omega),g.len];simp
end
end
section
open Builtin Builtin.ObjectAttr
namespace FF
theorem slot_fn_sa:Slot "function" "__setattr__" "object.__setattr__":=
 .of (owner:="object") (n:="__setattr__") (by rw [typeLookup_type,builtinLookup_eq_fast];kernel_rfl) (by decide +kernel) (by decide +kernel) (by decide +kernel)
  (by first | exact .inl (by decide +kernel) | exact .inr (by decide +kernel)) (by rw [isSubtype_type];kernel_rfl)
theorem passes_fn (self:Value):refuseLoop self "__setattr__" [.type "function",.type "object"]=pure ():=by kernel_rfl
theorem mro_fn:mroOf (.type "function")=pure [.type "function",.type "object"]:=by kernel_rfl
end FF
section
variable{prog:Program}{w:World}{A:Around}{E:Value->Shared->Prop}{h:Heap}{g:Array GenState}{d:Drawn}{t:Nat}{os:OsState}
theorem b1i {F:Addr} {o:Obj} {fd:FuncData} {name:Str} {v:Value} {tk:Tok} {Q:Fin->Shared->Prop} (hx:h.get? F=some o) (hc:o.cls=.type "function") (hdn:o.dict=none) (hcd:o.data=.func fd)
  (hB:typeLookup (.type "function") name=pure none)
  (hq:∀ h' tk' FD,h'.get? F=some { cls:=o.cls,dict:=some FD,data:=o.data,slots:=o.slots}->(∀ b ob,b≠F->h.get? b=some ob->h'.get? b=some ob)->h.get? FD=none->h'.Ns FD (fun y=>if y=name then some v else none)->Q (.done (.ret .none)) ⟨h',g,d,tk',os⟩) :
  wpAny (model prog w) A (Builtin.«object.__setattr__» ⟨[.ref F,.str name tk,v],[]⟩) Q E ⟨h,g,d,t,os⟩:=by
 have hT:(⟨h,g,d,t,os⟩:Shared).TypeIs (.ref F) "function":=⟨_,hx,hc⟩
 have hpass:=FF.passes_fn (.ref F);have hmro:=FF.mro_fn;unfold Builtin.«object.__setattr__»
 repeat (first | rw [refuse_eq] | rw [hpass] | rw [hmro] | (with_reducible refine wpAny_loadPart_at hx ?_) | wp_step)
 rw [hc];show wpAny _ _ (match o.dict with
       | some d=>pure (some d)
       | none=>
        if(!true||!typeHasDict (.type "function"))=true then pure none
        else
         match o.data with
         | Data.cls c=>pure none
         | x=>do
          let d ← alloc { cls:=Value.type "dict",data:=Data.dict #[]}
          update F fun o=>{ cls:=o.cls,dict:=some d,data:=o.data,slots:=o.slots}
          dictMade (.type "function") F d) _ _ _
 rw [hdn,hcd];show wpAny _ _ (if(!true||!typeHasDict (.type "function"))=true then _ else _) _ _ _
 rw [if_neg (by decide +kernel)];have hxI:(h.push { cls:=.type "dict",data:=.dict #[]}).get? F=some o:=Heap.get?_push_of_some _ hx
 have hxs:F≠h.objs.size:=Nat.ne_of_lt (Heap.lt_size hx);refine wpAny_bind (wpAny_alloc' ?_);refine wpAny_bind (wpAny_update' hxI ?_);refine wpAny_pure ?_;have hgd:((h.push { cls:=.type "dict",data:=.dict #[]}).update F fun o=>{ cls:=o.cls,dict:=some h.objs.size,data:=o.data,slots:=o.slots}).get? h.objs.size
   = some { cls:=.type "dict",data:=.dict #[]}:=
  (Heap.get?_update_ne _ _ _ _ hxs.symm).trans (Heap.get?_push_at rfl rfl)
 have hnd:((h.push { cls:=.type "dict",data:=.dict #[]}).update F fun o=>{ cls:=o.cls,dict:=some h.objs.size,data:=o.data,slots:=o.slots}).Ns h.objs.size (fun zz=>none):=
  ⟨_,#[],_,hgd,rfl,fun e he=>absurd he (by simp),fun zz=>rfl⟩
 show wpAny _ _ (storeInDict h.objs.size (.str name tk) name v) _ _ _;unfold storeInDict newKeyGuard;refine wpAny_bind (wpAny_pure (wpAny_bind (wpAny_nsSet1 (Heap.Ns1.of_empty hnd) fun h' hn' hs=>?_)));obtain⟨oD,esD,epD,hoD,hdD,hcD⟩:=hn'.count (Within.cons name v Within.nil);refine wpAny_bind (wpAny_lookBehind hoD (by rw [hdD];exact pastItsLine_dict (Nat.le_trans hcD (by rw [List.length_cons,List.length_nil,sizeLine_eq];omega))) ?_)
 wp_walk
 refine hq h' _ h.objs.size ?_ (fun b ob hbx hb=>?_) (a1c h) ?_
 ·refine(hs.2 F hxs).trans (Heap.get?_update_self _ hxI ?_)
  have hfr:=(Heap.get?_some_iff.mp hx).2;obtain⟨oc,od,odt,osl⟩:=o;simp only at hcd;subst hcd;rfl
 ·exact(hs.2 b (Nat.ne_of_lt (Heap.lt_size hb))).trans ((Heap.get?_update_ne _ _ _ _ hbx).trans (Heap.get?_push_of_some _ hb))
 ·obtain⟨o',es,ep,e1,e2,e3,eu,e4⟩:=hn'
  exact⟨o',es,ep,e1,e2,e3,fun y=>by rw [e4 y]⟩
theorem d2z {F:Addr} {o:Obj} {fd:FuncData} {name:Str} {v:Value} {Q:Unit->Shared->Prop} (hx:h.get? F=some o) (hc:o.cls=.type "function") (hdn:o.dict=none) (hcd:o.data=.func fd)
  (hB:typeLookup (.type "function") name=pure none)
  (hq:∀ h' tk' FD,h'.get? F=some { cls:=o.cls,dict:=some FD,data:=o.data,slots:=o.slots}->(∀ b ob,b≠F->h.get? b=some ob->h'.get? b=some ob)->h.get? FD=none->h'.Ns FD (fun y=>if y=name then some v else none)->Q () ⟨h',g,d,tk',os⟩) :
  wpAny (model prog w) A (setAttr (.ref F) name v) Q E ⟨h,g,d,t,os⟩:=by
 have hT:(⟨h,g,d,t+1,os⟩:Shared).TypeIs (.ref F) "function":=⟨_,hx,hc⟩
 unfold setAttr;refine wpAny_bind (wpAny_mkText (wpAny_bind (wpAny_callSpecial?_slot (name:=Str.ofString "__setattr__") hT FF.slot_fn_sa
  (wpAny_call_entry FF.slot_fn_sa hT PySem.F.store_object.entry (b1i hx hc hdn hcd hB fun h' tk' FD a b c d=>?_) (PySem.F.store_object.args _ _ _)))))
 exact⟨_,rfl,wpAny_pure (hq h' tk' FD a b c d)⟩
end
end
section
structure d6h(lm:LamT)(par0:Arguments)(sc0:Scope):Prop where
 def0:∀ env,defaultsOf par0 env=([],[])
 def1:∀ env,defaultsOf lm.params env=([],[])
 clo0:∀ env,closureFor sc0 env=pure []
 clo1:∀ env LC,env.cells.lookup ("letters":Str)=some LC->closureFor lm.scope env=pure [(("letters":Str),LC)]
 n1:∀ c1:Addr,codeAmong lm.pos [rawInt lm.pos0.line,rawInt lm.pos0.col,.ref c1]=none
structure c5l(base:Heap)(lm:LamT)(P:Addr)(mg:Str->Option Value)(env:Env):Prop where
 kind:env.scope.kind=.function
 glob:env.globals=mainGlobals
 code:∃ c,env.code=.ref c/\CodeHd base c P
 g:base.Ns mainGlobals mg
 b:base.BuiltinsAt mg P
 off:base.get? P=none
 str:env.kindOf "stream" = some .local
 qual:env.qual++"<lambda>" = lm.qual
theorem BuiltinsAt.keep{h h':Heap}{mg:Str->Option Value}{P:Addr}(x:h.BuiltinsAt mg P)(k:∀ b o,h.get? b=some o->h'.get? b=some o):h'.BuiltinsAt mg P:=
 let⟨bm,o,a,b,c,d,e,r⟩:=x;⟨bm,o,a,b,c,d,k _ _ e,r⟩
noncomputable def f0i(lm:LamT)(c1 c2:Addr):Obj:=tabObj #[rawInt lm.pos0.line,rawInt lm.pos0.col,.ref c1,rawInt lm.pos.line,rawInt lm.pos.col,.ref c2]
noncomputable def f3d (lm:LamT) (LC:Addr) (pm:Value) (cG:Addr) (ctv:Value):Obj:=kla_obj "<lambda>" lm.qual lm.params lm.body lm.scope [("letters",LC)] pm cG ctv
structure e7j(lm:LamT)(P L LC:Addr)(m:Str->Option Value)(h h':Heap)(F FD G cG:Addr):Prop where
 same:∀ b o,b≠L->b≠P->h.get? b=some o->h'.get? b=some o
 ns:∃ m',h'.Ns L m'/\m' "stream" = some (.ref F)
 fn:∃ md,a9a h' F FD md/\md "read" = some (.ref G)
 lam:∃ pm ctv,h'.get? G=some (f3d lm LC pm cG ctv)
 newF:h.get? F=none
 newFD:h.get? FD=none
 newG:h.get? G=none
 nd:[F,FD,G].Nodup
section
variable{prog:Program}{w:World}{A:Around}{E:Value->Shared->Prop}{s:Shared}{base:Heap}{lm:LamT}{P:Addr}{mg:Str->Option Value}{env:Env}
theorem e5a{h:Heap}{L:Addr}{m:Str->Option Value}{ps:Array Value}(hn:h.Ns L m)(hP:h.get? P=some (tabObj ps)):L≠P:=fun q=>by
 obtain⟨o,es,ep,e1,e2,_⟩:=hn;rw [q,hP]at e1;cases e1;cases e2
theorem c7c(V:c5l base lm P mg env){p2:Pos}{Q:Shared->Prop}{F:Addr}{m:Str->Option Value}{oF:Obj}{fd:FuncData}{v:Value}
  (hns:s.heap.Ns env.locals m) (hm:m "stream" = some (.ref F)) (hF:s.heap.get? F=some oF) (hc:oF.cls=.type "function") (hdn:oF.dict=none) (hcd:oF.data=.func fd)
  (hq:∀ h' tk' FD md,a9a h' F FD md->md "read" = some v->(∀ b ob,b≠F->s.heap.get? b=some ob->h'.get? b=some ob)->s.heap.get? FD=none->Q { s with heap:=h',toks:=tk'}) :
  wpAny (model prog w) A (eval (.Name "stream" p2) env) (fun ov sJ=>wpAny (model prog w) A (setAttr ov "read" v) (fun zz s'=>Q s') E sJ) E s:=by
 refine wpAny_Name (wpAny_loadName_local V.kind V.str hns hm ?_) (by decide);obtain⟨h,g,d,t,os⟩:=s;refine d2z hF hc hdn hcd FF.lk_read fun h' tk' FD a b c e=>?_;refine hq h' tk' FD _ ⟨⟨fd,oF.slots,?_⟩,e⟩ (by simp) b c;rw [a,hc,hcd]
theorem c2c{par0:Arguments}{b0:Expr}{sc0:Scope}(Sr:d6h lm par0 sc0)(V:c5l base lm P mg env){p1 p2 p3 q1 q2:Pos}{rest:List Stmt}{Q:Flow->Shared->Prop}{m:Str->Option Value}{LC:Addr}
  (kp:∀ a o,base.get? a=some o->s.heap.get? a=some o) (hns:s.heap.Ns env.locals m) (hloc:base.get? env.locals=none) (hLC:env.cells.lookup ("letters":Str)=some LC) (hP:s.heap.get? P=some (tabObj #[]))
  (hq:∀ h' tk F FD G cG c1,e7j lm P env.locals LC m s.heap h' F FD G cG->h'.get? P=some (f0i lm c1 cG)->s.heap.get? cG=none->h'.CodeRec (.ref cG) lm.qual->cG∉[F,FD,G]->wpAny (model prog w) A (execs rest env) Q E { s with heap:=h',toks:=tk}) :
  wpAny (model prog w) A (execs (.Assign [.Name "stream" p1] (.Lambda par0 b0 sc0 lm.pos0) q1::.Assign [.Attribute (.Name "stream" p2) "read" p3] (.Lambda lm.params lm.body lm.scope lm.pos) q2::rest) env) Q E s:=by
 obtain⟨c,hcode,C⟩:=V.code;have hgP:mainGlobals≠P:=fun q=>by
  obtain⟨o,es,ep,e,_⟩:=V.g;rw [q,V.off]at e;cases e
 have hLP:env.locals≠P:=e5a hns hP;refine wpAny_execs_cons (wpAny_Assign_Name (kla_eval (Sr.def0 env) (kla_makeFunction (mg:=mg) (Sr.clo0 env) V.glob (Ns.keep V.g kp) hcode (C.keeps kp) hP (by trivial) (by rfl) hgP (BuiltinsAt.keep V.b kp) fun c1 ct1 h1 tk1 hx1 hge1 hlt1 hrec1 htb1=>?_)) rfl);have k1:∀ b o,b≠P->s.heap.get? b=some o->(h1.push (kla_obj "<lambda>" (env.qual++"<lambda>") par0 b0 sc0 [] ((mg "__name__").getD .none) c1 ct1)).get? b=some o:=fun b o hb e=>Heap.get?_push_of_some _ (hx1 b o hb e)
 obtain⟨oF,hoF⟩:∃ oF,oF=kla_obj "<lambda>" (env.qual++"<lambda>") par0 b0 sc0 [] ((mg "__name__").getD .none) c1 ct1:=⟨_,rfl⟩
 rw [← hoF]at k1 ⊢;have hF1:(h1.push oF).get? h1.objs.size=some oF:=Heap.get?_push_size _ (by rw [hoF];rfl);have hfr:∀ a,s.heap.objs.size<=a->s.heap.get? a=none:=fun a ha=>by
  induction q:s.heap.get? a using Option.casesOn with
  | none=>rfl
  | some o=>exact absurd (Heap.lt_size q) (Nat.not_lt.mpr ha)
 have hszF:s.heap.objs.size<=h1.objs.size:=Nat.le_of_lt (Nat.lt_of_le_of_lt hge1 hlt1);have hns1:(h1.push oF).Ns env.locals m:=by
  obtain⟨o,es,ep,e,r⟩:=hns;exact⟨o,es,ep,k1 _ _ hLP e,r⟩
 refine wpAny_storeName_local V.str hns1 (fun h2 hn2 hs2=>?_) (by rw [V.kind];rfl);have hP2:h2.get? P=some (tabObj #[rawInt lm.pos0.line,rawInt lm.pos0.col,.ref c1]):=(hs2.2 P hLP.symm).trans (Heap.get?_push_of_some _ (by simpa using htb1));have kp2:∀ a o,base.get? a=some o->h2.get? a=some o:=fun a o e=>(hs2.2 a (fun q=>by rw [q,hloc]at e;cases e)).trans (k1 a o (fun q=>by rw [q,V.off]at e;cases e) (kp a o e));have hFL:h1.objs.size≠env.locals:=fun q=>by
  obtain⟨o,es,ep,e,_⟩:=hns;have:=hfr _ hszF;rw [q,e]at this;cases this
 have hF2:h2.get? h1.objs.size=some oF:=(hs2.2 _ hFL).trans hF1;refine wpAny_execs_cons (plainObj_wpAny_Assign_Attribute (kla_eval (Sr.def1 env) (kla_makeFunction (s:={ s with heap:=h2,toks:=_}) (mg:=mg) (Sr.clo1 env LC hLC) V.glob (Ns.keep V.g kp2) hcode (C.keeps kp2) hP2 (by trivial) (by simpa using Sr.n1 c1) hgP (BuiltinsAt.keep V.b kp2) fun cG ctv h3 tk3 hx3 hge3 hlt3 hrec3 htb3=>?_)) rfl);obtain⟨oG,hoG⟩:∃ oG,oG=kla_obj "<lambda>" (env.qual++"<lambda>") lm.params lm.body lm.scope [("letters",LC)] ((mg "__name__").getD .none) cG ctv:=⟨_,rfl⟩
 rw [← hoG];have k3:∀ b o,b≠P->h2.get? b=some o->(h3.push oG).get? b=some o:=fun b o hb e=>Heap.get?_push_of_some _ (hx3 b o hb e);have hFP:h1.objs.size≠P:=fun q=>by
  have:=hfr _ hszF;rw [q,hP]at this;cases this
 have hns3:(h3.push oG).Ns env.locals (fun x=>if x=("stream":Str)then some (.ref h1.objs.size)else m x):=by
  obtain⟨o,es,ep,e,r⟩:=hn2;exact⟨o,es,ep,k3 _ _ hLP e,r⟩
 have hG3:(h3.push oG).get? h3.objs.size=some oG:=Heap.get?_push_size _ (by rw [hoG];rfl);refine c7c (Q:=fun s'=>wpAny (model prog w) A (execs rest env) Q E s') (s:={ s with heap:=h3.push oG,toks:=tk3}) V hns3 (by simp) (k3 _ _ hFP hF2) (by rw [hoF]) (by rw [hoF]) (by rw [hoF]) fun h4 tk4 FD md hfd hmd k4 hFD=>?_;have hs12:h1.objs.size<h2.objs.size:=Heap.lt_size hF2;have hs2s:s.heap.objs.size<=h2.objs.size:=Nat.le_of_lt (Nat.lt_of_le_of_lt hszF hs12);have hs23:h2.objs.size<=h3.objs.size:=Nat.le_of_lt (Nat.lt_of_le_of_lt hge3 hlt3);have hGF:h3.objs.size≠h1.objs.size:=by omega
 have hcGF:cG≠h1.objs.size:=by
  have:h2.objs.size<=cG:=hge3;omega
 have hcG3:∃ o,(h3.push oG).get? cG=some o:=by
  obtain⟨c',o,vs,t,e,ho,_⟩:=hrec3;cases e;exact⟨o,Heap.get?_push_of_some _ ho⟩
 have hFDn:∀ a o,(h3.push oG).get? a=some o->a≠FD:=fun a o e q=>by
  have:(h3.push oG).get? FD=none:=hFD;rw [← q,e]at this;cases this
 have hPL:P≠h1.objs.size:=hFP.symm;refine hq h4 tk4 h1.objs.size FD h3.objs.size cG c1 ⟨fun b o h1' h2' e=>?_,⟨fun x=>if x=("stream":Str)then some (.ref h1.objs.size)else m x,?_,?_⟩,⟨md,hfd,hmd⟩,⟨(mg "__name__").getD .none,ctv,?_⟩,hfr _ hszF,?_,hfr _ (by omega),?_⟩ ?_ ?_ ?_ ?_
 ·have hbF:b≠h1.objs.size:=fun q=>by rw [q,hfr _ hszF]at e;exact ns e
  exact k4 b o hbF (k3 b o h2' ((hs2.2 b h1').trans (k1 b o h2' e)))
 ·obtain⟨o,es,ep,e,r⟩:=hns3;exact⟨o,es,ep,k4 _ _ (fun q=>hFL q.symm) e,r⟩
 ·simp
 ·rw [k4 _ _ hGF hG3,hoG,V.qual];rfl
 ·induction q:s.heap.get? FD using Option.casesOn with
  | none=>rfl
  | some o=>
   exfalso;by_cases h1':FD=env.locals
   ·obtain⟨o',es,ep,e,_⟩:=hns3
    exact hFDn _ _ e h1'.symm
   ·by_cases h2':FD=P
    ·exact hFDn P _ (Heap.get?_push_of_some _ (by simpa using htb3)) h2'.symm
    ·exact hFDn FD o (k3 FD o h2' ((hs2.2 FD h1').trans (k1 FD o h2' q))) rfl
 ·simp only [List.nodup_cons,List.mem_cons,List.not_mem_nil,or_false,not_or,List.nodup_nil,and_true,not_false_eq_true]
  exact⟨⟨hFDn _ _ (k3 _ _ hFP hF2),hGF.symm⟩,fun q=>hFDn _ _ hG3 q.symm⟩
 ·refine k4 _ _ hPL ?_
  refine Heap.get?_push_of_some _ ?_;simpa [f0i]using htb3
 ·exact hfr _ (Nat.le_trans hs2s hge3)
 ·obtain⟨c',o,vs,t,e,ho,hd,hv⟩:=hrec3
  cases e;rw [← V.qual];exact⟨cG,o,vs,t,rfl,k4 _ _ hcGF (Heap.get?_push_of_some _ ho),hd,hv⟩
 ·obtain⟨o,ho⟩:=hcG3
  simp only [List.mem_cons,List.not_mem_nil,or_false,not_or];exact⟨hcGF,hFDn _ _ ho,Nat.ne_of_lt hlt3⟩
end
end
section
noncomputable def Off(base:Heap)(as:List (List Addr))(h:Heap)(a:Addr):Prop:=a∉as.flatten/\base.get? a=.none/\∃ o,h.get? a=some o/\∀ xs n,o.data≠.seq xs n
section
variable{Lx:LxP}{base:Heap}{μ:Mu}{h h':Heap}{as:List (List Addr)}
theorem GR.upd2(g:GR Lx base μ as h){k:Nat}{ads fr:List Addr}{m:M}(hk:as[k+1]?=some ads)(hkl:k<μ.length)(hfr:∀ a∈fr,Off base as h a)(kp:∀ b o,b∉ads->b∉fr->h.get? b=some o->h'.get? b=some o)(al:∀ a∈ads,∃ o,h'.get? a=some o)
  (hm:Ks as h h'->e2o Lx h' as m ads):GR Lx base (μ.set k m) as h'/\Ks as h h':=by
 have sub:∀ a∈ads,a∈as.flatten:=fun a ha=>List.mem_flatten.mpr ⟨ads,List.mem_of_getElem? hk,ha⟩;have ks:Ks as h h':=fun b o hb e ⟨xs,n,hd⟩=>kp b o (fun q=>hb (sub b q)) (fun q=>by
  obtain⟨_,_,o',e',hs⟩:=hfr b q;rw [e]at e';obtain rfl:=Option.some.inj e';exact hs xs n hd) e
 have offf:∀ b∈as.flatten,b∉fr:=fun b hb q=>(hfr b q).1 hb;have alive:∀ b∈as.flatten,∃ o,h'.get? b=some o:=fun b hb=>by
  by_cases q:b∈ads
  ·exact al b q
  ·obtain⟨o,e⟩:=g.alive b hb;exact⟨o,kp b o q (offf b hb) e⟩
 refine⟨⟨fun b o e=>kp b o (fun q=>by rw [g.fresh b (sub b q)]at e;exact ns e) (fun q=>by rw [(hfr b q).2.1]at e;exact ns e) (g.keep b o e),g.fresh,g.nd,alive,by rw [List.length_set];exact g.len,fun j M ads' hj hads=>?_⟩,ks⟩;by_cases q:j=k
 ·subst q
  rw [List.getElem?_set_self hkl,Option.some.injEq]at hj;subst hj;rw [hk,Option.some.injEq]at hads;subst hads;exact hm ks
 ·rw [List.getElem?_set_ne (fun z=>q z.symm)]at hj
  have hM:=g.mus j M ads' hj hads;have hn:∀ a∈ads',a∉ads:=fun a ha=>b3g g hads hk (by omega) ha;have hn2:∀ a∈ads',a∉fr:=fun a ha=>offf a (List.mem_flatten.mpr ⟨ads',List.mem_of_getElem? hads,ha⟩);induction M using Mine.M.casesOn with
  | list l'=>
   obtain⟨b,us,rfl,⟨m',hp⟩,hr⟩:=hM;exact⟨b,us,rfl,⟨m',kp b _ (hn b (by simp)) (hn2 b (by simp)) hp⟩,hr.ks ks⟩
  | obj is n'=>exact let⟨rs,e1,e2⟩:=hM;⟨rs,e1,Lx.keep e2 fun b hb o e=>kp b o (hn b hb) (hn2 b hb) e⟩
theorem b6d{ads:List Addr}(ha:∀ a∈ads,∀ o,h.get? a=some o->∀ xs n,o.data≠.seq xs n){a:Addr}{o:Obj}(hoff:a∉as.flatten)(e:h.get? a=some o)(q:∃ xs n,o.data=.seq xs n):a∉(as++[ads]).flatten:=fun hm=>by
 obtain⟨xs,n,hd⟩:=q;rw [List.flatten_append,List.mem_append]at hm;rcases hm with q | q
 ·exact hoff q
 ·exact ha a ((List.append_nil ads)▸q) o e _ n hd
theorem Rep.adopt{ads:List Addr}(ha:∀ a∈ads,∀ o,h.get? a=some o->∀ xs n,o.data≠.seq xs n):∀ {x:V} {v:Value},Rep h as x v->Rep h (as++[ads]) x v:=fun r=>
 Rep.tr (fun zz zz hoff e q=>⟨b6d ha hoff e q,e⟩) (fun zz zz e=>by rw [List.getElem?_append_left (List.getElem?_eq_some_iff.mp e).1];exact e) r
theorem Reps.adopt{ads:List Addr}(ha:∀ a∈ads,∀ o,h.get? a=some o->∀ xs n,o.data≠.seq xs n):∀ {l:List V} {vs:List Value},Reps h as l vs->Reps h (as++[ads]) l vs:=fun r=>
 Reps.tr (fun zz zz hoff e q=>⟨b6d ha hoff e q,e⟩) (fun zz zz e=>by rw [List.getElem?_append_left (List.getElem?_eq_some_iff.mp e).1];exact e) r
theorem GR.adopt(g:GR Lx base μ as h){ads:List Addr}{m:M}(hoff:∀ a∈ads,Off base as h a)(nd:ads.Nodup)(hm:e2o Lx h (as++[ads]) m ads):GR Lx base (μ++[m]) (as++[ads]) h:=by
 have hk:∀ a∈ads,∀ o,h.get? a=some o->∀ xs n,o.data≠.seq xs n:=fun a ha o e=>by
  obtain⟨_,_,o',e',r⟩:=hoff a ha;rw [e]at e';obtain rfl:=Option.some.inj e';exact r
 refine⟨g.keep,fun b hb=>?_,?_,fun b hb=>?_,by rw [List.length_append,List.length_append,g.len];rfl,fun j M ads' hj hads=>?_⟩
 ·rw [List.flatten_append,List.mem_append]at hb
  rcases hb with hb | hb
  ·exact g.fresh b hb
  ·exact(hoff b (by simpa using hb)).2.1
 ·rw [List.flatten_append,List.nodup_append]
  refine⟨g.nd,by simpa using nd,fun a ha b hb q=>?_⟩;subst q;exact(hoff a (by simpa using hb)).1 ha
 ·rw [List.flatten_append,List.mem_append]at hb
  rcases hb with hb | hb
  ·exact g.alive b hb
  ·obtain⟨_,_,o,e,_⟩:=hoff b (by simpa using hb);exact⟨o,e⟩
 ·by_cases q:j<μ.length
  ·rw [List.getElem?_append_left q]at hj
   rw [List.getElem?_append_left (by rw [g.len];omega)]at hads;have hM:=g.mus j M ads' hj hads;induction M using Mine.M.casesOn with
   | list l'=>
    obtain⟨b,us,rfl,hp,hr⟩:=hM;exact⟨b,us,rfl,hp,hr.adopt hk⟩
   | obj is n'=>exact let⟨rs,e1,e2⟩:=hM;⟨rs,b0n (fun j l e=>by rw [List.getElem?_append_left (List.getElem?_eq_some_iff.mp e).1];exact e) e1,e2⟩
  ·have hj':j=μ.length:=by
    have:=(List.getElem?_eq_some_iff.mp hj).1;simp at this;omega
   subst hj';rw [List.getElem?_append_right (Nat.le_refl _)]at hj;rw [List.getElem?_append_right (by rw [g.len];omega)]at hads;have hz:μ.length+1-as.length=0:=by rw [g.len];omega
   rw [hz]at hads;simp only [Nat.sub_self,List.getElem?_cons_zero,Option.some.injEq]at hj hads;subst hj;subst hads;exact hm
theorem Off.adopt{ads:List Addr}{a:Addr}(x:Off base as h a)(hn:a∉ads):Off base (as++[ads]) h a:=
 ⟨fun q=>by
  rw [List.flatten_append,List.mem_append]at q;rcases q with q | q
  ·exact x.1 q
  ·exact hn (by simpa using q),x.2⟩
end
end
section
section
variable{base:Heap}{B:LB base}{lm:LamT}{P:Addr}{μ:Mu}{h h':Heap}{as:List (List Addr)}
theorem b9v{is:List Nat}{n:Int}(g:GR (a1i B lm P) base μ as h)(h0:μ[0]?=some (.obj is n))(hn:n = -1∨n = -8∨n = -5):as[1]?=some [P]/\∃ rs,c2j as is=some rs/\TabAt lm P h [P] rs n:=by
 obtain⟨ads,ha⟩:∃ ads,as[1]?=some ads:=by
  have:=(List.getElem?_eq_some_iff.mp h0).1;exact⟨as[1]'(by rw [g.len];omega),List.getElem?_eq_getElem _⟩
 obtain⟨rs,e1,e2⟩:=g.mus 0 _ _ h0 ha;rcases e2 with⟨z,_⟩ | ⟨z,_⟩ | ⟨z,_⟩ | ⟨z,_⟩ | ⟨z,_⟩ | ⟨_,x⟩ | ⟨z,_⟩
 any_goals omega
 have e:=x.1;subst e;exact⟨ha,rs,e1,x⟩
theorem d9m{a:Addr}(g:GR (a1i B lm P) base μ as h)(kp:∀ b o,base.get? b=some o->h.get? b=some o)(hn:h.get? a=none):a∉as.flatten/\base.get? a=none:=
 ⟨fun q=>(by obtain⟨o,e⟩:=g.alive a q;rw [hn]at e;exact ns e),by
  induction q:base.get? a using Option.casesOn with
  | none=>rfl
  | some o=>have:=kp a o q;rw [hn]at this;exact ns this⟩
theorem d3x{F FD:Addr}{md:Str->Option Value}(x:a9a h F FD md):(∃ o,h.get? F=some o/\∀ xs n,o.data≠.seq xs n)/\∃ o,h.get? FD=some o/\∀ xs n,o.data≠.seq xs n:=by
 obtain⟨⟨fd,sl,e⟩,hn⟩:=x;exact⟨⟨_,e,fun zz zz q=>by cases q⟩,Ns.get hn⟩
theorem c7q{L LC F FD G cG LL:Addr}{m:Str->Option Value}{kl kc:Nat}{q1 q2:List Addr}{h0:Heap}(g:GR (a1i B lm P) base μ as h')(M:e7j lm P L LC m h0 h' F FD G cG)(hcell:h'.IsCell LC (some (.ref LL)))
  (oF:F∉as.flatten/\base.get? F=none) (oFD:FD∉as.flatten/\base.get? FD=none) (oG:G∉as.flatten/\base.get? G=none) (oC:LC∉as.flatten/\base.get? LC=none) (hC:LC∉[F,FD,G])
  (hl:as[kl+1]?=some (LL::q1)) (hc:as[kc+1]?=some (cG::q2)):GR (a1i B lm P) base (μ++[.obj [kl,kc] (-3)]) (as++[[F,FD,G,LC]]) h':=by
 obtain⟨md,hfd,hmd⟩:=M.fn;obtain⟨pm,ctv,hG⟩:=M.lam;obtain⟨f1,f2⟩:=d3x hfd;refine g.adopt (m:=.obj [kl,kc] (-3)) (fun a ha=>?_) ?_ ⟨[LL,cG],?_,.inr (.inl ⟨rfl,F,FD,G,LC,cG,LL,pm,ctv,md,rfl,rfl,hfd,hmd,hG,hcell⟩)⟩
 ·simp only [List.mem_cons,List.not_mem_nil,or_false]at ha
  rcases ha with rfl | rfl | rfl | rfl
  ·exact⟨oF.1,oF.2,f1⟩
  ·exact⟨oFD.1,oFD.2,f2⟩
  ·exact⟨oG.1,oG.2,_,hG,fun zz zz q=>by cases q⟩
  ·obtain⟨oc,e,hd⟩:=hcell
   exact⟨oC.1,oC.2,oc,e,fun zz zz q=>by rw [hd]at q;cases q⟩
 ·have:=M.nd
  simp only [List.nodup_cons,List.mem_cons,List.not_mem_nil,or_false,not_or,List.nodup_nil,and_true,not_false_eq_true]at this hC ⊢;exact⟨⟨this.1.1,this.1.2,fun q=>hC.1 q.symm⟩,⟨this.2,fun q=>hC.2.1 q.symm⟩,fun q=>hC.2.2 q.symm⟩
 ·unfold c2j
  simp only [a1o];rw [List.getElem?_append_left (List.getElem?_eq_some_iff.mp hl).1,List.getElem?_append_left (List.getElem?_eq_some_iff.mp hc).1,hl,hc];rfl
theorem c1j{L LC F FD G cG c1 LL:Addr}{m:Str->Option Value}{kl:Nat}{q1:List Addr}(g:GR (a1i B lm P) base μ as h)(h0:μ[0]?=some (.obj [] (-1)))(M:e7j lm P L LC m h h' F FD G cG)(htab':h'.get? P=some (f0i lm c1 cG))(hnew:h.get? cG=none)(hcode:h'.CodeRec (.ref cG) lm.qual)(hcG:cG∉[F,FD,G])
  (hcell:h.IsCell LC (some (.ref LL))) (oL:Off base as h L) (oC:Off base as h LC) (hLC:LC≠L) (hl:as[kl+1]?=some (LL::q1)) :
  GR (a1i B lm P) base (μ.set 0 (.obj [μ.length] (-5))++[.obj [] (-6)]++[.obj [kl,μ.length] (-3)]) (as++[[cG]]++[[F,FD,G,LC]]) h':=by
 obtain⟨hP,_⟩:=b9v g h0 (.inl rfl);have hPm:P∈as.flatten:=List.mem_flatten.mpr ⟨[P],List.mem_of_getElem? hP,by simp⟩;have hcP:LC≠P:=fun q=>oC.1 (q▸hPm);have h0l:=(List.getElem?_eq_some_iff.mp h0).1;obtain⟨g1,_⟩:=g.upd2 (h':=h') (fr:=[L]) (m:=.obj [] (-8)) hP h0l (fun a ha=>by simp only [List.mem_singleton]at ha;subst ha;exact oL)
  (fun b o hb hb2 e=>M.same b o (by simpa using hb2) (by simpa using hb) e) (fun a ha=>by simp only [List.mem_singleton]at ha;subst ha;exact⟨_,htab'⟩)
  (fun ks=>⟨[],rfl,.inr (.inr (.inr (.inr (.inr (.inl ⟨.inr (.inl rfl),rfl,.inr (.inl rfl)⟩)))))⟩)
 have nn:∀ a,h.get? a=none->a∉as.flatten/\base.get? a=none:=fun a ha=>d9m g g.keep ha;have kc:∃ o,h'.get? cG=some o/\∀ xs n,o.data≠.seq xs n:=by
  obtain⟨c,o,vs,t,e,ho,hd,_⟩:=hcode;cases e;exact⟨o,ho,fun zz zz q=>by rw [hd]at q;cases q⟩
 have g2:=g1.adopt (ads:=[cG]) (m:=.obj [] (-6)) (fun a ha=>by
  simp only [List.mem_singleton]at ha;subst ha;exact⟨(nn _ hnew).1,(nn _ hnew).2,kc⟩) (by simp) ⟨[],rfl,.inr (.inr (.inr (.inr (.inl ⟨rfl,cG,rfl,hcode⟩))))⟩
 have hP2:(as++[[cG]])[1]?=some [P]:=by rw [List.getElem?_append_left (List.getElem?_eq_some_iff.mp hP).1];exact hP
 have hc2:(as++[[cG]])[μ.length+1]?=some [cG]:=by rw [List.getElem?_append_right (by rw [g.len];omega),g.len];simp
 obtain⟨g3,_⟩:=g2.upd2 (k:=0) (h':=h') (fr:=[]) (m:=.obj [μ.length] (-5)) hP2 (by simp) (fun a ha=>by cases ha)
  (fun b o zz zz e=>e) (fun a ha=>by simp only [List.mem_singleton]at ha;subst ha;exact⟨_,htab'⟩)
  (fun ks=>⟨[cG],by unfold c2j;simp only [a1o,hc2,Option.bind_some,List.head?_cons],.inr (.inr (.inr (.inr (.inr (.inl ⟨.inr (.inr rfl),rfl,.inr (.inr ⟨rfl,c1,cG,rfl,htab'⟩)⟩)))))⟩)
 have e1:(μ.set 0 (.obj [] (-8))++[Mine.M.obj [] (-6)]).set 0 (.obj [μ.length] (-5))=μ.set 0 (.obj [μ.length] (-5))++[.obj [] (-6)]:=by
  rw [List.set_append_left _ _ (by simpa using h0l),List.set_set]
 rw [e1]at g3;have nn2:∀ a,h.get? a=none->a≠cG->a∉(as++[[cG]]).flatten/\base.get? a=none:=fun a ha hne=>⟨fun q=>by
  rw [List.flatten_append,List.mem_append]at q;rcases q with q | q
  ·exact(nn a ha).1 q
  ·exact hne (by simpa using q),(nn a ha).2⟩
 simp only [List.mem_cons,List.not_mem_nil,or_false,not_or]at hcG;obtain⟨oc,hoc,hdc⟩:=hcell;refine c7q (q1:=q1) g3 M ⟨oc,M.same LC oc hLC hcP hoc,hdc⟩ (nn2 _ M.newF (fun q=>hcG.1 q.symm)) (nn2 _ M.newFD (fun q=>hcG.2.1 q.symm)) (nn2 _ M.newG (fun q=>hcG.2.2 q.symm)) ⟨fun q=>?_,oC.2.1⟩ (fun q=>?_) ?_ hc2
 ·rw [List.flatten_append,List.mem_append]at q
  rcases q with q | q
  ·exact oC.1 q
  ·have q:LC=cG:=by simpa using q
   rw [q,hnew]at hoc;exact ns hoc
 ·simp only [List.mem_cons,List.not_mem_nil,or_false]at q
  rcases q with q | q | q
  ·have:=M.newF;rw [← q,hoc]at this;cases this
  ·have:=M.newFD;rw [← q,hoc]at this;cases this
  ·have:=M.newG;rw [← q,hoc]at this;cases this
 ·rw [List.getElem?_append_left (List.getElem?_eq_some_iff.mp hl).1];exact hl
end
end
section
section
variable{prog:Program}{w:World}{Lx:LxP}{base:Heap}{μ:Mu}{n:Nat}
theorem b6x {t:List Nat} (hz:t.length<=big):CallOK prog w Lx base n (.type "list") [.str t] μ (.mut μ.length) (μ++[.list (t.map fun c=>.str [c])]):=fun A E s as vs Q rm g ra hQ=>by
 obtain⟨v,r,rfl,⟨tk,rfl⟩,rfl⟩:=ra;refine call_list_str rm.calm _ _ (fun h' tk' acc' c' hk hS' hacc=>?_) (by rw [sizeLine_eq];unfold big at hz;simpa using by omega);have hr:Reps h' (as++[[s.heap.objs.size]]) (t.map fun c=>V.str [c]) acc'.toList:=by
  obtain⟨a1,a2⟩:=hacc;have h1:acc'.toList.length=t.length:=by simpa using a1
  have h2:∀(j:Nat) (v:Value),acc'.toList[j]?=some v->∃ c tk,t[j]?=some c/\v=.str ⟨#[c]⟩ tk:=fun j v hv=>by
   obtain⟨c,u,hc,rfl⟩:=a2 j v (by simpa using hv);exact⟨c,u,by simpa using hc,rfl⟩
  clear hS' hQ hz a1 a2;generalize acc'.toList=l at h1 h2;induction t generalizing l with
  | nil=>
   have:l=[]:=List.eq_nil_of_length_eq_zero (by simpa using h1);subst this;simp [Reps]
  | cons c t ih=>
   induction l using List.casesOn with
   | nil=>simp at h1
   | cons v l=>
    obtain⟨c',tk2,e1,rfl⟩:=h2 0 v (by simp);simp only [List.getElem?_cons_zero,Option.some.injEq]at e1;subst e1;refine Reps.cons (⟨tk2,rfl⟩) (ih l (by simpa using h1) fun j v hv=>?_);simpa using h2 (j+1) v (by simpa using hv)
 obtain⟨g',go⟩:=g.new (h':=h') (ads:=[s.heap.objs.size]) (m:=.list (t.map fun c=>V.str [c])) hk (fun a ha=>by simp only [List.mem_singleton]at ha;subst ha;exact a1c _) (by simp)
  (fun a ha=>by simp only [List.mem_singleton]at ha;subst ha;exact⟨_,hS'⟩) ⟨_,acc'.toList,rfl,⟨c',by simpa using hS'⟩,hr⟩
 refine hQ _ _ h' tk' g' go ?_;refine⟨s.heap.objs.size,[],?_,rfl⟩;rw [List.getElem?_append_right (by rw [g.len];omega),g.len];simp
end
structure e3t(base:Heap)(lm:LamT)(P:Addr)(tbl:List Str)(jt jl il:Nat) where
 a:Addr
 o:Obj
 fd:FuncData
 mg:Str->Option Value
 s1:Stmt
 par0:Arguments
 b0:Expr
 sc0:Scope
 p1:Pos
 p2:Pos
 p3:Pos
 q1:Pos
 q2:Pos
 rest:List Stmt
 at':base.get? a=some o
 data:o.data=.func fd
 code:base.CodeRec fd.code fd.qualname
 head:∃ c,fd.code=.ref c/\CodeHd base c P
 body:fd.body=.stmts (s1::.Assign [.Name "stream" p1] (.Lambda par0 b0 sc0 lm.pos0) q1::.Assign [.Attribute (.Name "stream" p2) "read" p3] (.Lambda lm.params lm.body lm.scope lm.pos) q2::rest)
 src:d6h lm par0 sc0
 glob:fd.globals=mainGlobals
 built:fd.builtins=builtinsNs
 clos:fd.closure=[]
 coro:fd.scope.isCoroutine=false
 gen:fd.scope.isGenerator=false
 kind:fd.scope.kind=.function
 qual:fd.qualname++".<locals>."++"<lambda>" = lm.qual
 bind:∀ vals:List Value,vals.length=[("text":Str)].length->bindArgs fd ⟨vals,[]⟩=pure ([("text":Str)].zip vals)
 text:nid tbl "text" = some jt
 letters:nid tbl "letters" = some jl
 stream:(nid tbl "stream").isSome=true
 ktext:fd.scope.names.lookup ("text":Str)=some NameKind.local
 kletters:fd.scope.names.lookup ("letters":Str)=some NameKind.cell
 kstream:fd.scope.names.lookup ("stream":Str)=some NameKind.local
 nofree:∀ p∈fd.scope.names,p.2≠.free
 own:∀ x,a1g fd.scope x=true->(nid tbl x).isSome=true
 calm:∀ L,interactive (callEnvC fd L a)=false
 tr:∃ mt k,trS tbl mt k fd.scope s1=some (.assign jl (.call il [.slc (.loc jt) .none .none (some (.neg (.cst (.int 1))))]))
 ne:jt≠jl
 g:base.Ns mainGlobals mg
 b:base.BuiltinsAt mg P
section
variable{prog:Program}{w:World}{base:Heap}{B:LB base}{lm:LamT}{P:Addr}{Γ:G}{μ:Mu}{as:List (List Addr)}{A:Around}{s:Shared}{jt jl il:Nat}
theorem c4s{t:List Nat}(hz:t.length<=big):a1f (.str t) .none .none (some (-1))=some (.str t.reverse):=by
 have e:((List.range t.length).map fun k=>t.length-1-k).filterMap (t[·]?)=t.reverse:=by
  rw [List.filterMap_map];have:∀ k∈List.range t.length,((t[·]?)∘fun k=>t.length-1-k) k=some (t.reverse.getD k 0):=fun k hk=>by
   have hk:k<t.length:=by simpa using hk
   have h2:t.length-1-k<t.length:=by omega
   simp only [Function.comp_apply,List.getElem?_eq_getElem h2,List.getD_eq_getElem?_getD];rw [List.getElem?_reverse hk,List.getElem?_eq_getElem h2];rfl
  have e2:∀ l:List Nat,(∀ k∈l,((t[·]?)∘fun k=>t.length-1-k) k=some (t.reverse.getD k 0))->l.filterMap ((t[·]?)∘fun k=>t.length-1-k)=l.map fun k=>t.reverse.getD k 0:=fun l=>by
   induction l with
   | nil=>intro _;rfl
   | cons a l ih=>
    intro h;rw [List.filterMap_cons,h a (by simp),List.map_cons,ih fun k hk=>h k (by simp [hk])]
  rw [e2 _ this];refine List.ext_getElem (by simp) fun j h1 h2=>?_;simp at h1;simp [h1]
 unfold a1f;rw [if_neg (by decide)];simp only [Option.getD_some,picked_rev,e];rw [if_pos ⟨hz,by simpa using hz⟩,if_neg (fun q=>by rw [Bool.and_eq_true]at q;exact absurd q.1 (by decide))]
theorem mkS{o:Option M}{q:Option (Nat×Mu)}{r:Nat×Mu}{G:Prop}(h:(match o with | some (.obj [] (-1))=>q | _=>.none)=some r)(k1:o=some (.obj [] (-1))->q=some r->G):G:=by
 induction o using Option.casesOn with
 | none=>exact ns h
 | some m=>induction m using Mine.M.casesOn with
  | list _=>exact ns h
  | obj is n=>induction n using Int.casesOn with
   | ofNat _=>induction is using List.casesOn<;>exact ns h
   | negSucc m=>induction is using List.casesOn with
    | nil=>induction m using Nat.casesOn with
     | zero=>exact k1 rfl h
     | succ _=>exact ns h
    | cons a is=>exact ns h
theorem fl4{p:Addr->Prop}{a b c d:Addr}(h1:p a)(h2:p b)(h3:p c)(h4:p d):∀ x∈([[a,b,c,d]]:List (List Addr)).flatten,p x:=
 List.forall_mem_cons.mpr ⟨h1,List.forall_mem_cons.mpr ⟨h2,List.forall_mem_cons.mpr ⟨h3,List.forall_mem_cons.mpr ⟨h4,fun zz h=>nomatch h⟩⟩⟩⟩
theorem fl5{p:Addr->Prop}{e a b c d:Addr}(h0:p e)(h1:p a)(h2:p b)(h3:p c)(h4:p d):∀ x∈([[e]]++[[a,b,c,d]]:List (List Addr)).flatten,p x:=
 List.forall_mem_cons.mpr ⟨h0,fl4 h1 h2 h3 h4⟩
theorem b7o(S:Snd prog w (a1i B lm P) base Γ)(hoff:Γ.lexOn=false)(nd:∀(i j:Nat) (x:Str),Γ.tbl[i]?=some x->Γ.tbl[j]?=some x->i=j)(hbig:base.NoLimit)
  (hlist:∀ n t μ,t.length<=big->Γ.call n il [.str t] μ=some (.mut μ.length,μ++[.list (t.map fun c=>.str [c])])) (T:e3t base lm P Γ.tbl jt jl il) (hPoff:base.get? P=none)
  {t:List Nat} {ks:Nat} {μ':Mu} {tv:Value} {R:Result->Shared->Prop} (ht:a7h μ t=some (ks,μ')) (rm:Room A 11) (g:GR (a1i B lm P) base μ as s.heap) (rt:Rep s.heap as (.str t) tv)
  (hR:∀(L:Addr) (m':Str->Option Value) (as':List (List Addr)) (h':Heap) (tk:Nat) (F:Addr) (q:List Addr),GR (a1i B lm P) base μ' as' h'->Go as s.heap as' h'->as'[ks+1]?=some (F::q)->h'.Ns L m'->L∉as'.flatten->s.heap.get? L=none->(callEnvC T.fd s.heap.objs.size T.a).locals=L->m' "stream" = some (.ref F) →
   wpAny (model prog w) (A.deeper (callEnvC T.fd s.heap.objs.size T.a)) (execs T.rest (callEnvC T.fd s.heap.objs.size T.a)) (fun f s'=>R (.ok (.ret (match f with | .ret v=>v | _=>.none))) s')
    (fun e s'=>wpAny (model prog w) (A.deeper (callEnvC T.fd s.heap.objs.size T.a)) (leaving (callEnvC T.fd s.heap.objs.size T.a) e) (fun zz s''=>R (.error e) s'') (fun e' s''=>R (.error e') s'') s') { s with heap:=h',toks:=tk}) :
  codeAny (model prog w) A (.call (.ref T.a) ⟨[tv],[]⟩) R s:=by
 have hz:t.length<=big:=ifS ht fun hz zz=>hz;have rm':∀ env,Room (A.deeper env) 10:=fun env=>⟨rm.calm,by show A.depth+1+10<=900;have:=rm.depth;omega,by show A.units+3+10 * 10<=9000;have:=rm.units;omega⟩;have hkn:∀ x∈[("text":Str)],T.fd.scope.names.lookup x=some .local∨T.fd.scope.names.lookup x=some .cell:=fun x hx=>by rw [List.mem_singleton]at hx;subst hx;exact .inl T.ktext
 refine codeAny_call_cells (by have:=rm.depth;show A.depth<1000;omega) (g.keep _ _ T.at') T.data (hbig.keeps fun b o e=>g.keep b o e) (T.code.keeps fun b o e=>g.keep b o e) T.body (T.bind [tv] rfl) T.clos (fun x hx=>?_) (fun sI x=>?_) T.coro T.gen T.kind
 ·rcases hkn x.1 (List.of_mem_zip hx).1 with q | q
  ·exact .inl q
  ·exact .inr ⟨q,a2g _ _ _ q⟩
 obtain⟨hY,tkI,eI,hkeep⟩:=x.done;have gI:GR (a1i B lm P) base μ as sI.heap/\Go as s.heap as sI.heap:=g.all fun a o zz e=>x.toInCall.keep a o e;obtain⟨gI,goI⟩:=gI;have er:=b3k (tbl:=Γ.tbl) (names:=["text"]) (is:=[jt]) (args:=[.str t]) (vals:=[tv]) (a:=T.a) T.kind T.glob T.built T.nofree (by decide) (by simp only [a1o,T.text]) x rfl g (Reps.cons (rt.go goI) .nil)
 obtain⟨env,henv⟩:∃ env,env=callEnvC T.fd s.heap.objs.size T.a:=⟨_,rfl⟩;have hwf:∀ b,Wf Γ.tbl env b->s.heap.get? b=.none:=by
  intro b hb;have:s.heap.objs.size<=b:=by
   rw [henv]at hb;rcases hb with rfl | ⟨i,y,_,_,hc⟩
   ·exact x.toInCall.fresh
   ·exact Nat.le_of_lt (Nat.lt_of_le_of_lt x.toInCall.fresh (x.above _ _ (mem_of_lookup hc)))
  induction q:s.heap.get? b using Option.casesOn with
  | none=>rfl
  | some o=>exact absurd (Heap.lt_size q) (Nat.not_lt.mpr this)
 rw [← henv]at er hR ⊢;rw [eI];rw [eI]at gI er;obtain⟨mt,k,tr⟩:=T.tr;have hsc:env.scope=T.fd.scope:=by rw [henv];rfl
 rw [← hsc]at tr;have htext:([(jt,V.str t)]:Rho).lookup jt=some (.str t):=by simp [List.lookup]
 have step:a0e Γ 10 (.assign jl (.call il [.slc (.loc jt) .none .none (some (.neg (.cst (.int 1))))])) [(jt,.str t)] μ=some (.next,put jl (.mut μ.length) [(jt,.str t)],μ++[.list (chars t)]):=by
  have e:ev Γ 9 (.slc (.loc jt) .none .none (some (.neg (.cst (.int 1))))) [(jt,.str t)] μ=some (.str t.reverse,μ):=by
   simp only [e3f,e3b,e5w,d6n,e5p,c9z,d7o,e0r,d8r,c3m,d7k,c3c,c4n,c6a,c6b,b4z,c5i,htext,Option.map_some,evo,c3b,f4f,f2v,e4p,f4c,f4e,f3k,f1p,e9s];rw [c4s hz];rfl
  simp only [a9j,a9o,d3w,c6k,c2u,d1o,b9n,b4b];rw [show ev Γ 10 (.call il [.slc (.loc jt) .none .none (some (.neg (.cst (.int 1))))]) [(jt,.str t)] μ=Γ.call 9 il [.str t.reverse] μ from by
   show(match evs (fun x μ=>ev Γ 9 x [(jt,.str t)] μ) [.slc (.loc jt) .none .none (some (.neg (.cst (.int 1))))] μ with | some (vs,μ)=>Γ.call 9 il vs μ | .none=>.none)=_
   simp only [evs,e]]
  rw [hlist 9 t.reverse μ (by simpa using hz)];rfl
 refine wpAny_execs_cons (b7k S nd (e7i hoff 10) (a6j S nd (e7i hoff) 10) tr (by rw [hsc];exact T.own) (by rw [henv];exact T.calm _) (rm' env) ⟨fun zz q=>q,fun zz q=>q,fun zz q=>q⟩ er gI step fun fl asJ hJ tkJ gJ erJ gsJ fr=>?_);induction fl using PySem.Flow.casesOn<;>try exact fr.elim
 refine e7e fun G0 hG=>?_;have hkl:env.kindOf "letters" = some .cell:=by rw [henv];exact T.kletters
 obtain⟨LC,u,hLC,hLCo,hLCb,hcell,hval⟩:=erJ.cel jl "letters" (a0n T.letters) (.inl hkl)
 obtain⟨u',rfl,hu⟩:=hval (.mut μ.length) (by rw [a0b,if_pos rfl]);obtain⟨LL,q1,hLL,rfl⟩:=hu;obtain⟨m,hns,_⟩:=erJ.loc;have oL:Off base asJ hJ env.locals:=⟨erJ.off.1,erJ.off.2,Ns.get hns⟩;have oC:Off base asJ hJ LC:=⟨hLCo,hLCb,by obtain⟨oc,e,hd⟩:=hcell;exact⟨oc,e,fun zz zz q=>by rw [hd]at q;cases q⟩⟩;have hLCL:LC≠env.locals:=fun q=>by
  obtain⟨oc,e,hd⟩:=hcell;obtain⟨o,es,ep,e1,e2,_⟩:=hns;rw [q,e1]at e;cases e;rw [e2]at hd;cases hd
 have V:c5l base lm P T.mg env:=⟨erJ.kind,erJ.glob,by rw [henv];exact T.head,T.g,T.b,hPoff,by rw [henv];exact T.kstream,by rw [henv];exact T.qual⟩;have hL0:s.heap.get? env.locals=none:=hwf _ (.inl rfl);have hC0:s.heap.get? LC=none:=hwf _ (.inr ⟨jl,"letters",a0n T.letters,.inl hkl,hLC⟩)
 obtain⟨nw,hnw,hnwf⟩:=gsJ.ext;have goAll:∀ {as':List (List Addr)} {h':Heap} {nw2:List (List Addr)} {F FD G cG:Addr} {μ'':Mu},GR (a1i B lm P) base μ'' as' h'->e7j lm P env.locals LC m hJ h' F FD G cG->as[1]?=some [P]->as'=asJ++nw2->(∀ a∈nw2.flatten,hJ.get? a=none∨a=LC)->Go as s.heap as' h':=by
  intro as' h' nw2 F FD G cG μ'' g' MD hP ha hn;have hPt:P∈as.tail.flatten:=List.mem_flatten.mpr ⟨[P],by
   have:as.tail[0]?=some [P]:=by rw [List.getElem?_tail];exact hP
   exact List.mem_of_getElem? this,by simp⟩
  have keep2:∀ a o,a∉as.tail.flatten->s.heap.get? a=some o->hJ.get? a=some o:=fun a o ha e=>
   gsJ.keep a o ha (fun q=>by rw [hwf a q]at e;exact ns e) (by have:=x.toInCall.keep a o e;rw [eI]at this;exact this)
  refine⟨⟨nw++nw2,by rw [ha,hnw,List.append_assoc],fun a ha=>?_⟩,fun a o ha e=>?_,g'.alive⟩
  ·rw [List.flatten_append,List.mem_append]at ha
   rcases ha with ha | ha
   ·induction q:s.heap.get? a using Option.casesOn with
    | none=>rfl
    | some o=>have:=hnwf a ha;have k:=x.toInCall.keep a o q;rw [eI]at k;simp only at this;rw [k]at this;cases this
   ·rcases hn a ha with hn | hn
    ·induction q:s.heap.get? a using Option.casesOn with
     | none=>rfl
     | some o=>
      by_cases hin:a∈as.tail.flatten
      ·obtain⟨o',e'⟩:=gJ.alive a (by rw [hnw,List.flatten_append];exact List.mem_append_left _ (a4l hin))
       rw [hn]at e';exact ns e'
      ·rw [keep2 a o hin q]at hn;cases hn
    ·rw [hn];exact hC0
  ·exact MD.same a o (fun q=>by rw [q,hL0]at e;exact ns e) (fun q=>ha (q▸hPt)) (keep2 a o ha e)
 have hlen2:asJ.length=μ.length+2:=by rw [gJ.len];simp
 have hLoff:∀ {as':List (List Addr)} {nw2:List (List Addr)},as'=asJ++nw2->(∀ a∈nw2.flatten,hJ.get? a=none∨a=LC)->env.locals∉as'.flatten:=by
  intro as' nw2 ha hn q;rw [ha,List.flatten_append,List.mem_append]at q;rcases q with q | q
  ·exact oL.1 q
  ·rcases hn _ q with hn | hn
   ·obtain⟨o,es,ep,e1,_⟩:=hns
    rw [hn]at e1;exact ns e1
   ·exact hLCL hn.symm
 refine mkS (o:=μ[0]?) ((if_pos hz).symm.trans ht) (fun h0 ht=>sp ht ?_)<;>clear ht
 ·intro e1 e2
  have h0':(μ++[Mine.M.list (chars t)])[0]?=some (.obj [] (-1)):=by rw [List.getElem?_append_left (List.getElem?_eq_some_iff.mp h0).1];exact h0
  obtain⟨hP1,rs,_,hT⟩:=b9v gJ h0' (.inl rfl);have hPs:as[1]?=some [P]:=(b9v g h0 (.inl rfl)).1;have htab:hJ.get? P=some (tabObj #[]):=by
   rcases hT.2 with⟨_,z⟩ | z | ⟨z,_⟩
   ·exact z
   ·exact absurd z (by decide)
   ·exact absurd z (by decide)
  refine hG ?_;refine c2c (s:={ s with heap:=hJ,toks:=tkJ}) (m:=m) T.src V gJ.keep hns oL.2.1 hLC htab fun h' tk F FD G cG c1 MD hP' hcGn hcode hcGd=>?_;have hg:=c1j gJ h0' MD hP' hcGn hcode hcGd hcell oL oC hLCL hLL;have hnn:=fl5 (p:=fun a=>hJ.get? a=none∨a=LC) (.inl hcGn) (.inl MD.newF) (.inl MD.newFD) (.inl MD.newG) (.inr rfl);have eμ:List.set (μ++[Mine.M.list (chars t)]) 0 (.obj [List.length (μ++[Mine.M.list (chars t)])] (-5))++[Mine.M.obj [] (-6)]++[Mine.M.obj [μ.length,List.length (μ++[Mine.M.list (chars t)])] (-3)]=μ.set 0 (.obj [μ.length+1] (-5))++[.list (chars t),.obj [] (-6),.obj [μ.length,μ.length+1] (-3)]:=by
   rw [List.set_append_left _ _ (List.getElem?_eq_some_iff.mp h0).1];simp
  obtain⟨m',hn',hs'⟩:=MD.ns;refine hR env.locals m' _ h' tk F [FD,G,LC] ((eμ.trans e2)▸hg) (goAll hg MD hPs (List.append_assoc _ _ _) hnn) ?_ hn' (hLoff (List.append_assoc _ _ _) hnn) hL0 rfl hs';rw [← e1,List.getElem?_append_right (by simp [hlen2]),List.length_append,hlen2];simp
end
end
section
section
variable{prog:Program}{w:World}{base:Heap}{B:LB base}{lm:LamT}{P:Addr}{Γ:G}{μ:Mu}{as:List (List Addr)}{A:Around}{E:Value->Shared->Prop}{s:Shared}{jt jl il:Nat}
theorem c3z(S:Snd prog w (a1i B lm P) base Γ)(hoff:Γ.lexOn=false)(nd:∀(i j:Nat) (x:Str),Γ.tbl[i]?=some x->Γ.tbl[j]?=some x->i=j)(hbig:base.NoLimit)
  (hlist:∀ n t μ,t.length<=big->Γ.call n il [.str t] μ=some (.mut μ.length,μ++[.list (t.map fun c=>.str [c])])) (T:e3t base lm P Γ.tbl jt jl il) (hPoff:base.get? P=none)
  {p q:Pos} (hrest:T.rest=[.Return (some (.Name "stream" p)) q]) {t:List Nat} {ks:Nat} {μ':Mu} (ht:a7h μ t=some (ks,μ')):CodeOK prog w (a1i B lm P) base 11 (.ref T.a) [.str t] μ (.mut ks) μ':=by
 intro A R s as vs rm g ra hQ;obtain⟨tv,r,rfl,rt,rfl⟩:=ra;refine b7o S hoff nd hbig hlist T hPoff ht rm g rt fun L m' as' h' tk F q g' go' hF hn zz zz hL hs=>?_;rw [hrest];refine wpAny_execs_cons (wpAny_Return_some (wpAny_Name (wpAny_loadName_local (m:=m') (by exact T.kind) (by exact T.kstream) (by rw [hL];exact hn) hs ?_) (by decide)));exact hQ _ as' h' tk g' go' (⟨F,q,hF,rfl⟩)
noncomputable def a9n:List Str:=["lineno","instream","whitespace","pushback"]
structure LexH(C:Addr)(h:Heap)(X D:Addr)(mA:Str->Option Value):Prop where
 obj:∃ o,h.get? X=some o/\o.cls=.ref C/\(∀ c,o.data≠.cls c)/\o.dict=some D/\∀ xs n,o.data≠.seq xs n
 ne:D≠X
 ns:h.Ns1 D mA
 few:∀ y,mA y≠none->y∈a9n
theorem LexH.inst{C X D:Addr}{h:Heap}{mA:Str->Option Value}(x:LexH C h X D mA):h.Inst X C mA:=
 let⟨o,a,b,c,d,_⟩:=x.obj;⟨o,a,b,c,.inr ⟨D,d,x.ne,x.ns⟩⟩
theorem a6h {X D:Addr} {mA:Str->Option Value} {name:Str} {v:Value} {Q:Unit->Shared->Prop} (hname:name = "lineno" ∨ name = "instream" ∨ name = "whitespace" ∨ name = "pushback") (kp:∀ a o,base.get? a=some o->s.heap.get? a=some o) (x:LexH B.C s.heap X D mA) (hXC:X≠B.C)
  (hq:∀ h' tk,LexH B.C h' X D (fun y=>if y=name then some v else mA y)->(∀ b o,b≠X->b≠D->s.heap.get? b=some o->h'.get? b=some o)->Q () { s with heap:=h',toks:=tk}):wpAny (model prog w) A (setAttr (.ref X) name v) Q E s:=by
 obtain⟨hC⟩:=B.cls;obtain⟨o,hX,hc,hnc,hd,hsq⟩:=x.obj;have hin:name∈a9n:=by unfold a9n;rcases hname with rfl | rfl | rfl | rfl<;>simp
 refine store_attr PySem.F.store_object (kp _ _ hC) (Ns.keep B.ns kp) B.nsa (B.own _ hname) (c5b _ (by rcases hname with h | h | h | h<;>simp [h])) hXC x.inst (fun h' tk' I' hk' hsame=>?_) (ns:=a9n) x.few (by decide)
 obtain⟨oI,hoI,hcI,hdI,_,hdd⟩:=hsame o hX;have hdo:=hdd D hd;refine hq h' tk' ⟨⟨oI,hoI,by rw [hcI,hc],by rw [hdI];exact hnc,hdo,by rw [hdI];exact hsq⟩,x.ne,?_,fun y hy=>?_⟩ fun b ob h1 h2 e=>hk' b ob h1 (fun oO dx e0 e1=>?_) e
 ·obtain⟨o',h1,h2,h3,h4⟩:=I'
  rw [hoI]at h1;obtain rfl:=Option.some.inj h1;rcases h4 with⟨q,_⟩ | ⟨d,q1,q2,q3⟩
  ·rw [hdo]at q;cases q
  ·rw [hdo]at q1;obtain rfl:=Option.some.inj q1;exact q3
 ·by_cases hy':y=name
  ·rw [hy'];exact hin
  ·exact x.few y (by simpa [hy']using hy)
 ·rw [hX]at e0;obtain rfl:=Option.some.inj e0
  rw [hd]at e1;obtain rfl:=Option.some.inj e1;exact h2
end
end
section
structure b0y{base:Heap}(B:LB base) where
 fi:Addr
 o:Obj
 fd:FuncData
 pos:Nat->Pos
 kd:Nat->Nat
 at':base.get? fi=some o
 cls:o.cls=.type "function"
 data:o.data=.func fd
 code:base.CodeRec fd.code fd.qualname
 body:fd.body=.stmts [.Assign [.Attribute (.Name "self" (pos 0)) "lineno" (pos 1)] (.Constant (.int 1) (kd 0) (pos 2)) (pos 3),
  .Assign [.Attribute (.Name "self" (pos 4)) "instream" (pos 5)] (.Name "fp" (pos 6)) (pos 7),
  .Assign [.Attribute (.Name "self" (pos 8)) "whitespace" (pos 9)] (.Constant (.str (txt ws)) (kd 1) (pos 10)) (pos 11),
  .Assign [.Attribute (.Name "self" (pos 12)) "pushback" (pos 13)] (.List [] (pos 14)) (pos 15)]
 clos:fd.closure=[]
 coro:fd.scope.isCoroutine=false
 gen:fd.scope.isGenerator=false
 kind:fd.scope.kind=.function
 bind:∀ a b:Value,bindArgs fd ⟨[a,b],[]⟩=pure [(("self":Str),a),(("fp":Str),b)]
 kself:fd.scope.names.lookup ("self":Str)=some NameKind.local
 kfp:fd.scope.names.lookup ("fp":Str)=some NameKind.local
 init:B.mN "__init__" = some (.ref fi)
theorem neA{a b:Addr}(h:@Ne Nat a b):a≠b:=h
theorem c2v:typeLookup (.type "object") "__init__" = pure (some (.builtin "object.__init__")):=by rw [typeLookup_type,builtinLookup_eq_fast];kernel_rfl
section
variable{prog:Program}{w:World}{base:Heap}{B:LB base}{lm:LamT}{P:Addr}{Γ:G}{μ:Mu}{as:List (List Addr)}{A:Around}{E:Value->Shared->Prop}{s:Shared}
theorem Makes.keep{h h':Heap}{C:Addr}(Y:Makes (model prog w) h C)(k:∀ b o,h.get? b=some o->h'.get? b=some o):Makes (model prog w) h' C where
 obj:=let⟨oc,od,cd,sl,e,r⟩:=Y.obj;⟨oc,od,cd,sl,k _ _ e,r⟩
 made:=Y.made.keeps k
 base:=Y.base.keeps k
 self:=Y.self.keeps k
 top:=Y.top.keeps k
 call:=Y.call.keeps k
 typ:=Y.typ.keeps k
theorem c7k (I:b0y B) {h:Heap} (k:∀ b o,base.get? b=some o->h.get? b=some o):Looks (model prog w) h (typeLookup (.ref B.C) "__init__") (some (.ref I.fi)):=by
 intro A Q E s ks q;obtain⟨hC⟩:=B.cls;obtain⟨hh,g,d,t,os⟩:=s;refine wpAny_typeLookup_exc (ks _ _ (k _ _ hC)) (Ns.keep (Ns.keep B.ns k) ks) F.mro_object c2v ?_;rw [I.init];exact q
theorem c7v(I:b0y B){h:Heap}(k:∀ b o,base.get? b=some o->h.get? b=some o)(self:Value):Looks (model prog w) h (bindSpecial (.ref I.fi) self) (.ref I.fi,[self]):=by
 have ht:Looks (model prog w) h (typeOf (.ref I.fi)) (.type "function"):=by
  rw [← I.cls];exact(Looks.ld (k _ _ I.at')).andThen .now
 unfold bindSpecial;exact ht.andThen (Looks.of_pure (by kernel_rfl))
theorem b7w{h h':Heap}{X D L:Addr}{m:Str->Option Value}(hns:h.Ns L m)(h1:L≠X)(h2:L≠D)(s:∀ b o,b≠X->b≠D->h.get? b=some o->h'.get? b=some o):h'.Ns L m:=by
 obtain⟨o,es,ep,e,r⟩:=hns;exact⟨o,es,ep,s _ _ h1 h2 e,r⟩
theorem b7i{h h':Heap}{n:Nat}(hbn:∀ a:Nat,n<=a->base.get? a=none)(s:∀ b o,b≠n+1->b≠n->h.get? b=some o->h'.get? b=some o)(kb:∀ b o,base.get? b=some o->h.get? b=some o):∀ b o,base.get? b=some o->h'.get? b=some o:=fun b o e=>
 s b o (fun q=>ns ((hbn _ (Nat.le_succ n)).symm.trans (q▸e))) (fun q=>ns ((hbn _ (Nat.le_refl n)).symm.trans (q▸e))) (kb b o e)
theorem d3e(Y:Makes (model prog w) base B.C)(I:b0y B)(hbig:base.NoLimit){ks kl kc:Nat}{v:Value}{R:Result->Shared->Prop}(hd:A.depth<990)(hh:A.handled=.none)(g:GR (a1i B lm P) base μ as s.heap)(hs:μ[ks]?=some (.obj [kl,kc] (-3)))(rv:Rep s.heap as (.mut ks) v)
  (hQ:Post (a1i B lm P) base as s (.mut (μ.length+1)) (μ++b2a μ.length ks) fun v s'=>R (.ok (.ret v)) s') :
  codeAny (model prog w) A (.call (.ref B.C) ⟨[v],[]⟩) R s:=by
 obtain⟨h,gg,d,t,os⟩:=s;obtain⟨F,qF,hF,rfl⟩:=rv;have kp:=g.keep;refine make_core (Mine.Makes.keep Y kp) (c7k I kp) (fun self=>c7v I kp self) (.inl rfl) ?_;have k1:∀ b o,h.get? b=some o->((h.push emptyDict).push (instObj B.C h.objs.size)).get? b=some o:=fun b o e=>Heap.get?_push_of_some _ (Heap.get?_push_of_some _ e);have hx:((h.push emptyDict).push (instObj B.C h.objs.size)).get? (h.objs.size+1)=some (instObj B.C h.objs.size):=by
  have:(h.push emptyDict).objs.size=h.objs.size+1:=by simp [Heap.push]
  rw [← this];exact Heap.get?_push_size _ rfl
 have hdx:((h.push emptyDict).push (instObj B.C h.objs.size)).get? h.objs.size=some emptyDict:=Heap.get?_push_of_some _ (Heap.get?_push_size _ rfl);have hsz1:((h.push emptyDict).push (instObj B.C h.objs.size)).objs.size=h.objs.size+2:=by simp [Heap.push]
 generalize hh1:(h.push emptyDict).push (instObj B.C h.objs.size)=h1 at k1 hx hdx hsz1 ⊢;have kb:∀ b o,base.get? b=some o->h1.get? b=some o:=fun b o e=>k1 b o (kp b o e);refine codeAny_call_cells (s:=⟨h1,gg,d,t,os⟩) (by rw [depth_under_make];show A.depth+1<1000;omega) (kb _ _ I.at') I.data (hbig.keeps kb) (I.code.keeps kb) I.body (I.bind _ _) I.clos (fun x hx=>?_) (fun sI x=>?_) I.coro I.gen I.kind
 ·simp only [List.mem_cons,List.not_mem_nil,or_false]at hx
  rcases hx with rfl | rfl
  ·exact .inl I.kself
  ·exact .inl I.kfp
 obtain⟨env,henv⟩:∃ env,env=callEnvC I.fd h1.objs.size I.fi:=⟨_,rfl⟩;have kE:env.scope.kind=.function:=by rw [henv];exact I.kind
 have kS:env.kindOf "self" = some .local:=by rw [henv];exact I.kself
 have kF:env.kindOf "fp" = some .local:=by rw [henv];exact I.kfp
 obtain⟨h2,tk2,e2,_⟩:=x.done;have k2:∀ b o,h1.get? b=some o->h2.get? b=some o:=fun b o e=>by have:=x.toInCall.keep b o e;rw [e2]at this;exact this
 have hns:=x.toInCall.ns;have hLf:h1.objs.size<=(callEnvC I.fd h1.objs.size I.fi).locals:=x.toInCall.fresh;obtain⟨mL,hmL⟩:∃ mL,mL=bindL (callEnvC I.fd h1.objs.size I.fi).kindOf [(("self":Str),Value.ref (h.objs.size+1)),(("fp":Str),.ref F)] fun zz=>none:=⟨_,rfl⟩
 have ms:mL "self" = some (.ref (h.objs.size+1)):=by rw [hmL];exact b0e _ I.kself _ _ (by simp;decide) (by simp)
 have mf:mL "fp" = some (.ref F):=by rw [hmL];exact b0e _ I.kfp _ _ (by simp;decide) (by simp)
 rw [← henv]at hLf ⊢;rw [← hmL,← henv]at hns;rw [e2]at hns ⊢;clear x e2;have hns:h2.Ns env.locals mL:=hns;have hLf:@LE.le Nat _ h1.objs.size env.locals:=hLf;have hXC:@Ne Nat (h.objs.size+1) B.C:=fun q=>by
  obtain⟨hC⟩:=B.cls;have:@LT.lt Nat _ B.C h.objs.size:=Heap.lt_size (kp _ _ hC);omega
 have L0:LexH B.C h2 (h.objs.size+1) h.objs.size fun zz=>none:=by
  refine⟨⟨_,k2 _ _ hx,rfl,(fun c q=>by cases q),rfl,fun xs n q=>by cases q⟩,(show @Ne Nat h.objs.size (h.objs.size+1) by omega),?_,fun y hy=>absurd rfl hy⟩;exact Heap.Ns1.of_empty ⟨_,#[],_,k2 _ _ hdx,rfl,fun e he=>absurd he (by simp),fun zz=>rfl⟩
 have hLX:@Ne Nat env.locals (h.objs.size+1):=by omega
 have hLD:@Ne Nat env.locals h.objs.size:=by omega
 have kb2:∀ b o,base.get? b=some o->h2.get? b=some o:=fun b o e=>k2 b o (kb b o e);have hbn:∀ a:Nat,h.objs.size<=a->base.get? a=none:=fun a ha=>by
  induction q:base.get? a using Option.casesOn with
  | none=>rfl
  | some o=>have:@LT.lt Nat _ a h.objs.size:=Heap.lt_size (kp _ _ q);omega
 have self:∀ {h':Heap} {tk:Nat} {p:Pos} {E':Value->Shared->Prop} {Q':Value->Shared->Prop} {A':Around},h'.Ns env.locals mL->Q' (.ref (h.objs.size+1)) ⟨h',gg,d,tk,os⟩->wpAny (model prog w) A' (eval (.Name "self" p) env) Q' E' ⟨h',gg,d,tk,os⟩:=fun hn hq=>
  wpAny_Name (wpAny_loadName_local kE kS hn ms hq) (by decide)
 refine wpAny_execs_cons (plainObj_wpAny_Assign_Attribute (wpAny_Constant_int (self hns ?_)) rfl);refine a6h (s:=⟨h2,gg,d,_,os⟩) (B:=B) (.inl rfl) kb2 L0 hXC fun h3 tk3 L3 s3=>?_;have hns3:h3.Ns env.locals mL:=b7w hns hLX hLD s3;have kb3:=b7i hbn s3 kb2;refine wpAny_execs_cons (plainObj_wpAny_Assign_Attribute (wpAny_Name (wpAny_loadName_local kE kF hns3 mf (self hns3 ?_)) (by decide)) rfl);refine a6h (s:=⟨h3,gg,d,_,os⟩) (B:=B) (.inr (.inl rfl)) kb3 L3 hXC fun h4 tk4 L4 s4=>?_;have hns4:h4.Ns env.locals mL:=b7w hns3 hLX hLD s4;have kb4:=b7i hbn s4 kb3;refine wpAny_execs_cons (plainObj_wpAny_Assign_Attribute (wpAny_Constant_str (self hns4 ?_)) rfl);refine a6h (s:=⟨h4,gg,d,_,os⟩) (B:=B) (.inr (.inr (.inl rfl))) kb4 L4 hXC fun h5 tk5 L5 s5=>?_;have hns5:h5.Ns env.locals mL:=b7w hns4 hLX hLD s5;have kb5:=b7i hbn s5 kb4;refine wpAny_execs_cons (plainObj_wpAny_Assign_Attribute (wpAny_List_spliced (wpAny_items_nil ⟨by rw [sizeLine_eq];simp,?_⟩)) rfl);have hns6:(h5.push { cls:=.type "list",data:=.seq ([]:List Value).toArray}).Ns env.locals mL:=Ns.keep hns5 fun b o e=>Heap.get?_push_of_some _ e
 refine self hns6 ?_;generalize hm5:(fun y=>if y=Str.ofString "whitespace" then _ else _:Str->Option Value)=m5 at L5
 have L6:LexH B.C (h5.push { cls:=.type "list",data:=.seq ([]:List Value).toArray}) (h.objs.size+1) h.objs.size m5:=by
  obtain⟨o,e,r⟩:=L5.obj;exact⟨⟨o,Heap.get?_push_of_some _ e,r⟩,L5.ne,L5.ns.at (fun o e=>Heap.get?_push_of_some _ e),L5.few⟩
 refine a6h (s:=⟨h5.push { cls:=.type "list",data:=.seq ([]:List Value).toArray},gg,d,_,os⟩) (B:=B) (name:="pushback") (.inr (.inr (.inr rfl))) (fun b o e=>Heap.get?_push_of_some _ (kb5 b o e)) L6 hXC fun h7 tk7 L7 s7=>?_
 refine wpAny_execs_nil ⟨rfl,e7e fun G0 hG=>?_⟩;have hX5:@LT.lt Nat _ (h.objs.size+1) h5.objs.size:=by obtain⟨o,e,_⟩:=L5.obj;exact Heap.lt_size e
 obtain⟨PB,hPB⟩:∃ PB:Nat,PB=h5.objs.size:=⟨_,rfl⟩;have hp6:(h5.push { cls:=.type "list",data:=.seq ([]:List Value).toArray}).get? PB=some { cls:=.type "list",data:=.seq ([]:List Value).toArray}:=by rw [hPB];exact Heap.get?_push_size _ rfl
 have hp7:=s7 _ _ (neA (by omega)) (neA (by omega)) hp6;have kall:∀ b o,h.get? b=some o->h7.get? b=some o:=fun b o e=>by
  have h1':@Ne Nat b (h.objs.size+1):=by have:@LT.lt Nat _ b h.objs.size:=Heap.lt_size e;omega
  have h2':@Ne Nat b h.objs.size:=by have:@LT.lt Nat _ b h.objs.size:=Heap.lt_size e;omega
  exact s7 b o h1' h2' (Heap.get?_push_of_some _ (s5 b o h1' h2' (s4 b o h1' h2' (s3 b o h1' h2' (k2 b o (k1 b o e))))))
 have hnone:∀ a:Nat,h.objs.size<=a->h.get? a=none:=fun a ha=>by
  induction q:h.get? a using Option.casesOn with
  | none=>rfl
  | some o=>have:@LT.lt Nat _ a h.objs.size:=Heap.lt_size q;omega
 obtain⟨g1,go1⟩:=g.new (h':=h7) (ads:=[PB]) (m:=.list []) kall (fun a ha=>by simp only [List.mem_singleton]at ha;subst ha;exact hnone _ (by omega)) (by simp)
  (fun a ha=>by simp only [List.mem_singleton]at ha;subst ha;exact⟨_,hp7⟩) ⟨PB,[],rfl,⟨0,hp7⟩,.nil⟩
 have off:∀ a:Nat,h.objs.size<=a->a≠PB->a∉(as++[[PB]]).flatten/\base.get? a=none:=fun a ha hne=>⟨fun q=>by
  rw [List.flatten_append,List.mem_append]at q;rcases q with q | q
  ·obtain⟨o,e⟩:=g.alive a q
   have:@LT.lt Nat _ a h.objs.size:=Heap.lt_size e;omega
  ·exact hne (by simpa using q),hbn a ha⟩
 obtain⟨oX,eX,hcX,hncX,hdX,hXk⟩:=L7.obj;have hDk:∃ o,h7.get? h.objs.size=some o/\∀ xs n,o.data≠.seq xs n:=Ns.get L7.ns.ns;have g2:GR (a1i B lm P) base _ _ h7:=g1.adopt (ads:=[h.objs.size+1,h.objs.size]) (m:=.obj [μ.length,ks] 1) (fun a ha=>by
   simp only [List.mem_cons,List.not_mem_nil,or_false]at ha;rcases ha with rfl | rfl
   ·exact⟨(off _ (by omega) (by omega)).1,hbn _ (by omega),oX,eX,hXk⟩
   ·exact⟨(off _ (by omega) (by omega)).1,hbn _ (by omega),hDk⟩) (by simp) ⟨[PB,F],by
   have e1:(as++[[PB]]++[[h.objs.size+1,h.objs.size]])[μ.length+1]?=some [PB]:=by
    rw [List.append_assoc,List.getElem?_append_right (by rw [g.len];omega),g.len];simp
   have e2:(as++[[PB]]++[[h.objs.size+1,h.objs.size]])[ks+1]?=some (F::qF):=by
    rw [List.append_assoc,List.getElem?_append_left (List.getElem?_eq_some_iff.mp hF).1];exact hF
   exact a4s (by rw [e1];rfl) (a4s (by rw [e2];rfl) rfl),.inl ⟨by omega,h.objs.size+1,h.objs.size,PB,F,oX,_,rfl,rfl,eX,hcX,hncX,hdX,neA (by omega),L7.ns,?_⟩⟩
 have eμ:μ++[Mine.M.list []]++[Mine.M.obj [μ.length,ks] 1]=μ++b2a μ.length ks:=List.append_assoc _ _ _
 rotate_left
 ·subst hm5
  refine⟨⟨_,(if_neg (by decide)).trans ((if_neg (by decide)).trans ((if_neg (by decide)).trans (if_pos rfl)))⟩,(if_neg (by decide)).trans ((if_neg (by decide)).trans (if_pos rfl)),⟨_,(if_neg (by decide)).trans (if_pos rfl)⟩,?_,fun y y1 y2 y3 y4=>?_⟩
  ·dsimp only;rw [if_pos rfl,hPB]
  ·dsimp only;rw [if_neg y4,if_neg y3,if_neg y2,if_neg y1]
 refine hG (hQ (.ref (h.objs.size+1)) _ h7 tk7 (eμ▸g2) ⟨⟨[[PB],[h.objs.size+1,h.objs.size]],by simp,fun a ha=>?_⟩,fun b o zz e=>kall b o e,g2.alive⟩ ?_)
 ·simp only [List.flatten_cons,List.flatten_nil,List.append_nil,List.cons_append,List.nil_append,List.mem_cons,List.not_mem_nil,or_false]at ha
  rcases ha with rfl | rfl | rfl<;>exact hnone _ (by omega)
 ·refine⟨h.objs.size+1,[h.objs.size],?_,rfl⟩
  rw [List.getElem?_append_right (by rw [List.length_append,g.len];simp),List.length_append,g.len];simp
end
end
section
section
variable{prog:Program}{w:World}{base:Heap}{B:LB base}{lm:LamT}{P:Addr}{Γ ΓO:G}{μ:Mu}{as:List (List Addr)}{A:Around}{E:Value->Shared->Prop}{s:Shared}
structure a6a(prog:Program)(w:World){base:Heap}(B:LB base)(lm:LamT)(P:Addr)(ΓO:G) where
 snd:Snd prog w (a1i B lm P) base ΓO
 off:ΓO.lexOn=false
 nd:∀(i j:Nat) (x:Str),ΓO.tbl[i]?=some x->ΓO.tbl[j]?=some x->i=j
 lam:b7f lm
 nolimit:base.NoLimit
 js:Nat
 jc:Nat
 rd:e1n B ΓO.tbl js jc
 rdcls:rd.o.cls=.type "function"
 iter:a1e prog w base "iter" (.builtin "iter")
 lexer:a1e prog w base "_netrclex" (.ref B.C)
 cls:ClsAt base B.C B.N B.mN
 makes:Makes (model prog w) base B.C
 init:b0y B
theorem e2v(L:a6a prog w B lm P ΓO)(S:Snd prog w (a1i B lm P) base Γ)(nd:∀(i j:Nat) (x:Str),Γ.tbl[i]?=some x->Γ.tbl[j]?=some x->i=j)(n:Nat):c4k prog w (a1i B lm P) base Γ n:=by
 intro k e v y A E env ρ μ as s ks kl kc μ' Q hv ty rm c er g hy hks hQ;refine c5a hv fun p1 p2 ev hg hpl=>?_;subst ev;refine wpAny_Call_ofName (a3z (Γ:=Γ) (sc:=env.scope) (by decide) hg ⟨fun zz q=>q,fun zz q=>q,fun zz q=>q⟩ er g L.lexer ?_);refine callWith_cls (h₀:=base) L.cls ?_ (a2m hpl) rfl;refine wpAny_items_cons ((a3m S nd n).1 y k env.scope e ty A E env ρ μ as s (.mut ks) μ' _ rm c er g hy fun u asI hY tk gI goI ru=>?_) (a2m hpl);refine wpAny_items_nil ⟨gI.keep,wpAny_call (d3e (s:={ s with heap:=hY,toks:=tk}) L.makes L.init L.nolimit (by have:=rm.depth;omega) rm.calm gI hks ru fun v' as' h' tk' g' go' r'=>?_)⟩;exact hQ v' as' h' tk' g' (goI.trans go') r'
theorem c7s(L:a6a prog w B lm P ΓO)(S:Snd prog w (a1i B lm P) base Γ)(nd:∀(i j:Nat) (x:Str),Γ.tbl[i]?=some x->Γ.tbl[j]?=some x->i=j)(n:Nat):a5q prog w (a1i B lm P) base Γ n where
 new:=fun zz zz=>e2v L S nd n
 fit:=fun v y j k kp ks m A E env ρ μ as s Q zz zz hv hy hρ hk hm rm er g hQ=>e4u (n:=n) L.iter L.rd.at' L.rdcls hv hy hρ hk hm er g hQ
 line:=fun x a p q r c kd j k is m A E env ρ μ as s Q h1 h2 h3 h4 h5 h6 h7 h8 rm er g hQ=>c8c h1 h2 h3 h4 h5 h6 h7 h8 er g hQ
 draw:=fun A E s as μ μ' k a q r Q zz hn rm g ha h hQ=>e1b L.snd L.off L.nd L.lam L.nolimit L.rd (rm.less hn) g ha h hQ
 self:=fun A E s as μ k a q is m Q zz g ha hk hm h=>d7h g ha hk hm h
 lets:=fun A E s as μ k a q is m tg v Q zz g ha hk hm ht h=>d9a g ha hk hm ht h
end
end
section
noncomputable def tblA:List Str:=(["len","sum","sorted","max","min","int","list","split","join","count","append","pop","range","enumerate","zip","iter","self","ch","text","letters","stream","_read_char","get_token","push_token","pushback","whitespace","lineno","EXACT_TOKEN_TYPES","NT_OFFSET","ENDMARKER","ONE_THIRD","ONE_SIXTH","TWO_THIRD","_netrclex","_law_stream","tuple","isinstance","abs","chr","index","find","_law_lexer",".0","ISTERMINAL","x","ISNONTERMINAL","ISEOF","rgb_to_hls","r","g","b","maxc","minc","sumc","rangec","l","s","rc","gc","bc","h","hls_to_rgb","m2","m1","_v","hue","rgb_to_hsv","v","hsv_to_rgb","i","f","p","q","t","__init__","fp","instream","read","token","fiter","_law_signs","_law_written","word","number","gap","dressed","sign","_law_taken","lexer","move","row","turn","symbol","kinds","answer","_law_place","paint","share","level","colour","told","due","fine","part","_law_run","order","moves","signs","rows","allowed","places","k","may","mover","fresh","_law_twin","cells","last","law","script","numbers","state","dress","base","size","words","cell","calm","many","first","before","_law_kinds","_law_pack","end","pack","_law_riffled","dealt","bits","lines","riffled","side","wheel","_law_answers","fits","fit","_law_plain","sides","_law_drawn","left","drawn","card","least","packs","cut","_law_symbol","_law_deed","_law_told","step","_law_turns","hues","thirds","third","coming","turns","symbols","now","spot","so","near","one","_law_due","names","heights","lap","place","steps","best","name","far","high","marks","start","deeds","deed","fires","ahead","_law_tree","nodes","_law_words","node","bare","_law_pile","counts","pile","found","_law_ears","hand","cuts","behind","_law_paints","ends","value","paints","mix","two","again","_law_frieze","ring","pairs","low","j","shape","ways","corner","way"]:List String).map Str.ofString
noncomputable def P_ISTERMINAL:List Nat:=[44]
noncomputable def a2p:List S:=[.ret (.cmp .Lt (.loc 44) (.glb 28))]
noncomputable def a2c:List Nat:=[44]
noncomputable def a2f:List S:=[.ret (.cmp .GtE (.loc 44) (.glb 28))]
noncomputable def b3j:List Nat:=[44]
noncomputable def b3r:List S:=[.ret (.cmp .Eq (.loc 44) (.glb 29))]
noncomputable def a3t:List Nat:=[48,49,50]
noncomputable def a2q:List S:=[.assign 51 (.call 3 [(.loc 48),(.loc 49),(.loc 50)]),
  .assign 52 (.call 4 [(.loc 48),(.loc 49),(.loc 50)]),
  .assign 53 (.bin .Add (.loc 51) (.loc 52)),
  .assign 54 (.bin .Sub (.loc 51) (.loc 52)),
  .assign 55 (.bin .Div (.loc 53) (.cst (.flt 4611686018427387904))),
  .ite (.cmp .Eq (.loc 52) (.loc 51)) [.ret (.tup [(.cst (.flt 0)),(.loc 55),(.cst (.flt 0))])] [],
  .ite (.cmp .LtE (.loc 55) (.cst (.flt 4602678819172646912))) [.assign 56 (.bin .Div (.loc 54) (.loc 53))] [.assign 56 (.bin .Div (.loc 54) (.bin .Sub (.bin .Sub (.cst (.flt 4611686018427387904)) (.loc 51)) (.loc 52)))],
  .assign 57 (.bin .Div (.bin .Sub (.loc 51) (.loc 48)) (.loc 54)),
  .assign 58 (.bin .Div (.bin .Sub (.loc 51) (.loc 49)) (.loc 54)),
  .assign 59 (.bin .Div (.bin .Sub (.loc 51) (.loc 50)) (.loc 54)),
  .ite (.cmp .Eq (.loc 48) (.loc 51)) [.assign 60 (.bin .Sub (.loc 59) (.loc 58))] [.ite (.cmp .Eq (.loc 49) (.loc 51)) [.assign 60 (.bin .Sub (.bin .Add (.cst (.flt 4611686018427387904)) (.loc 57)) (.loc 59))] [.assign 60 (.bin .Sub (.bin .Add (.cst (.flt 4616189618054758400)) (.loc 58)) (.loc 57))]],
  .assign 60 (.bin .Mod (.bin .Div (.loc 60) (.cst (.flt 4618441417868443648))) (.cst (.flt 4607182418800017408))),
  .ret (.tup [(.loc 60),(.loc 55),(.loc 56)])]
noncomputable def a3q:List Nat:=[60,55,56]
noncomputable def a2o:List S:=[.ite (.cmp .Eq (.loc 56) (.cst (.flt 0))) [.ret (.tup [(.loc 55),(.loc 55),(.loc 55)])] [],
  .ite (.cmp .LtE (.loc 55) (.cst (.flt 4602678819172646912))) [.assign 62 (.bin .Mult (.loc 55) (.bin .Add (.cst (.flt 4607182418800017408)) (.loc 56)))] [.assign 62 (.bin .Sub (.bin .Add (.loc 55) (.loc 56)) (.bin .Mult (.loc 55) (.loc 56)))],
  .assign 63 (.bin .Sub (.bin .Mult (.cst (.flt 4611686018427387904)) (.loc 55)) (.loc 62)),
  .ret (.tup [(.call 64 [(.loc 63),(.loc 62),(.bin .Add (.loc 60) (.glb 30))]),(.call 64 [(.loc 63),(.loc 62),(.loc 60)]),(.call 64 [(.loc 63),(.loc 62),(.bin .Sub (.loc 60) (.glb 30))])])]
noncomputable def e9w:List Nat:=[63,62,65]
noncomputable def e9a:List S:=[.assign 65 (.bin .Mod (.loc 65) (.cst (.flt 4607182418800017408))),
  .ite (.cmp .Lt (.loc 65) (.glb 31)) [.ret (.bin .Add (.loc 63) (.bin .Mult (.bin .Mult (.bin .Sub (.loc 62) (.loc 63)) (.loc 65)) (.cst (.flt 4618441417868443648))))] [],
  .ite (.cmp .Lt (.loc 65) (.cst (.flt 4602678819172646912))) [.ret (.loc 62)] [],
  .ite (.cmp .Lt (.loc 65) (.glb 32)) [.ret (.bin .Add (.loc 63) (.bin .Mult (.bin .Mult (.bin .Sub (.loc 62) (.loc 63)) (.bin .Sub (.glb 32) (.loc 65))) (.cst (.flt 4618441417868443648))))] [],
  .ret (.loc 63)]
noncomputable def a3n:List Nat:=[48,49,50]
noncomputable def a2r:List S:=[.assign 51 (.call 3 [(.loc 48),(.loc 49),(.loc 50)]),
  .assign 52 (.call 4 [(.loc 48),(.loc 49),(.loc 50)]),
  .assign 54 (.bin .Sub (.loc 51) (.loc 52)),
  .assign 67 (.loc 51),
  .ite (.cmp .Eq (.loc 52) (.loc 51)) [.ret (.tup [(.cst (.flt 0)),(.cst (.flt 0)),(.loc 67)])] [],
  .assign 56 (.bin .Div (.loc 54) (.loc 51)),
  .assign 57 (.bin .Div (.bin .Sub (.loc 51) (.loc 48)) (.loc 54)),
  .assign 58 (.bin .Div (.bin .Sub (.loc 51) (.loc 49)) (.loc 54)),
  .assign 59 (.bin .Div (.bin .Sub (.loc 51) (.loc 50)) (.loc 54)),
  .ite (.cmp .Eq (.loc 48) (.loc 51)) [.assign 60 (.bin .Sub (.loc 59) (.loc 58))] [.ite (.cmp .Eq (.loc 49) (.loc 51)) [.assign 60 (.bin .Sub (.bin .Add (.cst (.flt 4611686018427387904)) (.loc 57)) (.loc 59))] [.assign 60 (.bin .Sub (.bin .Add (.cst (.flt 4616189618054758400)) (.loc 58)) (.loc 57))]],
  .assign 60 (.bin .Mod (.bin .Div (.loc 60) (.cst (.flt 4618441417868443648))) (.cst (.flt 4607182418800017408))),
  .ret (.tup [(.loc 60),(.loc 56),(.loc 67)])]
noncomputable def a3r:List Nat:=[60,56,67]
noncomputable def F_hsv_to_rgb:List S:=[.ite (.cmp .Eq (.loc 56) (.cst (.flt 0))) [.ret (.tup [(.loc 67),(.loc 67),(.loc 67)])] [],
  .assign 69 (.call 5 [(.bin .Mult (.loc 60) (.cst (.flt 4618441417868443648)))]),
  .assign 70 (.bin .Sub (.bin .Mult (.loc 60) (.cst (.flt 4618441417868443648))) (.loc 69)),
  .assign 71 (.bin .Mult (.loc 67) (.bin .Sub (.cst (.flt 4607182418800017408)) (.loc 56))),
  .assign 72 (.bin .Mult (.loc 67) (.bin .Sub (.cst (.flt 4607182418800017408)) (.bin .Mult (.loc 56) (.loc 70)))),
  .assign 73 (.bin .Mult (.loc 67) (.bin .Sub (.cst (.flt 4607182418800017408)) (.bin .Mult (.loc 56) (.bin .Sub (.cst (.flt 4607182418800017408)) (.loc 70))))),
  .assign 69 (.bin .Mod (.loc 69) (.cst (.int 6))),
  .ite (.cmp .Eq (.loc 69) (.cst (.int 0))) [.ret (.tup [(.loc 67),(.loc 73),(.loc 71)])] [],
  .ite (.cmp .Eq (.loc 69) (.cst (.int 1))) [.ret (.tup [(.loc 72),(.loc 67),(.loc 71)])] [],
  .ite (.cmp .Eq (.loc 69) (.cst (.int 2))) [.ret (.tup [(.loc 71),(.loc 67),(.loc 73)])] [],
  .ite (.cmp .Eq (.loc 69) (.cst (.int 3))) [.ret (.tup [(.loc 71),(.loc 72),(.loc 67)])] [],
  .ite (.cmp .Eq (.loc 69) (.cst (.int 4))) [.ret (.tup [(.loc 73),(.loc 71),(.loc 67)])] [],
  .ite (.cmp .Eq (.loc 69) (.cst (.int 5))) [.ret (.tup [(.loc 67),(.loc 71),(.loc 72)])] []]
noncomputable def P_get_token:List Nat:=[16]
noncomputable def a1l:List S:=[.ite (.attr 24 (.loc 16)) [.ret (.meth 11 (.attr 24 (.loc 16)) [(.cst (.int 0))])] [],
  .assign 78 (.cst (.str [])),
  .fit 79 16,
  .chars (.one 17) 79 [.ite (.cmp .In (.loc 17) (.attr 25 (.loc 16))) [.cont] [],
  .ite (.cmp .Eq (.loc 17) (.cst (.str [34]))) [.chars (.one 17) 79 [.ite (.cmp .Eq (.loc 17) (.cst (.str [34]))) [.ret (.loc 78)] [.ite (.cmp .Eq (.loc 17) (.cst (.str [92]))) [.assign 17 (.meth 21 (.loc 16) [])] []],
  .aug 78 .Add (.loc 17)]] [.ite (.cmp .Eq (.loc 17) (.cst (.str [92]))) [.assign 17 (.meth 21 (.loc 16) [])] [],
  .aug 78 .Add (.loc 17),
  .chars (.one 17) 79 [.ite (.cmp .In (.loc 17) (.attr 25 (.loc 16))) [.ret (.loc 78)] [.ite (.cmp .Eq (.loc 17) (.cst (.str [92]))) [.assign 17 (.meth 21 (.loc 16) [])] []],
  .aug 78 .Add (.loc 17)]]],
  .ret (.loc 78)]
noncomputable def P_push_token:List Nat:=[16,78]
noncomputable def a3o:List S:=[.expr (.meth 10 (.attr 24 (.loc 16)) [(.loc 78)])]
end
section
noncomputable def e4h(args:List V)(μ:Mu):Option (V×Mu):=match args with
 | [.lst l]=>if l.length<=big then some (.int l.length,μ)else .none
 | _=>.none
noncomputable def e1y(args:List V)(μ:Mu):Option (V×Mu):=match args with
 | [.lst l]=>(a8w l).map fun ns=>(.int ns.sum,μ)
 | _=>.none
theorem f1j{γ:Type}{args:List V}{f:UInt64->UInt64->UInt64->Option γ}{r:γ}{G:Prop}(h:(match args with | [.flt a,.flt b,.flt c]=>f a b c | _=>.none)=some r)(k:∀ a b c,args=[.flt a,.flt b,.flt c]->f a b c=some r->G):G:=by
 induction args using List.casesOn with
 | nil=>exact ns h
 | cons x l=>induction x using Mine.V.casesOn with
  | flt a=>induction l using List.casesOn with
   | nil=>exact ns h
   | cons x l=>induction x using Mine.V.casesOn with
    | flt b=>induction l using List.casesOn with
     | nil=>exact ns h
     | cons x l=>induction x using Mine.V.casesOn with
      | flt c=>induction l using List.casesOn with
       | nil=>exact k a b c rfl h
       | cons _ _=>exact ns h
      | _=>exact ns h
    | _=>exact ns h
  | _=>exact ns h
noncomputable def f2i(args:List V)(μ:Mu):Option (V×Mu):=match args with
 | [.int a,.int b]=>some (.int (if b<a then b else a),μ)
 | _=>.none
theorem f3q{args:List V}{μ:Mu}{r:V×Mu}{G:Prop}(h:f2i args μ=some r)(k:∀ a b,args=[.int a,.int b]->some (V.int (if b<a then b else a),μ)=some r->G):G:=by
 induction args using List.casesOn with
 | nil=>exact ns h
 | cons x l=>induction x using Mine.V.casesOn with
  | int a=>induction l using List.casesOn with
   | nil=>exact ns h
   | cons x l=>induction x using Mine.V.casesOn with
    | int b=>induction l using List.casesOn with
     | nil=>exact k a b rfl h
     | cons _ _=>exact ns h
    | _=>exact ns h
  | _=>exact ns h
theorem f4r{γ:Type}{args:List V}{f:List V->String->Option γ}{r:γ}{G:Prop}(h:(match args with | [.tup l,.typ s]=>f l s | _=>.none)=some r)(k:∀ l s,args=[.tup l,.typ s]->f l s=some r->G):G:=by
 induction args using List.casesOn with
 | nil=>exact ns h
 | cons x l=>induction x using Mine.V.casesOn with
  | tup a=>induction l using List.casesOn with
   | nil=>exact ns h
   | cons x l=>induction x using Mine.V.casesOn with
    | typ b=>induction l using List.casesOn with
     | nil=>exact k a b rfl h
     | cons _ _=>exact ns h
    | _=>exact ns h
  | _=>exact ns h
noncomputable def e8d(args:List V)(μ:Mu):Option (V×Mu):=match args with
 | [.flt a,.flt b,.flt c]=>some (.flt (a3i (a3i a b) c),μ)
 | _=>.none
noncomputable def f3c(args:List V)(μ:Mu):Option (V×Mu):=match args with
 | [.flt a,.flt b,.flt c]=>some (.flt (a5a (a5a a b) c),μ)
 | _=>.none
noncomputable def e9l(args:List V)(μ:Mu):Option (V×Mu):=(f3c args μ).elim (f2i args μ) some
noncomputable def e7y(args:List V)(μ:Mu):Option (V×Mu):=match args with
 | [.tup _,.typ s]=>if s = "tuple" then some (.bool true,μ)else .none
 | _=>.none
noncomputable def d0q(args:List V)(μ:Mu):Option (V×Mu):=match args with
 | [.flt a]=>if Float64.isFinite a then some (.int (Flt.toInt Float64.truncOf a),μ)else .none
 | _=>.none
noncomputable def c2p(args:List V)(μ:Mu):Option (V×Mu):=match args with
 | [.str t]=>if t.length<=big then some (.mut μ.length,μ++[.list (t.map fun c=>.str [c])])else .none
 | _=>.none
noncomputable def c7f(i:Nat)(args:List V)(μ:Mu):Option (V×Mu):=if i=0 then e4h args μ else if i=1 then e1y args μ else if i=3 then e8d args μ else if i=4 then e9l args μ else if i=5 then d0q args μ else if i=6 then c2p args μ else if i=36 then e7y args μ else .none
noncomputable def c9x:V->Bool
 | .str _=>true
 | _=>false
noncomputable def e6p:V->Bool
 | .lst _=>true
 | _=>false
noncomputable def a7s(μ:Mu):V->Bool
 | .mut k=>match μ[k]? with
  | some (.list _)=>true
  | _=>false
 | _=>false
noncomputable def b7g(m:Nat)(u:V)(μ:Mu):Bool:=if m=7 then c9x u else if m=8 then c9x u else if m=9 then c9x u else if m=10 then a7s μ u else if m=11 then a7s μ u else if m=39 then e6p u else false
noncomputable def c0q(u:V)(args:List V)(μ:Mu):Option (V×Mu):=match u,args with
 | .str x,[.str y]=>if y≠[]/\x.length<=big then some (.lst ((Txt.split (txt x) (txt y)).map fun p=>.str (c5t p)),μ)else .none
 | _,_=>.none
noncomputable def c7a(u:V)(args:List V)(μ:Mu):Option (V×Mu):=match u,args with
 | .str x,[.lst l]=>match a8v l with
  | some ts=>if(ts.map (·.length)).sum+ts.length * x.length<=big then some (.str (b3c x ts),μ)else .none
  | .none=>.none
 | _,_=>.none
noncomputable def b1x(u:V)(args:List V)(μ:Mu):Option (V×Mu):=match u,args with
 | .str x,[.str y]=>some (.int (Txt.count (txt x) (txt y)),μ)
 | _,_=>.none
noncomputable def b8l(u:V)(args:List V)(μ:Mu):Option (V×Mu):=match u,args with
 | .mut k,[x]=>match μ[k]? with
  | some (.list l)=>if l.length<=big then some (.none,μ.set k (.list (l++[x])))else .none
  | _=>.none
 | _,_=>.none
noncomputable def e9b(u:V)(args:List V)(μ:Mu):Option (V×Mu):=match u,args with
 | .mut k,[.int 0]=>match μ[k]? with
  | some (.list (x::l))=>if(x::l).length<=big then some (x,μ.set k (.list l))else .none
  | _=>.none
 | _,_=>.none
noncomputable def c7o(u:V)(args:List V)(μ:Mu):Option (V×Mu):=match u,args with
 | .lst l,[x]=>if l.length<=big then(a8z l x).map fun(j:Nat)=>(V.int (j:Int),μ)else .none
 | _,_=>.none
noncomputable def d3t(m:Nat)(u:V)(args:List V)(μ:Mu):Option (V×Mu):=if m=7 then c0q u args μ else if m=8 then c7a u args μ else if m=9 then b1x u args μ else if m=10 then b8l u args μ else if m=11 then e9b u args μ else if m=39 then c7o u args μ else .none
section
variable{μ:Mu}{k:Nat}{l:List V}{x y:List Nat}{v:V}
theorem f3r:c2p [.str x] μ=if x.length<=big then some (.mut μ.length,μ++[.list (x.map fun c=>.str [c])])else .none:=rfl
theorem f3j{a:List V}:c7f 6 a μ=c2p a μ:=rfl
theorem f2l:b1x (.str x) [.str y] μ=some (.int (Txt.count (txt x) (txt y)),μ):=rfl
end
noncomputable def third:UInt64:=Float64.div (Float64.ofInt 1) (Float64.ofInt 3)
noncomputable def toks:List (List Nat×Int):=([("!",54),("!=",28),("%",24),("%=",40),("&",19),("&=",41),("(",7),(")",8),("*",16),("**",35),("**=",46),("*=",38),("+",14),("+=",36),(",",12),("-",15),("-=",37),("->",51),(".",23),("...",52),("/",17),("//",47),("//=",48),("/=",39),(":",11),(":=",53),(";",13),("<",20),("<<",33),("<<=",44),("<=",29),("=",22),("==",27),(">",21),(">=",30),(">>",34),(">>=",45),("@",49),("@=",50),("[",9),("]",10),("^",32),("^=",43),("{",25),("|",18),("|=",42),("}",26),("~",31)]:List (String×Int)).map fun p=>((Str.ofString p.1).cps.toList,p.2)
structure a3e where
 a:UInt64
 b:UInt64
 c:UInt64
noncomputable def d8o (th:a3e) (i:Nat):Option V:=if i=28 then some (.int 256)else if i=29 then some (.int 0)else if i=30 then some (.flt th.a)else if i=31 then some (.flt th.b)else if i=32 then some (.flt th.c)else if i=35 then some (.typ "tuple")else .none
noncomputable def f1r(i:Nat):Option (List (List Nat×Int)):=if i=27 then some toks else .none
noncomputable def gB(th:a3e):G:={ tbl:=tblA,glob:=d8o th,call:=fun zz i args μ=>c7f i args μ,find:=b7g,meth:=fun zz m u args μ=>d3t m u args μ,attr:=fun zz zz zz=>.none,dic:=f1r,lexOn:=false}
structure b6z(prog:Program)(w:World)(base:Heap)(th:a3e):Prop where
 len:a1e prog w base "len" (.builtin "len")
 sum:a1e prog w base "sum" (.builtin "sum")
 max:a1e prog w base "max" (.builtin "max")
 min:a1e prog w base "min" (.builtin "min")
 int:a1e prog w base "int" (.type "int")
 list:a1e prog w base "list" (.type "list")
 range:a1e prog w base "range" (.type "range")
 enum:a1e prog w base "enumerate" (.type "enumerate")
 zip:a1e prog w base "zip" (.type "zip")
 tup:a1e prog w base "tuple" (.type "tuple")
 isi:a1e prog w base "isinstance" (.builtin "isinstance")
 nt:∃ t,a1e prog w base "NT_OFFSET" (.int 256 t)
 eof:∃ t,a1e prog w base "ENDMARKER" (.int 0 t)
 third:∃ t,a1e prog w base "ONE_THIRD" (.float th.a t)
 sixth:∃ t,a1e prog w base "ONE_SIXTH" (.float th.b t)
 twothird:∃ t,a1e prog w base "TWO_THIRD" (.float th.c t)
 tok:∃ a,a1e prog w base "EXACT_TOKEN_TYPES" (.ref a)/\StrTab prog w base a (toks.map fun p=>(.str ⟨p.1.toArray⟩,.int p.2))
section
variable{prog:Program}{w:World}{Lx:LxP}{base:Heap}{th:a3e}
theorem nm(i:Nat)(s:String)(h:tblA[i]?=some (Str.ofString s):=by decide +kernel):tblA[i]?=some (Str.ofString s):=h
theorem lsM{α:Type}{r:α}{G:Prop}{e:Option M}{f:List V->Option α}(h:(match e with | some (.list l)=>f l | _=>.none)=some r)(k:∀ l,e=some (.list l)->f l=some r->G):G:=by
 induction e using Option.casesOn with
 | none=>exact ns h
 | some m=>induction m using Mine.M.casesOn with
  | list l=>exact k l rfl h
  | obj _ _=>exact ns h
theorem a5m{α:Type}{f:List V->Option α}{args:List V}{r:α}(h:f args=some r)(h0:f []=.none)(h2:∀ a b c,f (a::b::c)=.none):∃ a,args=[a]:=by
 induction args using List.casesOn with
 | nil=>exact ns (h0.symm.trans h)
 | cons a as=>induction as using List.casesOn with
  | nil=>exact⟨a,rfl⟩
  | cons b c=>exact ns ((h2 a b c).symm.trans h)
theorem b7z{i:Nat}{args:List V}{μ:Mu}{q:V×Mu}{G:Prop}(h:c7f i args μ=some q)(k0:i=0->e4h args μ=some q->G)(k1:i=1->e1y args μ=some q->G)(k3:i=3->e8d args μ=some q->G)(k4:i=4->e9l args μ=some q->G)(k5:i=5->d0q args μ=some q->G)(k6:i=6->c2p args μ=some q->G)(k7:i=36->e7y args μ=some q->G):G:=
 ifE h k0 fun zz h=>ifE h k1 fun zz h=>ifE h k3 fun zz h=>ifE h k4 fun zz h=>ifE h k5 fun zz h=>ifE h k6 fun zz h=>ifE h k7 fun zz h=>ns h
theorem c9j(N:b6z prog w base th)(n i:Nat)(args:List V)(μ:Mu)(r:V)(μ':Mu)(h:c7f i args μ=some (r,μ')):∃ x f,tblA[i]?=some x/\a1e prog w base x f/\a7w base f/\CallOK prog w Lx base n f args μ r μ':=by
 refine b7z h ?_ ?_ ?_ ?_ ?_ ?_ ?_<;>clear h<;>intro e h<;>subst e
 ·refine⟨_,_,nm 0 "len",N.len,.builtin _,?_⟩
  obtain⟨a,rfl⟩:=a5m (f:=(e4h · μ)) h rfl (fun a b c=>by induction a using Mine.V.casesOn<;>rfl);have h:e4h [a] μ=some (r,μ'):=h
  ··induction a using Mine.V.casesOn with
    | lst l=>exact ifS h fun hz h=>sp h fun e1 e2=>e1▸e2▸e0q hz
    | _=>exact ns h
 ·refine⟨_,_,nm 1 "sum",N.sum,.builtin _,?_⟩
  obtain⟨a,rfl⟩:=a5m (f:=(e1y · μ)) h rfl (fun a b c=>by induction a using Mine.V.casesOn<;>rfl);have h:e1y [a] μ=some (r,μ'):=h
  ··induction a using Mine.V.casesOn with
    | lst l=>exact a1n h fun ns hi h=>pr h fun e1 e2=>e1▸e2▸d6q hi
    | _=>exact ns h
 ·refine⟨_,_,nm 3 "max",N.max,.builtin _,?_⟩
  have h:e8d args μ=some (r,μ'):=h;refine f1j h fun a b c e h=>?_;subst e;exact sp h fun e1 e2=>e1▸e2▸d7q
 ·refine⟨_,_,nm 4 "min",N.min,.builtin _,?_⟩
  have h:e9l args μ=some (r,μ'):=h;refine c4e h (fun q h9 h=>f1j h9 fun a b c e h9=>?_) fun zz h=>f3q h fun a b e h=>?_
  ·subst e
   cases h9;exact sp h fun e1 e2=>e1▸e2▸d8l
  ·subst e
   exact sp h fun e1 e2=>e1▸e2▸d8c
 ·refine⟨_,_,nm 5 "int",N.int,.type _,?_⟩
  obtain⟨a,rfl⟩:=a5m (f:=(d0q · μ)) h rfl (fun a b c=>by induction a using Mine.V.casesOn<;>rfl);have h:d0q [a] μ=some (r,μ'):=h
  ··induction a using Mine.V.casesOn with
    | flt x=>exact ifS h fun hz h=>sp h fun e1 e2=>e1▸e2▸e0j hz
    | _=>exact ns h
 ·refine⟨_,_,nm 6 "list",N.list,.type _,?_⟩
  obtain⟨a,rfl⟩:=a5m (f:=(c2p · μ)) h rfl (fun a b c=>by induction a using Mine.V.casesOn<;>rfl);have h:c2p [a] μ=some (r,μ'):=h
  ··induction a using Mine.V.casesOn with
    | str x=>exact ifS h fun hz h=>sp h fun e1 e2=>e1▸e2▸b6x hz
    | _=>exact ns h
 ·refine⟨_,_,nm 36 "isinstance",N.isi,.builtin _,?_⟩
  have h:e7y args μ=some (r,μ'):=h;refine f4r h fun l s e h=>ifS h fun es h=>?_;subst e es;exact sp h fun e1 e2=>e1▸e2▸d8f
theorem b9y{μ:Mu}{u:V}{P:Prop}(h:a7s μ u=true)(k:∀ i l,u=.mut i->μ[i]?=some (.list l)->P):P:=by
 induction u using Mine.V.casesOn with
 | «mut» i=>
  have h:(match (generalizing:=false) μ[i]? with | some (.list _)=>true | _=>false)=true:=h
  induction q:μ[i]? using Option.casesOn with
  | none=>rw [q]at h;exact nt h
  | some m=>induction m using Mine.M.casesOn with
   | list l=>exact k i l rfl q
   | obj _ _=>rw [q]at h;exact nt h
 | _=>exact nt h
theorem b2u{u:V}(h:c9x u=true):∃ x,u=.str x:=by
 induction u using Mine.V.casesOn with
 | str x=>exact⟨x,rfl⟩
 | _=>exact nt h
theorem d1g{u:V}(h:e6p u=true):∃ x,u=.lst x:=by
 induction u using Mine.V.casesOn with
 | lst x=>exact⟨x,rfl⟩
 | _=>exact nt h
theorem lsC{e:Option M}{α:Type}{r:α}{f:V->List V->Option α}{P:Prop}(h:(match e with | some (.list (x::l))=>f x l | _=>.none)=some r)(k:∀ x l,e=some (.list (x::l))->f x l=some r->P):P:=by
 induction e using Option.casesOn with
 | none=>exact ns h
 | some m=>induction m using Mine.M.casesOn with
  | list l=>induction l using List.casesOn with
   | nil=>exact ns h
   | cons x l=>exact k x l rfl h
  | obj _ _=>exact ns h
theorem b7q{m:Nat}{u:V}{args:List V}{μ:Mu}{q:V×Mu}{G:Prop}(h:d3t m u args μ=some q)(k0:m=7->c0q u args μ=some q->G)(k1:m=8->c7a u args μ=some q->G)(k2:m=9->b1x u args μ=some q->G)(k3:m=10->b8l u args μ=some q->G)(k4:m=11->e9b u args μ=some q->G)(k5:m=39->c7o u args μ=some q->G):G:=
 ifE h k0 fun zz h=>ifE h k1 fun zz h=>ifE h k2 fun zz h=>ifE h k3 fun zz h=>ifE h k4 fun zz h=>ifE h k5 fun zz h=>ns h
theorem c0k(n m:Nat)(u:V)(args:List V)(μO μ:Mu)(r:V)(μ':Mu)(hf:b7g m u μO=true)(h:d3t m u args μ=some (r,μ')):∃ x f,tblA[m]?=some x/\a7w base f/\a4v prog w Lx base x u μO f/\CallOK prog w Lx base n f (u::args) μ r μ':=by
 refine b7q h ?_ ?_ ?_ ?_ ?_ ?_<;>clear h<;>intro e h<;>subst e
 ·obtain⟨x,rfl⟩:=b2u hf
  refine⟨_,.builtin "str.split",nm 7 "split",.builtin _,c2r,?_⟩
  obtain⟨a,rfl⟩:=a5m (f:=(c0q (.str x) · μ)) h rfl (fun a b c=>by induction a using Mine.V.casesOn<;>rfl);have h:c0q (.str x) [a] μ=some (r,μ'):=h
  ··induction a using Mine.V.casesOn with
    | str y=>exact ifS h fun hz h=>sp h fun e1 e2=>e1▸e2▸c6v hz.1 hz.2
    | _=>exact ns h
 ·obtain⟨x,rfl⟩:=b2u hf
  refine⟨_,.builtin "str.join",nm 8 "join",.builtin _,c7r,?_⟩
  obtain⟨a,rfl⟩:=a5m (f:=(c7a (.str x) · μ)) h rfl (fun a b c=>by induction a using Mine.V.casesOn<;>rfl);have h:c7a (.str x) [a] μ=some (r,μ'):=h
  ··induction a using Mine.V.casesOn with
    | lst l=>
     unfold c7a at h;induction q:a8v l using Option.casesOn with
     | none=>simp only [q]at h;exact ns h
     | some ts=>
      simp only [q]at h;exact ifS h fun hz h=>sp h fun e1 e2=>e1▸e2▸d3p q hz
    | _=>exact ns h
 ·obtain⟨x,rfl⟩:=b2u hf
  refine⟨_,.builtin "str.count",nm 9 "count",.builtin _,c1r,?_⟩
  obtain⟨a,rfl⟩:=a5m (f:=(b1x (.str x) · μ)) h rfl (fun a b c=>by induction a using Mine.V.casesOn<;>rfl);have h:b1x (.str x) [a] μ=some (r,μ'):=h
  ··induction a using Mine.V.casesOn with
    | str y=>exact sp h fun e1 e2=>e1▸e2▸c6e
    | _=>exact ns h
 ·refine b9y hf fun k l eu hk=>?_
  subst eu;refine⟨_,.builtin "list.append",nm 10 "append",.builtin _,b7n hk,?_⟩
  have h:b8l (.mut k) args μ=some (r,μ'):=h;induction args using List.casesOn with
  | nil=>exact ns h
  | cons a as=>induction as using List.casesOn with
   | cons _ _=>exact ns h
   | nil=>exact lsM h fun l hl h=>ifS h fun hz h=>sp h fun e1 e2=>e1▸e2▸c1y hl hz
 ·refine b9y hf fun k l eu hk=>?_
  subst eu;refine⟨_,.builtin "list.pop",nm 11 "pop",.builtin _,d1q hk,?_⟩
  have h:e9b (.mut k) args μ=some (r,μ'):=h;induction args using List.casesOn with
  | nil=>exact ns h
  | cons a as=>induction as using List.casesOn with
   | cons _ _=>induction a using Mine.V.casesOn with
    | int z=>induction z using Int.casesOn with
     | ofNat n=>cases n<;>exact ns h
     | negSucc _=>exact ns h
    | _=>exact ns h
   | nil=>induction a using Mine.V.casesOn with
    | int z=>induction z using Int.casesOn with
     | negSucc _=>exact ns h
     | ofNat z=>induction z using Nat.casesOn with
      | succ _=>exact ns h
      | zero=>
       exact lsC (e:=μ[k]?) h fun x l hl h=>ifS h fun hz h=>sp h fun e1 e2=>e1▸e2▸c9t hl hz
    | _=>exact ns h
 ·obtain⟨l,rfl⟩:=d1g hf
  refine⟨_,.builtin "list.index",nm 39 "index",.builtin _,c1o,?_⟩
  obtain⟨a,rfl⟩:=a5m (f:=(c7o (.lst l) · μ)) h rfl (fun a b c=>rfl);exact ifS h fun hz h=>a1n h fun j hj h=>pr h fun e1 e2=>e1▸e2▸c3s hj hz
theorem b8a {i:Nat} {v:V} {P:Prop} (h:d8o th i=some v) (k0:i=28->some (V.int 256)=some v->P) (k1:i=29->some (V.int 0)=some v->P) (k2:i=30->some (V.flt th.a)=some v->P) (k3:i=31->some (V.flt th.b)=some v->P) (k4:i=32->some (V.flt th.c)=some v->P) (k5:i=35->some (V.typ "tuple")=some v->P):P:=
 ifE h k0 fun zz h=>ifE h k1 fun zz h=>ifE h k2 fun zz h=>ifE h k3 fun zz h=>ifE h k4 fun zz h=>ifE h k5 fun zz h=>ns h
theorem d3s(N:b6z prog w base th)(i:Nat)(v:V)(h:d8o th i=some v):∃ x u,tblA[i]?=some x/\a1e prog w base x u/\∀ h as,Rep h as v u:=by
 refine b8a h ?_ ?_ ?_ ?_ ?_ ?_<;>clear h<;>intro e h<;>subst e
 ·obtain⟨t,e⟩:=N.nt;exact⟨_,_,nm 28 "NT_OFFSET",e,fun zz zz=>Option.some.inj h▸⟨t,rfl⟩⟩
 ·obtain⟨t,e⟩:=N.eof;exact⟨_,_,nm 29 "ENDMARKER",e,fun zz zz=>Option.some.inj h▸⟨t,rfl⟩⟩
 ·obtain⟨t,e⟩:=N.third;exact⟨_,_,nm 30 "ONE_THIRD",e,fun zz zz=>Option.some.inj h▸⟨t,rfl⟩⟩
 ·obtain⟨t,e⟩:=N.sixth;exact⟨_,_,nm 31 "ONE_SIXTH",e,fun zz zz=>Option.some.inj h▸⟨t,rfl⟩⟩
 ·obtain⟨t,e⟩:=N.twothird;exact⟨_,_,nm 32 "TWO_THIRD",e,fun zz zz=>Option.some.inj h▸⟨t,rfl⟩⟩
 ·exact⟨_,_,nm 35 "tuple",N.tup,fun zz zz=>Option.some.inj h▸rfl⟩
theorem f1b(N:b6z prog w base th):Snd prog w Lx base (gB th) where
 glob:=d3s N
 range:=N.range
 enum:=N.enum
 zip:=N.zip
 dic:=fun i l h=>by
  have h:f1r i=some l:=h;refine ifS h fun e h=>?_;subst e;obtain rfl:=Option.some.inj h;obtain⟨a,h1,h2⟩:=N.tok;exact⟨_,a,nm 27 "EXACT_TOKEN_TYPES",h1,h2⟩
 call:=fun n i args μ r μ' h=>c9j N n i args μ r μ' h
 meth:=fun n m u args μO μ r μ' hf h=>c0k n m u args μO μ r μ' hf h
 attr:=fun m u μ r h=>by exact ns h
theorem b0t:∀(i j:Nat) (x:Str),tblA[i]?=some x->tblA[j]?=some x->i=j:=by
 have h:tblA.Nodup:=by decide +kernel
 intro i j x h1 h2;exact(List.getElem?_inj (List.getElem?_eq_some_iff.mp h1).1 h).mp (h1.trans h2.symm)
end
end
section
structure b1o(base:Heap)(names:List Str)(is:List Nat)(ss:List Mine.S) where
 a:Addr
 o:Obj
 fd:FuncData
 body:List Stmt
 at':base.get? a=some o
 data:o.data=.func fd
 code:base.CodeRec fd.code fd.qualname
 hbody:fd.body=.stmts body
 glob:fd.globals=mainGlobals
 built:fd.builtins=builtinsNs
 clos:fd.closure=[]
 bind:∀ vals:List Value,vals.length=names.length->bindArgs fd ⟨vals,[]⟩=pure (names.zip vals)
 ok:okF tblA fd.scope names is=true
 tr:∃ mt k,trS.trSs tblA mt k fd.scope body=some ss
noncomputable def b1t(Γ:G)(id:Nat)(spec:Nat->List V->Mu->Option (V×Mu)):G:=
 { Γ with call:=fun n i args μ=>if i=id then spec n args μ else Γ.call n i args μ}
noncomputable def e1o(Γ:G)(id:Nat)(spec:Nat->V->List V->Mu->Option (V×Mu)):G:=
 { Γ with meth:=fun n m u args μ=>if m=id then spec n u args μ else Γ.meth n m u args μ}
section
variable{prog:Program}{w:World}{Lx:LxP}{base:Heap}{Γ:G}
theorem CallOK.less{n m:Nat}{f:Value}{args:List V}{μ μ':Mu}{r:V}(h:CallOK prog w Lx base n f args μ r μ')(hm:n<=m):CallOK prog w Lx base m f args μ r μ':=
 fun A E s as vs Q rm g ra hQ=>h A E s as vs Q (rm.less hm) g ra hQ
theorem c0g{names:List Str}{is:List Nat}{ss:List Mine.S}(D:b1o base names is ss)(hbig:base.NoLimit)(ht:Γ.tbl=tblA)(S:Snd prog w Lx base Γ)(LX:∀ n,a5q prog w Lx base Γ n){n:Nat}{args:List V}{μ μ':Mu}{r:V}
  (h:a4f Γ n is ss args μ=some (r,μ')):CallOK prog w Lx base (n+1) (.ref D.a) args μ r μ':=by
 have hok:=D.ok;unfold okF at hok;simp only [Bool.and_eq_true,Bool.not_eq_true',decide_eq_true_eq]at hok;obtain⟨⟨⟨⟨⟨⟨⟨h1,h2⟩,h3⟩,h4⟩,h5⟩,h6⟩,h7⟩,h8⟩:=hok;have e8:D.fd.scope.kind=.function:=by simpa using h8
 obtain⟨mt,k,t⟩:=D.tr;rw [← ht]at t h1 h5;refine e6h S (by rw [ht];exact b0t) LX hbig D.at' D.data D.code D.hbody D.glob D.built D.clos h6 h7 e8 D.bind (by simpa using h1) h2 (fun x hx=>?_) (fun p hp=>?_) (a6d h5) (fun L=>?_) t h
 ·have:=List.all_eq_true.mp h3 x hx
  simp only [Bool.or_eq_true,beq_iff_eq]at this;exact this
 ·have:=List.all_eq_true.mp h4 p hp
  simpa using this
 ·show((D.fd.scope.kind==.module)&&_)=false
  rw [e8];rfl
set_option tactic.hygienic true in
theorem c0m(S:Snd prog w Lx base Γ){id:Nat}{x:Str}{f:Value}(hid:Γ.tbl[id]?=some x)(hname:a1e prog w base x f)(hf:a7w base f){spec:Nat->List V->Mu->Option (V×Mu)}
  (hs:∀ n args μ r μ',spec n args μ=some (r,μ')->CallOK prog w Lx base n f args μ r μ'):Snd prog w Lx base (b1t Γ id spec):=by
 refine⟨S.glob,S.range,S.enum,S.zip,S.dic,fun n i args μ r μ' h=>?_,S.meth,S.attr⟩;simp only [b1t]at h;split at h
 ·rename_i e
  subst e;exact⟨x,f,hid,hname,hf,hs n args μ r μ' h⟩
 ·exact S.call n i args μ r μ' h
end
noncomputable def a3f(μ:Mu):V->Bool
 | .mut k=>match μ[k]? with
  | some (.obj [_,_] n)=>decide (1<=n)
  | _=>false
 | _=>false
noncomputable def e0g(m:Nat)(u:V)(μ:Mu):Bool:=if m=21∨m=22∨m=23 then a3f μ u else b7g m u μ
noncomputable def f0b(n:Nat)(u:V)(args:List V)(μ:Mu):Option (V×Mu):=match u,args with
 | .mut k,[]=>if 11<=n then(a0r μ k).map fun p=>(.str p.1,p.2)else .none
 | _,_=>.none
noncomputable def e0u(n m:Nat)(u:V)(args:List V)(μ:Mu):Option (V×Mu):=if m=21 then f0b n u args μ else d3t m u args μ
noncomputable def f0e(m:Nat)(u:V)(μ:Mu):Option V:=match u with
 | .mut k=>match μ[k]? with
  | some (.obj [kp,_] n)=>if 1<=n then(if m=24 then some (.mut kp)else if m=25 then some (.str ws)else if m=26 then some (.int n)else .none)else .none
  | _=>.none
 | _=>.none
noncomputable def gL(th:a3e):G:={ gB th with find:=e0g,meth:=e0u,attr:=f0e,lexOn:=true}
section
variable{prog:Program}{w:World}{base:Heap}{B:LB base}{lm:LamT}{P:Addr}{th:a3e}
theorem isL{μ:Mu}{u:V}{G:Prop}(h:a3f μ u=true)(k:∀ k a b n,u=.mut k->μ[k]?=some (.obj [a,b] n)->1<=n->G):G:=by
 induction u using Mine.V.casesOn with
 | «mut» i=>
  have h:(match (generalizing:=false) μ[i]? with | some (.obj [_,_] n)=>decide (1<=n) | _=>false)=true:=h
  induction e:μ[i]? using Option.casesOn with
  | none=>rw [e]at h;exact nt h
  | some m=>
   rw [e]at h;induction m using Mine.M.casesOn with
   | list _=>exact nt h
   | obj is n=>induction is using List.casesOn with
    | nil=>exact nt h
    | cons a is=>induction is using List.casesOn with
     | nil=>exact nt h
     | cons b is=>induction is using List.casesOn with
      | nil=>exact k i a b n rfl e (of_decide_eq_true h)
      | cons _ _=>exact nt h
 | _=>exact nt h
theorem f4p{e:Option M}{α:Type}{r:α}{G:Prop}{f:Nat->Int->Option α}(h:(match e with | some (.obj [a,_] m)=>f a m | _=>.none)=some r)(k:∀ a b m,e=some (.obj [a,b] m)->f a m=some r->G):G:=by
 induction e using Option.casesOn with
 | none=>exact ns h
 | some m=>induction m using Mine.M.casesOn with
  | list _=>exact ns h
  | obj is m=>induction is using List.casesOn with
   | nil=>exact ns h
   | cons a is=>induction is using List.casesOn with
    | nil=>exact ns h
    | cons b is=>induction is using List.casesOn with
     | nil=>exact k a b m rfl h
     | cons _ _=>exact ns h
theorem a8k (L:a6a prog w B lm P (gB th)) {x:Str} {f:Addr} {of:Obj} {u:V} {μ:Mu} (hx:x = "_read_char" ∨ x = "get_token" ∨ x = "push_token") (hf:B.mN x=some (.ref f)) (ho:base.get? f=some of) (hc:of.cls=.type "function") (h:a3f μ u=true) :
  a4v prog w (a1i B lm P) base x u μ (.ref f):=by
 intro A E s as ov p Q g r hQ;refine isL h fun k kp ks n e hk hn=>?_;subst e;obtain⟨X,D,PB,F,mA,rfl,_,_,I,La⟩:=a3p g hk hn r;exact c9l g.keep I hx hf ho hc (La.only x (by rcases hx with rfl | rfl | rfl<;>decide) (by rcases hx with rfl | rfl | rfl<;>decide) (by rcases hx with rfl | rfl | rfl<;>decide) (by rcases hx with rfl | rfl | rfl<;>decide)) hQ
theorem f3s(N:b6z prog w base th)(L:a6a prog w B lm P (gB th)):Snd prog w (a1i B lm P) base (gL th):=by
 have S:=f1b (Lx:=a1i B lm P) N;refine⟨S.glob,S.range,S.enum,S.zip,S.dic,S.call,fun n m u args μO μ r μ' hf h=>?_,fun m u μ r h=>?_⟩
 ·replace hf:e0g m u μO=true:=hf
  replace h:e0u n m u args μ=some (r,μ'):=h;refine ifE h (fun e h=>?_) fun hne h=>?_
  ·subst e
   refine⟨_,.ref B.fr,nm 21 "_read_char",.func B.fr L.rd.o _ L.rd.at' L.rd.data,a8k L (.inl rfl) B.read L.rd.at' L.rdcls ((if_pos (.inl rfl)).symm.trans hf),?_⟩
   induction u using Mine.V.casesOn with
   | «mut» k=>induction args using List.casesOn with
    | nil=>
     have h:(if 11<=n then(a0r μ k).map fun p=>(V.str p.1,p.2)else .none)=some (r,μ'):=h;exact ifS h fun hn h=>a1n h fun p hr h=>pr h fun e1 e2=>e1▸e2▸(a8x L.snd L.off L.nd L.lam L.nolimit L.rd hr (a6m hr).1).call.less hn
    | cons _ _=>exact ns h
   | _=>exact ns h
  ·refine c0k n m u args μO μ r μ' (ifE hf (fun q zz=>?_) fun zz h=>h) h
   rcases q with rfl | rfl | rfl
   ·exact absurd rfl hne
   ·exact ns h
   ·exact ns h
 ·induction u using Mine.V.casesOn with
  | «mut» k=>
   refine f4p (e:=μ[k]?) h fun kp ks n hk h=>ifS h fun hn h=>ifE h (fun e h=>?_) fun zz h=>ifE h (fun e h=>?_) fun zz h=>ifE h (fun e h=>?_) fun zz h=>ns h
   ·exact e▸Option.some.inj h▸⟨_,nm 24 "pushback",fun A E s as ov Q g r hQ=>c4z hk hn g r hQ⟩
   ·exact e▸Option.some.inj h▸⟨_,nm 25 "whitespace",fun A E s as ov Q g r hQ=>c2q hk hn g r hQ⟩
   ·exact e▸Option.some.inj h▸⟨_,nm 26 "lineno",fun A E s as ov Q g r hQ=>c5x hk hn g r hQ⟩
  | _=>exact ns h
end
end
section
noncomputable def cF(Γ:G)(is:List Nat)(ss:List Mine.S)(n:Nat)(args:List V)(μ:Mu):Option (V×Mu):=match n with
 | 0=>.none
 | k+1=>a4f Γ k is ss args μ
noncomputable def mF(Γ:G)(is:List Nat)(ss:List Mine.S)(n:Nat)(u:V)(args:List V)(μ:Mu):Option (V×Mu):=match n with
 | 0=>.none
 | k+1=>a4f Γ k is ss (u::args) μ
noncomputable def a3y(μ:Mu):Bool:=μ.all (okM μ.length)
section
variable{Γ:G}{n:Nat}{ρ:Rho}{μ:Mu}
theorem e5u{i:Nat}:ev Γ (n+1) (.loc i) ρ μ=(ρ.lookup i).map (·,μ):=rfl
theorem bindV{γ:Type}{e:Option (V×Mu)}{f:V->Mu->Option γ}:(match e with | some (a,b)=>f a b | .none=>.none)=e.bind fun p=>f p.1 p.2:=by cases e<;>rfl
theorem f1u{γ:Type}{e:Option (List V×Mu)}{f:List V->Mu->Option γ}:(match e with | some (a,b)=>f a b | .none=>.none)=e.bind fun p=>f p.1 p.2:=by cases e<;>rfl
theorem e8k{γ:Type}{e:Option (List V×Mu)}{f:List V->Mu->γ}:(match e with | some (a,b)=>some (f a b) | .none=>.none)=e.map fun p=>f p.1 p.2:=by cases e<;>rfl
theorem b7l{f:X->Mu->Option (V×Mu)}:evs f [] μ=some ([],μ):=rfl
theorem d1m{f:X->Mu->Option (V×Mu)}{x:X}{r:List X}:evs f (x::r) μ=(f x μ).bind fun p=>(evs f r p.2).map fun q=>(p.1::q.1,q.2):=
 bindV.trans (congrArg (Option.bind _) (funext fun zz=>e8k))
theorem a0a{f:Mine.S->Rho->Mu->Option (F×Rho×Mu)}{s:Mine.S}{r:List Mine.S}{ρ':Rho}{μ':Mu}(h:f s ρ μ=some (.next,ρ',μ')):a3j f (s::r) ρ μ=a3j f r ρ' μ':=by
 rw [e8t,h]
theorem c6x{f:Mine.S->Rho->Mu->Option (F×Rho×Mu)}{s:Mine.S}{r:List Mine.S}{ρ':Rho}{μ':Mu}(h:f s ρ μ=some (.cont,ρ',μ')):a3j f (s::r) ρ μ=some (.cont,ρ',μ'):=by
 rw [e8t,h]
theorem a4q{f:Mine.S->Rho->Mu->Option (F×Rho×Mu)}{s:Mine.S}{r:List Mine.S}{v:V}{ρ':Rho}{μ':Mu}(h:f s ρ μ=some (.ret v,ρ',μ')):a3j f (s::r) ρ μ=some (.ret v,ρ',μ'):=by
 rw [e8t,h]
variable{μ' μ₂:Mu}
theorem a2w{elt it:X}{t:T}{ifs:List X}{own:List Nat}{vs ys:List V}(h1:a1s (fun x μ=>ev Γ n x ρ μ) it μ=some (vs,μ))(hz:vs.length<=big)(h2:a5n (ev Γ n) elt t ifs vs (ρ.filter fun p=>!own.contains p.1) μ=some (ys,μ')):ev Γ (n+1) (.comp elt t it ifs own) ρ μ=some (.lst ys,μ'):=by
 rw [b4z,h1];refine(if_pos hz).trans ?_;rw [h2]
theorem a8t{c a b:X}{bv:Bool}{v:V}(h:ev Γ n c ρ μ=some (v,μ))(ht:a2z (look μ v)=some bv):ev Γ (n+1) (.ite c a b) ρ μ=if bv then ev Γ n a ρ μ else ev Γ n b ρ μ:=by
 rw [d7o,h];dsimp only;rw [ht];cases bv<;>rfl
theorem a9u{l:List X}{vs:List V}(h:evs (fun x μ=>ev Γ n x ρ μ) l μ=some (vs,μ'))(hz:vs.length<=big):ev Γ (n+1) (.lst l) ρ μ=some (.lst vs,μ'):=by
 rw [d8r,h];exact if_pos hz
theorem a4y{l:List X}{vs:List V}(h:evs (fun x μ=>ev Γ n x ρ μ) l μ=some (vs,μ'))(hz:vs.length<=big):ev Γ (n+1) (.tup l) ρ μ=some (.tup vs,μ'):=by
 rw [e0r,h];exact if_pos hz
theorem a8i{f:X->Mu->Option (V×Mu)}{x:X}{v:V}{μ μ₁:Mu}(h:f x μ=some (v,μ₁)):evs f [x] μ=some ([v],μ₁):=d9b h
theorem a7m{f:X->Mu->Option (V×Mu)}{x:X}{r:List X}{v:V}{vs:List V}{μ μ₁ μ₂:Mu}(h:f x μ=some (v,μ₁))(h2:evs f r μ₁=some (vs,μ₂)):evs f (x::r) μ=some (v::vs,μ₂):=by
 rw [d1m,h];show(evs f r μ₁).map _=_;rw [h2];rfl
theorem a0y{i:Nat}{e:X}{v:V}(h:ev Γ n e ρ μ=some (v,μ')):a0e Γ n (.assign i e) ρ μ=some (.next,put i v ρ,μ'):=by rw [a9j,h]
theorem c0d{e:X}{v:V}(h:ev Γ n e ρ μ=some (v,μ')):a0e Γ n (.ret e) ρ μ=some (.ret v,ρ,μ'):=by rw [d1o,h]
theorem a4h{e:X}{v:V}(h:ev Γ n e ρ μ=some (v,μ')):a0e Γ n (.expr e) ρ μ=some (.next,ρ,μ'):=by rw [b9n,h]
theorem a0m{c:X}{a b:List Mine.S}{v:V}{bv:Bool}(h:ev Γ (n+1) c ρ μ=some (v,μ))(ht:a2z (look μ v)=some bv):a0e Γ (n+1) (.ite c a b) ρ μ=a3j (a0e Γ n) (if bv then a else b) ρ μ:=by
 rw [c6k,h];dsimp only;rw [ht];cases bv<;>rfl
theorem d2f{i:Nat}{op:Operator}{e:X}{u v r:V}(h:ρ.lookup i=some u)(h1:ev Γ n e ρ μ=some (v,μ'))(h2:c2l op u v=some r):a0e Γ n (.aug i op e) ρ μ=some (.next,put i r ρ,μ'):=by
 rw [d3w,h];dsimp only;rw [h1];dsimp only;rw [h2];rfl
theorem evc{v:V}:ev Γ (n+1) (.cst v) ρ μ=some (v,μ):=rfl
theorem evl{i:Nat}{v:V}(h:ρ.lookup i=some v):ev Γ (n+1) (.loc i) ρ μ=some (v,μ):=by rw [e5u,h];rfl
theorem evb{op:Operator}{a b:X}{u v w:V}(h1:ev Γ n a ρ μ=some (u,μ))(h2:ev Γ n b ρ μ=some (v,μ))(h3:a0p op (look μ u) (look μ v)=some w):ev Γ (n+1) (.bin op a b) ρ μ=some (w,μ):=by
 rw [d6n,h1];dsimp only;rw [h2];dsimp only;rw [h3];rfl
theorem a0h{op:CmpOp}{a b:X}{u v:V}{w:Bool}(h1:ev Γ n a ρ μ=some (u,μ))(h2:ev Γ n b ρ μ=some (v,μ))(h3:a0s op (look μ u) (look μ v)=some w):ev Γ (n+1) (.cmp op a b) ρ μ=some (.bool w,μ):=by
 rw [c9z,h1];dsimp only;rw [h2];dsimp only;rw [h3];rfl
theorem a1a{a b:X}{u v w:V}(h1:ev Γ n a ρ μ=some (u,μ))(h2:ev Γ n b ρ μ=some (v,μ))(h3:item (look μ u) v=some w):ev Γ (n+1) (.sub a b) ρ μ=some (w,μ):=by
 rw [d7k,h1];dsimp only;rw [h2];dsimp only;rw [h3];rfl
theorem a0j{f:Nat}{args:List X}{vs:List V}{μ₁:Mu}(h:evs (fun x μ=>ev Γ n x ρ μ) args μ=some (vs,μ₁)):ev Γ (n+1) (.call f args) ρ μ=Γ.call n f vs μ₁:=by
 rw [c4n,h]
theorem c4y{m:Nat}{o:X}{u v:V}(h:ev Γ n o ρ μ=some (u,μ))(h2:Γ.attr m u μ=some v):ev Γ (n+1) (.attr m o) ρ μ=some (v,μ):=by
 rw [c6b,h];dsimp only;rw [h2];rfl
theorem a4w{m:Nat}{o:X}{args:List X}{u:V}{vs:List V}{μ₁:Mu}(h:ev Γ n o ρ μ=some (u,μ))(hf:Γ.find m u μ=true)(h2:evs (fun x μ=>ev Γ n x ρ μ) args μ=some (vs,μ₁)):ev Γ (n+1) (.meth m o args) ρ μ=Γ.meth n m u vs μ₁:=by
 rw [c6a,h];refine(if_pos hf).trans ?_;rw [h2]
theorem a2i{f:X->Mu->Option (V×Mu)}{x:X}{v:V}{μ:Mu}(h:f x μ=some (v,μ)):evs f [x] μ=some ([v],μ):=a8i h
theorem evn{f:X->Mu->Option (V×Mu)}{x:X}{r:List X}{v:V}{vs:List V}{μ:Mu}(h:f x μ=some (v,μ))(h2:evs f r μ=some (vs,μ)):evs f (x::r) μ=some (v::vs,μ):=a7m h h2
theorem c7n{f:X->Mu->Option (V×Mu)}{l:List X}{vs:List V}(h:f (.tup l) μ=some (.tup vs,μ')):a1s f (.tup l) μ=some (vs,μ'):=by rw [f2o,h];rfl
theorem a6g{t:T}{e:X}{a:List Mine.S}{vs:List V}(h:a1s (fun x μ=>ev Γ n x ρ μ) e μ=some (vs,μ')):a0e Γ n (.for t e a) ρ μ=a6x (fun ρ μ=>exec Γ n a ρ μ) t vs ρ μ':=by rw [c2u,h]
theorem a3b{i:Nat}{e:X}{v:V}{rest:List Mine.S}{r:Option (F×Rho×Mu)}(h:ev Γ n e ρ μ=some (v,μ))(k:a3j (a0e Γ n) rest (put i v ρ) μ=r):a3j (a0e Γ n) (.assign i e::rest) ρ μ=r:=
 (a0a (a0y h)).trans k
theorem a6k{e:X}{v:V}{rest:List Mine.S}(h:ev Γ n e ρ μ=some (v,μ)):a3j (a0e Γ n) (.ret e::rest) ρ μ=some (.ret v,ρ,μ):=
 a4q (c0d h)
theorem a6v{c:X}{bv:Bool}{a b rest:List Mine.S}{ρ':Rho}{r:Option (F×Rho×Mu)}(h:ev Γ (n+1) c ρ μ=some (.bool bv,μ))(k:a3j (a0e Γ n) (if bv then a else b) ρ μ=some (.next,ρ',μ))(k2:a3j (a0e Γ (n+1)) rest ρ' μ=r):a3j (a0e Γ (n+1)) (.ite c a b::rest) ρ μ=r:=
 (a0a ((a0m h rfl).trans k)).trans k2
theorem a6s{c:X}{bv:Bool}{a b rest:List Mine.S}{ρ':Rho}{v:V}(h:ev Γ (n+1) c ρ μ=some (.bool bv,μ))(k:a3j (a0e Γ n) (if bv then a else b) ρ μ=some (.ret v,ρ',μ)):a3j (a0e Γ (n+1)) (.ite c a b::rest) ρ μ=some (.ret v,ρ',μ):=
 a4q ((a0m h rfl).trans k)
end
section
variable{Γ:G}{n:Nat}{is:List Nat}{ss:List Mine.S}{args:List V}{μ μ₂ μ₃:Mu}{ρ₂:Rho}
theorem a8m{v v':V}(hl:(is.length==args.length)=true)(h:exec Γ n ss (is.zip args) μ=some (.ret v,ρ₂,μ₂))(ht:μ₂.take μ.length=μ₃)(hok:μ₃.all (okM μ.length)=true)(hf:a4u μ.length μ₂ v=some v'):a4f Γ n is ss args μ=some (v',μ₃):=by
 unfold a4f;rw [if_pos hl,h];dsimp only;rw [ht,if_pos hok,hf];rfl
theorem d2w(hl:(is.length==args.length)=true)(h:exec Γ n ss (is.zip args) μ=some (.next,ρ₂,μ₂))(ht:μ₂.take μ.length=μ₃)(hok:μ₃.all (okM μ.length)=true):a4f Γ n is ss args μ=some (.none,μ₃):=by
 unfold a4f;rw [if_pos hl,h];dsimp only;rw [ht,if_pos hok]
end
theorem c4d(th:a3e)(n:Nat)(i:Int)(μ:Mu)(h:a3y μ=true):cF (gL th) P_ISTERMINAL a2p (n+10) [.int i] μ=some (.bool (decide (i<256)),μ):=by
 have e:exec (gL th) (n+9) a2p (P_ISTERMINAL.zip [.int i]) μ=some (.ret (.bool (decide (i<256))),P_ISTERMINAL.zip [.int i],μ):=
  a6k (a0h (evl rfl) rfl rfl)
 exact a8m rfl e List.take_length h rfl
end
section
noncomputable def b0g(c:Nat):Bool:=c==10||c==9||c==13||c==32
noncomputable def nl(c:Nat)(n:Int):Int:=if c=10 then n+1 else n
noncomputable def a5u(p:Nat->Bool):List Nat->List Nat->Int->List Nat×List Nat×Int×Bool
 | [],tok,n=>(tok,[],n,true)
 | c::t,tok,n=>if p c then(tok,t,nl c n,false)else if c=92 then(match t with
   | []=>(tok,[],nl c n,true)
   | d::t'=>a5u p t' (tok++[d]) (nl d (nl c n)))
  else a5u p t (tok++[c]) (nl c n)
noncomputable def e1k(c:Nat):Bool:=c==34
noncomputable def d0o(r:List Nat×List Nat×Int×Bool):List Nat×List Nat×Int:=(r.1,r.2.1,r.2.2.1)
noncomputable def a0l:List Nat->Int->List Nat×List Nat×Int
 | [],n=>([],[],n)
 | c::t,n=>if b0g c then a0l t (nl c n)else d0o (if c=34 then a5u e1k t [] (nl c n)else a5u b0g (c::t) [] n)
theorem nf{b:Bool}(h:b=false):¬b=true:=fun q=>nt (h.symm.trans q)
section
variable{p:Nat->Bool}{c:Nat}
theorem a3l(h:p c=true)(t tok:List Nat)(n:Int):a5u p (c::t) tok n=(tok,t,nl c n,false):=by cases t<;>exact if_pos h
theorem a5y(h:p c=false)(h92:c≠92)(t tok:List Nat)(n:Int):a5u p (c::t) tok n=a5u p t (tok++[c]) (nl c n):=by cases t<;>exact(if_neg (nf h)).trans (if_neg h92)
theorem a9m(h:p 92=false)(tok:List Nat)(n:Int):a5u p [92] tok n=(tok,[],nl 92 n,true):=if_neg (nf h)
theorem b0r(h:p 92=false)(d:Nat)(t tok:List Nat)(n:Int):a5u p (92::d::t) tok n=a5u p t (tok++[d]) (nl d (nl 92 n)):=if_neg (nf h)
theorem a9s(h:p 92=false){P:List Nat->List Nat->Int->Prop}(h0:∀ tok n,P [] tok n)(hE:∀ c t tok n,p c=true->P (c::t) tok n)(hB:∀ tok n,P [92] tok n)(hD:∀ d t tok n,P t (tok++[d]) (nl d (nl 92 n))->P (92::d::t) tok n)
  (h1:∀ c t tok n,p c=false->c≠92->P t (tok++[c]) (nl c n)->P (c::t) tok n):∀(m:Nat) (t tok:List Nat) (n:Int),t.length<=m->P t tok n:=by
 intro m;induction m with
 | zero=>intro t tok n hm;induction t using List.casesOn with
  | nil=>exact h0 tok n
  | cons _ _=>exact absurd hm (Nat.not_succ_le_zero _)
 | succ m ih=>
  intro t tok n hm;induction t using List.casesOn with
  | nil=>exact h0 tok n
  | cons c t=>
   have hm2:=Nat.le_of_succ_le_succ hm;induction hc:p c using Bool.casesOn with
   | true=>exact hE c t tok n hc
   | false=>
    by_cases h92:c=92
    ·subst h92
     induction t using List.casesOn with
     | nil=>exact hB tok n
     | cons d t=>exact hD d t tok n (ih t _ _ (Nat.le_of_succ_le hm2))
    ·exact h1 c t tok n hc h92 (ih t _ _ hm2)
theorem a7j(h:b0g c=true)(t:List Nat)(n:Int):a0l (c::t) n=a0l t (nl c n):=if_pos h
theorem a6i(t:List Nat)(n:Int):a0l (34::t) n=d0o (a5u e1k t [] (nl 34 n)):=rfl
theorem a7g(h:b0g c=false)(h34:c≠34)(t:List Nat)(n:Int):a0l (c::t) n=d0o (a5u b0g (c::t) [] n):=(if_neg (nf h)).trans (congrArg d0o (if_neg h34))
end
structure LxIx where
 k:Nat
 kp:Nat
 ks:Nat
 kl:Nat
 kc:Nat
structure LxIx.Ok(x:LxIx)(μ:Mu):Prop where
 ks:μ[x.ks]?=some (.obj [x.kl,x.kc] (-3))
 kc:μ[x.kc]?=some (.obj [] (-6))
 lk:x.k<μ.length
 ll:x.kl<μ.length
 lp:x.kp<μ.length
 n1:x.k≠x.kl
 n2:x.ks≠x.k
 n3:x.ks≠x.kl
 n4:x.kc≠x.k
 n5:x.kc≠x.kl
 n6:x.kp≠x.k
 n7:x.kp≠x.kl
 n8:x.kp≠x.ks
noncomputable def stT(x:LxIx)(μ:Mu)(t:List Nat)(n:Int):Mu:=(μ.set x.kl (.list (chars t))).set x.k (.obj [x.kp,x.ks] n)
noncomputable def stX(x:LxIx)(μ:Mu)(t:List Nat)(n:Int)(e:Int):Mu:=stT x μ t n++[.obj [x.k] e]
section
variable{x:LxIx}{μ:Mu}{t:List Nat}{n e:Int}
theorem a2u:(stT x μ t n).length=μ.length:=by simp [stT]
theorem c2e(h:x.Ok μ):(stT x μ t n)[x.k]?=some (.obj [x.kp,x.ks] n):=by
 unfold stT;rw [List.getElem?_set_self (by simpa using h.lk)]
theorem d6j(h:x.Ok μ):(stT x μ t n)[x.kl]?=some (.list (chars t)):=by
 unfold stT;rw [List.getElem?_set_ne h.n1,List.getElem?_set_self h.ll]
theorem d4s(h:x.Ok μ):(stT x μ t n)[x.ks]?=some (.obj [x.kl,x.kc] (-3)):=by
 unfold stT;rw [List.getElem?_set_ne h.n2.symm,List.getElem?_set_ne h.n3.symm];exact h.ks
theorem d6d(h:x.Ok μ):(stT x μ t n)[x.kc]?=some (.obj [] (-6)):=by
 unfold stT;rw [List.getElem?_set_ne h.n4.symm,List.getElem?_set_ne h.n5.symm];exact h.kc
theorem e5e(h:x.Ok μ):(stT x μ t n)[x.kp]?=μ[x.kp]?:=by
 unfold stT;rw [List.getElem?_set_ne h.n6.symm,List.getElem?_set_ne h.n7.symm]
theorem a3v{l:Mu}{i:Nat}{m:M}{r:Mu}(h:l[i]?=some m):(l++r)[i]?=some m:=by
 rw [List.getElem?_append_left (List.getElem?_eq_some_iff.mp h).1];exact h
theorem c1t{c:Nat}:(chars (c::t)).getLast?=some (.str [c]):=by simp [chars]
theorem c1i{c:Nat}:(chars (c::t)).dropLast=chars t:=by simp [chars]
theorem c4i:(chars t).length=t.length:=by simp [chars]
theorem c6y{l r:Mu}{i:Nat}{m:M}(h:i<l.length):(l++r).set i m=l.set i m++r:=List.set_append_left _ _ h
noncomputable def e5y(μ:Mu)(k kl kp ks:Nat)(n:Int)(L:List V):Option V->Option (List Nat×Mu)
 | .none=>some ([],μ)
 | some (.str [c])=>if c<1114112 then(if c=10 then some ([c],(μ.set kl (.list L.dropLast)).set k (.obj [kp,ks] (n+1)))else some ([c],μ.set kl (.list L.dropLast)))else .none
 | _=>.none
theorem c8e{k kp ks kl kc:Nat}{L:List V}(h1:μ[k]?=some (.obj [kp,ks] n))(h2:μ[ks]?=some (.obj [kl,kc] (-3)))(h3:μ[kl]?=some (.list L))(h4:μ[kc]?=some (.obj [] (-6)))(hn:1<=n)(hl:L.length<=big):a0r μ k=e5y μ k kl kp ks n L L.getLast?:=by
 show(match (generalizing:=false) μ[k]? with | some (.obj [kp,ks] n)=>_ | _=>Option.none)=_
 rw [h1];refine(if_pos hn).trans ?_;show(match (generalizing:=false) μ[ks]? with | some (.obj [kl,kc] (-3))=>_ | _=>Option.none)=_
 rw [h2];show(match (generalizing:=false) μ[kl]?,μ[kc]? with | some (.list L),some (.obj [] (-6))=>_ | _,_=>Option.none)=_
 rw [h3,h4];exact(if_pos hl).trans rfl
theorem c9f{k kl kp ks:Nat}{L:List V}{c:Nat}(hL:L.getLast?=some (.str [c]))(hc:c<1114112):e5y μ k kl kp ks n L L.getLast?=if c=10 then some ([c],(μ.set kl (.list L.dropLast)).set k (.obj [kp,ks] (n+1)))else some ([c],μ.set kl (.list L.dropLast)):=by
 rw [hL];exact if_pos hc
theorem c8h{kf k:Nat}(hk:μ[kf]?=some (.obj [k] (-2))):draw μ kf=match (generalizing:=false) a0r μ k with | some ([],μ)=>some (.none,μ.set kf (.obj [k] (-4))) | some (c,μ)=>some (some c,μ) | .none=>.none:=by
 show(match (generalizing:=false) μ[kf]? with | some (.obj [k] (-2))=>_ | some (.obj [_] (-4))=>some (Option.none,μ) | _=>Option.none)=_
 rw [hk];rfl
theorem b0j(h:x.Ok μ){c:Nat}{r:Mu}(hn:1<=n)(hc:c<1114112)(hz:(c::t).length<=big):a0r (stT x μ (c::t) n++r) x.k=some ([c],stT x μ t (nl c n)++r):=by
 have hz':(chars (c::t)).length<=big:=by rw [c4i];exact hz
 rw [c8e (a3v (c2e h)) (a3v (d4s h)) (a3v (d6j h)) (a3v (d6d h)) hn hz',c9f c1t hc,c1i];have e:(stT x μ (c::t) n).set x.kl (.list (chars t))=stT x μ t n:=by
  unfold stT;rw [List.set_comm _ _ h.n1,List.set_set]
 have l1:x.kl<(stT x μ (c::t) n).length:=by rw [a2u];exact h.ll
 have l2:x.k<(stT x μ t n).length:=by rw [a2u];exact h.lk
 rw [c6y l1,e,c6y l2];unfold nl;split
 ·have:(stT x μ t n).set x.k (.obj [x.kp,x.ks] (n+1))=stT x μ t (n+1):=by unfold stT;rw [List.set_set]
  rw [this]
 ·rfl
theorem b3e(h:x.Ok μ){r:Mu}(hn:1<=n):a0r (stT x μ [] n++r) x.k=some ([],stT x μ [] n++r):=by
 exact c8e (a3v (c2e h)) (a3v (d4s h)) (a3v (d6j h)) (a3v (d6d h)) hn (Nat.zero_le _)
theorem d6o:(stX x μ t n e)[μ.length]?=some (.obj [x.k] e):=by
 unfold stX;rw [List.getElem?_append_right (by rw [a2u];exact Nat.le_refl _),a2u];simp
theorem a5o(h:x.Ok μ){c:Nat}(hn:1<=n)(hc:c<1114112)(hz:(c::t).length<=big):draw (stX x μ (c::t) n (-2)) μ.length=some (some [c],stX x μ t (nl c n) (-2)):=by
 rw [c8h d6o,show stX x μ (c::t) n (-2)=stT x μ (c::t) n++[.obj [x.k] (-2)]from rfl,b0j h hn hc hz];rfl
theorem b9x(h:x.Ok μ)(hn:1<=n):draw (stX x μ [] n (-2)) μ.length=some (.none,stX x μ [] n (-4)):=by
 rw [c8h d6o,show stX x μ [] n (-2)=stT x μ [] n++[.obj [x.k] (-2)]from rfl,b3e h hn];show some ((.none:Option (List Nat)),List.set (stT x μ [] n++[M.obj [x.k] (-2)]) μ.length (M.obj [x.k] (-4)))=some (.none,stT x μ [] n++[M.obj [x.k] (-4)]);have e:=List.set_append_right (s:=stT x μ [] n) (t:=[M.obj [x.k] (-2)]) μ.length (M.obj [x.k] (-4)) (by rw [a2u];exact Nat.le_refl _);rw [a2u]at e;rw [show List.set (stT x μ [] n++[M.obj [x.k] (-2)]) μ.length (M.obj [x.k] (-4))=stT x μ [] n++[M.obj [x.k] (-4)]from by rw [e];simp]
theorem d3r:draw (stX x μ [] n (-4)) μ.length=some (.none,stX x μ [] n (-4)):=by
 show(match (generalizing:=false) (stX x μ [] n (-4))[μ.length]? with | some (.obj [k] (-2))=>_ | some (.obj [_] (-4))=>some (Option.none,stX x μ [] n (-4)) | _=>Option.none)=_
 rw [d6o];rfl
end
theorem d6c{c:Nat}(h:c<1114112):PyData.strOk ⟨[c].toArray⟩=true:=by unfold PyData.strOk;simp [h]
theorem eq1{c d:Nat}(h:c<1114112)(hd:d<1114112):a0s .Eq (.str [c]) (.str [d])=some (decide (c=d)):=by
 simp only [e7d,e7k,e7a,e6v,e6s,e6w,e7o];rw [c4o (d6c h) (d6c hd)];simp
theorem e9h{c:Nat}(h:c<1114112):a0s .In (.str [c]) (.str ws)=some (b0g c):=by
 have e:=PySem.StrLaws.found_one (txt ws) c;refine congrArg some ?_;show(!(Builtin.Str.occurrences (txt ws) ⟨#[c]⟩ 0 (txt ws).length 1).isEmpty)=b0g c;rw [e];unfold b0g txt ws;simp only [List.mem_cons,List.not_mem_nil,or_false];by_cases h1:c=10<;>by_cases h2:c=9<;>by_cases h3:c=13<;>by_cases h4:c=32<;>simp [h1,h2,h3,h4]
end
section
structure RT(x:LxIx)(m:Nat)(ρ:Rho)(tok:List Nat):Prop where
 self:ρ.lookup 16=some (.mut x.k)
 tok:ρ.lookup 78=some (.str tok)
 fit:ρ.lookup 79=some (.mut m)
theorem RT.put17{x:LxIx}{m:Nat}{ρ:Rho}{tok:List Nat}(h:RT x m ρ tok)(v:V):RT x m (put 17 v ρ) tok:=
 ⟨by rw [a0b,if_neg (by decide)];exact h.self,by rw [a0b,if_neg (by decide)];exact h.tok,by rw [a0b,if_neg (by decide)];exact h.fit⟩
theorem RT.put78{x:LxIx}{m:Nat}{ρ:Rho}{tok:List Nat}(h:RT x m ρ tok)(t:List Nat):RT x m (put 78 (.str t) ρ) t:=
 ⟨by rw [a0b,if_neg (by decide)];exact h.self,by rw [a0b,if_pos rfl],by rw [a0b,if_neg (by decide)];exact h.fit⟩
theorem a4x{ρ:Rho}{v:V}:(put 17 v ρ).lookup 17=some v:=by rw [a0b,if_pos rfl]
noncomputable def c9a:Mine.S:=.ite (.cmp .Eq (.loc 17) (.cst (.str [92]))) [.assign 17 (.meth 21 (.loc 16) [])] []
noncomputable def d4v:Mine.S:=.aug 78 .Add (.loc 17)
section
variable{th:a3e}{x:LxIx}{μ:Mu}{ρ:Rho}{tok t:List Nat}{c:Nat}{n e:Int}{N:Nat}
theorem d2n(h:x.Ok μ)(hn:1<=n){r:Mu}:a3f (stT x μ t n++r) (.mut x.k)=true:=by
 show(match (generalizing:=false) (stT x μ t n++r)[x.k]? with | some (.obj [_,_] n)=>decide (1<=n) | _=>false)=true
 rw [a3v (c2e h)];exact decide_eq_true hn
theorem d7z(h:x.Ok μ)(hn:1<=n){m:Nat}(hr:RT x m ρ tok){r:Mu}{s:List Nat}{μ':Mu}(hrd:a0r (stT x μ t n++r) x.k=some (s,μ')):ev (gL th) (N+13) (.meth 21 (.loc 16) []) ρ (stT x μ t n++r)=some (.str s,μ'):=by
 refine(a4w (evl hr.self) (show(if(21=21∨21=22∨21=23)then a3f (stT x μ t n++r) (.mut x.k)else b7g 21 (.mut x.k) (stT x μ t n++r))=true from(if_pos (Or.inl rfl)).trans (d2n h hn)) rfl).trans ?_;show(if 11<=N+12 then(a0r (stT x μ t n++r) x.k).map fun p=>(V.str p.1,p.2)else .none)=_;rw [if_pos (Nat.le_add_left 11 (N+1)),hrd];rfl
theorem a2y(hn:1<=n)(c:Nat):1<=nl c n:=by
 unfold nl;by_cases h:c=10
 ·rw [if_pos h];exact Int.le_trans hn (Int.le_add_of_nonneg_right (by decide))
 ·rw [if_neg h];exact hn
noncomputable def b4w(cx:X):List Mine.S:=[.ite cx [.ret (.loc 78)] [c9a],d4v]
noncomputable def cxQ:X:=.cmp .Eq (.loc 17) (.cst (.str [34]))
noncomputable def cxW:X:=.cmp .In (.loc 17) (.attr 25 (.loc 16))
theorem c1c{cx:X}{a:List Mine.S}{μ' μ'':Mu}{ρ' ρ'':Rho}(hcx:ev (gL th) (N+21) cx ρ μ=some (.bool false,μ))(he:a0e (gL th) (N+20) c9a ρ μ=some (.next,ρ',μ'))(ha:a0e (gL th) (N+21) d4v ρ' μ'=some (.next,ρ'',μ'')):exec (gL th) (N+22) [.ite cx a [c9a],d4v] ρ μ=some (.next,ρ'',μ''):=
 (a0a ((a0m hcx rfl).trans (show a3j (a0e (gL th) (N+20)) [c9a] ρ μ=some (.next,ρ',μ')from a0a he))).trans (a0a ha)
theorem f1n(h17:ρ.lookup 17=some (.str [c]))(hc:c<1114112)(h92:c≠92){μ:Mu}:a0e (gL th) (N+20) c9a ρ μ=some (.next,ρ,μ):=
 a0m (a0h (evl h17) rfl (eq1 hc (show 92<1114112 by decide))) (congrArg some (decide_eq_false h92))
theorem f0o(h:x.Ok μ)(hn:1<=n){m:Nat}(hr:RT x m ρ tok)(h17:ρ.lookup 17=some (.str [92])){s:List Nat}{r:Mu}{μ':Mu}(hrd:a0r (stT x μ t n++r) x.k=some (s,μ')):a0e (gL th) (N+20) c9a ρ (stT x μ t n++r)=some (.next,put 17 (.str s) ρ,μ'):=
 (a0m (a0h (evl h17) rfl (eq1 (by decide) (by decide))) rfl).trans (a0a (a0y (d7z (N:=N+6) h hn hr hrd)))
theorem e9u{s:List Nat}(h17:ρ.lookup 17=some (.str s))(hk:ρ.lookup 78=some (.str tok))(hl:tok.length+s.length<=big){μ:Mu}:a0e (gL th) (N+1) d4v ρ μ=some (.next,put 78 (.str (tok++s)) ρ,μ):=
 d2f hk (evl h17) (au_s.trans (if_pos (decide_eq_true hl)))
theorem c2x{cx:X}{a:List Mine.S}{μ:Mu}{m:Nat}(hcx:ev (gL th) (N+21) cx ρ μ=some (.bool false,μ))(hr:RT x m ρ tok)(h17:ρ.lookup 17=some (.str [c]))(hc:c<1114112)(h92:c≠92)(hl:tok.length+1<=big) :
  exec (gL th) (N+22) [.ite cx a [c9a],d4v] ρ μ=some (.next,put 78 (.str (tok++[c])) ρ,μ):=
 c1c hcx (f1n h17 hc h92) (e9u (N:=N+20) h17 hr.tok hl)
theorem c0h{cx:X}{a:List Mine.S}{m:Nat}(h:x.Ok μ)(hn:1<=n){r:Mu}(hcx:ev (gL th) (N+21) cx ρ (stT x μ t n++r)=some (.bool false,stT x μ t n++r))(hr:RT x m ρ tok)(h17:ρ.lookup 17=some (.str [92])){s:List Nat}{μ':Mu}(hrd:a0r (stT x μ t n++r) x.k=some (s,μ'))(hl:tok.length+s.length<=big) :
  exec (gL th) (N+22) [.ite cx a [c9a],d4v] ρ (stT x μ t n++r)=some (.next,put 78 (.str (tok++s)) (put 17 (.str s) ρ),μ'):=
 c1c hcx (f0o h hn hr h17 hrd) (e9u (N:=N+20) a4x (hr.put17 _).tok hl)
theorem e9z(h17:ρ.lookup 17=some (.str [c]))(hc:c<1114112){μ:Mu}:ev (gL th) (N+21) cxQ ρ μ=some (.bool (e1k c),μ):=
 a0h (evl h17) rfl (eq1 hc (show 34<1114112 by decide))
theorem e4f(h:x.Ok μ)(hn:1<=n){m:Nat}(hr:RT x m ρ tok)(h17:ρ.lookup 17=some (.str [c]))(hc:c<1114112){r:Mu}:ev (gL th) (N+21) cxW ρ (stT x μ t n++r)=some (.bool (b0g c),stT x μ t n++r):=by
 refine a0h (evl h17) (c4y (v:=.str ws) (evl hr.self) ?_) (e9h hc);show(match (generalizing:=false) (stT x μ t n++r)[x.k]? with | some (.obj [kp,_] n)=>if 1<=n then some (V.str ws)else .none | _=>.none)=_
 rw [a3v (c2e h)];exact if_pos hn
section
variable{f:Rho->Mu->Option (F×Rho×Mu)}{t':T}{kf m:Nat}{μ' μ₂ μ₃:Mu}{s:List Nat}{ρ₂ ρK:Rho}
theorem c6t(hd:draw μ' kf=some (.none,μ₂)):a2t f t' kf (m+1) ρ μ'=some (.next,ρ,μ₂):=by
 show(match (generalizing:=false) draw μ' kf with | .none=>Option.none | some (.none,μ)=>some (F.next,ρ,μ) | some (some c,μ)=>_)=_
 rw [hd]
theorem d8i(hd:draw μ' kf=some (some s,μ₂))(hb:a2b t' (.str s) ρ=some ρ₂):a2t f t' kf (m+1) ρ μ'=(match (generalizing:=false) f ρ₂ μ₂ with
  | .none=>Option.none | some (.brk,ρ,μ)=>some (.next,ρ,μ) | some (.ret v,ρ,μ)=>some (.ret v,ρ,μ) | some (_,ρ,μ)=>a2t f t' kf m ρ μ):=by
 show(match (generalizing:=false) draw μ' kf with | .none=>Option.none | some (.none,μ)=>some (F.next,ρ,μ) | some (some c,μ)=>(match (generalizing:=false) a2b t' (.str c) ρ with
  | .none=>Option.none | some ρ=>(match (generalizing:=false) f ρ μ with
   | .none=>Option.none | some (.brk,ρ,μ)=>some (.next,ρ,μ) | some (.ret v,ρ,μ)=>some (.ret v,ρ,μ) | some (_,ρ,μ)=>a2t f t' kf m ρ μ)))=_
 rw [hd];dsimp only;rw [hb]
theorem b3b(hd:draw μ' kf=some (some s,μ₂))(hb:a2b t' (.str s) ρ=some ρ₂)(hf:f ρ₂ μ₂=some (.next,ρK,μ₃)):a2t f t' kf (m+1) ρ μ'=a2t f t' kf m ρK μ₃:=by rw [d8i hd hb,hf]
theorem d7t(hd:draw μ' kf=some (some s,μ₂))(hb:a2b t' (.str s) ρ=some ρ₂)(hf:f ρ₂ μ₂=some (.cont,ρK,μ₃)):a2t f t' kf (m+1) ρ μ'=a2t f t' kf m ρK μ₃:=by rw [d8i hd hb,hf]
theorem d6g{v:V}(hd:draw μ' kf=some (some s,μ₂))(hb:a2b t' (.str s) ρ=some ρ₂)(hf:f ρ₂ μ₂=some (.ret v,ρK,μ₃)):a2t f t' kf (m+1) ρ μ'=some (.ret v,ρK,μ₃):=by rw [d8i hd hb,hf]
end
noncomputable def LoopIs(x:LxIx)(μ:Mu)(r:List Nat×List Nat×Int×Bool)(o:Option (F×Rho×Mu)):Prop:=
 ∃ ρ',o=(if r.2.2.2 then some (.next,ρ',stX x μ [] r.2.2.1 (-4))else some (.ret (.str r.1),ρ',stX x μ r.2.1 r.2.2.1 (-2)))/\RT x μ.length ρ' r.1
theorem LoopIs.to{r:List Nat×List Nat×Int×Bool}{o o':Option (F×Rho×Mu)}(e:o=o')(h:LoopIs x μ r o'):LoopIs x μ r o:=e▸h
theorem e4a{d:Nat}(h:tok.length+(c::t).length<=big):(tok++[d]).length+t.length<=big:=by
 rw [List.length_append,Nat.add_assoc,Nat.add_comm [d].length];exact h
theorem e5b(h:tok.length+(c::t).length<=big):tok.length+1<=big:=Nat.le_trans (Nat.add_le_add_left (Nat.succ_le_succ (Nat.zero_le _)) _) h
theorem d1k(h:tok.length+(c::t).length<=big):tok.length+t.length<=big:=Nat.le_trans (Nat.add_le_add_left (Nat.le_succ _) _) h
theorem c9d(h:tok.length+t.length<=big):t.length<=big:=Nat.le_trans (Nat.le_add_left _ _) h
theorem e9t{p:Nat->Bool}{cx:X}(h:x.Ok μ)(hp:p 92=false)(hcx:∀ {c:Nat} {t tok:List Nat} {n:Int} {ρ:Rho} {b:Bool},1<=n->RT x μ.length ρ tok->ρ.lookup 17=some (.str [c])->c<1114112->p c=b->ev (gL th) (N+21) cx ρ (stX x μ t n (-2))=some (.bool b,stX x μ t n (-2)))
  (t tok:List Nat) (n:Int):∀(fuel:Nat) (ρ:Rho),t.length<fuel->1<=n->(∀ c∈t,c<1114112)->tok.length+t.length<=big->RT x μ.length ρ tok →
  LoopIs x μ (a5u p t tok n) (a2t (fun ρ μ=>exec (gL th) (N+22) (b4w cx) ρ μ) (.one 17) μ.length fuel ρ (stX x μ t n (-2))):=by
 have h0:∀ {tok:List Nat} {n:Int} {fuel:Nat} {ρ:Rho},0<fuel->1<=n->RT x μ.length ρ tok->LoopIs x μ (tok,[],n,true) (a2t (fun ρ μ=>exec (gL th) (N+22) (b4w cx) ρ μ) (.one 17) μ.length fuel ρ (stX x μ [] n (-2))):=fun {_ _ fuel ρ} hf hn hr=>by
  induction fuel using Nat.casesOn with
  | zero=>exact absurd hf (Nat.lt_irrefl _)
  | succ fuel=>exact⟨ρ,c6t (b9x h hn),hr⟩
 refine a9s hp (P:=fun t tok n=>∀(fuel:Nat) (ρ:Rho),t.length<fuel->1<=n->(∀ c∈t,c<1114112)->tok.length+t.length<=big->RT x μ.length ρ tok →
  LoopIs x μ (a5u p t tok n) (a2t (fun ρ μ=>exec (gL th) (N+22) (b4w cx) ρ μ) (.one 17) μ.length fuel ρ (stX x μ t n (-2)))) ?_ ?_ ?_ ?_ ?_ t.length t tok n (Nat.le_refl _)<;>clear t tok n
 ·intro tok n fuel ρ hf hn _ _ hr
  exact h0 hf hn hr
 ·intro c t tok n hc fuel ρ hf hn hz hl hr
  induction fuel using Nat.casesOn with
  | zero=>exact absurd hf (Nat.not_lt_zero _)
  | succ fuel=>
   have hcc:=hz c List.mem_cons_self;have hr1:=hr.put17 (.str [c]);rw [a3l hc];exact⟨_,d6g (a5o h hn hcc (c9d hl)) rfl (a4q ((a0m (hcx (a2y hn c) hr1 a4x hcc hc) rfl).trans (a6k (evl hr1.tok)))),hr1⟩
 ·intro tok n fuel ρ hf hn hz hl hr
  induction fuel using Nat.casesOn with
  | zero=>exact absurd hf (Nat.not_lt_zero _)
  | succ fuel=>
   have hcc:=hz 92 List.mem_cons_self;have hr1:=hr.put17 (.str [92]);rw [a9m hp];refine .to (b3b (a5o h hn hcc (c9d hl)) rfl (c0h h (a2y hn 92) (hcx (a2y hn 92) hr1 a4x hcc hp) hr1 a4x (b3e h (a2y hn 92)) (d1k hl))) ?_;have:=h0 (Nat.lt_of_succ_lt_succ hf) (a2y hn 92) ((hr1.put17 (.str [])).put78 (tok++[]));rw [List.append_nil]at this ⊢;exact this
 ·intro d t tok n ih fuel ρ hf hn hz hl hr
  induction fuel using Nat.casesOn with
  | zero=>exact absurd hf (Nat.not_lt_zero _)
  | succ fuel=>
   have hcc:=hz 92 List.mem_cons_self;have hr1:=hr.put17 (.str [92]);rw [b0r hp];refine .to (b3b (a5o h hn hcc (c9d hl)) rfl (c0h h (a2y hn 92) (hcx (a2y hn 92) hr1 a4x hcc hp) hr1 a4x (b0j h (a2y hn 92) (hz d (List.mem_cons_of_mem _ List.mem_cons_self)) (c9d (d1k hl))) (e5b (d1k hl)))) ?_;exact ih fuel _ (Nat.lt_of_succ_lt (Nat.lt_of_succ_lt_succ hf)) (a2y (a2y hn 92) d) (fun c hc=>hz c (List.mem_cons_of_mem _ (List.mem_cons_of_mem _ hc))) (e4a (d1k hl)) ((hr1.put17 (.str [d])).put78 (tok++[d]))
 ·intro c t tok n hc h92 ih fuel ρ hf hn hz hl hr
  induction fuel using Nat.casesOn with
  | zero=>exact absurd hf (Nat.not_lt_zero _)
  | succ fuel=>
   have hcc:=hz c List.mem_cons_self;have hr1:=hr.put17 (.str [c]);rw [a5y hc h92];refine .to (b3b (a5o h hn hcc (c9d hl)) rfl (c2x (hcx (a2y hn c) hr1 a4x hcc hc) hr1 a4x hcc h92 (e5b hl))) ?_;exact ih fuel _ (Nat.lt_of_succ_lt_succ hf) (a2y hn c) (fun e he=>hz e (List.mem_cons_of_mem _ he)) (e4a hl) (hr1.put78 (tok++[c]))
theorem b5r{p:Nat->Bool}(hp:p 92=false)(t tok:List Nat)(n:Int):(a5u p t tok n).2.2.2=true->(a5u p t tok n).2.1=[]:=by
 refine a9s hp (P:=fun t tok n=>(a5u p t tok n).2.2.2=true->(a5u p t tok n).2.1=[]) (fun zz zz zz=>rfl) ?_ ?_ ?_ ?_ t.length t tok n (Nat.le_refl _)<;>clear t tok n
 ·intro c t tok n hc h;rw [a3l hc]at h;exact nt h
 ·intro tok n _;rw [a9m hp]
 ·intro d t tok n ih;rw [b0r hp];exact ih
 ·intro c t tok n hc h92 ih;rw [a5y hc h92];exact ih
end
end
section
noncomputable def d0v:List Mine.S:=[.ite cxW [.cont] [],.ite cxQ [.chars (.one 17) 79 (b4w cxQ)] [c9a,d4v,.chars (.one 17) 79 (b4w cxW)]]
section
variable{th:a3e}{x:LxIx}{μ:Mu}{ρ:Rho}{tok t:List Nat}{c:Nat}{n e:Int}{N:Nat}
noncomputable def Ends(x:LxIx)(μ:Mu)(r:List Nat×List Nat×Int)(out:Option (F×Rho×Mu)):Prop:=
 ∃ f ρ' e,out=some (f,ρ',stX x μ r.2.1 r.2.2 e)/\(f=.ret (.str r.1)∨(f=.next/\RT x μ.length ρ' r.1/\e = -4/\r.2.1=[]))
theorem Ends.to{r:List Nat×List Nat×Int}{o o':Option (F×Rho×Mu)}(e:o=o')(h:Ends x μ r o'):Ends x μ r o:=e▸h
theorem f2w:((gL th).lexOn&&decide (12<=N+21))=true:=decide_eq_true (Nat.le_add_left 12 (N+9))
theorem b1u{t':T}{b:List Mine.S}{m:Nat}(hr:RT x m ρ tok){μ:Mu}:a0e (gL th) (N+21) (.chars t' 79 b) ρ μ=a2t (fun ρ μ=>exec (gL th) (N+21) b ρ μ) t' m big ρ μ:=by
 rw [b4b];refine(if_pos f2w).trans ?_;rw [hr.fit]
theorem d5d{p:Nat->Bool}{cx:X}(h:x.Ok μ)(hp:p 92=false)(hcx:∀ {c:Nat} {t tok:List Nat} {n:Int} {ρ:Rho} {b:Bool},1<=n->RT x μ.length ρ tok->ρ.lookup 17=some (.str [c])->c<1114112->p c=b->ev (gL th) (N+21) cx ρ (stX x μ t n (-2))=some (.bool b,stX x μ t n (-2)))
  (hf:t.length<big) (hn:1<=n) (hc:∀ c∈t,c<1114112) (hr:RT x μ.length ρ tok) (hl:tok.length+t.length<=big):Ends x μ (d0o (a5u p t tok n)) (a0e (gL th) (N+22) (.chars (.one 17) 79 (b4w cx)) ρ (stX x μ t n (-2))):=by
 obtain⟨ρ',e',hr'⟩:=e9t (th:=th) (N:=N) h hp hcx t tok n big ρ hf hn hc hl hr;refine .to ((b1u (N:=N+1) hr).trans e') ?_;induction hE:(a5u p t tok n).2.2.2 using Bool.casesOn with
 | true=>exact⟨.next,ρ',-4,(b5r hp t tok n hE).symm▸rfl,.inr ⟨rfl,hr',rfl,b5r hp t tok n hE⟩⟩
 | false=>exact⟨_,ρ',-2,rfl,.inl rfl⟩
theorem b3h{r:List Nat×List Nat×Int}{s:Mine.S}{f:Mine.S->Rho->Mu->Option (F×Rho×Mu)}{μO:Mu}(h:Ends x μ r (f s ρ μO)):Ends x μ r (a3j f [s] ρ μO):=by
 obtain⟨g,ρ',e,h1,h2⟩:=h;refine⟨g,ρ',e,?_,h2⟩;rcases h2 with rfl | ⟨rfl,_⟩
 ·exact a4q h1
 ·exact a0a h1
theorem hQ{c:Nat}{t tok:List Nat}{n:Int}{ρ:Rho}{b:Bool}(_:1<=n)(_:RT x μ.length ρ tok)(h17:ρ.lookup 17=some (.str [c]))(hc:c<1114112)(hp:e1k c=b):ev (gL th) (N+21) cxQ ρ (stX x μ t n (-2))=some (.bool b,stX x μ t n (-2)):=hp▸e9z h17 hc
theorem hW(h:x.Ok μ){c:Nat}{t tok:List Nat}{n:Int}{ρ:Rho}{b:Bool}(hn:1<=n)(hr:RT x μ.length ρ tok)(h17:ρ.lookup 17=some (.str [c]))(hc:c<1114112)(hp:b0g c=b):ev (gL th) (N+21) cxW ρ (stX x μ t n (-2))=some (.bool b,stX x μ t n (-2)):=hp▸e4f (r:=[.obj [x.k] (-2)]) h hn hr h17 hc
theorem e7z(h:x.Ok μ)(hf:(c::t).length<big)(hn:1<=n)(hc:∀ d∈c::t,d<1114112)(hr:RT x μ.length ρ [])(h17:ρ.lookup 17=some (.str [c]))(hw:b0g c=false):Ends x μ (a0l (c::t) n) (exec (gL th) (N+25) d0v ρ (stX x μ t (nl c n) (-2))):=by
 have hcc:=hc c List.mem_cons_self;have hct:∀ d∈t,d<1114112:=fun d hd=>hc d (List.mem_cons_of_mem _ hd);have hft:t.length<big:=Nat.lt_of_succ_lt hf;have n':=a2y hn c;refine .to (a0a (a0m (hW (N:=N+3) h n' hr h17 hcc hw) rfl)) (b3h ?_);by_cases h34:c=34
 ·subst h34
  rw [a6i];refine .to (a0m (hQ (N:=N+3) n' hr h17 hcc rfl) rfl) (b3h (s:=.chars (.one 17) 79 (b4w cxQ)) ?_);exact d5d (N:=N+1) h rfl hQ hft n' hct hr (by rw [List.length_nil,Nat.zero_add];exact Nat.le_of_lt hft)
 ·rw [a7g hw h34]
  refine .to (a0m (hQ (N:=N+3) n' hr h17 hcc (beq_false_of_ne h34)) rfl) ?_;have fin:∀ {t' tok:List Nat} {n':Int} {ρI:Rho} {s:List Nat},a0e (gL th) (N+23) c9a ρ (stX x μ t (nl c n) (-2))=some (.next,ρI,stX x μ t' n' (-2))->ρI.lookup 17=some (.str s)->RT x μ.length ρI []->t'.length+s.length<big->1<=n'->(∀ d∈t',d<1114112)->a5u b0g (c::t) [] n=a5u b0g t' s n' →
    Ends x μ (d0o (a5u b0g (c::t) [] n)) (a3j (a0e (gL th) (N+23)) [c9a,d4v,.chars (.one 17) 79 (b4w cxW)] ρ (stX x μ t (nl c n) (-2))):=fun {t' tok n' ρI s} e3 h17 hr hl hn hc e=>by
   rw [e];refine .to ((a0a e3).trans (a0a (e9u (N:=N+22) h17 hr.tok (by rw [List.length_nil,Nat.zero_add];exact Nat.le_trans (Nat.le_add_left _ _) (Nat.le_of_lt hl))))) (b3h ?_);exact d5d (N:=N+1) (tok:=s) h rfl (hW h) (Nat.lt_of_le_of_lt (Nat.le_add_right _ _) hl) hn hc (hr.put78 s) (by rw [Nat.add_comm];exact Nat.le_of_lt hl)
  by_cases h92:c=92
  ·subst h92
   induction t using List.casesOn with
   | nil=>exact fin (s:=[]) (t':=[]) (tok:=[]) (f0o (N:=N+3) h n' hr h17 (b3e h n')) a4x (hr.put17 _) (by decide) n' hct rfl
   | cons d t=>exact fin (s:=[d]) (tok:=[]) (f0o (N:=N+3) h n' hr h17 (b0j h n' (hct d List.mem_cons_self) (Nat.le_of_lt hft))) a4x (hr.put17 _) hft (a2y n' d) (fun z hz=>hct z (List.mem_cons_of_mem _ hz)) rfl
  ·exact fin (s:=[c]) (tok:=[]) (f1n (N:=N+3) h17 hcc h92) h17 hr hf n' hct (a5y hw h92 t [] n)
theorem f0d(h:x.Ok μ):∀(fuel:Nat) (t:List Nat) (n:Int) (ρ:Rho),t.length<fuel->t.length<big->1<=n->(∀ c∈t,c<1114112)->RT x μ.length ρ [] →
  Ends x μ (a0l t n) (a2t (fun ρ μ=>exec (gL th) (N+25) d0v ρ μ) (.one 17) μ.length fuel ρ (stX x μ t n (-2))):=by
 intro fuel;induction fuel with
 | zero=>intro t n ρ hf;exact absurd hf (Nat.not_lt_zero _)
 | succ fuel ih=>
  intro t n ρ hf hb hn hc hr;induction t using List.casesOn with
  | nil=>exact⟨.next,ρ,-4,c6t (b9x h hn),.inr ⟨rfl,hr,rfl,rfl⟩⟩
  | cons c t=>
   have hcc:=hc c List.mem_cons_self;have hr1:=hr.put17 (.str [c]);have hd:=a5o h hn hcc (Nat.le_of_lt hb);induction hw:b0g c using Bool.casesOn with
   | true=>
    rw [a7j hw];refine .to (d7t hd rfl (c6x ((a0m (hW (N:=N+3) h (a2y hn c) hr1 a4x hcc hw) rfl).trans rfl))) ?_;exact ih t (nl c n) _ (Nat.lt_of_succ_lt_succ hf) (Nat.lt_of_succ_lt hb) (a2y hn c) (fun d hd=>hc d (List.mem_cons_of_mem _ hd)) hr1
   | false=>
    obtain⟨f,ρ',e',h1,h2⟩:=e7z (th:=th) (N:=N) (t:=t) h hb hn hc hr1 a4x hw;rcases h2 with rfl | ⟨rfl,hr',rfl,hrest⟩
    ·exact⟨_,ρ',e',d6g hd rfl h1,.inl rfl⟩
    ·induction fuel using Nat.casesOn with
     | zero=>exact absurd (Nat.lt_of_succ_lt_succ hf) (Nat.not_lt_zero _)
     | succ f'=>exact⟨.next,ρ',-4,(b3b hd rfl h1).trans (c6t (by rw [hrest];exact d3r)),.inr ⟨rfl,hr',rfl,hrest⟩⟩
end
end
section
theorem a8a(l:List (List Nat)):a0q (l.map .str)=true:=by
 induction l with
 | nil=>rfl
 | cons a l ih=>exact ih
theorem a9c(t:List Nat):a0q (chars t)=true:=by
 have:chars t=(t.reverse.map fun c=>[c]).map .str:=(List.map_map ..).symm;rw [this];exact a8a _
theorem b9h{μ:Mu}(h:a3y μ=true){i:Nat}{m:M}(hi:μ[i]?=some m):okM μ.length m=true:=List.all_eq_true.mp h m (List.mem_of_getElem? hi)
theorem a9k{μ:Mu}(h:a3y μ=true){i:Nat}{m:M}(hm:okM μ.length m=true):a3y (μ.set i m)=true:=by
 unfold a3y at *;rw [List.length_set,List.all_eq_true];intro z hz;rcases List.mem_or_eq_of_mem_set hz with q | q
 ·exact List.all_eq_true.mp h z q
 ·rw [q];exact hm
section
variable{th:a3e}{x:LxIx}{μ:Mu}{t:List Nat}{n:Int}{N:Nat}
theorem e2j{k kp ks:Nat}(hk:μ[k]?=some (.obj [kp,ks] n))(hn:1<=n):(gL th).attr 24 (.mut k) μ=some (.mut kp):=by
 show(match (generalizing:=false) μ[k]? with | some (.obj [kp,_] n)=>if 1<=n then some (V.mut kp)else .none | _=>.none)=_
 rw [hk];exact if_pos hn
theorem e7b{k kp ks m:Nat}{ρ:Rho}(hk:μ[k]?=some (.obj [kp,ks] n))(hn:1<=n):ev (gL th) (m+2) (.attr 24 (.loc 16)) ((16,.mut k)::ρ) μ=some (.mut kp,μ):=c4y (evl rfl) (e2j hk hn)
theorem a5p{k:Nat}{l:List V}(hp:μ[k]?=some (.list l)):look μ (.mut k)=.lst l:=by rw [e9s,hp]
theorem own_list{k:Nat}{l:List V}(hp:μ[k]?=some (.list l)):a7s μ (.mut k)=true:=by
 show(match (generalizing:=false) μ[k]? with | some (.list _)=>true | _=>false)=true
 rw [hp]
theorem d3v(h:x.Ok μ)(ok:a3y μ=true):a3y (stT x μ t n)=true:=by
 unfold stT;refine a9k (a9k ok (show okM μ.length (.list (chars t))=true from a9c t)) ?_;have hks:=(List.getElem?_eq_some_iff.mp h.ks).1;have hkp:=h.lp;show(decide _&&(decide _&&true))=true;rw [List.length_set,decide_eq_true hks,decide_eq_true hkp];rfl
theorem e0l(h:x.Ok μ)(ok:a3y μ=true)(hp:μ[x.kp]?=some (.list []))(hb:t.length<big)(hn:1<=n)(hc:∀ c∈t,c<1114112) :
  mF (gL th) P_get_token a1l (N+30) (.mut x.k) [] (stT x μ t n)=some (.str (a0l t n).1,stT x μ (a0l t n).2.1 (a0l t n).2.2):=by
 have hok:∀ t' n',((stT x μ t' n').all (okM (stT x μ t n).length))=true:=fun t' n'=>by
  have:=d3v (t:=t') (n:=n') h ok;unfold a3y at this;rw [a2u]at this ⊢;exact this
 have hr:RT x μ.length [(16,.mut x.k),(78,.str []),(79,.mut μ.length)] []:=⟨rfl,rfl,rfl⟩;obtain⟨f,ρ',e,h1,h2⟩:=f0d (th:=th) (N:=N+3) h big t n _ hb hb hn hc hr;have ht:∀ {t' n' e'},(stX x μ t' n' e').take (stT x μ t n).length=stT x μ t' n':=fun {t' n' e'}=>by
  unfold stX;rw [List.take_append_of_le_length (by rw [a2u,a2u];exact Nat.le_refl _),a2u,← a2u (x:=x) (μ:=μ) (t:=t') (n:=n'),List.take_length]
 have run:∀ {z:Option (F×Rho×Mu)},a3j (a0e (gL th) (N+28)) [.chars (.one 17) 79 d0v,.ret (.loc 78)] [(16,.mut x.k),(78,.str []),(79,.mut μ.length)] (stX x μ t n (-2))=z->exec (gL th) (N+29) a1l (P_get_token.zip [.mut x.k]) (stT x μ t n)=z:=fun hz=>by
  refine(a0a ((a0m (e7b (c2e h) hn) (by rw [a5p ((e5e h).trans hp)];rfl)).trans rfl)).trans ((a0a rfl).trans ((a0a ?_).trans hz));rw [e8q];refine(if_pos rfl).trans ?_;show(match (generalizing:=false) (stT x μ t n)[x.k]? with | some (.obj [_,_] m)=>if 1<=m then some (F.next,put 79 (.mut (stT x μ t n).length) [(16,V.mut x.k),(78,V.str [])],stT x μ t n++[M.obj [x.k] (-2)])else .none | _=>.none)=_
  rw [c2e h];refine(if_pos hn).trans ?_;rw [a2u];rfl
 have e4:a0e (gL th) (N+28) (.chars (.one 17) 79 d0v) [(16,.mut x.k),(78,.str []),(79,.mut μ.length)] (stX x μ t n (-2))=some (f,ρ',stX x μ (a0l t n).2.1 (a0l t n).2.2 e):=(b1u (N:=N+7) hr).trans h1;rcases h2 with rfl | ⟨rfl,hr',rfl,hrest⟩
 ·exact a8m (by rfl) (run (a4q e4)) ht (hok _ _) rfl
 ·exact a8m (by rfl) (run ((a0a e4).trans (a6k (evl hr'.tok)))) ht (hok _ _) rfl
theorem d3b{k kp ks:Nat}{s:List Nat}{r:List V}(hk:μ[k]?=some (.obj [kp,ks] n))(hn:1<=n)(hp:μ[kp]?=some (.list (.str s::r)))(hz:(V.str s::r).length<=big)(ok:a3y μ=true) :
  mF (gL th) P_get_token a1l (N+30) (.mut k) [] μ=some (.str s,μ.set kp (.list r)):=by
 have el:=a5p hp;have e1:exec (gL th) (N+29) a1l (P_get_token.zip [.mut k]) μ=some (.ret (.str s),[(16,.mut k)],μ.set kp (.list r)):=by
  refine a4q ((a0m (bv:=true) (e7b hk hn) (by rw [el,f4u,if_pos hz];rfl)).trans (a4q (c0d ((a4w (e7b hk hn) (show(gL th).find 11 (.mut kp) μ=true from own_list hp) (a2i rfl)).trans ?_))));show(match (generalizing:=false) μ[kp]? with | some (.list (x::l))=>if(x::l).length<=big then some (x,μ.set kp (.list l))else .none | _=>.none)=_
  rw [hp];exact if_pos hz
 have hlen:(μ.set kp (.list r)).take μ.length=μ.set kp (.list r):=by
  have:μ.length=(μ.set kp (.list r)).length:=by simp
  rw [this,List.take_length]
 have hok:(μ.set kp (.list r)).all (okM μ.length)=true:=by
  have:=a9k (i:=kp) ok (m:=.list r) (a0f (show(plain (.str s)&&a0q r)=true from b9h ok hp));unfold a3y at this;rw [List.length_set]at this;exact this
 exact a8m rfl e1 hlen hok rfl
theorem c8m{k kp ks:Nat}{s:List Nat}{l:List V}(hk:μ[k]?=some (.obj [kp,ks] n))(hn:1<=n)(hp:μ[kp]?=some (.list l))(hz:l.length<=big)(ok:a3y μ=true) :
  mF (gL th) P_push_token a3o (N+10) (.mut k) [.str s] μ=some (.none,μ.set kp (.list (l++[.str s]))):=by
 have e1:exec (gL th) (N+9) a3o (P_push_token.zip [.mut k,.str s]) μ=some (.next,[(16,.mut k),(78,.str s)],μ.set kp (.list (l++[.str s]))):=by
  refine a0a (a4h (v:=.none) ((a4w (e7b hk hn) (show(gL th).find 10 (.mut kp) μ=true from own_list hp) (a2i rfl)).trans ?_));show(match (generalizing:=false) μ[kp]? with | some (.list l)=>if l.length<=big then some (V.none,μ.set kp (.list (l++[V.str s])))else .none | _=>.none)=_
  rw [hp];exact if_pos hz
 have hlen:(μ.set kp (.list (l++[.str s]))).take μ.length=μ.set kp (.list (l++[.str s])):=by
  have:μ.length=(μ.set kp (.list (l++[.str s]))).length:=by simp
  rw [this,List.take_length]
 have pa:∀ l:List V,a0q l=true->a0q (l++[.str s])=true:=fun l h=>by
  induction l with
  | nil=>rfl
  | cons a l ih=>
   show(plain a&&a0q (l++[V.str s]))=true;rw [a0d h,ih (a0f h)];rfl
 have hok:(μ.set kp (.list (l++[.str s]))).all (okM μ.length)=true:=by
  have h1:=b9h ok hp;have:=a9k (i:=kp) ok (m:=.list (l++[.str s])) (show okM μ.length (.list (l++[.str s]))=true from pa l h1);unfold a3y at this;rw [List.length_set]at this;exact this
 exact d2w rfl e1 hlen hok
end
end
section
open Float64 (add sub mul div divmod cmp isZero)
noncomputable abbrev f1:UInt64:=4607182418800017408
noncomputable abbrev f2:UInt64:=4611686018427387904
noncomputable abbrev f4:UInt64:=4616189618054758400
noncomputable abbrev f6:UInt64:=4618441417868443648
noncomputable abbrev fh:UInt64:=4602678819172646912
noncomputable def ltF(a b:UInt64):Bool:=cmp a b==some .lt
noncomputable def leF(a b:UInt64):Bool:=cmp a b==some .lt||cmp a b==some .eq
noncomputable def eqF(a b:UInt64):Bool:=cmp a b==some .eq
noncomputable def mod1(a:UInt64):UInt64:=(divmod a f1).snd
noncomputable def divO(a b:UInt64):Option UInt64:=if isZero b then .none else some (div a b)
noncomputable def pV(th:a3e)(m1 m2 hue:UInt64):UInt64:=
 if ltF (mod1 hue) th.b then add m1 (mul (mul (sub m2 m1) (mod1 hue)) f6)else if ltF (mod1 hue) fh then m2
 else if ltF (mod1 hue) th.c then add m1 (mul (mul (sub m2 m1) (sub th.c (mod1 hue))) f6)else m1
noncomputable abbrev C3:=UInt64×UInt64×UInt64
noncomputable def vC(c:C3):V:=.tup [.flt c.1,.flt c.2.1,.flt c.2.2]
noncomputable def d3m(th:a3e)(m1 m2 h:UInt64):C3:=(pV th m1 m2 (add h th.a),pV th m1 m2 h,pV th m1 m2 (sub h th.a))
noncomputable def a1u(th:a3e)(h l s:UInt64):C3:=
 if eqF s 0 then(l,l,l)else if leF l fh then d3m th (sub (mul f2 l) (mul l (add f1 s))) (mul l (add f1 s)) h
 else d3m th (sub (mul f2 l) (sub (add l s) (mul l s))) (sub (add l s) (mul l s)) h
section
variable{th:a3e}{μ:Mu}{N:Nat}
theorem c4r:μ.take μ.length=μ:=List.take_length
theorem z1:isZero f1=false:=by decide +kernel
theorem z2:isZero f2=false:=by decide +kernel
theorem z6:isZero f6=false:=by decide +kernel
theorem e2m(a b:UInt64):a0s .LtE (.flt a) (.flt b)=some (leF a b):=rfl
theorem e2k(a b:UInt64):a0s .Eq (.flt a) (.flt b)=some (eqF a b):=by
 rfl
theorem c5m(a b:UInt64):a0p .Add (.flt a) (.flt b)=some (.flt (add a b)):=rfl
theorem a4o(a b:UInt64):a0p .Sub (.flt a) (.flt b)=some (.flt (sub a b)):=rfl
theorem b1m(a b:UInt64):a0p .Mult (.flt a) (.flt b)=some (.flt (mul a b)):=rfl
theorem c6l(a:UInt64):a0p .Mod (.flt a) (.flt f1)=some (.flt (mod1 a)):=by
 rw [b2g,z1];rfl
theorem e9e(a b:UInt64):a0p .Div (.flt a) (.flt b)=(divO a b).map .flt:=by
 rw [b2r];unfold divO;cases isZero b<;>rfl
theorem a0i{Γ:G}{n:Nat}{is:List Nat}{ss:List Mine.S}{args:List V}{v v':V}{ρ':Rho}(hl:is.length=args.length)(ok:a3y μ=true)(h:exec Γ n ss (is.zip args) μ=some (.ret v,ρ',μ))(hf:a4u μ.length μ v=some v'):a4f Γ n is ss args μ=some (v',μ):=by
 exact a8m (beq_iff_eq.mpr hl) h c4r ok hf
theorem e3x(m1 m2 hue:UInt64)(ok:a3y μ=true):cF (gL th) e9w e9a (N+10) [.flt m1,.flt m2,.flt hue] μ=some (.flt (pV th m1 m2 hue),μ):=by
 refine a0i (v:=.flt (pV th m1 m2 hue)) (ρ':=[(63,.flt m1),(62,.flt m2),(65,.flt (mod1 hue))]) rfl ok ?_ rfl;refine a3b (evb (evl rfl) evc (c6l _)) ?_;induction h1:ltF (mod1 hue) th.b using Bool.casesOn with
 | true=>
  rw [show pV th m1 m2 hue=_ from if_pos h1];exact a6s (a0h (evl rfl) (v:=.flt th.b) rfl (congrArg some h1)) (a6k (evb (evl rfl) (evb (evb (evb (evl rfl) (evl rfl) rfl) (evl rfl) rfl) evc rfl) rfl))
 | false=>
  rw [show pV th m1 m2 hue=_ from if_neg (nf h1)];refine a6v (a0h (evl rfl) (v:=.flt th.b) rfl (congrArg some h1)) rfl ?_;induction h2:ltF (mod1 hue) fh using Bool.casesOn with
  | true=>
   rw [if_pos rfl];exact a6s (a0h (evl rfl) evc (congrArg some h2)) (a6k (evl rfl))
  | false=>
   rw [if_neg Bool.false_ne_true];refine a6v (a0h (evl rfl) evc (congrArg some h2)) rfl ?_;induction h3:ltF (mod1 hue) th.c using Bool.casesOn with
   | true=>
    rw [if_pos rfl];exact a6s (a0h (evl rfl) (v:=.flt th.c) rfl (congrArg some h3)) (a6k (evb (evl rfl) (evb (evb (evb (evl rfl) (evl rfl) rfl) (evb (u:=.flt th.c) rfl (evl rfl) rfl) rfl) evc rfl) rfl))
   | false=>
    rw [if_neg Bool.false_ne_true];exact a6v (a0h (evl rfl) (v:=.flt th.c) rfl (congrArg some h3)) rfl (a6k (evl rfl))
end
end
section
noncomputable def a2h:List Nat:=[82,83]
noncomputable def a2e:List S:=[.assign 84 (.sub (.lst [(.cst (.str [10])),(.cst (.str [32])),(.cst (.str [9])),(.cst (.str [13,10,32]))]) (.bin .Mod (.bin .FloorDiv (.loc 83) (.cst (.int 2))) (.cst (.int 4)))),
  .assign 85 (.meth 8 (.cst (.str [])) [(.comp (.bin .Add (.bin .Mult (.cst (.str [92])) (.bin .Mod (.bin .FloorDiv (.loc 83) (.cst (.int 8))) (.cst (.int 2)))) (.loc 86)) (.one 86) (.loc 82) [] [42,86])]),
  .ite (.or [(.cmp .Eq (.bin .Mod (.loc 83) (.cst (.int 2))) (.cst (.int 0))),(.cmp .Eq (.loc 82) (.cst (.str [])))]) [.ret (.bin .Add (.bin .Add (.bin .Add (.cst (.str [34])) (.loc 85)) (.cst (.str [34]))) (.bin .Mult (.loc 84) (.bin .Mod (.bin .FloorDiv (.loc 83) (.cst (.int 16))) (.cst (.int 2)))))] [],
  .ret (.bin .Add (.loc 85) (.loc 84))]
noncomputable def i0:X:=.cst (.int 0)
noncomputable def i1:X:=.cst (.int 1)
noncomputable def i3:X:=.cst (.int 3)
noncomputable def a4d:List Nat:=[82]
noncomputable def f3m:X:=.slc (.loc 82) .none (some (.neg i1)) .none
noncomputable def a4a:List S:=[.ite (.cmp .Eq (.slc (.loc 82) (some (.neg i1)) .none .none) (.cst (.str [63]))) [.ret (.bin .Sub (.bin .Add (.subG 27 f3m) (.glb 28)) (.cst (.int 7)))] [],
  .ret (.ite (.loc 82) (.bin .Sub (.bin .Mult (.cst (.int 5)) (.subG 27 (.loc 82))) (.cst (.int 15))) i0)]
noncomputable def b4j:List Nat:=[92]
noncomputable def e4n:X:=.comp (.cmp .Is (.loc 94) (.cst (.bool true))) (.one 94) (.tup [(.call 46 [(.loc 92)]),(.call 43 [(.loc 92)]),(.call 45 [(.loc 92)])]) [] [42,94]
noncomputable def d5a:X:=.lst [(.lst [(.cst (.bool true)),(.cst (.bool true)),(.cst (.bool false))]),(.lst [(.cst (.bool false)),(.cst (.bool true)),(.cst (.bool false))]),(.lst [(.cst (.bool false)),(.cst (.bool false)),(.cst (.bool true))])]
noncomputable def b4m:List S:=[.assign 93 e4n,.ret (.meth 39 d5a [(.loc 93)])]
noncomputable def b7u:List Nat:=[92,65,157]
noncomputable def d4n:X:=.tup [(.bin .Add i1 (.bin .Mod (.loc 92) (.cst (.int 4)))),(.bin .Add i1 (.bin .Mod (.bin .FloorDiv (.loc 92) (.cst (.int 4))) i3))]
noncomputable def c9s(i:Nat):X:=.bin .Div (.loc i) (.cst (.int 4))
noncomputable def e3o(f:Nat):X:=.call f [(.sub (.loc 96) i0),(.sub (.loc 96) i1),(.sub (.loc 96) (.cst (.int 2)))]
noncomputable def e1l(i:Nat):X:=.bin .Mult (.cst (.int 256)) (.loc i)
noncomputable def e8m:List S:=[.assign 96 (.call 68 [(.loc 65),c9s 97,c9s 98]),.unpack [100,101] (.tup [e3o 66,(.lst [e1l 97,e1l 98])])]
noncomputable def e7s:List S:=[.assign 96 (.call 61 [(.bin .Sub (.loc 65) i3),c9s 98,c9s 97]),.unpack [100,101] (.tup [e3o 47,(.lst [e1l 98,e1l 97])])]
noncomputable def d8w:X:=.and [(.call 36 [(.loc 100),(.glb 35)]),(.cmp2 .LtE .LtE i0 (.sub (.loc 100) i0) i1),(.cmp .Eq (.comp (.bin .FloorDiv (.call 5 [(.bin .Add (.bin .Mult (.cst (.int 2048)) (.loc 103)) i1)]) (.cst (.int 2))) (.one 103) (.slc (.loc 100) (some i1) .none .none) [] [42,103]) (.loc 101))]
noncomputable def b7v:List S:=[.unpack [97,98] d4n,.ite (.cmp .Eq (.bin .Mod (.loc 157) (.cst (.int 2))) i0) e8m e7s,.ret (.tup [(.sub (.loc 100) i0),d8w])]
noncomputable def b3p:List Nat:=[159]
noncomputable def d6r:X:=.comp (.bin .FloorDiv (.call 5 [(.bin .Add (.bin .Mult (.cst (.int 6)) (.bin .Sub (.sub (.loc 159) (.loc 111)) (.sub (.loc 159) (.bin .Sub (.loc 111) i1)))) (.cst (.int 7)))]) (.cst (.int 2))) (.one 111) (.range [(.call 0 [(.loc 159)])]) [] [42,111]
noncomputable def b3i:List S:=[.assign 160 d6r,.ret (.call 1 [(.comp (.bin .Sub (.bin .Mod (.bin .Add (.loc 161) i1) i3) i1) (.one 161) (.loc 160) [] [42,161])])]
noncomputable def P2_run:List Nat:=[88,124,123]
noncomputable def d3n:List S:=[.expr (.meth 23 (.loc 88) [(.loc 82)])]
noncomputable def f1d:X:=.comp (.meth 22 (.loc 88) []) (.one 126) (.range [(.loc 124)]) [] [42,126]
noncomputable def e6n:X:=.comp (.call 154 [(.loc 82)]) (.one 82) (.loc 90) [] [42,82]
noncomputable def f1f:X:=.comp (.call 155 [(.loc 92)]) (.one 92) (.loc 164) [] [42,92]
noncomputable def e6f:X:=.comp (.call 156 [(.sub (.loc 164) (.loc 111)),(.bin .Add (.bin .Div (.loc 123) (.cst (.int 32))) (.bin .Div (.sub (.loc 165) (.loc 111)) i3)),(.loc 157)]) (.one 111) (.range [(.loc 124)]) [] [42,111]
noncomputable def d2y(i:Nat):X:=.comp (.loc i) (.many [65,167]) (.loc 100) [] [42,65,167]
noncomputable def f4o:X:=.bin .FloorDiv (.call 5 [(.bin .Add (.bin .Mult (.cst (.int 1536)) (.sub (.sub (.loc 100) (.loc 166)) i0)) i1)]) (.cst (.int 2))
noncomputable def f2e:X:=.or [(.cmp .In (.cst (.bool false)) (d2y 167)),(.cmp .NotEq (.bin .Mod f4o (.cst (.int 768))) (.bin .Mod (.bin .Add (.bin .Mult (.cst (.int 24)) (.loc 123)) (.bin .Mult (.cst (.int 256)) (.sub (.loc 165) (.loc 166)))) (.cst (.int 768))))]
noncomputable def e5s:X:=.ite (.cmp .Eq (.sub (.loc 165) (.loc 111)) i0) (.comp (.loc 169) (.one 169) (.tup [(.bin .Sub (.loc 111) i1),(.bin .Sub (.bin .Add (.loc 111) i1) (.loc 124))]) [(.cmp .Eq (.sub (.loc 165) (.loc 169)) i1)] [42,169]) (.lst [])
noncomputable def e2f:X:=.ite (.cmp .Eq (.sub (.loc 165) (.loc 111)) i1) (.bin .Add (.sub (.loc 90) (.loc 111)) (.cst (.str [63]))) (.ite (.loc 168) (.sub (.loc 90) (.sub (.loc 168) i0)) (.cst (.str [])))
noncomputable def d7s:List S:=[.assign 168 e5s,.expr (.meth 10 (.loc 162) [e2f])]
noncomputable def d4e:List S:=[.for (.one 82) (.loc 162) d3n,
  .assign 90 f1d,
  .assign 164 e6n,
  .assign 165 f1f,
  .assign 100 e6f,
  .assign 166 (.bin .Mod (.loc 157) (.loc 124)),
  .ite f2e [.ret (.tup [(.lst []),(.lst [])])] [],
  .expr (.meth 10 (.loc 108) [(.loc 90)]),
  .expr (.meth 10 (.loc 163) [(.call 158 [d2y 65])]),
  .assign 162 (.mlst []),
  .for (.one 111) (.range [(.loc 124)]) d7s]
noncomputable def b8u:List S:=[.unpack [162,108,163] (.tup [(.mlst []),(.mlst []),(.mlst [])]),.for (.one 157) (.range [(.bin .Add (.bin .FloorDiv (.loc 124) (.cst (.int 2))) (.cst (.int 4)))]) d4e,.ret (.tup [(.loc 108),(.loc 163)])]
noncomputable def P2_due:List Nat:=[171,172,173,174,175]
noncomputable def e7c:X:=.bin .Mod (.loc 111) (.call 0 [(.loc 171)])
noncomputable def e4q:X:=.bin .Add (.sub (.loc 172) e7c) (.bin .Mult (.bin .FloorDiv (.loc 111) (.call 0 [(.loc 171)])) (.loc 173))
noncomputable def d5y:X:=.call 4 [(.bin .Sub (.bin .Add (.loc 179) (.loc 175)) (.loc 178)),(.bin .Mult (.bin .FloorDiv (.bin .Add (.loc 179) (.cst (.int 2))) i3) i3)]
noncomputable def e2w:List S:=[.assign 179 e4q,.assign 98 d5y,.ite (.cmp .Gt (.loc 98) (.loc 176)) [.unpack [176,177] (.tup [(.loc 98),(.sub (.loc 171) e7c)])] []]
noncomputable def d6z:List S:=[.for (.one 111) (.tup [(.bin .Sub (.loc 174) (.loc 178)),(.bin .Add (.loc 174) (.loc 178))]) e2w]
noncomputable def d0n(i:X):X:=.sub (.lst [(.cst (.str [])),(.loc 177),(.bin .Add (.loc 177) (.cst (.str [63])))]) i
noncomputable def c8s:List S:=[.unpack [176,177] (.tup [(.bin .Sub (.sub (.loc 172) (.loc 174)) i1),(.cst (.str []))]),.for (.one 178) (.range [(.bin .Add (.loc 175) i1)]) d6z,.ret (d0n (.bin .Mod (.loc 176) i3))]
noncomputable def e5h:List Nat:=[119]
noncomputable def d0l:X:=.comp (.bin .Mod (.loc 44) (.bin .Pow (.cst (.int 10)) (.cst (.int 6)))) (.one 44) (.slc (.loc 119) .none (some (.cst (.int 60))) .none) [] [42,44]
noncomputable def d3c:X:=.comp (.bin .Add (.loc 181) (.call 1 [(.slc (.loc 120) (some (.loc 111)) .none (some (.cst (.int 4))))])) (.many [111,181]) (.enum (.lst [(.cst (.int 136)),(.cst (.int 154)),(.cst (.int 1234)),(.cst (.int 37))])) [] [42,111,181]
noncomputable def sgT:List Nat:=(Str.ofString "( ) [ ] : , ; + - * / | & < > = . % { } == != <= >= ~ ^ << >> ** += -= *= /= %= &= |= ^= <<= >>= **= // //= @ @= -> ... := !").cps.toList
noncomputable def c0a:X:=.meth 7 (.cst (.str sgT)) [(.cst (.str [32]))]
noncomputable def c0w:X:=.comp (.sub (.loc 107) (.bin .Mod (.bin .FloorDiv (.loc 180) (.bin .Add (.loc 111) i1)) (.cst (.int 48)))) (.one 111) (.range [(.loc 124)]) [] [42,111]
noncomputable def b9q:X:=.comp (.bin .Mod (.bin .FloorDiv (.bin .FloorDiv (.loc 121) (.cst (.int 4))) (.bin .Pow i3 (.loc 111))) i3) (.one 111) (.range [(.loc 124)]) [] [42,111]
noncomputable def b9m:X:=.comp (d0n (.loc 183)) (.many [177,183]) (.zip (.loc 171) (.loc 182)) [] [42,177,183]
noncomputable def d0f:X:=.slc (.meth 8 (.cst (.str [])) [(.comp (.call 81 [(.loc 169),(.bin .FloorDiv (.loc 122) (.bin .Add (.loc 111) i1))]) (.many [111,169]) (.enum (.loc 125)) [] [42,111,169])]) .none (some (.neg i1)) .none
noncomputable def c7j:X:=.or [(.cmp .Eq (.loc 108) (.lst [])),(.cmp .NotEq (.meth 22 (.loc 88) []) (.cst (.str []))),(.cmp .NotEq (.attr 26 (.loc 88)) (.bin .Add i1 (.meth 9 (.loc 18) [(.cst (.str [10]))])))]
noncomputable def c5h:X:=.sub (.loc 172) (.neg i1)
noncomputable def e7l(a b:X):X:=.bin .Mod (.bin .Add (.bin .Sub a b) i1) i3
noncomputable def d9x:List S:=[.expr (.meth 10 (.loc 172) [(.bin .Sub (.bin .Add c5h (e7l (.sub (.loc 182) (.loc 111)) (.sub (.loc 182) (.bin .Sub (.loc 111) i1)))) i1)])]
noncomputable def f2f:X:=.bin .Sub (.bin .Sub (.bin .Add c5h (e7l (.sub (.loc 182) i0) (.sub (.loc 182) (.neg i1)))) i1) (.sub (.loc 172) i0)
noncomputable def d8n:X:=.comp (.call 170 [(.loc 171),(.loc 172),(.loc 173),(.loc 174),(.loc 157)]) (.one 174) (.range [(.loc 124)]) [] [42,174]
noncomputable def d8x:List S:=[.ite (.cmp .NotEq (.sub (.loc 108) (.loc 157)) d8n) [.ret (.cst (.bool false))] []]
noncomputable def d5x:X:=.call 0 [(.comp (.loc 82) (.one 82) (.sub (.loc 108) (.neg i1)) [(.cmp .In (.loc 82) (.loc 107))] [42,82])]
noncomputable def d5g:X:=.bin .Sub (.cmp .Gt (.sub (.loc 163) i0) i0) (.cmp .Lt (.sub (.loc 163) i0) i0)
noncomputable def e8w:X:=.sub (.loc 108) (.neg (.cst (.int 2)))
noncomputable def e4i:X:=.and [(.cmp .Eq (.loc 163) (.bin .Mult (.lst [(.bin .Mult (.bin .Mult i3 (.loc 185)) (.loc 184))]) (.call 0 [(.loc 108)]))),(.cmp .Eq (.sub (.loc 108) (.neg i1)) (.bin .Add (.slc e8w (some (.loc 185)) .none .none) (.slc e8w .none (some (.loc 185)) .none)))]
noncomputable def F2_law:List S:=[.assign 120 d0l,
  .unpack [121,180,122,123] d3c,
  .assign 124 (.bin .Add (.cst (.int 5)) (.bin .Mod (.loc 121) (.cst (.int 4)))),
  .assign 107 c0a,
  .assign 171 c0w,
  .assign 182 b9q,
  .assign 125 b9m,
  .assign 18 d0f,
  .lexer 88 (.call 34 [(.loc 18)]),
  .unpack [108,163] (.call 104 [(.loc 88),(.loc 124),(.bin .Mod (.loc 123) (.cst (.int 64)))]),
  .ite c7j [.ret (.cst (.bool false))] [],
  .assign 172 (.mlst [(.sub (.loc 182) i0)]),
  .for (.one 111) (.range [i1,(.loc 124)]) d9x,
  .assign 173 f2f,
  .for (.one 157) (.range [(.bin .Sub (.call 0 [(.loc 108)]) i1)]) d8x,
  .assign 184 d5x,
  .assign 185 d5g,
  .ret e4i]
end
section
noncomputable def th3:a3e:=⟨4599676419421066581,4595172819793696085,4604180019048437077⟩
noncomputable def b7d(n:Nat)(args:List V)(μ:Mu):Option (V×Mu):=match args with
 | [.str t]=>if 11<=n then(a7h μ t).map fun p=>(.mut p.1,p.2)else .none
 | _=>.none
noncomputable def g0:G:=gL th3
noncomputable def gV:G:=b1t g0 64 (cF g0 e9w e9a)
noncomputable def gC:G:=b1t (b1t (b1t (b1t g0 61 (cF gV a3q a2o)) 47 (cF g0 a3t a2q)) 66 (cF g0 a3n a2r)) 68 (cF g0 a3r F_hsv_to_rgb)
noncomputable def gK:G:=b1t (b1t (b1t g0 43 (cF g0 P_ISTERMINAL a2p)) 45 (cF g0 a2c a2f)) 46 (cF g0 b3j b3r)
noncomputable def gR:G:=e1o (e1o (b1t (b1t (b1t (b1t g0 154 (cF g0 a4d a4a)) 155 (cF gK b4j b4m)) 156 (cF gC b7u b7v)) 158 (cF g0 b3p b3i)) 22 (mF g0 P_get_token a1l)) 23 (mF g0 P_push_token a3o)
noncomputable def gF:G:=e1o (b1t (b1t (b1t (b1t g0 34 b7d) 81 (cF g0 a2h a2e)) 104 (cF gR P2_run b8u)) 170 (cF g0 P2_due c8s)) 22 (mF g0 P_get_token a1l)
end
section
theorem d0h(d k:Nat):Int.fdiv (d:Int) (k:Int)=((d / k:Nat):Int):=by
 rw [Int.fdiv_eq_ediv_of_nonneg _ (Int.natCast_nonneg k)];rfl
theorem e1c(d k:Nat):Int.fmod (d:Int) (k:Int)=((d%k:Nat):Int):=by
 rw [Int.fmod_eq_emod_of_nonneg _ (Int.natCast_nonneg k)];rfl
theorem a0w{k n:Nat}(h:k<n):seqIndex? (k:Int) n=some k:=by
 unfold seqIndex?;rw [if_neg (Int.not_lt.mpr (Int.natCast_nonneg k))];dsimp only;rw [if_pos (by rw [decide_eq_true (Int.natCast_nonneg k),decide_eq_true (Int.ofNat_lt.mpr h)];rfl)];rfl
theorem a7a{k n:Nat}(h:k+1<=n):seqIndex? (-((k:Int)+1)) n=some (n-(k+1)):=by
 unfold seqIndex?;have e:-((k:Int)+1)+(n:Int)=((n-(k+1):Nat):Int):=by rw [Int.ofNat_sub h,Int.sub_eq_add_neg,Int.add_comm];rfl
 rw [if_pos (show -((k:Int)+1)<0 from Int.negSucc_lt_zero k),e];dsimp only;rw [decide_eq_true (Int.natCast_nonneg _),decide_eq_true (Int.ofNat_lt.mpr (Nat.sub_lt (Nat.lt_of_lt_of_le (Nat.succ_pos k) h) (Nat.succ_pos k)))];rfl
theorem b2x{l:List V}{k:Nat}{v:V}(h:l[k]?=some v)(hz:l.length<=big):item (.lst l) (.int (k:Int))=some v:=by
 unfold item;simp only;rw [if_pos hz,a0w (List.getElem?_eq_some_iff.mp h).1];exact h
theorem b2q(l:List (List Nat)):a8v (l.map .str)=some l:=by
 induction l with
 | nil=>rfl
 | cons a l ih=>exact congrArg (Option.map (a::·)) ih
theorem b2n(l:List Int):a8w (l.map .int)=some l:=by
 induction l with
 | nil=>rfl
 | cons a l ih=>exact congrArg (Option.map (a::·)) ih
theorem b4s:∀ l:List (List Nat),b3c [] l=l.flatten:=by
 intro z_;induction z_ with
 | nil=>
  exact rfl
 | cons x z_ ih=>induction z_ using List.casesOn with
  | nil=>
   exact(List.append_nil x).symm
  | cons y r=>
   show x++[]++b3c [] (y::r)=_;rw [List.append_nil,ih];rfl
theorem b4d(i:Nat)(u v:V):∀ ρ:Rho,put i v (put i u ρ)=put i v ρ:=by
 intro z_;induction z_ with
 | nil=>
  exact if_pos (beq_self_eq_true i)
 | cons p r ih=>
  induction h:p.1==i using Bool.casesOn with
  | true=>
   rw [show put i u (p::r)=(i,u)::r from if_pos h,show put i v (p::r)=(i,v)::r from if_pos h];exact if_pos (beq_self_eq_true i)
  | false=>
   rw [show put i u (p::r)=p::put i u r from if_neg (nf h),show put i v (p::r)=p::put i v r from if_neg (nf h)];exact(if_neg (nf h)).trans (congrArg (p::·) (ih))
theorem d3u{i j:Nat}(h:i≠j)(u v w:V):∀ ρ:Rho,put i w (put j v (put i u ρ))=put j v (put i w ρ):=fun ρ=>by
 have hij:¬(i==j)=true:=fun q=>h (eq_of_beq q);have hji:¬(j==i)=true:=fun q=>h (eq_of_beq q).symm;induction ρ with
 | nil=>
  rw [show put j v (put i u [])=[(i,u),(j,v)]from if_neg hij,show put j v (put i w [])=[(i,w),(j,v)]from if_neg hij];exact if_pos (beq_self_eq_true i)
 | cons p r ih=>
  induction h1:p.1==i using Bool.casesOn with
  | true=>
   rw [show put i u (p::r)=(i,u)::r from if_pos h1,show put i w (p::r)=(i,w)::r from if_pos h1,show put j v ((i,u)::r)=(i,u)::put j v r from if_neg hij,show put j v ((i,w)::r)=(i,w)::put j v r from if_neg hij];exact if_pos (beq_self_eq_true i)
  | false=>
   rw [show put i u (p::r)=p::put i u r from if_neg (nf h1),show put i w (p::r)=p::put i w r from if_neg (nf h1)];induction h2:p.1==j using Bool.casesOn with
   | true=>
    rw [show put j v (p::put i u r)=(j,v)::put i u r from if_pos h2,show put j v (p::put i w r)=(j,v)::put i w r from if_pos h2];exact(if_neg hji).trans (congrArg (List.cons (j,v)) (b4d i u w r))
   | false=>
    rw [show put j v (p::put i u r)=p::put j v (put i u r)from if_neg (nf h2),show put j v (p::put i w r)=p::put j v (put i w r)from if_neg (nf h2)];exact(if_neg (nf h1)).trans (congrArg (List.cons p) ih)
theorem b6j{i j:Nat}(h:i≠j)(u v u' v':V)(ρ:Rho):put j v' (put i u' (put j v (put i u ρ)))=put j v' (put i u' ρ):=by
 rw [d3u h,b4d]
section
variable{α:Type}{f:X->Rho->Mu->Option (V×Mu)}{elt x:X}{i j:Nat}{μ:Mu}{h:α->V}{g:α->V}{p:α->Bool}
theorem b0c{t:T}{ifs:List X}{hv:α->V}{B:α->Rho->Rho}(hb:∀ a ρ,a2b t (hv a) ρ=some (B a ρ))(hB:∀ a b ρ,B b (B a ρ)=B b ρ)(l:List α):∀ ρ:Rho,(∀ a∈l,b4i (fun x μ=>f x (B a ρ) μ) ifs μ=some (p a,μ))->(∀ a∈l,p a=true->f elt (B a ρ) μ=some (g a,μ))->a5n f elt t ifs (l.map hv) ρ μ=some ((l.filter p).map g,μ):=by
 induction l with
 | nil=>intro ρ _ _;rfl
 | cons a l ih=>
  intro ρ H1 H2;have e:=ih (B a ρ) (fun b h=>by rw [hB];exact H1 b (List.mem_cons_of_mem _ h)) fun b h q=>by rw [hB];exact H2 b (List.mem_cons_of_mem _ h) q
  show(match (generalizing:=false) a2b t (hv a) ρ with
  | .none=>Option.none
  | some ρ=>match b4i (fun x μ=>f x ρ μ) ifs μ with
   | .none=>.none
   | some (false,μ)=>a5n f elt t ifs (l.map hv) ρ μ
   | some (true,μ)=>match f elt ρ μ with
    | .none=>.none
    | some (y,μ)=>match a5n f elt t ifs (l.map hv) ρ μ with
     | .none=>.none
     | some (ys,μ)=>some (y::ys,μ))=_
  rw [hb];dsimp only;rw [H1 a List.mem_cons_self];induction hp:p a using Bool.casesOn with
  | true=>
   dsimp only;rw [H2 a List.mem_cons_self hp];dsimp only;rw [e,List.filter_cons_of_pos hp];rfl
  | false=>rw [List.filter_cons_of_neg (nf hp)];exact e
theorem d9e{f:X->Mu->Option (V×Mu)}{b:Bool}(h:f x μ=some (.bool b,μ)):b4i f [x] μ=some (b,μ):=by
 show(match (generalizing:=false) f x μ with | some (v,μ)=>(match a2z (look μ v)with | some true=>some (true,μ) | some false=>some (false,μ) | .none=>Option.none) | .none=>Option.none)=_
 rw [h];cases b<;>rfl
theorem c0r(l:List α):l.filter (fun zz=>true)=l:=List.filter_eq_self.mpr fun zz zz=>rfl
theorem a5t(l:List α)(ρ:Rho)(H:∀ a∈l,f elt (put i (h a) ρ) μ=some (g a,μ)):a5n f elt (.one i) [] (l.map h) ρ μ=some (l.map g,μ):=
 (b0c (p:=fun zz=>true) (B:=fun a ρ=>put i (h a) ρ) (fun zz zz=>rfl) (fun zz zz ρ=>b4d i _ _ ρ) l ρ (fun zz zz=>rfl) fun a ha zz=>H a ha).trans (by rw [c0r])
theorem a8s(l:List α)(ρ:Rho)(H1:∀ a∈l,f x (put i (h a) ρ) μ=some (.bool (p a),μ))(H2:∀ a∈l,p a=true->f elt (put i (h a) ρ) μ=some (g a,μ)):a5n f elt (.one i) [x] (l.map h) ρ μ=some ((l.filter p).map g,μ):=
 b0c (B:=fun a ρ=>put i (h a) ρ) (fun zz zz=>rfl) (fun zz zz ρ=>b4d i _ _ ρ) l ρ (fun a ha=>d9e (H1 a ha)) H2
theorem b0z{h1 h2:α->V}(hij:i≠j)(l:List α)(ρ:Rho)(H:∀ a∈l,f elt (put j (h2 a) (put i (h1 a) ρ)) μ=some (g a,μ)):a5n f elt (.many [i,j]) [] (l.map fun a=>.tup [h1 a,h2 a]) ρ μ=some (l.map g,μ):=
 (b0c (p:=fun zz=>true) (B:=fun a ρ=>put j (h2 a) (put i (h1 a) ρ)) (fun zz zz=>rfl) (fun zz zz ρ=>b6j hij _ _ _ _ ρ) l ρ (fun zz zz=>rfl) fun a ha zz=>H a ha).trans (by rw [c0r])
end
end
section
structure Enc{α:Type}[DecidableEq α](ok:α->Prop)(d:Nat)(f:α->V)(p:α->PyData):Prop where
 to:∀ a,b1l (f a)=some (p a)
 lay:∀ a,ok a->(p a).canLay0=true
 dep:∀ a,(p a).depth<=d
 eq:∀ a b,(p a).eqv (p b)=decide (a=b)
theorem encInt:Enc (fun zz:Int=>True) 0 V.int PyData.int where
 to:=fun a=>rfl
 lay:=fun a zz=>rfl
 dep:=fun a=>by simp [PyData.depth]
 eq:=fun a b=>by simp only [PyData.eqv];rw [Bool.eq_iff_iff];simp
noncomputable def a4m(s:List Nat):Prop:=∀ c∈s,c<1114112
theorem encStr:Enc a4m 0 V.str (fun s=>.str ⟨s.toArray⟩) where
 to:=fun a=>by simp [b1l]
 lay:=fun a h=>by
  show PyData.strOk _=true;unfold PyData.strOk;simpa [a4m]using h
 dep:=fun a=>by simp [PyData.depth]
 eq:=fun a b=>by
  simp only [PyData.eqv];by_cases h:a=b
  ·subst h;simp
  ·simp [h]
section
variable{α:Type}[DecidableEq α]{ok:α->Prop}{d:Nat}{f:α->V}{p:α->PyData}
theorem Enc.toPys(e:Enc ok d f p):∀ l:List α,Mine.toPys (l.map f)=some (l.map p):=by
 intro z_;induction z_ with
 | nil=>
  exact rfl
 | cons a l ih=>
  simp only [List.map_cons,Mine.toPys,e.to,ih]
theorem Enc.layAll(e:Enc ok d f p):∀ l:List α,(∀ a∈l,ok a)->PyData.canLayAll0 (l.map p)=true:=by
 intro z_;induction z_ with
 | nil=>
  intro _;exact rfl
 | cons a l ih=>
  intro h;simp only [List.map_cons,PyData.canLayAll0,Bool.and_eq_true];exact⟨e.lay a (h a (by simp)),ih fun b hb=>h b (by simp [hb])⟩
theorem Enc.depAll(e:Enc ok d f p):∀ l:List α,PyData.depthAll (l.map p)<=d:=by
 intro z_;induction z_ with
 | nil=>
  simp [PyData.depthAll]
 | cons a l ih=>
  simp only [List.map_cons,PyData.depthAll];exact Nat.max_le.mpr ⟨e.dep a,ih⟩
theorem Enc.eqAll(e:Enc ok d f p):∀ l l':List α,PyData.eqvAll (l.map p) (l'.map p)=decide (l=l')
 | [],[]=>by simp [PyData.eqvAll]
 | [],b::l'=>by simp [PyData.eqvAll]
 | a::l,[]=>by simp [PyData.eqvAll]
 | a::l,b::l'=>by
  simp only [List.map_cons,PyData.eqvAll,e.eq,Enc.eqAll e l l'];rw [Bool.eq_iff_iff];simp
theorem Enc.list(e:Enc ok d f p):Enc (fun l:List α=>∀ a∈l,ok a) (d+1) (fun l=>.lst (l.map f)) (fun l=>.list (l.map p)) where
 to:=fun l=>by simp only [b1l,e.toPys,Option.map_some]
 lay:=fun l h=>by simp only [PyData.canLay0];exact e.layAll l h
 dep:=fun l=>by simp only [PyData.depth];have:=e.depAll l;omega
 eq:=fun l l'=>by simp only [PyData.eqv];exact e.eqAll l l'
theorem Enc.shaped(e:Enc ok d f p)(hd:d<=64){a:α}(h:ok a):SeqAt.shaped (p a)=true:=by
 unfold SeqAt.shaped;rw [Bool.and_eq_true,decide_eq_true_eq];exact⟨e.lay a h,Nat.le_trans (e.dep a) hd⟩
theorem Enc.cmpEq(e:Enc ok d f p)(hd:d<=64){a b:α}(ha:ok a)(hb:ok b):a0s .Eq (f a) (f b)=some (decide (a=b)):=by
 simp only [e7d,e7k,e7a,e6v,e6s,e6w,e7o,eqv,e.to,e.shaped hd ha,e.shaped hd hb,Bool.and_self,if_true,e.eq]
theorem Enc.cmpNe(e:Enc ok d f p)(hd:d<=64){a b:α}(ha:ok a)(hb:ok b):a0s .NotEq (f a) (f b)=some (!decide (a=b)):=by
 simp only [e7d,e7k,e7a,e6v,e6s,e6w,e7o,eqv,e.to,e.shaped hd ha,e.shaped hd hb,Bool.and_self,if_true,e.eq,Option.map_some]
theorem Enc.anyEq(e:Enc ok d f p)(a:α):∀ l:List α,(l.map p).any (fun y=>y.eqv (p a))=decide (a∈l):=by
 intro z_;induction z_ with
 | nil=>
  simp
 | cons b l ih=>
  simp only [List.map_cons,List.any_cons,e.eq,ih,List.mem_cons];by_cases h:b=a
  ·subst h;simp
  ·have h':¬ a=b:=fun q=>h q.symm
   simp [h,h']
theorem Enc.cmpIn(e:Enc ok d f p)(hd:d+1<=64){a:α}{l:List α}(ha:ok a)(hl:∀ b∈l,ok b):a0s .In (f a) (.lst (l.map f))=some (decide (a∈l)):=by
 have h1:SeqAt.shaped (p a)=true:=e.shaped (by omega) ha;have h2:SeqAt.shaped (.list (l.map p))=true:=e.list.shaped (a:=l) hd hl;have:e1q (f a) (.lst (l.map f))=some ((l.map p).any fun y=>y.eqv (p a)):=by
  unfold e1q;cases hf:f a<;>simp only [← hf,e.to,e.toPys,h1,h2,Bool.and_self,if_true]
 simp only [e7d,e7k,e7a,e6v,e6s,e6w,e7o,this,e.anyEq]
end
theorem encInts:Enc (fun l:List Int=>∀ a∈l,True) 1 (fun l=>V.lst (l.map .int)) (fun l=>PyData.list (l.map .int)):=encInt.list
theorem encStrs:Enc (fun l:List (List Nat)=>∀ a∈l,a4m a) 1 (fun l=>V.lst (l.map .str)) (fun l=>PyData.list (l.map fun s=>.str ⟨s.toArray⟩)):=encStr.list
theorem encRows:Enc (fun l:List (List (List Nat))=>∀ r∈l,∀ a∈r,a4m a) 2 (fun l=>V.lst (l.map fun r=>V.lst (r.map .str))) (fun l=>PyData.list (l.map fun r=>PyData.list (r.map fun s=>.str ⟨s.toArray⟩))):=encStr.list.list
theorem b5o{l:List V}{lo hi:Option Int}(hz:l.length<=big):a1f (.lst l) lo hi .none=some (.lst ((sliceRange (sliceBounds lo hi .none l.length).1 (sliceBounds lo hi .none l.length).2.1 (sliceBounds lo hi .none l.length).2.2).filterMap (l[·]?))):=by
 unfold a1f;rw [if_neg (by decide)];simp only [if_pos hz]
end
section
noncomputable def gaps:List (List Nat):=[[10],[32],[9],[13,10,32]]
noncomputable def a2s(w:List Nat)(d:Nat):List Nat:=(w.map fun c=>(List.replicate (d / 8%2) [92]).flatten++[c]).flatten
noncomputable def a3d(d:Nat):List Nat:=gaps.getD (d / 2%4) []
noncomputable def a0o(w:List Nat)(d:Nat):List Nat:=
 if d%2=0∨w=[]then [34]++a2s w d++[34]++(List.replicate (d / 16%2) (a3d d)).flatten else a2s w d++a3d d
theorem c4l(a b:Int):a0s .Eq (.int a) (.int b)=some (decide (a=b)):=rfl
section
variable{μ:Mu}{N:Nat}
theorem a5d{d:Nat}(h:d<2^60):small (d:Int)=true:=decide_eq_true h
theorem b9z{k:Nat}(h:k≠0):((k:Int) != 0)=true:=bne_iff_ne.mpr fun q=>h (Int.ofNat.inj q)
theorem e5n(d k:Nat)(hk:k≠0)(hs:k<2^60):a0p .FloorDiv (.int (d:Int)) (.int (k:Int))=some (.int ((d / k:Nat):Int)):=by
 rw [a6u,b9z hk,a5d hs,d0h];rfl
theorem d5p(d k:Nat)(hk:k≠0):a0p .Mod (.int (d:Int)) (.int (k:Int))=some (.int ((d%k:Nat):Int)):=by
 rw [b0p,b9z hk,e1c];rfl
theorem d4p{x y:List Nat}(h:x.length+y.length<=big):a0p .Add (.str x) (.str y)=some (.str (x++y)):=by
 rw [b1z];exact if_pos (decide_eq_true h)
theorem e9g{b:Nat}(h:b<2):b=0∨b=1:=(by decide:∀ b<2,b=0∨b=1) b h
theorem f2g{x:List Nat}{k:Nat}(hk:k<2)(hx:x.length<=1000):a0p .Mult (.str x) (.int (k:Int))=some (.str (List.replicate k x).flatten):=by
 rw [b2k,a5d (Nat.lt_trans hk (by decide)),Int.toNat_natCast,Bool.and_true];exact if_pos (decide_eq_true (Nat.le_trans (Nat.mul_le_mul hx (Nat.le_of_lt_succ hk)) (by decide)))
theorem b2z{x:List Nat}{k:Nat}(hk:k<2):(List.replicate k x).flatten.length<=x.length:=by
 rcases e9g hk with rfl | rfl
 ·exact Nat.zero_le _
 ·rw [show(List.replicate 1 x).flatten=x from List.append_nil x];exact Nat.le_refl _
theorem lt2(d:Nat):d%2<2:=Nat.mod_lt _ (by decide)
theorem b6g(w:List Nat)(d:Nat):(a2s w d).length<=2 * w.length:=by
 unfold a2s;induction w with
 | nil=>exact Nat.le_refl _
 | cons c w ih=>
  rw [List.map_cons,List.flatten_cons,List.length_append,List.length_cons,Nat.mul_succ,Nat.add_comm];refine Nat.add_le_add ih ?_;rw [List.length_append];exact Nat.add_le_add_right (b2z (x:=[92]) (lt2 _)) 1
theorem b2w(d:Nat):(a3d d).length<=3:=(by decide:∀ i<4,(gaps.getD i []).length<=3) _ (Nat.mod_lt _ (by decide))
theorem d4x{Γ:G}{n:Nat}{ρ:Rho}{a b:X}{p q:Bool}(h1:ev Γ n a ρ μ=some (.bool p,μ))(h2:ev Γ n b ρ μ=some (.bool q,μ)):ev Γ (n+1) (.or [a,b]) ρ μ=some (.bool (p||q),μ):=by
 show ors (fun x μ=>ev Γ n x ρ μ) [a,b] μ=_;rw [f0l,h1];cases p
 ·exact h2
 ·rfl
theorem b5t{w:List Nat}{d:Nat}(hw:w.length<=100)(ha:w.all (fun c=>decide (c<128))=true)(hs:a4m w)(ok:a3y μ=true):cF g0 a2h a2e (N+20) [.str w,.int (d:Int)] μ=some (.str (a0o w d),μ):=by
 show a4f g0 (N+19) a2h a2e [.str w,.int (d:Int)] μ=_;have hg:(gaps.map V.str)[d / 2%4]?=some (.str (a3d d)):=by
  have h:d / 2%4<4:=Nat.mod_lt _ (by decide);unfold a3d;rw [List.getElem?_map,List.getD_eq_getElem?_getD,List.getElem?_eq_getElem (by exact h)];rfl
 have dl:(a2s w d).length<=200:=Nat.le_trans (b6g w d) (Nat.mul_le_mul_left 2 hw);have hmod:∀(n j k:Nat) {ρ:Rho},j≠0->j<2^60->k≠0->ρ.lookup 83=some (.int (d:Int))->ev g0 (n+3) (.bin .Mod (.bin .FloorDiv (.loc 83) (.cst (.int (j:Int)))) (.cst (.int (k:Int)))) ρ μ=some (.int ((d / j%k:Nat):Int),μ):=
  fun n j k ρ h1 h2 h3 hl=>evb (evb (evl hl) evc (e5n d j h1 h2)) evc (d5p (d / j) k h3)
 refine a0i (v:=.str (a0o w d)) (ρ':=[(82,.str w),(83,.int (d:Int)),(84,.str (a3d d)),(85,.str (a2s w d))]) (by rfl) ok ?_ rfl;refine a3b (a1a (u:=.lst (gaps.map .str)) rfl (hmod _ 2 4 (by decide) (by decide) (by decide) rfl) (b2x hg (by decide))) ?_;have c1:ev g0 (N+17) (.comp (.bin .Add (.bin .Mult (.cst (.str [92])) (.bin .Mod (.bin .FloorDiv (.loc 83) (.cst (.int 8))) (.cst (.int 2)))) (.loc 86)) (.one 86) (.loc 82) [] [42,86]) [(82,.str w),(83,.int (d:Int)),(84,.str (a3d d))] μ
   = some (.lst ((w.map fun c=>(List.replicate (d / 8%2) [92]).flatten++[c]).map .str),μ):=by
  refine a2w (vs:=w.map fun c=>.str [c]) (ys:=(w.map fun c=>(List.replicate (d / 8%2) [92]).flatten++[c]).map .str) (by rw [e6x,evl rfl];exact congrArg (Option.map _) (if_pos ha)) (by rw [List.length_map];exact Nat.le_trans hw (by decide)) ?_;rw [List.map_map];exact a5t w _ fun c hc=>evb (evb evc (hmod _ 8 2 (by decide) (by decide) (by decide) rfl) (f2g (x:=[92]) (lt2 _) (by decide))) (evl rfl) (d4p (Nat.le_trans (Nat.add_le_add_right (b2z (x:=[92]) (lt2 _)) 1) (by decide)))
 refine a3b (v:=.str (a2s w d)) ((a4w evc rfl (a8i c1)).trans ?_) ?_
 ·show(match (generalizing:=false) a8v ((w.map fun c=>(List.replicate (d / 8%2) [92]).flatten++[c]).map .str)with | some ts=>if(ts.map List.length).sum+ts.length * 0<=big then some (V.str (b3c [] ts),μ)else .none | .none=>.none)=_
  rw [b2q];refine(if_pos ?_).trans ?_
  ·rw [← List.length_flatten];exact Nat.le_trans dl (by decide)
  ·rw [b4s];rfl
 have e3:∀ n,ev g0 (n+3) (.cmp .Eq (.bin .Mod (.loc 83) (.cst (.int 2))) (.cst (.int 0))) [(82,.str w),(83,.int (d:Int)),(84,.str (a3d d)),(85,.str (a2s w d))] μ=some (.bool (decide (d%2=0)),μ):=fun n=>
  a0h (evb (evl rfl) evc (d5p d 2 (by decide))) evc ((c4l _ _).trans (congrArg some (decide_eq_decide.mpr Int.ofNat_inj)))
 have e4:∀ n,ev g0 (n+4) (.or [(.cmp .Eq (.bin .Mod (.loc 83) (.cst (.int 2))) (.cst (.int 0))),(.cmp .Eq (.loc 82) (.cst (.str [])))]) [(82,.str w),(83,.int (d:Int)),(84,.str (a3d d)),(85,.str (a2s w d))] μ=some (.bool (decide (d%2=0∨w=[])),μ):=fun n=>
  (d4x (e3 _) (a0h (evl rfl) evc (encStr.cmpEq (by decide) hs (fun c hc=>absurd hc List.not_mem_nil)))).trans (by rw [← Bool.decide_or])
 unfold a0o;by_cases h:d%2=0∨w=[]
 ·rw [if_pos h]
  refine a6s (bv:=true) ((e4 _).trans (by rw [decide_eq_true h])) (a6k (evb (evb (evb evc (evl rfl) (d4p ?_)) evc (d4p ?_)) (evb (evl rfl) (hmod _ 16 2 (by decide) (by decide) (by decide) rfl) (f2g (lt2 _) (Nat.le_trans (b2w d) (by decide)))) (d4p ?_)))
  ·exact Nat.le_trans (Nat.add_le_add_left dl 1) (by decide)
  ·rw [List.length_append];exact Nat.le_trans (Nat.add_le_add_right (Nat.add_le_add_left dl 1) 1) (by decide)
  ·rw [List.length_append,List.length_append];exact Nat.le_trans (Nat.add_le_add (Nat.add_le_add_right (Nat.add_le_add_left dl 1) 1) (Nat.le_trans (b2z (lt2 _)) (b2w d))) (by decide)
 ·rw [if_neg h]
  exact a6v (bv:=false) ((e4 _).trans (by rw [decide_eq_false h])) rfl (a6k (evb (evl rfl) (evl rfl) (d4p (Nat.le_trans (Nat.add_le_add dl (b2w d)) (by decide)))))
end
end
section
noncomputable def goodC(c:Nat):Prop:=b0g c=false/\c≠34/\c≠92/\c<128
noncomputable def goodW(w:List Nat):Prop:=∀ c∈w,goodC c
theorem b1w(c:Nat)(w:List Nat)(d:Nat):a2s (c::w) d=(if d / 8%2=0 then [c]else [92,c])++a2s w d:=by
 unfold a2s;rw [List.map_cons,List.flatten_cons];congr 1;have:=Nat.mod_two_eq_zero_or_one (d / 8);rcases this with q | q<;>rw [q]<;>simp
theorem e6k{c:Nat}(h:c≠10)(n:Int):nl c n=n:=if_neg h
theorem b2l{p:Nat->Bool}(hp:p 92=false)(d:Nat):∀(w t tok:List Nat) (n:Int),(∀ c∈w,p c=false/\c≠92/\c≠10)->a5u p (a2s w d++t) tok n=a5u p t (tok++w) n:=by
 intro z_;induction z_ with
 | nil=>
  intro t tok n _;rw [List.append_nil];rfl
 | cons c w ih=>
  intro t tok n h;have hc:=h c List.mem_cons_self;have ih:=(ih t (tok++[c]) n fun e he=>h e (List.mem_cons_of_mem _ he)).trans (by rw [List.append_assoc];rfl:_=a5u p t (tok++c::w) n);rw [b1w];by_cases q:d / 8%2=0
  ·rw [if_pos q]
   refine(a5y hc.1 hc.2.1 _ _ _).trans ?_;rw [e6k hc.2.2];exact ih
  ·rw [if_neg q]
   refine(b0r hp _ _ _ _).trans ?_;rw [e6k hc.2.2];exact ih
theorem goodC.ten{c:Nat}(h:goodC c):c≠10:=fun q=>by subst q;exact nt h.1.symm
theorem a8n(d:Nat)(w t tok:List Nat)(n:Int)(h:∀ c∈w,goodC c):a5u e1k (a2s w d++t) tok n=a5u e1k t (tok++w) n:=
 b2l rfl d w t tok n fun c hc=>⟨beq_false_of_ne (h c hc).2.1,(h c hc).2.2.1,(h c hc).ten⟩
theorem a5f(d:Nat){w:List Nat}(hne:w≠[])(hw:goodW w)(t:List Nat)(n:Int):a0l (a2s w d++t) n=d0o (a5u b0g t w n):=by
 induction w using List.casesOn with
 | nil=>exact absurd rfl hne
 | cons c w=>
  have hc:=hw c List.mem_cons_self;have e:=b2l (p:=b0g) rfl d (c::w) t [] n fun c hc=>⟨(hw c hc).1,(hw c hc).2.2.1,(hw c hc).ten⟩;rw [b1w]at e ⊢;by_cases q:d / 8%2=0
  ·rw [if_pos q]at e ⊢
   exact(a7g hc.1 hc.2.1 _ _).trans (congrArg d0o e)
  ·rw [if_neg q]at e ⊢
   exact(a7g (c:=92) rfl (by decide) _ _).trans (congrArg d0o e)
noncomputable def a9h(p:List Nat):Prop:=∀ c∈p,b0g c=true
theorem a7i:a9h []:=fun c hc=>nomatch hc
theorem f3f:a9h [10]:=fun c hc=>by simp at hc;subst hc;rfl
theorem f4h:a9h [10,32]:=fun c hc=>by simp at hc;rcases hc with rfl | rfl<;>rfl
theorem f2r:a9h [13,10]:=fun c hc=>by simp at hc;rcases hc with rfl | rfl<;>rfl
theorem a9w:∀(p t:List Nat) (n:Int),a9h p->∃ n',a0l (p++t) n=a0l t n':=by
 intro z_;induction z_ with
 | nil=>
  intro t n _;exact⟨n,rfl⟩
 | cons c p ih=>
  intro t n h;obtain⟨n',e⟩:=ih t (nl c n) fun d hd=>h d (by simp [hd]);exact⟨n',by rw [List.cons_append,a7j (h c (by simp)),e]⟩
theorem a5h(d:Nat):a3d d=[10]∨a3d d=[32]∨a3d d=[9]∨a3d d=[13,10,32]:=by
 unfold a3d gaps;have h:d / 2%4<4:=Nat.mod_lt _ (by decide)
 match d / 2%4,h with
 | 0,_=>simp
 | 1,_=>simp
 | 2,_=>simp
 | 3,_=>simp
theorem b5k(d:Nat)(l:List Nat):(List.replicate (d / 16%2) l).flatten=[]∨(List.replicate (d / 16%2) l).flatten=l:=by
 have:=Nat.mod_two_eq_zero_or_one (d / 16);rcases this with q | q<;>rw [q]<;>simp
set_option tactic.hygienic true in
theorem b5b{w:List Nat}(h:goodW w)(d:Nat)(t:List Nat):∃ p,a9h p/\∀ n,∃ n',a0l (a0o w d++t) n=(w,p++t,n'):=by
 unfold a0o;split<;>rename_i hq
 ·obtain⟨p,hp,e⟩:∃ p,a9h p/\(List.replicate (d / 16%2) (a3d d)).flatten=p:=by
   refine⟨_,?_,rfl⟩;rcases b5k d (a3d d)with q | q
   ·rw [q];intro c hc;cases hc
   ·rw [q]
    rcases a5h d with g | g | g | g<;>rw [g]<;>(intro c hc;simp at hc;rcases hc with rfl | rfl | rfl<;>rfl)
  refine⟨p,hp,fun n=>⟨n,?_⟩⟩;rw [e];have:([34]++a2s w d++[34]++p++t)=34::(a2s w d++(34::(p++t))):=by simp
  rw [this,a6i,show nl 34 n=n from rfl,a8n d w _ _ _ h,a3l (by rfl)];rfl
 ·obtain⟨g0,g1,e,hg0,hg1⟩:∃ g0 g1,a3d d=g0::g1/\b0g g0=true/\a9h g1:=by
   rcases a5h d with g | g | g | g
   ·exact⟨10,[],g,rfl,a7i⟩
   ·exact⟨32,[],g,rfl,a7i⟩
   ·exact⟨9,[],g,rfl,a7i⟩
   ·exact⟨13,[10,32],g,rfl,f4h⟩
  refine⟨g1,hg1,fun n=>⟨nl g0 n,?_⟩⟩;rw [e,List.append_assoc,List.cons_append,a5f d (fun q=>hq (.inr q)) h,a3l hg0];rfl
set_option tactic.hygienic true in
theorem d0z{w:List Nat}(h:goodW w)(d:Nat):∃ p,a9h p/\∀ n,∃ n',a0l (a0o w d).dropLast n=(w,p,n'):=by
 unfold a0o;split<;>rename_i hq
 ·rcases b5k d (a3d d)with q | q
  ·refine⟨[],a7i,fun n=>⟨n,?_⟩⟩
   rw [q,List.append_nil,List.dropLast_concat];show a0l (34::a2s w d) n=_;rw [a6i,show nl 34 n=n from rfl];have:=a8n d w [] [] n h;rw [List.append_nil]at this;rw [this];rfl
  ·rw [q]
   obtain⟨p,hp,e⟩:∃ p,a9h p/\([34]++a2s w d++[34]++a3d d).dropLast=34::(a2s w d++(34::p)):=by
    rcases a5h d with g | g | g | g
    ·exact⟨[],a7i,by rw [g,List.dropLast_concat];simp⟩
    ·exact⟨[],a7i,by rw [g,List.dropLast_concat];simp⟩
    ·exact⟨[],a7i,by rw [g,List.dropLast_concat];simp⟩
    ·refine⟨[13,10],f2r,?_⟩
     rw [g,show([34]++a2s w d++[34]++[13,10,32])=([34]++a2s w d++[34]++[13,10])++[32]from by simp,List.dropLast_concat];simp
   refine⟨p,hp,fun n=>⟨n,?_⟩⟩;rw [e,a6i,show nl 34 n=n from rfl,a8n d w _ _ _ h,a3l (by rfl)];rfl
 ·have one:∀ x:Nat,a3d d=[x]->∃ p,a9h p/\∀ n,∃ n',a0l (a2s w d++a3d d).dropLast n=(w,p,n'):=fun x g=>by
   refine⟨[],a7i,fun n=>⟨n,?_⟩⟩;rw [g,List.dropLast_concat];have:=a5f d (fun q=>hq (.inr q)) h [] n;rw [List.append_nil]at this;rw [this];rfl
  rcases a5h d with g | g | g | g
  ·exact one 10 g
  ·exact one 32 g
  ·exact one 9 g
  ·refine⟨[10],f3f,fun n=>⟨n,?_⟩⟩
   rw [g,show(a2s w d++[13,10,32])=(a2s w d++[13,10])++[32]from by simp,List.dropLast_concat,a5f d (fun q=>hq (.inr q)) h,a3l (by rfl)];rfl
noncomputable def a1h:List (List Nat×Nat)->List Nat
 | []=>[]
 | [x]=>(a0o x.1 x.2).dropLast
 | x::y::r=>a0o x.1 x.2++a1h (y::r)
theorem c2h(w:List Nat)(d:Nat):a0o w d≠[]:=by
 unfold a0o;split
 ·simp
 ·rcases a5h d with g | g | g | g<;>rw [g]<;>simp
theorem b5y:∀ l:List (List Nat×Nat),a1h l=(l.map fun x=>a0o x.1 x.2).flatten.dropLast:=by
 intro z_;induction z_ with
 | nil=>
  exact rfl
 | cons x z_ ih=>induction z_ using List.casesOn with
  | nil=>
   simp [a1h]
  | cons y r=>
   have ih:=ih;have hne:((y::r).map fun x=>a0o x.1 x.2).flatten≠[]:=by
    rw [List.map_cons,List.flatten_cons];intro q;exact c2h y.1 y.2 (List.append_eq_nil_iff.mp q).1
   rw [a1h,ih,List.map_cons (l:=y::r),List.flatten_cons,List.dropLast_append_of_ne_nil hne]
noncomputable def b0m(l:List (List Nat×Nat))(t:List Nat):Prop:=∃ p,a9h p/\t=p++a1h l
theorem c9c{w:List Nat}{d:Nat}{r:List (List Nat×Nat)}{t:List Nat}(h:goodW w)(R:b0m ((w,d)::r) t)(n:Int):(a0l t n).1=w/\b0m r (a0l t n).2.1:=by
 obtain⟨p,hp,rfl⟩:=R;obtain⟨n',e⟩:=a9w p (a1h ((w,d)::r)) n hp;rw [e];induction r using List.casesOn with
 | nil=>
  obtain⟨p',hp',hr⟩:=d0z h d;obtain⟨n'',e2⟩:=hr n';rw [show a1h [(w,d)]=(a0o w d).dropLast from rfl,e2];exact⟨rfl,p',hp',by simp [a1h]⟩
 | cons y r=>
  obtain⟨p',hp',hr⟩:=b5b h d (a1h (y::r));obtain⟨n'',e2⟩:=hr n';rw [show a1h ((w,d)::y::r)=a0o w d++a1h (y::r)from rfl,e2];exact⟨rfl,p',hp',rfl⟩
theorem d4d{t:List Nat}(R:b0m [] t)(n:Int):(a0l t n).1=[]/\(a0l t n).2.1=[]:=by
 obtain⟨p,hp,rfl⟩:=R;obtain⟨n',e⟩:=a9w p (a1h []) n hp;rw [e];exact⟨rfl,rfl⟩
noncomputable def lns(t:List Nat):Int:=(t.count 10:Nat)
theorem a4p(c:Nat)(t:List Nat)(n:Int):nl c n+lns t=n+lns (c::t):=by
 unfold nl lns;by_cases h:c=10
 ·subst h;simp;omega
 ·simp [h]
theorem b2c{p:Nat->Bool}(hp:p 92=false)(t tok:List Nat)(n:Int):(a5u p t tok n).2.2.1+lns (a5u p t tok n).2.1=n+lns t:=by
 refine a9s hp (P:=fun t tok n=>(a5u p t tok n).2.2.1+lns (a5u p t tok n).2.1=n+lns t) (fun zz zz=>rfl) ?_ ?_ ?_ ?_ t.length t tok n (Nat.le_refl _)<;>clear t tok n
 ·intro c t tok n hc;rw [a3l hc];exact a4p c t n
 ·intro tok n;rw [a9m hp];exact a4p 92 [] n
 ·intro d t tok n ih;rw [b0r hp,ih,a4p,a4p]
 ·intro c t tok n hc h92 ih;rw [a5y hc h92,ih,a4p]
theorem a8r:∀(t:List Nat) (n:Int),(a0l t n).2.2+lns (a0l t n).2.1=n+lns t:=by
 intro z_;induction z_ with
 | nil=>
  intro n;exact rfl
 | cons c t ih=>
  intro n;induction hw:b0g c using Bool.casesOn with
  | true=>rw [a7j hw,ih,a4p]
  | false=>
   by_cases h34:c=34
   ·subst h34;rw [a6i];exact(b2c rfl t [] (nl 34 n)).trans (a4p 34 t n)
   ·rw [a7g hw h34];exact b2c rfl _ _ _
end
section
noncomputable def k3(a b c:Bool):V:=.lst [.bool a,.bool b,.bool c]
section
variable{μ:Mu}{N:Nat}
theorem e8h(i:Int)(ok:a3y μ=true):cF g0 P_ISTERMINAL a2p (N+10) [.int i] μ=some (.bool (decide (i<256)),μ):=c4d th3 N i μ ok
theorem d2o(i:Int)(ok:a3y μ=true):cF g0 a2c a2f (N+10) [.int i] μ=some (.bool (decide (i≥256)),μ):=by
 show a4f g0 (N+9) a2c a2f [.int i] μ=_;refine a0i (v:=.bool (decide (i≥256))) (ρ':=[(44,.int i)]) (by rfl) ok ?_ rfl;exact a6k (a0h (evl rfl) (v:=.int 256) rfl rfl)
theorem f4b(i:Int)(ok:a3y μ=true):cF g0 b3j b3r (N+10) [.int i] μ=some (.bool (decide (i=0)),μ):=by
 show a4f g0 (N+9) b3j b3r [.int i] μ=_;refine a0i (v:=.bool (decide (i=0))) (ρ':=[(44,.int i)]) (by rfl) ok ?_ rfl;exact a6k (a0h (evl rfl) (v:=.int 0) rfl (c4l i 0))
theorem d5w(a b:Int):a0p .Add (.int a) (.int b)=some (.int (a+b)):=rfl
theorem b5n(a b:Int):a0p .Sub (.int a) (.int b)=some (.int (a-b)):=rfl
theorem c1e{ρ:Rho}{i:Int}(hi:ρ.lookup 92=some (.int i))(ok:a3y μ=true):ev gK (N+20) (.comp (.cmp .Is (.loc 94) (.cst (.bool true))) (.one 94) (.tup [(.call 46 [(.loc 92)]),(.call 43 [(.loc 92)]),(.call 45 [(.loc 92)])]) [] [42,94]) ρ μ
  = some (k3 (decide (i=0)) (decide (i<256)) (decide (i≥256)),μ):=by
 have ct:a1s (fun x μ=>ev gK (N+19) x ρ μ) (.tup [(.call 46 [(.loc 92)]),(.call 43 [(.loc 92)]),(.call 45 [(.loc 92)])]) μ=some ([decide (i=0),decide (i<256),decide (i≥256)].map .bool,μ):=
  c7n (a4y (a7m ((a0j (a2i (evl hi))).trans (f4b (N:=N+7) i ok)) (a7m ((a0j (a2i (evl hi))).trans (e8h (N:=N+7) i ok)) (a8i ((a0j (a2i (evl hi))).trans (d2o (N:=N+7) i ok))))) (show 3<=big by decide))
 refine a2w ct (show 3<=big by decide) (a5t _ _ fun b hb=>a0h (u:=.bool b) (evl ?_) evc (by cases b<;>rfl));rw [a0b,if_pos rfl]
noncomputable def Tok(μ:Mu)(k:Nat)(w:List Nat)(μ':Mu):Prop:=a3f μ (.mut k)=true/\∀ N,mF g0 P_get_token a1l (N+30) (.mut k) [] μ=some (.str w,μ')
theorem e4b{Γ:G}{n:Nat}{ρ:Rho}{x:X}{v:V}(h:ev Γ n x ρ μ=some (v,μ)):evo (fun x μ=>ev Γ n x ρ μ) (some x) μ=some (some v,μ):=by
 show(match (generalizing:=false) ev Γ n x ρ μ with | some (v,μ)=>some (some v,μ) | .none=>Option.none)=_
 rw [h]
theorem c0o{Γ:G}{n:Nat}{ρ:Rho}{a x:X}{u v:V}{k:Int}(h:ev Γ n a ρ μ=some (u,μ))(hc:ev Γ n x ρ μ=some (.int k,μ))(hs:a1f (look μ u) (some k) .none .none=some v):ev Γ (n+1) (.slc a (some x) .none .none) ρ μ=some (v,μ):=by
 rw [c3c,h];dsimp only;rw [e4b hc];show(a1f (look μ u) (some k) .none .none).map _=_;rw [hs];rfl
theorem b8w{Γ:G}{n:Nat}{ρ:Rho}{a x:X}{u v:V}{k:Int}(h:ev Γ n a ρ μ=some (u,μ))(hc:ev Γ n x ρ μ=some (.int k,μ))(hs:a1f (look μ u) .none (some k) .none=some v):ev Γ (n+1) (.slc a .none (some x) .none) ρ μ=some (v,μ):=by
 rw [c3c,h];dsimp only;rw [show evo (fun x μ=>ev Γ n x ρ μ) .none μ=some (.none,μ)from rfl];dsimp only;rw [e4b hc];show(a1f (look μ u) .none (some k) .none).map _=_;rw [hs];rfl
theorem a4n{Γ:G}{n:Nat}{ρ:Rho}:ev Γ (n+2) (.neg i1) ρ μ=some (.int (-1),μ):=rfl
theorem c4b{Γ:G}{n:Nat}{ρ:Rho}{a:X}{w:List Nat}{k:Int}(hd:Γ.dic 27=some toks)(h:ev Γ n a ρ μ=some (.str w,μ))(hl:toks.lookup w=some k):ev Γ (n+1) (.subG 27 a) ρ μ=some (.int k,μ):=by
 rw [c5i,h,hd];show(toks.lookup w).map _=_;rw [hl];rfl
structure Sg(s:List Nat)(k:Int):Prop where
 ne:s≠[]
 len:s.length<=3
 look:toks.lookup s=some k
 lo:7<=k
 hi:k<=54
 good:goodW s
 last:a1f (.str s) (some (-1)) .none .none=some (.str (s.drop (s.length-1)))
 noq:a0s .Eq (.str (s.drop (s.length-1))) (.str [63])=some false
 lastq:a1f (.str (s++[63])) (some (-1)) .none .none=some (.str [63])
 cut:a1f (.str (s++[63])) .none (some (-1)) .none=some (.str s)
noncomputable def d9h(d:Nat)(k:Int):Int:=if d=0 then 0 else if d=1 then 5 * k-15 else k+256-7
noncomputable def c2m(d:Nat)(s:List Nat):List Nat:=if d=0 then []else if d=1 then s else s++[63]
theorem sl0:a1f (.str []) (some (-1)) .none .none=some (.str []):=by kernel_rfl
theorem q0:a0s .Eq (.str []) (.str [63])=some false:=by decide +kernel
theorem q1:a0s .Eq (.str [63]) (.str [63])=some true:=by decide +kernel
theorem f3o(ok:a3y μ=true):cF g0 a4d a4a (N+20) [.str []] μ=some (.int 0,μ):=by
 refine a0i (n:=N+19) (v:=.int 0) (ρ':=[(82,.str [])]) rfl ok ?_ rfl;exact a6v (bv:=false) (a0h (c0o (v:=.str []) (evl rfl) a4n sl0) evc q0) rfl (a6k ((a8t (evl rfl) (bv:=false) rfl).trans rfl))
theorem f2z{s:List Nat}{k:Int}(h:Sg s k)(ok:a3y μ=true):cF g0 a4d a4a (N+20) [.str s] μ=some (.int (5 * k-15),μ):=by
 refine a0i (n:=N+19) (v:=.int (5 * k-15)) (ρ':=[(82,.str s)]) rfl ok ?_ rfl;refine a6v (bv:=false) (a0h (c0o (evl rfl) a4n h.last) evc h.noq) rfl (a6k ((a8t (evl rfl) (bv:=true) ?_).trans ?_))
 ·refine(if_pos (Nat.le_trans h.len (by decide))).trans ?_
  cases s
  ·exact absurd rfl h.ne
  ·rfl
 ·exact evb (u:=.int (5 * k)) (evb (u:=.int 5) evc (c4b rfl (evl rfl) h.look) rfl) evc rfl
theorem f4s{s:List Nat}{k:Int}(h:Sg s k)(ok:a3y μ=true):cF g0 a4d a4a (N+20) [.str (s++[63])] μ=some (.int (k+256-7),μ):=by
 refine a0i (n:=N+19) (v:=.int (k+256-7)) (ρ':=[(82,.str (s++[63]))]) rfl ok ?_ rfl;refine a6s (bv:=true) (a0h (c0o (evl rfl) a4n h.lastq) evc q1) (a6k ?_);exact evb (u:=.int (k+256)) (evb (u:=.int k) (v:=.int 256) (c4b rfl (b8w (evl rfl) a4n h.cut) h.look) rfl rfl) evc rfl
theorem d0e{d:Nat}(hd:d<3){s:List Nat}{k:Int}(h:Sg s k)(ok:a3y μ=true):cF g0 a4d a4a (N+20) [.str (c2m d s)] μ=some (.int (d9h d k),μ):=by
 obtain rfl | rfl | rfl:=(by decide:∀ d<3,d=0∨d=1∨d=2) d hd
 ·exact f3o ok
 ·exact f2z h ok
 ·exact f4s h ok
theorem c9u{Γ:G}{n:Nat}{ρ:Rho}:ev Γ (n+3) d5a ρ μ=some (.lst [k3 true true false,k3 false true false,k3 false false true],μ):=rfl
theorem ix0:a8z [k3 true true false,k3 false true false,k3 false false true] (k3 true true false)=some 0:=by decide +kernel
theorem ix1:a8z [k3 true true false,k3 false true false,k3 false false true] (k3 false true false)=some 1:=by decide +kernel
theorem ix2:a8z [k3 true true false,k3 false true false,k3 false false true] (k3 false false true)=some 2:=by decide +kernel
theorem d7d{x:V}{d n:Nat}(hx:a8z [k3 true true false,k3 false true false,k3 false false true] x=some d):gK.meth n 39 (.lst [k3 true true false,k3 false true false,k3 false false true]) [x] μ=some (.int d,μ):=by
 show(if 3<=big then(a8z [k3 true true false,k3 false true false,k3 false false true] x).map (fun(j:Nat)=>(V.int (j:Int),μ))else Option.none)=_;rw [hx,if_pos (by decide)];rfl
theorem e6o{l:List V}:gK.find 39 (.lst l) μ=true:=rfl
theorem b7c{i:Int}{a b c:Bool}{d:Nat}(h1:decide (i=0)=a)(h2:decide (i<256)=b)(h3:decide (i≥256)=c)(hx:a8z [k3 true true false,k3 false true false,k3 false false true] (k3 a b c)=some d)(ok:a3y μ=true):cF gK b4j b4m (N+30) [.int i] μ=some (.int d,μ):=by
 refine a0i (n:=N+29) (v:=.int d) (ρ':=[(92,.int i),(93,k3 a b c)]) rfl ok ?_ rfl;subst h1 h2 h3;refine a3b (c1e (N:=N+8) rfl ok) (a6k ?_);refine(a4w (u:=.lst [k3 true true false,k3 false true false,k3 false false true]) (c9u (n:=N+24)) e6o (a2i (evl (v:=k3 _ _ _) rfl))).trans ?_;exact d7d hx
theorem c5r{d:Nat}(hd:d<3){s:List Nat}{k:Int}(h:Sg s k)(ok:a3y μ=true):cF gK b4j b4m (N+30) [.int (d9h d k)] μ=some (.int d,μ):=by
 have h1:=h.lo;have h2:=h.hi;obtain rfl | rfl | rfl:=(by decide:∀ d<3,d=0∨d=1∨d=2) d hd
 ·exact b7c rfl rfl rfl ix0 ok
 ·have e:d9h 1 k=5 * k-15:=rfl
  rw [e];exact b7c (decide_eq_false (by omega)) (decide_eq_true (by omega)) (decide_eq_false (by omega)) ix1 ok
 ·have e:d9h 2 k=k+256-7:=rfl
  rw [e];exact b7c (decide_eq_false (by omega)) (decide_eq_false (by omega)) (decide_eq_true (by omega)) ix2 ok
end
end
section
section
theorem a2a{f:Rho->Mu->Option (F×Rho×Mu)}{t:T}{v:V}{r:List V}{ρ ρ₂ ρK:Rho}{μ μ₃:Mu}(hb:a2b t v ρ=some ρ₂)(hf:f ρ₂ μ=some (.next,ρK,μ₃)):a6x f t (v::r) ρ μ=a6x f t r ρK μ₃:=by
 show(match (generalizing:=false) a2b t v ρ with | .none=>Option.none | some ρ=>match f ρ μ with | .none=>.none | some (.brk,ρ,μ)=>some (F.next,ρ,μ) | some (.ret v,ρ,μ)=>some (F.ret v,ρ,μ) | some (_,ρ,μ)=>a6x f t r ρ μ)=_
 rw [hb];dsimp only;rw [hf]
theorem c3d{f:Rho->Mu->Option (F×Rho×Mu)}{t:T}{P:Mu->Prop}{d:∀ μ,Decidable (P μ)}{ρ:Rho}{μ:Mu}(hP:P μ):a3h f t P [] ρ μ=some (.next,ρ,μ):=if_pos hP
theorem b7m{f:Rho->Mu->Option (F×Rho×Mu)}{t:T}{P:Mu->Prop}{d:∀ μ,Decidable (P μ)}{v:V}{r:List V}{ρ ρ₂ ρK:Rho}{μ μ₃:Mu}(hP:P μ)(hb:a2b t v ρ=some ρ₂)(hf:f ρ₂ μ=some (.next,ρK,μ₃)):a3h f t P (v::r) ρ μ=a3h f t P r ρK μ₃:=by
 refine(if_pos hP).trans ?_;show(match (generalizing:=false) a2b t v ρ with | .none=>Option.none | some ρ=>match f ρ μ with | .none=>.none | some (.brk,ρ,μ)=>some (F.next,ρ,μ) | some (.ret v,ρ,μ)=>some (F.ret v,ρ,μ) | some (_,ρ,μ)=>a3h f t P r ρ μ)=_
 rw [hb];dsimp only;rw [hf]
theorem a8h{f:X->Rho->Mu->Option (V×Mu)}{elt:X}{t:T}{v y:V}{r ys:List V}{ρ ρ₂:Rho}{μ μ₂ μ₃:Mu}(hb:a2b t v ρ=some ρ₂)(hf:f elt ρ₂ μ=some (y,μ₂))(h:a5n f elt t [] r ρ₂ μ₂=some (ys,μ₃)):a5n f elt t [] (v::r) ρ μ=some (y::ys,μ₃):=by
 show(match (generalizing:=false) a2b t v ρ with | .none=>Option.none | some ρ=>match f elt ρ μ with | .none=>.none | some (y,μ)=>match a5n f elt t [] r ρ μ with | .none=>.none | some (ys,μ)=>some (y::ys,μ))=_
 rw [hb];dsimp only;rw [hf];dsimp only;rw [h]
end
end
section
open Float64 (add sub mul div divmod cmp isZero)
noncomputable def c5p(r g mx rc gc bc:UInt64):UInt64:=if eqF r mx then sub bc gc else if eqF g mx then sub (add f2 rc) bc else sub (add f4 gc) rc
noncomputable def c4h(r g b mx rg s:UInt64)(out:UInt64->C3):Option C3:=
 (divO (sub mx r) rg).bind fun rc=>(divO (sub mx g) rg).bind fun gc=>(divO (sub mx b) rg).bind fun bc=>some (out (mod1 (div (c5p r g mx rc gc bc) f6)))
noncomputable def b3f(r g b:UInt64):Option C3:=
 if eqF (a5a (a5a r g) b) (a3i (a3i r g) b)then some (0,0,a3i (a3i r g) b)else
 (divO (sub (a3i (a3i r g) b) (a5a (a5a r g) b)) (a3i (a3i r g) b)).bind fun s=>c4h r g b (a3i (a3i r g) b) (sub (a3i (a3i r g) b) (a5a (a5a r g) b)) s fun h=>(h,s,a3i (a3i r g) b)
noncomputable def b3t(r g b:UInt64):Option C3:=
 if eqF (a5a (a5a r g) b) (a3i (a3i r g) b)then some (0,div (add (a3i (a3i r g) b) (a5a (a5a r g) b)) f2,0)else
 (if leF (div (add (a3i (a3i r g) b) (a5a (a5a r g) b)) f2) fh then divO (sub (a3i (a3i r g) b) (a5a (a5a r g) b)) (add (a3i (a3i r g) b) (a5a (a5a r g) b))
  else divO (sub (a3i (a3i r g) b) (a5a (a5a r g) b)) (sub (sub f2 (a3i (a3i r g) b)) (a5a (a5a r g) b))).bind fun s=>
 c4h r g b (a3i (a3i r g) b) (sub (a3i (a3i r g) b) (a5a (a5a r g) b)) s fun h=>(h,div (add (a3i (a3i r g) b) (a5a (a5a r g) b)) f2,s)
noncomputable def b3o(h s v:UInt64):Option C3:=
 if eqF s 0 then some (v,v,v)else if Float64.isFinite (mul h f6)=false∨small (Flt.toInt Float64.truncOf (mul h f6))=false then .none else
 (fun f p=>(fun q t=>(match (Flt.toInt Float64.truncOf (mul h f6)).fmod 6 with
  | 0=>some (v,t,p) | 1=>some (q,v,p) | 2=>some (p,v,t) | 3=>some (p,q,v) | 4=>some (t,p,v) | 5=>some (v,p,q) | _=>Option.none))
  (mul v (sub f1 (mul s f))) (mul v (sub f1 (mul s (sub f1 f)))))
  (sub (mul h f6) (Float64.ofInt (Flt.toInt Float64.truncOf (mul h f6)))) (mul v (sub f1 s))
section
variable{μ:Mu}{N:Nat}{ρ:Rho}{Γ:G}{n:Nat}
theorem le3:3<=big:=by decide
theorem e6m(a:UInt64):divO a f6=some (div a f6):=by unfold divO;rw [z6];rfl
theorem e4s(a:UInt64):divO a f2=some (div a f2):=by unfold divO;rw [z2];rfl
theorem c3e{a b c:X}{u v w:V}(h1:ev Γ n a ρ μ=some (u,μ))(h2:ev Γ n b ρ μ=some (v,μ))(h3:ev Γ n c ρ μ=some (w,μ)):ev Γ (n+1) (.tup [a,b,c]) ρ μ=some (.tup [u,v,w],μ):=a4y (evn h1 (evn h2 (a2i h3))) le3
theorem c2y{a b c:UInt64}(h:divO a b=some c):a0p .Div (.flt a) (.flt b)=some (.flt c):=by rw [e9e,h];rfl
theorem ceq{a b:UInt64}{c:Bool}(h:eqF a b=c):a0s .Eq (.flt a) (.flt b)=some c:=(e2k a b).trans (congrArg some h)
theorem cle{a b:UInt64}{c:Bool}(h:leF a b=c):a0s .LtE (.flt a) (.flt b)=some c:=(e2m a b).trans (congrArg some h)
noncomputable def f3t:Mine.S:=.ite (.cmp .Eq (.loc 48) (.loc 51)) [.assign 60 (.bin .Sub (.loc 59) (.loc 58))] [.ite (.cmp .Eq (.loc 49) (.loc 51)) [.assign 60 (.bin .Sub (.bin .Add (.cst (.flt 4611686018427387904)) (.loc 57)) (.loc 59))] [.assign 60 (.bin .Sub (.bin .Add (.cst (.flt 4616189618054758400)) (.loc 58)) (.loc 57))]]
theorem c7g{r g mx rc gc bc:UInt64}{rest:List Mine.S}{z:Option (F×Rho×Mu)}(l48:ρ.lookup 48=some (.flt r))(l49:ρ.lookup 49=some (.flt g))(l51:ρ.lookup 51=some (.flt mx))(l57:ρ.lookup 57=some (.flt rc))(l58:ρ.lookup 58=some (.flt gc))(l59:ρ.lookup 59=some (.flt bc))
  (k:a3j (a0e Γ (n+8)) rest (put 60 (.flt (c5p r g mx rc gc bc)) ρ) μ=z):a3j (a0e Γ (n+8)) (f3t::rest) ρ μ=z:=by
 refine(a0a ?_).trans k;unfold c5p;induction e1:eqF r mx using Bool.casesOn with
 | true=>exact(a0m (a0h (evl l48) (evl l51) (ceq e1)) rfl).trans (a3b (evb (evl l59) (evl l58) rfl) rfl)
 | false=>
  refine(a0m (a0h (evl l48) (evl l51) (ceq e1)) rfl).trans ((a0a ?_).trans rfl);induction e2:eqF g mx using Bool.casesOn with
  | true=>exact(a0m (a0h (evl l49) (evl l51) (ceq e2)) rfl).trans (a3b (evb (evb evc (evl l57) rfl) (evl l59) rfl) rfl)
  | false=>exact(a0m (a0h (evl l49) (evl l51) (ceq e2)) rfl).trans (a3b (evb (evb evc (evl l58) rfl) (evl l57) rfl) rfl)
theorem exc{x:Option (F×Rho×Mu)}{a c:C3}(h:some a=some c)(k:∃ ρ',x=some (.ret (vC a),ρ',μ)):∃ ρ',x=some (.ret (vC c),ρ',μ):=Option.some.inj h▸k
theorem b6q{r g b:UInt64}{c:C3}(h:b3f r g b=some c)(ok:a3y μ=true):cF g0 a3n a2r (N+20) [.flt r,.flt g,.flt b] μ=some (vC c,μ):=by
 have key:∃ ρ',a3j (a0e g0 (N+18)) a2r [(48,.flt r),(49,.flt g),(50,.flt b)] μ=some (.ret (vC c),ρ',μ):=by
  have args:∀ n:Nat,evs (fun x μ=>ev g0 (n+1) x [(48,.flt r),(49,.flt g),(50,.flt b)] μ) [.loc 48,.loc 49,.loc 50] μ=some ([.flt r,.flt g,.flt b],μ):=fun n=>evn (evl rfl) (evn (evl rfl) (a2i (evl rfl)));have args2:∀(n:Nat) (v:V),evs (fun x μ=>ev g0 (n+1) x (put 51 v [(48,.flt r),(49,.flt g),(50,.flt b)]) μ) [.loc 48,.loc 49,.loc 50] μ=some ([.flt r,.flt g,.flt b],μ):=fun n v=>evn (evl rfl) (evn (evl rfl) (a2i (evl rfl)));exact ifE h (fun h0 h=>exc h ⟨_,a3b ((a0j (args _)).trans rfl) (a3b ((a0j (args2 _ _)).trans rfl) (a3b (evb (evl rfl) (evl rfl) (a4o _ _)) (a3b (evl rfl)
    (a6s (a0h (evl rfl) (evl rfl) (ceq h0)) (a6k (c3e evc evc (evl rfl)))))))⟩)
   fun h0 h=>a0g h fun s d0 h=>a0g h fun rc d1 h=>a0g h fun gc d2 h=>a0g h fun bc d3 h=>exc h ⟨_,a3b ((a0j (args _)).trans rfl) (a3b ((a0j (args2 _ _)).trans rfl) (a3b (evb (evl rfl) (evl rfl) (a4o _ _)) (a3b (evl rfl)
    (a6v (a0h (evl rfl) (evl rfl) (ceq (Bool.eq_false_iff.mpr h0))) rfl (a3b (evb (evl rfl) (evl rfl) (c2y d0)) (a3b (evb (evb (evl rfl) (evl rfl) (a4o _ _)) (evl rfl) (c2y d1)) (a3b (evb (evb (evl rfl) (evl rfl) (a4o _ _)) (evl rfl) (c2y d2)) (a3b (evb (evb (evl rfl) (evl rfl) (a4o _ _)) (evl rfl) (c2y d3))
    (c7g rfl rfl rfl rfl rfl rfl (a3b (evb (evb (evl rfl) evc (c2y (e6m _))) evc (c6l _)) (a6k (c3e (evl rfl) (evl rfl) (evl rfl)))))))))))))⟩
 obtain⟨ρ',key⟩:=key;exact a0i (v:=vC c) (ρ':=ρ') (by rfl) ok key rfl
end
end
section
open Float64 (add sub mul div divmod cmp isZero)
section
variable{μ:Mu}{N:Nat}{ρ:Rho}{Γ:G}{n:Nat}
theorem e0m{f:Mine.S → Rho → Mu → Option (F×Rho×Mu)}{c:Bool}{a b:List Mine.S}{r:Option (F×Rho×Mu)}(h1:c=true → a3j f a ρ μ=r)(h2:c=false → a3j f b ρ μ=r):a3j f (if c then a else b) ρ μ=r:=by
  cases c
  · exact h2 rfl
  · exact h1 rfl
set_option maxHeartbeats 1000000 in
theorem b6r{r g b:UInt64}{c:C3}(h:b3t r g b=some c)(ok:a3y μ=true):cF g0 a3t a2q (N+20) [.flt r,.flt g,.flt b] μ=some (vC c,μ):=by
  have key:∃ ρ',a3j (a0e g0 (N+18)) a2q [(48,.flt r),(49,.flt g),(50,.flt b)] μ=some (.ret (vC c),ρ',μ):=by
    have args:∀ n:Nat,evs (fun x μ=>ev g0 (n+1) x [(48,.flt r),(49,.flt g),(50,.flt b)] μ) [.loc 48,.loc 49,.loc 50] μ=some ([.flt r,.flt g,.flt b],μ):=fun n=>evn (evl rfl) (evn (evl rfl) (a2i (evl rfl)));have args2:∀(n:Nat) (v:V),evs (fun x μ=>ev g0 (n+1) x (put 51 v [(48,.flt r),(49,.flt g),(50,.flt b)]) μ) [.loc 48,.loc 49,.loc 50] μ=some ([.flt r,.flt g,.flt b],μ):=fun n v=>evn (evl rfl) (evn (evl rfl) (a2i (evl rfl)));exact ifE h (fun h0 h=>exc h ⟨_,a3b ((a0j (args _)).trans rfl) (a3b ((a0j (args2 _ _)).trans rfl) (a3b (evb (evl rfl) (evl rfl) (c5m _ _)) (a3b (evb (evl rfl) (evl rfl) (a4o _ _)) (a3b (evb (evl rfl) evc (c2y (e4s _)))
        (a6s (a0h (evl rfl) (evl rfl) (ceq h0)) (a6k (c3e evc (evl rfl) evc)))))))⟩)
      fun h0 h=>a0g h fun s d0 h=>a0g h fun rc d1 h=>a0g h fun gc d2 h=>a0g h fun bc d3 h=>exc h ⟨_,a3b ((a0j (args _)).trans rfl) (a3b ((a0j (args2 _ _)).trans rfl) (a3b (evb (evl rfl) (evl rfl) (c5m _ _)) (a3b (evb (evl rfl) (evl rfl) (a4o _ _)) (a3b (evb (evl rfl) evc (c2y (e4s _)))
        (a6v (a0h (evl rfl) (evl rfl) (ceq (Bool.eq_false_iff.mpr h0))) rfl
        (a6v (a0h (evl rfl) evc (cle rfl)) (e0m (fun hl=>a3b (evb (evl rfl) (evl rfl) (c2y ((if_pos hl).symm.trans d0))) rfl) fun hl=>a3b (evb (evl rfl) (evb (evb evc (evl rfl) (a4o _ _)) (evl rfl) (a4o _ _)) (c2y ((if_neg (Bool.eq_false_iff.mp hl)).symm.trans d0))) rfl)
        (a3b (evb (evb (evl rfl) (evl rfl) (a4o _ _)) (evl rfl) (c2y d1)) (a3b (evb (evb (evl rfl) (evl rfl) (a4o _ _)) (evl rfl) (c2y d2)) (a3b (evb (evb (evl rfl) (evl rfl) (a4o _ _)) (evl rfl) (c2y d3))
        (c7g rfl rfl rfl rfl rfl rfl (a3b (evb (evb (evl rfl) evc (c2y (e6m _))) evc (c6l _)) (a6k (c3e (evl rfl) (evl rfl) (evl rfl))))))))))))))⟩
  obtain⟨ρ',key⟩:=key;exact a0i (v:=vC c) (ρ':=ρ') (by rfl) ok key rfl
theorem b6p{h l s:UInt64}(ok:a3y μ=true):cF gV a3q a2o (N+30) [.flt h,.flt l,.flt s] μ=some (vC (a1u th3 h l s),μ):=by
  have hv:∀ m1 m2 x,gV.call (N+26) 64 [.flt m1,.flt m2,.flt x] μ=some (.flt (pV th3 m1 m2 x),μ):=fun m1 m2 x=>e3x (N:=N+16) m1 m2 x ok;have tail:∀(ρ:Rho) (m2:UInt64),ρ.lookup 60=some (.flt h) → ρ.lookup 55=some (.flt l) → ρ.lookup 62=some (.flt m2) → ∃ ρ',a3j (a0e gV (N+28)) [.assign 63 (.bin .Sub (.bin .Mult (.cst (.flt 4611686018427387904)) (.loc 55)) (.loc 62)),
      .ret (.tup [(.call 64 [(.loc 63),(.loc 62),(.bin .Add (.loc 60) (.glb 30))]),(.call 64 [(.loc 63),(.loc 62),(.loc 60)]),(.call 64 [(.loc 63),(.loc 62),(.bin .Sub (.loc 60) (.glb 30))])])] ρ μ=some (.ret (vC (d3m th3 (sub (mul f2 l) m2) m2 h)),ρ',μ):=fun ρ m2 l60 l55 l62=>by
    have k60:(put 63 (V.flt (sub (mul f2 l) m2)) ρ).lookup 60=some (.flt h):=by rw [a0b,if_neg (by decide)];exact l60
    have k62:(put 63 (V.flt (sub (mul f2 l) m2)) ρ).lookup 62=some (.flt m2):=by rw [a0b,if_neg (by decide)];exact l62
    have k63:(put 63 (V.flt (sub (mul f2 l) m2)) ρ).lookup 63=some (.flt (sub (mul f2 l) m2)):=by rw [a0b,if_pos rfl]
    have g30:∀ n ρ,ev gV (n+1) (.glb 30) ρ μ=some (.flt th3.a,μ):=fun n ρ=>rfl;exact⟨_,a3b (evb (evb evc (evl l55) (b1m _ _)) (evl l62) (a4o _ _)) (a6k (c3e ((a0j (evn (evl k63) (evn (evl k62) (a2i (evb (evl k60) (g30 _ _) (c5m _ _)))))).trans (hv _ _ _)) ((a0j (evn (evl k63) (evn (evl k62) (a2i (evl k60))))).trans (hv _ _ _)) ((a0j (evn (evl k63) (evn (evl k62) (a2i (evb (evl k60) (g30 _ _) (a4o _ _)))))).trans (hv _ _ _))))⟩
  have key:∃ ρ',a3j (a0e gV (N+28)) a2o [(60,.flt h),(55,.flt l),(56,.flt s)] μ=some (.ret (vC (a1u th3 h l s)),ρ',μ):=by
    unfold a1u;induction h0:eqF s 0 using Bool.casesOn with
    | true=>exact⟨_,a6s (a0h (evl rfl) evc (ceq h0)) (a6k (c3e (evl rfl) (evl rfl) (evl rfl)))⟩
    | false=>induction h1:leF l fh using Bool.casesOn with
      | true=>
        obtain⟨ρ',e⟩:=tail (put 62 (.flt (mul l (add f1 s))) [(60,.flt h),(55,.flt l),(56,.flt s)]) _ rfl rfl rfl;exact⟨ρ',a6v (a0h (evl rfl) evc (ceq h0)) rfl (a6v (a0h (evl rfl) evc (cle h1)) (a3b (evb (evl rfl) (evb evc (evl rfl) (c5m _ _)) (b1m _ _)) rfl) e)⟩
      | false=>
        obtain⟨ρ',e⟩:=tail (put 62 (.flt (sub (add l s) (mul l s))) [(60,.flt h),(55,.flt l),(56,.flt s)]) _ rfl rfl rfl;exact⟨ρ',a6v (a0h (evl rfl) evc (ceq h0)) rfl (a6v (a0h (evl rfl) evc (cle h1)) (a3b (evb (evb (evl rfl) (evl rfl) (c5m _ _)) (evb (evl rfl) (evl rfl) (b1m _ _)) (a4o _ _)) rfl) e)⟩
  obtain⟨ρ',key⟩:=key;exact a0i (v:=vC (a1u th3 h l s)) (ρ':=ρ') (by rfl) ok key rfl
theorem e7m(a:UInt64)(μ:Mu)(h:Float64.isFinite a=true):d0q [.flt a] μ=some (.int (Flt.toInt Float64.truncOf a),μ):=by
  unfold d0q;simp only [h,if_true]
theorem c8x(a:UInt64)(n:Int)(h:small n=true):a0p .Sub (.flt a) (.int n)=some (.flt (sub a (Float64.ofInt n))):=by
  simp only [b2o,a6u,b0p,b2j,b5j,b5i,b2r,b2g,b1a,a9z,a8d,b1z,b2k,b1y,b1v,h,if_true];rfl
theorem e3q(n:Int):a0p .Mod (.int n) (.int 6)=some (.int (n.fmod 6)):=by
  simp only [b2o,a6u,b0p,b2j,b5j,b5i,b2r,b2g,b1a,a9z,a8d,b1z,b2k,b1y,b1v];rfl
theorem e4k(a b:Int):a0s .Eq (.int a) (.int b)=some (decide (a=b)):=rfl
theorem b1n{a b:Int}{c:Bool}(h:decide (a=b)=c):a0s .Eq (.int a) (.int b)=some c:=(e4k a b).trans (congrArg some h)
set_option maxHeartbeats 1000000 in
theorem b8c{h s v:UInt64}{c:C3}(hc:b3o h s v=some c)(ok:a3y μ=true):cF g0 a3r F_hsv_to_rgb (N+20) [.flt h,.flt s,.flt v] μ=some (vC c,μ):=by
  have key:∃ ρ',a3j (a0e g0 (N+18)) F_hsv_to_rgb [(60,.flt h),(56,.flt s),(67,.flt v)] μ=some (.ret (vC c),ρ',μ):=by
    refine ifE hc (fun h0 hc=>exc hc ⟨_,a6s (a0h (evl rfl) evc (ceq h0)) (a6k (c3e (evl rfl) (evl rfl) (evl rfl)))⟩) fun h0 hc=>ifN hc fun hn hc=>?_;have hf:Float64.isFinite (mul h f6)=true:=by
      cases q:Float64.isFinite (mul h f6)
      · exact absurd (.inl q) hn
      · rfl
    have hs:small (Flt.toInt Float64.truncOf (mul h f6))=true:=by
      cases q:small (Flt.toInt Float64.truncOf (mul h f6))
      · exact absurd (.inr q) hn
      · rfl
    have hi:∀ n,g0.call n 5 [.flt (mul h f6)] μ=some (.int (Flt.toInt Float64.truncOf (mul h f6)),μ):=fun n=>e7m (mul h f6) μ hf;generalize Flt.toInt Float64.truncOf (mul h f6)=I at hc hs hi;have bm:=e3q I;generalize I.fmod 6=J at hc bm;have run:∀ {q:Option (F×Rho×Mu)},a3j (a0e g0 (N+18)) (F_hsv_to_rgb.drop 7) [(60,.flt h),(56,.flt s),(67,.flt v),(69,.int J),(70,.flt (sub (mul h f6) (Float64.ofInt I))),(71,.flt (mul v (sub f1 s))),(72,.flt (mul v (sub f1 (mul s (sub (mul h f6) (Float64.ofInt I)))))),(73,.flt (mul v (sub f1 (mul s (sub f1 (sub (mul h f6) (Float64.ofInt I)))))))] μ=q → a3j (a0e g0 (N+18)) F_hsv_to_rgb [(60,.flt h),(56,.flt s),(67,.flt v)] μ=q:=fun k=>
      a6v (a0h (evl rfl) evc (ceq (Bool.eq_false_iff.mpr h0))) rfl (a3b ((a0j (a2i (evb (evl rfl) evc (b1m _ _)))).trans (hi _)) (a3b (evb (evb (evl rfl) evc (b1m _ _)) (evl rfl) (c8x (mul h f6) I hs)) (a3b (evb (evl rfl) (evb evc (evl rfl) (a4o _ _)) (b1m _ _))
      (a3b (evb (evl rfl) (evb evc (evb (evl rfl) (evl rfl) (b1m _ _)) (a4o _ _)) (b1m _ _)) (a3b (evb (evl rfl) (evb evc (evb (evl rfl) (evb evc (evl rfl) (a4o _ _)) (b1m _ _)) (a4o _ _)) (b1m _ _)) (a3b (evb (evl rfl) evc bm) k))))))
    split at hc
    · exact exc hc ⟨_,run (a6s (a0h (evl rfl) evc (b1n rfl)) (a6k (c3e (evl rfl) (evl rfl) (evl rfl))))⟩
    · exact exc hc ⟨_,run (a6v (a0h (evl rfl) evc (b1n rfl)) rfl (a6s (a0h (evl rfl) evc (b1n rfl)) (a6k (c3e (evl rfl) (evl rfl) (evl rfl)))))⟩
    · exact exc hc ⟨_,run (a6v (a0h (evl rfl) evc (b1n rfl)) rfl (a6v (a0h (evl rfl) evc (b1n rfl)) rfl (a6s (a0h (evl rfl) evc (b1n rfl)) (a6k (c3e (evl rfl) (evl rfl) (evl rfl))))))⟩
    · exact exc hc ⟨_,run (a6v (a0h (evl rfl) evc (b1n rfl)) rfl (a6v (a0h (evl rfl) evc (b1n rfl)) rfl (a6v (a0h (evl rfl) evc (b1n rfl)) rfl (a6s (a0h (evl rfl) evc (b1n rfl)) (a6k (c3e (evl rfl) (evl rfl) (evl rfl)))))))⟩
    · exact exc hc ⟨_,run (a6v (a0h (evl rfl) evc (b1n rfl)) rfl (a6v (a0h (evl rfl) evc (b1n rfl)) rfl (a6v (a0h (evl rfl) evc (b1n rfl)) rfl (a6v (a0h (evl rfl) evc (b1n rfl)) rfl (a6s (a0h (evl rfl) evc (b1n rfl)) (a6k (c3e (evl rfl) (evl rfl) (evl rfl))))))))⟩
    · exact exc hc ⟨_,run (a6v (a0h (evl rfl) evc (b1n rfl)) rfl (a6v (a0h (evl rfl) evc (b1n rfl)) rfl (a6v (a0h (evl rfl) evc (b1n rfl)) rfl (a6v (a0h (evl rfl) evc (b1n rfl)) rfl (a6v (a0h (evl rfl) evc (b1n rfl)) rfl (a6s (a0h (evl rfl) evc (b1n rfl)) (a6k (c3e (evl rfl) (evl rfl) (evl rfl)))))))))⟩
    · exact ns hc
  obtain⟨ρ',key⟩:=key;exact a0i (v:=vC c) (ρ':=ρ') (by rfl) ok key rfl
end
end
section
open Float64 (add sub mul div divmod cmp isZero)
noncomputable def qO(n d:Nat):Option UInt64:=if Float64.isInf (Float64.ofFrac false n d)then .none else some (Float64.ofFrac false n d)
noncomputable def b5v(k:Nat)(x:UInt64):UInt64:=add (mul (Float64.ofInt k) x) (Float64.ofInt 1)
noncomputable def a9f(k:Nat)(x:UInt64):Option Int:=if Float64.isFinite (b5v k x)then some ((Flt.toInt Float64.truncOf (b5v k x)).fdiv 2)else .none
noncomputable def e3g(x:UInt64):Bool:=(Float64.cmpInt x 0==some .gt||Float64.cmpInt x 0==some .eq)&&(Float64.cmpInt x 1==some .lt||Float64.cmpInt x 1==some .eq)
end
section
theorem a7u{c:Nat}{t u:List Nat}(h:u <:+ t):u <:+ c::t:=h.trans (List.suffix_cons c t)
theorem b9f{p:Nat->Bool}(hp:p 92=false)(t tok:List Nat)(n:Int):(a5u p t tok n).2.1 <:+ t:=by
 refine a9s hp (P:=fun t tok n=>(a5u p t tok n).2.1 <:+ t) (fun zz zz=>List.suffix_refl _) ?_ ?_ ?_ ?_ t.length t tok n (Nat.le_refl _)<;>clear t tok n
 ·intro c t tok n hc;rw [a3l hc];exact List.suffix_cons _ _
 ·intro tok n;rw [a9m hp];exact List.suffix_cons _ _
 ·intro d t tok n ih;rw [b0r hp];exact a7u (a7u ih)
 ·intro c t tok n hc h92 ih;rw [a5y hc h92];exact a7u ih
theorem b4a:∀(t:List Nat) (n:Int),(a0l t n).2.1 <:+ t:=by
 intro z_;induction z_ with
 | nil=>
  intro n;exact List.suffix_refl _
 | cons c t ih=>
  intro n;induction hw:b0g c using Bool.casesOn with
  | true=>rw [a7j hw];exact a7u (ih _)
  | false=>
   by_cases h34:c=34
   ·subst h34;rw [a6i];exact a7u (b9f rfl _ _ _)
   ·rw [a7g hw h34];exact b9f rfl _ _ _
noncomputable def stQ(t:List Nat)(n:Int)(q:List (List Nat))(R:List (List V)):Mu:=
 [.obj [3] (-5),.obj [] (-9),.list (chars t),.obj [] (-6),.obj [2,3] (-3),.list (q.map .str),.obj [5,4] n]++R.map .list
noncomputable def x0:LxIx:=⟨6,5,4,2,3⟩
section
variable{t:List Nat}{n:Int}{q:List (List Nat)}{R:List (List V)}
theorem e7u:x0.Ok (stQ t n q R):=by
 constructor<;>first | rfl | (simp [x0,stQ];done) | decide
theorem b8i:(stQ t n q R).length=R.length+7:=by simp [stQ]
theorem a4k(h:∀ l∈R,a0q l=true):a3y (stQ t n q R)=true:=by
 unfold a3y stQ;rw [List.all_append,Bool.and_eq_true];constructor
 ·simp [okM,a9c,a8a]
 ·rw [List.all_eq_true]
  intro m hm;obtain⟨l,hl,rfl⟩:=List.mem_map.mp hm;exact h l hl
theorem b3n(l:List V):stQ t n q R++[.list l]=stQ t n q (R++[l]):=by simp [stQ]
theorem c0z(hR:∀ l∈R,a0q l=true)(hb:t.length<big)(hn:1<=n)(hc:∀ c∈t,c<1114112):Tok (stQ t n [] R) 6 (a0l t n).1 (stQ (a0l t n).2.1 (a0l t n).2.2 [] R):=by
 refine⟨?_,fun N=>?_⟩
 ·show decide (1<=n)=true
  exact decide_eq_true hn
 ·have:=e0l (th:=th3) (N:=N) (x:=x0) (μ:=stQ t n [] R) (t:=t) (n:=n) e7u (a4k hR) rfl hb hn hc
  exact this
theorem d0t{w:List Nat}(hR:∀ l∈R,a0q l=true)(hn:1<=n)(hz:q.length<big):Tok (stQ t n (w::q) R) 6 w (stQ t n q R):=by
 refine⟨?_,fun N=>?_⟩
 ·show decide (1<=n)=true
  exact decide_eq_true hn
 ·have:=d3b (th:=th3) (N:=N) (μ:=stQ t n (w::q) R) (k:=6) (kp:=5) (ks:=4) (s:=w) (r:=q.map .str) rfl hn rfl (by simp;omega) (a4k hR)
  exact this
theorem e3l{ρ:Rho}{N k:Nat}{μ μ':Mu}{w:List Nat}(hl:ρ.lookup 88=some (.mut k))(ht:Tok μ k w μ'):ev gR (N+31) (.meth 22 (.loc 88) []) ρ μ=some (.str w,μ'):=
 (a4w (vs:=[]) (μ₁:=μ) (evl hl) (show(if(22=21∨22=22∨22=23)then a3f μ (.mut k)else b7g 22 (.mut k) μ)=true from(if_pos (Or.inr (Or.inl rfl))).trans ht.1) rfl).trans (ht.2 N)
inductive b2s:Mu->List (List Nat)->Mu->Prop
 | nil (μ:Mu):b2s μ [] μ
 | cons {μ μ' μ'':Mu} {w:List Nat} {ws:List (List Nat)}:Tok μ 6 w μ'->b2s μ' ws μ''->b2s μ (w::ws) μ''
theorem e5k{N:Nat}{μ μ':Mu}{ws:List (List Nat)}(h:b2s μ ws μ'):∀(vs:List V) (ρ:Rho),vs.length=ws.length->ρ.lookup 88=some (.mut 6)->a5n (ev gR (N+31)) (.meth 22 (.loc 88) []) (.one 126) [] vs ρ μ=some (ws.map .str,μ'):=by
 induction h with
 | nil=>
  intro vs ρ hl _;obtain rfl:=List.eq_nil_of_length_eq_zero hl;rfl
 | cons ht _ ih=>
  intro vs ρ hl hρ;induction vs using List.casesOn with
  | nil=>cases hl
  | cons v vs=>
   have hρ2:(put 126 v ρ).lookup 88=some (.mut 6):=by rw [a0b,if_neg (by decide)];exact hρ
   exact a8h d1t (e3l hρ2 ht) (ih vs _ (Nat.succ.inj hl) hρ2)
theorem c1f(hR:∀ l∈R,a0q l=true)(hn:1<=n):∀(ws:List (List Nat)),ws.length<big->b2s (stQ t n ws R) ws (stQ t n [] R):=by
 intro ws;induction ws with
 | nil=>exact fun zz=>.nil _
 | cons w ws ih=>exact fun h=>.cons (d0t hR hn (Nat.lt_of_succ_lt h)) (ih (Nat.lt_of_succ_lt h))
theorem c2z:∀(l:List (List Nat×Nat)) (t:List Nat) (n:Int),(∀ p∈l,goodW p.1)->b0m l t->t.length<big->1<=n->(∀ c∈t,c<1114112) →
  ∃ t' n',b0m [] t'/\t'.length<big/\1<=n'/\(∀ c∈t',c<1114112)/\n'+lns t'=n+lns t/\∀ R:List (List V),(∀ l∈R,a0q l=true)->b2s (stQ t n [] R) (l.map (·.1)) (stQ t' n' [] R):=by
 intro l;induction l with
 | nil=>exact fun t n zz hr hb hn hc=>⟨t,n,hr,hb,hn,hc,rfl,fun R zz=>.nil _⟩
 | cons z l ih=>
  obtain⟨w,d⟩:=z;intro t n hg hr hb hn hc;obtain⟨h1,h2⟩:=c9c (hg (w,d) (.head _)) hr n;have hs:=b4a t n;have hl:=a8r t n;have hle:=hs.length_le;have hc2:∀ c∈(a0l t n).2.1,c<1114112:=fun c h=>hc c (hs.subset h);have hn2:1<=(a0l t n).2.2:=Int.le_of_add_le_add_right (hl▸Int.add_le_add hn (Int.ofNat_le.mpr (hs.sublist.count_le _)));obtain⟨t',n',a1,a2,a3,a4,a5,a6⟩:=ih (a0l t n).2.1 (a0l t n).2.2 (fun p hp=>hg p (.tail _ hp)) h2 (Nat.lt_of_le_of_lt hle hb) hn2 hc2;refine⟨t',n',a1,a2,a3,a4,a5.trans hl,fun R hR=>?_⟩;have s:=c0z hR hb hn hc (R:=R);rw [h1]at s;exact .cons s (a6 R hR)
theorem d8y{N:Nat}{ρ:Rho}{w:List Nat}(hR:∀ l∈R,a0q l=true)(hn:1<=n)(hz:q.length<=big)(h88:ρ.lookup 88=some (.mut 6))(h82:ρ.lookup 82=some (.str w)):exec gR (N+14) d3n ρ (stQ t n q R)=some (.next,ρ,stQ t n (q++[w]) R):=by
 refine(a0a (a4h (v:=.none) ((a4w (u:=.mut 6) (evl h88) (show(if(23=21∨23=22∨23=23)then a3f (stQ t n q R) (.mut 6)else b7g 23 (.mut 6) (stQ t n q R))=true from(if_pos (Or.inr (Or.inr rfl))).trans (decide_eq_true hn)) (a2i (evl h82))).trans ?_))).trans rfl;have:=c8m (th:=th3) (N:=N+2) (μ:=stQ t n q R) (k:=6) (kp:=5) (ks:=4) (s:=w) (l:=q.map .str) rfl hn rfl (by rw [List.length_map];exact hz) (a4k hR);refine this.trans ?_;rw [show q.map V.str++[V.str w]=(q++[w]).map V.str by rw [List.map_append];rfl];rfl
end
end
end Mine
end
section
set_option maxRecDepth 100000
set_option exponentiation.threshold 3000
namespace Mine
section
open PySem.Float64
noncomputable def bN(c:Bool)(a b:Nat):Nat:=@Bool.rec (fun zz=>Nat) b a c
noncomputable def bB(c:Bool)(a b:Bool):Bool:=@Bool.rec (fun zz=>Bool) b a c
theorem a3s{c b:Bool}(h:bB c b false=true):c=true/\b=true:=by cases c<;>first | exact nt h | exact⟨rfl,h⟩
noncomputable def lgB(j:Nat):Nat->Nat->Nat:=@Nat.rec (fun zz=>Nat->Nat->Nat) (fun zz a=>a) (fun j ih T a=>bN (Nat.ble (Nat.pow 2 (Nat.pow 2 j)) T) (ih (Nat.shiftRight T (Nat.pow 2 j)) (Nat.add a (Nat.pow 2 j))) (ih T a)) j
noncomputable def lgX(T:Nat):Nat:=
 bN (Nat.ble (Nat.pow 2 1073) T) (bN (Nat.ble (Nat.pow 2 1074) T) (bN (Nat.ble (Nat.pow 2 1075) T) (bN (Nat.ble (Nat.pow 2 1107) T) (Nat.log2 T) (lgB 5 (Nat.shiftRight T 1075) 1075)) 1074) 1073)
  (bN (Nat.ble (Nat.pow 2 1072) T) 1072 (bN (Nat.ble (Nat.pow 2 1071) T) 1071 (bN (Nat.ble (Nat.pow 2 818) T) (lgB 8 (Nat.shiftRight T 818) 818) (Nat.log2 T))))
theorem ar1{a b x y:Nat}(h1:a<=b)(h:b+x<=a+y):x<=y:=Nat.le_of_add_le_add_left (Nat.le_trans h (Nat.add_le_add_right h1 y))
theorem ar2{a b c d x y:Nat}(h1:a<=b)(h2:c<=d)(h:b+d+x<=a+c+y):x<=y:=ar1 (Nat.add_le_add h1 h2) h
theorem ar3{a b c d e f x y:Nat}(h1:a<=b)(h2:c<=d)(h3:e<=f)(h:b+d+f+x<=a+c+e+y):x<=y:=ar2 (Nat.add_le_add h1 h2) h3 h
theorem c6i{n d l:Nat}(hd:0<d)(h:l * d<=n):l<=halfEven n d:=by
 have:l<=n / d:=(Nat.le_div_iff_mul_le hd).mpr h;unfold halfEven;dsimp only;split
 ·exact Nat.le_succ_of_le this
 ·exact this
theorem a0u(k:Nat):0<2^k:=Nat.pow_pos (by decide)
theorem b5x(a b T x y:Nat):bN (Nat.ble (Nat.pow 2 a) T) x y=if 2^a<=T then x else y:=by
 by_cases h:2^a<=T
 ·rw [if_pos h,show Nat.ble (Nat.pow 2 a) T=true from Nat.ble_eq.mpr h];rfl
 ·rw [if_neg h,show Nat.ble (Nat.pow 2 a) T=false from Bool.eq_false_iff.mpr fun q=>h (Nat.ble_eq.mp q)];rfl
theorem d5l{n d K:Nat}(hd:0<d)(h1:2^K * d<=n)(h2:n<2^(K+1) * d):Nat.log2 (n / d)=K:=by
 have a:2^K<=n / d:=(Nat.le_div_iff_mul_le hd).mpr h1;have hne:n / d≠0:=Nat.ne_of_gt (Nat.lt_of_lt_of_le (a0u K) a);exact Nat.le_antisymm (Nat.le_of_lt_succ ((Nat.log2_lt hne).mpr ((Nat.div_lt_iff_lt_mul hd).mpr h2))) ((Nat.le_log2 hne).mpr a)
theorem c0x{T K:Nat}(h1:2^K<=T)(h2:¬2^(K+1)<=T):K=Nat.log2 T:=by
 have:=d5l (n:=T) (d:=1) (K:=K) (by decide) (by rw [Nat.mul_one];exact h1) (by rw [Nat.mul_one];exact Nat.lt_of_not_le h2);rw [Nat.div_one]at this;exact this.symm
theorem b5c{T k:Nat}(h:2^k<=T):k+Nat.log2 (T / 2^k)=Nat.log2 T:=by
 have hT:T≠0:=Nat.ne_of_gt (Nat.lt_of_lt_of_le (a0u k) h);have hk:=(Nat.le_log2 hT).mpr h;obtain⟨j,hj⟩:=Nat.le.dest hk;rw [← hj,d5l (K:=j) (a0u k)]
 ·rw [← Nat.pow_add,Nat.add_comm,hj];exact(Nat.le_log2 hT).mp (Nat.le_refl _)
 ·rw [← Nat.pow_add,Nat.add_right_comm,Nat.add_comm j,hj];exact(Nat.log2_lt hT).mp (Nat.lt_succ_self _)
theorem e6c(j:Nat):∀ T a:Nat,0<T->T<2^2^j->lgB j T a=a+Nat.log2 T:=by
 induction j with
 | zero=>
  intro T a h0 h1;rw [show T=1 from Nat.le_antisymm (Nat.le_of_lt_succ h1) h0];rfl
 | succ j ih=>
  intro T a h0 h1;refine(b5x (2^j) 0 T _ _).trans ?_;by_cases h:2^2^j<=T
  ·rw [if_pos h]
   have e:Nat.shiftRight T (Nat.pow 2 j)=T / 2^2^j:=Nat.shiftRight_eq_div_pow T (2^j);refine(ih _ _ ?_ ?_).trans ?_
   ·rw [e];exact Nat.div_pos h (a0u _)
   ·rw [e];refine Nat.div_lt_of_lt_mul ?_
    rw [← Nat.pow_add,← Nat.two_mul,Nat.mul_comm,← Nat.pow_succ];exact h1
   ·rw [e]
    exact(Nat.add_assoc a (2^j) _).trans (congrArg (a+·) (b5c h))
  ·rw [if_neg h]
   exact ih T a h0 (Nat.lt_of_not_le h)
theorem d5r(k j:Nat){T:Nat}(h0:2^k<=T)(h1:¬2^(k+2^j)<=T):lgB j (Nat.shiftRight T k) k=Nat.log2 T:=by
 have e:Nat.shiftRight T k=T / 2^k:=Nat.shiftRight_eq_div_pow T k;rw [e,e6c j _ _ (Nat.div_pos h0 (a0u _)) (Nat.div_lt_of_lt_mul (by rw [← Nat.pow_add];exact Nat.lt_of_not_le h1))];exact b5c h0
theorem d5m(T:Nat):lgX T=Nat.log2 T:=by
 unfold lgX;rw [b5x 1073 0,b5x 1074 0,b5x 1075 0,b5x 1107 0,b5x 1072 0,b5x 1071 0,b5x 818 0];by_cases h3:2^1073<=T
 ·rw [if_pos h3]
  by_cases h4:2^1074<=T
  ·rw [if_pos h4]
   by_cases h5:2^1075<=T
   ·rw [if_pos h5]
    by_cases h6:2^1107<=T
    ·rw [if_pos h6]
    ·rw [if_neg h6];exact d5r 1075 5 h5 h6
   ·rw [if_neg h5];exact c0x h4 h5
  ·rw [if_neg h4];exact c0x h3 h4
 ·rw [if_neg h3]
  by_cases h2:2^1072<=T
  ·rw [if_pos h2];exact c0x h2 h3
  ·rw [if_neg h2]
   by_cases h1:2^1071<=T
   ·rw [if_pos h1];exact c0x h1 h2
   ·rw [if_neg h1]
    by_cases h0:2^818<=T
    ·rw [if_pos h0];exact d5r 818 8 h0 fun q=>h1 (Nat.le_trans (Nat.pow_le_pow_right (by decide) (by decide)) q)
    ·rw [if_neg h0]
noncomputable def d4i(N D:Nat):Nat:=Nat.sub (lgX (Nat.div N D)) 52
noncomputable def hfe(N D:Nat):Nat:=bN (Nat.ble (Nat.add (Nat.mul 2 (Nat.mod N D)) (Nat.mod (Nat.div N D) 2)) D) (Nat.div N D) (Nat.succ (Nat.div N D))
noncomputable def e9n(N D e:Nat):Nat:=Nat.shiftLeft (hfe N (Nat.shiftLeft D e)) e
noncomputable def a7z(N D:Nat):Nat:=e9n N D (d4i N D)
theorem d4h(N D:Nat):hfe N D=halfEven N D:=by
 show bN (Nat.ble (2 * (N%D)+N / D%2) D) (N / D) (N / D+1)=if(decide (2 * (N%D)>D)||(2 * (N%D)==D&&N / D%2==1))=true then N / D+1 else N / D
 generalize N / D=q;generalize N%D=r;have hc:(decide (2 * r>D)||(2 * r==D&&q%2==1))=true↔¬2 * r+q%2<=D:=by
  rw [Bool.or_eq_true,Bool.and_eq_true,decide_eq_true_eq,beq_iff_eq,beq_iff_eq];rcases Nat.mod_two_eq_zero_or_one q with c | c<;>rw [c]
  ·exact⟨fun h=>h.elim Nat.not_le.mpr fun h=>absurd h.2 (by decide),fun h=>.inl (Nat.lt_of_not_le h)⟩
  ·exact⟨fun h=>Nat.not_le.mpr (Nat.lt_succ_of_le (h.elim Nat.le_of_lt fun h=>Nat.le_of_eq h.1.symm)),fun h=>(Nat.eq_or_lt_of_le (Nat.le_of_lt_succ (Nat.lt_of_not_le h))).elim (fun h=>.inr ⟨h.symm,rfl⟩) .inl⟩
 by_cases h:2 * r+q%2<=D
 ·rw [Nat.ble_eq.mpr h,if_neg fun z=>hc.mp z h];rfl
 ·rw [show Nat.ble (2 * r+q%2) D=false from Bool.eq_false_iff.mpr fun z=>h (Nat.ble_eq.mp z),if_pos (hc.mpr h)];rfl
theorem e1g{W c b:Nat}(h:W<=c)(hb:c<b):dist W c<dist W b:=by
 unfold dist;rw [Nat.sub_eq_zero_of_le h,Nat.sub_eq_zero_of_le (Nat.le_trans h (Nat.le_of_lt hb)),Nat.zero_add,Nat.zero_add];exact Nat.sub_lt_sub_right h hb
theorem e0d{W c a:Nat}(h:c<=W)(ha:a<c):dist W c<dist W a:=by
 unfold dist;rw [Nat.sub_eq_zero_of_le h,Nat.sub_eq_zero_of_le (Nat.le_trans (Nat.le_of_lt ha) h)];exact Nat.sub_lt_sub_left (Nat.lt_of_lt_of_le ha h) ha
theorem e5c{W D t u:Nat}(hD:0<D)(hlt:t<u)(hd:dist W (D * PySem.Float64.V t)=dist W (D * PySem.Float64.V u))(h1:t%2=0)(h2:u%2=0)(h:dist W (D * PySem.Float64.V t)<=dist W (D * PySem.Float64.V (t+1))):False:=by
 have a:D * PySem.Float64.V t<D * PySem.Float64.V (t+1):=Nat.mul_lt_mul_of_pos_left (V_lt (Nat.lt_succ_self t)) hD;have b:D * PySem.Float64.V (t+1)<D * PySem.Float64.V u:=Nat.mul_lt_mul_of_pos_left (V_lt (Nat.lt_of_le_of_ne hlt fun q=>by rw [← q,Nat.add_mod,h1]at h2;exact absurd h2 (by decide))) hD;rcases Nat.le_total W (D * PySem.Float64.V (t+1))with w | w
 ·exact Nat.lt_irrefl _ (Nat.lt_of_le_of_lt (hd▸h) (e1g w b))
 ·exact Nat.lt_irrefl _ (Nat.lt_of_le_of_lt h (e0d w a))
theorem d2x{r:UInt64}{neg:Bool}{W D:Nat}(hD:0<D)(h:Right r neg W D)(hz:a7z W D<2^2000):∃ t,r=pack neg t/\t<infMag/\PySem.Float64.V t=a7z W D/\∀ t',dist W (D * a7z W D)<=dist W (D * PySem.Float64.V t'):=by
 obtain⟨t,hr,hle,hov,hn⟩:=h;obtain⟨e,he⟩:∃ e,e=d4i W D:=⟨_,rfl⟩;have he2:e=Nat.log2 (W / D)-52:=by rw [he];exact congrArg (· - 52) (d5m (W / D))
 have hB:0<D * 2^e:=Nat.mul_pos hD (a0u e);have hsh:∀ x,Nat.shiftLeft x e=x * 2^e:=fun x=>Nat.shiftLeft_eq x e;have hX:a7z W D=halfEven W (D * 2^e) * 2^e:=by
  show e9n W D (d4i W D)=_;rw [← he];show Nat.shiftLeft (hfe W (Nat.shiftLeft D e)) e=_;rw [hsh,hsh,d4h]
 have up:W<2^53 * (D * 2^e):=by
  have h1:W / D<2^(e+53):=Nat.lt_of_lt_of_le Nat.lt_log2_self (Nat.pow_le_pow_right (by decide) (Nat.succ_le_succ (Nat.le_add_of_sub_le (Nat.le_of_eq he2.symm))));have h2:=(Nat.div_lt_iff_lt_mul hD).mp h1;rw [Nat.pow_add]at h2;rw [show 2^53 * (D * 2^e)=2^e * 2^53 * D by rw [Nat.mul_comm D,← Nat.mul_assoc,Nat.mul_comm (2^53)]];exact h2
 have lo:e=0∨2^52 * (D * 2^e)<=W:=by
  by_cases h0:e=0
  ·exact .inl h0
  ·refine .inr ?_
   have hne:W / D≠0:=fun q=>by rw [q]at he2;exact h0 he2
   have h1:2^(e+52)<=W / D:=(Nat.le_log2 hne).mp (Nat.add_le_of_le_sub (Nat.le_of_lt (Nat.lt_of_sub_ne_zero (he2▸h0))) (Nat.le_of_eq he2));have h2:=(Nat.le_div_iff_mul_le hD).mp h1;rw [Nat.pow_add]at h2;rw [show 2^52 * (D * 2^e)=2^e * 2^52 * D by rw [Nat.mul_comm D,← Nat.mul_assoc,Nat.mul_comm (2^52)]];exact h2
 have hmul:∀ v,dist (W * 2^e) (D * 2^e * v)=2^e * dist W (D * v):=fun v=>by
  rw [← dist_mul,Nat.mul_comm W,Nat.mul_comm D,Nat.mul_assoc]
 have near:=fun t'=>nearest_core hB rfl up lo t';have q1:halfEven W (D * 2^e)<=2^53:=Nat.le_trans (halfEven_le' _ _ hB) ((Nat.div_lt_iff_lt_mul hB).mpr up);have q2:2^52<=halfEven W (D * 2^e)∨e=0:=lo.symm.imp (c6i hB) id;have hV:=V_at q1 q2;generalize halfEven W (D * 2^e)=q at *;have hXV:a7z W D=PySem.Float64.V (e * 2^52+q):=hX.trans hV.symm;have ht:t<infMag:=by
  refine Nat.lt_of_le_of_ne hle fun q0=>?_;have h1:=hov.mp q0;have h2:2^52 * 2^e<=2^2000:=by
   rcases q2 with q2 | q2
   ·exact Nat.le_of_lt (Nat.lt_of_le_of_lt (Nat.mul_le_mul_right _ q2) (hX▸hz))
   ·rw [q2];decide +kernel
  have h3:2 * W<D * (2^2 * 2^2000):=by
   have:2 * W<2 * (2^53 * (D * 2^e)):=Nat.mul_lt_mul_of_pos_left up (by decide);refine Nat.lt_of_lt_of_le this ?_;rw [show 2 * (2^53 * (D * 2^e))=D * (2^2 * (2^52 * 2^e)) by rw [← Nat.mul_assoc 2,← Nat.mul_assoc (2^2),Nat.mul_left_comm D]];exact Nat.mul_le_mul_left _ (Nat.mul_le_mul_left _ h2)
  exact absurd (Nat.lt_of_le_of_lt h1 h3) (Nat.not_lt.mpr (Nat.mul_le_mul_left _ (by decide +kernel)))
 have near:∀ t',dist W (D * PySem.Float64.V (e * 2^52+q))<=dist W (D * PySem.Float64.V t')/\(PySem.Float64.V t'≠PySem.Float64.V (e * 2^52+q)->dist W (D * PySem.Float64.V (e * 2^52+q))=dist W (D * PySem.Float64.V t')->q%2=0):=fun t'=>by
  have:=near t';rw [hmul,hmul,← hV]at this;exact⟨Nat.le_of_mul_le_mul_left this.1 (a0u e),fun a b=>this.2 a (congrArg (2^e * ·) b)⟩
 refine⟨t,hr,ht,?_,fun t'=>hXV▸(near t').1⟩;rw [hXV];refine Classical.byContradiction fun hne=>?_;have d1:=(hn ht (e * 2^52+q)).1;have d2:=(near t).1;have dd:=Nat.le_antisymm d1 d2;have p1:=(hn ht (e * 2^52+q)).2 (Ne.symm hne) dd;have p2:=(near t).2 hne dd.symm;have p3:(e * 2^52+q)%2=0:=by rw [show e * 2^52=2 * (e * 2^51)from(Nat.mul_left_comm 2 e (2^51)).symm,Nat.mul_add_mod];exact p2
 rcases Nat.lt_trichotomy t (e * 2^52+q)with h | h | h
 ·exact e5c hD h dd p1 p3 (hn ht _).1
 ·exact hne (congrArg PySem.Float64.V h)
 ·exact e5c hD h dd.symm p3 p1 (near _).1
end
section
open PySem PySem.Float64
noncomputable def a1t:Nat:=Nat.pow 2 1074
theorem c3n:a1t=2^1074:=rfl
noncomputable def b4r(X Y:Nat):Nat:=a7z (Nat.add X Y) 1
noncomputable def a3x(X Y:Nat):Nat:=a7z (Nat.sub X Y) 1
noncomputable def a6r(X Y:Nat):Nat:=a7z (Nat.mul X Y) a1t
noncomputable def b2p(X Y:Nat):Nat:=a7z (Nat.mul X a1t) Y
noncomputable def a6t(X:Nat):Nat:=a7z (Nat.mod X a1t) 1
noncomputable def a2v(n:Nat):Nat:=a7z (Nat.mul n a1t) 1
noncomputable def b4o(X Y:Nat):Nat:=bN (Nat.ble X Y) Y X
noncomputable def b4n(X Y:Nat):Nat:=bN (Nat.ble X Y) X Y
structure FX(i:Nat)(a:Bool)(x:UInt64)(X:Nat):Prop where
 at':∃ m e,decode x=.fin a m e/\m * 2^(e+1074).toNat=X
 lt:X<2^(1074+i)
theorem d5s(W:Nat){D:Nat}:D * a7z W D<=2 * W:=by
 obtain⟨e,he⟩:∃ e,e=d4i W D:=⟨_,rfl⟩;have hX:D * a7z W D=D * 2^e * hfe W (D * 2^e):=by
  show D * e9n W D (d4i W D)=_;rw [← he];show D * Nat.shiftLeft (hfe W (Nat.shiftLeft D e)) e=_;have hsh:∀ x,Nat.shiftLeft x e=x * 2^e:=fun x=>Nat.shiftLeft_eq x e;rw [hsh,hsh,Nat.mul_comm (hfe _ _),Nat.mul_assoc]
 rw [hX];generalize D * 2^e=B;have h0:=Nat.div_add_mod W B;have key:hfe W B=W / B∨(hfe W B=W / B+1/\B<2 * (W%B)+W / B%2):=by
  show bN (Nat.ble (2 * (W%B)+W / B%2) B) (W / B) (W / B+1)=_∨_;by_cases h:2 * (W%B)+W / B%2<=B
  ·exact .inl (by rw [Nat.ble_eq.mpr h];rfl)
  ·exact .inr ⟨by show bN (Nat.ble (2 * (W%B)+W / B%2) B) (W / B) (W / B+1)=_;rw [show Nat.ble (2 * (W%B)+W / B%2) B=false from Bool.eq_false_iff.mpr fun z=>h (Nat.ble_eq.mp z)];rfl,Nat.lt_of_not_le h⟩
 rcases key with k | ⟨k,l⟩
 ·rw [k];exact Nat.le_trans (Nat.mul_div_le W B) (Nat.le_mul_of_pos_left W (by decide))
 ·rw [k,Nat.mul_add,Nat.mul_one]
  have l:=Nat.le_of_lt_succ (Nat.lt_of_lt_of_le l (Nat.add_le_add_left (Nat.le_of_lt_succ (Nat.mod_lt (W / B) (by decide))) _));exact Nat.le_trans (Nat.add_le_add (Nat.le_mul_of_pos_left _ (by decide:0<2)) l) (Nat.le_of_eq (by rw [← Nat.mul_add,h0]))
section
variable{i j k:Nat}{a b:Bool}{x y r:UInt64}{X Y W D:Nat}
theorem d5u{n:Nat}(h:n≠0):decide (sgn a n<0)=a:=by
 cases a
 ·exact decide_eq_false (Int.not_lt.mpr (Int.natCast_nonneg n))
 ·exact decide_eq_true (Int.neg_neg_of_pos (Int.natCast_pos.mpr (Nat.pos_of_ne_zero h)))
theorem d4j(h:X<=Y):(X:Int)-Y = -((Y-X:Nat):Int):=by rw [Int.ofNat_sub h,Int.neg_sub]
theorem d4o(h:X<=Y):-(X:Int)+Y=((Y-X:Nat):Int):=by rw [Int.ofNat_sub h,Int.sub_eq_add_neg,Int.add_comm]
theorem a6y{e g:Int}(h:g<=e)(hg:-((1074:Nat):Int)<=g):(e-g).toNat+(g+1074).toNat=(e+1074).toNat:=by
 rw [← Int.toNat_add (Int.sub_nonneg_of_le h) (Int.add_le_add_right hg 1074),← Int.add_assoc,Int.sub_add_cancel]
theorem FX.fin(h:FX i a x X):∃ m e,decode x=.fin a m e/\m * 2^(e+1074).toNat=X:=h.at'
theorem FX.val(h:FX i a x X):PySem.Float64.val x=sgn a X:=let⟨_,_,h1,h2⟩:=h.at';(val_eq h1).trans (congrArg (sgn a) h2)
theorem FX.abs(h:FX i a x X):(PySem.Float64.val x).natAbs=X:=by rw [h.val,sgn_natAbs]
theorem FX.le(h:FX i a x X)(hij:i<=j):FX j a x X:=⟨h.at',Nat.lt_of_lt_of_le h.lt (Nat.pow_le_pow_right (by decide) (Nat.add_le_add_left hij _))⟩
theorem FX.chk(hD:0<D)(h:Right r a W D)(hz:a7z W D<2^(1074+i))(hi:i<=900):FX i a r (a7z W D):=by
 obtain⟨t,rfl,ht,hV,_⟩:=d2x hD h (Nat.lt_of_lt_of_le hz (Nat.pow_le_pow_right (by decide) (Nat.le_trans (Nat.add_le_add_left hi _) (by decide))));obtain⟨m,e,h1,h2⟩:=decode_pack a ht;exact⟨⟨m,e,h1,h2.trans hV⟩,hz⟩
theorem FX.of(hD:0<D)(h:Right r a W D)(hW:W<D * 2^(1074+i))(hi:i+1<=900):FX (i+1) a r (a7z W D):=
 FX.chk hD h (Nat.lt_of_mul_lt_mul_left (a:=D) (Nat.lt_of_le_of_lt (d5s W) (by
  rw [← Nat.add_assoc,Nat.pow_succ,Nat.mul_comm _ 2,Nat.mul_left_comm];exact Nat.mul_lt_mul_of_pos_left hW (by decide)))) hi
theorem FX.mul(h1:FX i a x X)(h2:FX j b y Y)(hi:i+j+1<=900):FX (i+j+1) (a != b) (mul x y) (a6r X Y):=by
 obtain⟨m,e,d1,_⟩:=h1.at';obtain⟨n,f,d2,_⟩:=h2.at';have:=mul_right d1 d2;rw [h1.abs,h2.abs]at this;refine FX.of (a0u _) this ?_ hi;show X * Y<2^1074 * 2^(1074+(i+j));rw [← Nat.pow_add,show 1074+(1074+(i+j))=1074+i+(1074+j) by rw [Nat.add_add_add_comm,Nat.add_assoc],Nat.pow_add];exact Nat.mul_lt_mul'' h1.lt h2.lt
theorem FX.div(h1:FX i a x X)(h2:FX j b y Y)(h0:Y≠0)(hz:b2p X Y<2^(1074+k))(hk:k<=900):FX k (a != b) (div x y) (b2p X Y):=by
 obtain⟨m,e,d1,_⟩:=h1.at';obtain⟨n,f,d2,e2⟩:=h2.at';have:=div_right d1 d2 (fun q=>h0 (by rw [← e2,q,Nat.zero_mul]));rw [h1.abs,h2.abs]at this;exact FX.chk (Nat.pos_of_ne_zero h0) this hz hk
theorem a6q(a:Bool):FX i a (zero a) 0:=let⟨m,e,h1,h2⟩:=decode_pack a (t:=0) (by decide);⟨⟨m,e,h1,h2.trans V_zero⟩,a0u _⟩
theorem b3s(D:Nat):a7z 0 D=0:=by
 by_cases h:D=0
 ·subst h;decide +kernel
 ·exact(Nat.mul_eq_zero.mp (Nat.le_zero.mp (@d5s 0 D))).resolve_left h
theorem FX.add(h1:FX i a x X)(h2:FX i a y Y)(hi:i+2<=900):FX (i+2) a (add x y) (b4r X Y):=by
 obtain⟨m,e,d1,_⟩:=h1.at';obtain⟨n,f,d2,_⟩:=h2.at';have q:=add_right d1 d2;have hs:PySem.Float64.val x+PySem.Float64.val y=sgn a (X+Y):=by
  rw [h1.val,h2.val];cases a
  ·rfl
  ·exact(Int.neg_add (a:=X) (b:=Y)).symm
 rw [hs]at q;by_cases h0:X+Y=0
 ·rw [h0]at q
  have:=q.1 (by cases a<;>rfl);rw [this,Bool.and_self,show b4r X Y=0 from(congrArg (a7z · 1) h0).trans (b3s 1)];exact a6q a
 ·have:=q.2 (fun z=>h0 (by rw [← sgn_natAbs a (X+Y),z];rfl))
  rw [sgn_natAbs,d5u h0]at this;refine FX.of (i:=i+1) (by decide) this ?_ hi;rw [Nat.one_mul,← Nat.add_assoc,Nat.pow_succ,Nat.mul_two];exact Nat.add_lt_add h1.lt h2.lt
theorem FX.sub(h1:FX i false x X)(h2:FX j false y Y)(hle:Y<=X)(hi:i+1<=900):FX (i+1) false (sub x y) (a3x X Y):=by
 obtain⟨m,e,d1,_⟩:=h1.at';obtain⟨n,f,d2,_⟩:=h2.at';have q:=sub_right d1 d2;rw [show PySem.Float64.val x-PySem.Float64.val y=((X-Y:Nat):Int) by rw [h1.val,h2.val];exact(Int.ofNat_sub hle).symm]at q;by_cases h0:X-Y=0
 ·rw [h0]at q
  rw [q.1 rfl,show a3x X Y=0 from(congrArg (a7z · 1) h0).trans (b3s 1)];exact a6q false
 ·have:=q.2 (fun z=>h0 (Int.ofNat.inj z))
  rw [Int.natAbs_natCast,show decide (((X-Y:Nat):Int)<0)=false from decide_eq_false (Int.not_lt.mpr (Int.natCast_nonneg _))]at this;refine FX.of (by decide) this ?_ hi;rw [Nat.one_mul];exact Nat.lt_of_le_of_lt (Nat.sub_le _ _) h1.lt
theorem FX.sum{v:Int}{Z:Nat}{c:UInt64}(q:(v=0->r=c)/\(v≠0->Right r (decide (v<0)) v.natAbs 1))(hv:v=sgn a Z)(h0:Z≠0)(hZ:Z<2^(1074+i))(hi:i+1<=900):FX (i+1) a r (a7z Z 1):=by
 subst hv;have:=q.2 (fun z=>h0 (by rw [← sgn_natAbs a Z,z];rfl));rw [sgn_natAbs,d5u h0]at this;exact FX.of (by decide) this (by rw [Nat.one_mul];exact hZ) hi
theorem FX.subN(h1:FX i false x X)(h2:FX j false y Y)(hlt:X<Y)(hi:j+1<=900):FX (j+1) true (PySem.Float64.sub x y) (a3x Y X):=by
 obtain⟨m,e,d1,_⟩:=h1.at';obtain⟨n,f,d2,_⟩:=h2.at';exact FX.sum (sub_right d1 d2) (by rw [h1.val,h2.val];exact d4j (Nat.le_of_lt hlt)) (Nat.sub_ne_zero_of_lt hlt) (Nat.lt_of_le_of_lt (Nat.sub_le _ _) h2.lt) hi
theorem FX.cmp(h1:FX i false x X)(h2:FX j false y Y):PySem.Float64.cmp x y=some (compare (X:Int) (Y:Int)):=by
 obtain⟨m,e,d1,_⟩:=h1.at';obtain⟨n,f,d2,_⟩:=h2.at';rw [cmp_right d1 d2,h1.val,h2.val];rfl
theorem b7b(h:¬X<=Y):Nat.ble X Y=false:=Bool.eq_false_iff.mpr fun z=>h (Nat.ble_eq.mp z)
theorem FX.tri(h1:FX i false x X)(h2:FX j false y Y){P:Prop}(k1:PySem.Float64.cmp x y=some .lt->X<Y->P)(k2:PySem.Float64.cmp x y=some .eq->X=Y->P)(k3:PySem.Float64.cmp x y=some .gt->Y<X->P):P:=by
 have c:=h1.cmp h2;rcases Nat.lt_trichotomy X Y with h | h | h
 ·exact k1 (c.trans (congrArg some (Int.compare_eq_lt.mpr (Int.ofNat_lt.mpr h)))) h
 ·exact k2 (c.trans (congrArg some (Int.compare_eq_eq.mpr (congrArg Int.ofNat h)))) h
 ·exact k3 (c.trans (congrArg some (Int.compare_eq_gt.mpr (Int.ofNat_lt.mpr h)))) h
theorem FX.eqF(h1:FX i false x X)(h2:FX j false y Y):Mine.eqF x y=Nat.beq X Y:=by
 unfold Mine.eqF;refine h1.tri h2 (fun c h=>?_) (fun c h=>?_) (fun c h=>?_)<;>rw [c]
 ·exact(Bool.eq_false_iff.mpr fun z=>Nat.ne_of_lt h (Nat.eq_of_beq_eq_true z)).symm
 ·rw [h];exact(Nat.beq_refl Y).symm
 ·exact(Bool.eq_false_iff.mpr fun z=>Nat.ne_of_gt h (Nat.eq_of_beq_eq_true z)).symm
theorem FX.leF(h1:FX i false x X)(h2:FX j false y Y):Mine.leF x y=Nat.ble X Y:=by
 unfold Mine.leF;refine h1.tri h2 (fun c h=>?_) (fun c h=>?_) (fun c h=>?_)<;>rw [c]
 ·exact(Nat.ble_eq.mpr (Nat.le_of_lt h)).symm
 ·exact(Nat.ble_eq.mpr (Nat.le_of_eq h)).symm
 ·exact(b7b (Nat.not_le.mpr h)).symm
theorem FX.ltF(h1:FX i false x X)(h2:FX j false y Y):Mine.ltF x y=!Nat.ble Y X:=by
 unfold Mine.ltF;refine h1.tri h2 (fun c h=>?_) (fun c h=>?_) (fun c h=>?_)<;>rw [c]
 ·rw [b7b (Nat.not_le.mpr h)];rfl
 ·rw [Nat.ble_eq.mpr (Nat.le_of_eq h.symm)];rfl
 ·rw [Nat.ble_eq.mpr (Nat.le_of_lt h)];rfl
theorem FX.max(h1:FX i false x X)(h2:FX i false y Y):FX i false (a3i x y) (b4o X Y):=by
 unfold a3i b4o;refine h1.tri h2 (fun c h=>?_) (fun c h=>?_) (fun c h=>?_)<;>rw [c]
 ·rw [Nat.ble_eq.mpr (Nat.le_of_lt h)];exact h2
 ·rw [Nat.ble_eq.mpr (Nat.le_of_eq h)];exact h▸h1
 ·rw [b7b (Nat.not_le.mpr h)];exact h1
theorem FX.min(h1:FX i false x X)(h2:FX i false y Y):FX i false (a5a x y) (b4n X Y):=by
 unfold a5a b4n;refine h2.tri h1 (fun c h=>?_) (fun c h=>?_) (fun c h=>?_)<;>rw [c]
 ·rw [b7b (Nat.not_le.mpr h)];exact h2
 ·rw [Nat.ble_eq.mpr (Nat.le_of_eq h.symm)];exact h1
 ·rw [Nat.ble_eq.mpr (Nat.le_of_lt h)];exact h1
theorem FX.isZero(h:FX i a x X):PySem.Float64.isZero x=Nat.beq X 0:=by
 obtain⟨m,e,d,hX⟩:=h.at';unfold PySem.Float64.isZero;rw [d];by_cases h0:m=0
 ·rw [← hX,h0,Nat.zero_mul];rfl
 ·have:X≠0:=hX▸Nat.mul_ne_zero h0 (Nat.ne_of_gt (a0u _))
  induction m using Nat.casesOn with
  | zero=>exact absurd rfl h0
  | succ m=>exact(Bool.eq_false_iff.mpr fun z=>this (Nat.eq_of_beq_eq_true z)).symm
theorem FX.finite(h:FX i a x X):PySem.Float64.isFinite x=true:=by
 obtain⟨m,e,d,_⟩:=h.at';unfold PySem.Float64.isFinite;rw [d]
theorem FX.toInt(h:FX i false x X):Flt.toInt truncOf x=((X / a1t:Nat):Int):=by
 obtain⟨m,e,d,hX⟩:=h.at';have he:=decode_ge d;unfold Flt.toInt;rw [d];show(if e≥0 then(m:Int) * 2^e.toNat else Int.fdiv m (2^(-e).toNat))=_;rw [c3n,← hX];by_cases h0:e≥0
 ·rw [if_pos h0,show(e+1074).toNat=e.toNat+1074 from Int.toNat_add h0 (by decide),Nat.pow_add,← Nat.mul_assoc,Nat.mul_div_cancel _ (a0u _)]
  rw [Int.natCast_mul,Int.natCast_pow];rfl
 ·rw [if_neg h0,show((2:Int)^(-e).toNat)=((2^(-e).toNat:Nat):Int)from(Int.natCast_pow 2 _).symm,Int.fdiv_eq_ediv_of_nonneg _ (Int.natCast_nonneg _),← Int.natCast_ediv]
  rw [show 2^1074=2^(-e).toNat * 2^(e+1074).toNat by rw [← Nat.pow_add,← Int.zero_sub,a6y (Int.le_of_lt (Int.not_le.mp h0)) he];rfl,Nat.mul_div_mul_right _ _ (a0u _)]
theorem FX.ofN{n:Nat}(h:n<2^k)(hk:k+1<=900):FX (k+1) false (ofInt (n:Int)) (a2v n):=by
 have:=ofInt_right (n:Int);rw [Int.natAbs_natCast,show decide ((n:Int)<0)=false from decide_eq_false (Int.not_lt.mpr (Int.natCast_nonneg _))]at this;refine FX.of (by decide) this ?_ hk;rw [Nat.one_mul,Nat.pow_add,Nat.mul_comm (2^1074)];exact Nat.mul_lt_mul_of_pos_right h (a0u _)
theorem FX.frac{n d:Nat}(hd:0<d)(h:n<d * 2^k)(hk:k+1<=900):FX (k+1) false (ofFrac false n d) (a7z (Nat.mul n a1t) d):=by
 refine FX.of hd (ofFrac_right hd (show n * 2^1074 * d=n * 2^1074 * d from rfl) hd) ?_ hk;rw [Nat.pow_add,Nat.mul_comm (2^1074),← Nat.mul_assoc];exact Nat.mul_lt_mul_of_pos_right h (a0u _)
end
end
section
open PySem PySem.Float64
noncomputable def c9h:Nat:=Nat.pow 2 1075
noncomputable def e5q:Nat:=Nat.pow 2 1076
noncomputable def c8k:Nat:=Nat.pow 2 1073
noncomputable def d7c:Nat:=Nat.pow 2 1094
noncomputable def b8k:Nat:=Nat.mul 6 (Nat.pow 2 1074)
noncomputable def m1N(M:Nat):Nat:=bN (Nat.beq M 0) 0 (a3x a1t M)
section
variable{i j k:Nat}{a b:Bool}{x y r:UInt64}{X Y W D:Nat}
theorem FX.lit(t:Nat)(hx:pack a t=x)(ht:t<infMag)(hV:PySem.Float64.V t=X)(hb:X<2^(1074+i)):FX i a x X:=
 let⟨m,e,h1,h2⟩:=decode_pack a ht;⟨⟨m,e,hx▸h1,h2.trans hV⟩,hb⟩
theorem one_fx:FX 1 false f1 a1t:=.lit 4607182418800017408 (by decide +kernel) (by decide +kernel) (by decide +kernel) (by decide +kernel)
theorem two_fx:FX 2 false f2 c9h:=.lit 4611686018427387904 (by decide +kernel) (by decide +kernel) (by decide +kernel) (by decide +kernel)
theorem four_fx:FX 3 false f4 e5q:=.lit 4616189618054758400 (by decide +kernel) (by decide +kernel) (by decide +kernel) (by decide +kernel)
theorem b5d:FX 3 false f6 b8k:=.lit 4618441417868443648 (by decide +kernel) (by decide +kernel) (by decide +kernel) (by decide +kernel)
theorem b6t:FX 1 false fh c8k:=.lit 4602678819172646912 (by decide +kernel) (by decide +kernel) (by decide +kernel) (by decide +kernel)
theorem a5r:FX i false 0 0:=(show zero false=0 by decide +kernel)▸a6q false
theorem c3u:∀ z<6,z=0∨z=1∨z=2∨z=3∨z=4∨z=5:=by decide
theorem c1q{m n:Nat}{e f:Int}(hx:decode x=.fin a m e)(hy:decode y=.fin b n f)(hn:n≠0):Right (fmod x y) a (m * 2^(e+1074).toNat%(n * 2^(f+1074).toNat)) 1:=by
 have he:=decode_ge hx;have hf:=decode_ge hy;obtain⟨g,hg⟩:∃ g,g=min e f:=⟨_,rfl⟩;have e3:-((1074:Nat):Int)<=g:=hg▸Int.le_min.mpr ⟨he,hf⟩;have e1:=a6y (hg▸Int.min_le_left e f) e3;have e2:=a6y (hg▸Int.min_le_right e f) e3;have hm:fmod x y=ofBin a (m * 2^(e-g).toNat%(n * 2^(f-g).toNat)) g:=by
  unfold fmod;rw [hx,hy];refine(if_neg (by simpa using hn)).trans ?_;rw [hg];rfl
 rw [hm,← e1,← e2,Nat.pow_add,Nat.pow_add,← Nat.mul_assoc,← Nat.mul_assoc,Nat.mul_mod_mul_right];unfold ofBin;exact ofFrac_right (shift_pos _ _ _ (by decide)) ((Nat.mul_one _).trans (shift_one _ g 1074 e3)) (by decide)
theorem FX.fmod1(h:FX i a x X):FX 1 a (fmod x f1) (a6t X):=by
 obtain⟨m,e,d,hX⟩:=h.at';obtain⟨n,f,d1,hN⟩:=one_fx.at';have h0:n≠0:=fun q=>by rw [q,Nat.zero_mul]at hN;exact absurd hN.symm (Nat.ne_of_gt (a0u 1074))
 have:=c1q d d1 h0;rw [hX,hN]at this;refine FX.of (i:=0) (by decide) this ?_ (by decide);rw [Nat.one_mul];exact Nat.mod_lt _ (a0u 1074)
theorem c8i:mod1 x=if PySem.Float64.isZero (fmod x f1)then copysign (zero false) f1 else if lt f1 (zero false) != PySem.Float64.lt (fmod x f1) (zero false)then PySem.Float64.add (fmod x f1) f1 else fmod x f1:=by
 unfold mod1 divmod;by_cases h1:PySem.Float64.isZero (fmod x f1)=true
 ·rw [if_pos h1];simp only [h1,if_true]
 ·rw [if_neg h1]
  by_cases h2:(lt f1 (zero false) != PySem.Float64.lt (fmod x f1) (zero false))=true
  ·rw [if_pos h2];simp only [h1,h2,if_true];rfl
  ·rw [if_neg h2];simp only [h1,h2];rfl
theorem c1z:copysign (zero false) f1=0:=by decide +kernel
theorem l1z:lt f1 (zero false)=false:=by decide +kernel
theorem FX.mod1(h:FX i false x X):FX 1 false (Mine.mod1 x) (a6t X):=by
 have hm:=h.fmod1;rw [c8i,hm.isZero];by_cases h0:a6t X=0
 ·rw [h0,c1z];exact a5r
 ·rw [if_neg fun z=>h0 (Nat.eq_of_beq_eq_true z),l1z]
  have:PySem.Float64.lt (fmod x f1) (zero false)=false:=(hm.ltF (a6q (i:=1) false)).trans rfl;rw [this];exact hm
theorem FX.mod1N(h:FX i true x X)(hle:a6t X<=a1t):FX 2 false (Mine.mod1 x) (m1N (a6t X)):=by
 have hm:=h.fmod1;rw [c8i,hm.isZero];generalize a6t X=M at *;by_cases h0:M=0
 ·subst h0;rw [c1z];exact a5r
 ·have hb:Nat.beq M 0=false:=Bool.eq_false_iff.mpr fun z=>h0 (Nat.eq_of_beq_eq_true z)
  obtain⟨m,e,d,hX⟩:=hm.at';obtain⟨n,f,d1,hN⟩:=one_fx.at';obtain⟨z,g,d2,_⟩:=(a6q (i:=1) false).at';have hl:PySem.Float64.lt (fmod x f1) (zero false)=true:=by
   unfold PySem.Float64.lt;rw [cmp_right d d2,hm.val,(a6q (i:=1) false).val,show compare (sgn true M) (sgn false 0)=.lt from Int.compare_eq_lt.mpr (Int.neg_neg_of_pos (Int.natCast_pos.mpr (Nat.pos_of_ne_zero h0)))];rfl
  rw [hb,l1z,hl];show FX 2 false (PySem.Float64.add (fmod x f1) f1) (bN (Nat.beq M 0) 0 (a3x a1t M));rw [hb];have q:=add_right d d1;rw [show PySem.Float64.val (fmod x f1)+PySem.Float64.val f1=((a1t-M:Nat):Int) by rw [hm.val,one_fx.val];exact d4o hle]at q;show FX 2 false _ (a3x a1t M);by_cases hz:a1t-M=0
  ·rw [hz]at q
   rw [q.1 rfl,show a3x a1t M=0 from(congrArg (a7z · 1) hz).trans (b3s 1)];exact a6q false
  ·have:=q.2 (fun z=>hz (Int.ofNat.inj z))
   rw [Int.natAbs_natCast,show decide (((a1t-M:Nat):Int)<0)=false from decide_eq_false (Int.not_lt.mpr (Int.natCast_nonneg _))]at this;refine FX.of (i:=1) (by decide) this ?_ (by decide);rw [Nat.one_mul];exact Nat.lt_of_le_of_lt (Nat.sub_le _ _) one_fx.lt
theorem FX.divO(h1:FX i a x X)(h2:FX j b y Y)(h0:Y≠0)(hz:b2p X Y<2^(1074+k))(hk:k<=900):Mine.divO x y=some (PySem.Float64.div x y)/\FX k (a != b) (PySem.Float64.div x y) (b2p X Y):=by
 refine⟨?_,h1.div h2 h0 hz hk⟩;unfold Mine.divO;rw [h2.isZero,if_neg fun z=>h0 (Nat.eq_of_beq_eq_true z)]
end
inductive IsC(i:Nat)(o:Option C3)(kk:Nat->Nat->Nat->Bool):Prop
 | mk (c:C3) (A B C:Nat) (h:o=some c) (h1:FX i false c.1 A) (h2:FX i false c.2.1 B) (h3:FX i false c.2.2 C) (e:kk A B C=true)
section
variable(kk:Nat->Nat->Nat->Bool)
noncomputable def f0z(v p q t i:Nat):Bool:=
 bB (Nat.beq i 0) (kk v t p) (bB (Nat.beq i 1) (kk q v p) (bB (Nat.beq i 2) (kk p v t) (bB (Nat.beq i 3) (kk p q v) (bB (Nat.beq i 4) (kk t p v) (kk v p q)))))
noncomputable def f4n(s v i sf s1f:Nat):Bool:=
 bB (Nat.ble s a1t) (bB (Nat.ble sf a1t) (bB (Nat.ble s1f a1t) (f0z kk v (a6r v (a3x a1t s)) (a6r v (a3x a1t sf)) (a6r v (a3x a1t s1f)) (Nat.mod i 6)) false) false) false
noncomputable def f3y(s v i f:Nat):Bool:=bB (Nat.ble f a1t) (f4n kk s v i (a6r s f) (a6r s (a3x a1t f))) false
noncomputable def f1g(s v i h6 fi:Nat):Bool:=bB (Nat.ble fi h6) (f3y kk s v i (a3x h6 fi)) false
noncomputable def f4g(s v h6 i:Nat):Bool:=f1g kk s v i h6 (a2v i)
noncomputable def f1w(s v h6:Nat):Bool:=f4g kk s v h6 (Nat.div h6 a1t)
noncomputable def f1e(h s v:Nat):Bool:=bB (Nat.beq s 0) (kk v v v) (f1w kk s v (a6r h b8k))
end
theorem b8d{c a b:Bool}(h:bB c a b=true):(c=true/\a=true)∨(c=false/\b=true):=by cases c<;>first | exact .inr ⟨rfl,h⟩ | exact .inl ⟨rfl,h⟩
section
variable{kk:Nat->Nat->Nat->Bool}
theorem e9i{h s v:UInt64}{H S W:Nat}(hh:FX 10 false h H)(hs:FX 3 false s S)(hv:FX 3 false v W)(e:f1e kk H S W=true):IsC 10 (b3o h s v) kk:=by
 unfold b3o;rw [hs.eqF (a5r (i:=1))];rcases b8d e with⟨c,e⟩ | ⟨c,e⟩
 ·rw [c];exact⟨_,_,_,_,rfl,hv.le (by decide),hv.le (by decide),hv.le (by decide),e⟩
 rw [c];have h6:FX 14 false (PySem.Float64.mul h f6) (a6r H b8k):=hh.mul b5d (by decide);replace e:f1w kk S W (a6r H b8k)=true:=e;generalize a6r H b8k=H6 at *;generalize PySem.Float64.mul h f6=x6 at *;have hi:H6 / a1t<2^14:=Nat.div_lt_of_lt_mul (by rw [c3n,← Nat.pow_add];exact h6.lt);rw [if_neg Bool.false_ne_true,h6.finite,h6.toInt,if_neg (by
  rintro(q | q)
  ·exact nt q.symm
  ·exact nt (q.symm.trans (a5d (Nat.lt_trans hi (by decide)))))]
 replace e:f1g kk S W (H6 / a1t) H6 (a2v (H6 / a1t))=true:=e;have hn:=FX.ofN hi (by decide);generalize H6 / a1t=i at *;obtain⟨c1,e⟩:=a3s e;have hf:=h6.sub hn (Nat.ble_eq.mp c1) (by decide);generalize a3x H6 (a2v i)=F at *;generalize PySem.Float64.sub x6 (ofInt (i:Int))=f at *;obtain⟨c2,e⟩:=a3s e;have hsf:=hs.mul hf (by decide);have h1f:=one_fx.sub hf (Nat.ble_eq.mp c2) (by decide);have hs1f:=hs.mul h1f (by decide);obtain⟨c3,e⟩:=a3s e;obtain⟨c4,e⟩:=a3s e;obtain⟨c5,e⟩:=a3s e;have hp:=hv.mul (one_fx.sub hs (Nat.ble_eq.mp c3) (by decide)) (by decide);have hq:=hv.mul (one_fx.sub hsf (Nat.ble_eq.mp c4) (by decide)) (by decide);have ht:=hv.mul (one_fx.sub hs1f (Nat.ble_eq.mp c5) (by decide)) (by decide);generalize a6r W (a3x a1t S)=P at *;generalize a6r W (a3x a1t (a6r S F))=Q at *;generalize a6r W (a3x a1t (a6r S (a3x a1t F)))=T at *;have hp:=hp.le (j:=10) (by decide);have hq:=hq.le (j:=10) (by decide);have ht:=ht.le (j:=10) (by decide);have hv:=hv.le (j:=10) (by decide);rw [show(i:Int).fmod 6=((i%6:Nat):Int)from e1c i 6];replace e:f0z kk W P Q T (i%6)=true:=e;have hlt:i%6<6:=Nat.mod_lt _ (by decide);generalize i%6=z at *;rcases c3u z hlt with rfl | rfl | rfl | rfl | rfl | rfl
 ·exact⟨_,_,_,_,rfl,hv,ht,hp,e⟩
 ·exact⟨_,_,_,_,rfl,hq,hv,hp,e⟩
 ·exact⟨_,_,_,_,rfl,hp,hv,ht,e⟩
 ·exact⟨_,_,_,_,rfl,hp,hq,hv,e⟩
 ·exact⟨_,_,_,_,rfl,ht,hp,hv,e⟩
 ·exact⟨_,_,_,_,rfl,hv,hp,hq,e⟩
end
end
section
open PySem PySem.Float64
section
variable(k:Nat->Bool)
noncomputable def hP2(q:Nat):Bool:=bB (Nat.ble q d7c) (k (a6t q)) false
noncomputable def hN3(M:Nat):Bool:=bB (Nat.ble M a1t) (k (m1N M)) false
noncomputable def hN2(q:Nat):Bool:=bB (Nat.ble q d7c) (hN3 k (a6t q)) false
noncomputable def hP(z:Nat):Bool:=hP2 k (b2p z b8k)
noncomputable def hN(z:Nat):Bool:=hN2 k (b2p z b8k)
noncomputable def hDQ(A B:Nat):Bool:=bB (Nat.ble B A) (hP k (a3x A B)) false
noncomputable def f1a(rc gc bc r g mx:Nat):Bool:=
 bB (Nat.beq r mx) (bB (Nat.ble gc bc) (hP k (a3x bc gc)) (hN k (a3x gc bc))) (bB (Nat.beq g mx) (hDQ k (b4r c9h rc) bc) (hDQ k (b4r e5q gc) rc))
noncomputable def e9f(rc gc bc r g mx:Nat):Bool:=bB (Nat.ble rc a1t) (bB (Nat.ble gc a1t) (bB (Nat.ble bc a1t) (f1a k rc gc bc r g mx) false) false) false
noncomputable def d7n(r g b mx rg:Nat):Bool:=
 bB (Nat.beq rg 0) false (bB (Nat.ble r mx) (bB (Nat.ble g mx) (bB (Nat.ble b mx) (e9f k (b2p (a3x mx r) rg) (b2p (a3x mx g) rg) (b2p (a3x mx b) rg) r g mx) false) false) false)
end
section
variable(kk:Nat->Nat->Nat->Bool)
noncomputable def f3e(s v h:Nat):Bool:=kk h s v
noncomputable def f2m(s l h:Nat):Bool:=kk h l s
noncomputable def f3i(r g b mx rg s:Nat):Bool:=bB (Nat.ble s a1t) (d7n (f3e kk s mx) r g b mx rg) false
noncomputable def f2a(r g b mx mn:Nat):Bool:=bB (Nat.beq mn mx) (kk 0 0 mx) (bB (Nat.ble mn mx) (bB (Nat.beq mx 0) false (f3i kk r g b mx (a3x mx mn) (b2p (a3x mx mn) mx))) false)
noncomputable def e2s(r g b:Nat):Bool:=f2a kk r g b (b4o (b4o r g) b) (b4n (b4n r g) b)
noncomputable def f3x(r g b mx rg l s:Nat):Bool:=bB (Nat.ble s d7c) (d7n (f2m kk s l) r g b mx rg) false
noncomputable def e9j(r g b mx rg l d:Nat):Bool:=bB (Nat.beq d 0) false (f3x kk r g b mx rg l (b2p rg d))
noncomputable def f2k(r g b mx mn sm l:Nat):Bool:=
 bB (Nat.ble l d7c) (bB (Nat.beq mn mx) (kk 0 l 0) (bB (Nat.ble mn mx) (bB (Nat.ble l c8k) (e9j kk r g b mx (a3x mx mn) l sm) (bB (Nat.ble mx c9h) (bB (Nat.ble mn (a3x c9h mx)) (e9j kk r g b mx (a3x mx mn) l (a3x (a3x c9h mx) mn)) false) false)) false)) false
noncomputable def f4i(r g b mx mn sm:Nat):Bool:=f2k kk r g b mx mn sm (b2p sm c9h)
noncomputable def f3l(r g b mx mn:Nat):Bool:=f4i kk r g b mx mn (b4r mx mn)
noncomputable def e1s(r g b:Nat):Bool:=f3l kk r g b (b4o (b4o r g) b) (b4n (b4n r g) b)
end
theorem neb{a b:Nat}(h:Nat.beq a b=false):a≠b:=fun q=>by rw [q,Nat.beq_refl]at h;exact nt h.symm
theorem b8v{X:Nat}(h:Nat.ble X a1t=true):X<2^(1074+1):=Nat.lt_of_le_of_lt (Nat.ble_eq.mp h) one_fx.lt
theorem c0y{X:Nat}(h:Nat.ble X d7c=true):X<2^(1074+21):=Nat.lt_of_le_of_lt (Nat.ble_eq.mp h) (by decide +kernel)
section
variable{k:Nat->Bool}{kk:Nat->Nat->Nat->Bool}{r g b mx rg s:UInt64}{R G B M Z S:Nat}
theorem f1k{z:UInt64}(h:FX 22 false z Z)(e:hP k Z=true):∃ H,FX 2 false (Mine.mod1 (PySem.Float64.div z f6)) H/\k H=true:=by
 obtain⟨c,e⟩:=a3s (show bB (Nat.ble (b2p Z b8k) d7c) (k (a6t (b2p Z b8k))) false=true from e);exact⟨_,((h.div b5d (by decide +kernel) (c0y c) (by decide)).mod1).le (by decide),e⟩
theorem f2n{z:UInt64}(h:FX 22 true z Z)(e:hN k Z=true):∃ H,FX 2 false (Mine.mod1 (PySem.Float64.div z f6)) H/\k H=true:=by
 obtain⟨c,e⟩:=a3s (show bB (Nat.ble (b2p Z b8k) d7c) (hN3 k (a6t (b2p Z b8k))) false=true from e);obtain⟨c2,e⟩:=a3s (show bB (Nat.ble (a6t (b2p Z b8k)) a1t) (k (m1N (a6t (b2p Z b8k)))) false=true from e);exact⟨_,(h.div b5d (by decide +kernel) (c0y c) (by decide)).mod1N (Nat.ble_eq.mp c2),e⟩
theorem f2b{x y:UInt64}{A C:Nat}(h:FX 8 false x A)(h2:FX 8 false y C)(e:hDQ k A C=true):∃ H,FX 2 false (Mine.mod1 (PySem.Float64.div (PySem.Float64.sub x y) f6)) H/\k H=true:=by
 obtain⟨c,e⟩:=a3s e;exact f1k ((h.sub h2 (Nat.ble_eq.mp c) (by decide)).le (by decide)) e
theorem f0c{rc gc bc:UInt64}{C1 C2 C3:Nat}(hr:FX 20 false r R)(hg:FX 20 false g G)(hm:FX 20 false mx M)(h1:FX 1 false rc C1)(h2:FX 1 false gc C2)(h3:FX 1 false bc C3)(e:f1a k C1 C2 C3 R G M=true) :
  ∃ H,FX 2 false (Mine.mod1 (PySem.Float64.div (c5p r g mx rc gc bc) f6)) H/\k H=true:=by
 unfold c5p;rw [hr.eqF hm,hg.eqF hm];rcases b8d e with⟨c,e⟩ | ⟨c,e⟩
 ·rw [c,if_pos rfl]
  rcases b8d e with⟨c,e⟩ | ⟨c,e⟩
  ·exact f1k ((h3.sub h2 (Nat.ble_eq.mp c) (by decide)).le (by decide)) e
  ·exact f2n ((h3.subN h2 (Nat.lt_of_not_le fun q=>by rw [Nat.ble_eq.mpr q]at c;exact nt c.symm) (by decide)).le (by decide)) e
 ·rw [c,if_neg Bool.false_ne_true]
  rcases b8d e with⟨c,e⟩ | ⟨c,e⟩
  ·rw [c,if_pos rfl]
   exact f2b ((two_fx.add (h1.le (by decide)) (by decide)).le (by decide)) (h3.le (by decide)) e
  ·rw [c,if_neg Bool.false_ne_true]
   exact f2b ((four_fx.add (h2.le (by decide)) (by decide)).le (by decide)) (h1.le (by decide)) e
theorem d4t{out:UInt64->C3}(hr:FX 20 false r R)(hg:FX 20 false g G)(hb:FX 20 false b B)(hm:FX 20 false mx M)(hrg:FX 21 false rg Z)(e:d7n k R G B M Z=true) :
  ∃ h H,c4h r g b mx rg s out=some (out h)/\FX 2 false h H/\k H=true:=by
 rcases b8d e with⟨_,e⟩ | ⟨c0,e⟩
 ·exact nt e
 obtain⟨c1,e⟩:=a3s e;obtain⟨c2,e⟩:=a3s e;obtain⟨c3,e⟩:=a3s e;obtain⟨c4,e⟩:=a3s e;obtain⟨c5,e⟩:=a3s e;obtain⟨c6,e⟩:=a3s e;obtain⟨o1,d1⟩:=(hm.sub hr (Nat.ble_eq.mp c1) (by decide)).divO hrg (neb c0) (b8v c4) (by decide);obtain⟨o2,d2⟩:=(hm.sub hg (Nat.ble_eq.mp c2) (by decide)).divO hrg (neb c0) (b8v c5) (by decide);obtain⟨o3,d3⟩:=(hm.sub hb (Nat.ble_eq.mp c3) (by decide)).divO hrg (neb c0) (b8v c6) (by decide);obtain⟨H,h1,h2⟩:=f0c hr hg hm d1 d2 d3 e;refine⟨_,H,?_,h1,h2⟩;unfold c4h;rw [o1,o2,o3];rfl
theorem d3l(hr:FX 20 false r R)(hg:FX 20 false g G)(hb:FX 20 false b B)(e:e2s kk R G B=true):IsC 20 (b3f r g b) kk:=by
 have hM:=(hr.max hg).max hb;have hm:=(hr.min hg).min hb;replace e:f2a kk R G B (b4o (b4o R G) B) (b4n (b4n R G) B)=true:=e;unfold b3f;generalize b4o (b4o R G) B=M at *;generalize b4n (b4n R G) B=N at *;generalize a3i (a3i r g) b=mx at *;generalize a5a (a5a r g) b=mn at *;rw [hm.eqF hM];rcases b8d e with⟨c,e⟩ | ⟨c,e⟩
 ·rw [c];exact⟨_,_,_,_,rfl,a5r,a5r,hM,e⟩
 rw [c,if_neg Bool.false_ne_true];obtain⟨c1,e⟩:=a3s e;rcases b8d e with⟨_,e⟩ | ⟨c2,e⟩
 ·exact nt e
 obtain⟨c3,e⟩:=a3s e;have hrg:=hM.sub hm (Nat.ble_eq.mp c1) (by decide);obtain⟨o,d⟩:=hrg.divO hM (neb c2) (b8v c3) (by decide);obtain⟨h,H,p,h1,h2⟩:=d4t (s:=PySem.Float64.div (PySem.Float64.sub mx mn) mx) (out:=fun h=>(h,PySem.Float64.div (PySem.Float64.sub mx mn) mx,mx)) hr hg hb hM hrg e;exact⟨_,H,_,_,(congrArg (Option.bind · _) o).trans p,h1.le (by decide),d.le (by decide),hM,h2⟩
theorem d4f{d l:UInt64}{D L:Nat}(hr:FX 20 false r R)(hg:FX 20 false g G)(hb:FX 20 false b B)(hM:FX 20 false mx M)(hrg:FX 21 false rg Z)(hl:FX 21 false l L)(hd:FX 30 false d D)(e:e9j kk R G B M Z L D=true) :
  IsC 21 ((Mine.divO rg d).bind fun s=>c4h r g b mx rg s fun h=>(h,l,s)) kk:=by
 rcases b8d e with⟨_,e⟩ | ⟨c2,e⟩
 ·exact nt e
 obtain⟨c3,e⟩:=a3s e;obtain⟨o,q⟩:=hrg.divO hd (neb c2) (c0y c3) (by decide);obtain⟨h,H,p,h1,h2⟩:=d4t (s:=PySem.Float64.div rg d) (out:=fun h=>(h,l,PySem.Float64.div rg d)) hr hg hb hM hrg e;exact⟨_,H,_,_,(congrArg (Option.bind · _) o).trans p,h1.le (by decide),hl,q,h2⟩
theorem d4a(hr:FX 20 false r R)(hg:FX 20 false g G)(hb:FX 20 false b B)(e:e1s kk R G B=true):IsC 21 (b3t r g b) kk:=by
 have hM:=(hr.max hg).max hb;have hm:=(hr.min hg).min hb;replace e:f2k kk R G B (b4o (b4o R G) B) (b4n (b4n R G) B) (b4r (b4o (b4o R G) B) (b4n (b4n R G) B)) (b2p (b4r (b4o (b4o R G) B) (b4n (b4n R G) B)) c9h)=true:=e;unfold b3t;generalize b4o (b4o R G) B=M at *;generalize b4n (b4n R G) B=N at *;generalize a3i (a3i r g) b=mx at *;generalize a5a (a5a r g) b=mn at *;rw [hm.eqF hM];obtain⟨c0,e⟩:=a3s e;have hs:=hM.add hm (by decide);have hl:=hs.div two_fx (by decide +kernel) (c0y c0) (by decide);generalize b2p (b4r M N) c9h=L at *;generalize PySem.Float64.div (PySem.Float64.add mx mn) f2=l at *;rcases b8d e with⟨c,e⟩ | ⟨c,e⟩
 ·rw [c];exact⟨_,_,_,_,rfl,a5r,hl,a5r,e⟩
 rw [c,if_neg Bool.false_ne_true];obtain⟨c1,e⟩:=a3s e;have hrg:=hM.sub hm (Nat.ble_eq.mp c1) (by decide);rw [hl.leF b6t];rcases b8d e with⟨c2,e⟩ | ⟨c2,e⟩
 ·rw [c2,if_pos rfl]
  exact d4f hr hg hb hM hrg hl (hs.le (by decide)) e
 ·rw [c2,if_neg Bool.false_ne_true]
  obtain⟨c3,e⟩:=a3s e;obtain⟨c4,e⟩:=a3s e;exact d4f hr hg hb hM hrg hl (((two_fx.sub hM (Nat.ble_eq.mp c3) (by decide)).sub hm (Nat.ble_eq.mp c4) (by decide)).le (by decide)) e
end
end
section
open PySem PySem.Float64
noncomputable def c0n:Nat:=Nat.mul 6004799503160661 (Nat.pow 2 1020)
noncomputable def c4u:Nat:=Nat.mul 6004799503160661 (Nat.pow 2 1019)
noncomputable def c0t:Nat:=Nat.mul 6004799503160661 (Nat.pow 2 1021)
theorem third_fx:FX 1 false th3.a c0n:=.lit 4599676419421066581 (by decide +kernel) (by decide +kernel) (by decide +kernel) (by decide +kernel)
theorem d2k:FX 1 false th3.b c4u:=.lit 4595172819793696085 (by decide +kernel) (by decide +kernel) (by decide +kernel) (by decide +kernel)
theorem twoTh_fx:FX 1 false th3.c c0t:=.lit 4604180019048437077 (by decide +kernel) (by decide +kernel) (by decide +kernel) (by decide +kernel)
noncomputable def vX(m1 m2 d h:Nat):Nat:=
 bN (Nat.ble c4u h) (bN (Nat.ble c8k h) (bN (Nat.ble c0t h) m1 (b4r m1 (a6r (a6r d (a3x c0t h)) b8k))) m2) (b4r m1 (a6r (a6r d h) b8k))
section
variable(kk:Nat->Nat->Nat->Bool)
noncomputable def f4v(m1 m2 d h1 h2 h3:Nat):Bool:=kk (vX m1 m2 d h1) (vX m1 m2 d h2) (vX m1 m2 d h3)
noncomputable def f3b(m2 h1 h2 h3 m1:Nat):Bool:=bB (Nat.ble m1 m2) (f4v kk m1 m2 (a3x m2 m1) h1 h2 h3) false
noncomputable def e9x(l2 m2 h1 h2 h3:Nat):Bool:=bB (Nat.ble m2 l2) (f3b kk m2 h1 h2 h3 (a3x l2 m2)) false
noncomputable def f3z(l s h1 h2 h3:Nat):Bool:=bB (Nat.ble (a6r l s) (b4r l s)) (e9x kk (a6r c9h l) (a3x (b4r l s) (a6r l s)) h1 h2 h3) false
noncomputable def f0x(l s h1 h2 h3:Nat):Bool:=bB (Nat.beq s 0) (kk l l l) (bB (Nat.ble l c8k) (e9x kk (a6r c9h l) (a6r l (b4r a1t s)) h1 h2 h3) (f3z kk l s h1 h2 h3))
end
section
variable{kk:Nat->Nat->Nat->Bool}{m1 m2 hue h l s:UInt64}{M1 M2 H1 H2 H3 L S:Nat}
theorem nft:(!false)=true:=rfl
theorem nnt:¬(!true)=true:=nofun
theorem f0a(a b:Nat):bN true a b=a:=rfl
theorem e8v(a b:Nat):bN false a b=b:=rfl
theorem v_x(h1:FX 10 false m1 M1)(h2:FX 10 false m2 M2)(hle:M1<=M2)(hh:FX 2 false (Mine.mod1 hue) H1):FX 20 false (pV th3 m1 m2 hue) (vX M1 M2 (a3x M2 M1) H1):=by
 unfold pV vX;rw [hh.ltF d2k,hh.ltF b6t,hh.ltF twoTh_fx];have hd:=h2.sub h1 hle (by decide);by_cases c1:c4u<=H1
 ·rw [Nat.ble_eq.mpr c1,f0a,if_neg nnt]
  by_cases c2:c8k<=H1
  ·rw [Nat.ble_eq.mpr c2,f0a,if_neg nnt]
   by_cases c3:c0t<=H1
   ·rw [Nat.ble_eq.mpr c3,f0a,if_neg nnt];exact h1.le (by decide)
   ·rw [b7b c3,e8v,if_pos nft]
    exact(h1.le (j:=18) (by decide)).add ((hd.mul (twoTh_fx.sub hh (Nat.le_of_lt (Nat.lt_of_not_le c3)) (by decide)) (by decide)).mul b5d (by decide)) (by decide)
  ·rw [b7b c2,e8v,if_pos nft];exact h2.le (by decide)
 ·rw [b7b c1,e8v,if_pos nft]
  exact(h1.le (j:=18) (by decide)).add ((hd.mul hh (by decide)).mul b5d (by decide)) (by decide)
theorem d5q{l2:UInt64}{L2:Nat}(a1:FX 2 false (Mine.mod1 (PySem.Float64.add h th3.a)) H1)(a2:FX 2 false (Mine.mod1 h) H2)(a3:FX 2 false (Mine.mod1 (PySem.Float64.sub h th3.a)) H3)(hl:FX 9 false l2 L2)(hm:FX 10 false m2 M2)(e:e9x kk L2 M2 H1 H2 H3=true) :
  IsC 20 (some (d3m th3 (PySem.Float64.sub l2 m2) m2 h)) kk:=by
 obtain⟨c1,e⟩:=a3s e;obtain⟨c2,e⟩:=a3s e;have h1:=hl.sub hm (Nat.ble_eq.mp c1) (by decide);have hle:=Nat.ble_eq.mp c2;exact⟨_,_,_,_,rfl,v_x h1 hm hle a1,v_x h1 hm hle a2,v_x h1 hm hle a3,e⟩
theorem e9p(a1:FX 2 false (Mine.mod1 (PySem.Float64.add h th3.a)) H1)(a2:FX 2 false (Mine.mod1 h) H2)(a3:FX 2 false (Mine.mod1 (PySem.Float64.sub h th3.a)) H3)(hl:FX 3 false l L)(hs:FX 3 false s S)(e:f0x kk L S H1 H2 H3=true) :
  IsC 20 (some (a1u th3 h l s)) kk:=by
 unfold a1u;rw [hs.eqF (a5r (i:=1)),hl.leF b6t];have h2:=two_fx.mul hl (by decide);rcases b8d e with⟨c,e⟩ | ⟨c,e⟩
 ·rw [c];exact⟨_,_,_,_,rfl,hl.le (by decide),hl.le (by decide),hl.le (by decide),e⟩
 rw [c,if_neg Bool.false_ne_true];rcases b8d e with⟨c,e⟩ | ⟨c,e⟩
 ·rw [c,if_pos rfl]
  exact d5q a1 a2 a3 (h2.le (by decide)) ((hl.mul ((one_fx.le (by decide)).add hs (by decide)) (by decide)).le (by decide)) e
 ·rw [c,if_neg Bool.false_ne_true]
  obtain⟨c,e⟩:=a3s e;exact d5q a1 a2 a3 (h2.le (by decide)) (((hl.add hs (by decide)).sub (hl.mul hs (by decide)) (Nat.ble_eq.mp c) (by decide)).le (by decide)) e
end
noncomputable def c1m(K X:Nat):Nat:=Nat.div (Nat.div (b4r (a6r (a2v K) X) (a2v 1)) a1t) 2
theorem c3x{x:UInt64}{X K:Nat}(h:FX 21 false x X)(hk:K<2^12):a9f K x=some ((c1m K X:Nat):Int):=by
 have:FX 37 false (b5v K x) (b4r (a6r (a2v K) X) (a2v 1)):=((FX.ofN hk (by decide)).mul h (by decide)).add ((FX.ofN (n:=1) (k:=1) (by decide) (by decide)).le (by decide)) (by decide);unfold a9f;rw [this.finite,if_pos rfl,this.toInt];exact congrArg some (d0h _ 2)
theorem e2p{i:Nat}{x:UInt64}{X:Nat}(h:FX i false x X)(hle:X<=a1t):e3g x=true:=by
 obtain⟨m,e,d,_⟩:=h.at';unfold e3g;rw [cmpInt_right d,cmpInt_right d,h.val];have a:(some (compare (sgn false X) (0 * 2^1074))==some Ordering.gt||some (compare (sgn false X) (0 * 2^1074))==some Ordering.eq)=true:=by
  rw [Int.zero_mul];rcases Nat.eq_zero_or_pos X with q | q
  ·rw [q];rfl
  ·rw [show compare (sgn false X) 0=.gt from Int.compare_eq_gt.mpr (Int.ofNat_lt.mpr q)];rfl
 have b:(some (compare (sgn false X) (1 * 2^1074))==some Ordering.lt||some (compare (sgn false X) (1 * 2^1074))==some Ordering.eq)=true:=by
  rw [Int.one_mul,show(2:Int)^1074=(a1t:Int)from(Int.natCast_pow 2 1074).symm];rcases Nat.eq_or_lt_of_le hle with q | q
  ·rw [q,show compare (sgn false a1t) (a1t:Int)=.eq from Int.compare_eq_eq.mpr rfl];rfl
  ·rw [show compare (sgn false X) (a1t:Int)=.lt from Int.compare_eq_lt.mpr (Int.ofNat_lt.mpr q)];rfl
 rw [a,b];rfl
noncomputable def frX(n d:Nat):Nat:=a7z (Nat.mul n a1t) d
theorem q_x{n d k:Nat}(hd:0<d)(h:n<d * 2^k)(hk:k+1<=900):∃ x,qO n d=some x/\FX (k+1) false x (frX n d):=by
 have f:=FX.frac hd h hk;refine⟨_,?_,f⟩;obtain⟨m,e,d1,_⟩:=f.at';unfold qO PySem.Float64.isInf;rw [d1];rfl
end
section
open PySem PySem.Float64
section
variable{i j:Nat}{x y:UInt64}{X Y:Nat}
theorem FX.addM(h1:FX i true x X)(h2:FX j false y Y)(hlt:Y<X)(hi:i+1<=900):FX (i+1) true (PySem.Float64.add x y) (a3x X Y):=by
 obtain⟨m,e,d1,_⟩:=h1.at';obtain⟨n,f,d2,_⟩:=h2.at';exact FX.sum (add_right d1 d2) (by rw [h1.val,h2.val,Int.add_comm];exact Int.add_neg_eq_sub.trans (d4j (Nat.le_of_lt hlt))) (Nat.sub_ne_zero_of_lt hlt) (Nat.lt_of_le_of_lt (Nat.sub_le _ _) h1.lt) hi
theorem FX.addP(h1:FX i true x X)(h2:FX j false y Y)(hlt:X<Y)(hi:j+1<=900):FX (j+1) false (PySem.Float64.add x y) (a3x Y X):=by
 obtain⟨m,e,d1,_⟩:=h1.at';obtain⟨n,f,d2,_⟩:=h2.at';exact FX.sum (add_right d1 d2) (by rw [h1.val,h2.val];exact d4o (Nat.le_of_lt hlt)) (Nat.sub_ne_zero_of_lt hlt) (Nat.lt_of_le_of_lt (Nat.sub_le _ _) h2.lt) hi
theorem FX.subM(h1:FX i true x X)(h2:FX i false y Y)(hp:0<X)(hi:i+2<=900):FX (i+2) true (PySem.Float64.sub x y) (b4r X Y):=by
 obtain⟨m,e,d1,_⟩:=h1.at';obtain⟨n,f,d2,_⟩:=h2.at';exact FX.sum (i:=i+1) (sub_right d1 d2) (by rw [h1.val,h2.val];exact(Int.neg_add (a:=X) (b:=Y)).symm) (Nat.ne_of_gt (Nat.add_pos_left hp _)) (by
  rw [← Nat.add_assoc,Nat.pow_succ,Nat.mul_two];exact Nat.add_lt_add h1.lt h2.lt) hi
end
noncomputable def f3v(kk:Nat->Nat->Nat->Bool)(l s a1 a2 a3:Nat):Bool:=f0x kk l s a1 a2 a3
noncomputable def f2t(kk:Nat->Nat->Nat->Bool)(l s M a1 a2:Nat):Bool:=hN3 (f3v kk l s a1 a2) (a6t (b4r M c0n))
noncomputable def f2q(kk:Nat->Nat->Nat->Bool)(l s M a1:Nat):Bool:=hN3 (f2t kk l s M a1) (a6t M)
noncomputable def f1o(kk:Nat->Nat->Nat->Bool)(l s M:Nat):Bool:=bB (Nat.ble (Nat.succ c0n) M) (hN3 (f2q kk l s M) (a6t (a3x M c0n))) false
theorem e3w{kk:Nat->Nat->Nat->Bool}{h l s:UInt64}{M L S:Nat}(hh:FX 10 true h M)(hl:FX 3 false l L)(hs:FX 3 false s S)(e:f1o kk L S M=true):IsC 20 (some (a1u th3 h l s)) kk:=by
 obtain⟨c,e⟩:=a3s e;have c:=Nat.ble_eq.mp c;obtain⟨c1,e⟩:=a3s e;obtain⟨c2,e⟩:=a3s e;obtain⟨c3,e⟩:=a3s e;exact e9p ((hh.addM third_fx c (by decide)).mod1N (Nat.ble_eq.mp c1)) (hh.mod1N (Nat.ble_eq.mp c2)) ((hh.subM (third_fx.le (by decide)) (Nat.lt_of_le_of_lt (Nat.zero_le _) c) (by decide)).mod1N (Nat.ble_eq.mp c3)) hl hs e
theorem f4t(a b:Bool):bB true a b=a:=rfl
theorem f2p(a b:Bool):bB false a b=b:=rfl
noncomputable def e6t(base now:Nat):Option UInt64:=(qO base 32).bind fun a=>(qO now 3).map fun b=>PySem.Float64.add a b
noncomputable def c6f(h:UInt64)(sh lv:Nat)(e:Bool):Option C3:=(qO sh 4).bind fun s=>(qO lv 4).bind fun l=>
  if e then(b3o h s l).bind fun c=>b3f c.1 c.2.1 c.2.2
  else b3t (a1u th3 (PySem.Float64.sub h (PySem.Float64.ofInt 3)) l s).1 (a1u th3 (PySem.Float64.sub h (PySem.Float64.ofInt 3)) l s).2.1 (a1u th3 (PySem.Float64.sub h (PySem.Float64.ofInt 3)) l s).2.2
noncomputable def niN(n A:Nat):Bool:=bB (Nat.ble (Nat.mul (Nat.mul 4 n) a1t) (Nat.add (Nat.mul 3072 A) (Nat.mul 3 a1t))) (Nat.ble (Nat.mul 3072 A) (Nat.mul (Nat.add (Nat.mul 4 n) 3) a1t)) false
noncomputable def niX(n A:Nat):Bool:=bB (niN n A) true (niN (Nat.add n 768) A)
noncomputable def f4a(m a b z p q:Nat):Bool:=bB (Nat.beq (Nat.mod z 768) m) (bB (Nat.beq p (Nat.mul 256 a)) (Nat.beq q (Nat.mul 256 b)) false) false
noncomputable def e0f(m a b h p q:Nat):Bool:=bB (Nat.ble h a1t) (bB (niX m h) (f4a m a b (c1m 1536 h) (c1m 2048 p) (c1m 2048 q)) false) false
noncomputable def mX(base now:Nat):Nat:=Nat.mod (Nat.add (Nat.mul 24 base) (Nat.mul 256 now)) 768
noncomputable def hX(base now:Nat):Nat:=b4r (frX base 32) (frX now 3)
noncomputable def clX(base now sh lv:Nat)(e:Bool):Bool:=
 bB e (f1e (e2s (e0f (mX base now) sh lv)) (hX base now) (frX sh 4) (frX lv 4)) (bB (Nat.ble (Nat.succ (hX base now)) (a2v 3)) (f1o (e1s (e0f (mX base now) lv sh)) (frX lv 4) (frX sh 4) (a3x (a2v 3) (hX base now))) false)
inductive d4g(m a b:Nat)(t:C3):Prop
 | mk (A:Nat) (h1:FX 21 false t.1 A) (h0:A<=a1t) (h2:niX m A=true) (h3:e3g t.1=true) (h4:∃ z:Nat,a9f 1536 t.1=some (z:Int)/\z%768=m) (h5:a9f 2048 t.2.1=some ((256 * a:Nat):Int)) (h6:a9f 2048 t.2.2=some ((256 * b:Nat):Int))
theorem d5v{t:C3}{A B C m a b:Nat}(h1:FX 21 false t.1 A)(h2:FX 21 false t.2.1 B)(h3:FX 21 false t.2.2 C)(e:e0f m a b A B C=true):d4g m a b t:=by
 obtain⟨c0,e⟩:=a3s e;obtain⟨cn,e⟩:=a3s e;obtain⟨c1,e⟩:=a3s e;obtain⟨c3,c4⟩:=a3s e;refine⟨A,h1,Nat.ble_eq.mp c0,cn,e2p h1 (Nat.ble_eq.mp c0),⟨_,c3x h1 (by decide),Nat.eq_of_beq_eq_true c1⟩,?_,?_⟩
 ·rw [c3x h2 (by decide),show c1m 2048 B=256 * a from Nat.eq_of_beq_eq_true c3]
 ·rw [c3x h3 (by decide),show c1m 2048 C=256 * b from Nat.eq_of_beq_eq_true c4]
theorem f1l{base now sh lv:Nat}{e:Bool}(hb:base<64)(hn:now<3)(hs:sh<8)(hl:lv<8)(h:clX base now sh lv e=true):∃ f t,e6t base now=some f/\c6f f sh lv e=some t/\d4g (mX base now) (if e then sh else lv) (if e then lv else sh) t:=by
 obtain⟨x,q1,f1⟩:=q_x (d:=32) (n:=base) (k:=1) (by decide) hb (by decide);obtain⟨y,q4,f4⟩:=q_x (d:=3) (n:=now) (k:=1) (by decide) (Nat.lt_trans hn (by decide)) (by decide);obtain⟨s,q2,f2⟩:=q_x (d:=4) (n:=sh) (k:=1) (by decide) hs (by decide);obtain⟨l,q3,f3⟩:=q_x (d:=4) (n:=lv) (k:=1) (by decide) hl (by decide);have f2:=f2.le (j:=3) (by decide);have f3:=f3.le (j:=3) (by decide);have fh:FX 4 false (PySem.Float64.add x y) (hX base now):=f1.add f4 (by decide);refine⟨PySem.Float64.add x y,?_⟩;unfold e6t c6f;rw [q1,q2,q3,q4];induction e using Bool.casesOn with
 | true=>
  obtain⟨c,A,B,C,e1,a1,a2,a3,h⟩:=e9i (fh.le (by decide)) f2 f3 ((f4t _ _).symm.trans h);obtain⟨t,A,B,C,e2,b1,b2,b3,h⟩:=d3l (a1.le (by decide)) (a2.le (by decide)) (a3.le (by decide)) h;exact⟨t,rfl,(congrArg (Option.bind · _) e1).trans e2,d5v (b1.le (by decide)) (b2.le (by decide)) (b3.le (by decide)) h⟩
 | false=>
  obtain⟨c,h⟩:=a3s ((f2p _ _).symm.trans h);have f5:FX 3 false (PySem.Float64.ofInt 3) (a2v 3):=FX.ofN (n:=3) (k:=2) (by decide) (by decide);obtain⟨c,A,B,C,e1,a1,a2,a3,h⟩:=e3w ((fh.subN f5 (Nat.ble_eq.mp c) (by decide)).le (by decide)) f3 f2 h;obtain rfl:=Option.some.inj e1;obtain⟨t,A,B,C,e2,b1,b2,b3,h⟩:=d4a a1 a2 a3 h;exact⟨t,rfl,e2,d5v b1 b2 b3 h⟩
noncomputable def e7x(f:Nat->Bool)(a n:Nat):Bool:=@Nat.rec (fun zz=>Bool) true (fun k ih=>bB (f (Nat.add a k)) ih false) n
theorem c6r{f:Nat->Bool}{a n:Nat}(h:e7x f a n=true){k:Nat}(hk:k<n):f (a+k)=true:=by
 induction n with
 | zero=>exact absurd hk (Nat.not_lt_zero _)
 | succ n ih=>
  obtain⟨h1,h2⟩:=a3s h;rcases Nat.eq_or_lt_of_le (Nat.le_of_lt_succ hk)with q | q
  ·rw [q];exact h1
  ·exact ih h2 q
end
end Mine
end
section
set_option maxRecDepth 100000
namespace Mine
section
noncomputable def clT(sh lv:Nat):Bool:=e7x (fun b=>e7x (fun n=>bB (clX b n sh lv true) (clX b n sh lv false) false) 0 3) 0 64
theorem f0q:clT 1 1=true:=by decide +kernel
theorem f0h:clT 1 2=true:=by decide +kernel
theorem f0r:clT 1 3=true:=by decide +kernel
theorem e8x:clT 2 1=true:=by decide +kernel
theorem f0j:clT 2 2=true:=by decide +kernel
theorem e8s:clT 2 3=true:=by decide +kernel
theorem e9r:clT 3 1=true:=by decide +kernel
theorem f0m:clT 3 2=true:=by decide +kernel
theorem e8b:clT 3 3=true:=by decide +kernel
theorem f0f:clT 4 1=true:=by decide +kernel
theorem e9y:clT 4 2=true:=by decide +kernel
theorem e7t:clT 4 3=true:=by decide +kernel
theorem e5j{a b:Nat}(ha:a<4)(hb:b<3):clT (1+a) (1+b)=true:=by
 rcases(by decide:∀ a<4,a=0∨a=1∨a=2∨a=3) a ha with rfl | rfl | rfl | rfl<;>rcases(by decide:∀ b<3,b=0∨b=1∨b=2) b hb with rfl | rfl | rfl
 ·exact f0q
 ·exact f0h
 ·exact f0r
 ·exact e8x
 ·exact f0j
 ·exact e8s
 ·exact e9r
 ·exact f0m
 ·exact e8b
 ·exact f0f
 ·exact e9y
 ·exact e7t
theorem d1n{b n p:Nat}(hb:b<64)(hn:n<3)(e:Bool):∃ f t,e6t b n=some f/\c6f f (1+p%4) (1+p / 4%3) e=some t/\d4g (mX b n) (if e then 1+p%4 else 1+p / 4%3) (if e then 1+p / 4%3 else 1+p%4) t:=by
 have h1:p%4<4:=Nat.mod_lt _ (by decide);have h2:p / 4%3<3:=Nat.mod_lt _ (by decide);have key:=e5j h1 h2;generalize p%4=a at *;generalize p / 4%3=b at *;have:=c6r (c6r key hb) hn;rw [Nat.zero_add,Nat.zero_add]at this;obtain⟨q1,q2⟩:=a3s this;cases e
 ·exact f1l hb hn (Nat.lt_trans (Nat.add_lt_add_left h1 1) (by decide)) (Nat.lt_trans (Nat.add_lt_add_left h2 1) (by decide)) q2
 ·exact f1l hb hn (Nat.lt_trans (Nat.add_lt_add_left h1 1) (by decide)) (Nat.lt_trans (Nat.add_lt_add_left h2 1) (by decide)) q1
end
end Mine
end
section
set_option maxRecDepth 100000
set_option exponentiation.threshold 3000
namespace Mine
section
open PySem PySem.Float64
theorem d6t{n d u:Nat}(hd:0<d)(h:n<=u * d):halfEven n d<=u:=by
 rcases Nat.eq_or_lt_of_le h with h | h
 ·subst h
  unfold halfEven;dsimp only;rw [Nat.mul_div_cancel _ hd,Nat.mul_mod_left,if_neg]
  ·exact Nat.le_refl _
  ·simp;omega
 ·exact Nat.le_trans (halfEven_le' n d hd) ((Nat.div_lt_iff_lt_mul hd).mpr h)
theorem c0u(W:Nat){D:Nat}(hD:0<D)(hW:W<D * 2^1117):∃ e,e<=1064/\a7z W D=halfEven W (D * 2^e) * 2^e:=by
 refine⟨d4i W D,?_,?_⟩
 ·show lgX (W / D)-52<=1064
  rw [d5m];by_cases h:W / D=0
  ·rw [h];decide
  ·exact Nat.sub_le_of_le_add (Nat.le_of_lt_succ ((Nat.log2_lt h).mpr ((Nat.div_lt_iff_lt_mul hD).mpr (by rw [Nat.mul_comm];exact hW))))
 ·show Nat.shiftLeft (hfe W (Nat.shiftLeft D (d4i W D))) (d4i W D)=_
  have hsh:∀ x e,Nat.shiftLeft x e=x * 2^e:=fun x e=>Nat.shiftLeft_eq x e;rw [hsh,hsh,d4h]
noncomputable def gX:Nat:=Nat.pow 2 1064
theorem b3x{e:Nat}(h:e<=1064):gX=2^(1064-e) * 2^e:=by
 rw [← Nat.pow_add,Nat.sub_add_cancel h];rfl
theorem d4q{W D l:Nat}(hD:0<D)(hW:W<D * 2^1117)(h:l * gX * D<=W):l * gX<=a7z W D:=by
 obtain⟨e,he,q⟩:=c0u W hD hW;rw [q,b3x he,← Nat.mul_assoc];refine Nat.mul_le_mul_right _ (c6i (Nat.mul_pos hD (a0u e)) (Nat.le_trans (Nat.le_of_eq ?_) h));rw [b3x he,Nat.mul_comm D,← Nat.mul_assoc,Nat.mul_assoc l]
theorem d4m{W D u:Nat}(hD:0<D)(hW:W<D * 2^1117)(h:W<=u * gX * D):a7z W D<=u * gX:=by
 obtain⟨e,he,q⟩:=c0u W hD hW;rw [q,b3x he,← Nat.mul_assoc];refine Nat.mul_le_mul_right _ (d6t (Nat.mul_pos hD (a0u e)) (Nat.le_trans h (Nat.le_of_eq ?_)));rw [b3x he,Nat.mul_comm D,← Nat.mul_assoc,← Nat.mul_assoc]
theorem b6c:a1t=1024 * gX:=by decide +kernel
theorem d0g:0<gX:=a0u _
theorem e2z:100000 * gX<2^1117:=by decide +kernel
theorem b3l{W l u:Nat}(hu:u<=100000)(h1:l * gX<=W)(h2:W<=u * gX):l * gX<=a7z W 1/\a7z W 1<=u * gX:=by
 have hW:W<1 * 2^1117:=by rw [Nat.one_mul];exact Nat.lt_of_le_of_lt (Nat.le_trans h2 (Nat.mul_le_mul_right _ hu)) e2z
 exact⟨d4q (by decide) hW (by rw [Nat.mul_one];exact h1),d4m (by decide) hW (by rw [Nat.mul_one];exact h2)⟩
theorem e4d:a2v 6=6 * a1t:=by decide +kernel
theorem b9u:a2v 7=7 * a1t:=by decide +kernel
theorem c5e{Z l u:Nat}(hu:u<=10000)(h1:l * gX<=Z)(h2:Z<=u * gX):6 * l * gX<=a6r (a2v 6) Z/\a6r (a2v 6) Z<=6 * u * gX:=by
 have hp:0<a1t:=a0u _;have e:Nat.mul (a2v 6) Z=6 * Z * a1t:=by rw [e4d];exact Nat.mul_right_comm 6 a1t Z
 have hW:Nat.mul (a2v 6) Z<a1t * 2^1117:=by
  rw [e,Nat.mul_comm];refine Nat.mul_lt_mul_of_pos_left (Nat.lt_of_le_of_lt (Nat.le_trans (Nat.mul_le_mul_left 6 h2) ?_) e2z) hp;rw [← Nat.mul_assoc];exact Nat.mul_le_mul_right _ (Nat.le_trans (Nat.mul_le_mul_left 6 hu) (by decide))
 refine⟨d4q hp hW ?_,d4m hp hW ?_⟩
 ·rw [e,Nat.mul_assoc 6];exact Nat.mul_le_mul_right _ (Nat.mul_le_mul_left _ h1)
 ·rw [e,Nat.mul_assoc 6 u];exact Nat.mul_le_mul_right _ (Nat.mul_le_mul_left _ h2)
noncomputable def a3c(a b:UInt64):UInt64:=PySem.Float64.add (PySem.Float64.mul (PySem.Float64.ofInt 6) (PySem.Float64.sub a b)) (PySem.Float64.ofInt 7)
theorem int_of{x:UInt64}{X i k:Nat}(h:FX i false x X)(h1:1024 * (2 * k) * gX<=X)(h2:X<1024 * (2 * k+2) * gX):Float64.isFinite x=true/\(Flt.toInt Float64.truncOf x).fdiv 2=(k:Int):=by
 refine⟨h.finite,?_⟩;rw [h.toInt];have hp:0<a1t:=a0u _;have a:2 * k<=X / a1t:=(Nat.le_div_iff_mul_le hp).mpr (by rw [b6c,← Nat.mul_assoc,Nat.mul_comm (2 * k)];exact h1);have b:X / a1t<2 * k+2:=(Nat.div_lt_iff_lt_mul hp).mpr (by rw [b6c,← Nat.mul_assoc,Nat.mul_comm (2 * k+2)];exact h2);refine(d0h _ 2).trans (congrArg Int.ofNat (Nat.div_eq_of_lt_le ?_ ?_))
 ·rw [Nat.mul_comm];exact a
 ·rw [Nat.mul_comm];exact b
theorem e1v{a b:UInt64}{A B l u k:Nat}(ha:FX 21 false a A)(hb:FX 21 false b B)(hle:B<=A)(hu:u<=2000)(h1:l * gX<=A-B)(h2:A-B<=u * gX)(k1:1024 * (2 * k)<=6 * l+7168)(k2:6 * u+7168<1024 * (2 * k+2)):Float64.isFinite (a3c a b)=true/\(Flt.toInt Float64.truncOf (a3c a b)).fdiv 2=(k:Int):=by
 have f:=((FX.ofN (n:=6) (k:=3) (by decide) (by decide)).mul (ha.sub hb hle (by decide)) (by decide)).add ((FX.ofN (n:=7) (k:=3) (by decide) (by decide)).le (by decide)) (by decide);obtain⟨b1,b2⟩:=b3l (Nat.le_trans hu (by decide)) h1 h2;obtain⟨c1,c2⟩:=c5e (Nat.le_trans hu (by decide)) b1 b2;have hs:a2v 7=7168 * gX:=by rw [b9u,b6c,← Nat.mul_assoc]
 have hg:=d0g;obtain⟨d1,d2⟩:=b3l (W:=Nat.add (a6r (a2v 6) (a3x A B)) (a2v 7)) (l:=6 * l+7168) (u:=6 * u+7168) (Nat.le_trans (Nat.add_le_add_right (Nat.mul_le_mul_left 6 hu) _) (by decide)) (by rw [hs,Nat.add_mul];exact Nat.add_le_add_right c1 _) (by rw [hs,Nat.add_mul];exact Nat.add_le_add_right c2 _);exact int_of f (Nat.le_trans (Nat.mul_le_mul_right _ k1) d1) (Nat.lt_of_le_of_lt d2 (Nat.mul_lt_mul_of_pos_right k2 hg))
theorem e3r{a b:UInt64}{A B l u k:Nat}(ha:FX 21 false a A)(hb:FX 21 false b B)(hlt:A<B)(hu:u<=1100)(h1:l * gX<=B-A)(h2:B-A<=u * gX)(k1:1024 * (2 * k)<=7168-6 * u)(k2:7168-6 * l<1024 * (2 * k+2)):Float64.isFinite (a3c a b)=true/\(Flt.toInt Float64.truncOf (a3c a b)).fdiv 2=(k:Int):=by
 have f0:=(FX.ofN (n:=6) (k:=3) (by decide) (by decide)).mul (ha.subN hb hlt (by decide)) (by decide);obtain⟨b1,b2⟩:=b3l (Nat.le_trans hu (by decide)) h1 h2;obtain⟨c1,c2⟩:=c5e (Nat.le_trans hu (by decide)) b1 b2;have hs:a2v 7=7168 * gX:=by rw [b9u,b6c,← Nat.mul_assoc]
 have hg:=d0g;have hlt7:a6r (a2v 6) (a3x B A)<a2v 7:=by rw [hs];exact Nat.lt_of_le_of_lt c2 (Nat.mul_lt_mul_of_pos_right (Nat.lt_of_le_of_lt (Nat.mul_le_mul_left 6 hu) (by decide)) hg)
 have f:=f0.addP (FX.ofN (n:=7) (k:=3) (by decide) (by decide)) hlt7 (by decide);obtain⟨d1,d2⟩:=b3l (W:=Nat.sub (a2v 7) (a6r (a2v 6) (a3x B A))) (l:=7168-6 * u) (u:=7168-6 * l) (Nat.le_trans (Nat.sub_le _ _) (by decide)) (by rw [hs,Nat.sub_mul];exact Nat.sub_le_sub_left c2 _) (by rw [hs,Nat.sub_mul];exact Nat.sub_le_sub_left c1 _);exact int_of f (Nat.le_trans (Nat.mul_le_mul_right _ k1) d1) (Nat.lt_of_le_of_lt d2 (Nat.mul_lt_mul_of_pos_right k2 hg))
theorem e1r{m A:Nat}(h:niX m A=true)(hA:A<=a1t)(hm:m<768):∃ M q,(q=0∨q=1)/\M=m+768 * q/\M<=768/\4 * (M * gX)<=3 * A+3 * gX/\3 * A<=4 * (M * gX)+3 * gX:=by
 have key:∀ M,niN M A=true->M<=768/\4 * (M * gX)<=3 * A+3 * gX/\3 * A<=4 * (M * gX)+3 * gX:=fun M h=>by
  obtain⟨h1,h2⟩:=a3s h;have h1:4 * M * a1t<=3072 * A+3 * a1t:=Nat.ble_eq.mp h1;have h2:3072 * A<=(4 * M+3) * a1t:=Nat.ble_eq.mp h2;have e:4 * M * a1t=4096 * (M * gX):=by rw [b6c];exact Nat.mul_mul_mul_comm 4 M 1024 gX
  rw [Nat.add_mul,e,b6c]at h2;rw [e,b6c]at h1;rw [b6c]at hA;generalize hP:M * gX=P at *;refine⟨?_,Nat.le_of_mul_le_mul_left (ar1 h1 (by simp +arith only)) (by decide:0<1024),Nat.le_of_mul_le_mul_left (ar1 h2 (by simp +arith only)) (by decide:0<1024)⟩;refine Nat.le_of_not_lt fun hq=>?_;have:769 * gX<=P:=hP▸Nat.mul_le_mul_right _ hq;exact absurd (ar3 h1 (Nat.mul_le_mul_left 4096 this) (Nat.mul_le_mul_left 3072 hA) (by simp +arith only):gX<=0) (Nat.not_le.mpr d0g)
 rcases b8d h with⟨h,_⟩ | ⟨_,h⟩
 ·exact⟨m,0,.inl rfl,rfl,key m h⟩
 ·exact⟨m+768,1,.inr rfl,rfl,key _ h⟩
theorem e2n{A B Q X g:Nat}(h1:4 * (Q+256 * X)<=3 * A+3 * g)(h4:3 * B<=4 * Q+3 * g):341 * X<=A-B+3 * g:=Nat.le_of_mul_le_mul_left (ar3 h1 h4 (Nat.mul_le_mul_left 3 (Nat.sub_le_iff_le_add.mp (Nat.le_refl (A-B)))) (by simp +arith only)) (by decide:0<3)
theorem e4w{A B Q X g:Nat}(h2:3 * A<=4 * (Q+256 * X)+3 * g)(h3:4 * Q<=3 * B+3 * g):A<=342 * X+3 * g+B:=Nat.le_of_mul_le_mul_left (ar2 h2 h3 (by simp +arith only)) (by decide:0<3)
theorem e3d{A B Q Y g:Nat}(hg:0<g)(h1:4 * (Q+256 * (Y+g))<=3 * A+3 * g)(h4:3 * B<=4 * Q+3 * g):B<A:=Nat.le_of_mul_le_mul_left (ar3 h1 h4 (Nat.mul_le_mul_left 1018 hg) (by simp +arith only)) (by decide:0<3)
section
variable{A B N m g:Nat}
theorem d5i(h1:4 * ((N+256 * m) * g)<=3 * A+3 * g)(h2:3 * A<=4 * ((N+256 * m) * g)+3 * g)(h3:4 * (N * g)<=3 * B+3 * g)(h4:3 * B<=4 * (N * g)+3 * g):(341 * m-3) * g<=A-B/\A-B<=(342 * m+3) * g:=by
 rw [Nat.add_mul,Nat.mul_assoc]at h1 h2;rw [Nat.sub_mul,Nat.add_mul,Nat.mul_assoc,Nat.mul_assoc];exact⟨Nat.sub_le_of_le_add (e2n h1 h4),Nat.sub_le_of_le_add (e4w h2 h3)⟩
theorem d4z(hg:0<g)(h1:4 * ((N+256 * (m+1)) * g)<=3 * A+3 * g)(h4:3 * B<=4 * (N * g)+3 * g):B<A:=by
 rw [Nat.add_mul,Nat.mul_assoc,Nat.add_mul m,Nat.one_mul]at h1;exact e3d hg h1 h4
end
theorem d2d{a b:UInt64}{A B M N n z:Nat}(ha:FX 21 false a A)(hb:FX 21 false b B)(h1:4 * (M * gX)<=3 * A+3 * gX)(h2:3 * A<=4 * (M * gX)+3 * gX)(h3:4 * (N * gX)<=3 * B+3 * gX)(h4:3 * B<=4 * (N * gX)+3 * gX)(hn:n<7)(eq:N+256 * n=M+768)(r:(n+1)%3=z):∃ k:Nat,Float64.isFinite (a3c a b)=true/\(Flt.toInt Float64.truncOf (a3c a b)).fdiv 2=(k:Int)/\(k+1)%3=z:=by
 have hg:=d0g;rcases Nat.lt_or_ge A B with w | w
 ·rcases Nat.lt_or_ge 3 n with c | c
  ·obtain⟨j,rfl⟩:=Nat.le.dest c
   obtain rfl:N+256 * (j+1)=M:=Nat.add_right_cancel (m:=768) (Eq.trans (by simp +arith only) eq);exact absurd (d4z hg h1 h4) (Nat.lt_asymm w)
  ·obtain⟨m,hm⟩:=Nat.le.dest c
   obtain rfl:M+256 * m=N:=Nat.add_right_cancel (m:=256 * n) ((by simp +arith only:M+256 * m+256 * n=M+256 * (n+m)).trans ((congrArg (M+256 * ·) hm).trans eq.symm));obtain⟨l,u⟩:=d5i h3 h4 h1 h2;obtain rfl:n=3-m:=Nat.eq_sub_of_add_eq hm;have hm4:m<4:=Nat.lt_succ_of_le (hm▸Nat.le_add_left m _);have:=e3r ha hb w ((by decide:∀ m<4,342 * m+3<=1100) m hm4) l u ((by decide:∀ m<4,1024 * (2 * (3-m))<=7168-6 * (342 * m+3)) m hm4) ((by decide:∀ m<4,7168-6 * (341 * m-3)<1024 * (2 * (3-m)+2)) m hm4);exact⟨_,this.1,this.2,r⟩
 ·rcases Nat.lt_or_ge n 3 with c | c
  ·obtain⟨j,hj⟩:=Nat.le.dest c
   obtain rfl:M+256 * (j+1)=N:=Nat.add_right_cancel (m:=256 * n) ((by simp +arith only:M+256 * (j+1)+256 * n=M+256 * (n+1+j)).trans ((congrArg (M+256 * ·) hj).trans eq.symm));exact absurd (d4z hg h3 h2) (Nat.not_lt.mpr w)
  ·obtain⟨m,rfl⟩:=Nat.le.dest c
   obtain rfl:N+256 * m=M:=Nat.add_right_cancel (m:=768) (Eq.trans (by simp +arith only) eq);obtain⟨l,u⟩:=d5i h1 h2 h3 h4;have hm4:m<4:=Nat.lt_of_add_lt_add_left hn;have:=e1v ha hb w ((by decide:∀ m<4,342 * m+3<=2000) m hm4) l u ((by decide:∀ m<4,1024 * (2 * (3+m))<=6 * (341 * m-3)+7168) m hm4) ((by decide:∀ m<4,6 * (342 * m+3)+7168<1024 * (2 * (3+m)+2)) m hm4);exact⟨_,this.1,this.2,r⟩
theorem d9d:∀ e<3,∀ d<3,∀ d'<3,∀ b<4,b%3=(e+d')%3->((e+d)%3+(4-b))%3=(d+4-d')%3:=by decide
theorem d6v{e d d' a b:Nat}(hd:d<3)(hd':d'<3)(ha:a%3=(e+d)%3)(hb:b%3=(e+d')%3)(h:b<=3):(a+3-b+1)%3=(d+4-d')%3:=by
 rw [Nat.add_sub_assoc h,Nat.add_assoc,← Nat.sub_add_comm h,← Nat.mod_add_mod,ha,← Nat.mod_add_mod e];rw [← Nat.mod_add_mod e]at hb;exact d9d _ (Nat.mod_lt e (by decide)) d hd d' hd' b (Nat.lt_succ_of_le h) hb
theorem f2c{a f:Nat}(h:256 * a+f<=768):a<=3:=Nat.le_of_mul_le_mul_left (Nat.le_trans (Nat.le_add_right _ f) h:256 * a<=256 * 3) (by decide)
theorem d8t{a b f:Nat}(h:256 * b+f<=768)(h':256 * a+f<=768):a+3-b<7/\256 * b+f+256 * (a+3-b)=256 * a+f+768/\b<=3:=by
 have hb:=f2c h;refine⟨Nat.lt_of_le_of_lt (Nat.sub_le _ _) (Nat.add_lt_add_right (Nat.lt_succ_of_le (f2c h')) 3),?_,hb⟩;obtain⟨c,hc⟩:=Nat.le.dest hb;rw [← hc,show a+(b+c)-b=a+c by rw [Nat.add_left_comm,Nat.add_sub_cancel_left],show 768=256 * (b+c)from congrArg (256 * ·) hc.symm,Nat.mul_add,Nat.mul_add,Nat.add_right_comm,Nat.add_right_comm _ f,Nat.add_left_comm,← Nat.add_assoc]
theorem d6m{e d d' x y f M N:Nat}(hd:d<3)(hd':d'<3)(eM:M=256 * ((e+d)%3+3 * x)+f)(eN:N=256 * ((e+d')%3+3 * y)+f)(hM:M<=768)(hN:N<=768):∃ n,n<7/\N+256 * n=M+768/\(n+1)%3=(d+4-d')%3:=by
 subst eM eN;obtain⟨h1,h2,h3⟩:=d8t hN hM;exact⟨_,h1,h2,d6v hd hd' (by rw [Nat.add_mul_mod_self_left,Nat.mod_mod]) (by rw [Nat.add_mul_mod_self_left,Nat.mod_mod]) h3⟩
theorem e0o(b d:Nat):(24 * b+256 * d)%768=256 * ((24 * b / 256+d)%3)+24 * b%256:=by
 rw [show 768=256 * 3 from rfl,Nat.mod_mul,Nat.add_mul_mod_self_left,Nat.add_mul_div_left _ _ (by decide),Nat.add_comm]
theorem d7x{base d d' p q p' q':Nat}{t t':C3}(hd:d<3)(hd':d'<3)(h:d4g (mX base d) p q t)(h':d4g (mX base d') p' q' t'):∃ k:Nat,Float64.isFinite (a3c t.1 t'.1)=true/\(Flt.toInt Float64.truncOf (a3c t.1 t'.1)).fdiv 2=(k:Int)/\(k+1)%3=(d+4-d')%3:=by
 obtain⟨A,a1,a0,a2,_,_,_,_⟩:=h;obtain⟨B,b1,b0,b2,_,_,_,_⟩:=h';obtain⟨M,x,hx,eM,hM,hA1,hA2⟩:=e1r a2 a0 (Nat.mod_lt _ (by decide));obtain⟨N,y,hy,eN,hN,hB1,hB2⟩:=e1r b2 b0 (Nat.mod_lt _ (by decide));have sh:∀ {d q:Nat},mX base d+768 * q=256 * ((24 * base / 256+d)%3+3 * q)+24 * base%256:=fun {d q}=>by
  rw [show mX base d=_ from e0o base d,Nat.mul_add,← Nat.mul_assoc];exact Nat.add_right_comm _ _ _
 obtain⟨n,hn,eq,r⟩:=d6m hd hd' (eM.trans sh) (eN.trans sh) hM hN;exact d2d a1 b1 hA1 hA2 hB1 hB2 hn eq r
end
end Mine
end
section
open PySem PySem.W PySem.Calls PyProof.Rows
set_option maxRecDepth 100000
namespace Mine
section
open Float64 (add sub mul div divmod cmp isZero)
section
variable{μ μ':Mu}{N:Nat}{ρ:Rho}{Γ:G}{n:Nat}
theorem b6b{i j k:Nat}{e:X}{a b c:V}(h:ev Γ n e ρ μ=some (.tup [a,b,c],μ')):a0e Γ n (.unpack [i,j,k] e) ρ μ=some (.next,put k c (put j b (put i a ρ)),μ'):=by
 simp only [a9j,a9o,d3w,c6k,c2u,d1o,b9n,b4b,h];rfl
theorem a1m{i j:Nat}{e:X}{a b:V}(h:ev Γ n e ρ μ=some (.tup [a,b],μ')):a0e Γ n (.unpack [i,j] e) ρ μ=some (.next,put j b (put i a ρ),μ'):=by
 simp only [a9j,a9o,d3w,c6k,c2u,d1o,b9n,b4b,h];rfl
theorem b_q{a b:Nat}{x:UInt64}(hb:b≠0)(h:qO a b=some x):a0p .Div (.int (a:Int)) (.int (b:Int))=some (.flt x):=by
 unfold qO at h;have h1:((b:Int) != 0)=true:=by simpa using hb
 have h2:(decide ((a:Int)<0) != decide ((b:Int)<0))=false:=by
  rw [decide_eq_false (Int.not_lt.mpr (Int.natCast_nonneg a)),decide_eq_false (Int.not_lt.mpr (Int.natCast_nonneg b))];rfl
 simp only [b2o,a6u,b0p,b2j,b5j,b5i,b2r,b2g,b1a,a9z,a8d,b1z,b2k,b1y,b1v,h1,h2,Int.natAbs_natCast];cases hi:Float64.isInf (Float64.ofFrac false a b)
 ·rw [hi]at h
  simp only [Bool.false_eq_true,if_false,Option.some.injEq]at h;subst h;rfl
 ·rw [hi]at h
  simp at h
theorem e5l{n:Nat}(args:List V)(μ:Mu):gC.call n 68 args μ=cF g0 a3r F_hsv_to_rgb n args μ:=rfl
theorem e2c{n:Nat}(args:List V)(μ:Mu):gC.call n 66 args μ=cF g0 a3n a2r n args μ:=rfl
theorem e3n{n:Nat}(args:List V)(μ:Mu):gC.call n 47 args μ=cF g0 a3t a2q n args μ:=rfl
theorem e6b{n:Nat}(args:List V)(μ:Mu):gC.call n 61 args μ=cF gV a3q a2o n args μ:=rfl
theorem e6d{n:Nat}(args:List V)(μ:Mu):gC.call n 5 args μ=d0q args μ:=rfl
theorem a5c(a:Nat){b:Nat}(hb:b≠0):a0p .Mod (.int (a:Int)) (.int (b:Int))=some (.int ((a%b:Nat):Int)):=by
 have h1:((b:Int) != 0)=true:=by simpa using hb
 simp only [b2o,a6u,b0p,b2j,b5j,b5i,b2r,b2g,b1a,a9z,a8d,b1z,b2k,b1y,b1v,h1,if_true,e1c]
theorem b2h(a:Nat){b:Nat}(hb:b≠0)(hs:b<2^60):a0p .FloorDiv (.int (a:Int)) (.int (b:Int))=some (.int ((a / b:Nat):Int)):=by
 have h1:((b:Int) != 0)=true:=by simpa using hb
 have h2:small (b:Int)=true:=by simpa [small]using hs
 simp only [b2o,a6u,b0p,b2j,b5j,b5i,b2r,b2g,b1a,a9z,a8d,b1z,b2k,b1y,b1v,h1,h2,Bool.and_self,if_true,d0h]
theorem d9c{o1 o2:CmpOp}{a b c:X}{u v w:V}{r:Bool}(h1:ev Γ n a ρ μ=some (u,μ))(h2:ev Γ n b ρ μ=some (v,μ))(h3:a0s o1 (look μ u) (look μ v)=some true)(h4:ev Γ n c ρ μ=some (w,μ))(h5:a0s o2 (look μ v) (look μ w)=some r):ev Γ (n+1) (.cmp2 o1 o2 a b c) ρ μ=some (.bool r,μ):=by
 simp only [e3f,e3b,e5w,d6n,e5p,c9z,d7o,e0r,d8r,c3m,d7k,c3c,c4n,c6a,c6b,b4z,c5i,e5d,h1,h2,h3,h4,h5,Option.map_some]
theorem b7j(k:Nat)(x:UInt64)(hk:k<2^60):a0p .Mult (.int (k:Int)) (.flt x)=some (.flt (mul (Float64.ofInt k) x)):=by
 rw [a8d,show small (k:Int)=true from decide_eq_true hk];rfl
theorem c3o(x:UInt64):a0p .Add (.flt x) (.int 1)=some (.flt (add x (Float64.ofInt 1))):=rfl
theorem c4x(z:Int):a0p .FloorDiv (.int z) (.int 2)=some (.int (z.fdiv 2)):=rfl
theorem d1v{a c:X}{x:UInt64}{k:Nat}{z:Int}(h:a9f k x=some z)(hk:k<2^60)(ha:ev gC (N+7) a ρ μ=some (.int (k:Int),μ))(hc:ev gC (N+7) c ρ μ=some (.flt x,μ)):ev gC (N+11) (.bin .FloorDiv (.call 5 [(.bin .Add (.bin .Mult a c) (.cst (.int 1)))]) (.cst (.int 2))) ρ μ=some (.int z,μ):=by
 refine ifS h fun hf h=>?_;obtain rfl:=Option.some.inj h;exact evb ((a0j (vs:=[.flt (b5v k x)]) (a2i (evb (evb ha hc (b7j k x hk)) evc (c3o _)))).trans ((e6d _ _).trans (e7m _ _ hf))) evc (c4x _)
theorem c9y(a:Nat):a0p .Mult (.int 256) (.int (a:Int))=some (.int ((256 * a:Nat):Int)):=rfl
theorem f1y(a:Nat):a0p .Add (.int 1) (.int (a:Int))=some (.int ((1+a:Nat):Int)):=rfl
theorem d7g{a b c:X}(h1:ev Γ n a ρ μ=some (.bool true,μ))(h2:ev Γ n b ρ μ=some (.bool true,μ))(h3:ev Γ n c ρ μ=some (.bool true,μ)):ev Γ (n+1) (.and [a,b,c]) ρ μ=some (.bool true,μ):=by
 show d1r (fun x μ=>ev Γ n x ρ μ) _ μ=_;rw [e8f,h1];show d1r (fun x μ=>ev Γ n x ρ μ) _ μ=_;rw [e8f,h2];exact h3
theorem e3a(a b:Int):a0s .Eq (.lst [.int a,.int b]) (.lst [.int a,.int b])=some true:=by
 have:=encInts.cmpEq (by decide) (a:=[a,b]) (b:=[a,b]) (fun zz zz=>trivial) (fun zz zz=>trivial);simpa using this
theorem c3t{x:UInt64}{z:Int}(h:a9f 2048 x=some z)(ρ:Rho):ev gC (N+11) (.bin .FloorDiv (.call 5 [(.bin .Add (.bin .Mult (.cst (.int 2048)) (.loc 103)) i1)]) (.cst (.int 2))) (put 103 (.flt x) ρ) μ=some (.int z,μ):=
 d1v h (by decide) evc (evl (by rw [a0b,if_pos rfl]))
theorem e0c{t:C3}{d1 d2:Int}(hl:e3g t.1=true)(h1:a9f 2048 t.2.1=some d1)(h2:a9f 2048 t.2.2=some d2)(r0:ρ.lookup 100=some (vC t))(r1:ρ.lookup 101=some (.lst [.int d1,.int d2])):ev gC (N+20) d8w ρ μ=some (.bool true,μ):=by
 have t0:ev gC (N+18) (.sub (.loc 100) i0) ρ μ=some (.flt t.1,μ):=a1a (evl r0) evc rfl;unfold e3g at hl;rw [Bool.and_eq_true]at hl;refine d7g ((a0j (vs:=[vC t,.typ "tuple"]) (evn (evl r0) (a2i rfl))).trans rfl) (d9c evc t0 (congrArg some hl.1) evc (congrArg some hl.2)) (a0h (u:=.lst [.int d1,.int d2]) (a2w (vs:=[.flt t.2.1,.flt t.2.2]) ?_ (show 2<=big by decide) ?_) (evl r1) (e3a d1 d2))
 ·have:ev gC (N+17) (.slc (.loc 100) (some i1) .none .none) ρ μ=some (.tup [.flt t.2.1,.flt t.2.2],μ):=by
   rw [c3c,evl r0];rfl
  rw [f0y,this];rfl
 ·exact a8h d1t (c3t (N:=N+6) h1 _) (a8h d1t (c3t (N:=N+6) h2 _) rfl)
end
end
section
section
variable{μ:Mu}{N:Nat}
noncomputable def e1x(p:Nat)(h:UInt64)(st:Nat):Rho:=[(92,.int (p:Int)),(65,.flt h),(157,.int (st:Int)),(97,.int ((1+p%4:Nat):Int)),(98,.int ((1+p / 4%3:Nat):Int))]
theorem b9k{p st:Nat}{h:UInt64}:ev gC (N+6) d4n [(92,.int (p:Int)),(65,.flt h),(157,.int (st:Int))] μ=some (.tup [.int ((1+p%4:Nat):Int),.int ((1+p / 4%3:Nat):Int)],μ):=
 a4y (evn (evb evc (evb (evl rfl) evc (a5c p (b:=4) (by decide))) (f1y _)) (a2i (evb evc (evb (evb (evl rfl) evc (b2h p (b:=4) (by decide) (by decide))) evc (a5c _ (b:=3) (by decide))) (f1y _)))) (show 2<=big by decide)
theorem d4k{p st:Nat}{h:UInt64}{e:Bool}(he:(st%2==0)=e):ev gC (N+5) (.cmp .Eq (.bin .Mod (.loc 157) (.cst (.int 2))) i0) (e1x p h st) μ=some (.bool e,μ):=by
 refine a0h (evb (evl rfl) evc (a5c st (b:=2) (by decide))) evc ?_;subst he;refine(c4l _ _).trans (congrArg some ?_);rw [Bool.eq_iff_iff,decide_eq_true_eq,beq_iff_eq];omega
theorem c5v{p st:Nat}{h:UInt64}{t:C3}{m:Nat}(ht:c6f h (1+p%4) (1+p / 4%3) (st%2==0)=some t)(hT:d4g m (if(st%2==0)then 1+p%4 else 1+p / 4%3) (if(st%2==0)then 1+p / 4%3 else 1+p%4) t)(ok:a3y μ=true) :
  cF gC b7u b7v (N+60) [.int (p:Int),.flt h,.int (st:Int)] μ=some (.tup [.flt t.1,.bool true],μ):=by
 obtain⟨A,_,_,_,hl,_,h5,h6⟩:=hT;refine a0g ht fun s qs ht=>a0g ht fun l ql ht=>?_;generalize he:(st%2==0)=e at *;have fin:∀ c:C3,∀ a b:Nat,a9f 2048 t.2.1=some ((256 * a:Nat):Int)->a9f 2048 t.2.2=some ((256 * b:Nat):Int) →
   a3j (a0e gC (N+58)) [.ret (.tup [(.sub (.loc 100) i0),d8w])] (e1x p h st++[(96,vC c),(100,vC t),(101,.lst [.int ((256 * a:Nat):Int),.int ((256 * b:Nat):Int)])]) μ=some (.ret (.tup [.flt t.1,.bool true]),e1x p h st++[(96,vC c),(100,vC t),(101,.lst [.int ((256 * a:Nat):Int),.int ((256 * b:Nat):Int)])],μ):=fun c a b e1 e2=>
  a6k (a4y (evn (a1a (evl rfl) evc rfl) (a2i (e0c (N:=N+37) hl e1 e2 rfl rfl))) (show 2<=big by decide))
 have two:∀ a b:Nat,ev gC (N+54) (.lst [.bin .Mult (.cst (.int 256)) (.loc a),.bin .Mult (.cst (.int 256)) (.loc b)])=ev gC (N+54) (.lst [e1l a,e1l b]):=fun zz zz=>rfl;induction e using Bool.casesOn with
 | true=>
  refine a0g ht fun c h1 h2=>?_;refine a0i (n:=N+59) (v:=.tup [.flt t.1,.bool true]) (ρ':=e1x p h st++[(96,vC c),(100,vC t),(101,.lst [.int ((256 * (1+p%4):Nat):Int),.int ((256 * (1+p / 4%3):Nat):Int)])]) rfl ok ?_ rfl;refine(a0a (a1m (b9k (N:=N+52)))).trans ?_;refine a6v (bv:=true) (d4k (N:=N+53) he) ?_ (fin c _ _ h5 h6);refine a3b (v:=vC c) ((a0j (vs:=[.flt h,.flt s,.flt l]) (μ₁:=μ) (evn (evl rfl) (evn (evb (evl rfl) evc (b_q (b:=4) (by decide) qs)) (a2i (evb (evl rfl) evc (b_q (b:=4) (by decide) ql)))))).trans ((e5l _ _).trans (b8c (N:=N+36) h1 ok))) ?_;refine(a0a (a1m (a:=vC t) (b:=.lst [.int ((256 * (1+p%4):Nat):Int),.int ((256 * (1+p / 4%3):Nat):Int)]) (μ':=μ) (a4y (evn ?_ (a2i (a9u (evn (evb evc (evl rfl) (c9y _)) (a2i (evb evc (evl rfl) (c9y _)))) (by show 2<=big;decide)))) (by show 2<=big;decide)))).trans rfl;exact(a0j (vs:=[.flt c.1,.flt c.2.1,.flt c.2.2]) (μ₁:=μ) (evn (a1a (evl rfl) evc rfl) (evn (a1a (evl rfl) evc rfl) (a2i (a1a (evl rfl) evc rfl))))).trans ((e2c _ _).trans (b6q (N:=N+35) h2 ok))
 | false=>
  refine a0i (n:=N+59) (v:=.tup [.flt t.1,.bool true]) (ρ':=e1x p h st++[(96,vC (a1u th3 (Float64.sub h (Float64.ofInt 3)) l s)),(100,vC t),(101,.lst [.int ((256 * (1+p / 4%3):Nat):Int),.int ((256 * (1+p%4):Nat):Int)])]) rfl ok ?_ rfl;refine(a0a (a1m (b9k (N:=N+52)))).trans ?_;refine a6v (bv:=false) (d4k (N:=N+53) he) ?_ (fin (a1u th3 (Float64.sub h (Float64.ofInt 3)) l s) _ _ h5 h6);refine a3b (v:=vC (a1u th3 (Float64.sub h (Float64.ofInt 3)) l s)) ((a0j (vs:=[.flt (Float64.sub h (Float64.ofInt 3)),.flt l,.flt s]) (μ₁:=μ) (evn (evb (evl rfl) evc (c8x h 3 rfl)) (evn (evb (evl rfl) evc (b_q (b:=4) (by decide) ql)) (a2i (evb (evl rfl) evc (b_q (b:=4) (by decide) qs)))))).trans ((e6b _ _).trans (b6p (N:=N+26) ok))) ?_;refine(a0a (a1m (a:=vC t) (b:=.lst [.int ((256 * (1+p / 4%3):Nat):Int),.int ((256 * (1+p%4):Nat):Int)]) (μ':=μ) (a4y (evn ?_ (a2i (a9u (evn (evb evc (evl rfl) (c9y _)) (a2i (evb evc (evl rfl) (c9y _)))) (by show 2<=big;decide)))) (by show 2<=big;decide)))).trans rfl;exact(a0j (vs:=[.flt (a1u th3 (Float64.sub h (Float64.ofInt 3)) l s).1,.flt (a1u th3 (Float64.sub h (Float64.ofInt 3)) l s).2.1,.flt (a1u th3 (Float64.sub h (Float64.ofInt 3)) l s).2.2]) (μ₁:=μ) (evn (a1a (evl rfl) evc rfl) (evn (a1a (evl rfl) evc rfl) (a2i (a1a (evl rfl) evc rfl))))).trans ((e3n _ _).trans (b6r (N:=N+35) ht ok))
end
end
section
section
variable{μ:Mu}{N:Nat}{ρ:Rho}
theorem c9v{Γ:G}{n:Nat}{a b:X}{x y:UInt64}{k:Nat}(hi:∀ n args μ,Γ.call n 5 args μ=d0q args μ)(ha:ev Γ n a ρ μ=some (.flt x,μ))(hb:ev Γ n b ρ μ=some (.flt y,μ))(hf:Float64.isFinite (a3c x y)=true)(hk:(Flt.toInt Float64.truncOf (a3c x y)).fdiv 2=(k:Int))(hn:∀ v:V,ev Γ (n+1) (.cst v) ρ μ=some (v,μ)) :
  ev Γ (n+5) (.bin .FloorDiv (.call 5 [(.bin .Add (.bin .Mult (.cst (.int 6)) (.bin .Sub a b)) (.cst (.int 7)))]) (.cst (.int 2))) ρ μ=some (.int (k:Int),μ):=by
 refine evb ((a0j (vs:=[.flt (a3c x y)]) (a2i (evb (evb evc (evb ha hb rfl) (b7j 6 _ (by decide))) evc ?_))).trans ((hi _ _ _).trans (e7m _ _ hf))) evc ((c4x _).trans (by rw [hk]));exact rfl
theorem d7e{n:Nat}(h:n<1000):a4j [.int (n:Int)]=some ((List.range n).map fun(i:Nat)=>V.int (i:Int)):=by
 have hs:Builtin.Range.small 0 (n:Int) 1=true:=(by decide +kernel:∀ n<1000,Builtin.Range.small 0 ((n:Nat):Int) 1=true) n h;have hz:(Builtin.Range.rangeSize 0 (n:Int) 1).toNat=n:=(by decide +kernel:∀ n<1000,(Builtin.Range.rangeSize 0 ((n:Nat):Int) 1).toNat=n) n h;rw [d2b hs];unfold a2d;rw [hz];refine congrArg some (List.map_congr_left fun i zz=>?_);rw [Int.mul_one,Int.zero_add]
end
end
end Mine
end
section
namespace Mine
section
theorem e7w(a:Int):a%3=0∨a%3=1∨a%3=2:=by
 obtain⟨n,h⟩:=Int.eq_ofNat_of_zero_le (Int.emod_nonneg a (by decide:(3:Int)≠0));have h3:=Int.emod_lt_of_pos a (by decide:(0:Int)<3);rw [h]at h3 ⊢;rcases(by decide:∀ d<3,d=0∨d=1∨d=2) n (Int.ofNat_lt.mp h3)with rfl | rfl | rfl
 ·exact .inl rfl
 ·exact .inr (.inl rfl)
 ·exact .inr (.inr rfl)
theorem d6b{a b c:Int}(h:a%3=c):(a+b)%3=(c+b)%3:=by rw [← Int.emod_add_emod,h]
noncomputable def b1f(h:Int):Int:=(h+2) / 3 * 3
theorem c8o(h:Int):h<=b1f h:=by unfold b1f;omega
theorem d5b(h:Int):b1f h<=h+2:=by unfold b1f;omega
theorem d2l(h:Int):b1f h%3=0:=Int.mul_emod_left _ _
theorem a7o{h v:Int}(h1:h<=v)(h0:v%3=0):b1f h<=v:=by
 have e:=Int.mul_ediv_add_emod v 3;rw [h0,Int.add_zero,Int.mul_comm]at e;rw [← e]at h1 ⊢;refine Int.mul_le_mul_of_nonneg_right (Int.le_trans (Int.ediv_le_ediv (by decide:(0:Int)<3) (Int.add_le_add_right h1 2)) (Int.le_of_eq ?_)) (by decide);rw [Int.add_comm,Int.add_mul_ediv_right _ _ (by decide)];exact Int.zero_add _
noncomputable def lvI(s h:Int):Int:=if b1f h<h+s then b1f h else h+s
section
variable{s h v a b a':Int}
theorem e1j(h:a%3=0):(a+1)%3=1:=d6b h
theorem c2i(h1:h+s<=b1f h):lvI s h=h+s:=if_neg (Int.not_lt.mpr h1)
theorem b4f(h1:b1f h<=h+s):lvI s h=b1f h:=by
 unfold lvI;by_cases c:b1f h<h+s
 ·exact if_pos c
 ·rw [if_neg c];exact Int.le_antisymm (Int.not_lt.mp c) h1
theorem f1v(h:Int):lvI 0 h=h:=(c2i (by rw [Int.add_zero];exact c8o h)).trans (Int.add_zero h)
theorem d5k:lvI s h<=b1f h:=by
 rcases Int.le_total (h+s) (b1f h)with c | c
 ·rw [c2i c];exact c
 ·rw [b4f c];exact Int.le_refl _
theorem d2m(hs:0<=s):h<=lvI s h:=by
 rcases Int.le_total (h+s) (b1f h)with c | c
 ·rw [c2i c];exact Int.le_add_of_nonneg_right hs
 ·rw [b4f c];exact c8o h
theorem lv_step:lvI s h<=lvI (s+1) h/\lvI (s+1) h<=lvI s h+1:=by
 rcases Int.le_total (h+s) (b1f h)with c | c
 ·rw [c2i c]
  rcases Int.le_total (h+(s+1)) (b1f h)with d | d
  ·rw [c2i d,← Int.add_assoc];exact⟨Int.le_add_of_nonneg_right (by decide),Int.le_refl _⟩
  ·rw [b4f d];exact⟨c,by rw [Int.add_assoc];exact d⟩
 ·rw [b4f c,b4f (Int.le_trans c (by rw [← Int.add_assoc];exact Int.le_add_of_nonneg_right (by decide)))]
  exact⟨Int.le_refl _,Int.le_add_of_nonneg_right (by decide)⟩
theorem e6r(hs:0<=s)(h1:lvI s h<=v):lvI (s+1) h<=v+1/\(v%3=0->lvI (s+1) h<=v):=
 ⟨Int.le_trans lv_step.2 (Int.add_le_add_right h1 1),fun q=>Int.le_trans d5k (a7o (Int.le_trans (d2m hs) h1) q)⟩
theorem d4y(h0:lvI s h%3=0)(hs:0<=s):lvI (s+1) h=lvI s h:=
 Int.le_antisymm (Int.le_trans d5k (a7o (d2m hs) h0)) lv_step.1
theorem e3c(h0:h%3≠0):h<b1f h:=Int.lt_iff_le_and_ne.mpr ⟨c8o h,fun q=>h0 (q▸d2l h)⟩
theorem e7h(h0:h%3≠0):lvI 1 h=h+1:=c2i (e3c h0)
theorem lv_2:lvI 2 h=b1f h:=b4f (d5b h)
theorem f0v(h0:h%3=1):b1f h=h+2:=Int.ediv_mul_cancel_of_emod_eq_zero (d6b h0)
theorem e2q(hs:2<=s):lvI s h%3=0:=by
 rw [b4f (Int.le_trans (d5b h) (Int.add_le_add_left hs h))];exact d2l h
theorem e8r(hs:1<=s):lvI s h%3≠1:=by
 rcases Int.le_iff_lt_or_eq.mp hs with c | rfl
 ·rw [e2q c];decide
 ·by_cases h0:h%3=0
  ·rw [b4f (Int.le_trans (a7o (Int.le_refl h) h0) (Int.le_add_of_nonneg_right (by decide))),d2l];decide
  ·rw [e7h h0]
   exact fun q=>h0 (by rw [← Int.add_sub_cancel h 1];exact d6b q)
theorem e6j(h:v%3=2):(v-1)%3=1:=d6b h
theorem c6d(hv:v%3=2):lvI 1 h=v↔h=v-1:=by
 constructor
 ·intro q
  by_cases h0:h%3=0
  ·rw [b4f (Int.le_trans (a7o (Int.le_refl h) h0) (Int.le_add_of_nonneg_right (by decide)))]at q
   rw [← q,d2l]at hv;exact absurd hv (by decide)
  ·rw [e7h h0]at q
   exact(Int.add_sub_cancel h 1).symm.trans (congrArg (· - 1) q)
 ·intro q
  rw [e7h (by rw [q,e6j hv];decide),q];exact Int.sub_add_cancel v 1
theorem d3h(h:a<=b)(q:a≠b):a<b:=Int.lt_iff_le_and_ne.mpr ⟨h,q⟩
theorem e3h(hs:1<=s)(hv:v%3=1)(h1:lvI s h<=v):lvI s h<v:=d3h h1 fun q=>e8r hs (by rw [q];exact hv)
theorem d4u(hs:2<=s)(hv:v%3=2)(h1:lvI s h<=v):lvI s h<v:=d3h h1 fun q=>by
 have:=e2q (h:=h) hs;rw [q,hv]at this;exact absurd this (by decide)
theorem d6a(h1:b<=a+1)(h2:a<=a')(h3:a%3≠0∨b%3=1->a'=a+1):b<=a':=by
 rcases Int.le_iff_lt_or_eq.mp h1 with c | rfl
 ·exact Int.le_trans (Int.le_of_lt_add_one c) h2
 ·refine Int.le_of_eq (h3 ?_).symm
  by_cases q:a%3=0
  ·exact .inr (e1j q)
  ·exact .inl q
theorem d4w(h1:b<=a+1)(h2:a<=b+1)(ha:a%3=0)(hb:b%3=1):b=a+1:=by
 rcases Int.le_iff_lt_or_eq.mp h1 with c | c
 ·rcases Int.le_iff_lt_or_eq.mp (Int.le_of_lt_add_one c)with d | d
  ·rw [Int.le_antisymm h2 d,d6b hb]at ha;exact absurd ha (by decide)
  ·rw [d,ha]at hb;exact absurd hb (by decide)
 ·exact c
theorem d5f:¬lvI 1 (a+1)<=a:=Int.not_le.mpr (Int.lt_of_lt_of_le (Int.lt_succ a) (d2m (by decide)))
end
section
variable(u:Int->Int)
noncomputable def Hs:Nat->Int->Int×Int
 | 0,k=>(u k,k)
 | t+1,k=>if(Hs t k).1%3=0 then(if(Hs t (k-1)).1%3=1 then((Hs t k).1+1,(Hs t (k-1)).2)else if(Hs t (k+1)).1%3=1 then((Hs t k).1+1,(Hs t (k+1)).2)else Hs t k)else((Hs t k).1+1,(Hs t k).2)
end
section
variable{u:Int->Int}
noncomputable def e1i(a l r:Int×Int):Int×Int:=if a.1%3=0 then(if l.1%3=1 then(a.1+1,l.2)else if r.1%3=1 then(a.1+1,r.2)else a)else(a.1+1,a.2)
theorem a8b(a l r:Int×Int){P:Int×Int->Prop}(h0:a.1%3≠0->P (a.1+1,a.2))(hl:a.1%3=0->l.1%3=1->P (a.1+1,l.2))(hr:a.1%3=0->l.1%3≠1->r.1%3=1->P (a.1+1,r.2))(hn:a.1%3=0->l.1%3≠1->r.1%3≠1->P a):P (e1i a l r):=by
 unfold e1i;by_cases c:a.1%3=0
 ·rw [if_pos c]
  by_cases l:l.1%3=1
  ·rw [if_pos l];exact hl c l
  ·rw [if_neg l]
   by_cases r:r.1%3=1
   ·rw [if_pos r];exact hr c l r
   ·rw [if_neg r];exact hn c l r
 ·rw [if_neg c];exact h0 c
theorem d7u(a l r:Int×Int):a.1<=(e1i a l r).1/\(e1i a l r).1<=a.1+1/\(a.1%3≠0∨l.1%3=1∨r.1%3=1->(e1i a l r).1=a.1+1):=
 a8b a l r (P:=fun p=>a.1<=p.1/\p.1<=a.1+1/\(a.1%3≠0∨l.1%3=1∨r.1%3=1->p.1=a.1+1)) (fun zz=>⟨Int.le_add_one (Int.le_refl _),Int.le_refl _,fun zz=>rfl⟩) (fun zz zz=>⟨Int.le_add_one (Int.le_refl _),Int.le_refl _,fun zz=>rfl⟩) (fun zz zz zz=>⟨Int.le_add_one (Int.le_refl _),Int.le_refl _,fun zz=>rfl⟩)
  fun h1 h2 h3=>⟨Int.le_refl _,Int.le_add_one (Int.le_refl _),fun q=>(q.elim (absurd h1) fun q=>q.elim (fun q=>absurd q h2) fun q=>absurd q h3)⟩
theorem d1p(t:Nat)(k:Int):(Hs u t k).1<=(Hs u (t+1) k).1/\(Hs u (t+1) k).1<=(Hs u t k).1+1/\((Hs u t k).1%3≠0∨(Hs u t (k-1)).1%3=1∨(Hs u t (k+1)).1%3=1->(Hs u (t+1) k).1=(Hs u t k).1+1):=d7u _ _ _
noncomputable def Lip(f:Int->Int):Prop:=∀ k,f (k+1)<=f k+1/\f k<=f (k+1)+1
theorem d3d(t:Nat)(k:Int)(h:(Hs u t (k-1)).1<=(Hs u t k).1+1/\(Hs u t (k+1)).1<=(Hs u t k).1+1):(Hs u t (k-1)).1<=(Hs u (t+1) k).1/\(Hs u t (k+1)).1<=(Hs u (t+1) k).1:=
 have ⟨a1,_,a3⟩:=d1p (u:=u) t k
 ⟨d6a h.1 a1 fun q=>a3 (q.elim .inl fun q=>.inr (.inl q)),d6a h.2 a1 fun q=>a3 (q.elim .inl fun q=>.inr (.inr q))⟩
theorem b4h(hu:Lip u)(t:Nat):∀ k:Int,(Hs u t (k-1)).1<=(Hs u t k).1+1/\(Hs u t (k+1)).1<=(Hs u t k).1+1:=by
 induction t with
 | zero=>
  intro k;have:=(hu (k-1)).2;rw [Int.sub_add_cancel]at this;exact⟨this,(hu k).1⟩
 | succ t ih=>
  intro k;have l:=(d3d t (k+1) (ih (k+1))).1;have r:=(d3d t (k-1) (ih (k-1))).2;rw [Int.add_sub_cancel]at l;rw [Int.sub_add_cancel]at r;have hk:=d3d t k (ih k);exact⟨Int.le_trans (d1p t (k-1)).2.1 (Int.add_le_add_right hk.1 1),Int.le_trans (d1p t (k+1)).2.1 (Int.add_le_add_right hk.2 1)⟩
theorem k_l(k:Int)(t:Nat):k-1-(t:Int)=k-((t+1:Nat):Int):=by rw [Int.sub_sub,Int.natCast_succ,Int.add_comm 1]
theorem k_r(k:Int)(t:Nat):k+1+(t:Int)=k+((t+1:Nat):Int):=by rw [Int.add_assoc,Int.natCast_succ,Int.add_comm 1]
theorem f1m{t d:Nat}(h:d<=t):((t+1-d:Nat):Int)=((t-d:Nat):Int)+1:=by rw [Nat.sub_add_comm h];rfl
theorem c5q(t:Nat)(h:Int):lvI (t-t:Nat) h=h:=by rw [Nat.sub_self];exact f1v h
theorem c7z(hu:Lip u)(t:Nat):∀(k:Int) (d:Nat),d<=t->lvI (t-d:Nat) (u (k-d))<=(Hs u t k).1/\lvI (t-d:Nat) (u (k+d))<=(Hs u t k).1:=by
 induction t with
 | zero=>
  intro k d hd;obtain rfl:=Nat.le_zero.mp hd;rw [c5q,c5q,show k-((0:Nat):Int)=k from Int.sub_zero k,show k+((0:Nat):Int)=k from Int.add_zero k];exact⟨Int.le_refl _,Int.le_refl _⟩
 | succ t ih=>
  intro k d hd;rcases Nat.eq_or_lt_of_le hd with q | q
  ·subst q
   have l1:=(ih (k-1) t (Nat.le_refl t)).1;have l2:=(ih (k+1) t (Nat.le_refl t)).2;rw [c5q,k_l]at l1;rw [c5q,k_r]at l2;rw [c5q,c5q];have n:=d3d t k (b4h hu t k);exact⟨Int.le_trans l1 n.1,Int.le_trans l2 n.2⟩
  ·have hd:=Nat.le_of_lt_succ q
   obtain⟨l1,l2⟩:=ih k d hd;obtain⟨a1,_,a3⟩:=d1p (u:=u) t k;rw [f1m hd];have q1:=e6r (Int.natCast_nonneg _) l1;have q2:=e6r (Int.natCast_nonneg _) l2;by_cases c:(Hs u t k).1%3=0
   ·exact⟨Int.le_trans (q1.2 c) a1,Int.le_trans (q2.2 c) a1⟩
   ·rw [a3 (.inl c)];exact⟨q1.1,q2.1⟩
inductive From(u:Int->Int)(t:Nat)(k v:Int):Int->Prop
 | z (o:Int) (h:v%3=0) (d:Nat) (hd:d<=t) (e:lvI (t-d:Nat) (u (k-d))=v∨lvI (t-d:Nat) (u (k+d))=v):From u t k v o
 | l1 (h:v%3=1) (e:u (k-t)=v):From u t k v (k-t)
 | r1 (h:v%3=1) (e:u (k+t)=v) (n:u (k-t)≠v):From u t k v (k+t)
 | c2 (h:v%3=2) (ht:t=0) (e:u k=v):From u t k v k
 | l2 (h:v%3=2) (s:Nat) (ht:t=s+1) (e:u (k-s)=v-1):From u t k v (k-s)
 | r2 (h:v%3=2) (s:Nat) (ht:t=s+1) (e:u (k+s)=v-1) (n:u (k-s)≠v-1):From u t k v (k+s)
section
variable{t:Nat}{k v o:Int}
theorem no3{P:Prop}{a b:Int}(h1:v%3=a)(h2:v%3=b)(h:a≠b):P:=absurd (h1.symm.trans h2) h
theorem f0k(h:v%3=1):(v+1)%3=2:=d6b h
theorem d1s(h:v%3=2):(v+1)%3=0:=d6b h
theorem e8j(h:v%3=2):(v-1)%3=1:=d6b h
theorem d4l{s:Nat}{x:Int}(h:v%3=2)(e:x=v-1):lvI (s+1+1-s:Nat) x=v+1:=by
 rw [show s+1+1-s=2 from Nat.add_sub_cancel_left s 2,e];exact lv_2.trans ((f0v (e8j h)).trans (by rw [show(2:Int)=1+1 from rfl,← Int.add_assoc,Int.sub_add_cancel]))
theorem e2x(h:From u t k v o)(h0:v%3≠0):From u (t+1) k (v+1) o:=by
 induction h using From.casesOn with
 | z o h=>exact absurd h h0
 | l1 h e=>exact .l2 (f0k h) t rfl (e.trans (Int.add_sub_cancel v 1).symm)
 | r1 h e n=>exact .r2 (f0k h) t rfl (e.trans (Int.add_sub_cancel v 1).symm) (by rw [Int.add_sub_cancel];exact n)
 | c2 h ht e=>
  subst ht;refine .z _ (d1s h) 0 (Nat.zero_le _) (.inl ?_);rw [show k-((0:Nat):Int)=k from Int.sub_zero k,e];exact e7h h0
 | l2 h s ht e=>subst ht;exact .z _ (d1s h) s (Nat.le_succ_of_le (Nat.le_succ s)) (.inl (d4l h e))
 | r2 h s ht e n=>subst ht;exact .z _ (d1s h) s (Nat.le_succ_of_le (Nat.le_succ s)) (.inr (d4l h e))
theorem e2r(h0:v%3=0)(h:From u t (k-1) (v+1) o)(far:∀ d:Nat,d+1=t->lvI 1 (u (k+d))<=v):From u (t+1) k (v+1) o:=by
 have h1:=e1j h0;generalize hw:v+1=w at *;induction h using From.casesOn with
 | z o h=>exact no3 h h1 (by decide)
 | l1 h e=>rw [k_l]at e ⊢;exact .l1 h e
 | r1 h e n=>
  induction t using Nat.casesOn with
  | zero=>exact absurd (by rw [← e];exact congrArg u ((Int.sub_zero _).trans (Int.add_zero _).symm)) n
  | succ d=>
   have:=far d rfl;rw [show k+(d:Int)=k-1+((d+1:Nat):Int) by rw [Int.natCast_succ,Int.add_comm (d:Int),← Int.add_assoc,Int.sub_add_cancel],e,← hw]at this;exact absurd this d5f
 | c2 h=>exact no3 h h1 (by decide)
 | l2 h=>exact no3 h h1 (by decide)
 | r2 h=>exact no3 h h1 (by decide)
theorem e5i(h0:v%3=0)(h:From u t (k+1) (v+1) o)(far:∀ d:Nat,d+1=t->lvI 1 (u (k-d))<=v)(nl:u (k-((t+1:Nat):Int))≠v+1):From u (t+1) k (v+1) o:=by
 have h1:=e1j h0;generalize hw:v+1=w at *;induction h using From.casesOn with
 | z o h=>exact no3 h h1 (by decide)
 | l1 h e=>
  induction t using Nat.casesOn with
  | zero=>
   rw [show k+1-((0:Nat):Int)=k+((0+1:Nat):Int)from Int.sub_zero _]at e ⊢;exact .r1 h e nl
  | succ d=>
   have:=far d rfl;rw [show k-(d:Int)=k+1-((d+1:Nat):Int) by rw [Int.natCast_succ,Int.add_sub_add_right],e,← hw]at this;exact absurd this d5f
 | r1 h e n=>rw [k_r]at e ⊢;exact .r1 h e nl
 | c2 h=>exact no3 h h1 (by decide)
 | l2 h=>exact no3 h h1 (by decide)
 | r2 h=>exact no3 h h1 (by decide)
theorem e1w(h0:v%3=0)(h:From u t k v o):From u (t+1) k v o:=by
 induction h using From.casesOn with
 | z o h d hd e=>
  refine .z o h d (Nat.le_succ_of_le hd) ?_;rw [f1m hd];exact e.elim (fun e=>.inl ((d4y (by rw [e];exact h) (Int.natCast_nonneg _)).trans e)) fun e=>.inr ((d4y (by rw [e];exact h) (Int.natCast_nonneg _)).trans e)
 | l1 h=>exact no3 h h0 (by decide)
 | r1 h=>exact no3 h h0 (by decide)
 | c2 h=>exact no3 h h0 (by decide)
 | l2 h=>exact no3 h h0 (by decide)
 | r2 h=>exact no3 h h0 (by decide)
end
theorem c5y(hu:Lip u){t:Nat}{k:Int}{d:Nat}(hd:d+1=t):lvI 1 (u (k-d))<=(Hs u t k).1/\lvI 1 (u (k+d))<=(Hs u t k).1:=by
 subst hd;have:=c7z hu (d+1) k d (Nat.le_succ d);rw [Nat.add_sub_cancel_left]at this;exact this
theorem d9n(hu:Lip u)(t:Nat):∀ k:Int,From u t k (Hs u t k).1 (Hs u t k).2:=by
 induction t with
 | zero=>
  intro k;show From u 0 k (u k) k;have e:u (k-((0:Nat):Int))=u k:=congrArg u (Int.sub_zero k);rcases e7w (u k)with c | c | c
  ·exact .z _ c 0 (Nat.le_refl 0) (.inl ((c5q 0 _).trans e))
  ·have:=From.l1 (u:=u) (t:=0) (k:=k) c e
   rw [show k-((0:Nat):Int)=k from Int.sub_zero k]at this;exact this
  ·exact .c2 c rfl rfl
 | succ t ih=>
  intro k;have n:=b4h hu t k;refine a8b (Hs u t k) (Hs u t (k-1)) (Hs u t (k+1)) (P:=fun p=>From u (t+1) k p.1 p.2) (e2x (ih k)) (fun c l=>?_) (fun c l r=>?_) fun c zz zz=>e1w c (ih k)
  ·have h:=ih (k-1)
   have b:=(b4h hu t (k-1)).2;rw [Int.sub_add_cancel]at b;rw [d4w n.1 b c l]at h;exact e2r c h fun d hd=>(c5y hu hd).2
  ·have h:=ih (k+1)
   have b:=(b4h hu t (k+1)).1;rw [Int.add_sub_cancel]at b;have e:=d4w n.2 b c r;rw [e]at h;refine e5i c h (fun d hd=>(c5y hu hd).1) fun q=>l ?_;have m1:=(c7z hu t (k-1) t (Nat.le_refl _)).1;rw [c5q,k_l,q]at m1;rw [Int.le_antisymm n.1 m1];exact e1j c
noncomputable def upd{β:Type}(s:Int×β)(l:Int)(b:β):Int×β:=if s.1<l then(l,b)else s
noncomputable def a7c{β:Type}(u:Int->Int)(ν:Int->β)(k:Int)(t:Nat)(z:Int×β):Nat->Int×β
 | 0=>z
 | d+1=>upd (upd (a7c u ν k t z d) (lvI (t-d:Nat) (u (k-d))) (ν (k-d))) (lvI (t-d:Nat) (u (k+d))) (ν (k+d))
section
variable{β:Type}{s:Int×β}{l v:Int}{b:β}
theorem c5k(hs:s.1<v)(hl:l<v):(upd s l b).1<v:=by
 unfold upd;by_cases c:s.1<l
 ·rw [if_pos c];exact hl
 ·rw [if_neg c];exact hs
theorem d5c(hs:s.1<=v)(hl:l<=v):(upd s l b).1<=v/\s.1<=(upd s l b).1/\l<=(upd s l b).1:=by
 unfold upd;by_cases c:s.1<l
 ·rw [if_pos c];exact⟨hl,Int.le_of_lt c,Int.le_refl _⟩
 ·rw [if_neg c];exact⟨hs,Int.le_refl _,Int.not_lt.mp c⟩
theorem keep(hs:s.1=v)(hl:l<=v):upd s l b=s:=if_neg (by rw [hs];exact Int.not_lt.mpr hl)
variable{ν:Int->β}{k:Int}{t m:Nat}{z x:Int×β}
theorem b0s:a7c u ν k t z (m+1)=upd (upd (a7c u ν k t z m) (lvI (t-m:Nat) (u (k-m))) (ν (k-m))) (lvI (t-m:Nat) (u (k+m))) (ν (k+m)):=rfl
noncomputable def Seen(u:Int->Int)(k:Int)(t:Nat)(m:Nat)(P:Int->Prop):Prop:=∀ d:Nat,d<m->P (lvI (t-d:Nat) (u (k-d)))/\P (lvI (t-d:Nat) (u (k+d)))
theorem Seen.down{P:Int->Prop}(h:Seen u k t (m+1) P):Seen u k t m P:=fun d hd=>h d (Nat.lt_succ_of_lt hd)
theorem c0i(hz:z.1<v):∀ m:Nat,Seen u k t m (·<v)->(a7c u ν k t z m).1<v:=by
 intro m;induction m with
 | zero=>exact fun zz=>hz
 | succ m ih=>exact fun h=>c5k (c5k (ih h.down) (h m (Nat.lt_succ_self m)).1) (h m (Nat.lt_succ_self m)).2
theorem c7x(hx:a7c u ν k t z m=x)(hv:x.1=v):∀ j:Nat,Seen u k t (m+j) (·<=v)->a7c u ν k t z (m+j)=x:=by
 intro j;induction j with
 | zero=>exact fun zz=>hx
 | succ j ih=>
  intro h;obtain⟨h1,h2⟩:=h (m+j) (Nat.lt_succ_self _);rw [show m+(j+1)=m+j+1 from rfl,b0s,ih h.down,keep hv h1,keep hv h2]
theorem b0u(hz:(a7c u ν k t z m).1<v)(h:lvI (t-m:Nat) (u (k-m))=v)(h2:lvI (t-m:Nat) (u (k+m))<=v):a7c u ν k t z (m+1)=(v,ν (k-m)):=by
 rw [b0s,h,show upd (a7c u ν k t z m) v (ν (k-m))=(v,ν (k-m))from if_pos hz];exact keep rfl h2
theorem b5s(hz:(a7c u ν k t z m).1<v)(h:lvI (t-m:Nat) (u (k-m))<v)(h2:lvI (t-m:Nat) (u (k+m))=v):a7c u ν k t z (m+1)=(v,ν (k+m)):=by
 rw [b0s,h2];exact if_pos (c5k hz h)
theorem d6w(hz:z.1<=v):∀ m:Nat,Seen u k t m (·<=v)->(a7c u ν k t z m).1<=v/\Seen u k t m (·<=(a7c u ν k t z m).1):=by
 intro m;induction m with
 | zero=>exact fun zz=>⟨hz,fun d hd=>absurd hd (Nat.not_lt_zero d)⟩
 | succ m ih=>
  intro h;obtain⟨i1,i2⟩:=ih h.down;obtain⟨h1,h2⟩:=h m (Nat.lt_succ_self m);obtain⟨a1,a2,a3⟩:=d5c (b:=ν (k-m)) i1 h1;obtain⟨b1,b2,b3⟩:=d5c (b:=ν (k+m)) a1 h2;refine⟨b1,fun d hd=>?_⟩;rcases Nat.eq_or_lt_of_le (Nat.le_of_lt_succ hd)with q | q
  ·subst q;exact⟨Int.le_trans a3 b2,b3⟩
  ·exact⟨Int.le_trans (i2 d q).1 (Int.le_trans a2 b2),Int.le_trans (i2 d q).2 (Int.le_trans a2 b2)⟩
theorem a7k{o y:Int}(hm:Seen u k t (t+1) (·<=v))(hmt:m<=t)(ho:o=y)(h:a7c u ν k t z (m+1)=(v,ν y)):(a7c u ν k t z (t+1)).1=v/\(v%3≠0->(a7c u ν k t z (t+1)).2=ν o):=by
 obtain⟨j,rfl⟩:=Nat.le.dest hmt;have:=c7x h rfl j (by rw [Nat.add_right_comm];exact hm);rw [Nat.add_right_comm]at this;rw [this,ho];exact⟨rfl,fun zz=>rfl⟩
theorem e4z(hz:z.1<v)(hm:Seen u k t (t+1) (·<=v))(h:v%3=1):(a7c u ν k t z t).1<v:=
 c0i hz t fun d hd=>have ⟨a,b⟩:=hm d (Nat.lt_succ_of_lt hd);have q:(1:Int)<=(t-d:Nat):=Int.ofNat_le.mpr (Nat.sub_pos_of_lt hd);⟨e3h q h a,e3h q h b⟩
theorem e4e{j:Nat}(hz:z.1<v)(hm:Seen u k (j+1) (j+1+1) (·<=v))(h:v%3=2):(a7c u ν k (j+1) z j).1<v:=
 c0i hz j fun d hd=>have ⟨a,b⟩:=hm d (Nat.lt_succ_of_lt (Nat.lt_succ_of_lt hd));have q:(2:Int)<=(j+1-d:Nat):=Int.ofNat_le.mpr (Nat.le_sub_of_add_le (by rw [Nat.add_comm];exact Nat.succ_le_succ hd));⟨d4u q h a,d4u q h b⟩
theorem e1e{o:Int}(hm:Seen u k t (t+1) (·<=v))(hz:z.1<v)(h:From u t k v o):(a7c u ν k t z (t+1)).1=v/\(v%3≠0->(a7c u ν k t z (t+1)).2=ν o):=by
 have z1:∀ {s:Nat} {h:Int},lvI (s+1-s:Nat) h=lvI 1 h:=fun {s h}=>by rw [Nat.add_sub_cancel_left];rfl
 induction h using From.casesOn with
 | z o h d hd e=>
  refine⟨?_,fun q=>absurd h q⟩;obtain⟨a1,a2⟩:=d6w (ν:=ν) (Int.le_of_lt hz) (t+1) hm;refine Int.le_antisymm a1 (e.elim (fun e=>?_) fun e=>?_)
  ·exact e▸(a2 d (Nat.lt_succ_of_le hd)).1
  ·exact e▸(a2 d (Nat.lt_succ_of_le hd)).2
 | l1 h e=>exact a7k hm (Nat.le_refl t) rfl (b0u (e4z hz hm h) ((c5q t _).trans e) (hm t (Nat.lt_succ_self t)).2)
 | r1 h e n=>
  refine a7k hm (Nat.le_refl t) rfl (b5s (e4z hz hm h) ?_ ((c5q t _).trans e));have:=(hm t (Nat.lt_succ_self t)).1;rw [c5q]at this ⊢;exact d3h this n
 | c2 h ht e=>
  subst ht;refine a7k hm (Nat.le_refl 0) (Int.sub_zero k).symm (b0u (m:=0) hz ?_ (hm 0 (Nat.zero_lt_succ 0)).2);rw [show k-((0:Nat):Int)=k from Int.sub_zero k,e];exact f1v v
 | l2 h s ht e=>
  subst ht;exact a7k hm (Nat.le_succ s) rfl (b0u (e4e hz hm h) (z1.trans ((c6d h).mpr e)) (hm s (Nat.lt_succ_of_lt (Nat.lt_succ_self s))).2)
 | r2 h s ht e n=>
  subst ht;exact a7k hm (Nat.le_succ s) rfl (b5s (e4e hz hm h) (d3h (hm s (Nat.lt_succ_of_lt (Nat.lt_succ_self s))).1 fun q=>n ((c6d h).mp (z1.symm.trans q))) (z1.trans ((c6d h).mpr e)))
theorem d7y(hu:Lip u)(hz:z.1<u k):(a7c u ν k t z (t+1)).1=(Hs u t k).1/\((Hs u t k).1%3≠0->(a7c u ν k t z (t+1)).2=ν (Hs u t k).2):=by
 have hm:Seen u k t (t+1) (·<=(Hs u t k).1):=fun d hd=>c7z hu t k d (Nat.le_of_lt_succ hd);refine e1e hm ?_ (d9n hu t k);have:=(hm 0 (Nat.zero_lt_succ t)).1;rw [show k-((0:Nat):Int)=k from Int.sub_zero k]at this;exact Int.lt_of_lt_of_le hz (Int.le_trans (d2m (Int.natCast_nonneg _)) this)
end
end
end
end Mine
end
section
open PySem PySem.W PySem.Calls PyProof.Rows
set_option maxRecDepth 100000
namespace Mine
section
theorem a7t:1000<=big:=by decide
noncomputable def vS(ws:List (List Nat)):V:=.lst (ws.map .str)
noncomputable def Knows(ρ:Rho)(l:List (Nat×V)):Prop:=∀ i v,l.lookup i=some v->ρ.lookup i=some v
section
variable{μ μ':Mu}{N M:Nat}{ρ:Rho}{Γ:G}{n:Nat}{l:List (Nat×V)}
theorem a5b{i j:Nat}{u v:V}(h:ρ.lookup i=some v)(h2:i≠j):(put j u ρ).lookup i=some v:=by
 rw [a0b,if_neg h2,h]
theorem a0x{j:Nat}{u:V}:(put j u ρ).lookup j=some u:=by
 rw [a0b,if_pos rfl]
theorem a4g{i j:Nat}{v:V}{r:List (Nat×V)}:((i,v)::r).lookup j=if j=i then some v else r.lookup j:=by
 rw [List.lookup_cons];by_cases e:j=i
 ·rw [if_pos e,e,beq_self_eq_true]
 ·rw [if_neg e,beq_false_of_ne e]
theorem Knows.put(k:Knows ρ l)(i:Nat)(v:V):Knows (Mine.put i v ρ) ((i,v)::l):=by
 intro j u h;rw [a4g]at h;rw [a0b];exact ifE h (fun e h=>by rw [if_pos e];exact h) fun e h=>by rw [if_neg e];exact k j u h
theorem Knows.nil:Knows ρ []:=fun zz zz h=>nomatch h
theorem Knows.cons{i:Nat}{v:V}(h:ρ.lookup i=some v)(k:Knows ρ l):Knows ρ ((i,v)::l):=by
 intro j u e;rw [a4g]at e;exact ifE e (fun q e=>by rw [q,h];exact e) fun zz e=>k j u e
theorem Knows.self:Knows l l:=fun zz zz h=>h
theorem a6e{own:List Nat}{i:Nat}(h:own.contains i=false)(ρ:Rho):(ρ.filter fun p=>!own.contains p.1).lookup i=ρ.lookup i:=by
 induction ρ with
 | nil=>rfl
 | cons p r ih=>
  rw [a4g];induction hj:own.contains p.1 using Bool.casesOn with
  | true=>
   rw [List.filter_cons_of_neg (by rw [hj];exact Bool.false_ne_true),ih,if_neg fun e=>by rw [← e,h]at hj;exact nt hj]
  | false=>rw [List.filter_cons_of_pos (by rw [hj];rfl),a4g,ih]
theorem Knows.own{own:List Nat}(k:Knows ρ l)(h:l.all (fun p=>!own.contains p.1)=true):Knows (ρ.filter fun p=>!own.contains p.1) l:=by
 intro i v e;rw [a6e ?_]
 ·exact k i v e
 ·obtain⟨p,hp,rfl⟩:∃ p∈l,p.1=i:=by
   clear k h;induction l with
   | nil=>exact ns e
   | cons p r ih=>
    rw [a4g]at e;exact ifE e (fun q zz=>⟨p,List.mem_cons_self,q.symm⟩) fun zz e=>let⟨q,h1,h2⟩:=ih e;⟨q,List.mem_cons_of_mem _ h1,h2⟩
  exact c3k (List.all_eq_true.mp h p hp)
theorem c1b{i k:Nat}{l:List V}{v:V}{x:X}(hf:∀ u μ,Γ.find 10 u μ=e0g 10 u μ)(hm:∀ n u args μ,Γ.meth n 10 u args μ=e0u n 10 u args μ)(h1:ρ.lookup i=some (.mut k))(hv:ev Γ (M+1) x ρ μ=some (v,μ))(hk:μ[k]?=some (.list l))(hz:l.length<=big) :
  ev Γ (M+2) (.meth 10 (.loc i) [x]) ρ μ=some (.none,μ.set k (.list (l++[v]))):=by
 refine(a4w (evl h1) ((hf _ _).trans (own_list hk)) (a8i hv)).trans ((hm _ _ _ _).trans ?_);show(match (generalizing:=false) μ[k]? with | some (.list l)=>if l.length<=big then some (V.none,μ.set k (.list (l++[v])))else .none | _=>.none)=_
 rw [hk];exact if_pos hz
theorem b8o{l:List X}{vs:List V}(h:evs (fun x μ=>ev Γ n x ρ μ) l μ=some (vs,μ'))(hz:vs.length<=big):ev Γ (n+1) (.mlst l) ρ μ=some (.mut μ'.length,μ'++[.list vs]):=by
 rw [c3m,h];exact if_pos hz
theorem b6f{x:X}{l:List V}(hc:∀(n:Nat) (args:List V) (μ:Mu),Γ.call n 0 args μ=e4h args μ)(h:ev Γ n x ρ μ=some (.lst l,μ))(hz:l.length<=big):ev Γ (n+1) (.call 0 [x]) ρ μ=some (.int l.length,μ):=
 (a0j (a2i h)).trans ((hc _ _ _).trans (if_pos hz))
end
inductive f0u(Γ:G)(n i:Nat)(e:X)(v:V)(ρ:Rho)(μ μ':Mu)(l:List (Nat×V)):Prop
 | mk (ρ':Rho) (s:a0e Γ n (.assign i e) ρ μ=some (.next,ρ',μ')) (k:Knows ρ' ((i,v)::l))
theorem a2x{Γ:G}{n i:Nat}{e:X}{v:V}{ρ:Rho}{μ μ':Mu}{l:List (Nat×V)}(h:ev Γ n e ρ μ=some (v,μ'))(k:Knows ρ l):f0u Γ n i e v ρ μ μ' l:=⟨_,a0y h,k.put i v⟩
noncomputable def prv(n k:Nat):Nat:=if k=0 then n-1 else k-1
noncomputable def nx(n k:Nat):Nat:=if k+1=n then 0 else k+1
theorem b1c{n k:Nat}(h:k<n):prv n k<n:=by
 unfold prv;by_cases e:k=0
 ·rw [if_pos e];exact Nat.sub_lt (Nat.lt_of_le_of_lt (Nat.zero_le k) h) Nat.one_pos
 ·rw [if_neg e];exact Nat.lt_of_le_of_lt (Nat.sub_le k 1) h
theorem c5n{n k:Nat}(h:k<n):nx n k<n:=by
 unfold nx;by_cases e:k+1=n
 ·rw [if_pos e];exact Nat.lt_of_le_of_lt (Nat.zero_le k) h
 ·rw [if_neg e];exact Nat.lt_of_le_of_ne h e
theorem b1b{n:Nat}(hn:n<9)(k:Nat):n / 2+k<9+k:=Nat.add_lt_add_right (Nat.lt_of_le_of_lt (Nat.div_le_self n 2) hn) k
theorem a5l{m j n:Nat}(h:m+(j+1)=n):m<n:=h▸Nat.lt_add_of_pos_right (Nat.succ_pos j)
theorem b7y{n k:Nat}(h:k<n):seqIndex? ((k:Int)-1) n=some (prv n k):=by
 unfold prv;by_cases e:k=0
 ·subst e;exact a7a (k:=0) h
 ·rw [if_neg e,show(k:Int)-1=((k-1:Nat):Int)from(Int.ofNat_sub (Nat.pos_of_ne_zero e)).symm];exact a0w (Nat.lt_of_le_of_lt (Nat.sub_le k 1) h)
theorem e7q(k m:Nat):(k:Int)+1-((k+1+(m+1):Nat):Int) = -((m:Int)+1):=by
 rw [Int.natCast_add,Int.natCast_succ,← Int.sub_sub,Int.sub_self,Int.zero_sub,Int.natCast_succ]
theorem d5h{n k:Nat}(h:k<n):seqIndex? ((k:Int)+1-n) n=some (nx n k):=by
 unfold nx;by_cases e:k+1=n
 ·rw [if_pos e,← e,Int.natCast_succ,Int.sub_self];exact a0w (k:=0) (Nat.succ_pos k)
 ·rw [if_neg e]
  obtain⟨m,rfl⟩:∃ m,n=k+1+(m+1):=have ⟨m,hm⟩:=Nat.le.dest (Nat.lt_of_le_of_ne h e);⟨m,hm.symm.trans (Nat.add_right_comm (k+1) 1 m)⟩;rw [e7q,a7a (Nat.le_add_left _ _),Nat.add_sub_cancel]
noncomputable def tab(n:Nat)(f:Nat->V):List V:=(List.range n).map f
theorem a0v(n:Nat)(f:Nat->V):(tab n f).length=n:=(List.length_map ..).trans List.length_range
theorem a0k{n j:Nat}{i:Int}{f:Nat->V}(h:seqIndex? i n=some j)(hj:j<n)(hn:n<1000):item (.lst (tab n f)) (.int i)=some (f j):=by
 have hz:(tab n f).length<=big:=by rw [a0v];exact Nat.le_trans (Nat.le_of_lt hn) a7t
 refine(if_pos hz).trans ?_;rw [a0v,h];show(tab n f)[j]?=_;unfold tab;rw [List.getElem?_map,List.getElem?_range hj];rfl
theorem a6f{Γ:G}{n m:Nat}{ρ:Rho}{μ:Mu}{x:X}(h:ev Γ n x ρ μ=some (.int (m:Int),μ))(hm:m<1000):a1s (fun x μ=>ev Γ n x ρ μ) (.range [x]) μ=some (tab m fun i=>.int i,μ):=by
 rw [f1x,a2i h];show(a4j [.int (m:Int)]).map _=_;rw [d7e hm];rfl
theorem a4c{Γ:G}{n m i:Nat}{ρ:Rho}{μ:Mu}{x elt:X}{own:List Nat}{g:Nat->V}(h:ev Γ n x ρ μ=some (.int (m:Int),μ))(hm:m<1000)(H:∀ k<m,ev Γ n elt (put i (.int k) (ρ.filter fun p=>!own.contains p.1)) μ=some (g k,μ)):ev Γ (n+1) (.comp elt (.one i) (.range [x]) [] own) ρ μ=some (.lst (tab m g),μ):=
 a2w (a6f h hm) (by rw [a0v];exact Nat.le_trans (Nat.le_of_lt hm) a7t) (a5t (h:=fun(i:Nat)=>V.int i) (g:=g) (List.range m) _ fun k hk=>H k (List.mem_range.mp hk))
theorem b4g{Γ:G}{n m i j:Nat}{ρ:Rho}{μ:Mu}{elt:X}{own:List Nat}{f g:Nat->V}(h:ρ.lookup j=some (.lst (tab m f)))(hm:m<1000)(H:∀ k<m,ev Γ (n+1) elt (put i (f k) (ρ.filter fun p=>!own.contains p.1)) μ=some (g k,μ)):ev Γ (n+2) (.comp elt (.one i) (.loc j) [] own) ρ μ=some (.lst (tab m g),μ):=
 a2w (vs:=tab m f) (by rw [e6x,evl h];rfl) (by rw [a0v];exact Nat.le_trans (Nat.le_of_lt hm) a7t) (a5t (h:=f) (g:=g) (List.range m) _ fun k hk=>H k (List.mem_range.mp hk))
end
section
section
variable{μ:Mu}{N n:Nat}
theorem e1u(a:Int):a0p .Mod (.int a) (.int 3)=some (.int (a.fmod 3)):=rfl
theorem c2a{x:Nat->UInt64}{e:Nat->Nat}(hn:n<1000)(H:∀ k<n,∃ K:Nat,Float64.isFinite (a3c (x k) (x (prv n k)))=true/\(Flt.toInt Float64.truncOf (a3c (x k) (x (prv n k)))).fdiv 2=(K:Int)/\(K+1)%3=e k)(ok:a3y μ=true) :
  cF g0 b3p b3i (N+40) [.lst (tab n fun k=>.flt (x k))] μ=some (.int ((List.range n).map fun k=>(e k:Int)-1).sum,μ):=by
 obtain⟨K,hK⟩:∃ K:Nat->Nat,∀ k<n,Float64.isFinite (a3c (x k) (x (prv n k)))=true/\(Flt.toInt Float64.truncOf (a3c (x k) (x (prv n k)))).fdiv 2=(K k:Int)/\(K k+1)%3=e k:=
  ⟨fun k=>if h:k<n then(H k h).choose else 0,fun k h=>by dsimp only;rw [dif_pos h];exact(H k h).choose_spec⟩
 have hz:(tab n fun k=>.flt (x k)).length<=big:=by rw [a0v];exact Nat.le_trans (Nat.le_of_lt hn) a7t
 refine a0i (n:=N+39) (v:=.int ((List.range n).map fun k=>(e k:Int)-1).sum) (ρ':=[(159,.lst (tab n fun k=>.flt (x k))),(160,.lst (tab n fun k=>.int (K k)))]) rfl ok ?_ rfl;refine a3b (v:=.lst (tab n fun k=>.int (K k))) ?_ (a6k ?_)
 ·have l1:=b6f (Γ:=g0) (n:=N+36) (x:=.loc 159) (ρ:=[(159,.lst (tab n fun k=>.flt (x k)))]) (μ:=μ) (fun zz zz zz=>rfl) (evl rfl) hz
  rw [a0v]at l1;refine a4c l1 hn fun k hk=>?_;obtain⟨h1,h2,_⟩:=hK k hk;refine c9v (n:=N+32) (fun zz zz zz=>rfl) (a1a (evl rfl) (evl rfl) (a0k (a0w hk) hk hn)) (a1a (evl rfl) (evb (evl rfl) evc rfl) (a0k (b7y hk) (b1c hk) hn)) h1 h2 fun zz=>evc
 ·refine(a0j (vs:=[.lst (tab n fun k=>.int ((e k:Int)-1))]) (a2i (b4g (f:=fun k=>.int (K k)) rfl hn fun k hk=>?_))).trans ?_
  ·refine evb (evb (evb (evl a0x) evc rfl) evc (a5c (K k+1) (b:=3) (by decide))) evc ?_
   rw [(hK k hk).2.2];rfl
  ·show(a8w (tab n fun k=>.int ((e k:Int)-1))).map _=_
   rw [show(tab n fun k=>.int ((e k:Int)-1))=((List.range n).map fun k=>(e k:Int)-1).map .int from(List.map_map ..).symm,b2n];rfl
end
end
section
noncomputable def uU(n:Nat)(hs:Nat->Int)(lap k:Int):Int:=hs (k.fmod n).toNat+k.fdiv n * lap
noncomputable def nU(n:Nat)(ns:Nat->List Nat)(k:Int):List Nat:=ns (k.fmod n).toNat
noncomputable def dE(n:Nat)(ns:Nat->List Nat)(kh:Nat)(lap:Int)(p t:Nat)(z:Int×List Nat):List (Nat×V):=
 [(171,.lst (tab n fun k=>.str (ns k))),(172,.mut kh),(173,.int lap),(174,.int (p:Int)),(175,.int (t:Int)),(176,.int z.1),(177,.str z.2)]
section
variable{μ:Mu}{N n kh p t:Nat}{ns:Nat->List Nat}{hs:Nat->Int}{lap:Int}{z:Int×List Nat}{ρ:Rho}
theorem a6w{a b:Int}(h:small a=true):a0p .Mult (.int a) (.int b)=some (.int (a * b)):=by rw [b2o,h];rfl
theorem Knows.to{l m:List (Nat×V)}(k:Knows ρ l)(h:∀ i v,m.lookup i=some v->l.lookup i=some v):Knows ρ m:=fun i v e=>k i v (h i v e)
theorem e0h{l:List (Nat×V)}(k:Knows ρ l)(h1:l.lookup 171=some (.lst (tab n fun k=>.str (ns k))))(h2:l.lookup 172=some (.mut kh))(h3:l.lookup 173=some (.int lap))(h4:l.lookup 174=some (.int (p:Int)))(h5:l.lookup 175=some (.int (t:Int)))(h6:l.lookup 176=some (.int z.1))(h7:l.lookup 177=some (.str z.2)):Knows ρ (dE n ns kh lap p t z):=
 Knows.cons (k _ _ h1) (Knows.cons (k _ _ h2) (Knows.cons (k _ _ h3) (Knows.cons (k _ _ h4) (Knows.cons (k _ _ h5) (Knows.cons (k _ _ h6) (Knows.cons (k _ _ h7) Knows.nil))))))
theorem f1i{d:Nat}{l:List (Nat×V)}(k:Knows ρ l)(h1:l.lookup 171=some (.lst (tab n fun k=>.str (ns k))))(h2:l.lookup 172=some (.mut kh))(h3:l.lookup 173=some (.int lap))(h4:l.lookup 174=some (.int (p:Int)))(h5:l.lookup 175=some (.int (t:Int)))(h6:l.lookup 176=some (.int z.1))(h7:l.lookup 177=some (.str z.2))(h8:l.lookup 178=some (.int (d:Int))):Knows ρ ((178,.int (d:Int))::dE n ns kh lap p t z):=
 Knows.cons (k _ _ h8) (e0h k h1 h2 h3 h4 h5 h6 h7)
theorem d9t(z:Int):a0p .FloorDiv (.int z) (.int 3)=some (.int (z.fdiv 3)):=rfl
theorem b8r{d:Nat}{k:Int}(hn:0<n)(h8:n<9)(hd:d<=t)(hk:μ[kh]?=some (.list (tab n fun k=>.int (hs k))))(s1:small (k.fdiv n)=true)(s2:small ((uU n hs lap k+2).fdiv 3)=true)(K:Knows ρ ((111,.int k)::(178,.int (d:Int))::dE n ns kh lap p t z)) :
  ∃ ρ',exec g0 (N+20) e2w ρ μ=some (.next,ρ',μ)/\Knows ρ' ((178,.int (d:Int))::dE n ns kh lap p t (upd z (lvI (t-d:Nat) (uU n hs lap k)) (nU n ns k))):=by
 have h9:n<1000:=Nat.lt_trans h8 (by decide);have hn0:n≠0:=Nat.ne_of_gt hn;have hz:(tab n fun k=>.str (ns k)).length<=big:=by rw [a0v];exact Nat.le_trans (Nat.le_of_lt h9) a7t
 have hlt:(k.fmod n).toNat<n:=(Int.toNat_lt (Int.fmod_nonneg_of_pos k (Int.natCast_pos.mpr hn))).mpr (Int.fmod_lt_of_pos k (Int.natCast_pos.mpr hn));have hm:seqIndex? (k.fmod n) n=some (k.fmod n).toNat:=by
  have:=a0w hlt;rw [Int.toNat_of_nonneg (Int.fmod_nonneg_of_pos k (Int.natCast_pos.mpr hn))]at this;exact this
 have len:∀ {M:Nat} {ρ:Rho},ρ.lookup 171=some (.lst (tab n fun k=>.str (ns k)))->ev g0 (M+2) (.call 0 [.loc 171]) ρ μ=some (.int (n:Int),μ):=fun {M} {ρ} h=>by
  have:=b6f (Γ:=g0) (n:=M+1) (x:=.loc 171) (ρ:=ρ) (μ:=μ) (fun zz zz zz=>rfl) (evl h) hz;rw [a0v]at this;exact this
 have kM:∀ {M:Nat} {ρ:Rho},ρ.lookup 171=some (.lst (tab n fun k=>.str (ns k)))->ρ.lookup 111=some (.int k)->ev g0 (M+3) e7c ρ μ=some (.int (k.fmod n),μ):=fun h1 h2=>
  evb (evl h2) (len h1) (by rw [e4p,e4p,b0p,b9z hn0];rfl)
 have e1:ev g0 (N+19) e4q ρ μ=some (.int (uU n hs lap k),μ):=by
  refine evb (a1a (u:=.mut kh) (evl (K 172 _ rfl)) (kM (K 171 _ rfl) (K 111 _ rfl)) (w:=.int (hs (k.fmod n).toNat)) ?_) (evb (evb (evl (K 111 _ rfl)) (len (K 171 _ rfl)) (w:=.int (k.fdiv n)) ?_) (evl (K 173 _ rfl)) (a6w s1)) rfl
  ·rw [a5p hk]
   exact a0k hm hlt h9
  ·rw [e4p,e4p,a6u,b9z hn0,a5d (Nat.lt_trans h8 (by decide))];rfl
 have K1:=K.put 179 (.int (uU n hs lap k));have e2:ev g0 (N+19) d5y (put 179 (.int (uU n hs lap k)) ρ) μ=some (.int (lvI (t-d:Nat) (uU n hs lap k)),μ):=by
  refine(a0j (vs:=[.int (uU n hs lap k+t-d),.int ((uU n hs lap k+2).fdiv 3 * 3)]) (evn (evb (evb (evl (K1 179 _ rfl)) (evl (K1 175 _ rfl)) rfl) (evl (K1 178 _ rfl)) rfl) (a2i (evb (evb (evb (evl (K1 179 _ rfl)) evc rfl) evc (d9t _)) evc (a6w s2))))).trans ?_;show some (V.int (if _<_ then _ else _),μ)=_;unfold lvI b1f;rw [Int.fdiv_eq_ediv_of_nonneg _ (by decide),show uU n hs lap k+t-d=uU n hs lap k+((t-d:Nat):Int) by rw [Int.ofNat_sub hd,Int.add_sub_assoc]]
 generalize lvI (t-d:Nat) (uU n hs lap k)=L at *;have K2:=K1.put 98 (.int L);have e3:ev g0 (N+19) (.cmp .Gt (.loc 98) (.loc 176)) (put 98 (.int L) (put 179 (.int (uU n hs lap k)) ρ)) μ=some (.bool (decide (L>z.1)),μ):=a0h (evl (K2 98 _ rfl)) (evl (K2 176 _ rfl)) rfl;unfold upd;by_cases c:z.1<L
 ·rw [if_pos c]
  rw [show decide (L>z.1)=true from decide_eq_true c]at e3;have e4:ev g0 (N+18) (.tup [.loc 98,.sub (.loc 171) e7c]) (put 98 (.int L) (put 179 (.int (uU n hs lap k)) ρ)) μ=some (.tup [.int L,.str (nU n ns k)],μ):=
   a4y (evn (evl (K2 98 _ rfl)) (a2i (a1a (evl (K2 171 _ rfl)) (kM (K2 171 _ rfl) (K2 111 _ rfl)) (a0k hm hlt h9)))) (show 2<=big by decide)
  exact⟨_,(a0a (f:=a0e g0 (N+19)) (a0y e1)).trans ((a0a (a0y e2)).trans ((a0a ((a0m e3 rfl).trans ((a0a (a1m e4)).trans rfl))).trans rfl)),f1i ((K2.put 176 (.int L)).put 177 (.str (nU n ns k))) rfl rfl rfl rfl rfl rfl rfl rfl⟩
 ·rw [if_neg c]
  rw [show decide (L>z.1)=false from decide_eq_false c]at e3;exact⟨_,(a0a (f:=a0e g0 (N+19)) (a0y e1)).trans ((a0a (a0y e2)).trans ((a0a ((a0m e3 rfl).trans rfl)).trans rfl)),f1i K2 rfl rfl rfl rfl rfl rfl rfl rfl⟩
theorem d7b{d:Nat}(hn:0<n)(h8:n<9)(hd:d<=t)(hk:μ[kh]?=some (.list (tab n fun k=>.int (hs k))))(s1:∀ j:Int,j=p-d∨j=p+d->small (j.fdiv n)=true/\small ((uU n hs lap j+2).fdiv 3)=true)(K:Knows ρ ((178,.int (d:Int))::dE n ns kh lap p t z)) :
  ∃ ρ',exec g0 (N+25) d6z ρ μ=some (.next,ρ',μ)/\Knows ρ' (dE n ns kh lap p t (upd (upd z (lvI (t-d:Nat) (uU n hs lap (p-d))) (nU n ns (p-d))) (lvI (t-d:Nat) (uU n hs lap (p+d))) (nU n ns (p+d)))):=by
 obtain⟨ρ1,a1,a2⟩:=b8r (N:=N+4) hn h8 hd hk (s1 _ (.inl rfl)).1 (s1 _ (.inl rfl)).2 (K.put 111 (.int ((p:Int)-d)));obtain⟨ρ2,b1,b2⟩:=b8r (N:=N+4) hn h8 hd hk (s1 _ (.inr rfl)).1 (s1 _ (.inr rfl)).2 (a2.put 111 (.int ((p:Int)+d)));refine⟨ρ2,(a0a (f:=a0e g0 (N+24)) ((a6g (vs:=[.int ((p:Int)-d),.int ((p:Int)+d)]) (c7n (a4y (evn (evb (evl (K 174 _ rfl)) (evl (K 178 _ rfl)) rfl) (a2i (evb (evl (K 174 _ rfl)) (evl (K 178 _ rfl)) rfl))) (show 2<=big by decide)))).trans ((a2a rfl a1).trans ((a2a rfl b1).trans rfl)))).trans rfl,e0h b2 rfl rfl rfl rfl rfl rfl rfl⟩
theorem d0x{w0:Int×List Nat}(hn:0<n)(h8:n<9)(hk:μ[kh]?=some (.list (tab n fun k=>.int (hs k))))(s1:∀ d:Nat,d<=t->∀ j:Int,j=p-d∨j=p+d->small (j.fdiv n)=true/\small ((uU n hs lap j+2).fdiv 3)=true) :
  ∀(j m:Nat) (ρ:Rho),m+j=t+1->Knows ρ (dE n ns kh lap p t (a7c (uU n hs lap) (nU n ns) p t w0 m))->∃ ρ',a6x (fun ρ μ=>exec g0 (N+25) d6z ρ μ) (.one 178) ((List.range' m j).map fun(i:Nat)=>V.int i) ρ μ=some (.next,ρ',μ)/\Knows ρ' (dE n ns kh lap p t (a7c (uU n hs lap) (nU n ns) p t w0 (t+1))):=by
 intro j;induction j with
 | zero=>intro m ρ h K;exact⟨ρ,rfl,h▸K⟩
 | succ j ih=>
  intro m ρ h K;obtain⟨ρ1,a1,a2⟩:=d7b (N:=N) hn h8 (Nat.le_of_lt_succ (a5l h)) hk (s1 m (Nat.le_of_lt_succ (a5l h))) (K.put 178 (.int (m:Int)));obtain⟨ρ2,b1,b2⟩:=ih (m+1) ρ1 (by rw [Nat.add_right_comm];exact h) a2;exact⟨ρ2,(a2a rfl a1).trans b1,b2⟩
noncomputable def e1h(z:Int×List Nat):List Nat:=if z.1%3=0 then []else if z.1%3=1 then z.2 else z.2++[63]
theorem d1z{p:Nat}(hp:p<n)(h8:n<9)(ht:t<100)(hk:μ[kh]?=some (.list (tab n fun k=>.int (hs k))))(s1:∀ d:Nat,d<=t->∀ j:Int,j=p-d∨j=p+d->small (j.fdiv n)=true/\small ((uU n hs lap j+2).fdiv 3)=true)(hw:∀ k,(ns k).length<=3)(ok:a3y μ=true) :
  cF g0 P2_due c8s (N+40) [.lst (tab n fun k=>.str (ns k)),.mut kh,.int lap,.int (p:Int),.int (t:Int)] μ=some (.str (e1h (a7c (uU n hs lap) (nU n ns) p t (hs p-1,[]) (t+1))),μ):=by
 have hn:=Nat.lt_of_le_of_lt (Nat.zero_le p) hp;have h9:n<1000:=Nat.lt_trans h8 (by decide);obtain⟨ρ0,hρ⟩:∃ ρ0:Rho,ρ0=P2_due.zip [V.lst (tab n fun k=>.str (ns k)),.mut kh,.int lap,.int (p:Int),.int (t:Int)]:=⟨_,rfl⟩;have K:Knows ρ0 [(171,.lst (tab n fun k=>.str (ns k))),(172,.mut kh),(173,.int lap),(174,.int (p:Int)),(175,.int (t:Int))]:=hρ▸Knows.self;have e1:ev g0 (N+38) (.tup [(.bin .Sub (.sub (.loc 172) (.loc 174)) i1),(.cst (.str []))]) ρ0 μ=some (.tup [.int (hs p-1),.str []],μ):=by
  refine a4y (evn (evb (a1a (u:=.mut kh) (evl (K 172 _ rfl)) (evl (K 174 _ rfl)) (w:=.int (hs p)) ?_) evc rfl) (a2i evc)) (show 2<=big by decide);rw [a5p hk];exact a0k (a0w hp) hp h9
 have K2:=(K.put 176 (.int (hs p-1))).put 177 (.str []);obtain⟨ρ',b1,b2⟩:=d0x (N:=N+13) (ns:=ns) (lap:=lap) (p:=p) (w0:=(hs p-1,[])) hn h8 hk s1 (t+1) 0 _ (Nat.zero_add _) (e0h K2 rfl rfl rfl rfl rfl rfl rfl);rw [← List.range_eq_range']at b1;have hw2:(a7c (uU n hs lap) (nU n ns) p t (hs p-1,[]) (t+1)).2.length<=3:=by
  have:∀ m,(a7c (uU n hs lap) (nU n ns) p t (hs p-1,[]) m).2.length<=3:=fun m=>by
   induction m with
   | zero=>exact Nat.zero_le _
   | succ m ih=>
    have one:∀(s:Int×List Nat) (l k:Int),s.2.length<=3->(upd s l (nU n ns k)).2.length<=3:=fun s l k h=>by
     unfold upd;by_cases c:s.1<l
     ·rw [if_pos c];exact hw _
     ·rw [if_neg c];exact h
    exact one _ _ _ (one _ _ _ ih)
  exact this _
 generalize a7c (uU n hs lap) (nU n ns) p t (hs p-1,[]) (t+1)=z at *;refine a0i (n:=N+39) (v:=.str (e1h z)) (ρ':=ρ') rfl ok ?_ rfl;rw [← hρ];refine(a0a (f:=a0e g0 (N+38)) (a1m e1)).trans ((a0a ((a6g (a6f (m:=t+1) (evb (evl (K2 175 _ rfl)) evc rfl) (Nat.lt_trans (Nat.succ_lt_succ ht) (by decide)))).trans b1)).trans (a6k ?_));have e2:ev g0 (N+37) (.bin .Mod (.loc 176) (.cst (.int 3))) ρ' μ=some (.int (z.1.fmod 3),μ):=evb (evl (b2 176 _ rfl)) evc rfl;refine a1a (u:=.lst [.str [],.str z.2,.str (z.2++[63])]) (a9u (evn evc (evn (evl (b2 177 _ rfl)) (a2i (evb (evl (b2 177 _ rfl)) evc (d4p (Nat.le_trans (Nat.add_le_add_right hw2 _) (by decide))))))) (show 3<=big by decide)) e2 ?_;rw [Int.fmod_eq_emod_of_nonneg _ (by decide)];unfold e1h;rcases e7w z.1 with c | c | c
 ·rw [c];rfl
 ·rw [c];rfl
 ·rw [c];rfl
end
end
section
open Float64 (add sub mul div divmod cmp isZero)
theorem encBool:Enc (fun zz:Bool=>True) 0 V.bool PyData.bool where
  to:=fun a=>rfl
  lay:=fun a zz=>rfl
  dep:=fun a=>by simp [PyData.depth]
  eq:=fun a b=>by cases a<;>cases b<;>rfl
noncomputable def b4p{α:Type}(c l r:Nat×α):Nat×α:=if c.1=0 then(if l.1=1 then l else if r.1=1 then r else c)else if c.1=1 then(2,c.2)else(0,c.2)
noncomputable def a3a{α:Type}(n:Nat)(c0:Nat → Nat×α):Nat → Nat → Nat×α
  | 0,k=>c0 k
  | t+1,k=>b4p (a3a n c0 t k) (a3a n c0 t (prv n k)) (a3a n c0 t (nx n k))
noncomputable def a1j(c:Nat×List Nat):List Nat:=c2m c.1 c.2
noncomputable def e1p(w:List Nat):Int:=(toks.lookup w).getD 0
structure Cel(c:Nat×List Nat):Prop where
  lt:c.1<3
  sg:Sg c.2 (e1p c.2)
theorem Cel.nxt{c l r:Nat×List Nat}(hc:Cel c)(hl:Cel l)(hr:Cel r):Cel (b4p c l r):=by
  unfold b4p;by_cases h:c.1=0
  · rw [if_pos h]
    by_cases h1:l.1=1
    · rw [if_pos h1];exact hl
    · rw [if_neg h1]
      by_cases h2:r.1=1
      · rw [if_pos h2];exact hr
      · rw [if_neg h2];exact hc
  · rw [if_neg h]
    by_cases h1:c.1=1
    · rw [if_pos h1];exact⟨show 2<3 by decide,hc.sg⟩
    · rw [if_neg h1];exact⟨show 0<3 by decide,hc.sg⟩
theorem c0e{n:Nat}{c0:Nat → Nat×List Nat}(h:∀ k,k<n → Cel (c0 k)):∀ t k,k<n → Cel (a3a n c0 t k):=by
  intro t;induction t with
  | zero=>exact h
  | succ t ih=>exact fun k hk=>(ih k hk).nxt (ih _ (b1c hk)) (ih _ (c5n hk))
noncomputable def c5j(c:Nat×List Nat):Nat:=(d9h c.1 (e1p c.2)).toNat
theorem Cel.sym{c:Nat×List Nat}(h:Cel c):d9h c.1 (e1p c.2)=(c5j c:Int):=by
  have h1:=h.sg.lo;refine(Int.toNat_of_nonneg ?_).symm;unfold d9h;by_cases h0:c.1=0
  · rw [if_pos h0];decide
  · rw [if_neg h0]
    by_cases h2:c.1=1
    · rw [if_pos h2];omega
    · rw [if_neg h2];omega
theorem b5h{c:Nat×List Nat}(h:Cel c):(a1j c).length ≤ 4:=by
  have:=h.sg.len;unfold a1j c2m;by_cases h0:c.1=0
  · rw [if_pos h0];exact Nat.zero_le _
  · rw [if_neg h0]
    by_cases h2:c.1=1
    · rw [if_pos h2];exact Nat.le_succ_of_le this
    · rw [if_neg h2,List.length_append];exact Nat.add_le_add_right this 1
noncomputable def a9e(n:Nat)(c:Nat → Nat×List Nat):V:=.lst (tab n fun k=>.str (a1j (c k)))
noncomputable def e8a(n:Nat)(c:Nat → Nat×List Nat):V:=.lst (tab n fun k=>.int (c5j (c k):Nat))
noncomputable def d8m(n:Nat)(c:Nat → Nat×List Nat):V:=.lst (tab n fun k=>.int ((c k).1:Nat))
noncomputable def e7g(n:Nat)(T:Nat → C3):V:=.lst (tab n fun k=>.tup [.flt (T k).1,.bool true])
noncomputable def b2b(c l:Nat×List Nat):Nat:=(c.1+4-l.1)%3
section
variable{μ:Mu}{N n b s:Nat}{c:Nat → Nat×List Nat}{ρ:Rho}
theorem d0i{Γ:G}{a y:X}{x:UInt64}{k:Nat}{z:Int}{M:Nat}(hi:∀ n args μ,Γ.call n 5 args μ=d0q args μ)(h:a9f k x=some z)(hk:k<2^60)(ha:ev Γ (M+7) a ρ μ=some (.int (k:Int),μ))(hc:ev Γ (M+7) y ρ μ=some (.flt x,μ)):ev Γ (M+11) (.bin .FloorDiv (.call 5 [(.bin .Add (.bin .Mult a y) i1)]) (.cst (.int 2))) ρ μ=some (.int z,μ):=by
  refine ifS h fun hf h=>?_;obtain rfl:=Option.some.inj h;exact evb ((a0j (vs:=[.flt (b5v k x)]) (a2i (evb (evb ha hc (b7j k x hk)) evc (c3o _)))).trans ((hi _ _ _).trans (e7m _ _ hf))) evc (c4x _)
theorem e1a(hc:∀ k,k<n → Cel (c k))(hn:n<1000)(h:ρ.lookup 90=some (a9e n c))(ok:a3y μ=true):ev gR (N+40) e6n ρ μ=some (e8a n c,μ):=by
  refine b4g h hn fun k hk=>?_;refine(a0j (vs:=[.str (a1j (c k))]) (a2i (evl a0x))).trans ((d0e (N:=N+18) (hc k hk).lt (hc k hk).sg ok).trans ?_);rw [(hc k hk).sym]
theorem e4t(hc:∀ k,k<n → Cel (c k))(hn:n<1000)(h:ρ.lookup 164=some (e8a n c))(ok:a3y μ=true):ev gR (N+40) f1f ρ μ=some (d8m n c,μ):=by
  refine b4g h hn fun k hk=>?_;refine(a0j (vs:=[.int (c5j (c k):Nat)]) (a2i (evl a0x))).trans ?_;rw [← (hc k hk).sym];exact c5r (N:=N+8) (hc k hk).lt (hc k hk).sg ok
noncomputable def b8q(b s:Nat)(c:Nat → Nat×List Nat)(T:Nat → C3)(n:Nat):Prop:=∀ k,k<n → (∃ p q,d4g (mX b (c k).1) p q (T k))∧∃ f,e6t b (c k).1=some f∧c6f f (1+c5j (c k)%4) (1+c5j (c k) / 4%3) (s%2==0)=some (T k)∧d4g (mX b (c k).1) (if(s%2==0)then 1+c5j (c k)%4 else 1+c5j (c k) / 4%3) (if(s%2==0)then 1+c5j (c k) / 4%3 else 1+c5j (c k)%4) (T k)
theorem d2g(hb:b<64)(hc:∀ k,k<n → Cel (c k))(s:Nat):∃ T,b8q b s c T n:=by
  have:=fun k (hk:k<n)=>d1n (p:=c5j (c k)) hb (hc k hk).lt (s%2==0);refine⟨fun k=>if h:k<n then(this k h).choose_spec.choose else⟨0,0,0⟩,fun k hk=>?_⟩;dsimp only;rw [dif_pos hk];have:=(this k hk).choose_spec.choose_spec;exact⟨⟨_,_,this.2.2⟩,_,this⟩
theorem d8d{T:Nat → C3}(hT:b8q b s c T n)(hn:n<1000)(K:Knows ρ [(124,.int (n:Int)),(123,.int (b:Int)),(157,.int (s:Int)),(164,e8a n c),(165,d8m n c)])(ok:a3y μ=true) :
    ev gR (N+70) e6f ρ μ=some (e7g n T,μ):=by
  have K1:=K.own (own:=[42,111]) rfl;refine a4c (evl (K 124 _ rfl)) hn fun k hk=>?_;have K2:=K1.put 111 (.int (k:Int));obtain⟨_,f,h1,h2,h3⟩:=hT k hk;refine a0g h1 fun x q1 h1=>a1n h1 fun y q2 h1=>?_;subst h1;refine(a0j (vs:=[.int (c5j (c k):Nat),.flt (add x y),.int (s:Int)]) (evn (a1a (evl (K2 164 _ rfl)) (evl a0x) (a0k (a0w hk) hk hn)) (evn (evb (evb (evl (K2 123 _ rfl)) evc (b_q (b:=32) (by decide) q1)) (evb (a1a (evl (K2 165 _ rfl)) (evl a0x) (a0k (a0w hk) hk hn)) evc (b_q (b:=3) (by decide) q2)) rfl) (a2i (evl (K2 157 _ rfl)))))).trans ?_;exact c5v (N:=N+8) h2 h3 ok
theorem c4j{T:Nat → C3}(hn:n<1000)(h:ρ.lookup 100=some (e7g n T))(i:Nat)(g:Nat → V)(hg:∀ k (ρ:Rho),ev gR (N+1) (.loc i) (put 167 (.bool true) (put 65 (.flt (T k).1) ρ)) μ=some (g k,μ)):ev gR (N+2) (d2y i) ρ μ=some (.lst (tab n g),μ):=
  a2w (vs:=tab n fun k=>.tup [.flt (T k).1,.bool true]) (by rw [e6x,evl h];rfl) (by rw [a0v];exact Nat.le_trans (Nat.le_of_lt hn) a7t) (b0z (h1:=fun k=>V.flt (T k).1) (h2:=fun zz=>V.bool true) (g:=g) (by decide) (List.range n) _ fun k zz=>hg k _)
theorem d2s(n:Nat):a0s .In (.bool false) (.lst (tab n fun zz=>.bool true))=some false:=by
  have:=encBool.cmpIn (by decide) (a:=false) (l:=(List.range n).map fun zz=>true) trivial fun zz zz=>trivial;rw [List.map_map]at this;refine this.trans (congrArg some (decide_eq_false fun h=>?_));obtain⟨_,_,q⟩:=List.mem_map.mp h;exact nt q.symm
theorem c3v(a:Int):a0s .NotEq (.int a) (.int a)=some false:=by
  show(a0s .Eq (.int a) (.int a)).map (!·)=_;rw [c4l,decide_eq_true rfl];rfl
theorem e3z{T:Nat → C3}(hT:b8q b s c T n)(h0:0<n)(hn:n<1000)(K:Knows ρ [(100,e7g n T),(123,.int (b:Int)),(165,d8m n c),(166,.int ((s%n:Nat):Int))]):ev gR (N+20) f2e ρ μ=some (.bool false,μ):=by
  have hk:s%n<n:=Nat.mod_lt _ h0;obtain⟨_,f,h1,h2,h3⟩:=hT _ hk;obtain⟨A,_,_,_,_,⟨z,hz1,hz2⟩,_,_⟩:=h3;refine d4x (p:=false) (q:=false) (a0h evc (c4j (N:=N+16) hn (K 100 _ rfl) 167 (fun zz=>.bool true) fun k ρ=>evl a0x) (d2s n)) ?_;refine a0h (u:=.int ((z%768:Nat):Int)) (evb (d0i (M:=N+6) (k:=1536) (fun zz zz zz=>rfl) hz1 (by decide) evc (a1a (a1a (evl (K 100 _ rfl)) (evl (K 166 _ rfl)) (a0k (a0w hk) hk hn)) evc rfl)) evc (a5c z (b:=768) (by decide))) (v:=.int (((24 * b+256 * (c (s%n)).1)%768:Nat):Int)) ?_ ?_
  · exact evb (u:=.int ((24 * b+256 * (c (s%n)).1:Nat):Int)) (evb (evb evc (evl (K 123 _ rfl)) rfl) (evb evc (a1a (evl (K 165 _ rfl)) (evl (K 166 _ rfl)) (a0k (a0w hk) hk hn)) rfl) rfl) evc (a5c _ (b:=768) (by decide))
  · rw [show z%768=(24 * b+256 * (c (s%n)).1)%768 from hz2]
    exact c3v _
theorem d7r{T:Nat → C3}(hT:b8q b s c T n)(hc:∀ k,k<n → Cel (c k))(hn:n<1000)(h:ρ.lookup 100=some (e7g n T))(ok:a3y μ=true) :
    ev gR (N+50) (.call 158 [d2y 65]) ρ μ=some (.int ((List.range n).map fun k=>(b2b (c k) (c (prv n k)):Int)-1).sum,μ):=by
  refine(a0j (vs:=[.lst (tab n fun k=>.flt (T k).1)]) (a2i (c4j (N:=N+47) hn h 65 (fun k=>.flt (T k).1) fun k ρ=>evl (a5b a0x (by decide))))).trans ?_;refine c2a (N:=N+9) (x:=fun k=>(T k).1) (e:=fun k=>b2b (c k) (c (prv n k))) hn (fun k hk=>?_) ok;obtain⟨⟨p,q,h1⟩,_⟩:=hT k hk;obtain⟨⟨p',q',h2⟩,_⟩:=hT _ (b1c hk);exact d7x (hc k hk).lt (hc _ (b1c hk)).lt h1 h2
end
end
section
section
variable{μ:Mu}{N n k:Nat}{c:Nat->Nat×List Nat}{ρ:Rho}
theorem Knows.rest{l:List (Nat×V)}{i:Nat}{v:V}(K:Knows ρ ((i,v)::l))(h:l.lookup i=.none):Knows ρ l:=by
 intro j u e;refine K j u ?_;rw [a4g,if_neg fun q=>by rw [q,h]at e;exact ns e];exact e
theorem d9v{j m:Nat}:a0s .Eq (.int (j:Int)) (.int (m:Int))=some (decide (j=m)):=(c4l _ _).trans (congrArg some (decide_eq_decide.mpr Int.ofNat_inj))
noncomputable def d1i(n k:Nat)(c:Nat->Nat×List Nat):List (Int×Nat):=[((k:Int)-1,prv n k),((k:Int)+1-n,nx n k)].filter fun p=>decide ((c p.2).1=1)
theorem b7e{i:Nat}{q:Int}{j d:Nat}(hn:n<1000)(h:ρ.lookup 165=some (d8m n c))(hi:ρ.lookup i=some (.int q))(hq:seqIndex? q n=some j)(hj:j<n):ev gR (N+10) (.cmp .Eq (.sub (.loc 165) (.loc i)) (.cst (.int (d:Int)))) ρ μ=some (.bool (decide ((c j).1=d)),μ):=
 a0h (a1a (evl h) (evl hi) (a0k hq hj hn)) evc d9v
theorem d9s(hk:k<n)(hn:n<1000)(K:Knows ρ [(165,d8m n c),(111,.int (k:Int)),(124,.int (n:Int))]):ev gR (N+20) e5s ρ μ=some (.lst (if(c k).1=0 then(d1i n k c).map fun p=>V.int p.1 else []),μ):=by
 have e1:ev gR (N+19) (.cmp .Eq (.sub (.loc 165) (.loc 111)) i0) ρ μ=some (.bool (decide ((c k).1=0)),μ):=b7e (d:=0) (N:=N+9) hn (K 165 _ rfl) (K 111 _ rfl) (a0w hk) hk;refine(a8t e1 rfl).trans ?_;by_cases h0:(c k).1=0
 ·rw [decide_eq_true h0,if_pos h0]
  have K1:=K.own (own:=[42,169]) rfl;refine a2w (vs:=[((k:Int)-1,prv n k),((k:Int)+1-n,nx n k)].map fun p=>V.int p.1) (c7n (a4y (evn (evb (evl (K 111 _ rfl)) evc rfl) (a2i (evb (evb (evl (K 111 _ rfl)) evc rfl) (evl (K 124 _ rfl)) rfl))) (show 2<=big by decide))) (show 2<=big by decide) (a8s (h:=fun p:Int×Nat=>V.int p.1) (g:=fun p:Int×Nat=>V.int p.1) (p:=fun p=>decide ((c p.2).1=1)) [((k:Int)-1,prv n k),((k:Int)+1-n,nx n k)] _ (fun p hp=>?_) fun p zz zz=>evl a0x);have hs:seqIndex? p.1 n=some p.2/\p.2<n:=by
   rcases List.mem_cons.mp hp with rfl | hp
   ·exact⟨b7y hk,b1c hk⟩
   ·rw [List.mem_singleton.mp hp];exact⟨d5h hk,c5n hk⟩
  exact b7e (d:=1) (N:=N+8) hn (a5b (K1 165 _ rfl) (by decide)) a0x hs.1 hs.2
 ·rw [decide_eq_false h0,if_neg h0]
  exact(if_neg Bool.false_ne_true).trans (a9u (vs:=[]) b7l (Nat.zero_le _))
theorem d9y(hc:∀ k,k<n->Cel (c k))(hk:k<n)(hn:n<1000)(K:Knows ρ [(90,a9e n c),(165,d8m n c),(111,.int (k:Int)),(168,.lst (if(c k).1=0 then(d1i n k c).map fun p=>V.int p.1 else []))]) :
  ev gR (N+20) e2f ρ μ=some (.str (a1j (b4p (c k) (c (prv n k)) (c (nx n k)))),μ):=by
 have e1:ev gR (N+19) (.cmp .Eq (.sub (.loc 165) (.loc 111)) i1) ρ μ=some (.bool (decide ((c k).1=1)),μ):=b7e (d:=1) (N:=N+9) hn (K 165 _ rfl) (K 111 _ rfl) (a0w hk) hk;refine(a8t e1 rfl).trans ?_;have K3:=K 168 _ rfl;have row:∀ {x:X} {q:Int} {j M:Nat},ev gR (M+1) x ρ μ=some (.int q,μ)->seqIndex? q n=some j->j<n->ev gR (M+2) (.sub (.loc 90) x) ρ μ=some (.str (a1j (c j)),μ):=fun h h1 h2=>a1a (evl (K 90 _ rfl)) h (a0k h1 h2 hn);unfold b4p;by_cases h1:(c k).1=1
 ·rw [decide_eq_true h1,if_pos rfl,if_neg (by rw [h1];decide),if_pos h1]
  have e2:=row (M:=N+16) (evl (K 111 _ rfl)) (a0w hk) hk;refine evb e2 evc ((d4p (Nat.le_trans (Nat.add_le_add_right (b5h (hc k hk)) 1) (by decide))).trans ?_);unfold a1j;rw [h1];rfl
 ·rw [decide_eq_false h1]
  by_cases h0:(c k).1=0
  ·rw [if_pos h0]at K3 ⊢
   unfold d1i at K3;by_cases hl:(c (prv n k)).1=1
   ·rw [if_pos hl]
    rw [List.filter_cons_of_pos (by exact decide_eq_true hl)]at K3;have two:∀ r,(([((k:Int)+1-n,nx n k)]:List (Int×Nat)).filter fun p=>decide ((c p.2).1=1))=r->r.length<=1->ev gR (N+19) (.ite (.loc 168) (.sub (.loc 90) (.sub (.loc 168) i0)) (.cst (.str []))) ρ μ=some (.str (a1j (c (prv n k))),μ):=fun r hr h1=>by
     rw [hr]at K3;have hz:((((k:Int)-1,prv n k)::r).map fun p=>V.int p.1).length<=big:=by rw [List.length_map,List.length_cons];exact Nat.le_trans (Nat.succ_le_succ h1) (by decide)
     exact(a8t (bv:=true) (evl K3) (if_pos hz)).trans (row (a1a (evl K3) evc (b2x (k:=0) rfl hz)) (b7y hk) (b1c hk))
    exact two _ rfl (List.length_filter_le _ _)
   ·rw [if_neg hl]
    rw [List.filter_cons_of_neg (by exact fun q=>hl (of_decide_eq_true q))]at K3;by_cases hr:(c (nx n k)).1=1
    ·rw [if_pos hr]
     rw [List.filter_cons_of_pos (by exact decide_eq_true hr)]at K3;exact(a8t (bv:=true) (evl K3) rfl).trans (row (a1a (evl K3) evc rfl) (d5h hk) (c5n hk))
    ·rw [if_neg hr]
     rw [List.filter_cons_of_neg (by exact fun q=>hr (of_decide_eq_true q))]at K3;refine(a8t (bv:=false) (evl K3) rfl).trans ?_;unfold a1j;rw [h0];rfl
  ·rw [if_neg h0]at K3 ⊢
   rw [if_neg h1];exact(a8t (bv:=false) (evl K3) rfl).trans rfl
end
end
section
theorem c3a(l:List V)(v:V):a0q (l++[v])=(a0q l&&plain v):=by
 induction l with
 | nil=>exact Bool.and_comm _ _
 | cons a l ih=>
  show(plain a&&a0q (l++[v]))=(plain a&&a0q l&&plain v);rw [ih,Bool.and_assoc]
theorem a4b{n:Nat}{f:Nat->V}(h:∀ k,plain (f k)=true):a0q (tab n f)=true:=by
 unfold tab;generalize List.range n=l;induction l with
 | nil=>rfl
 | cons a l ih=>show(plain (f a)&&a0q (l.map f))=true;rw [h a,ih];rfl
theorem a9i(n:Nat)(f:Nat->V):tab (n+1) f=tab n f++[f n]:=by
 unfold tab;rw [List.range_succ,List.map_append];rfl
noncomputable def AllP(R:List (List V)):Prop:=∀ l∈R,a0q l=true
section
variable{t:List Nat}{ln:Int}{q:List (List Nat)}{R:List (List V)}{l l':List V}{N n j:Nat}{ρ:Rho}{c:Nat->Nat×List Nat}{L:List (Nat×V)}
theorem c6u:(stQ t ln q R)[j+7]?=(R.map M.list)[j]?:=rfl
theorem d2t:(stQ t ln q (R++[l]))[R.length+7]?=some (.list l):=by
 rw [c6u,List.map_append,List.getElem?_append_right (by rw [List.length_map];exact Nat.le_refl _),List.length_map,Nat.sub_self];rfl
theorem e0n{α:Type}(l:List α)(a b:α):(l++[a]).set l.length b=l++[b]:=by
 induction l with
 | nil=>rfl
 | cons x l ih=>exact congrArg (x::·) ih
theorem d2j:(stQ t ln q (R++[l])).set (R.length+7) (.list l')=stQ t ln q (R++[l']):=by
 rw [← b3n,← b3n,← b8i (t:=t) (n:=ln) (q:=q)];exact e0n _ _ _
theorem AllP.app(h:AllP R)(hl:a0q l=true):AllP (R++[l]):=fun m hm=>(List.mem_append.mp hm).elim (h m) fun q=>List.mem_singleton.mp q▸hl
theorem d1h{Γ:G}{n i k:Nat}{ρ:Rho}{μ:Mu}{l:List V}{t:T}{body:List Mine.S}{r:Option (F×Rho×Mu)}(hi:ρ.lookup i=some (.mut k))(hk:μ[k]?=some (.list l))(h:∀ d:∀ μ:Mu,Decidable (μ[k]?=some (.list l)),@a3h (fun ρ μ=>exec Γ (n+1) body ρ μ) t (fun μ=>μ[k]?=some (.list l)) d l ρ μ=r):a0e Γ (n+1) (.for t (.loc i) body) ρ μ=r:=by
 have e:ev Γ (n+1) (.loc i) ρ μ=some (.mut k,μ):=evl hi;rw [c2u,e6x,e];show e2e (ev Γ (n+1)) (fun ρ μ=>exec Γ (n+1) body ρ μ) t (.loc i) ρ μ=r;unfold e2e b6i d1l;dsimp only;rw [e];dsimp only;rw [hk];exact h _
theorem c6m{P:Mu->Prop}(hP:∀ q,P (stQ t ln q R))(hR:AllP R)(hn:1<=ln)(h88:L.lookup 88=some (.mut 6))(h82:L.lookup 82=.none):∀(ws q:List (List Nat)) (ρ:Rho),q.length+ws.length<=100->Knows ρ L →
  ∃ ρ',(∀ d,@a3h (fun ρ μ=>exec gR (N+14) d3n ρ μ) (.one 82) P d (ws.map .str) ρ (stQ t ln q R)=some (.next,ρ',stQ t ln (q++ws) R))/\Knows ρ' L:=by
 intro ws;induction ws with
 | nil=>intro q ρ _ K;exact⟨ρ,fun d=>(c3d (hP q)).trans (by rw [List.append_nil]),K⟩
 | cons w ws ih=>
  intro q ρ hz K;have K1:=K.put 82 (.str w);have K2:=K1.rest h82;obtain⟨ρ',e,K3⟩:=ih (q++[w]) _ (by rw [List.length_append,List.length_singleton,Nat.add_assoc,Nat.add_comm 1];exact hz) K2;rw [List.append_assoc,List.singleton_append]at e;exact⟨ρ',fun d=>(b7m (hP q) d1t (d8y (N:=N) hR hn (Nat.le_trans (Nat.le_trans (Nat.le_add_right _ _) hz) (by decide)) (K2 88 _ h88) a0x)).trans (e d),K3⟩
noncomputable def rE(n b kc:Nat):List (Nat×V):=[(88,.mut 6),(124,.int (n:Int)),(123,.int (b:Int)),(108,.mut 8),(163,.mut 9),(162,.mut kc)]
noncomputable def rK(n b kc:Nat)(c:Nat->Nat×List Nat):List (Nat×V):=(90,a9e n c)::(165,d8m n c)::rE n b kc
noncomputable def d3y(n:Nat)(c:Nat->Nat×List Nat)(k:Nat):V:=.str (a1j (b4p (c k) (c (prv n k)) (c (nx n k))))
theorem d0p{b:Nat}(hc:∀ k,k<n->Cel (c k))(hn:n<9):∀(j m:Nat) (ρ:Rho),m+j=n->Knows ρ (rK n b (R.length+7) c) →
  ∃ ρ',a6x (fun ρ μ=>exec gR (N+30) d7s ρ μ) (.one 111) ((List.range' m j).map fun(i:Nat)=>V.int i) ρ (stQ t ln q (R++[tab m (d3y n c)]))=some (.next,ρ',stQ t ln q (R++[tab n (d3y n c)]))/\Knows ρ' (rK n b (R.length+7) c):=by
 have h9:n<1000:=Nat.lt_trans hn (by decide);intro j;induction j with
 | zero=>intro m ρ h K;obtain rfl:m=n:=h;exact⟨ρ,rfl,K⟩
 | succ j ih=>
  intro m ρ h K;have hm:m<n:=a5l h;have K1:=K.put 111 (.int (m:Int));have e1:=d9s (N:=N+9) (μ:=stQ t ln q (R++[tab m (d3y n c)])) hm h9 (Knows.cons (K1 165 _ rfl) (Knows.cons (K1 111 _ rfl) (Knows.cons (K1 124 _ rfl) Knows.nil)));have K2:=K1.put 168 (.lst (if(c m).1=0 then(d1i n m c).map fun p=>V.int p.1 else []));have e2:=d9y (N:=N+8) (μ:=stQ t ln q (R++[tab m (d3y n c)])) hc hm h9 (Knows.cons (K2 90 _ rfl) (Knows.cons (K2 165 _ rfl) (Knows.cons (K2 111 _ rfl) (Knows.cons (K2 168 _ rfl) Knows.nil))));have e3:=c1b (Γ:=gR) (M:=N+27) (i:=162) (k:=R.length+7) (fun zz zz=>rfl) (fun zz zz zz zz=>rfl) (K2 162 _ rfl) e2 d2t (by rw [a0v];exact Nat.le_trans (Nat.le_of_lt (Nat.lt_trans hm h9)) a7t);rw [d2j,show tab m (d3y n c)++[V.str (a1j (b4p (c m) (c (prv n m)) (c (nx n m))))]=tab (m+1) (d3y n c)from(a9i m _).symm]at e3;obtain⟨ρ',e4,K3⟩:=ih (m+1) _ (by rw [Nat.add_right_comm];exact h) ((K2.rest rfl).rest rfl);exact⟨ρ',(a2a d1t ((a0a (f:=a0e gR (N+29)) (a0y e1)).trans ((a0a (a4h e3)).trans rfl))).trans e4,K3⟩
end
end
section
noncomputable def a0z(n:Nat)(c:Nat->Nat×List Nat):Int:=((List.range n).map fun k=>(b2b (c k) (c (prv n k)):Int)-1).sum
section
variable{t t':List Nat}{ln ln':Int}{N n b s j:Nat}{ρ:Rho}{c:Nat->Nat×List Nat}{A Rw Tn:List V}{C:List (List V)}{com:List (List Nat)}
theorem c7b{Γ:G}{c:X}{a:List Mine.S}{μ:Mu}(h:ev Γ (N+1) c ρ μ=some (.bool false,μ)):a0e Γ (N+1) (.ite c a []) ρ μ=some (.next,ρ,μ):=(a0m h rfl).trans rfl
theorem b8z(hc:∀ k,k<n->Cel (c k))(h0:0<n)(hn:n<9)(hb:b<64)(hR:AllP (A::Rw::Tn::C))(hj:(A::Rw::Tn::C)[j]?=some (com.map .str))(hz:com.length<=100)(hl:1<=ln)(zr:Rw.length<=100)(zt:Tn.length<=100)
  (HT:∀ R:List (List V),AllP R->b2s (stQ t ln com R) ((List.range n).map fun k=>a1j (c k)) (stQ t' ln' [] R)) (K:Knows ρ ((157,.int (s:Int))::rE n b (j+7))) :
  ∃ ρ',exec gR (N+80) d4e ρ (stQ t ln [] (A::Rw::Tn::C))=some (.next,ρ',stQ t' ln' [] (A::(Rw++[a9e n c])::(Tn++[.int (a0z n c)])::(C++[tab n (d3y n c)])))/\Knows ρ' (rE n b (C.length+10)):=by
 have h9:n<1000:=Nat.lt_trans hn (by decide);obtain⟨ρ1,p1,K1⟩:=c6m (N:=N+65) (L:=(157,.int (s:Int))::rE n b (j+7)) (P:=fun μ=>μ[j+7]?=some (.list (com.map .str))) (t:=t) (ln:=ln) (fun q=>by rw [c6u,List.getElem?_map,hj];rfl) hR hl rfl rfl com [] ρ (by rw [List.length_nil,Nat.zero_add];exact hz) K;have e1:a0e gR (N+79) (.for (.one 82) (.loc 162) d3n) ρ (stQ t ln [] (A::Rw::Tn::C))=some (.next,ρ1,stQ t ln com (A::Rw::Tn::C)):=
  d1h (K 162 _ rfl) (by rw [c6u,List.getElem?_map,hj];rfl) p1
 clear p1;have w2:tab n (fun k=>V.str (a1j (c k)))=((List.range n).map fun k=>a1j (c k)).map .str:=(List.map_map ..).symm;have e2:ev gR (N+79) f1d ρ1 (stQ t ln com (A::Rw::Tn::C))=some (a9e n c,stQ t' ln' [] (A::Rw::Tn::C)):=by
  unfold a9e;rw [w2];exact a2w (a6f (evl (K1 124 _ rfl)) h9) (by rw [a0v];exact Nat.le_trans (Nat.le_of_lt h9) a7t) (e5k (N:=N+47) (HT _ hR) _ _ (by rw [a0v,List.length_map,List.length_range]) ((a6e (own:=[42,126]) rfl ρ1).trans (K1 88 _ rfl)))
 have ok:a3y (stQ t' ln' [] (A::Rw::Tn::C))=true:=a4k hR;obtain⟨ρ2,s2,K2⟩:=a2x (i:=90) e2 K1;have e3:=e1a (N:=N+39) hc h9 (K2 90 _ rfl) ok;obtain⟨ρ3,s3,K3⟩:=a2x (i:=164) e3 K2;have e4:=e4t (N:=N+39) hc h9 (K3 164 _ rfl) ok;obtain⟨ρ4,s4,K4⟩:=a2x (i:=165) e4 K3;obtain⟨T,hT⟩:=d2g hb hc s;have e5:=d8d (N:=N+9) hT h9 (Knows.cons (K4 124 _ rfl) (Knows.cons (K4 123 _ rfl) (Knows.cons (K4 157 _ rfl) (Knows.cons (K4 164 _ rfl) (Knows.cons (K4 165 _ rfl) Knows.nil))))) ok;obtain⟨ρ5,s5,K5⟩:=a2x (i:=100) e5 K4;obtain⟨ρ6,s6,K6⟩:=a2x (Γ:=gR) (n:=N+79) (i:=166) (evb (μ:=stQ t' ln' [] (A::Rw::Tn::C)) (evl (K5 157 _ rfl)) (evl (K5 124 _ rfl)) (a5c s (b:=n) (Nat.ne_of_gt h0))) K5;have e7:=e3z (N:=N+59) (μ:=stQ t' ln' [] (A::Rw::Tn::C)) hT h0 h9 (Knows.cons (K6 100 _ rfl) (Knows.cons (K6 123 _ rfl) (Knows.cons (K6 165 _ rfl) (Knows.cons (K6 166 _ rfl) Knows.nil))));have e8:=c1b (Γ:=gR) (M:=N+77) (i:=108) (x:=.loc 90) (μ:=stQ t' ln' [] (A::Rw::Tn::C)) (k:=8) (fun zz zz=>rfl) (fun zz zz zz zz=>rfl) (K6 108 _ rfl) (evl (K6 90 _ rfl)) rfl (Nat.le_trans zr (by decide));rw [show(stQ t' ln' [] (A::Rw::Tn::C)).set 8 (.list (Rw++[a9e n c]))=stQ t' ln' [] (A::(Rw++[a9e n c])::Tn::C)from rfl]at e8;have pr:plain (a9e n c)=true:=a4b fun zz=>rfl;have hR2:AllP (A::(Rw++[a9e n c])::Tn::C):=fun l hl=>by
  rcases List.mem_cons.mp hl with rfl | hl
  ·exact hR _ (.head _)
  ·rcases List.mem_cons.mp hl with rfl | hl
   ·rw [c3a,hR Rw (.tail _ (.head _)),pr];rfl
   ·exact hR _ (.tail _ (.tail _ hl))
 have e9:=c1b (Γ:=gR) (M:=N+77) (i:=163) (k:=9) (fun zz zz=>rfl) (fun zz zz zz zz=>rfl) (K6 163 _ rfl) (d7r (N:=N+28) (μ:=stQ t' ln' [] (A::(Rw++[a9e n c])::Tn::C)) hT hc h9 (K6 100 _ rfl) (a4k hR2)) rfl (Nat.le_trans zt (by decide));rw [show(stQ t' ln' [] (A::(Rw++[a9e n c])::Tn::C)).set 9 (.list (Tn++[.int ((List.range n).map fun k=>(b2b (c k) (c (prv n k)):Int)-1).sum]))=stQ t' ln' [] (A::(Rw++[a9e n c])::(Tn++[.int (a0z n c)])::C)from rfl]at e9;have e10:=b8o (Γ:=gR) (n:=N+78) (ρ:=ρ6) (l:=[]) (vs:=[]) (μ:=stQ t' ln' [] (A::(Rw++[a9e n c])::(Tn++[.int (a0z n c)])::C)) b7l (Nat.zero_le _);rw [b3n,b8i]at e10;obtain⟨ρ7,s10,K7⟩:=a2x (i:=162) e10 K6;obtain⟨ρ8,e11,K8⟩:=d0p (N:=N+49) (t:=t') (ln:=ln') (q:=[]) (R:=A::(Rw++[a9e n c])::(Tn++[.int (a0z n c)])::C) (b:=b) hc hn n 0 ρ7 (Nat.zero_add n)
  (Knows.cons (K7 90 _ rfl) (Knows.cons (K7 165 _ rfl) (Knows.cons (K7 88 _ rfl) (Knows.cons (K7 124 _ rfl) (Knows.cons (K7 123 _ rfl) (Knows.cons (K7 108 _ rfl) (Knows.cons (K7 163 _ rfl) (Knows.cons (K7 162 _ rfl) Knows.nil))))))))
 rw [← List.range_eq_range']at e11;have s11:=a6g (t:=.one 111) (a:=d7s) (a6f (Γ:=gR) (n:=N+79) (μ:=stQ t' ln' [] (A::(Rw++[a9e n c])::(Tn++[.int (a0z n c)])::C++[[]])) (evl (K7 124 _ rfl)) h9);exact⟨ρ8,(a0a e1).trans ((a0a s2).trans ((a0a s3).trans ((a0a s4).trans ((a0a s5).trans ((a0a s6).trans ((a0a (c7b e7)).trans ((a0a (a4h e8)).trans ((a0a (a4h e9)).trans ((a0a s10).trans ((a0a (s11.trans e11)).trans rfl)))))))))),(K8.rest rfl).rest rfl⟩
end
end
section
section
variable{t t':List Nat}{ln ln':Int}{N n b m T:Nat}{ρ:Rho}{c0:Nat->Nat×List Nat}
noncomputable def wsS(n:Nat)(c0:Nat->Nat×List Nat)(m:Nat):List (List Nat):=(List.range n).map fun k=>a1j (a3a n c0 m k)
noncomputable def a2l(n:Nat)(c0:Nat->Nat×List Nat)(m:Nat):List V:=tab m fun s=>a9e n (a3a n c0 s)
noncomputable def a1r(n:Nat)(c0:Nat->Nat×List Nat)(m:Nat):List V:=tab m fun s=>.int (a0z n (a3a n c0 s))
theorem a9v:a0q (a2l n c0 m)=true:=a4b fun zz=>a4b fun zz=>rfl
theorem a8u:a0q (a1r n c0 m)=true:=a4b fun zz=>rfl
theorem d2h(hc:∀ k,k<n->Cel (c0 k))(h0:0<n)(hn:n<9)(hb:b<64)(hT:T<=100)(hl:1<=ln):∀(j m:Nat) (ρ:Rho) (C:List (List V)),m+j=T->AllP C->Knows ρ (rE n b (C.length+10)) →
  ∃ ρ' C',a6x (fun ρ μ=>exec gR (N+80) d4e ρ μ) (.one 157) ((List.range' m j).map fun(i:Nat)=>V.int i) ρ (stQ t ln [] ([]::a2l n c0 m::a1r n c0 m::(C++[(wsS n c0 m).map .str])))=some (.next,ρ',stQ t ln [] ([]::a2l n c0 T::a1r n c0 T::C'))/\Knows ρ' [(108,.mut 8),(163,.mut 9)]:=by
 intro j;induction j with
 | zero=>intro m ρ C h hC K;obtain rfl:m=T:=h;exact⟨ρ,_,rfl,Knows.cons (K 108 _ rfl) (Knows.cons (K 163 _ rfl) Knows.nil)⟩
 | succ j ih=>
  intro m ρ C h hC K;have pl:AllP (C++[(wsS n c0 m).map .str]):=hC.app (a8a _);have hR:AllP ([]::a2l n c0 m::a1r n c0 m::(C++[(wsS n c0 m).map .str])):=fun l hl=>by
   rcases List.mem_cons.mp hl with rfl | hl
   ·rfl
   ·rcases List.mem_cons.mp hl with rfl | hl
    ·exact a9v
    ·rcases List.mem_cons.mp hl with rfl | hl
     ·exact a8u
     ·exact pl l hl
  have lw:(wsS n c0 m).length=n:=(List.length_map ..).trans List.length_range;have lc:(C++[(wsS n c0 m).map V.str]).length+10=C.length+10+1:=by rw [List.length_append,List.length_singleton,Nat.add_right_comm]
  obtain⟨ρ1,e1,K1⟩:=b8z (N:=N) (s:=m) (j:=C.length+3) (com:=wsS n c0 m) (t:=t) (t':=t) (ln:=ln) (ln':=ln) (c0e hc m) h0 hn hb hR (by
    show(C++[(wsS n c0 m).map V.str])[C.length]?=_;rw [List.getElem?_append_right (Nat.le_refl _),Nat.sub_self];rfl) (by rw [lw];omega) hl (by unfold a2l;rw [a0v];omega) (by unfold a1r;rw [a0v];omega)
   (fun R hR=>c1f hR hl _ (by have:(wsS n c0 m).length<=1000:=(by rw [lw];omega);exact Nat.lt_of_le_of_lt this (by decide))) (K.put 157 (.int (m:Int)))
  rw [lc]at K1;obtain⟨ρ2,C2,e2,K2⟩:=ih (m+1) ρ1 (C++[(wsS n c0 m).map .str]) (by rw [Nat.add_right_comm];exact h) pl (by rw [lc];exact K1);have w3:tab n (d3y n (a3a n c0 m))=(wsS n c0 (m+1)).map .str:=(List.map_map ..).symm;rw [w3,show a2l n c0 m++[a9e n (a3a n c0 m)]=a2l n c0 (m+1)from(a9i ..).symm,show a1r n c0 m++[.int (a0z n (a3a n c0 m))]=a1r n c0 (m+1)from(a9i ..).symm]at e1;exact⟨ρ2,C2,(a2a d1t e1).trans e2,K2⟩
theorem d1j(hc:∀ k,k<n->Cel (c0 k))(h0:0<n)(hn:n<9)(hb:b<64)(hl:1<=ln)(hl':1<=ln')(HT:∀ R:List (List V),AllP R->b2s (stQ t ln [] R) (wsS n c0 0) (stQ t' ln' [] R)) :
  cF gR P2_run b8u (N+90) [.mut 6,.int (n:Int),.int (b:Int)] (stQ t ln [] [])=some (.tup [.lst (a2l n c0 (n / 2+4)),.lst (a1r n c0 (n / 2+4))],stQ t' ln' [] []):=by
 obtain⟨ρ0,hρ⟩:∃ ρ0:Rho,ρ0=P2_run.zip [V.mut 6,.int (n:Int),.int (b:Int)]:=⟨_,rfl⟩;have K:Knows ρ0 [(88,.mut 6),(124,.int (n:Int)),(123,.int (b:Int))]:=hρ▸Knows.self;have mk:∀ {M:Nat} {R:List (List V)},ev gR (M+1) (.mlst []) ρ0 (stQ t ln [] R)=some (.mut (R.length+7),stQ t ln [] (R++[[]])):=fun {M} {R}=>by
  rw [← b3n,← b8i (t:=t) (n:=ln) (q:=[])];exact b8o (vs:=[]) b7l (Nat.zero_le _)
 have e1:ev gR (N+88) (.tup [(.mlst []),(.mlst []),(.mlst [])]) ρ0 (stQ t ln [] [])=some (.tup [.mut 7,.mut 8,.mut 9],stQ t ln [] [[],[],[]]):=
  a4y (a7m (mk (R:=[])) (a7m (mk (R:=[[]])) (a8i (mk (R:=[[],[]]))))) (show 3<=big by decide)
 have s1:=b6b (i:=162) (j:=108) (k:=163) e1;have K1:=((K.put 162 (.mut 7)).put 108 (.mut 8)).put 163 (.mut 9);generalize put 163 (.mut 9) (put 108 (.mut 8) (put 162 (.mut 7) ρ0))=ρ1 at s1 K1;have k1:Knows ρ1 (rE n b 7):=Knows.cons (K1 88 _ rfl) (Knows.cons (K1 124 _ rfl) (Knows.cons (K1 123 _ rfl) (Knows.cons (K1 108 _ rfl) (Knows.cons (K1 163 _ rfl) (Knows.cons (K1 162 _ rfl) Knows.nil)))));obtain⟨ρ2,e2,K2⟩:=b8z (N:=N+8) (s:=0) (j:=0) (A:=[]) (Rw:=[]) (Tn:=[]) (C:=[]) (com:=[]) (c:=c0) (b:=b) hc h0 hn hb (fun l hl=>by
   rcases List.mem_cons.mp hl with rfl | hl
   ·rfl
   ·rcases List.mem_cons.mp hl with rfl | hl
    ·rfl
    ·rw [List.mem_singleton.mp hl];rfl) rfl (Nat.zero_le _) hl (Nat.zero_le _) (Nat.zero_le _) HT (k1.put 157 (.int (0:Nat)))
 have w3:tab n (d3y n c0)=(wsS n c0 1).map .str:=(List.map_map ..).symm;rw [w3]at e2;obtain⟨ρ3,C3,e3,K3⟩:=d2h (N:=N+8) (T:=n / 2+4) (t:=t') (ln:=ln') hc h0 hn hb (by omega) hl' (n / 2+3) 1 ρ2 [] (Nat.add_comm _ _) (fun zz h=>nomatch h) K2;have s2:a0e gR (N+88) (.for (.one 157) (.range [(.bin .Add (.bin .FloorDiv (.loc 124) (.cst (.int 2))) (.cst (.int 4)))]) d4e) ρ1 (stQ t ln [] [[],[],[]])=some (.next,ρ3,stQ t' ln' [] ([]::a2l n c0 (n / 2+4)::a1r n c0 (n / 2+4)::C3)):=by
  refine(a6g (a6f (m:=n / 2+4) (evb (u:=.int ((n / 2:Nat):Int)) (evb (evl (k1 124 _ rfl)) evc (b2h n (b:=2) (by decide) (by decide))) evc rfl) (by omega))).trans ?_;unfold tab;rw [List.range_eq_range',show n / 2+4=(n / 2+3)+1 from rfl,List.range'_succ];exact(a2a d1t e2).trans e3
 have e4:exec gR (N+89) b8u ρ0 (stQ t ln [] [])=some (.ret (.tup [.mut 8,.mut 9]),ρ3,stQ t' ln' [] ([]::a2l n c0 (n / 2+4)::a1r n c0 (n / 2+4)::C3)):=
  (a0a s1).trans ((a0a s2).trans (a6k (a4y (evn (evl (K3 108 _ rfl)) (a2i (evl (K3 163 _ rfl)))) (show 2<=big by decide))))
 rw [hρ]at e4;refine a8m (Γ:=gR) (n:=N+89) rfl e4 (μ₃:=stQ t' ln' [] []) rfl (a4k fun zz h=>nomatch h) ?_;show((match (generalizing:=false) (if a0q (a2l n c0 (n / 2+4))then some (V.lst (a2l n c0 (n / 2+4)))else Option.none),(match (generalizing:=false) (if a0q (a1r n c0 (n / 2+4))then some (V.lst (a1r n c0 (n / 2+4)))else Option.none),some []with | some a,some b=>some (a::b) | _,_=>.none)with | some a,some b=>some (a::b) | _,_=>.none).map V.tup)=_
 rw [if_pos a9v,if_pos a8u];rfl
end
end
end Mine
end
section
set_option maxRecDepth 100000
namespace Mine
section
noncomputable def e9q(l r:Nat):Nat:=bN (Nat.beq (Nat.mod l 2) 1) l (bN (Nat.beq (Nat.mod r 2) 1) r 0)
noncomputable def e6y(c l r:Nat):Nat:=bN (Nat.beq c 0) (e9q l r) (bN (Nat.beq (Nat.mod c 2) 1) (Nat.succ c) 0)
noncomputable def hdL(d:Nat)(l:List Nat):Nat:=@List.rec Nat (fun zz=>Nat) d (fun a zz zz=>a) l
noncomputable def tlL(l:List Nat):List Nat:=@List.rec Nat (fun zz=>List Nat) [] (fun zz t zz=>t) l
noncomputable def e6a(l:List Nat):Nat->Nat:=@List.rec Nat (fun zz=>Nat->Nat) (fun d=>d) (fun a zz ih zz=>ih a) l
noncomputable def goL(f:Nat)(l:List Nat):Nat->List Nat:=@List.rec Nat (fun zz=>Nat->List Nat) (fun zz=>[]) (fun a t ih p=>e6y a p (hdL f t)::ih a) l
noncomputable def c2n(l:List Nat):List Nat:=goL (hdL 0 l) l (e6a l 0)
noncomputable def ddK(c:Nat):Nat:=bN (Nat.beq c 0) 0 (Nat.sub 2 (Nat.mod c 2))
noncomputable def e8z(l:List Nat):Nat->Nat:=@List.rec Nat (fun zz=>Nat->Nat) (fun zz=>0) (fun a zz ih p=>Nat.add (Nat.mod (Nat.sub (Nat.add (ddK a) 4) (ddK p)) 3) (ih a)) l
noncomputable def b1r(l:List Nat):Nat:=@List.rec Nat (fun zz=>Nat) 0 (fun a zz ih=>Nat.add (bN (Nat.beq (ddK a) 1) 1 0) ih) l
noncomputable def eqL(l:List Nat):List Nat->Bool:=@List.rec Nat (fun zz=>List Nat->Bool) (fun m=>@List.rec Nat (fun zz=>Bool) true (fun zz zz zz=>false) m) (fun a zz ih m=>@List.rec Nat (fun zz=>Bool) false (fun b s zz=>bB (Nat.beq a b) (ih s) false) m) l
noncomputable def d6y(l:List Nat)(x:Nat):List Nat:=@List.rec Nat (fun zz=>List Nat) [x] (fun a zz ih=>a::ih) l
noncomputable def trK(l:List Nat):Nat:=e8z l (e6a l 0)
noncomputable def e6z(n s:Nat)(q r:List Nat):Bool:=
 bB (Nat.beq s n) (eqL r q) (bB (Nat.ble n s) (bB (Nat.beq s (Nat.add n (Nat.mul 3 (b1r r)))) (eqL r (d6y (tlL q) (hdL 0 q))) false) (bB (Nat.beq (Nat.add s (Nat.mul 3 (b1r r))) n) (eqL (d6y (tlL r) (hdL 0 r)) q) false))
noncomputable def f0t(n s T:Nat):List Nat->Bool:=@Nat.rec (fun zz=>List Nat->Bool) (fun q=>bB (Nat.beq (trK (c2n q)) s) (e6z n s q (c2n q)) false) (fun zz ih q=>bB (Nat.beq (trK (c2n q)) s) (ih (c2n q)) false) T
noncomputable def e6u(ds:List Nat):Nat->List Nat:=@List.rec Nat (fun zz=>Nat->List Nat) (fun zz=>[]) (fun d zz ih k=>bN (Nat.beq d 0) 0 (Nat.add (Nat.mul 2 k) d)::ih (Nat.succ k)) ds
noncomputable def f4j(n:Nat)(l:List Nat):Bool:=f0t n (trK l) (Nat.add (Nat.div n 2) 2) l
noncomputable def chk(n:Nat)(ds:List Nat):Bool:=f4j n (e6u ds 0)
noncomputable def c3l(n:Nat)(f:List Nat->Bool):List Nat->Bool:=@Nat.rec (fun zz=>List Nat->Bool) f (fun zz ih l=>bB (ih (0::l)) (bB (ih (1::l)) (ih (2::l)) false) false) n
theorem e8u:c3l 5 (chk 5) []=true:=by decide +kernel
theorem e8e:c3l 6 (chk 6) []=true:=by decide +kernel
theorem e9c:c3l 7 (chk 7) []=true:=by decide +kernel
theorem d6x:c3l 7 (chk 8) [0]=true:=by decide +kernel
theorem d9z:c3l 7 (chk 8) [1]=true:=by decide +kernel
theorem e1d:c3l 7 (chk 8) [2]=true:=by decide +kernel
theorem e0i{f:List Nat->Bool}(n:Nat):∀(acc:List Nat),c3l n f acc=true->∀ p:List Nat,p.length=n->(∀ x∈p,x<3)->f (p++acc)=true:=by
 induction n with
 | zero=>intro acc h p hp _;rw [List.eq_nil_of_length_eq_zero hp];exact h
 | succ n ih=>
  intro acc h p hp hx;obtain⟨h0,h⟩:=a3s h;obtain⟨h1,h2⟩:=a3s h;rcases List.eq_nil_or_concat p with rfl | ⟨q,x,rfl⟩
  ·cases hp
  ·rw [List.concat_eq_append]at hp hx ⊢
   rw [List.append_assoc,List.singleton_append];have hq:q.length=n:=by rw [List.length_append]at hp;exact Nat.succ.inj hp
   have h3:∀ y∈q,y<3:=fun y hy=>hx y (List.mem_append_left _ hy);rcases(by decide:∀ x<3,x=0∨x=1∨x=2) x (hx x (List.mem_append_right _ (.head _)))with rfl | rfl | rfl
   ·exact ih _ h0 q hq h3
   ·exact ih _ h1 q hq h3
   ·exact ih _ h2 q hq h3
theorem e8i:c3l 8 (chk 8) []=true:=by
 show bB (c3l 7 (chk 8) [0]) (bB (c3l 7 (chk 8) [1]) (c3l 7 (chk 8) [2]) false) false=true;rw [d6x,d9z,e1d];rfl
theorem d1d{n:Nat}(h5:5<=n)(h8:n<9){ds:List Nat}(hl:ds.length=n)(hd:∀ x∈ds,x<3):chk n ds=true:=by
 have:c3l n (chk n) []=true:=by
  rcases(by decide:∀ n<9,5<=n->n=5∨n=6∨n=7∨n=8) n h8 h5 with rfl | rfl | rfl | rfl
  ·exact e8u
  ·exact e8e
  ·exact e9c
  ·exact e8i
 have:=e0i n [] this ds hl hd;rw [List.append_nil]at this;exact this
end
end Mine
end
section
open PySem PySem.W PySem.Calls PyProof.Rows
set_option maxRecDepth 100000
namespace Mine
section
noncomputable def cd(a:Nat×Nat):Nat:=if a.1=0 then 0 else 2 * a.2+a.1
theorem b8b{P:Nat->Prop}(h0:P 0)(h1:P 1)(h2:P 2):∀ d,d<3->P d:=fun d h=>by
 rcases(by decide:∀ d<3,d=0∨d=1∨d=2) d h with rfl | rfl | rfl
 ·exact h0
 ·exact h1
 ·exact h2
theorem b6m(o:Nat):(2 * o+1)%2=1:=Nat.mul_add_mod 2 o 1
theorem b3u(o:Nat):(2 * o+2)%2=0:=Nat.mul_add_mod 2 o 2
theorem e3j{c:Bool}{a b:Nat}(h:c=true):bN c a b=a:=by rw [h];rfl
theorem e3p{c:Bool}{a b:Nat}(h:c=false):bN c a b=b:=by rw [h];rfl
theorem d9u(a:Nat×Nat)(h:a.1<3):ddK (cd a)=a.1:=by
 obtain⟨d,o⟩:=a;refine b8b (P:=fun d=>ddK (cd (d,o))=d) rfl ?_ ?_ d h
 ·show bN (Nat.beq (2 * o+1) 0) 0 (2-(2 * o+1)%2)=1
  rw [b6m];rfl
 ·show bN (Nat.beq (2 * o+2) 0) 0 (2-(2 * o+2)%2)=2
  rw [b3u];rfl
theorem c5c(a:Nat×Nat)(h:a.1<3):Nat.beq (Nat.mod (cd a) 2) 1=decide (a.1=1):=by
 obtain⟨d,o⟩:=a;refine b8b (P:=fun d=>Nat.beq (Nat.mod (cd (d,o)) 2) 1=decide (d=1)) rfl ?_ ?_ d h
 ·show Nat.beq ((2 * o+1)%2) 1=_
  rw [b6m];rfl
 ·show Nat.beq ((2 * o+2)%2) 1=_
  rw [b3u];rfl
theorem e5z(a b c:Nat×Nat)(ha:a.1<3)(hb:b.1<3)(hc:c.1<3):e6y (cd a) (cd b) (cd c)=cd (b4p a b c):=by
 have e:e6y (cd a) (cd b) (cd c)=bN (Nat.beq (cd a) 0) (bN (decide (b.1=1)) (cd b) (bN (decide (c.1=1)) (cd c) 0)) (bN (decide (a.1=1)) (Nat.succ (cd a)) 0):=by
  rw [← c5c a ha,← c5c b hb,← c5c c hc];rfl
 rw [e];obtain⟨d,o⟩:=a;unfold b4p;refine b8b (P:=fun d=>bN (Nat.beq (cd (d,o)) 0) (bN (decide (b.1=1)) (cd b) (bN (decide (c.1=1)) (cd c) 0)) (bN (decide (d=1)) (Nat.succ (cd (d,o))) 0)=cd (if d=0 then(if b.1=1 then b else if c.1=1 then c else(d,o))else if d=1 then(2,o)else(0,o))) ?_ rfl rfl d ha;show bN (decide (b.1=1)) (cd b) (bN (decide (c.1=1)) (cd c) 0)=cd (if b.1=1 then b else if c.1=1 then c else(0,o));by_cases h1:b.1=1
 ·rw [if_pos h1,e3j (decide_eq_true h1)]
 ·rw [if_neg h1,e3p (decide_eq_false h1)]
  by_cases h2:c.1=1
  ·rw [if_pos h2,e3j (decide_eq_true h2)]
  ·rw [if_neg h2,e3p (decide_eq_false h2)];rfl
section
variable{n:Nat}
theorem e0t(h5:5<=n)(h8:n<9)(f:Nat->Nat):c2n ((List.range n).map f)=(List.range n).map fun k=>e6y (f k) (f (prv n k)) (f (nx n k)):=by
 rcases(by decide:∀ n<9,5<=n->n=5∨n=6∨n=7∨n=8) n h8 h5 with rfl | rfl | rfl | rfl<;>rfl
theorem e9d(h5:5<=n)(h8:n<9)(f:Nat->Nat):trK ((List.range n).map f)=((List.range n).map fun k=>(ddK (f k)+4-ddK (f (prv n k)))%3).sum:=by
 rcases(by decide:∀ n<9,5<=n->n=5∨n=6∨n=7∨n=8) n h8 h5 with rfl | rfl | rfl | rfl<;>rfl
theorem f2y(a b:Nat):Nat.beq a b=decide (a=b):=by rw [Bool.eq_iff_iff,Nat.beq_eq,decide_eq_true_iff]
theorem d0s(f:Nat->Nat)(l:List Nat):b1r (l.map f)=(l.filter fun k=>decide (ddK (f k)=1)).length:=by
 induction l with
 | nil=>rfl
 | cons a l ih=>
  show Nat.add (bN (Nat.beq (ddK (f a)) 1) 1 0) (b1r (l.map f))=_;rw [ih,f2y];induction h:decide (ddK (f a)=1)using Bool.casesOn with
  | true=>rw [List.filter_cons_of_pos (p:=fun k=>decide (ddK (f k)=1)) h,List.length_cons];exact Nat.add_comm 1 _
  | false=>rw [List.filter_cons_of_neg (p:=fun k=>decide (ddK (f k)=1)) (nf h)];exact Nat.zero_add _
theorem c7w(l:List Nat):∀ m,eqL l m=true->l=m:=by
 induction l with
 | nil=>
  intro m h;cases m
  ·rfl
  ·exact nt h
 | cons a l ih=>
  intro m h;induction m using List.casesOn with
  | nil=>exact nt h
  | cons b m=>
   obtain⟨h1,h2⟩:=a3s h;rw [Nat.eq_of_beq_eq_true h1,ih m h2]
theorem c6z(l:List Nat)(x:Nat):d6y l x=l++[x]:=by
 induction l with
 | nil=>rfl
 | cons a l ih=>exact congrArg (a::·) ih
theorem e4x(l:List Nat):tlL l=l.tail:=by cases l<;>rfl
noncomputable def d0k(n:Nat)(ds:Nat->Nat)(t k:Nat):Nat×Nat:=a3a n (fun k=>(ds k,k)) t k
theorem d8u{α:Type}{a b c:Nat×α}(ha:a.1<3)(hb:b.1<3)(hc:c.1<3):(b4p a b c).1<3:=by
 unfold b4p;by_cases h:a.1=0
 ·rw [if_pos h]
  by_cases h1:b.1=1
  ·rw [if_pos h1];exact hb
  ·rw [if_neg h1]
   by_cases h2:c.1=1
   ·rw [if_pos h2];exact hc
   ·rw [if_neg h2];exact ha
 ·rw [if_neg h]
  by_cases h1:a.1=1
  ·rw [if_pos h1];exact(by decide:2<3)
  ·rw [if_neg h1];exact(by decide:0<3)
theorem a5i{ds:Nat->Nat}(hd:∀ k,ds k<3):∀ t k,(d0k n ds t k).1<3:=by
 intro t;induction t with
 | zero=>exact hd
 | succ t ih=>exact fun k=>d8u (ih k) (ih _) (ih _)
noncomputable def cR(n:Nat)(ds:Nat->Nat)(t:Nat):List Nat:=(List.range n).map fun k=>cd (d0k n ds t k)
theorem b8j{ds:Nat->Nat}(h5:5<=n)(h8:n<9)(hd:∀ k,ds k<3)(t:Nat):c2n (cR n ds t)=cR n ds (t+1):=by
 unfold cR;rw [e0t h5 h8];exact List.map_congr_left fun k zz=>e5z _ _ _ (a5i hd t k) (a5i hd t _) (a5i hd t _)
theorem e2t{ds:Nat->Nat}(h5:5<=n)(h8:n<9)(hd:∀ k,ds k<3){s:Nat}:∀(T t:Nat),f0t n s T (cR n ds t)=true->(∀ j,j<=T->trK (cR n ds (t+j+1))=s)/\e6z n s (cR n ds (t+T)) (cR n ds (t+T+1))=true:=by
 intro T;induction T with
 | zero=>
  intro t h;obtain⟨h1,h2⟩:=a3s h;rw [b8j h5 h8 hd]at h1 h2;exact⟨fun j hj=>by rw [Nat.le_zero.mp hj];exact Nat.eq_of_beq_eq_true h1,h2⟩
 | succ T ih=>
  intro t h;obtain⟨h1,h2⟩:=a3s h;rw [b8j h5 h8 hd]at h1;obtain⟨a1,a2⟩:=ih (t+1) (by rw [← b8j h5 h8 hd];exact h2);refine⟨fun j hj=>?_,by rw [show t+(T+1)=t+1+T from(Nat.add_right_comm t 1 T).symm];exact a2⟩;induction j using Nat.casesOn with
  | zero=>exact Nat.eq_of_beq_eq_true h1
  | succ j=>rw [show t+(j+1)+1=t+1+j+1 from congrArg Nat.succ (Nat.add_right_comm t 1 j).symm];exact a1 j (Nat.le_of_succ_le_succ hj)
theorem e6g(ds:Nat->Nat)(hd:∀ k,ds k<3):∀(j m:Nat),e6u ((List.range' m j).map ds) m=(List.range' m j).map fun k=>cd (ds k,k):=by
 intro j;induction j with
 | zero=>intro m;rfl
 | succ j ih=>
  intro m;show bN (Nat.beq (ds m) 0) 0 (Nat.add (Nat.mul 2 m) (ds m))::e6u ((List.range' (m+1) j).map ds) (m+1)=cd (ds m,m)::(List.range' (m+1) j).map fun k=>cd (ds k,k);rw [ih];refine congrArg (·::_) ?_;exact b8b (P:=fun d=>bN (Nat.beq d 0) 0 (Nat.add (Nat.mul 2 m) d)=cd (d,m)) rfl rfl rfl _ (hd m)
theorem d3g{ds:Nat->Nat}(h5:5<=n)(h8:n<9)(hd:∀ k,ds k<3):(∀ t,t<=n / 2+3->trK (cR n ds t)=trK (cR n ds 0))/\e6z n (trK (cR n ds 0)) (cR n ds (n / 2+2)) (cR n ds (n / 2+3))=true:=by
 have h:=d1d h5 h8 (ds:=(List.range n).map ds) (by rw [List.length_map,List.length_range]) (fun x hx=>let⟨k,_,e⟩:=List.mem_map.mp hx;e▸hd k);have e:e6u ((List.range n).map ds) 0=cR n ds 0:=by rw [List.range_eq_range',e6g ds hd];unfold cR;rw [List.range_eq_range'];rfl
 have h:f0t n (trK (cR n ds 0)) (n / 2+2) (cR n ds 0)=true:=by rw [← e];exact h
 obtain⟨a1,a2⟩:=e2t h5 h8 hd _ _ h;rw [Nat.zero_add]at a2;refine⟨fun t ht=>?_,a2⟩;induction t using Nat.casesOn with
 | zero=>rfl
 | succ t=>have:=a1 t (Nat.le_of_succ_le_succ ht);rw [Nat.zero_add]at this;exact this
end
noncomputable def wK(ns:Nat->List Nat)(c:Nat):List Nat:=if c=0 then []else if c%2=1 then ns (c / 2)else ns ((c-2) / 2)++[63]
theorem e8o(ns:Nat->List Nat)(a:Nat×Nat)(h:a.1<3):wK ns (cd a)=a1j (a.1,ns a.2):=by
 obtain⟨d,o⟩:=a;refine b8b (P:=fun d=>wK ns (cd (d,o))=a1j (d,ns o)) rfl ?_ ?_ d h
 ·show wK ns (2 * o+1)=ns o
  unfold wK;rw [if_neg (Nat.succ_ne_zero _),if_pos (b6m o),show(2 * o+1) / 2=o from Nat.mul_add_div (by decide) o 1]
 ·show wK ns (2 * o+2)=ns o++[63]
  unfold wK;rw [if_neg (Nat.succ_ne_zero _),if_neg (by rw [b3u];decide),show(2 * o+2-2) / 2=o from Nat.mul_div_cancel_left o (by decide)]
theorem c9r{n:Nat}{ds:Nat->Nat}{ns:Nat->List Nat}:∀ t k,a3a n (fun k=>(ds k,ns k)) t k=((d0k n ds t k).1,ns (d0k n ds t k).2):=by
 have nat:∀ a b c:Nat×Nat,b4p (a.1,ns a.2) (b.1,ns b.2) (c.1,ns c.2)=((b4p a b c).1,ns (b4p a b c).2):=fun a b c=>by
  unfold b4p;dsimp only;by_cases h:a.1=0
  ·rw [if_pos h,if_pos h]
   by_cases h1:b.1=1
   ·rw [if_pos h1,if_pos h1]
   ·rw [if_neg h1,if_neg h1]
    by_cases h2:c.1=1
    ·rw [if_pos h2,if_pos h2]
    ·rw [if_neg h2,if_neg h2]
  ·rw [if_neg h,if_neg h]
   by_cases h1:a.1=1
   ·rw [if_pos h1,if_pos h1]
   ·rw [if_neg h1,if_neg h1]
 intro t;induction t with
 | zero=>intro k;rfl
 | succ t ih=>
  intro k;show b4p (a3a n _ t k) (a3a n _ t (prv n k)) (a3a n _ t (nx n k))=_;rw [ih,ih,ih];exact nat _ _ _
end
section
theorem d0y(f:Nat->Nat)(l:List Nat):(l.map fun k=>((f k:Nat):Int)-1).sum=(((l.map f).sum:Nat):Int)-(l.length:Nat):=by
 induction l with
 | nil=>rfl
 | cons a l ih=>
  rw [List.map_cons,List.sum_cons,ih,List.map_cons,List.sum_cons,List.length_cons,Int.natCast_add,Int.natCast_succ];simp +arith only
section
variable{n:Nat}{ds:Nat->Nat}{ns:Nat->List Nat}
noncomputable def c0(ds:Nat->Nat)(ns:Nat->List Nat)(k:Nat):Nat×List Nat:=(ds k,ns k)
noncomputable def a6o(n:Nat)(c:Nat->Nat×List Nat):Nat:=((List.range n).filter fun k=>decide ((c k).1=1)).length
theorem b5q(t k:Nat):a3a n (c0 ds ns) t k=((d0k n ds t k).1,ns (d0k n ds t k).2):=c9r t k
theorem c4f(h5:5<=n)(h8:n<9)(hd:∀ k,ds k<3)(t:Nat):a0z n (a3a n (c0 ds ns) t)=(trK (cR n ds t):Int)-n:=by
 unfold a0z cR;rw [e9d h5 h8,d0y (fun k=>b2b (a3a n (c0 ds ns) t k) (a3a n (c0 ds ns) t (prv n k))),List.length_range];refine congrArg (fun z:List Nat=>((z.sum:Nat):Int)-n) (List.map_congr_left fun k zz=>?_);unfold b2b;rw [b5q,b5q,d9u _ (a5i hd t k),d9u _ (a5i hd t _)]
theorem d2c(hd:∀ k,ds k<3)(t:Nat):b1r (cR n ds t)=a6o n (a3a n (c0 ds ns) t):=by
 unfold cR a6o;rw [d0s];refine congrArg List.length (List.filter_congr fun k zz=>?_);rw [b5q,d9u _ (a5i hd t k)]
theorem e2u(hd:∀ k,ds k<3)(t:Nat):wsS n (c0 ds ns) t=(cR n ds t).map (wK ns):=by
 unfold wsS cR;rw [List.map_map];refine List.map_congr_left fun k zz=>?_;show a1j (a3a n (c0 ds ns) t k)=wK ns (cd (d0k n ds t k));rw [b5q,e8o _ _ (a5i hd t k)]
inductive c6w(n:Nat)(c:Nat->Nat×List Nat):Prop
 | rest (h1:a0z n c=0) (h2:wsS n c (n / 2+3)=wsS n c (n / 2+2))
 | left (h1:a0z n c=3 * a6o n (a3a n c (n / 2+3))) (h0:0<a0z n c) (x:List Nat) (l:List (List Nat)) (h2:wsS n c (n / 2+2)=x::l) (h3:wsS n c (n / 2+3)=l++[x])
 | right (h1:a0z n c = -(3 * a6o n (a3a n c (n / 2+3)))) (h0:a0z n c<0) (x:List Nat) (l:List (List Nat)) (h2:wsS n c (n / 2+3)=x::l) (h3:wsS n c (n / 2+2)=l++[x])
theorem d6u{α β:Type}(f:α->β)(l:List α)(d:α)(h:0<l.length):∃ x r,l=x::r:=by
 cases l with
 | nil=>exact absurd h (Nat.lt_irrefl 0)
 | cons a l=>exact⟨a,l,rfl⟩
theorem d9f(h5:5<=n)(h8:n<9)(hd:∀ k,ds k<3):(∀ t,t<=n / 2+3->a0z n (a3a n (c0 ds ns) t)=a0z n (c0 ds ns))/\c6w n (c0 ds ns):=by
 obtain⟨a1,a2⟩:=d3g h5 h8 hd;have t0:a0z n (c0 ds ns)=(trK (cR n ds 0):Int)-n:=c4f h5 h8 hd 0;refine⟨fun t ht=>by rw [c4f h5 h8 hd,a1 t ht,t0],?_⟩;have f0:a6o n (a3a n (c0 ds ns) (n / 2+3))=b1r (cR n ds (n / 2+3)):=(d2c hd _).symm;have w1:=e2u (n:=n) (ns:=ns) hd (n / 2+2);have w2:=e2u (n:=n) (ns:=ns) hd (n / 2+3);have lr:∀ t,∃ x l,cR n ds t=x::l:=fun t=>by
  have:0<(cR n ds t).length:=by unfold cR;rw [List.length_map,List.length_range];exact Nat.lt_of_lt_of_le (by decide) h5
  exact d6u id _ 0 this
 generalize trK (cR n ds 0)=s at *;obtain⟨x1,l1,e1⟩:=lr (n / 2+2);obtain⟨x2,l2,e2⟩:=lr (n / 2+3);unfold e6z at a2;rcases b8d a2 with⟨c,h⟩ | ⟨c,h⟩
 ·obtain rfl:=Nat.eq_of_beq_eq_true c
  exact .rest (by rw [t0,Int.sub_self]) (by rw [w1,w2,c7w _ _ h])
 ·have hne:s≠n:=fun q=>by rw [q,Nat.beq_refl]at c;exact nt c.symm
  rcases b8d h with⟨c,h⟩ | ⟨c,h⟩
  ·obtain⟨q,h⟩:=a3s h
   have q:=Nat.eq_of_beq_eq_true q;have h:=c7w _ _ h;rw [e1,c6z,e4x]at h;rw [e1]at w1;rw [h]at w2;rw [← f0]at q;refine .left ?_ ?_ (wK ns x1) (l1.map (wK ns)) w1 (w2.trans List.map_append)
   ·rw [t0,q]
    show((n+3 * _:Nat):Int)-n=_;rw [Int.natCast_add];exact(congrArg (· - (n:Int)) (Int.add_comm ..)).trans (Int.add_sub_cancel ..)
   ·rw [t0];exact Int.sub_pos_of_lt (Int.ofNat_lt.mpr (Nat.lt_of_le_of_ne (Nat.ble_eq.mp c) (Ne.symm hne)))
  ·obtain⟨q,h⟩:=a3s h
   have q:s+3 * _=n:=Nat.eq_of_beq_eq_true q;have h:=c7w _ _ h;rw [e2,c6z,e4x]at h;rw [e2]at w2;rw [← h]at w1;rw [← f0]at q;have c:¬n<=s:=fun z=>by rw [Nat.ble_eq.mpr z]at c;exact nt c.symm
   refine .right ?_ ?_ (wK ns x2) (l2.map (wK ns)) w2 (w1.trans List.map_append)
   ·rw [t0];exact(congrArg (fun z:Nat=>(s:Int)-z) q.symm).trans (by rw [Int.natCast_add,← Int.sub_sub,Int.sub_self,Int.zero_sub];rfl)
   ·rw [t0];exact Int.sub_neg_of_lt (Int.ofNat_lt.mpr (Nat.lt_of_not_le c))
end
noncomputable def hS(ds:Nat->Nat):Nat->Int
 | 0=>ds 0
 | k+1=>hS ds k+((ds (k+1):Int)-ds k+1).fmod 3-1
noncomputable def b4q(n:Nat)(ds:Nat->Nat):Int:=hS ds (n-1)+((ds 0:Int)-ds (n-1)+1).fmod 3-1-hS ds 0
section
variable{n:Nat}{ds:Nat->Nat}{ns:Nat->List Nat}{q k:Int}{r t:Nat}
theorem rep(h:r<n)(q:Int):((n:Int) * q+r).fmod n=r/\((n:Int) * q+r).fdiv n=q:=by
 have hn:(0:Int)<n:=Int.natCast_pos.mpr (Nat.lt_of_le_of_lt (Nat.zero_le r) h);rw [Int.fmod_eq_emod_of_nonneg _ (Int.le_of_lt hn),Int.fdiv_eq_ediv_of_nonneg _ (Int.le_of_lt hn),Int.add_comm,Int.add_mul_emod_self_left,Int.add_mul_ediv_left _ _ (Int.ne_of_gt hn),Int.emod_eq_of_lt (Int.natCast_nonneg r) (Int.ofNat_lt.mpr h),Int.ediv_eq_zero_of_lt (Int.natCast_nonneg r) (Int.ofNat_lt.mpr h),Int.zero_add];exact⟨rfl,rfl⟩
theorem d6l(hn:0<n)(k:Int):∃(q:Int) (r:Nat),r<n/\k=(n:Int) * q+r:=by
 have h:=Int.natCast_pos.mpr hn;have h1:=Int.emod_nonneg k (Int.ne_of_gt h);have h2:=Int.emod_lt_of_pos k h;have h3:=Int.mul_ediv_add_emod k n;exact⟨k / n,(k%n).toNat,(Int.toNat_lt h1).mpr h2,by rw [Int.toNat_of_nonneg h1,h3]⟩
theorem c6g{hs:Nat->Int}{lap:Int}(h:r<n):uU n hs lap ((n:Int) * q+r)=hs r+q * lap:=by
 unfold uU;rw [(rep h q).1,(rep h q).2,Int.toNat_natCast]
theorem f0p(h:r<n):nU n ns ((n:Int) * q+r)=ns r:=by
 unfold nU;rw [(rep h q).1,Int.toNat_natCast]
theorem d5o(h:r<n)(q:Int):∃ q':Int,(n:Int) * q+r+1=(n:Int) * q'+(nx n r:Nat)/\((r+1<n/\nx n r=r+1/\q'=q)∨(r+1=n/\nx n r=0/\q'=q+1)):=by
 unfold nx;by_cases e:r+1=n
 ·rw [if_pos e]
  exact⟨q+1,by rw [Int.mul_add,Int.mul_one,Int.add_assoc,← e];exact(Int.add_zero _).symm,.inr ⟨e,rfl,rfl⟩⟩
 ·rw [if_neg e]
  exact⟨q,Int.add_assoc ..,.inl ⟨Nat.lt_of_le_of_ne h e,rfl,rfl⟩⟩
theorem d7v(h:r<n)(q:Int):∃ q':Int,(n:Int) * q+r-1=(n:Int) * q'+(prv n r:Nat):=by
 unfold prv;by_cases e:r=0
 ·rw [if_pos e]
  exact⟨q-1,by rw [Int.mul_sub,Int.mul_one,e,Int.ofNat_sub (Nat.lt_of_le_of_lt (Nat.zero_le r) h)];show(n:Int) * q+0-1=n * q-n+(n-1);simp +arith only⟩
 ·rw [if_neg e]
  exact⟨q,by rw [Int.ofNat_sub (Nat.pos_of_ne_zero e),← Int.add_sub_assoc];rfl⟩
theorem fm3(a:Int):0<=a.fmod 3/\a.fmod 3<=2/\a.fmod 3=a%3:=by
 rw [Int.fmod_eq_emod_of_nonneg _ (by decide)];exact⟨Int.emod_nonneg a (by decide),Int.le_of_lt_add_one (Int.emod_lt_of_pos a (by decide)),rfl⟩
theorem f1c{a d z:Int}(h0:0<=d)(h2:d<=2):a+d-1+z<=a+z+1/\a+z<=a+d-1+z+1:=⟨Int.le_of_sub_nonneg (Int.le_trans (Int.sub_nonneg_of_le h2) (by simp +arith only)),Int.le_of_sub_nonneg (Int.le_trans h0 (by simp +arith only))⟩
theorem e3s{x z a:Int}:x+(z+(a-x))=a+z:=by simp +arith only
theorem e5f(hn:0<n):Lip (uU n (hS ds) (b4q n ds)):=by
 intro k;obtain⟨q,r,hr,rfl⟩:=d6l hn k;obtain⟨q',e,h⟩:=d5o hr q;rw [e,c6g (c5n hr),c6g hr];rcases h with⟨_,h1,rfl⟩ | ⟨h0,h1,rfl⟩
 ·obtain⟨f1,f2,_⟩:=fm3 ((ds (r+1):Int)-ds r+1)
  rw [h1];exact f1c f1 f2
 ·obtain⟨f1,f2,_⟩:=fm3 ((ds 0:Int)-ds r+1)
  rw [h1,Int.add_mul,Int.one_mul,show b4q n ds=hS ds r+((ds 0:Int)-ds r+1).fmod 3-1-hS ds 0 by rw [← h0];rfl,e3s];exact f1c f1 f2
theorem e6e(a b c:Int):(a+(b-c+1)%3-1-b)%3=(a-c)%3:=by
 rw [Int.sub_sub,← Int.emod_sub_emod,Int.add_emod_emod,Int.emod_sub_emod];exact congrArg (·%3) (by simp +arith only)
theorem e3k(ds:Nat->Nat):∀ r,(hS ds r-ds r)%3=0:=by
 intro r;induction r with
 | zero=>show((ds 0:Int)-ds 0)%3=0;rw [Int.sub_self];rfl
 | succ r ih=>
  show(hS ds r+_-1-_)%3=0;rw [(fm3 _).2.2,e6e];exact ih
theorem e9k(hn:0<n)(hd:∀ k,ds k<3)(hr:r<n)(q:Int):uU n (hS ds) (b4q n ds) ((n:Int) * q+r)%3=ds r:=by
 rw [c6g hr];have hl:b4q n ds%3=0:=by
  unfold b4q;rw [(fm3 _).2.2];exact(e6e ..).trans (e3k ds (n-1))
 rw [← Int.ediv_mul_cancel_of_emod_eq_zero hl,← Int.mul_assoc,Int.add_mul_emod_self_right,Int.emod_eq_emod_iff_emod_sub_eq_zero.mpr (e3k ds r)];exact Int.emod_eq_of_lt (Int.natCast_nonneg _) (Int.ofNat_lt.mpr (hd r))
theorem e4j{v:Int}(h:v%3≠0)(h1:v%3≠1):v%3=2:=((e7w v).resolve_left h).resolve_left h1
noncomputable def CH(ν:Int->List Nat)(a:Nat×List Nat)(x:Int×Int):Prop:=(a.1:Int)=x.1%3/\(a.1≠0->a.2=ν x.2)
section
variable{ν:Int->List Nat}{a b c:Nat×List Nat}{x y z:Int×Int}
theorem CH.iff(h:CH ν a x)(d:Nat):a.1=d↔x.1%3=d:=⟨fun q=>by rw [← h.1,q],fun q=>Int.ofNat.inj (h.1.trans q)⟩
theorem CH.nxt(ha:CH ν a x)(hb:CH ν b y)(hc:CH ν c z):CH ν (b4p a b c) (e1i x y z):=by
 have h0:=ha.iff 0;have h1:=ha.iff 1;have h2:=hb.iff 1;have h3:=hc.iff 1;unfold b4p;refine a8b x y z (P:=CH ν _) (fun h=>?_) (fun h l=>?_) (fun h l r=>?_) fun h l r=>?_
 ·rw [if_neg fun q=>h (h0.mp q)]
  by_cases e:a.1=1
  ·rw [if_pos e]
   exact⟨(f0k (h1.mp e)).symm,fun zz=>ha.2 (by rw [e];decide)⟩
  ·rw [if_neg e]
   exact⟨(d1s (e4j h fun q=>e (h1.mpr q))).symm,fun q=>absurd rfl q⟩
 ·rw [if_pos (h0.mpr h),if_pos (h2.mpr l)]
  exact⟨by rw [h2.mpr l];exact(e1j h).symm,hb.2⟩
 ·rw [if_pos (h0.mpr h),if_neg fun q=>l (h2.mp q),if_pos (h3.mpr r)]
  exact⟨by rw [h3.mpr r];exact(e1j h).symm,hc.2⟩
 ·rw [if_pos (h0.mpr h),if_neg fun q=>l (h2.mp q),if_neg fun q=>r (h3.mp q)]
  exact ha
theorem CH.due{s:Int×List Nat}(h:CH ν a x)(h1:s.1=x.1)(h2:x.1%3≠0->s.2=ν x.2):e1h s=a1j a:=by
 unfold e1h a1j c2m;rw [h1];by_cases c:x.1%3=0
 ·rw [if_pos c,if_pos ((h.iff 0).mpr c)]
 ·have c':a.1≠0:=fun q=>c ((h.iff 0).mp q)
  rw [if_neg c,if_neg c',h2 c,h.2 c'];by_cases e:x.1%3=1
  ·rw [if_pos e,if_pos ((h.iff 1).mpr e)]
  ·rw [if_neg e,if_neg fun q=>e ((h.iff 1).mp q)]
end
theorem e4l(hn:0<n)(hd:∀ k,ds k<3)(t:Nat):∀(r:Nat) (q:Int),r<n->CH (nU n ns) (a3a n (c0 ds ns) t r) (Hs (uU n (hS ds) (b4q n ds)) t ((n:Int) * q+r)):=by
 induction t with
 | zero=>exact fun r q hr=>⟨(e9k hn hd hr q).symm,fun zz=>(f0p hr).symm⟩
 | succ t ih=>
  intro r q hr;obtain⟨q1,e1⟩:=d7v hr q;obtain⟨q2,e2,_⟩:=d5o hr q;have b:=ih _ q1 (b1c hr);have c:=ih _ q2 (c5n hr);rw [← e1]at b;rw [← e2]at c;exact(ih r q hr).nxt b c
theorem e2g{p:Nat}(hn:0<n)(hd:∀ k,ds k<3)(hp:p<n)(t:Nat):e1h (a7c (uU n (hS ds) (b4q n ds)) (nU n ns) p t (hS ds p-1,[]) (t+1))=a1j (a3a n (c0 ds ns) t p):=by
 have e:(n:Int) * 0+p=p:=by rw [Int.mul_zero,Int.zero_add]
 have hu:uU n (hS ds) (b4q n ds) (p:Int)=hS ds p:=by
  have:=c6g (q:=0) (hs:=hS ds) (lap:=b4q n ds) hp;rw [e,Int.zero_mul,Int.add_zero]at this;exact this
 obtain⟨s1,s2⟩:=d7y (ν:=nU n ns) (k:=p) (t:=t) (z:=(hS ds p-1,[])) (e5f (ds:=ds) hn) (by rw [hu];exact Int.sub_lt_self _ (by decide));have:=e4l (ns:=ns) hn hd t p 0 hp;rw [e]at this;exact this.due s1 s2
theorem e2a{a b:Int}(h:b<=a+1)(h2:a<=b+1):b.natAbs<=a.natAbs+1:=by
 obtain⟨n,e⟩:=Int.eq_ofNat_of_zero_le (Int.sub_nonneg_of_le h2);have hn:(n:Int)<=2:=e▸Int.sub_left_le_of_le_add (by rw [show(2:Int)=1+1 from rfl,← Int.add_assoc];exact Int.add_le_add_right h 1);rw [show b=a+((n:Int)-1) by rw [← e];simp +arith only];exact Nat.le_trans (Int.natAbs_add_le ..) (Nat.add_le_add_left ((by decide:∀ n:Nat,n<3->((n:Int)-1).natAbs<=1) n (Nat.lt_succ_of_le (Int.ofNat_le.mp hn))) _)
theorem c7m{u:Int->Int}(h:Lip u)(k:Int):∀ d:Nat,(u (k+d)).natAbs<=(u k).natAbs+d/\(u (k-d)).natAbs<=(u k).natAbs+d:=by
 intro d;induction d with
 | zero=>
  rw [show k+((0:Nat):Int)=k from Int.add_zero k,show k-((0:Nat):Int)=k from Int.sub_zero k];exact⟨Nat.le_refl _,Nat.le_refl _⟩
 | succ d ih=>
  have h1:=h (k+d);have h2:=h (k-((d+1:Nat):Int));rw [show k+((d+1:Nat):Int)=k+d+1 by rw [Int.natCast_succ,Int.add_assoc]];rw [show k-((d+1:Nat):Int)+1=k-d by rw [Int.natCast_succ,← Int.sub_sub,Int.sub_add_cancel]]at h2;exact⟨Nat.le_trans (e2a h1.1 h1.2) (Nat.succ_le_succ ih.1),Nat.le_trans (e2a h2.2 h2.1) (Nat.succ_le_succ ih.2)⟩
theorem c7i{a:Int}(h:a.natAbs<=1000):small a=true:=decide_eq_true (Nat.lt_of_le_of_lt h (by decide))
theorem c8a(h5:5<=n)(h8:n<9)(hd:∀ k,ds k<3){p d:Nat}(hp:p<n)(hdd:d<10)(j:Int)(hj:j=p-d∨j=p+d):small (j.fdiv n)=true/\small ((uU n (hS ds) (b4q n ds) j+2).fdiv 3)=true:=by
 have hn:0<n:=Nat.lt_of_lt_of_le (by decide) h5;have h0:uU n (hS ds) (b4q n ds) 0=ds 0:=by
  have:=c6g (q:=0) (r:=0) (hs:=hS ds) (lap:=b4q n ds) hn;rw [Int.mul_zero,Int.zero_mul,Int.add_zero]at this;exact this
 have l:=e5f (ds:=ds) hn;have a0:(uU n (hS ds) (b4q n ds) p).natAbs<=12:=by
  have:=(c7m l 0 p).1;rw [Int.zero_add,h0]at this;exact Nat.le_trans this (Nat.add_le_add (Nat.le_of_lt (hd 0)) (Nat.le_of_lt (Nat.lt_trans hp h8)))
 have aj:(uU n (hS ds) (b4q n ds) j).natAbs<=12+10/\j.natAbs<=9+10:=by
  have hd:=Nat.le_of_lt hdd;have hp:=Nat.le_of_lt (Nat.lt_trans hp h8);have:=c7m l p d;rcases hj with rfl | rfl
  ·exact⟨Nat.le_trans this.2 (Nat.add_le_add a0 hd),Nat.le_trans (Int.natAbs_sub_le ..) (Nat.add_le_add hp hd)⟩
  ·exact⟨Nat.le_trans this.1 (Nat.add_le_add a0 hd),Nat.le_trans (Int.natAbs_add_le ..) (Nat.add_le_add hp hd)⟩
 rw [Int.fdiv_eq_ediv_of_nonneg _ (Int.natCast_nonneg n),Int.fdiv_eq_ediv_of_nonneg _ (by decide)];exact⟨c7i (Nat.le_trans (Int.natAbs_ediv_le_natAbs j n) (Nat.le_trans aj.2 (by decide))),c7i (Nat.le_trans (Int.natAbs_ediv_le_natAbs _ 3) (Nat.le_trans (Int.natAbs_add_le ..) (Nat.le_trans (Nat.add_le_add_right aj.1 _) (by decide))))⟩
end
end
section
noncomputable def sg:List (List Nat):=(["(",")","[","]",":",",",";","+","-","*","/","|","&","<",">","=",".","%","{","}","==","!=","<=",">=","~","^","<<",">>","**","+=","-=","*=","/=","%=","&=","|=","^=","<<=",">>=","**=","//","//=","@","@=","->","...",":=","!"]:List String).map fun s=>(Str.ofString s).cps.toList
noncomputable def sW(c:Nat):List Nat:=sg.getD c []
theorem b6y:(Txt.split (txt sgT) (txt [32])).map c5t=sg:=by kernel_rfl
theorem c4q:sg.length=48:=by decide +kernel
noncomputable def e4r(x:Nat):Bool:=b0g x==false&&x != 34&&x != 92&&decide (x<128)
theorem c7e{x:Nat}(q:e4r x=true):goodC x:=⟨eq_of_beq (a0d (a0d (a0d q))),bne_iff_ne.mp (a0f (a0d (a0d q))),bne_iff_ne.mp (a0f (a0d q)),of_decide_eq_true (a0f q)⟩
theorem e2d:((List.range 48).all fun c=>(sW c).all e4r&&(!(sW c).isEmpty&&(toks.lookup (sW c)==some ((7+c:Nat):Int)&&(decide ((sW c).length<=3)&&(decide (sW c∈sg)&&(decide (sW c++[63]∉sg)&&decide ((sW c).drop ((sW c).length-1)≠[63])))))))=true:=by decide +kernel
structure SgK(c:Nat):Prop where
 good:goodW (sW c)
 ne:sW c≠[]
 look:toks.lookup (sW c)=some ((7+c:Nat):Int)
 len:(sW c).length<=3
 mem:sW c∈sg
 non:sW c++[63]∉sg
 noq:(sW c).drop ((sW c).length-1)≠[63]
theorem sgK{c:Nat}(h:c<48):SgK c:=by
 have q:=List.all_eq_true.mp e2d c (List.mem_range.mpr h);refine⟨fun x hx=>c7e (List.all_eq_true.mp (a0d q) x hx),fun e=>?_,eq_of_beq (a0d (a0f (a0f q))),of_decide_eq_true (a0d (a0f (a0f (a0f q)))),of_decide_eq_true (a0d (a0f (a0f (a0f (a0f q))))),of_decide_eq_true (a0d (a0f (a0f (a0f (a0f (a0f q)))))),of_decide_eq_true (a0f (a0f (a0f (a0f (a0f (a0f q))))))⟩;have:=a0d (a0f q);rw [e]at this;exact nt this
theorem b5g{s:List Nat}(hz:s.length<=big):a1f (.str s) .none (some (-1)) .none=some (.str s.dropLast):=by
 unfold a1f;refine(if_neg (by decide)).trans ?_;dsimp only;by_cases h0:s=[]
 ·subst h0;rfl
 ·have hl:1<=s.length:=List.length_pos_iff.mpr h0
  have e:Builtin.Str.strSliceIndices .none (some (-1)) 1 s.length=(List.range (s.length-1)).map (0+·):=by
   rw [StrLaws.sliceIdx_none_lo,StrLaws.sliceIdx_neg_hi _ _ (by decide) (by omega),show(-1:Int)+(s.length:Int)=((s.length-1:Nat):Int) by omega];exact StrLaws.strSliceIndices_plain (a:=0) (b:=s.length-1) (len:=s.length) (Nat.zero_le _) (Nat.sub_le _ _)
  have p:((List.range (s.length-1)).map (0+·)).filterMap (s[·]?)=s.dropLast:=by
   have:=pick_run s.toArray 0 (s.length-1);rw [List.dropLast_eq_take];simpa using this
  have l1:((List.range (s.length-1)).map (0+·)).length=s.length-1:=by rw [List.length_map,List.length_range]
  have l2:(s.length-1==s.length)=false:=beq_false_of_ne (Nat.ne_of_lt (Nat.sub_lt hl (by decide)));rw [show(Option.none:Option Int).getD 1=1 from rfl,e,p,l1,l2];rw [if_pos ⟨hz,by rw [List.length_dropLast];exact Nat.le_trans (Nat.sub_le _ _) hz⟩];rfl
theorem b5m{s:List Nat}(h0:s≠[])(hz:s.length<=big):a1f (.str s) (some (-1)) .none .none=some (.str (s.drop (s.length-1))):=by
 unfold a1f;refine(if_neg (by decide)).trans ?_;dsimp only;have hl:1<=s.length:=List.length_pos_iff.mpr h0;have e:Builtin.Str.strSliceIndices (some (-1)) .none 1 s.length=(List.range (s.length-(s.length-1))).map (s.length-1+·):=by
  rw [StrLaws.sliceIdx_none_hi,StrLaws.sliceIdx_neg_lo _ _ (by decide) (by omega),show(-1:Int)+(s.length:Int)=((s.length-1:Nat):Int) by omega];exact StrLaws.strSliceIndices_plain (a:=s.length-1) (b:=s.length) (len:=s.length) (Nat.sub_le _ _) (Nat.le_refl _)
 have p:((List.range (s.length-(s.length-1))).map (s.length-1+·)).filterMap (s[·]?)=s.drop (s.length-1):=by
  have:=pick_run s.toArray (s.length-1) (s.length-(s.length-1));rw [List.take_of_length_le (by rw [List.length_drop];exact Nat.le_refl _)]at this;simpa using this
 have l1:((List.range (s.length-(s.length-1))).map (s.length-1+·)).length=s.length-(s.length-1):=by rw [List.length_map,List.length_range]
 rw [show(Option.none:Option Int).getD 1=1 from rfl,e,p,l1];rw [if_pos ⟨hz,by rw [List.length_drop];exact Nat.le_trans (Nat.sub_le _ _) hz⟩];by_cases q:s.length-(s.length-1)=s.length
 ·rw [show s.length-1=0 by omega,List.drop_zero];exact congrArg (fun x=>some (V.str x)) (ite_self s)
 ·rw [beq_false_of_ne q];rfl
theorem goodW.ok{w:List Nat}(h:goodW w):a4m w:=fun c hc=>Nat.lt_trans (h c hc).2.2.2 (by decide)
theorem goodW.asc{w:List Nat}(h:goodW w):w.all (fun c=>decide (c<128))=true:=List.all_eq_true.mpr fun c hc=>decide_eq_true (h c hc).2.2.2
theorem e3v{c:Nat}(h:c<48):Sg (sW c) (e1p (sW c)):=by
 have k:=sgK h;have e:e1p (sW c)=((7+c:Nat):Int):=by unfold e1p;rw [k.look];rfl
 have b:∀ m,m<=4->m<=big:=fun m h=>Nat.le_trans h (by decide);rw [e];have l4:(sW c++[63]).length<=4:=by rw [List.length_append];exact Nat.add_le_add_right k.len 1
 refine⟨k.ne,k.len,k.look,by omega,by omega,k.good,b5m k.ne (b _ (Nat.le_succ_of_le k.len)),?_,(b5m (by simp) (b _ l4)).trans ?_,(b5g (b _ l4)).trans (by rw [List.dropLast_concat])⟩
 ·refine(encStr.cmpEq (by decide) (fun x hx=>k.good.ok x (List.mem_of_mem_drop hx)) (fun x hx=>by rw [List.mem_singleton.mp hx];decide)).trans (congrArg some (decide_eq_false k.noq))
 ·rw [List.length_append,List.length_singleton,Nat.add_sub_cancel,List.drop_left]
section
variable{d c:Nat}
theorem b0w(hc:c<48):goodW (a1j (d,sW c)):=by
 unfold a1j c2m;by_cases h0:d=0
 ·rw [if_pos h0];exact fun zz h=>nomatch h
 ·rw [if_neg h0]
  by_cases h1:d=1
  ·rw [if_pos h1];exact(sgK hc).good
  ·rw [if_neg h1]
   intro x hx;rcases List.mem_append.mp hx with q | q
   ·exact(sgK hc).good x q
   ·rw [List.mem_singleton.mp q];exact c7e (by decide)
theorem e0b(hd:d<3)(hc:c<48):a1j (d,sW c)∈sg↔d=1:=by
 have k:=sgK hc;refine b8b (P:=fun d=>a1j (d,sW c)∈sg↔d=1) ?_ ?_ ?_ d hd
 ·exact⟨fun h=>absurd h (by show([]:List Nat)∉sg;decide +kernel),fun h=>nomatch h⟩
 ·exact⟨fun zz=>rfl,fun zz=>k.mem⟩
 ·exact⟨fun h=>absurd h k.non,fun h=>nomatch h⟩
end
end
section
theorem e3u(l:List V)(a k:Nat):((List.range k).map (a+·)).filterMap (l[·]?)=(l.drop a).take k:=by
 have:=pick_run l.toArray a k;simpa using this
theorem c2g{l:List V}(k:Nat)(hz:l.length<=big):a1f (.lst l) .none (some (k:Int)) .none=some (.lst (l.take k)):=by
 rw [b5o hz,sliceBounds_plain];simp only [Option.elim,clipAt_nat,sliceRange_one,e3u];rw [Nat.sub_zero,List.drop_zero];refine congrArg (fun x=>some (V.lst x)) ?_;rcases Nat.le_total k l.length with h | h
 ·rw [Nat.min_eq_left h]
 ·rw [Nat.min_eq_right h,List.take_length,List.take_of_length_le h]
noncomputable def a9y(zs:List Int):List Nat:=(zs.take 60).map fun z=>(z.fmod 1000000).toNat
noncomputable def c3r(k n:Nat):List Nat:=sliceRange (sliceBounds (some (k:Int)) .none (some 4) n).1 (sliceBounds (some (k:Int)) .none (some 4) n).2.1 (sliceBounds (some (k:Int)) .none (some 4) n).2.2
noncomputable def b4y(ns:List Nat)(k:Nat):List Nat:=(c3r k ns.length).filterMap (ns[·]?)
noncomputable def a3k(ns:List Nat)(k b:Nat):Nat:=b+(b4y ns k).sum
noncomputable def vN(cs:List Nat):V:=.lst (cs.map fun c=>V.int (c:Nat))
section
variable{Γ:G}{zs:List Int}{ns:List Nat}{N M n:Nat}{ρ:Rho}{μ:Mu}
theorem c1u(h:zs.length<=63):(a9y zs).length<=60:=by
 unfold a9y;rw [List.length_map];exact List.length_take_le _ _
theorem d6k(hz:zs.length<=63)(h:ρ.lookup 119=some (.lst (zs.map .int))):ev Γ (N+20) d0l ρ μ=some (vN (a9y zs),μ):=by
 have h1:ev Γ (N+19) (.slc (.loc 119) .none (some (.cst (.int 60))) .none) ρ μ=some (.lst ((zs.map .int).take 60),μ):=b8w (evl h) evc (c2g (l:=zs.map .int) 60 (by rw [List.length_map];exact Nat.le_trans hz (by decide)));rw [← List.map_take]at h1;have e:(a9y zs).map (fun c=>V.int (c:Nat))=(zs.take 60).map fun z=>V.int (z.fmod 1000000):=by
  unfold a9y;rw [List.map_map];refine List.map_congr_left fun z zz=>?_;show V.int ((z.fmod 1000000).toNat:Int)=_;rw [Int.toNat_of_nonneg (Int.fmod_nonneg_of_pos z (by decide))]
 unfold vN;rw [e];refine a2w (vs:=(zs.take 60).map .int) ?_ (by rw [List.length_map];exact Nat.le_trans (List.length_take_le _ _) (by decide)) ?_
 ·rw [f0y,h1];rfl
 ·exact a5t (h:=V.int) (g:=fun z=>V.int (z.fmod 1000000)) (zs.take 60) _ fun z zz=>evb (evl a0x) (evb evc evc rfl) rfl
theorem d2i{l:List V}{k:Int}(hz:l.length<=big):a1f (.lst l) (some k) .none (some 4)=some (.lst ((sliceRange (sliceBounds (some k) .none (some 4) l.length).1 (sliceBounds (some k) .none (some 4) l.length).2.1 (sliceBounds (some k) .none (some 4) l.length).2.2).filterMap (l[·]?))):=by
 unfold a1f;exact(if_neg (by decide)).trans (if_pos hz)
theorem c8n{a x y:X}{l:List V}{k s:Int}{v:V}(h:ev Γ n a ρ μ=some (.lst l,μ))(hc:ev Γ n x ρ μ=some (.int k,μ))(hy:ev Γ n y ρ μ=some (.int s,μ))(hs:a1f (.lst l) (some k) .none (some s)=some v):ev Γ (n+1) (.slc a (some x) .none (some y)) ρ μ=some (v,μ):=by
 simp only [c3c,h,evo,hc,hy,c3b,f1p,hs,Option.map_some]
theorem d6i(l:List Nat):a8w (l.map fun c=>V.int (c:Nat))=some (l.map fun(c:Nat)=>(c:Int))/\(l.map fun(c:Nat)=>(c:Int)).sum=((l.sum:Nat):Int):=by
 constructor
 ·have:=b2n (l.map fun(c:Nat)=>(c:Int))
  rw [List.map_map]at this;exact this
 ·induction l with
  | nil=>rfl
  | cons a l ih=>rw [List.map_cons,List.sum_cons,ih];rfl
theorem e0z(hz:ns.length<=60)(hc:∀(n:Nat) (args:List V) (μ:Mu),Γ.call n 1 args μ=e1y args μ)(h:ρ.lookup 120=some (vN ns)):ev Γ (N+20) d3c ρ μ=some (vN [a3k ns 0 136,a3k ns 1 154,a3k ns 2 1234,a3k ns 3 37],μ):=by
 have one:∀(k b:Nat) (ρ:Rho),ρ.lookup 120=some (vN ns)->ev Γ (N+19) (.bin .Add (.loc 181) (.call 1 [(.slc (.loc 120) (some (.loc 111)) .none (some (.cst (.int 4))))])) (put 181 (.int b) (put 111 (.int k) ρ)) μ=some (.int (a3k ns k b:Nat),μ):=fun k b ρ h=>by
  have e1:ev Γ (N+17) (.slc (.loc 120) (some (.loc 111)) .none (some (.cst (.int 4)))) (put 181 (.int b) (put 111 (.int k) ρ)) μ=some (vN (b4y ns k),μ):=by
   refine c8n (l:=ns.map fun c=>V.int (c:Nat)) (evl (a5b (a5b h (by decide)) (by decide))) (evl (a5b a0x (by decide))) evc ((d2i (by rw [List.length_map];exact Nat.le_trans hz (by decide))).trans ?_);rw [List.length_map];unfold vN b4y;rw [List.map_filterMap];refine congrArg (fun f=>some (V.lst ((c3r k ns.length).filterMap f))) (funext fun i=>?_);rw [List.getElem?_map]
  refine evb (evl a0x) (v:=.int ((b4y ns k).sum:Nat)) ((a0j (a2i e1)).trans ((hc _ _ _).trans ?_)) rfl;show(a8w ((b4y ns k).map fun c=>V.int (c:Nat))).map _=_;rw [(d6i _).1,← (d6i _).2];rfl
 refine a2w (vs:=[.tup [.int 0,.int 136],.tup [.int 1,.int 154],.tup [.int 2,.int 1234],.tup [.int 3,.int 37]]) ?_ (show 4<=big by decide) ?_
 ·have e1:ev Γ (N+19) (.lst [(.cst (.int 136)),(.cst (.int 154)),(.cst (.int 1234)),(.cst (.int 37))]) ρ μ=some (.lst [.int 136,.int 154,.int 1234,.int 37],μ):=a9u (evn evc (evn evc (evn evc (a2i evc)))) (show 4<=big by decide)
  rw [f2j,e1];rfl
 ·exact b0z (i:=111) (j:=181) (h1:=fun p:Nat×Nat=>V.int p.1) (h2:=fun p:Nat×Nat=>V.int p.2) (g:=fun p=>V.int (a3k ns p.1 p.2:Nat)) (by decide) [(0,136),(1,154),(2,1234),(3,37)] _ fun p zz=>one p.1 p.2 _ ((a6e (own:=[42,111,181]) (i:=120) rfl ρ).trans h)
theorem c9p:ev gF (N+2) c0a ρ μ=some (vS sg,μ):=by
 refine(a4w evc rfl (a2i evc)).trans ?_;show(if([32]:List Nat)≠[]/\sgT.length<=big then some (V.lst ((Txt.split (txt sgT) (txt [32])).map fun p=>.str (c5t p)),μ)else .none)=_;rw [if_pos ⟨by decide,by decide +kernel⟩,← b6y];unfold vS;rw [List.map_map];rfl
noncomputable def nsM(mk k:Nat):Nat:=mk / (k+1)%48
noncomputable def dsM(st k:Nat):Nat:=st / 4 / 3^k%3
theorem b0l(mk k:Nat):nsM mk k<48:=Nat.mod_lt _ (by decide)
theorem b2f(st k:Nat):dsM st k<3:=Nat.mod_lt _ (by decide)
noncomputable def nsW(mk k:Nat):List Nat:=sW (nsM mk k)
theorem d3f{mk:Nat}(hn:n<9)(K:Knows ρ [(107,vS sg),(180,.int (mk:Int)),(124,.int (n:Int))]):ev Γ (N+20) c0w ρ μ=some (.lst (tab n fun k=>.str (nsW mk k)),μ):=by
 have K1:=K.own (own:=[42,111]) rfl;refine a4c (evl (K 124 _ rfl)) (Nat.lt_trans hn (by decide)) fun k hk=>?_;have K2:=K1.put 111 (.int (k:Int));refine a1a (evl (K2 107 _ rfl)) (v:=.int (nsM mk k:Nat)) (evb (evb (evl (K2 180 _ rfl)) (v:=.int ((k+1:Nat):Int)) (evb (evl a0x) evc rfl) (b2h mk (b:=k+1) (Nat.succ_ne_zero _) (Nat.lt_trans (Nat.succ_lt_succ (Nat.lt_trans hk hn)) (by decide)))) evc (a5c _ (b:=48) (by decide))) ?_;have hl:nsM mk k<sg.length:=by rw [c4q];exact b0l mk k
 refine b2x ?_ (by rw [List.length_map,c4q];decide);unfold nsW sW;rw [List.getElem?_map,List.getD_eq_getElem?_getD,List.getElem?_eq_getElem hl];rfl
theorem d3i{st:Nat}(hn:n<9)(K:Knows ρ [(121,.int (st:Int)),(124,.int (n:Int))]):ev Γ (N+20) b9q ρ μ=some (.lst (tab n fun k=>.int (dsM st k:Nat)),μ):=by
 have K1:=K.own (own:=[42,111]) rfl;refine a4c (evl (K 124 _ rfl)) (Nat.lt_trans hn (by decide)) fun k hk=>?_;have K2:=K1.put 111 (.int (k:Int));have hp:a0p .Pow (.int 3) (.int (k:Int))=some (.int ((3^k:Nat):Int)):=by
  have a1:decide (0<=(k:Int))=true:=decide_eq_true (Int.natCast_nonneg k);have a2:decide ((k:Int)<=1000)=true:=decide_eq_true (Int.ofNat_le.mpr (Nat.le_trans (Nat.le_of_lt (Nat.lt_trans hk hn)) (by decide)));rw [b2j,a1,a2,Int.natCast_pow];rfl
 have h3:3^k<2^60:=Nat.lt_of_le_of_lt (Nat.pow_le_pow_right (by decide) (Nat.le_of_lt (Nat.lt_trans hk hn))) (by decide:3^9<2^60);exact evb (evb (evb (evl (K2 121 _ rfl)) evc (b2h st (b:=4) (by decide) (by decide))) (evb evc (evl a0x) hp) (b2h _ (Nat.ne_of_gt (Nat.pow_pos (by decide))) h3)) evc (a5c _ (b:=3) (by decide))
theorem c2o{α:Type}{f:X->Rho->Mu->Option (V×Mu)}{elt:X}{i j:Nat}{h1 h2 g:α->V}{P:Mu->Prop}{d:∀ μ,Decidable (P μ)}(hP:P μ)(hij:i≠j)(l:List α):∀ ρ:Rho,(∀ a∈l,f elt (put j (h2 a) (put i (h1 a) ρ)) μ=some (g a,μ))->@a4e f elt (.many [i,j]) [] P d (l.map fun a=>.tup [h1 a,h2 a]) ρ μ=some (l.map g,μ):=by
 induction l with
 | nil=>intro ρ _;exact if_pos hP
 | cons a l ih=>
  intro ρ H;have e:=ih (put j (h2 a) (put i (h1 a) ρ)) fun b hb=>by rw [b6j hij];exact H b (List.mem_cons_of_mem _ hb)
  refine(if_pos hP).trans ?_;show(match (generalizing:=false) f elt (put j (h2 a) (put i (h1 a) ρ)) μ with
    | .none=>Option.none
    | some (y,μ)=>match @a4e f elt (.many [i,j]) [] P d (l.map fun a=>.tup [h1 a,h2 a]) (put j (h2 a) (put i (h1 a) ρ)) μ with
     | .none=>.none
     | some (ys,μ)=>some (y::ys,μ))=_
  rw [H a List.mem_cons_self];dsimp only;rw [e];rfl
theorem d2p{ds:Nat->Nat}{nw:Nat->List Nat}(hn:n<9)(hd:∀ k,ds k<3)(hw:∀ k,(nw k).length<=3)(K:Knows ρ [(171,.lst (tab n fun k=>.str (nw k))),(182,.lst (tab n fun k=>.int (ds k:Nat)))]):ev Γ (N+20) b9m ρ μ=some (.lst (tab n fun k=>.str (a1j (c0 ds nw k))),μ++[.obj [] (-9)]):=by
 have z:∀ f,(tab n f).length<=big:=fun f=>by rw [a0v];exact Nat.le_trans (Nat.le_of_lt (Nat.lt_trans hn (by decide))) a7t
 show ev Γ (N+19+1) (.comp (d0n (.loc 183)) (.many [177,183]) (.zip (.loc 171) (.loc 182)) [] [42,177,183]) ρ μ=_;have eA:ev Γ (N+19) (.loc 171) ρ μ=some (.lst (tab n fun k=>.str (nw k)),μ):=evl (K 171 _ rfl);have eB:ev Γ (N+19) (.loc 182) ρ μ=some (.lst (tab n fun k=>.int (ds k:Nat)),μ):=evl (K 182 _ rfl);rw [b4z];show d4b (ev Γ (N+19)) (d0n (.loc 183)) (.many [177,183]) (.zip (.loc 171) (.loc 182)) [] ρ (ρ.filter fun p=>!([42,177,183]:List Nat).contains p.1) μ=_;unfold d4b b6i e4v;rw [if_pos (show e7n (.zip (.loc 171) (.loc 182))=true from rfl)];dsimp only;rw [eA];dsimp only;rw [eB];have hz:(tab n fun k=>V.str (nw k)).zip (tab n fun k=>V.int (ds k:Nat))=(List.range n).map fun k=>(V.str (nw k),V.int (ds k:Nat)):=by
  unfold tab;rw [List.zip_map']
 dsimp only;rw [if_pos (by rw [a0v,a0v]),hz,List.map_map];show(if _ then _ else _)=_;rw [if_pos (by show(tab n _).length<=big;exact z _)];rw [show((List.range n).map ((fun p:V×V=>V.tup [p.1,p.2])∘fun k=>(V.str (nw k),V.int (ds k:Nat))))=(List.range n).map fun k=>V.tup [V.str (nw k),V.int (ds k:Nat)]from rfl,
  c2o (P:=fun μ'=>μ'[μ.length]?=some (.obj [] (-9))) (h1:=fun k=>V.str (nw k)) (h2:=fun k=>V.int (ds k:Nat)) (g:=fun k=>V.str (a1j (c0 ds nw k))) (by rw [List.getElem?_append_right (Nat.le_refl _),Nat.sub_self];rfl) (by decide) (List.range n) _ fun k hk=>?_]
 ·rfl
 ·refine a1a (u:=.lst [.str [],.str (nw k),.str (nw k++[63])]) (a9u (evn evc (evn (evl (a5b a0x (by decide))) (a2i (evb (evl (a5b a0x (by decide))) evc (d4p (Nat.le_trans (Nat.add_le_add_right (hw k) 1) (by decide))))))) (show 3<=big by decide)) (evl a0x) ?_
  exact b8b (P:=fun d=>item (.lst [.str [],.str (nw k),.str (nw k++[63])]) (.int (d:Nat))=some (.str (a1j (d,nw k)))) rfl rfl rfl _ (hd k)
end
end
section
noncomputable def drs(ws:List (List Nat))(dr:Nat):List (List Nat×Nat):=ws.zipIdx.map fun p=>(p.1,dr / (p.2+1))
theorem c7l(ws:List (List Nat))(dr:Nat):(drs ws dr).map (·.1)=ws:=by
 unfold drs;rw [List.map_map];exact List.zipIdx_map_fst 0 ws
theorem b6s{w:List Nat}(d:Nat)(h:w.length<=4):(a0o w d).length<=20:=by
 have hw:=Nat.le_trans (b6g w d) (Nat.mul_le_mul_left 2 h);have hg:=b2w d;have hr:=b2z (x:=a3d d) (lt2 (d / 16));unfold a0o;by_cases h0:d%2=0∨w=[]
 ·rw [if_pos h0]
  simp only [List.length_append,List.length_cons,List.length_nil];exact Nat.le_trans (Nat.add_le_add (Nat.add_le_add_right (Nat.add_le_add_left hw 1) 1) (Nat.le_trans hr hg)) (by decide)
 ·rw [if_neg h0,List.length_append]
  exact Nat.le_trans (Nat.add_le_add hw hg) (by decide)
theorem e2i{k:Nat}(l:List (List Nat))(hl:∀ w∈l,w.length<=k):(l.map (·.length)).sum<=k * l.length:=by
 induction l with
 | nil=>exact Nat.le_refl _
 | cons a l ih=>
  rw [List.map_cons,List.sum_cons,List.length_cons,Nat.mul_succ,Nat.add_comm];exact Nat.add_le_add (ih fun w hw=>hl w (List.mem_cons_of_mem _ hw)) (hl a List.mem_cons_self)
theorem c2w{w:List Nat}(h:a4m w)(d:Nat):a4m (a0o w d):=by
 have rp:∀(k:Nat) (l:List Nat),a4m l->a4m (List.replicate k l).flatten:=fun k l hl c hc=>by
  obtain⟨m,hm,hc⟩:=List.mem_flatten.mp hc;rw [(List.mem_replicate.mp hm).2]at hc;exact hl c hc
 have hd:a4m (a2s w d):=fun c hc=>by
  obtain⟨m,hm,hc⟩:=List.mem_flatten.mp hc;obtain⟨x,hx,rfl⟩:=List.mem_map.mp hm;rcases List.mem_append.mp hc with q | q
  ·exact rp _ [92] (fun c hc=>by rw [List.mem_singleton.mp hc];decide) c q
  ·rw [List.mem_singleton.mp q];exact h x hx
 have hg:a4m (a3d d):=(by decide:∀ i<4,∀ c∈gaps.getD i [],c<1114112) _ (Nat.mod_lt _ (by decide));have app:∀ {a b:List Nat},a4m a->a4m b->a4m (a++b):=fun ha hb c hc=>(List.mem_append.mp hc).elim (ha c) (hb c);have h34:a4m [34]:=fun c hc=>by rw [List.mem_singleton.mp hc];decide
 unfold a0o;by_cases h0:d%2=0∨w=[]
 ·rw [if_pos h0];exact app (app (app h34 hd) h34) (rp _ _ hg)
 ·rw [if_neg h0];exact app hd hg
theorem d6p{l:List (List Nat×Nat)}(h:∀ p∈l,goodW p.1):a4m (a1h l):=by
 intro c hc;rw [b5y]at hc;obtain⟨w,hw,hcw⟩:=List.mem_flatten.mp (List.dropLast_subset _ hc);obtain⟨p,hp,rfl⟩:=List.mem_map.mp hw;exact c2w (h p hp).ok p.2 c hcw
section
variable{N n dr:Nat}{ρ:Rho}{μ:Mu}
theorem d9j{ws:List (List Nat)}(h:∀ w∈ws,w.length<=4)(hg:∀ w∈ws,goodW w)(h5:ws.length<20)(h1:ρ.lookup 122=some (.int (dr:Int)))(h2:ρ.lookup 125=some (vS ws))(ok:a3y μ=true) :
  ev gF (N+42) d0f ρ μ=some (.str (a1h (drs ws dr)),μ)/\(a1h (drs ws dr)).length<=400:=by
 have hlen:(((drs ws dr).map fun x=>a0o x.1 x.2).map (·.length)).sum<=400:=by
  refine Nat.le_trans (e2i (k:=20) _ fun w hw=>?_) ?_
  ·obtain⟨p,hp,rfl⟩:=List.mem_map.mp hw
   refine b6s p.2 (h p.1 ?_);rw [← c7l ws dr];exact List.mem_map_of_mem hp
  ·have:(drs ws dr).length=ws.length:=by unfold drs;rw [List.length_map,List.length_zipIdx]
   rw [List.length_map,this];exact Nat.mul_le_mul_left 20 (Nat.le_of_lt h5)
 have e1:ev gF (N+40) (.comp (.call 81 [(.loc 169),(.bin .FloorDiv (.loc 122) (.bin .Add (.loc 111) i1))]) (.many [111,169]) (.enum (.loc 125)) [] [42,111,169]) ρ μ=some (vS ((drs ws dr).map fun x=>a0o x.1 x.2),μ):=by
  have e:vS ((drs ws dr).map fun x=>a0o x.1 x.2)=.lst (ws.zipIdx.map fun p=>V.str (a0o p.1 (dr / (p.2+1)))):=by
   unfold drs vS;rw [List.map_map,List.map_map];rfl
  rw [e];have e2:((ws.map V.str).zipIdx.map fun p=>V.tup [.int (p.2:Nat),p.1])=ws.zipIdx.map fun p=>V.tup [.int (p.2:Nat),.str p.1]:=by
   rw [List.zipIdx_map,List.map_map];rfl
  refine a2w (vs:=ws.zipIdx.map fun p=>V.tup [.int (p.2:Nat),.str p.1]) ?_ (by rw [List.length_map,List.length_zipIdx];exact Nat.le_trans (Nat.le_of_lt h5) (by decide)) ?_
  ·rw [f2j,evl h2]
   exact congrArg (fun l=>some (l,μ)) e2
  ·refine b0z (i:=111) (j:=169) (h1:=fun p:List Nat×Nat=>V.int (p.2:Nat)) (h2:=fun p:List Nat×Nat=>V.str p.1) (by decide) ws.zipIdx _ fun p hp=>?_
   have hw:p.1∈ws:=List.fst_mem_of_mem_zipIdx hp;have hlt:p.2<ws.length:=Nat.lt_of_lt_of_le (List.snd_lt_of_mem_zipIdx hp) (Nat.le_of_eq (Nat.add_zero _));refine(a0j (vs:=[.str p.1,.int ((dr / (p.2+1):Nat):Int)]) (μ₁:=μ) (evn (evl a0x) (a2i (evb (u:=.int (dr:Int)) (v:=.int ((p.2+1:Nat):Int)) (evl (a5b (a5b ((a6e (own:=[42,111,169]) rfl ρ).trans h1) (by decide)) (by decide))) (evb (evl (a5b a0x (by decide))) evc rfl) (b2h dr (b:=p.2+1) (Nat.succ_ne_zero _) (Nat.lt_trans (Nat.succ_lt_succ (Nat.lt_trans hlt h5)) (by decide))))))).trans ?_;exact b5t (N:=N+18) (Nat.le_trans (h p.1 hw) (by decide)) (hg p.1 hw).asc (hg p.1 hw).ok ok
 rw [b5y];generalize ((drs ws dr).map fun x=>a0o x.1 x.2)=l at hlen e1 ⊢;have hfl:l.flatten.length<=400:=by rw [List.length_flatten];exact hlen
 refine⟨b8w (u:=.str l.flatten) ((a4w evc rfl (a2i e1)).trans ?_) a4n (b5g (Nat.le_trans hfl (by decide))),?_⟩
 ·show(match (generalizing:=false) a8v (l.map .str)with | some ts=>if(ts.map List.length).sum+ts.length * 0<=big then some (V.str (b3c [] ts),μ)else .none | .none=>.none)=_
  rw [b2q];refine(if_pos (Nat.le_trans hlen (by decide))).trans ?_;rw [b4s]
 ·rw [List.length_dropLast];exact Nat.le_trans (Nat.sub_le _ _) hfl
end
theorem c2f{ws:List (List Nat)}{dr:Nat}(hg:∀ w∈ws,goodW w)(hz:(a1h (drs ws dr)).length<=400):∃ t ln,1<=ln/\(∀ R:List (List V),AllP R->b2s (stQ (a1h (drs ws dr)) 1 [] R) ws (stQ t ln [] R))/\Tok (stQ t ln [] []) 6 [] (stQ [] (1+lns (a1h (drs ws dr))) [] []):=by
 have hf:=c7l ws dr;generalize drs ws dr=l at hf hz ⊢;have hg:∀ q∈l,goodW q.1:=fun q hq=>hg q.1 (hf▸List.mem_map_of_mem hq);obtain⟨t,ln,a1,a2,a3,a4,a5,a6⟩:=c2z l (a1h l) 1 hg ⟨[],a7i,rfl⟩ (Nat.lt_of_le_of_lt hz (by decide)) (by decide) (d6p hg);have s:=c0z (R:=[]) (fun zz h=>nomatch h) a2 a3 a4;have ll:=a8r t ln;obtain⟨e1,e2⟩:=d4d a1 ln;rw [e2]at ll;rw [e1,e2,show(a0l t ln).2.2=1+lns (a1h l) by
  have:lns []=0:=rfl;omega]at s
 rw [hf]at a6;exact⟨t,ln,a3,a6,s⟩
end
section
theorem d8h(c:Nat)(l:List Nat):cnt c l=((l.count c:Nat):Int):=by
 induction l with
 | nil=>rfl
 | cons d l ih=>
  rw [cnt_cons,ih,List.count_cons];by_cases h:d=c
  ·subst h
   rw [if_pos rfl,if_pos (beq_self_eq_true d),Int.add_comm];rfl
  ·rw [if_neg h,if_neg (bne_iff_ne.mpr h |> fun q=>by simpa using h)]
   simp
theorem f0s:∀ b:Nat,b<9->Builtin.Range.small 1 (b:Nat) 1=true/\Builtin.Range.rangeSize 1 (b:Nat) 1=((b-1:Nat):Int):=by decide +kernel
theorem c8v{b:Nat}(hb:b<9):a4j [.int 1,.int (b:Int)]=some ((List.range' 1 (b-1)).map fun(i:Nat)=>V.int i):=by
 obtain⟨h1,h2⟩:=f0s b hb;rw [d1c h1];unfold a2d;rw [h2,Int.toNat_natCast,List.range'_eq_map_range,List.map_map];exact congrArg some (List.map_congr_left fun i zz=>by rw [Int.mul_one];rfl)
section
variable{N n:Nat}{ρ:Rho}{μ:Mu}{c:Nat->Nat×List Nat}{t T:List Nat}{ln:Int}
theorem d8g(m:Nat):V.lst (a2l n c m)=.lst (((List.range m).map (wsS n c)).map fun r=>V.lst (r.map .str)):=by
 unfold a2l tab;rw [List.map_map];refine congrArg V.lst (List.map_congr_left fun s zz=>?_);show V.lst (tab n _)=V.lst ((wsS n c s).map .str);unfold wsS tab;rw [List.map_map];rfl
theorem b8y(hc:∀ k,k<n->Cel (c k))(m:Nat):∀ a∈wsS n c m,a4m a:=fun a ha=>by
 obtain⟨k,hk,rfl⟩:=List.mem_map.mp ha;have:=(c0e hc m k (List.mem_range.mp hk)).sg.good.ok;unfold a1j c2m;intro x hx;by_cases h0:(a3a n c m k).1=0
 ·rw [if_pos h0]at hx;exact nomatch hx
 ·rw [if_neg h0]at hx
  by_cases h1:(a3a n c m k).1=1
  ·rw [if_pos h1]at hx;exact this x hx
  ·rw [if_neg h1]at hx
   rcases List.mem_append.mp hx with q | q
   ·exact this x q
   ·rw [List.mem_singleton.mp q];decide
theorem e8y{k:Nat}{μ μ':Mu}{w:List Nat}(hl:ρ.lookup 88=some (.mut k))(ht:Tok μ k w μ'):ev gF (N+31) (.meth 22 (.loc 88) []) ρ μ=some (.str w,μ'):=
 (a4w (vs:=[]) (μ₁:=μ) (evl hl) (show(if(22=21∨22=22∨22=23)then a3f μ (.mut k)else b7g 22 (.mut k) μ)=true from(if_pos (Or.inr (Or.inl rfl))).trans ht.1) rfl).trans (ht.2 N)
theorem or3{Γ:G}{n:Nat}{x y z:X}{μ μ':Mu}{r:Option (V×Mu)}(h1:ev Γ n x ρ μ=some (.bool false,μ))(h2:ev Γ n y ρ μ=some (.bool false,μ'))(h3:ev Γ n z ρ μ'=r):ev Γ (n+1) (.or [x,y,z]) ρ μ=r:=by
 show ors (fun x μ=>ev Γ n x ρ μ) [x,y,z] μ=r;rw [f0l,h1];show ors (fun x μ=>ev Γ n x ρ μ) [y,z] μ=r;rw [f0l,h2];exact h3
theorem c5w{m:Nat}(hc:∀ k,k<n->Cel (c k))(hm:0<m)(hT:Tok (stQ t ln [] []) 6 [] (stQ [] (1+lns T) [] []))(K:Knows ρ [(108,.lst (a2l n c m)),(88,.mut 6),(18,.str T)]) :
  ev gF (N+40) c7j ρ (stQ t ln [] [])=some (.bool false,stQ [] (1+lns T) [] []):=by
 have hpos:1<=1+lns T:=Int.le_add_of_nonneg_right (Int.natCast_nonneg _);refine or3 (μ':=stQ [] (1+lns T) [] []) (a0h (v:=.lst []) (evl (K 108 _ rfl)) rfl ?_) ?_ ?_
 ·rw [show look (stQ t ln [] []) (.lst (a2l n c m))=.lst (a2l n c m)from rfl,d8g]
  refine(encRows.cmpEq (by decide) (b:=[]) (fun r hr=>?_) (fun zz h=>nomatch h)).trans (congrArg some (decide_eq_false fun q=>?_))
  ·obtain⟨s,_,rfl⟩:=List.mem_map.mp hr
   exact b8y hc s
  ·have:=congrArg List.length q
   rw [List.length_map,List.length_range]at this;exact absurd this (Nat.ne_of_gt hm)
 ·rw [c9z,e8y (N:=N+7) (K 88 _ rfl) hT]
  dsimp only;rw [evc];dsimp only;rw [show a0s .NotEq (look (stQ [] (1+lns T) [] []) (.str [])) (look (stQ [] (1+lns T) [] []) (.str []))=some false from(encStr.cmpNe (a:=[]) (b:=[]) (by decide) (fun zz h=>absurd h List.not_mem_nil) (fun zz h=>absurd h List.not_mem_nil)).trans (by rw [decide_eq_true rfl];rfl)];rfl
 ·have a2:ev gF (N+37) (.meth 9 (.loc 18) [(.cst (.str [10]))]) ρ (stQ [] (1+lns T) [] [])=some (.int (lns T),stQ [] (1+lns T) [] []):=by
   refine(a4w (evl (K 18 _ rfl)) rfl (a2i evc)).trans ?_;show b1x (.str T) [.str [10]] _=_;have e:Txt.count (txt T) (txt [10])=lns T:=(count_is (txt T) 10).trans (d8h 10 T);rw [f2l,e]
  exact a0h (c4y (evl (K 88 _ rfl)) (if_pos hpos)) (evb evc a2 rfl) (c3v _)
variable{ds:Nat->Nat}{hs:Nat->Int}
theorem c4v{Γ:G}{kh m:Nat}(h:ρ.lookup 172=some (.mut kh))(hk:μ[kh]?=some (.list (tab (m+1) fun k=>.int (hs k))))(hm:m+1<1000):ev Γ (N+4) c5h ρ μ=some (.int (hs m),μ):=by
 refine a1a (u:=.mut kh) (evl h) a4n ?_;rw [a5p hk];refine a0k (j:=m) ?_ (Nat.lt_succ_self m) hm;exact a7a (k:=0) (Nat.succ_le_succ (Nat.zero_le m))
theorem d5z{Γ:G}{a b:X}{x y:Int}(h1:ev Γ n a ρ μ=some (.int x,μ))(h2:ev Γ n b ρ μ=some (.int y,μ))(hn:∀ v:V,ev Γ n (.cst v) ρ μ=some (v,μ))(hn1:∀ v:V,ev Γ (n+1) (.cst v) ρ μ=some (v,μ)):ev Γ (n+3) (e7l a b) ρ μ=some (.int ((x-y+1).fmod 3),μ):=
 evb (evb (evb h1 h2 rfl) (hn1 _) rfl) evc (e1u _)
theorem b4u{L:List (Nat×V)}(hn:n<9)(h1:L.lookup 172=some (.mut 7))(h2:L.lookup 182=some (.lst (tab n fun k=>.int (ds k:Nat))))(h3:L.lookup 111=.none):∀(j m:Nat) (ρ:Rho),m+1+j=n->Knows ρ L →
  ∃ ρ',a6x (fun ρ μ=>exec gF (N+20) d9x ρ μ) (.one 111) ((List.range' (m+1) j).map fun(i:Nat)=>V.int i) ρ (stQ t ln [] [tab (m+1) fun k=>.int (hS ds k)])=some (.next,ρ',stQ t ln [] [tab n fun k=>.int (hS ds k)])/\Knows ρ' L:=by
 have h9:n<1000:=Nat.lt_trans hn (by decide);intro j;induction j with
 | zero=>intro m ρ h K;obtain rfl:m+1=n:=h;exact⟨ρ,rfl,K⟩
 | succ j ih=>
  intro m ρ h K;have hm:m+1<n:=a5l h;have K1:=K.put 111 (.int ((m+1:Nat):Int));have K2:=K1.rest h3;have i1':(put 111 (.int ((m+1:Nat):Int)) ρ).lookup 111=some (.int ((m+1:Nat):Int)):=a0x;have e1:=c1b (Γ:=gF) (M:=N+17) (i:=172) (k:=7) (x:=.bin .Sub (.bin .Add c5h (e7l (.sub (.loc 182) (.loc 111)) (.sub (.loc 182) (.bin .Sub (.loc 111) i1)))) i1) (μ:=stQ t ln [] [tab (m+1) fun k=>.int (hS ds k)]) (l:=tab (m+1) fun k=>.int (hS ds k)) (fun zz zz=>rfl) (fun zz zz zz zz=>rfl) (K2 172 _ h1)
   (evb (evb (c4v (N:=N+12) (hs:=hS ds) (K2 172 _ h1) rfl (Nat.lt_trans hm h9)) (d5z (n:=N+13) (a1a (evl (K2 182 _ h2)) (evl i1') (a0k (a0w hm) hm h9)) (a1a (evl (K2 182 _ h2)) (evb (v:=.int 1) (w:=.int (m:Int)) (evl i1') evc ((b5n _ _).trans (congrArg (fun z=>some (V.int z)) (Int.add_sub_cancel (m:Int) 1:((m+1:Nat):Int)-1=m)))) (a0k (a0w (Nat.lt_of_succ_lt hm)) (Nat.lt_of_succ_lt hm) h9)) (fun zz=>evc) fun zz=>evc) (d5w _ _)) evc (b5n _ _)) rfl (by rw [a0v];exact Nat.le_trans (Nat.le_of_lt (Nat.lt_trans hm h9)) a7t)
  rw [show(stQ t ln [] [tab (m+1) fun k=>.int (hS ds k)]).set 7 (.list ((tab (m+1) fun k=>.int (hS ds k))++[.int (hS ds m+((ds (m+1):Int)-ds m+1).fmod 3-1)]))=stQ t ln [] [tab (m+1+1) fun k=>.int (hS ds k)]from congrArg (fun l=>stQ t ln [] [l]) (a9i (m+1) fun k=>V.int (hS ds k)).symm]at e1;obtain⟨ρ',e2,K3⟩:=ih (m+1) _ ((Nat.add_right_comm ..).trans h) K2;exact⟨ρ',(a2a d1t ((a0a (f:=a0e gF (N+19)) (a4h e1)).trans rfl)).trans e2,K3⟩
end
end
section
section
variable{N n mk st:Nat}{ρ:Rho}{μ:Mu}{t:List Nat}{ln:Int}
theorem c8b(mk k:Nat):(nsW mk k).length<=3:=(sgK (b0l mk k)).len
noncomputable def cM(st mk:Nat):Nat->Nat×List Nat:=c0 (dsM st) (nsW mk)
theorem b6h(st mk k:Nat):Cel (cM st mk k):=⟨b2f st k,e3v (b0l mk k)⟩
theorem e0x{s:Nat}(h5:5<=n)(hn:n<9)(hs:s<10)(K:Knows ρ [(171,.lst (tab n fun k=>.str (nsW mk k))),(172,.mut 7),(173,.int (b4q n (dsM st))),(124,.int (n:Int)),(157,.int (s:Int))]):ev gF (N+50) d8n ρ (stQ t ln [] [tab n fun k=>.int (hS (dsM st) k)])=some (a9e n (a3a n (cM st mk) s),stQ t ln [] [tab n fun k=>.int (hS (dsM st) k)]):=by
 have K1:=K.own (own:=[42,174]) rfl;refine a4c (evl (K 124 _ rfl)) (Nat.lt_trans hn (by decide)) fun p hp=>?_;have K2:=K1.put 174 (.int (p:Int));refine(a0j (vs:=[.lst (tab n fun k=>.str (nsW mk k)),.mut 7,.int (b4q n (dsM st)),.int (p:Int),.int (s:Int)]) (evn (evl (K2 171 _ rfl)) (evn (evl (K2 172 _ rfl)) (evn (evl (K2 173 _ rfl)) (evn (evl a0x) (a2i (evl (K2 157 _ rfl)))))))).trans ?_;refine(d1z (N:=N+8) hp hn (Nat.lt_trans hs (by decide)) rfl (fun d hd j hj=>c8a h5 hn (b2f st) hp (Nat.lt_of_le_of_lt hd hs) j hj) (c8b mk) (a4k fun l hl=>?_)).trans ?_
 ·rw [List.mem_singleton.mp hl];exact a4b fun zz=>rfl
 ·rw [e2g (Nat.lt_of_lt_of_le (by decide) h5) (b2f st) hp];rfl
theorem b9p{m j:Nat}{q:Int}(hm:m<1000)(hq:seqIndex? q m=some j)(hj:j<m)(c:Nat->Nat×List Nat):item (.lst (a2l n c m)) (.int q)=some (a9e n (a3a n c j)):=a0k hq hj hm
theorem b6w(c:Nat->Nat×List Nat)(s:Nat):a9e n (a3a n c s)=.lst ((wsS n c s).map .str):=by
 unfold wsS a9e tab;rw [List.map_map];rfl
theorem c8r{L:List (Nat×V)}(h5:5<=n)(hn:n<9)(h1:L.lookup 171=some (.lst (tab n fun k=>.str (nsW mk k))))(h2:L.lookup 172=some (.mut 7))(h3:L.lookup 173=some (.int (b4q n (dsM st))))(h4:L.lookup 124=some (.int (n:Int)))(h6:L.lookup 108=some (.lst (a2l n (cM st mk) (n / 2+4))))(h7:L.lookup 157=.none):∀(j m:Nat) (ρ:Rho),m+j=n / 2+3->Knows ρ L →
  ∃ ρ',a6x (fun ρ μ=>exec gF (N+60) d8x ρ μ) (.one 157) ((List.range' m j).map fun(i:Nat)=>V.int i) ρ (stQ t ln [] [tab n fun k=>.int (hS (dsM st) k)])=some (.next,ρ',stQ t ln [] [tab n fun k=>.int (hS (dsM st) k)])/\Knows ρ' L:=by
 intro j;induction j with
 | zero=>intro m ρ h K;exact⟨ρ,rfl,K⟩
 | succ j ih=>
  intro m ρ h K;have hm:m<n / 2+3:=a5l h;have hm9:m<10:=Nat.lt_of_lt_of_le hm (Nat.add_le_add_right ((by decide:∀ n<9,n / 2<=7) n hn) 3);have K1:=(K.put 157 (.int (m:Int)));have K2:=K1.rest h7;have e1:=e0x (N:=N+8) (t:=t) (ln:=ln) h5 hn hm9 (Knows.cons (K2 171 _ h1) (Knows.cons (K2 172 _ h2) (Knows.cons (K2 173 _ h3) (Knows.cons (K2 124 _ h4) (Knows.cons (a0x (j:=157) (u:=.int (m:Int)) (ρ:=ρ)) Knows.nil)))));have e2:ev gF (N+59) (.cmp .NotEq (.sub (.loc 108) (.loc 157)) d8n) (put 157 (.int (m:Int)) ρ) (stQ t ln [] [tab n fun k=>.int (hS (dsM st) k)])=some (.bool false,stQ t ln [] [tab n fun k=>.int (hS (dsM st) k)]):=by
   refine a0h (a1a (evl (K2 108 _ h6)) (evl a0x) (b9p (Nat.lt_trans (b1b hn 4) (by decide)) (a0w (Nat.lt_succ_of_lt hm)) (Nat.lt_succ_of_lt hm) _)) e1 ?_;show a0s .NotEq (a9e n (a3a n (cM st mk) m)) (a9e n (a3a n (cM st mk) m))=some false;rw [b6w];exact(encStrs.cmpNe (by decide) (b8y (fun k zz=>b6h st mk k) m) (b8y (fun k zz=>b6h st mk k) m)).trans (by rw [decide_eq_true rfl];rfl)
  obtain⟨ρ',e3,K3⟩:=ih (m+1) _ ((Nat.add_right_comm ..).trans h) K2;exact⟨ρ',(a2a d1t ((a0a (f:=a0e gF (N+59)) (c7b (N:=N+58) e2)).trans rfl)).trans e3,K3⟩
theorem f3h{f:X->Mu->Option (V×Mu)}{a b:X}:a1s f (.sub a b) μ=(match f (.sub a b) μ with
  | some (v,μ)=>(a5s v).map (·,μ)
  | .none=>.none):=rfl
theorem d1x(hn:n<9)(K:Knows ρ [(108,.lst (a2l n (cM st mk) (n / 2+4))),(107,vS sg)]):ev gF (N+20) d5x ρ μ=some (.int (a6o n (a3a n (cM st mk) (n / 2+3)):Nat),μ):=by
 have h9:n<1000:=Nat.lt_trans hn (by decide);have h10:(tab n fun k=>V.str (a1j (a3a n (cM st mk) (n / 2+3) k))).length<=big:=by rw [a0v];exact Nat.le_trans (Nat.le_of_lt h9) a7t
 have K1:=K.own (own:=[42,82]) rfl;have e1:ev gF (N+18) (.sub (.loc 108) (.neg i1)) ρ μ=some (a9e n (a3a n (cM st mk) (n / 2+3)),μ):=
  a1a (evl (K 108 _ rfl)) a4n (b9p (Nat.lt_trans (b1b hn 4) (by decide)) (a7a (k:=0) (Nat.succ_le_succ (Nat.zero_le _))) (Nat.lt_succ_self _) _)
 have e2:=a2w (Γ:=gF) (n:=N+18) (ρ:=ρ) (μ:=μ) (μ':=μ) (it:=.sub (.loc 108) (.neg i1)) (t:=.one 82) (elt:=.loc 82) (ifs:=[.cmp .In (.loc 82) (.loc 107)]) (own:=[42,82]) (vs:=tab n fun k=>V.str (a1j (a3a n (cM st mk) (n / 2+3) k))) (by rw [f3h,e1];rfl) h10
  (a8s (h:=fun k=>V.str (a1j (a3a n (cM st mk) (n / 2+3) k))) (g:=fun k=>V.str (a1j (a3a n (cM st mk) (n / 2+3) k))) (p:=fun k=>decide ((a3a n (cM st mk) (n / 2+3) k).1=1)) (List.range n) _ (fun k hk=>?_) fun zz zz zz=>evl a0x)
 ·have hl:(((List.range n).filter fun k=>decide ((a3a n (cM st mk) (n / 2+3) k).1=1)).map fun k=>V.str (a1j (a3a n (cM st mk) (n / 2+3) k))).length<=big:=by
   rw [List.length_map];exact Nat.le_trans (List.length_filter_le _ _) (by rw [List.length_range];exact Nat.le_trans (Nat.le_of_lt h9) a7t)
  have e3:=b6f (Γ:=gF) (fun zz zz zz=>rfl) e2 hl;rw [List.length_map]at e3;exact e3
 ·have hw:a3a n (cM st mk) (n / 2+3) k=((d0k n (dsM st) (n / 2+3) k).1,sW (nsM mk (d0k n (dsM st) (n / 2+3) k).2)):=b5q (ns:=nsW mk) _ k
  refine a0h (evl a0x) (evl (a5b (K1 107 _ rfl) (by decide))) ?_;rw [hw];refine(encStr.cmpIn (by decide) (b0w (b0l mk _)).ok fun b hb=>?_).trans (congrArg some (decide_eq_decide.mpr (e0b (a5i (b2f st) _ k) (b0l mk _))));obtain⟨i,hi,rfl⟩:=List.mem_iff_getElem.mp hb;have hi8:i<48:=by rw [← c4q];exact hi
  have:=(sgK hi8).good.ok;unfold sW at this;rw [List.getD_eq_getElem?_getD,List.getElem?_eq_getElem hi]at this;exact this
end
end
section
noncomputable def e6i:Prop:=∀ zs:List Int,zs.length<=63->∃ n ρ₂ is rest,n<=500/\exec gF n F2_law [(119,.lst (zs.map .int))] [.obj [] (-1)]=some (.ret (.bool true),ρ₂,.obj is (-5)::rest)
noncomputable def a3g(a:Int):Int:=b2i (decide (a>0))-b2i (decide (a<0))
theorem a6c{l:List V}{lo hi:Option Int}{a b:Nat}(hz:l.length<=big)(h1:lo.elim 0 (clipAt l.length)=a)(h2:hi.elim l.length (clipAt l.length)=b):a1f (.lst l) lo hi .none=some (.lst ((l.drop a).take (b-a))):=by
 rw [b5o hz,sliceBounds_plain,h1,h2];dsimp only;rw [sliceRange_one,e3u]
section
variable{N n mk st m:Nat}{ρ:Rho}{μ:Mu}{A B r r':List (List Nat)}{a:Int}
theorem b5z(hm:0<m)(h:m<1000)(c:Nat->Nat×List Nat):item (.lst (a1r n c m)) (.int 0)=some (.int (a0z n c)):=a0k (j:=0) (a0w hm) hm h
theorem d2v{Γ:G}(hm:0<m)(h:m<1000){c:Nat->Nat×List Nat}(K:ρ.lookup 163=some (.lst (a1r n c m))):ev Γ (N+10) d5g ρ μ=some (.int (a3g (a0z n c)),μ):=
 evb (a0h (a1a (evl K) evc (b5z hm h c)) evc rfl) (a0h (a1a (evl K) evc (b5z hm h c)) evc rfl) rfl
inductive Rot(a:Int)(r r':List (List Nat)):Prop
 | zero (h:a=0) (e:r'=r)
 | left (h:a=1) (x:List Nat) (l:List (List Nat)) (h1:r=x::l) (h2:r'=l++[x])
 | right (h:a = -1) (x:List Nat) (l:List (List Nat)) (h1:r=l++[x]) (h2:r'=x::l)
theorem c1s(h:Rot a r r')(hz:r.length<=1000):∃ A B,a1f (.lst (r.map .str)) (some a) .none .none=some (.lst (A.map .str))/\a1f (.lst (r.map .str)) .none (some a) .none=some (.lst (B.map .str))/\r'=A++B:=by
 have hb:(r.map V.str).length<=big:=by rw [List.length_map];exact Nat.le_trans hz a7t
 rcases h with⟨rfl,rfl⟩ | ⟨rfl,x,l,rfl,rfl⟩ | ⟨rfl,x,l,rfl,rfl⟩
 ·refine⟨r',[],(a6c (a:=0) hb ?_ rfl).trans ?_,(a6c (b:=0) hb rfl ?_).trans rfl,(List.append_nil _).symm⟩
  ·exact(clipAt_nat _ 0).trans (Nat.zero_min _)
  ·rw [Nat.sub_zero,List.drop_zero]
   exact congrArg (fun l=>some (V.lst l)) (List.take_length ..)
  ·exact(clipAt_nat _ 0).trans (Nat.zero_min _)
 ·have c1:clipAt ((x::l).map V.str).length 1=1:=(clipAt_nat _ 1).trans (Nat.min_eq_left (by rw [List.length_map];exact Nat.succ_le_succ (Nat.zero_le _)))
  refine⟨l,[x],(a6c (lo:=some 1) (a:=1) hb c1 rfl).trans ?_,(a6c (hi:=some 1) (b:=1) hb rfl c1).trans rfl,rfl⟩;show some (V.lst ((l.map V.str).take ((l.map V.str).length+1-1)))=_;rw [Nat.add_sub_cancel,List.take_length]
 ·have c1:clipAt ((l++[x]).map V.str).length (-1)=l.length:=(clipAt_neg _ 1 (Nat.le_refl 1)).trans (by rw [List.length_map,List.length_append,List.length_singleton,Nat.add_sub_cancel])
  refine⟨[x],l,(a6c (lo:=some (-1)) hb c1 rfl).trans ?_,(a6c (hi:=some (-1)) (a:=0) hb rfl c1).trans ?_,rfl⟩
  ·show some (V.lst ((((l++[x]).map V.str).drop l.length).take (((l++[x]).map V.str).length-l.length)))=_
   rw [← List.map_drop,List.drop_left,List.length_map,List.length_append,Nat.add_sub_cancel_left];rfl
  ·rw [Nat.sub_zero,List.drop_zero,← List.map_take,List.take_left]
theorem e0s{c:Nat->Nat×List Nat}(h:c6w n c):a0z n c=3 * a3g (a0z n c) * a6o n (a3a n c (n / 2+3))/\Rot (a3g (a0z n c)) (wsS n c (n / 2+2)) (wsS n c (n / 2+3)):=by
 rcases h with⟨h1,h2⟩ | ⟨h1,h0,x,l,h2,h3⟩ | ⟨h1,h0,x,l,h2,h3⟩
 ·rw [h1]
  exact⟨(Int.zero_mul _).symm,.zero rfl h2⟩
 ·have e:a3g (a0z n c)=1:=by
   unfold a3g;rw [decide_eq_true h0,decide_eq_false (Int.not_lt.mpr (Int.le_of_lt h0))];rfl
  exact⟨by rw [e];exact h1,.left e x l h2 h3⟩
 ·have e:a3g (a0z n c) = -1:=by
   unfold a3g;rw [decide_eq_true h0,decide_eq_false (Int.not_lt.mpr (Int.le_of_lt h0))];rfl
  exact⟨by rw [e];exact h1.trans (Int.neg_mul 3 _).symm,.right e x l h3 h2⟩
theorem f2s{Γ:G}{x y:X}(hx:ev Γ n x ρ μ=some (.bool true,μ))(hy:ev Γ n y ρ μ=some (.bool true,μ)):ev Γ (n+1) (.and [x,y]) ρ μ=some (.bool true,μ):=by
 show d1r (fun x μ=>ev Γ n x ρ μ) [x,y] μ=_;rw [e8f,hx];exact hy
theorem a9r(m:Nat){c:Nat->Nat×List Nat}:(a2l n c m).length=m:=a0v _ _
theorem d9g(h5:5<=n)(hn:n<9)(K:Knows ρ [(108,.lst (a2l n (cM st mk) (n / 2+4))),(163,.lst (a1r n (cM st mk) (n / 2+4))),(184,.int (a6o n (a3a n (cM st mk) (n / 2+3)):Nat)),(185,.int (a3g (a0z n (cM st mk))))]):ev gF (N+30) e4i ρ μ=some (.bool true,μ):=by
 obtain⟨t1,t2⟩:(∀ t,t<=n / 2+3->a0z n (a3a n (cM st mk) t)=a0z n (cM st mk))/\c6w n (cM st mk):=d9f (ns:=nsW mk) h5 hn (b2f st);obtain⟨e1,e2⟩:=e0s t2;have hm:n / 2+4<100:=Nat.lt_trans (b1b hn 4) (by decide);have lb:(a2l n (cM st mk) (n / 2+4)).length<=big:=by rw [a9r];exact Nat.le_trans (Nat.le_of_lt hm) (by decide)
 have ro:∀ s,∀ a∈wsS n (cM st mk) s,a4m a:=b8y fun k zz=>b6h st mk k;have wl:∀ s,(wsS n (cM st mk) s).length=n:=fun s=>(List.length_map ..).trans List.length_range;refine f2s ?_ ?_
 ·have l1:=b6f (Γ:=gF) (n:=N+26) (x:=.loc 108) (ρ:=ρ) (μ:=μ) (fun zz zz zz=>rfl) (evl (K 108 _ rfl)) lb
  rw [a9r]at l1;have sm:small (3 * a3g (a0z n (cM st mk)))=true:=by
   have:a3g (a0z n (cM st mk))=0∨a3g (a0z n (cM st mk))=1∨a3g (a0z n (cM st mk)) = -1:=by rcases e2 with⟨h,_⟩ | ⟨h,_⟩ | ⟨h,_⟩<;>rw [h]<;>decide
   rcases this with h | h | h<;>rw [h]<;>rfl
  have e3:a1r n (cM st mk) (n / 2+4)=((List.replicate (n / 2+4) (a0z n (cM st mk)):List Int)).map .int:=by
   unfold a1r tab;rw [List.map_replicate];refine(List.map_congr_left fun s hs=>?_).trans (List.map_const' ..) |>.trans (by rw [List.length_range])
   rw [t1 s (Nat.le_of_lt_succ (List.mem_range.mp hs))]
  refine a0h (evl (K 163 _ rfl)) (evb (u:=.lst [.int (a0z n (cM st mk))]) (a9u (a2i ?_) (show 1<=big by decide)) l1 (w:=.lst ((List.replicate (n / 2+4) (a0z n (cM st mk)):List Int).map .int)) ?_) ?_
  ·have:=evb (Γ:=gF) (n:=N+25) (ρ:=ρ) (μ:=μ) (op:=.Mult) (a:=.bin .Mult i3 (.loc 185)) (b:=.loc 184) (w:=.int (3 * a3g (a0z n (cM st mk)) * (a6o n (a3a n (cM st mk) (n / 2+3)):Nat))) (evb (w:=.int (3 * a3g (a0z n (cM st mk)))) evc (evl (K 185 _ rfl)) rfl) (evl (K 184 _ rfl)) (a6w sm)
   rw [show(3 * a3g (a0z n (cM st mk)) * (a6o n (a3a n (cM st mk) (n / 2+3)):Nat))=a0z n (cM st mk)from e1.symm]at this;exact this
  ·show a0p .Mult (.lst [.int (a0z n (cM st mk))]) (.int ((n / 2+4:Nat):Int))=_
   rw [b1v,a5d (Nat.lt_trans hm (by decide)),Int.toNat_natCast,Bool.and_true,if_pos (decide_eq_true (by rw [List.length_singleton,Nat.one_mul];exact Nat.le_trans (Nat.le_of_lt hm) (by decide))),List.map_replicate,List.flatten_replicate_singleton]
  ·show a0s .Eq (.lst (a1r n (cM st mk) (n / 2+4))) _=_
   rw [e3];exact(encInts.cmpEq (by decide) (fun zz zz=>trivial) (fun zz zz=>trivial)).trans (by rw [decide_eq_true rfl])
 ·obtain⟨A,B,s1,s2,s3⟩:=c1s e2 (by rw [wl];omega)
  have rl:∀ M,ev gF (M+5) e8w ρ μ=some (.lst ((wsS n (cM st mk) (n / 2+2)).map .str),μ):=fun M=>by
   rw [← b6w];exact a1a (evl (K 108 _ rfl)) (v:=.int (-2)) rfl (b9p (Nat.lt_trans hm (by decide)) (a7a (k:=1) (Nat.le_add_left 2 (n / 2+2))) (Nat.lt_succ_of_lt (Nat.lt_succ_self _)) _)
  have la:A.length+B.length=n:=by rw [← List.length_append,← s3,wl]
  refine a0h (u:=.lst ((wsS n (cM st mk) (n / 2+3)).map .str)) (v:=.lst ((wsS n (cM st mk) (n / 2+3)).map .str)) ?_ (evb (c0o (rl (N+22)) (evl (K 185 _ rfl)) s1) (b8w (rl (N+22)) (evl (K 185 _ rfl)) s2) ?_) ((encStrs.cmpEq (by decide) (ro _) (ro _)).trans (by rw [decide_eq_true rfl]))
  ·rw [← b6w]
   exact a1a (evl (K 108 _ rfl)) a4n (b9p (Nat.lt_trans hm (by decide)) (a7a (k:=0) (Nat.succ_le_succ (Nat.zero_le _))) (Nat.lt_succ_self _) _)
  ·show a0p .Add (.lst (A.map .str)) (.lst (B.map .str))=_
   rw [b1y,if_pos (decide_eq_true (by rw [List.length_map,List.length_map,la];exact Nat.le_trans (Nat.le_of_lt hn) (Nat.le_trans (by decide) a7t))),s3,List.map_append]
end
end
section
section
variable{N n mk st dr b:Nat}{ρ:Rho}{μ:Mu}
theorem a1k{f:Mine.S->Rho->Mu->Option (F×Rho×Mu)}{s:Mine.S}{r:List Mine.S}{ρ ρ':Rho}{μ μ' μ₂:Mu}{x:V}(h:f s ρ μ=some (.next,ρ',μ'))(k:∃ v,a3j f r ρ' μ'=some (.ret x,v,μ₂)):∃ v,a3j f (s::r) ρ μ=some (.ret x,v,μ₂):=let⟨v,e⟩:=k;⟨v,(a0a h).trans e⟩
theorem b4v{Γ:G}{n i j k l:Nat}{e:X}{a b c d:V}(h:ev Γ n e ρ μ=some (.lst [a,b,c,d],μ)):a0e Γ n (.unpack [i,j,k,l] e) ρ μ=some (.next,put l d (put k c (put j b (put i a ρ))),μ):=by
 rw [a9o,h];rfl
noncomputable def b8e:List Mine.S:=F2_law.drop 8
theorem d7m(h5:5<=n)(hn:n<9)(hz:(a1h (drs (wsS n (cM st mk) 0) dr)).length<=400)
  (K:Knows ρ [(18,.str (a1h (drs (wsS n (cM st mk) 0) dr))),(107,vS sg),(171,.lst (tab n fun k=>.str (nsW mk k))),(182,.lst (tab n fun k=>.int (dsM st k:Nat))),(124,.int (n:Int)),(123,.int (b:Int))]) :
  ∃ ln R v,a3j (a0e gF (N+120)) b8e ρ [.obj [] (-1),.obj [] (-9)]=some (.ret (.bool true),v,stQ [] ln [] R):=by
 have h9:n<1000:=Nat.lt_trans hn (by decide);have h0:0<n:=Nat.lt_of_lt_of_le (by decide) h5;have hc:∀ k,k<n->Cel (cM st mk k):=fun k zz=>b6h st mk k;have hg:∀ w∈wsS n (cM st mk) 0,goodW w:=fun w hw=>by
  obtain⟨k,_,rfl⟩:=List.mem_map.mp hw;exact b0w (b0l mk k)
 obtain⟨t,ln,a1,a2,a3⟩:=c2f hg hz;generalize a1h (drs (wsS n (cM st mk) 0) dr)=T at *;have s1:a0e gF (N+120) (.lexer 88 (.call 34 [.loc 18])) ρ [.obj [] (-1),.obj [] (-9)]=some (.next,put 88 (.mut 6) ρ,stQ T 1 [] []):=by
  have e:ev gF (N+120) (.call 34 [.loc 18]) ρ [.obj [] (-1),.obj [] (-9)]=some (.mut 4,[.obj [3] (-5),.obj [] (-9),.list (chars T),.obj [] (-6),.obj [2,3] (-3)]):=by
   refine(a0j (vs:=[.str T]) (a2i (evl (K 18 _ rfl)))).trans ?_;show(if 11<=N+119 then(a7h [.obj [] (-1),.obj [] (-9)] T).map fun p=>(V.mut p.1,p.2)else .none)=_;rw [if_pos (Nat.le_trans (by decide) (Nat.le_add_left 119 N))];unfold a7h;rw [if_pos (Nat.le_trans hz (by decide))];rfl
  rw [d8p,e];have h12:(gF.lexOn&&decide (12<=N+120))=true:=by
   rw [decide_eq_true (Nat.le_trans (by decide) (Nat.le_add_left 120 N))];rfl
  rw [h12];rfl
 have k1:=K.put 88 (.mut 6);generalize put 88 (.mut 6) ρ=ρ1 at s1 k1;have e2:ev gF (N+120) (.call 104 [.loc 88,.loc 124,.bin .Mod (.loc 123) (.cst (.int 64))]) ρ1 (stQ T 1 [] [])=some (.tup [.lst (a2l n (cM st mk) (n / 2+4)),.lst (a1r n (cM st mk) (n / 2+4))],stQ t ln [] []):=
  (a0j (vs:=[.mut 6,.int (n:Int),.int ((b%64:Nat):Int)]) (evn (evl (k1 88 _ rfl)) (evn (evl (k1 124 _ rfl)) (a2i (evb (evl (k1 123 _ rfl)) evc (a5c b (b:=64) (by decide))))))).trans (d1j (N:=N+29) hc h0 hn (Nat.mod_lt _ (by decide)) (by decide) a1 a2)
 have s2:=a1m (i:=108) (j:=163) e2;have k2:=(k1.put 108 (.lst (a2l n (cM st mk) (n / 2+4)))).put 163 (.lst (a1r n (cM st mk) (n / 2+4)));generalize put 163 (.lst (a1r n (cM st mk) (n / 2+4))) (put 108 (.lst (a2l n (cM st mk) (n / 2+4))) ρ1)=ρ2 at s2 k2;have e3:=c5w (N:=N+80) hc (Nat.succ_pos (n / 2+3)) a3 (Knows.cons (k2 108 _ rfl) (Knows.cons (k2 88 _ rfl) (Knows.cons (k2 18 _ rfl) Knows.nil)));have s3:a0e gF (N+120) (.ite c7j [.ret (.cst (.bool false))] []) ρ2 (stQ t ln [] [])=some (.next,ρ2,stQ [] (1+lns T) [] []):=by
  rw [c6k,e3];rfl
 generalize 1+lns T=L at s3;have e4:ev gF (N+120) (.mlst [.sub (.loc 182) i0]) ρ2 (stQ [] L [] [])=some (.mut 7,stQ [] L [] [tab 1 fun k=>.int (hS (dsM st) k)]):=
  b8o (vs:=[.int (dsM st 0:Nat)]) (a8i (a1a (evl (k2 182 _ rfl)) evc (a0k (j:=0) (a0w h0) h0 h9))) (show 1<=big by decide)
 obtain⟨ρ3,s4,k3⟩:=a2x (i:=172) e4 k2;have k3':Knows ρ3 [(172,.mut 7),(163,.lst (a1r n (cM st mk) (n / 2+4))),(108,.lst (a2l n (cM st mk) (n / 2+4))),(107,vS sg),(171,.lst (tab n fun k=>.str (nsW mk k))),(182,.lst (tab n fun k=>.int (dsM st k:Nat))),(124,.int (n:Int))]:=
  Knows.cons (k3 172 _ rfl) (Knows.cons (k3 163 _ rfl) (Knows.cons (k3 108 _ rfl) (Knows.cons (k3 107 _ rfl) (Knows.cons (k3 171 _ rfl) (Knows.cons (k3 182 _ rfl) (Knows.cons (k3 124 _ rfl) Knows.nil))))))
 obtain⟨ρ4,e5,k4⟩:=b4u (N:=N+100) (t:=[]) (ln:=L) (ds:=dsM st) hn rfl rfl rfl (n-1) 0 ρ3 (by omega) k3';have s5:a0e gF (N+120) (.for (.one 111) (.range [i1,(.loc 124)]) d9x) ρ3 (stQ [] L [] [tab 1 fun k=>.int (hS (dsM st) k)])=some (.next,ρ4,stQ [] L [] [tab n fun k=>.int (hS (dsM st) k)]):=by
  refine(a6g (vs:=(List.range' 1 (n-1)).map fun(i:Nat)=>V.int i) ?_).trans e5;rw [f1x,evn evc (a2i (evl (k3 124 _ rfl)))];show(a4j [.int 1,.int (n:Int)]).map _=_;rw [c8v hn];rfl
 have hn1:n-1+1=n:=Nat.sub_add_cancel h0;have lh:∀ M ρ,Knows ρ [(172,.mut 7)]->ev gF (M+4) c5h ρ (stQ [] L [] [tab n fun k=>.int (hS (dsM st) k)])=some (.int (hS (dsM st) (n-1)),stQ [] L [] [tab n fun k=>.int (hS (dsM st) k)]):=fun M ρ K=>
  c4v (hs:=hS (dsM st)) (m:=n-1) (K 172 _ rfl) (by rw [hn1];rfl) (by rw [hn1];exact h9)
 have e6:ev gF (N+120) f2f ρ4 (stQ [] L [] [tab n fun k=>.int (hS (dsM st) k)])=some (.int (b4q n (dsM st)),stQ [] L [] [tab n fun k=>.int (hS (dsM st) k)]):=by
  have q0:=a1a (Γ:=gF) (n:=N+113) (μ:=stQ [] L [] [tab n fun k=>.int (hS (dsM st) k)]) (b:=i0) (evl (k4 182 _ rfl)) evc (a0k (j:=0) (a0w h0) h0 h9);have q1:=a1a (Γ:=gF) (n:=N+113) (μ:=stQ [] L [] [tab n fun k=>.int (hS (dsM st) k)]) (b:=.neg i1) (evl (k4 182 _ rfl)) a4n (a0k (j:=n-1) (a7a (k:=0) h0) (Nat.sub_lt h0 Nat.one_pos) h9);have q2:=a1a (Γ:=gF) (n:=N+118) (a:=.loc 172) (μ:=stQ [] L [] [tab n fun k=>.int (hS (dsM st) k)]) (b:=i0) (w:=.int (hS (dsM st) 0)) (evl (k4 172 _ rfl)) evc (a0k (j:=0) (a0w h0) h0 h9);exact evb (evb (evb (lh (N+113) ρ4 (Knows.cons (k4 172 _ rfl) Knows.nil)) (d5z q0 q1 (fun zz=>evc) fun zz=>evc) (d5w _ _)) evc (b5n _ _)) q2 (b5n _ _)
 obtain⟨ρ5,s6,k5⟩:=a2x (i:=173) e6 k4;obtain⟨ρ6,e7,k6⟩:=c8r (N:=N+60) (t:=[]) (ln:=L) (mk:=mk) (st:=st) h5 hn rfl rfl rfl rfl rfl rfl (n / 2+3) 0 ρ5 (Nat.zero_add _) k5;have s7:a0e gF (N+120) (.for (.one 157) (.range [(.bin .Sub (.call 0 [(.loc 108)]) i1)]) d8x) ρ5 (stQ [] L [] [tab n fun k=>.int (hS (dsM st) k)])=some (.next,ρ6,stQ [] L [] [tab n fun k=>.int (hS (dsM st) k)]):=by
  have l1:=b6f (Γ:=gF) (n:=N+118) (x:=.loc 108) (ρ:=ρ5) (μ:=stQ [] L [] [tab n fun k=>.int (hS (dsM st) k)]) (fun zz zz zz=>rfl) (evl (k5 108 _ rfl)) (by rw [a9r];exact Nat.le_trans (Nat.le_of_lt (b1b hn 4)) (by decide));rw [a9r]at l1;rw [← List.range_eq_range']at e7;exact(a6g (a6f (m:=n / 2+3) (evb l1 evc ((b5n _ _).trans (congrArg (fun z=>some (V.int z)) (Int.add_sub_cancel ((n / 2+3:Nat):Int) 1:((n / 2+4:Nat):Int)-1=((n / 2+3:Nat):Int))))) (Nat.lt_trans (b1b hn 3) (by decide)))).trans e7
 have e8:=d1x (N:=N+100) (μ:=stQ [] L [] [tab n fun k=>.int (hS (dsM st) k)]) (st:=st) (mk:=mk) hn (Knows.cons (k6 108 _ rfl) (Knows.cons (k6 107 _ rfl) Knows.nil));obtain⟨ρ7,s8,k7⟩:=a2x (i:=184) e8 k6;have e9:=d2v (Γ:=gF) (N:=N+110) (μ:=stQ [] L [] [tab n fun k=>.int (hS (dsM st) k)]) (Nat.succ_pos (n / 2+3)) (by omega) (k7 163 _ rfl);obtain⟨ρ8,s9,k8⟩:=a2x (i:=185) e9 k7;have e10:=d9g (N:=N+90) (μ:=stQ [] L [] [tab n fun k=>.int (hS (dsM st) k)]) (st:=st) (mk:=mk) h5 hn (Knows.cons (k8 108 _ rfl) (Knows.cons (k8 163 _ rfl) (Knows.cons (k8 184 _ rfl) (Knows.cons (k8 185 _ rfl) Knows.nil))));exact⟨L,_,a1k s1 (a1k s2 (a1k s3 (a1k s4 (a1k s5 (a1k s6 (a1k s7 (a1k s8 (a1k s9 ⟨_,a6k e10⟩))))))))⟩
noncomputable def c8q:List Mine.S:=[.assign 120 d0l,.unpack [121,180,122,123] d3c,.assign 124 (.bin .Add (.cst (.int 5)) (.bin .Mod (.loc 121) (.cst (.int 4)))),.assign 107 c0a,.assign 171 c0w,.assign 182 b9q,.assign 125 b9m,.assign 18 d0f]
theorem e4o{zs:List Int}(hz:zs.length<=63):∃ ln R v,a3j (a0e gF (N+120)) (c8q++b8e) [(119,.lst (zs.map .int))] [.obj [] (-1)]=some (.ret (.bool true),v,stQ [] ln [] R):=by
 have k0:Knows [(119,V.lst (zs.map .int))] [(119,V.lst (zs.map .int))]:=Knows.self;have e1:ev gF (N+120) d0l [(119,.lst (zs.map .int))] [.obj [] (-1)]=some (vN (a9y zs),[.obj [] (-1)]):=d6k (N:=N+100) hz rfl;have hns:=c1u hz;obtain⟨ρ1,s1,k1⟩:=a2x (i:=120) e1 k0;generalize a9y zs=ns at hns s1 k1;have e2:ev gF (N+120) d3c ρ1 [.obj [] (-1)]=some (vN [a3k ns 0 136,a3k ns 1 154,a3k ns 2 1234,a3k ns 3 37],[.obj [] (-1)]):=e0z (N:=N+100) hns (fun zz zz zz=>rfl) (k1 120 _ rfl);generalize a3k ns 0 136=st at e2;generalize a3k ns 1 154=mk at e2;generalize a3k ns 2 1234=dr at e2;generalize a3k ns 3 37=b at e2;have s2:=b4v (i:=121) (j:=180) (k:=122) (l:=123) e2;have k2:=(((k1.put 121 (.int (st:Int))).put 180 (.int (mk:Int))).put 122 (.int (dr:Int))).put 123 (.int (b:Int));generalize put 123 (.int (b:Int)) (put 122 (.int (dr:Int)) (put 180 (.int (mk:Int)) (put 121 (.int (st:Int)) ρ1)))=ρ2 at s2 k2;have e3:ev gF (N+120) (.bin .Add (.cst (.int 5)) (.bin .Mod (.loc 121) (.cst (.int 4)))) ρ2 [.obj [] (-1)]=some (.int (5+st%4:Nat),[.obj [] (-1)]):=evb evc (evb (evl (k2 121 _ rfl)) evc (a5c st (b:=4) (by decide))) rfl;obtain⟨ρ3,s3,k3⟩:=a2x (i:=124) e3 k2;have h5:5<=5+st%4:=Nat.le_add_right _ _;have hn:5+st%4<9:=Nat.add_lt_add_left (Nat.mod_lt st (by decide)) 5;generalize 5+st%4=n at *;have e4:ev gF (N+120) c0a ρ3 [.obj [] (-1)]=some (vS sg,[.obj [] (-1)]):=c9p (N:=N+118);obtain⟨ρ4,s4,k4⟩:=a2x (i:=107) e4 k3;have e5:ev gF (N+120) c0w ρ4 [.obj [] (-1)]=_:=d3f (N:=N+100) hn (Knows.cons (k4 107 _ rfl) (Knows.cons (k4 180 _ rfl) (Knows.cons (k4 124 _ rfl) Knows.nil)));obtain⟨ρ5,s5,k5⟩:=a2x (i:=171) e5 k4;have e6:ev gF (N+120) b9q ρ5 [.obj [] (-1)]=_:=d3i (N:=N+100) hn (Knows.cons (k5 121 _ rfl) (Knows.cons (k5 124 _ rfl) Knows.nil));obtain⟨ρ6,s6,k6⟩:=a2x (i:=182) e6 k5;have e7:ev gF (N+120) b9m ρ6 [.obj [] (-1)]=some (.lst (tab n fun k=>.str (a1j (cM st mk k))),[.obj [] (-1),.obj [] (-9)]):=d2p (N:=N+100) hn (b2f st) (c8b mk) (Knows.cons (k6 171 _ rfl) (Knows.cons (k6 182 _ rfl) Knows.nil));have w7:V.lst (tab n fun k=>.str (a1j (cM st mk k)))=vS (wsS n (cM st mk) 0):=congrArg V.lst (List.map_map ..).symm;rw [w7]at e7;obtain⟨ρ7,s7,k7⟩:=a2x (i:=125) e7 k6;obtain⟨e8,hb⟩:=d9j (N:=N+78) (dr:=dr) (ρ:=ρ7) (ws:=wsS n (cM st mk) 0) (μ:=[.obj [] (-1),.obj [] (-9)]) (fun w hw=>by
   obtain⟨k,_,rfl⟩:=List.mem_map.mp hw;exact b5h (b6h st mk k)) (fun w hw=>by
   obtain⟨k,_,rfl⟩:=List.mem_map.mp hw;exact b0w (b0l mk k)) (by unfold wsS;rw [List.length_map,List.length_range];omega) (k7 122 _ rfl) (k7 125 _ rfl) rfl
 have s8:a0e gF (N+120) (.assign 18 d0f) ρ7 [.obj [] (-1),.obj [] (-9)]=_:=a0y e8;have k8:=k7.put 18 (.str (a1h (drs (wsS n (cM st mk) 0) dr)));obtain⟨ln,R,h⟩:=d7m (N:=N) h5 hn hb (Knows.cons (k8 18 _ rfl) (Knows.cons (k8 107 _ rfl) (Knows.cons (k8 171 _ rfl) (Knows.cons (k8 182 _ rfl) (Knows.cons (k8 124 _ rfl) (Knows.cons (k8 123 _ rfl) Knows.nil))))));exact⟨ln,R,a1k s1 (a1k s2 (a1k s3 (a1k s4 (a1k s5 (a1k s6 (a1k s7 (a1k s8 h)))))))⟩
theorem lawIs:e6i:=by
 intro zs hz;obtain⟨ln,R,v,e⟩:=e4o (N:=0) hz;rw [show c8q++b8e=F2_law from rfl]at e;exact⟨121,v,[3],_,by decide,e⟩
end
end
end Mine
end
section
open PySem PySem.W PySem.Calls PyProof.Rows
set_option maxRecDepth 100000
set_option maxHeartbeats 4000000
namespace Mine
section
noncomputable def c0l(es:Array DictEntry):Bool:=es.toList.all fun e=>match e.key with | .str _ _=>true | _=>false
theorem c2b{es:Array DictEntry}(h:c0l es=true):StrKeys es:=by
 intro e he;have:=List.all_eq_true.mp h e (by simpa using he);induction hk:e.key using PySem.Value.casesOn with
 | str n t=>exact⟨n,t,rfl⟩
 | _=>rw [hk]at this;cases this
theorem e4c{base:Heap}{K:Frag}{a:Addr}{o:Obj}{es:Array DictEntry}{ep:Nat}(X:K.In base)(hl:K.lookup a=some o)(hd:o.data=.dict es ep)(hk:c0l es=true):base.Ns a (nsFind es):=
 ⟨o,es,ep,X a o hl,hd,c2b hk,fun zz=>rfl⟩
noncomputable def lm2:LamT where
 qual:=("_law_stream":Str)++".<locals>."++"<lambda>"
 params:={ posonlyargs:=[],args:=[{ arg:="size",annotation:=none,pos:={ line:=198,col:=25,endLine:=198,endCol:=29}}],vararg:=none,kwonlyargs:=[],kw_defaults:=[],kwarg:=none,defaults:=[]}
 scope:={ kind:=ScopeKind.function,names:=[("size",NameKind.local),("letters",NameKind.free)],isGenerator:=false,isCoroutine:=false}
 p1:={ line:=198,col:=48,endLine:=198,endCol:=55}
 p2:={ line:=198,col:=31,endLine:=198,endCol:=38}
 p3:={ line:=198,col:=31,endLine:=198,endCol:=42}
 p4:={ line:=198,col:=31,endLine:=198,endCol:=44}
 p5:={ line:=198,col:=61,endLine:=198,endCol:=63}
 p6:={ line:=198,col:=31,endLine:=198,endCol:=63}
 kd:=0
 pos0:={ line:=197,col:=13,endLine:=197,endCol:=25}
 pos:={ line:=198,col:=18,endLine:=198,endCol:=63}
theorem e3i:b7f lm2 where
 bind:=fun cl pm cdv ct v=>by kernel_rfl
 size:=by decide +kernel
 letters:=by decide +kernel
 nocell:=by decide +kernel
 kind:=rfl
 coro:=rfl
 gen:=rfl
 line:=by decide +kernel
noncomputable def d5n(e:DictEntry):Str:=match e.key with
 | .str x _=>x
 | _=>""
theorem d9i{P:Params}:∀ {l:List DictEntry},l.all (fun e=>match e.key with | .str _ _=>true | _=>false)=true->l.map (·.hash)=l.map (fun e=>PyData.keyHash P (d5n e))->KeysLit P l:=by
 intro l;induction l with
 | nil=>exact fun zz zz=>trivial
 | cons e l ih=>
  intro h1 h2;obtain⟨h3,h4⟩:=List.cons.inj h2;refine⟨?_,ih (a0f h1) h4⟩;have h1:=a0d h1;unfold d5n at h3;dsimp only at h1 h3;induction hk:e.key using PySem.Value.casesOn with
  | str x t=>rw [hk]at h3;exact⟨x,t,rfl,h3⟩
  | _=>rw [hk]at h1;exact nt h1
noncomputable def b9o:List DictEntry->List (List Nat×Int)->Bool
 | [],[]=>true
 | e::r,d::q=>(match e.key,e.val with
  | .str x _,.int v _=>x==txt d.1&&v==d.2
  | _,_=>false)&&b9o r q
 | _,_=>false
section
variable{prog:Program}{w:World}{base:Heap}{K:Frag}
set_option tactic.hygienic true in
theorem b5u:∀ {l:List DictEntry} {D:List (List Nat×Int)},b9o l D=true->∃ kvs,Pairs (strKind prog w) l kvs/\PyProof.V.FlatPairs PyData.str kvs (D.map fun p=>(.str ⟨p.1.toArray⟩,.int p.2))/\kvs.map (·.1)=D.map fun p=>txt p.1
 | [],[],_=>⟨[],.nil,.nil,rfl⟩
 | [],_::_,h=>by cases h
 | _::_,[],h=>by cases h
 | e::r,d::q,h=>by
  simp only [b9o,Bool.and_eq_true]at h;obtain⟨h1,h2⟩:=h;obtain⟨kvs,a,b,c⟩:=b5u h2;split at h1
  ·rename_i x t v u hk hv
   simp only [Bool.and_eq_true,beq_iff_eq]at h1;obtain⟨rfl,rfl⟩:=h1;exact⟨(txt d.1,e.val)::kvs,.cons (by rw [hk];exact strKind_is prog w _ t) rfl a,.cons (by rw [hv];exact PyProof.V.Flat.int _ _) b,by simp [c]⟩
  ·cases h1
theorem c9b {a:Addr} {es:Array DictEntry} {n:Nat} {D:List (List Nat×Int)} (X:K.In base) (lo:(a==sysModules)=false) (hl:K.lookup a=some ⟨.type "dict",none,.dict es n,#[]⟩) (hk:KeysLit w.params es.toList) (hc:b9o es.toList D=true) (hn:(D.map fun p=>txt p.1).Nodup) :
  StrTab prog w base a (D.map fun p=>(.str ⟨p.1.toArray⟩,.int p.2)):=by
 obtain⟨kvs,h1,h2,h3⟩:=b5u (prog:=prog) (w:=w) hc;refine TabAt.ofObj lo (X _ _ hl) ⟨es,n,⟨rfl,rfl,rfl⟩,rfl,fun e he=>?_,h1,by rw [h3];exact hn⟩ h2;obtain⟨x,t,e1,e2⟩:=hk.all e (Array.mem_toList_iff.mpr he);exact⟨x,by rw [e1];exact strKind_is prog w x t,e2⟩
end
theorem c5o{h:Heap}{a:Addr}{m m':Str->Option Value}(x:h.Ns a m)(y:h.Ns a m'):m=m':=by
 obtain⟨o,es,ep,e1,e2,_,e3⟩:=x;obtain⟨o',es',ep',f1,f2,_,f3⟩:=y;rw [e1]at f1;obtain rfl:=Option.some.inj f1;rw [e2]at f2;cases f2;funext z;rw [← e3,← f3]
theorem b6n {env:Env} {LC:Addr} (h:env.cells.lookup ("letters":Str)=some LC):closureFor lm2.scope env=pure [(("letters":Str),LC)]:=by
 have e:cellOf env "letters" = pure LC:=by
  unfold cellOf;rw [h]
 unfold closureFor lm2;simp only [List.forIn_cons,List.forIn_nil];rw [if_neg (by decide)];simp only [pure_bind];rw [if_pos (by decide),e];rfl
section
variable{prog:Program}{w:World}{Lx:LxP}{base:Heap}{Γ:G}
theorem d2e{names:List Str}{is:List Nat}{ss:List Mine.S}(D:b1o base names is ss)(hbig:base.NoLimit)(ht:Γ.tbl=tblA)(S:Snd prog w Lx base Γ)(LX:∀ n,a5q prog w Lx base Γ n){n:Nat}{args:List V}{μ μ₂:Mu}{v:V}{ρ₂:Rho}
  (h:exec Γ n ss (is.zip args) μ=some (.ret v,ρ₂,μ₂)) (hlen:is.length=args.length) {A:Around} {R:Result->Shared->Prop} {s:Shared} {as:List (List Addr)} {vals:List Value} (rm:Room A (n+1)) (g:GR Lx base μ as s.heap) (ra:Reps s.heap as args vals)
  (hR:∀ u asJ hJ tk,GR Lx base μ₂ asJ hJ->Rep hJ asJ v u->R (.ok (.ret u)) { s with heap:=hJ,toks:=tk}):codeAny (model prog w) A (.call (.ref D.a) ⟨vals,[]⟩) R s:=by
 have hok:=D.ok;unfold okF at hok;simp only [Bool.and_eq_true,Bool.not_eq_true',decide_eq_true_eq]at hok;obtain⟨⟨⟨⟨⟨⟨⟨h1,h2⟩,h3⟩,h4⟩,h5⟩,h6⟩,h7⟩,h8⟩:=hok;have e8:D.fd.scope.kind=.function:=by simpa using h8
 obtain⟨mt,k,t⟩:=D.tr;have hi:a1o (nid tblA) names=some is:=by simpa using h1
 have hl:names.length=vals.length:=by rw [ra.length,← hlen,a5z hi]
 have rm':∀ env,Room (A.deeper env) n:=fun env=>⟨rm.calm,by show A.depth+1+n<=900;have:=rm.depth;omega,by show A.units+3+10 * n<=9000;have:=rm.units;omega⟩;have hkn:∀ x∈names,D.fd.scope.names.lookup x=some .local∨D.fd.scope.names.lookup x=some .cell:=fun x hx=>by
  have:=List.all_eq_true.mp h3 x hx;simp only [Bool.or_eq_true,beq_iff_eq]at this;exact this
 have hfree:∀ p∈D.fd.scope.names,p.2≠.free:=fun p hp=>by
  have:=List.all_eq_true.mp h4 p hp;simpa using this
 refine codeAny_call_cells (by have:=rm.depth;show A.depth<1000;omega) (g.keep _ _ D.at') D.data (hbig.keeps fun b o e=>g.keep b o e) (D.code.keeps fun b o e=>g.keep b o e) D.hbody (D.bind vals hl.symm) D.clos (fun x hx=>?_) (fun sI x=>?_) h6 h7 e8
 ·rcases hkn x.1 (List.of_mem_zip hx).1 with q | q
  ·exact .inl q
  ·exact .inr ⟨q,a2g _ _ _ q⟩
 obtain⟨hY,tkI,eI,hkeep⟩:=x.done;have gI:GR Lx base μ as sI.heap/\Go as s.heap as sI.heap:=g.all fun a o zz e=>x.toInCall.keep a o e;obtain⟨gI,goI⟩:=gI;have er:=b3k (tbl:=tblA) e8 D.glob D.built hfree h2 hi x hl g (ra.go goI);rw [eI];rw [eI]at gI er;refine a6j S (by rw [ht];exact b0t) LX n ss mt k D.body _ _ _ _ ρ₂ _ μ₂ as _ (.ret v) _ (by rw [ht];exact t) (by rw [ht];exact a6d h5) ?_ (rm' _) ⟨fun zz q=>q,fun zz q=>q,fun zz q=>q⟩ (by rw [ht];exact er) gI h fun fl asJ hJ tk gJ erJ gs fr=>?_
 ·show((D.fd.scope.kind==.module)&&_)=false
  rw [e8];rfl
 ·induction fl using PySem.Flow.casesOn<;>try exact fr.elim
  exact hR _ asJ hJ tk gJ fr
end
section
variable{base:Heap}{K:Frag}
noncomputable def b8x(o:Obj):FuncData:=match o.data with
 | .func fd=>fd
 | _=>default
noncomputable def c4g(fd:FuncData):List Stmt:=match fd.body with
 | .stmts b=>b
 | _=>[]
noncomputable def a9q(o:Obj):Array Value:=match o.data with
 | .fields vs=>vs
 | _=>#[]
theorem a8q{K:Frag}(X:K.In base){e:Value}{q:Str}{c:Addr}{o:Obj}{vs:Array Value}{t:PySem.Tok}(he:e=.ref c)(ho:K.lookup c=some o)(hd:o.data=.fields vs)(hv:vs[1]?=some (.str q t)):base.CodeRec e q:=⟨c,o,vs,t,he,X c o ho,hd,hv⟩
theorem d7j{fd:FuncData}{c:Addr}{oc:Obj}{t:PySem.Tok}(X:K.In base)(h2:K.lookup c=some oc)(h4:fd.code=.ref c)(h5:oc.data=.fields (a9q oc))(h6:(a9q oc)[1]?=some (.str fd.qualname t)):base.CodeRec fd.code fd.qualname:=⟨c,oc,_,t,h4,X c oc h2,h5,h6⟩
theorem f1s{α:Type}{l:List α}(h:l.length=2):∃ a b,l=[a,b]:=by
 induction l using List.casesOn with
 | nil=>cases h
 | cons a r=>
  obtain⟨b,e⟩:=List.length_eq_one_iff.mp (Nat.succ.inj h);exact⟨a,b,by rw [e]⟩
theorem f1h{α:Type}{l:List α}(h:l.length=3):∃ a b c,l=[a,b,c]:=by
 induction l using List.casesOn with
 | nil=>cases h
 | cons a r=>
  obtain⟨b,c,e⟩:=f1s (Nat.succ.inj h);exact⟨a,b,c,by rw [e]⟩
theorem b1h{fd:FuncData}{x:Str}(h:∀ a,bindArgs fd ⟨[a],[]⟩=pure [(x,a)])(vals:List Value)(hv:vals.length=[x].length):bindArgs fd ⟨vals,[]⟩=pure ([x].zip vals):=by
 obtain⟨a,e⟩:=List.length_eq_one_iff.mp hv;rw [e];exact h a
theorem e6q{fd:FuncData}{x y:Str}(h:∀ a b,bindArgs fd ⟨[a,b],[]⟩=pure [(x,a),(y,b)])(vals:List Value)(hv:vals.length=[x,y].length):bindArgs fd ⟨vals,[]⟩=pure ([x,y].zip vals):=by
 obtain⟨a,b,e⟩:=f1s hv;rw [e];exact h a b
theorem b6v{fd:FuncData}{x y z:Str}(h:∀ a b c,bindArgs fd ⟨[a,b,c],[]⟩=pure [(x,a),(y,b),(z,c)])(vals:List Value)(hv:vals.length=[x,y,z].length):bindArgs fd ⟨vals,[]⟩=pure ([x,y,z].zip vals):=by
 obtain⟨a,b,c,e⟩:=f1h hv;rw [e];exact h a b c
theorem e8g{fd:FuncData}{x y z u v:Str}(h:∀ a b c d e,bindArgs fd ⟨[a,b,c,d,e],[]⟩=pure [(x,a),(y,b),(z,c),(u,d),(v,e)])(vals:List Value)(hv:vals.length=[x,y,z,u,v].length):bindArgs fd ⟨vals,[]⟩=pure ([x,y,z,u,v].zip vals):=by
 induction vals using List.casesOn with
 | nil=>cases hv
 | cons a r=>induction r using List.casesOn with
  | nil=>cases hv
  | cons b r=>
   obtain⟨c,d,e,q⟩:=f1h (Nat.succ.inj (Nat.succ.inj hv));rw [q];exact h a b c d e
noncomputable def a2j(base:Heap)(es:Str->Option Value)(x:Str)(names:List Str)(is:List Nat)(ss:List Mine.S):Prop:=∃ D:b1o base names is ss,es x=some (.ref D.a)
theorem a2k{a c:Addr}{o oc:Obj}{t:PySem.Tok}{mt:List Str}{names:List Str}{is:List Nat}{ss:List Mine.S}(X:K.In base)(h1:K.lookup a=some o)(h2:K.lookup c=some oc)(h3:o.data=.func (b8x o))(h4:(b8x o).code=.ref c)(h5:oc.data=.fields (a9q oc))(h6:(a9q oc)[1]?=some (.str (b8x o).qualname t))
  (h7:(b8x o).body=.stmts (c4g (b8x o))) (hg:(b8x o).globals=mainGlobals) (hb:(b8x o).builtins=builtinsNs) (hc:(b8x o).closure=[]) (h9:∀ vals:List Value,vals.length=names.length->bindArgs (b8x o) ⟨vals,[]⟩=pure (names.zip vals)) (h10:okF tblA (b8x o).scope names is=true) (h11:trS.trSs tblA mt 40 (b8x o).scope (c4g (b8x o))=some ss) :
  ∃ D:b1o base names is ss,D.a=a/\D.o=o:=
 ⟨{ a:=a,o:=o,fd:=b8x o,body:=c4g (b8x o),at':=X a o h1,data:=h3,code:=d7j X h2 h4 h5 h6,hbody:=h7,glob:=hg,built:=hb,clos:=hc,bind:=h9,ok:=h10,tr:=⟨mt,40,h11⟩},rfl,rfl⟩
theorem a1v{a:Addr}{o:Obj}{es:Str->Option Value}{x:Str}{names:List Str}{is:List Nat}{ss:List Mine.S}(D:∃ D:b1o base names is ss,D.a=a/\D.o=o)(h:es x=some (.ref a)):a2j base es x names is ss:=let⟨D,e,_⟩:=D;⟨D,by rw [e];exact h⟩
theorem b9a {a b:Addr} {o:Obj} {names:List Str} {is:List Nat} {ss:List Mine.S} (D:∃ D:b1o base names is ss,D.a=a/\D.o=o) (h:a=b) (hc:o.cls=.type "function"):∃ D:b1o base names is ss,D.a=b/\D.o.cls=.type "function":=let⟨D,e,eo⟩:=D;⟨D,e.trans h,by rw [eo];exact hc⟩
end
structure e5o(base:Heap)(es:Str->Option Value)(lb:LB base):Prop where
 hv:a2j base es "_v" ["m1","m2","hue"] e9w e9a
 h1:a2j base es "hsv_to_rgb" ["h","s","v"] a3r F_hsv_to_rgb
 h2:a2j base es "rgb_to_hsv" ["r","g","b"] a3n a2r
 h3:a2j base es "rgb_to_hls" ["r","g","b"] a3t a2q
 h4:a2j base es "hls_to_rgb" ["h","l","s"] a3q a2o
 h5:a2j base es "ISEOF" ["x"] b3j b3r
 h6:a2j base es "ISNONTERMINAL" ["x"] a2c a2f
 h7:a2j base es "ISTERMINAL" ["x"] P_ISTERMINAL a2p
 dg:∃ D:b1o base ["self"] P_get_token a1l,D.a=lb.fg/\D.o.cls=.type "function"
 dp:∃ D:b1o base ["self","token"] P_push_token a3o,D.a=lb.fp/\D.o.cls=.type "function"
 l1:a2j base es "_law_written" ["word","number"] a2h a2e
 l2:a2j base es "_law_symbol" ["word"] a4d a4a
 l3:a2j base es "_law_deed" ["symbol"] b4j b4m
 l4:a2j base es "_law_told" ["symbol","hue","step"] b7u b7v
 l5:a2j base es "_law_turns" ["hues"] b3p b3i
 l6:a2j base es "_law_run" ["lexer","size","base"] P2_run b8u
 l7:a2j base es "_law_due" ["names","heights","lap","place","steps"] P2_due c8s
 l8:a2j base es "law" ["script"] e5h F2_law
structure c3y(prog:Program)(w:World)(base:Heap)(es:Str->Option Value) where
 lb:LB base
 nm:b6z prog w base th3
 lex:a6a prog w lb lm2 122 (gB th3)
 st:e3t base lm2 122 tblA 18 19 6
 rst:∃ p q,st.rest=[.Return (some (.Name "stream" p)) q]
 nst:es "_law_stream" = some (.ref st.a)
 ds:e5o base es lb
section
variable{prog:Program}{w:World}{base:Heap}{es:Str->Option Value}
theorem f4k(Fa:c3y prog w base es)(NS:base.Ns mainGlobals es)(hbig:base.NoLimit)(hP:base.get? 122=none):Snd prog w (a1i Fa.lb lm2 122) base gF:=by
 have L:=Fa.lex;have S0:Snd prog w (a1i Fa.lb lm2 122) base g0:=f3s Fa.nm L;have LA:∀ {Γ:G},Γ.tbl=tblA->Snd prog w (a1i Fa.lb lm2 122) base Γ->∀ n,a5q prog w (a1i Fa.lb lm2 122) base Γ n:=fun ht S n=>c7s L S (by rw [ht];exact b0t) n;have add:∀ {Γ Γ':G} {names:List Str} {is:List Nat} {ss:List Mine.S} {x:Str} (D:a2j base es x names is ss) (id:Nat),tblA[id]?=some x->Γ.tbl=tblA->Γ'.tbl=tblA->Snd prog w (a1i Fa.lb lm2 122) base Γ'->Snd prog w (a1i Fa.lb lm2 122) base Γ->Snd prog w (a1i Fa.lb lm2 122) base (b1t Γ id (cF Γ' is ss)):=
  fun⟨D,hn⟩ id hid ht ht' S' S=>c0m S (by rw [ht];exact hid) (a1p NS hn) (.func D.a D.o _ D.at' D.data) fun n args μ r μ' h=>by
   induction n using Nat.casesOn with
   | zero=>exact ns h
   | succ n=>exact c0g D hbig ht' S' (LA ht' S') h
 have addM:∀ {Γ:G} {names:List Str} {is:List Nat} {ss:List Mine.S} (D:b1o base names is ss) (id:Nat) (x:Str),tblA[id]?=some x->Γ.tbl=tblA->(∀ u μ,Γ.find id u μ=true->a4v prog w (a1i Fa.lb lm2 122) base x u μ (.ref D.a))->Snd prog w (a1i Fa.lb lm2 122) base Γ->Snd prog w (a1i Fa.lb lm2 122) base (e1o Γ id (mF g0 is ss)):=
  fun {Γ} {names} {is} {ss} D id x hid ht hf S=>by
   refine⟨S.glob,S.range,S.enum,S.zip,S.dic,S.call,fun n m u args μO μ r μ' hfd h=>?_,S.attr⟩;simp only [e1o]at h hfd;refine ifE h (fun e h'=>?_) fun zz h=>S.meth n m u args μO μ r μ' hfd h;clear h;subst e;induction n using Nat.casesOn with
   | zero=>exact ns h'
   | succ n=>exact⟨x,.ref D.a,by rw [show(e1o Γ m (mF g0 is ss)).tbl=Γ.tbl from rfl,ht];exact hid,.func D.a D.o _ D.at' D.data,hf u μO hfd,c0g D hbig rfl S0 (LA rfl S0) h'⟩
 obtain⟨Dg,eg,cg⟩:=Fa.ds.dg;obtain⟨Dp,ep,cp⟩:=Fa.ds.dp;have fgt:∀ u μ,a3f μ u=true->a4v prog w (a1i Fa.lb lm2 122) base "get_token" u μ (.ref Dg.a):=fun u μ h=>a8k L (.inr (.inl rfl)) (by rw [eg];exact Fa.lb.get) Dg.at' cg h
 have fpt:∀ u μ,a3f μ u=true->a4v prog w (a1i Fa.lb lm2 122) base "push_token" u μ (.ref Dp.a):=fun u μ h=>a8k L (.inr (.inr rfl)) (by rw [ep];exact Fa.lb.push) Dp.at' cp h
 have SV:=add (Γ:=g0) Fa.ds.hv 64 (by decide +kernel) rfl rfl S0 S0;have SC:=add Fa.ds.h1 68 (by decide +kernel) rfl rfl S0 (add Fa.ds.h2 66 (by decide +kernel) rfl rfl S0 (add Fa.ds.h3 47 (by decide +kernel) rfl rfl S0 (add Fa.ds.h4 61 (by decide +kernel) rfl rfl SV S0)));have SK:=add Fa.ds.h5 46 (by decide +kernel) rfl rfl S0 (add Fa.ds.h6 45 (by decide +kernel) rfl rfl S0 (add Fa.ds.h7 43 (by decide +kernel) rfl rfl S0 S0));have SR:=addM Dp 23 "push_token" (by decide +kernel) rfl (fun u μ h=>fpt u μ h) (addM Dg 22 "get_token" (by decide +kernel) rfl (fun u μ h=>fgt u μ h) (add Fa.ds.l5 158 (by decide +kernel) rfl rfl S0 (add Fa.ds.l4 156 (by decide +kernel) rfl rfl SC (add Fa.ds.l3 155 (by decide +kernel) rfl rfl SK (add Fa.ds.l2 154 (by decide +kernel) rfl rfl S0 S0)))))
 obtain⟨p1,q1,er⟩:=Fa.rst;have SS:Snd prog w (a1i Fa.lb lm2 122) base (b1t g0 34 b7d):=c0m S0 (by decide +kernel) (a1p NS Fa.nst) (.func Fa.st.a _ _ Fa.st.at' Fa.st.data) fun n args μ r μ' h=>by
  unfold b7d at h;split at h
  ·refine ifS h fun hn h=>a1n h fun p hm h=>pr h ?_
   rintro rfl rfl;exact(c3z L.snd L.off L.nd hbig (fun n t μ hz=>by
    show c7f 6 [.str t] μ=_;rw [f3j,f3r,if_pos hz]) Fa.st hP er hm).call.less hn
  ·exact ns h
 exact addM Dg 22 "get_token" (by decide +kernel) rfl (fun u μ h=>fgt u μ h) (add Fa.ds.l7 170 (by decide +kernel) rfl rfl S0 (add Fa.ds.l6 104 (by decide +kernel) rfl rfl SR (add Fa.ds.l1 81 (by decide +kernel) rfl rfl S0 SS)))
end
noncomputable def b9j(K:Frag)(a:Addr):Str->Option Value:=match K.lookup a with
 | some ⟨_,_,.dict es _,_⟩=>nsFind es
 | _=>fun zz=>none
noncomputable def e1m(K:Frag):Str->Option Value:=b9j K 3
theorem e8n {base:Heap} {K:Frag} (X:K.In base) {C N fr fg fp fi:Addr} {nm q:Str} {bs:List Value} {sn:List Str} {sub:List Value} {col:Option Bool} {dd:Option Addr} {k0 k1 k2 k3 k5:Option Value} (h1:K.lookup C=some (excClassObj nm q C N bs [.type "object"] true sn sub false col dd k0 k1 k2 k3 k5 "object.__new__")) (h2:base.Ns N (b9j K N))
  (nga:b9j K N "__getattribute__" = .none) (ngt:b9j K N "__getattr__" = .none) (nsa:b9j K N "__setattr__" = .none) (o1:b9j K N "lineno" = .none) (o2:b9j K N "instream" = .none) (o3:b9j K N "whitespace" = .none) (o4:b9j K N "pushback" = .none)
  (read:b9j K N "_read_char" = some (.ref fr)) (get:b9j K N "get_token" = some (.ref fg)) (push:b9j K N "push_token" = some (.ref fp)) (ini:b9j K N "__init__" = some (.ref fi)) :
  ∃ lb:LB base,lb.C=C/\lb.fr=fr/\lb.fg=fg/\lb.fp=fp/\lb.mN "__init__" = some (.ref fi)/\ClsAt base lb.C lb.N lb.mN:=
 ⟨{ C:=C,N:=N,mN:=b9j K N,cls:=.mk (X C _ h1),ns:=h2,nga:=nga,ngt:=ngt,nsa:=nsa,own:=by rintro x (rfl | rfl | rfl | rfl)<;>assumption,fr:=fr,fg:=fg,fp:=fp,read:=read,get:=get,push:=push},rfl,rfl,rfl,rfl,ini,⟨⟨nm,q,bs,sn,sub,col,dd,k0,k1,k2,k3,k5,X C _ h1⟩,h2⟩⟩
section
variable{prog:Program}{w:World}{base:Heap}{es mb:Str->Option Value}
theorem a9d (NS:base.Ns mainGlobals es) (hb:base.Ns builtinsNs mb) (hbi:∀ x:Str,x ≠ "__name__" -> mb x=bootBuiltins x) (x:Str) (v:Value) (hn:x ≠ "__name__") (h:es x=none) (hv:bootBuiltins x=some v):a1e prog w base x v:=
 b7t NS h hb ((hbi x hn).trans hv)
noncomputable def e9v {lb:LB base} (NM:b6z prog w base th3) (hbig:base.NoLimit) (rd:e1n lb tblA 16 17) (rc:rd.o.cls=.type "function") (iter:a1e prog w base "iter" (.builtin "iter")) (lexer:a1e prog w base "_netrclex" (.ref lb.C)) (cls:ClsAt base lb.C lb.N lb.mN) (makes:Makes (model prog w) base lb.C) (init:b0y lb):a6a prog w lb lm2 122 (gB th3) where
 snd:=f1b NM
 off:=rfl
 nd:=b0t
 lam:=e3i
 nolimit:=hbig
 js:=16
 jc:=17
 rd:=rd
 rdcls:=rc
 iter:=iter
 lexer:=lexer
 cls:=cls
 makes:=makes
 init:=init
end
theorem d0d {prog:Program} {w:World} {base:Heap} {es:Str->Option Value} {lb:LB base} (NM:b6z prog w base th3) (hbig:base.NoLimit) (rd:e1n lb tblA 16 17) (rc:rd.o.cls=.type "function") (iter:a1e prog w base "iter" (.builtin "iter")) (lexer:a1e prog w base "_netrclex" (.ref lb.C)) (cls:ClsAt base lb.C lb.N lb.mN) (makes:Makes (model prog w) base lb.C) (init:b0y lb)
  (st:e3t base lm2 122 tblA 18 19 6) (rst:∃ p q,st.rest=[.Return (some (.Name "stream" p)) q]) (nst:es "_law_stream" = some (.ref st.a)) (ds:e5o base es lb):Nonempty (c3y prog w base es):=
 ⟨{ lb:=lb,nm:=NM,lex:=e9v NM hbig rd rc iter lexer cls makes init,st:=st,rst:=rst,nst:=nst,ds:=ds}⟩
theorem c9w{prog:Program}{w:World}{sI:Shared}{mg mb:Str->Option Value}{K:Frag}{l fa:Addr}{vs:List Value}{zs:List Int}{R:Result->Shared->Prop}(HL:e6i)(KX:K.In sI.heap)(hT:TabsAt [(126,122)] sI.heap)(hK:noTabs K=true)(hes:∀ base,K.In base->base.Ns mainGlobals (e1m K))
  (Fa:∀ base:Heap,K.In base->base.Ns mainGlobals (e1m K)->base.Ns builtinsNs mb->base.NoLimit->base.BuiltinsAt (e1m K) 122->Nonempty (c3y prog w base (e1m K)))
  (hmg:sI.heap.Ns mainGlobals mg) (hfa:mg "law" = some (.ref fa)) (hmb:sI.heap.Ns builtinsNs mb) (hbig:sI.heap.NoLimit)
  (hbm:∃ bm ob,mg "__builtins__" = some (.ref bm)/\bm≠builtinsNs/\sI.heap.get? bm=some ob/\ob.cls=.type "module" /\ ob.dict=some builtinsNs/\ob.data=.plain)
  (hl:sI.heap.PlainList l vs.toArray) (hI:IntsAre vs zs) (h63:zs.length<=63)
  (hR:∀ h' tk,(∀ b o,(ghostOf sI.heap [(126,122)]).get? b=some o->h'.get? b=some o)->GrownAll [(126,122)] h'->R (.ok (.ret (.bool true))) { sI with heap:=h',toks:=tk}) :
  codeAny (model prog w) callerA (.call (.ref fa) ⟨[.ref l],[]⟩) R sI:=by
 obtain⟨base,hbase⟩:∃ base,base=ghostOf sI.heap [(126,122)]:=⟨_,rfl⟩;have X:K.In base:=by rw [hbase];exact ghost_K hT KX hK
 have NS:=hes base X;have ng:base.Ns mainGlobals mg:=by rw [hbase];exact ghost_ns hT hmg
 have nb:base.Ns builtinsNs mb:=by rw [hbase];exact ghost_ns hT hmb
 have big:base.NoLimit:=by obtain⟨mc,a,r⟩:=hbig;exact⟨mc,by rw [hbase];exact ghost_ns hT a,r⟩
 have hP:base.get? 122=none:=by rw [hbase];exact hideAll_none _ (by simp)
 have hP1:sI.heap.get? 122=some (tabObj #[]):=(hT (126,122) (by simp)).2;have emg:mg=e1m K:=c5o ng NS;have hBA:base.BuiltinsAt (e1m K) 122:=by
  obtain⟨bm,ob,b1,b2,b3,b4,b5,b6⟩:=hbm;refine⟨bm,ob,by rw [← emg];exact b1,b2,fun q=>?_,fun q=>?_,by rw [hbase];exact ghost_get hT b3 (fun q=>by rw [q]at b4;cases b4),b4,b5,b6⟩
  ·obtain⟨o,es,ep,e,hd,_⟩:=hmg
   rw [q,e]at b3;cases b3;rw [hd]at b6;cases b6
  ·rw [q,hP1]at b3;cases b3;cases b4
 obtain⟨Fa⟩:=Fa base X NS nb big hBA;have S:=f4k Fa NS big hP;have L:=Fa.lex;obtain⟨D,eD⟩:=Fa.ds.l8;obtain rfl:fa=D.a:=Value.ref.inj (Option.some.inj ((emg▸hfa).symm.trans eD));obtain⟨n,ρ₂,is,rest,hn,he⟩:=HL zs h63;have kp:∀ b o,base.get? b=some o->sI.heap.get? b=some o:=fun b o e=>by rw [hbase]at e;exact of_hideAll _ e
 have hfl:([[],[122]]:List (List Addr)).flatten=[122]:=rfl;have g:GR (a1i Fa.lb lm2 122) base [.obj [] (-1)] [[],[122]] sI.heap:=by
  refine⟨kp,fun a ha=>?_,by decide,fun a ha=>?_,rfl,fun k m ads hk ha=>?_⟩
  ·rw [hfl,List.mem_singleton]at ha;subst ha;exact hP
  ·rw [hfl,List.mem_singleton]at ha;subst ha;exact⟨_,hP1⟩
  ·induction k using Nat.casesOn with
   | zero=>
    simp only [List.getElem?_cons_zero,Option.some.injEq]at hk;simp only [Nat.zero_add,List.getElem?_cons_succ,List.getElem?_cons_zero,Option.some.injEq]at ha;subst hk;subst ha;exact⟨[],rfl,.inr (.inr (.inr (.inr (.inr (.inl ⟨.inl rfl,rfl,.inl ⟨rfl,hP1⟩⟩)))))⟩
   | succ k=>simp at hk
 have hlne:l≠122:=fun q=>by obtain⟨m,e⟩:=hl;rw [q,hP1]at e;cases e
 have ra:Reps sI.heap [[],[122]] [.lst (zs.map .int)] [.ref l]:=by
  refine Reps.cons ?_ .nil;exact⟨l,vs,rfl,by rw [hfl];simpa using hlne,hl,c6p hI⟩
 refine d2e D big rfl S (fun n=>c7s L S b0t n) (n:=n) (args:=[.lst (zs.map .int)]) (μ:=[.obj [] (-1)]) he rfl ⟨rfl,?_,?_⟩ g ra fun u asJ hJ tk gJ rJ=>?_
 ·show 1+claimMargin+(n+1)<=900
  have:claimMargin=300:=rfl;omega
 ·show 4+10 * (n+1)<=9000
  omega
 ·simp only [Rep]at rJ
  subst rJ;refine hR hJ tk (fun b o e=>gJ.keep b o (by rw [hbase];exact e)) ⟨?_,trivial⟩;obtain⟨_,_,_,hTb⟩:=b9v (μ:=.obj is (-5)::rest) gJ rfl (.inr (.inr rfl));rcases hTb.2 with⟨z,_⟩ | z | ⟨_,c1,c2,_,e⟩
  ·omega
  ·omega
  ·exact⟨_,e⟩
set_option tactic.hygienic true in
theorem d1u{P:Params}{h:Heap}{l:Addr}{d:WData}{xs:List WData}{its:List Value}(w:Well P h (.ref l) d)(hd:d=.list xs)(hl:h.IsList l its.toArray):h.PlainList l its.toArray:=by
 cases w<;>try (cases hd;done)
 rename_i vs xs _ e;obtain⟨o,e1,e2,n,e3⟩:=hl;rw [e]at e1;cases e1;simp only [Data.seq.injEq]at e3;exact⟨0,by rw [e,e3.1]⟩
end
end Mine
end
section
set_option tactic.hygienic true
open PySem PySem.W PySem.Calls PyProof.Rows
set_option maxRecDepth 100000
set_option maxHeartbeats 8000000
namespace Mine
theorem top.tw10005945817407372193:True:=trivial
theorem top.tw10090393231696489298:True:=trivial
theorem top.tw10404823597219466188:True:=trivial
theorem top.tw1047907039808853306:True:=trivial
theorem top.tw105208000716104510:True:=trivial
theorem top.tw10567129059001840431:True:=trivial
theorem top.tw10617020205504526918:True:=trivial
theorem top.tw10773188271377071773:True:=trivial
theorem top.tw10996937224433265937:True:=trivial
theorem top.tw11133666699803404755:True:=trivial
theorem top.tw11208725060551341827:True:=trivial
theorem top.tw11334415319851112604:True:=trivial
theorem top.tw1139600151236580504:True:=trivial
theorem top.tw11430207588045935325:True:=trivial
theorem top.tw11459358961799972967:True:=trivial
theorem top.tw11546936639936008217:True:=trivial
theorem top.tw11613256710310857696:True:=trivial
theorem top.tw1195175773429642966:True:=trivial
theorem top.tw12012865196380796599:True:=trivial
theorem top.tw12342655685612074800:True:=trivial
theorem top.tw12385144161495827662:True:=trivial
theorem top.tw12540527436937284434:True:=trivial
theorem top.tw12643491718579748851:True:=trivial
theorem top.tw1275901062530889299:True:=trivial
theorem top.tw13035992608941671641:True:=trivial
theorem top.tw13091174067606910046:True:=trivial
theorem top.tw13120753694373217308:True:=trivial
theorem top.tw13272337422414781067:True:=trivial
theorem top.tw13359135706311490777:True:=trivial
theorem top.tw13369591340354186047:True:=trivial
theorem top.tw13854487755817843489:True:=trivial
theorem top.tw13928562000808390012:True:=trivial
theorem top.tw14349089067433371257:True:=trivial
theorem top.tw14459580976405569124:True:=trivial
theorem top.tw14502225709538309166:True:=trivial
theorem top.tw14597223018079223185:True:=trivial
theorem top.tw14611434983143301774:True:=trivial
theorem top.tw14794233151107227712:True:=trivial
theorem top.tw14826035006057030972:True:=trivial
theorem top.tw14851680436948445374:True:=trivial
theorem top.tw14861896470697024400:True:=trivial
theorem top.tw14917401599646851644:True:=trivial
theorem top.tw1492452104121835379:True:=trivial
theorem top.tw14987219478266130788:True:=trivial
theorem top.tw15169761463676818070:True:=trivial
theorem top.tw15362295582089109014:True:=trivial
theorem top.tw15646934709686841381:True:=trivial
theorem top.tw15747283374172101067:True:=trivial
theorem top.tw15860264024139754761:True:=trivial
theorem top.tw15878805988109762761:True:=trivial
theorem top.tw15976228082101565994:True:=trivial
theorem top.tw16155163154822807229:True:=trivial
theorem top.tw16204670001084760307:True:=trivial
theorem top.tw16273406610938067001:True:=trivial
theorem top.tw16352630495959832749:True:=trivial
theorem top.tw16439428074185983240:True:=trivial
theorem top.tw16541100652227675460:True:=trivial
theorem top.tw16759092144687519636:True:=trivial
theorem top.tw16782997733028217545:True:=trivial
theorem top.tw16900427199656544559:True:=trivial
theorem top.tw1732150942055357024:True:=trivial
theorem top.tw1736530178072539846:True:=trivial
theorem top.tw17470836177267949868:True:=trivial
theorem top.tw17486766287000646611:True:=trivial
theorem top.tw17492772389151264855:True:=trivial
theorem top.tw17555251805378815213:True:=trivial
theorem top.tw17886615442053742456:True:=trivial
theorem top.tw18034075008235765660:True:=trivial
theorem top.tw18064794426631996164:True:=trivial
theorem top.tw18086089286151905521:True:=trivial
theorem top.tw1814787853859245837:True:=trivial
theorem top.tw18164388396756303480:True:=trivial
theorem top.tw2218668502564051296:True:=trivial
theorem top.tw2249405535684624136:True:=trivial
theorem top.tw227720230686144328:True:=trivial
theorem top.tw2287823674025257028:True:=trivial
theorem top.tw2464713573024523455:True:=trivial
theorem top.tw2514443458684651071:True:=trivial
theorem top.tw2731995056826638727:True:=trivial
theorem top.tw2732273902793177162:True:=trivial
theorem top.tw2741389259953327712:True:=trivial
theorem top.tw2812155379371279736:True:=trivial
theorem top.tw2822501910515967889:True:=trivial
theorem top.tw2867133514656366558:True:=trivial
theorem top.tw2924597203103170677:True:=trivial
theorem top.tw2985252069258134486:True:=trivial
theorem top.tw3195968871104189447:True:=trivial
theorem top.tw342308947776675178:True:=trivial
theorem top.tw3730354652608582461:True:=trivial
theorem top.tw3776753064480771068:True:=trivial
theorem top.tw3969286963782609292:True:=trivial
theorem top.tw3974946682361356058:True:=trivial
theorem top.tw4166218997396506358:True:=trivial
theorem top.tw4186445540838780016:True:=trivial
theorem top.tw427269002284569659:True:=trivial
theorem top.tw4498253355057717688:True:=trivial
theorem top.tw453181688931711583:True:=trivial
theorem top.tw4571971715460732019:True:=trivial
theorem top.tw4655869559712951663:True:=trivial
theorem top.tw4656485037274611717:True:=trivial
theorem top.tw4671429814451907529:True:=trivial
theorem top.tw5058314954733539658:True:=trivial
theorem top.tw5088376156974544275:True:=trivial
theorem top.tw5105846836358774362:True:=trivial
theorem top.tw5118827330378232414:True:=trivial
theorem top.tw5155950481276406077:True:=trivial
theorem top.tw5303079699428457377:True:=trivial
theorem top.tw5476889619067714990:True:=trivial
theorem top.tw5523086135645875356:True:=trivial
theorem top.tw5597187220613765494:True:=trivial
theorem top.tw5667650583090716360:True:=trivial
theorem top.tw5868845118606482295:True:=trivial
theorem top.tw6027168181105674451:True:=trivial
theorem top.tw6187478851450931391:True:=trivial
theorem top.tw6286779285267259847:True:=trivial
theorem top.tw6372346714179237486:True:=trivial
theorem top.tw6431110157172167083:True:=trivial
theorem top.tw6491118196486620199:True:=trivial
theorem top.tw6756868429301003459:True:=trivial
theorem top.tw6812286434817487243:True:=trivial
theorem top.tw6906291655842520137:True:=trivial
theorem top.tw705360758644809490:True:=trivial
theorem top.tw72247145696351765:True:=trivial
theorem top.tw7297446738713254254:True:=trivial
theorem top.tw7458633546980236471:True:=trivial
theorem top.tw7847650389618582240:True:=trivial
theorem top.tw7855079511596107753:True:=trivial
theorem top.tw788273225186049534:True:=trivial
theorem top.tw795583310449317561:True:=trivial
theorem top.tw7990429038631628895:True:=trivial
theorem top.tw814325599930780420:True:=trivial
theorem top.tw8345894832289464959:True:=trivial
theorem top.tw8443935842833279946:True:=trivial
theorem top.tw8507776931139520737:True:=trivial
theorem top.tw8538268897159353584:True:=trivial
theorem top.tw8598144960395782539:True:=trivial
theorem top.tw8640399195822439974:True:=trivial
theorem top.tw8645369167282567922:True:=trivial
theorem top.tw864819663365544661:True:=trivial
theorem top.tw8689318265317240412:True:=trivial
theorem top.tw8810280945414196856:True:=trivial
theorem top.tw8813761850579938390:True:=trivial
theorem top.tw8892184565913893157:True:=trivial
theorem top.tw897822540260682436:True:=trivial
theorem top.tw9059672392935016618:True:=trivial
theorem top.tw9063741608606530840:True:=trivial
theorem top.tw908825868028484722:True:=trivial
theorem top.tw9229161468869434483:True:=trivial
theorem top.tw9305691244287143441:True:=trivial
theorem top.tw9378254376102152143:True:=trivial
theorem top.tw9465783595903631515:True:=trivial
theorem top.tw9543386914318008161:True:=trivial
theorem top.tw9601329371697537090:True:=trivial
theorem top.tw9631074621892390191:True:=trivial
theorem top.tw9759319705405543751:True:=trivial
theorem top.tw9800703332001039478:True:=trivial
set_option Elab.async true
theorem top:PySem.Challenge.rw_rs0174_02.Holds:=by
  w_on
  o_law
  k_head
  case hw=>w_witness2
  k_fill
  intro w s₀ s₁ mg mb G Y fa o pm cd doc dV kV ho hd hcd hD hmg hg args vals as hpre hlay hrd hwl hlo
  have KX:=km_in_of Y
  km_tabs Y
  have X:=(Ground.X G).1
  have V:=(Ground.X G).2
  refine Ground.open G ?_
  intro T B D TE TW
  try (refine guard_noD D (by decide +kernel) ?_;clear D)
  km_lay T hmg ho hd cd
  wrow_args hpre hlay hrd hwl hlo
  first | refine callC_kw (enter_call ?_) | refine enter_call ?_
  w_top on
  kn_posts
  rename_i _ wl l _ _ _ hw _ _ _ _ _
  refine c9w lawIs KX hT9 (by kernel_rfl) (fun base X=>e4c X (a:=3) rfl rfl (by kernel_rfl)) (fun base X NS hb hbig hBA=>?facts) T.g hmg T.b T.nolimit T.bmain (d1u (by assumption) rfl (by assumption)) (by assumption) (by omega) fun h' tk hk hgr=>⟨⟨.inl ⟨.bool true,.bool true,[],rfl,fun zz=>rfl,ReadsW.bool _,by kernel_rfl,fun zz=>⟨List.nodup_nil,fun a ha=>by cases ha⟩⟩,hk,rfl,hg⟩,hgr⟩
  case facts=>
    obtain⟨lb,hC,hfr,hfg,hfp,hini,hcls⟩:=e8n (C:=87) (N:=86) (fr:=70) (fg:=77) (fp:=84) (fi:=63) X rfl (e4c X (a:=86) rfl rfl (by kernel_rfl)) (by kernel_rfl) (by kernel_rfl) (by kernel_rfl) (by kernel_rfl) (by kernel_rfl) (by kernel_rfl) (by kernel_rfl) (by kernel_rfl) (by kernel_rfl) (by kernel_rfl) (by kernel_rfl)
    have e94:base.get? 70=some _:=X 70 _ rfl
    obtain⟨rd,hrc⟩:∃ rd:e1n lb tblA 16 17,rd.o.cls=.type "function":=⟨{
        o:=_
        fd:=_
        p1:=_
        p2:=_
        p3:=_
        p4:=_
        p5:=_
        p6:=_
        p7:=_
        kd:=_
        rest:=_
        at':=(congrArg base.get? hfr).trans e94
        data:=rfl
        code:=a8q X rfl (c:=69) rfl rfl rfl
        body:=rfl
        line:=by kernel_rfl
        glob:=rfl
        built:=rfl
        clos:=rfl
        coro:=rfl
        gen:=rfl
        kind:=rfl
        bind:=fun vals h=>b1h (fun a=>by kernel_rfl) vals h
        self:=by kernel_rfl
        ch:=by kernel_rfl
        ne:=by decide
        kself:=by kernel_rfl
        kch:=by kernel_rfl
        nofree:=by decide +kernel
        own:=a6d (by kernel_rfl)
        calm:=fun zz=>rfl
        tr:=⟨[],40,by kernel_rfl⟩},rfl⟩
    obtain⟨ini⟩:Nonempty (b0y lb):=⟨{
        fi:=63
        o:=_
        fd:=_
        pos:=fun i=>[⟨90,8,90,12⟩,⟨90,8,90,19⟩,⟨90,22,90,23⟩,⟨90,8,90,23⟩,⟨91,8,91,12⟩,⟨91,8,91,21⟩,⟨91,24,91,26⟩,⟨91,8,91,26⟩,⟨92,8,92,12⟩,⟨92,8,92,23⟩,⟨92,26,92,35⟩,⟨92,8,92,35⟩,⟨93,8,93,12⟩,⟨93,8,93,21⟩,⟨93,24,93,26⟩,⟨93,8,93,26⟩].getD i ⟨0,0,0,0⟩
        kd:=fun zz=>0
        at':=X 63 _ rfl
        cls:=rfl
        data:=rfl
        code:=a8q X rfl (c:=62) rfl rfl rfl
        body:=by kernel_rfl
        clos:=rfl
        coro:=rfl
        gen:=rfl
        kind:=rfl
        bind:=fun a b=>by kernel_rfl
        kself:=by kernel_rfl
        kfp:=by kernel_rfl
        init:=hini}⟩
    obtain⟨st,hst,p,q,er⟩:∃ st:e3t base lm2 122 tblA 18 19 6,st.a=127∧∃ p q,st.rest=[.Return (some (.Name "stream" p)) q]:=⟨{
        a:=127
        o:=_
        fd:=_
        mg:=_
        s1:=_
        par0:=_
        b0:=_
        sc0:=_
        p1:=_
        p2:=_
        p3:=_
        q1:=_
        q2:=_
        rest:=_
        at':=X 127 _ rfl
        data:=rfl
        code:=a8q X rfl (c:=126) rfl rfl rfl
        head:=⟨126,rfl,codeHd_of_K X (by kernel_rfl)⟩
        body:=rfl
        src:=⟨fun zz=>rfl,fun zz=>rfl,fun zz=>rfl,fun env LC h=>b6n h,fun c1=>by rfl⟩
        glob:=rfl
        built:=rfl
        clos:=rfl
        coro:=rfl
        gen:=rfl
        kind:=rfl
        qual:=rfl
        bind:=fun vals h=>b1h (fun a=>by kernel_rfl) vals h
        text:=by kernel_rfl
        letters:=by kernel_rfl
        stream:=by kernel_rfl
        ktext:=by kernel_rfl
        kletters:=by kernel_rfl
        kstream:=by kernel_rfl
        nofree:=by decide +kernel
        own:=a6d (by kernel_rfl)
        calm:=fun zz=>rfl
        tr:=⟨[],40,by kernel_rfl⟩
        ne:=by decide
        g:=NS
        b:=hBA},rfl,_,_,rfl⟩
    refine d0d (lb:=lb) {
        len:=a9d NS hb T.builtins _ _ (by decide) (by kernel_rfl) (by kernel_rfl)
        sum:=a9d NS hb T.builtins _ _ (by decide) (by kernel_rfl) (by kernel_rfl)
        max:=a9d NS hb T.builtins _ _ (by decide) (by kernel_rfl) (by kernel_rfl)
        min:=a9d NS hb T.builtins _ _ (by decide) (by kernel_rfl) (by kernel_rfl)
        int:=a9d NS hb T.builtins _ _ (by decide) (by kernel_rfl) (by kernel_rfl)
        list:=a9d NS hb T.builtins _ _ (by decide) (by kernel_rfl) (by kernel_rfl)
        range:=a9d NS hb T.builtins _ _ (by decide) (by kernel_rfl) (by kernel_rfl)
        enum:=a9d NS hb T.builtins _ _ (by decide) (by kernel_rfl) (by kernel_rfl)
        zip:=a9d NS hb T.builtins _ _ (by decide) (by kernel_rfl) (by kernel_rfl)
        tup:=a9d NS hb T.builtins _ _ (by decide) (by kernel_rfl) (by kernel_rfl)
        isi:=a9d NS hb T.builtins _ _ (by decide) (by kernel_rfl) (by kernel_rfl)
        nt:=⟨_,a1p NS rfl⟩
        eof:=⟨_,a1p NS rfl⟩
        third:=⟨_,a1p NS rfl⟩
        sixth:=⟨_,a1p NS rfl⟩
        twothird:=⟨_,a1p NS rfl⟩
        tok:=⟨92,a1p NS (by kernel_rfl),c9b X (by decide) rfl (d9i (by kernel_rfl) (by kernel_rfl)) (by kernel_rfl) (by decide +kernel)⟩} hbig rd hrc (a9d NS hb T.builtins _ _ (by decide) (by kernel_rfl) (by kernel_rfl)) (a1p NS (by rw [hC];kernel_rfl)) hcls (by rw [hC];exact makes_of X (by kernel_rfl)) ini st ⟨p,q,er⟩ (by rw [hst];kernel_rfl)
      ⟨(a1v (a2k X (a:=35) (c:=34) rfl rfl rfl rfl rfl rfl rfl rfl rfl rfl (b6v fun a b c=>by kernel_rfl) (by kernel_rfl) (mt:=[]) (by kernel_rfl)) (by kernel_rfl)),
      (a1v (a2k X (a:=49) (c:=48) rfl rfl rfl rfl rfl rfl rfl rfl rfl rfl (b6v fun a b c=>by kernel_rfl) (by kernel_rfl) (mt:=[]) (by kernel_rfl)) (by kernel_rfl)),
      (a1v (a2k X (a:=42) (c:=41) rfl rfl rfl rfl rfl rfl rfl rfl rfl rfl (b6v fun a b c=>by kernel_rfl) (by kernel_rfl) (mt:=[]) (by kernel_rfl)) (by kernel_rfl)),
      (a1v (a2k X (a:=21) (c:=20) rfl rfl rfl rfl rfl rfl rfl rfl rfl rfl (b6v fun a b c=>by kernel_rfl) (by kernel_rfl) (mt:=[]) (by kernel_rfl)) (by kernel_rfl)),
      (a1v (a2k X (a:=28) (c:=27) rfl rfl rfl rfl rfl rfl rfl rfl rfl rfl (b6v fun a b c=>by kernel_rfl) (by kernel_rfl) (mt:=[]) (by kernel_rfl)) (by kernel_rfl)),
      (a1v (a2k X (a:=115) (c:=114) rfl rfl rfl rfl rfl rfl rfl rfl rfl rfl (b1h fun a=>by kernel_rfl) (by kernel_rfl) (mt:=[]) (by kernel_rfl)) (by kernel_rfl)),
      (a1v (a2k X (a:=108) (c:=107) rfl rfl rfl rfl rfl rfl rfl rfl rfl rfl (b1h fun a=>by kernel_rfl) (by kernel_rfl) (mt:=[]) (by kernel_rfl)) (by kernel_rfl)),
      (a1v (a2k X (a:=101) (c:=100) rfl rfl rfl rfl rfl rfl rfl rfl rfl rfl (b1h fun a=>by kernel_rfl) (by kernel_rfl) (mt:=[]) (by kernel_rfl)) (by kernel_rfl)),
      (b9a (a2k X (a:=77) (c:=76) rfl rfl rfl rfl rfl rfl rfl rfl rfl rfl (b1h fun a=>by kernel_rfl) (by kernel_rfl) (mt:=[]) (by kernel_rfl)) hfg.symm rfl),
      (b9a (a2k X (a:=84) (c:=83) rfl rfl rfl rfl rfl rfl rfl rfl rfl rfl (e6q fun a b=>by kernel_rfl) (by kernel_rfl) (mt:=[]) (by kernel_rfl)) hfp.symm rfl),
      (a1v (a2k X (a:=120) (c:=119) rfl rfl rfl rfl rfl rfl rfl rfl rfl rfl (e6q fun a b=>by kernel_rfl) (by kernel_rfl) (mt:=[]) (by kernel_rfl)) (by kernel_rfl)),
      (a1v (a2k X (a:=134) (c:=133) rfl rfl rfl rfl rfl rfl rfl rfl rfl rfl (b1h fun a=>by kernel_rfl) (by kernel_rfl) (mt:=[]) (by kernel_rfl)) (by kernel_rfl)),
      (a1v (a2k X (a:=139) (c:=138) rfl rfl rfl rfl rfl rfl rfl rfl rfl rfl (b1h fun a=>by kernel_rfl) (by kernel_rfl) (mt:=[]) (by kernel_rfl)) (by kernel_rfl)),
      (a1v (a2k X (a:=144) (c:=143) rfl rfl rfl rfl rfl rfl rfl rfl rfl rfl (b6v fun a b c=>by kernel_rfl) (by kernel_rfl) (mt:=[]) (by kernel_rfl)) (by kernel_rfl)),
      (a1v (a2k X (a:=149) (c:=148) rfl rfl rfl rfl rfl rfl rfl rfl rfl rfl (b1h fun a=>by kernel_rfl) (by kernel_rfl) (mt:=[]) (by kernel_rfl)) (by kernel_rfl)),
      (a1v (a2k X (a:=154) (c:=153) rfl rfl rfl rfl rfl rfl rfl rfl rfl rfl (b6v fun a b c=>by kernel_rfl) (by kernel_rfl) (mt:=["rows","allowed","turns","coming"]) (by kernel_rfl)) (by kernel_rfl)),
      (a1v (a2k X (a:=161) (c:=160) rfl rfl rfl rfl rfl rfl rfl rfl rfl rfl (e8g fun a b c d e=>by kernel_rfl) (by kernel_rfl) (mt:=[]) (by kernel_rfl)) (by kernel_rfl)),
      (a1v (a2k X (a:=166) (c:=165) rfl rfl rfl rfl rfl rfl rfl rfl rfl rfl (b1h fun a=>by kernel_rfl) (by kernel_rfl) (mt:=["heights"]) (by kernel_rfl)) (by kernel_rfl))⟩
set_option Elab.async false
end Mine
end
theorem PySem.Challenge.cw_rs0174_02_holds : PySem.Challenge.rw_rs0174_02.Holds :=
  Mine.top
