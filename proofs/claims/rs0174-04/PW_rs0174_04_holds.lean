import PyProof.Rows.All
import Wide.All
import OpenK.AllK
import Wide.FinOn
import Flt.RightMore
import Lean
import PySem.Challenge.RW_rs0174_04
set_option Elab.async false
set_option linter.all false
set_option tactic.hygienic false
section
namespace Mine
section
section
variable{α β γ δ:Type}{G:Prop}{r:γ}
theorem e5e{P:Prop}(h:∀ G:Prop,(P->G)->G):P:=h P id
theorem ns{a:α}(h:Option.none=some a):G:=by contradiction
theorem nt(h:false=true):G:=by contradiction
theorem ifS{c:Prop}[Decidable c]{a:Option γ}(h:(if c then a else .none)=some r)(k:c->a=some r->G):G:=by
 by_cases hc:c
 ·exact k hc ((if_pos hc).symm.trans h)
 ·exact ns ((if_neg hc).symm.trans h)
theorem ifN{c:Prop}[Decidable c]{a:Option γ}(h:(if c then .none else a)=some r)(k:¬c->a=some r->G):G:=by
 by_cases hc:c
 ·exact ns ((if_pos hc).symm.trans h)
 ·exact k hc ((if_neg hc).symm.trans h)
theorem ifE{c:Prop}[Decidable c]{a b q:α}(h:(if c then a else b)=q)(k1:c->a=q->G)(k2:¬c->b=q->G):G:=by
 by_cases hc:c
 ·exact k1 hc ((if_pos hc).symm.trans h)
 ·exact k2 hc ((if_neg hc).symm.trans h)
theorem a1e{f:α->γ}{x:Option α}(h:x.map f=some r)(k:∀ a,x=some a->f a=r->G):G:=by
 induction x using Option.casesOn with
 | none=>exact ns h
 | some a=>exact k a rfl (Option.some.inj h)
theorem a0h{f:α->Option γ}{x:Option α}(h:x.bind f=some r)(k:∀ a,x=some a->f a=some r->G):G:=by
 induction x using Option.casesOn with
 | none=>exact ns h
 | some a=>exact k a rfl h
theorem c2d{x:Option α}{b:Option γ}{f:α->Option γ}(h:x.elim b f=some r)(k1:∀ a,x=some a->f a=some r->G)(k2:x=.none->b=some r->G):G:=by
 induction x using Option.casesOn with
 | none=>exact k2 rfl h
 | some a=>exact k1 a rfl h
theorem pr{a c:α}{b d:β}(h:(a,b)=(c,d))(k:a=c->b=d->G):G:=k (congrArg Prod.fst h) (congrArg Prod.snd h)
theorem sp{a c:α}{b d:β}(h:some (a,b)=some (c,d))(k:a=c->b=d->G):G:=pr (Option.some.inj h) k
theorem s1{a c:α}(h:some a=some c)(k:a=c->G):G:=k (Option.some.inj h)
theorem a0e{a b:Bool}(h:(a&&b)=true):a=true:=by cases a<;>first | rfl | exact nt h
theorem a0n{a b:Bool}(h:(a&&b)=true):b=true:=by cases a<;>first | exact h | exact nt h
theorem f0g{a b:Bool}(h:¬(a||b)=true):a=false:=by cases a<;>first | rfl | exact absurd rfl h
theorem orn{a b:Bool}(h:(a||!b)=true)(hb:b=true):a=true:=by cases a<;>first | rfl | (subst hb;exact nt h)
theorem c4p{a:Bool}(h:(!a)=true):a=false:=by cases a<;>first | rfl | exact nt h
end
end
end Mine
end
section
open PySem PySem.W PyProof.Rows
namespace Mine
inductive V where
 | none | bool (b:Bool) | int (i:Int) | flt (b:UInt64) | str (s:List Nat)
 | tup (l:List V) | lst (l:List V) | mut (k:Nat) | typ (s:String)
 deriving Inhabited
inductive M where
 | list (l:List V)
 | obj (is:List Nat) (n:Int)
 deriving Inhabited
noncomputable def Kp(as:List Addr)(h h':Heap):Prop:=∀ a o,a∉as->h.get? a=some o->h'.get? a=some o
theorem Kp.refl(as:List Addr)(h:Heap):Kp as h h:=fun zz zz zz e=>e
theorem Kp.push{as:List Addr}{h h':Heap}(x:Kp as h h')(o:Obj):Kp as h (h'.push o):=fun a o' ha e=>Heap.get?_push_of_some o (x a o' ha e)
theorem Kp.mod{as:List Addr}{h hY hJ:Heap}{I:Addr}(x:Kp as h hY)(hI:h.get? I=.none)(y:∀ a o,a≠I->hY.get? a=some o->hJ.get? a=some o):Kp as h hJ:=
 fun a o ha e=>y a o (fun q=>by rw [q,hI]at e;exact ns e) (x a o ha e)
mutual
noncomputable def Rep(h:Heap)(as:List (List Addr)):V->Value->Prop
 | .none,v=>v=.none
 | .bool b,v=>v=.bool b
 | .int i,v=>∃ t,v=.int i t
 | .flt b,v=>∃ t,v=.float b t
 | .str x,v=>∃ t,v=.str ⟨x.toArray⟩ t
 | .tup l,v=>∃ a vs,v=.ref a/\a∉as.flatten/\h.IsTuple a vs.toArray/\Reps h as l vs
 | .lst l,v=>∃ a vs,v=.ref a/\a∉as.flatten/\h.PlainList a vs.toArray/\Reps h as l vs
 | .mut k,v=>∃ a r,as[k+1]?=some (a::r)/\v=.ref a
 | .typ t,v=>v=.type t
noncomputable def Reps(h:Heap)(as:List (List Addr)):List V->List Value->Prop
 | [],vs=>vs=[]
 | x::l,vs=>∃ v r,vs=v::r/\Rep h as x v/\Reps h as l r
end
theorem Reps.length{as:List (List Addr)}{h:Heap}:∀ {l:List V} {vs:List Value},Reps h as l vs->vs.length=l.length:=by
 intro z_;induction z_ with
 | nil=>
  intro _ r;cases r;rfl
 | cons x l ih=>
  intro vs r;obtain⟨v,rs,rfl,_,hr⟩:=r;exact congrArg (·+1) (ih hr)
theorem Reps.nil{as:List (List Addr)}{h:Heap}:Reps h as [] []:=rfl
theorem Reps.cons{as:List (List Addr)}{h:Heap}{x:V}{v:Value}{l:List V}{vs:List Value}(hx:Rep h as x v)(hr:Reps h as l vs):Reps h as (x::l) (v::vs):=⟨v,vs,rfl,hx,hr⟩
theorem Reps.append{as:List (List Addr)}{h:Heap}:∀ {l l':List V} {vs vs':List Value},Reps h as l vs->Reps h as l' vs'->Reps h as (l++l') (vs++vs'):=by
 intro z_;induction z_ with
 | nil=>
  intro _ _ _ r r';cases r;exact r'
 | cons x l ih=>
  intro l' vs vs' r r';obtain⟨v,rs,rfl,hx,hr⟩:=r;exact Reps.cons hx (ih hr r')
theorem Reps.get{as:List (List Addr)}{h:Heap}:∀ {l:List V} {vs:List Value} (i:Nat) {x:V},Reps h as l vs->l[i]?=some x->∃ v,vs[i]?=some v/\Rep h as x v
 | [],_,i,_,_,e=>by exact ns e
 | y::l,vs,0,x,r,e=>by
  obtain⟨v,rs,rfl,hx,_⟩:=r;obtain rfl:=Option.some.inj e;exact⟨v,rfl,hx⟩
 | y::l,vs,i+1,x,r,e=>by
  obtain⟨v,rs,rfl,_,hr⟩:=r;exact Reps.get i hr e
theorem Reps.drop{as:List (List Addr)}{h:Heap}:∀(n:Nat) {l:List V} {vs:List Value},Reps h as l vs->Reps h as (l.drop n) (vs.drop n):=by
 intro n;induction n with
 | zero=>exact fun r=>r
 | succ n ih=>
  intro l vs r;induction l using List.casesOn with
  | nil=>cases r;exact rfl
  | cons y l=>
   obtain⟨v,rs,rfl,_,hr⟩:=r;exact ih hr
theorem Reps.reverse{as:List (List Addr)}{h:Heap}:∀ {l:List V} {vs:List Value},Reps h as l vs->Reps h as l.reverse vs.reverse:=by
 intro z_;induction z_ with
 | nil=>
  intro _ r;cases r;rfl
 | cons y l ih=>
  intro vs r;obtain⟨v,rs,rfl,hv,hr⟩:=r;rw [List.reverse_cons,List.reverse_cons];exact Reps.append (ih hr) (Reps.cons hv .nil)
end Mine
namespace Mine
structure Go(as:List (List Addr))(h:Heap)(as':List (List Addr))(h':Heap):Prop where
 ext:∃ nw,as'=as++nw/\∀ a∈nw.flatten,h.get? a=.none
 keep:Kp as.tail.flatten h h'
 alive:∀ a∈as'.flatten,∃ o,h'.get? a=some o
theorem a5f{as:List (List Addr)}{a:Addr}(h:a∈as.tail.flatten):a∈as.flatten:=by
 induction as using List.casesOn with
 | nil=>simp at h
 | cons x r=>rw [List.flatten_cons];exact List.mem_append_right _ h
theorem b3v{as nw:List (List Addr)}{a:Addr}(h:a∈(as++nw).tail.flatten):a∈as.tail.flatten∨a∈nw.flatten:=by
 induction as using List.casesOn with
 | nil=>exact .inr (a5f h)
 | cons x r=>
  rw [List.cons_append,List.tail_cons,List.flatten_append]at h;exact List.mem_append.mp h
theorem Go.at{as as':List (List Addr)}{h h':Heap}(g:Go as h as' h'){a:Addr}{o:Obj}(ha:a∉as.flatten)(e:h.get? a=some o):h'.get? a=some o:=g.keep a o (fun q=>ha (a5f q)) e
theorem Go.refl{as:List (List Addr)}{h:Heap}(al:∀ a∈as.flatten,∃ o,h.get? a=some o):Go as h as h:=⟨⟨[],by simp,by simp⟩,Kp.refl _ _,al⟩
theorem Go.sub{as as':List (List Addr)}{h h':Heap}(g:Go as h as' h'){a:Addr}(ha:a∈as.flatten):a∈as'.flatten:=by
 obtain⟨nw,rfl,_⟩:=g.ext;rw [List.flatten_append];exact List.mem_append_left _ ha
theorem Go.off{as as':List (List Addr)}{h h':Heap}(g:Go as h as' h'){a:Addr}{o:Obj}(e:h.get? a=some o)(ha:a∉as.flatten):a∉as'.flatten:=by
 obtain⟨nw,rfl,hn⟩:=g.ext;rw [List.flatten_append];intro hm;rcases List.mem_append.mp hm with hm | hm
 ·exact ha hm
 ·rw [hn a hm]at e;exact ns e
theorem Go.trans{as asI asJ:List (List Addr)}{h hY hJ:Heap}(x:Go as h asI hY)(y:Go asI hY asJ hJ):Go as h asJ hJ:=by
 refine⟨?_,fun a o ha e=>y.keep a o (fun q=>?_) (x.keep a o ha e),y.alive⟩
 rotate_left
 ·obtain⟨n1,rfl,h1⟩:=x.ext
  rcases b3v q with q | q
  ·exact ha q
  ·rw [h1 a q]at e;exact ns e
 have xs:=@Go.sub _ _ _ _ x;have xa:=x.alive;have xk:=@Go.at _ _ _ _ x;obtain⟨n1,rfl,h1⟩:=x.ext;obtain⟨n2,rfl,h2⟩:=y.ext;refine⟨n1++n2,by simp,fun a ha=>?_⟩;rw [List.flatten_append]at ha;rcases List.mem_append.mp ha with ha | ha
 ·exact h1 a ha
 ·induction q:h.get? a using Option.casesOn with
  | none=>rfl
  | some o=>
   by_cases m:a∈as.flatten
   ·obtain⟨o',e'⟩:=xa a (xs m)
    rw [h2 a ha]at e';exact ns e'
   ·have:=xk m q
    rw [h2 a ha]at this;exact ns this
theorem Go.get{as as':List (List Addr)}{h h':Heap}(g:Go as h as' h'){k:Nat}{l:List Addr}(e:as[k]?=some l):as'[k]?=some l:=by
 obtain⟨nw,rfl,_⟩:=g.ext;rw [List.getElem?_append_left (List.getElem?_eq_some_iff.mp e).1];exact e
theorem Go.push{as as':List (List Addr)}{h h':Heap}(g:Go as h as' h')(o:Obj):Go as h as' (h'.push o):=
 ⟨g.ext,g.keep.push o,fun a ha=>let⟨o',e⟩:=g.alive a ha;⟨o',Heap.get?_push_of_some o e⟩⟩
theorem Go.mod{as as':List (List Addr)}{h hY hJ:Heap}{I:Addr}(g:Go as h as' hY)(hI:h.get? I=.none)(hn:I∉as'.flatten)(y:∀ a o,a≠I->hY.get? a=some o->hJ.get? a=some o):Go as h as' hJ:=
 ⟨g.ext,g.keep.mod hI y,fun a ha=>let⟨o,e⟩:=g.alive a ha;⟨o,y a o (fun q=>hn (q▸ha)) e⟩⟩
mutual
theorem Rep.tr{as as':List (List Addr)}{h h':Heap}(hO:∀ a o,a∉as.flatten->h.get? a=some o->(∃ xs n,o.data=.seq xs n)->a∉as'.flatten/\h'.get? a=some o)(hM:∀(k:Nat) (l:List Addr),as[k+1]?=some l->as'[k+1]?=some l):∀ {x:V} {v:Value},Rep h as x v->Rep h' as' x v
 | .none,_,r=>r
 | .bool _,_,r=>r
 | .int _,_,r=>r
 | .flt _,_,r=>r
 | .str _,_,r=>r
 | .typ _,_,r=>r
 | .mut _,_,r=>let⟨a,q,e,e2⟩:=r;⟨a,q,hM _ _ e,e2⟩
 | .tup l,v,r=>by
  obtain⟨a,vs,e,ha,⟨o,ho,hc,n,hd⟩,hr⟩:=r;exact⟨a,vs,e,(hO a o ha ho ⟨_,_,hd⟩).1,⟨o,(hO a o ha ho ⟨_,_,hd⟩).2,hc,n,hd⟩,Reps.tr hO hM hr⟩
 | .lst l,v,r=>by
  obtain⟨a,vs,e,ha,⟨n,ho⟩,hr⟩:=r;exact⟨a,vs,e,(hO a _ ha ho ⟨_,_,rfl⟩).1,⟨n,(hO a _ ha ho ⟨_,_,rfl⟩).2⟩,Reps.tr hO hM hr⟩
theorem Reps.tr{as as':List (List Addr)}{h h':Heap}(hO:∀ a o,a∉as.flatten->h.get? a=some o->(∃ xs n,o.data=.seq xs n)->a∉as'.flatten/\h'.get? a=some o)(hM:∀(k:Nat) (l:List Addr),as[k+1]?=some l->as'[k+1]?=some l):∀ {l:List V} {vs:List Value},Reps h as l vs->Reps h' as' l vs
 | [],_,r=>r
 | x::l,vs,r=>by
  obtain⟨v,rs,e,hx,hr⟩:=r;exact⟨v,rs,e,Rep.tr hO hM hx,Reps.tr hO hM hr⟩
end
theorem Rep.go{as as':List (List Addr)}{h h':Heap}(g:Go as h as' h'):∀ {x:V} {v:Value},Rep h as x v->Rep h' as' x v:=fun r=>
 Rep.tr (fun zz zz ha e zz=>⟨g.off e ha,g.at ha e⟩) (fun zz zz=>g.get) r
theorem Reps.go{as as':List (List Addr)}{h h':Heap}(g:Go as h as' h'):∀ {l:List V} {vs:List Value},Reps h as l vs->Reps h' as' l vs:=fun r=>
 Reps.tr (fun zz zz ha e zz=>⟨g.off e ha,g.at ha e⟩) (fun zz zz=>g.get) r
end Mine
end
set_option genInjectivity false
set_option genSizeOf false
set_option bootstrap.genMatcherCode false
section
open PySem PySem.W PyProof.Rows
namespace Mine
section
inductive T where
 | one (i:Nat)
 | many (l:List Nat)
inductive X where
 | cst (v:V)
 | loc (i:Nat)
 | glb (i:Nat)
 | bin (op:Operator) (a b:X)
 | neg (a:X)
 | not (a:X)
 | cmp (op:CmpOp) (a b:X)
 | cmp2 (o1 o2:CmpOp) (a b c:X)
 | and (l:List X)
 | or (l:List X)
 | ite (c a b:X)
 | tup (l:List X)
 | lst (l:List X)
 | mlst (l:List X)
 | sub (a i:X)
 | slc (a:X) (lo hi st:Option X)
 | call (f:Nat) (args:List X)
 | meth (m:Nat) (o:X) (args:List X)
 | attr (m:Nat) (o:X)
 | comp (elt:X) (t:T) (it:X) (ifs:List X) (own:List Nat)
 | inG (neg:Bool) (i:Nat) (a:X)
 | subG (i:Nat) (a:X)
 | lrange (args:List X)
 | range (args:List X)
 | enum (a:X)
 | zip (a b:X)
inductive S where
 | assign (i:Nat) (e:X)
 | unpack (l:List Nat) (e:X)
 | aug (i:Nat) (op:Operator) (e:X)
 | ite (c:X) (a b:List S)
 | for (t:T) (it:X) (body:List S)
 | ret (e:X)
 | expr (e:X)
 | lexer (i:Nat) (e:X)
 | fit (i j:Nat)
 | chars (t:T) (i:Nat) (body:List S)
 | line (j:Nat)
 | brk
 | cont
inductive F where
 | next | brk | cont | ret (v:V)
noncomputable abbrev Rho:=List (Nat×V)
noncomputable abbrev Mu:=List M
noncomputable def put(i:Nat)(v:V):Rho->Rho
 | []=>[(i,v)]
 | p::r=>if p.1==i then(i,v)::r else p::put i v r
noncomputable def big:Nat:=1000000
mutual
noncomputable def b3g:V->Option PyData
 | .none=>some .none
 | .bool b=>some (.bool b)
 | .int i=>some (.int i)
 | .flt _=>Option.none
 | .str s=>some (.str ⟨s.toArray⟩)
 | .tup l=>(toPys l).map .tuple
 | .lst l=>(toPys l).map .list
 | .mut _=>Option.none
 | .typ _=>Option.none
noncomputable def toPys:List V->Option (List PyData)
 | []=>some []
 | x::r=>match b3g x,toPys r with
  | some a,some b=>some (a::b)
  | _,_=>Option.none
end
noncomputable def a1n(μ:Mu):V->V
 | .mut k=>match μ[k]? with
  | some (.list l)=>.lst l
  | _=>.mut k
 | v=>v
noncomputable def fl(r:UInt64):Option V:=some (.flt r)
noncomputable def small(n:Int):Bool:=decide (n.natAbs<2^60)
noncomputable def a0x:Operator->V->V->Option V
 | .Add,.int a,.int b=>some (.int (a+b))
 | .Sub,.int a,.int b=>some (.int (a-b))
 | .Sub,.bool a,.bool b=>some (.int (b2i a-b2i b))
 | .Mult,.int a,.int b=>if small a then some (.int (a * b))else .none
 | .FloorDiv,.int a,.int b=>if b != 0&&small b then some (.int (a.fdiv b))else .none
 | .Mod,.int a,.int b=>if b != 0 then some (.int (a.fmod b))else .none
 | .Pow,.int a,.int b=>if decide (0<=b)&&decide (b<=1000)&&small a then some (.int (a^b.toNat))else .none
 | .Div,.int a,.int b=>if b != 0&&!(Float64.isInf (Float64.ofFrac (decide (a<0) != decide (b<0)) a.natAbs b.natAbs))then fl (Float64.ofFrac (decide (a<0) != decide (b<0)) a.natAbs b.natAbs)else .none
 | .Add,.flt a,.flt b=>fl (Float64.add a b)
 | .Sub,.flt a,.flt b=>fl (Float64.sub a b)
 | .Mult,.flt a,.flt b=>fl (Float64.mul a b)
 | .Div,.flt a,.flt b=>if !(Float64.isZero b)then fl (Float64.div a b)else .none
 | .Mod,.flt a,.flt b=>if !(Float64.isZero b)then fl (Float64.divmod a b).snd else .none
 | .Add,.flt a,.int n=>if small n then fl (Float64.add a (Float64.ofInt n))else .none
 | .Sub,.flt a,.int n=>if small n then fl (Float64.sub a (Float64.ofInt n))else .none
 | .Mult,.int n,.flt a=>if small n then fl (Float64.mul (Float64.ofInt n) a)else .none
 | .Add,.str a,.str b=>if decide (a.length+b.length<=big)then some (.str (a++b))else .none
 | .Mult,.str a,.int n=>if decide (a.length * n.toNat<=big)&&small n then some (.str (List.replicate n.toNat a).flatten)else .none
 | .Add,.lst a,.lst b=>if decide (a.length+b.length<=big)then some (.lst (a++b))else .none
 | .Mult,.lst a,.int n=>if decide (a.length * n.toNat<=big)&&small n then some (.lst (List.replicate n.toNat a).flatten)else .none
 | _,_,_=>.none
section
variable(a b:Int)(x y:UInt64)(s t:List Nat)(l m:List V)
theorem b0r:a0x .Mult (.int a) (.int b)=if small a then some (.int (a * b))else .none:=rfl
theorem a7q:a0x .FloorDiv (.int a) (.int b)=if b != 0&&small b then some (.int (a.fdiv b))else .none:=rfl
theorem a8l:a0x .Mod (.int a) (.int b)=if b != 0 then some (.int (a.fmod b))else .none:=rfl
theorem b1m:a0x .Pow (.int a) (.int b)=if decide (0<=b)&&decide (b<=1000)&&small a then some (.int (a^b.toNat))else .none:=rfl
theorem b2x:a0x .Div (.int a) (.int b)=if b != 0&&!(Float64.isInf (Float64.ofFrac (decide (a<0) != decide (b<0)) a.natAbs b.natAbs))then fl (Float64.ofFrac (decide (a<0) != decide (b<0)) a.natAbs b.natAbs)else .none:=rfl
theorem b1l:a0x .Div (.flt x) (.flt y)=if !(Float64.isZero y)then fl (Float64.div x y)else .none:=rfl
theorem b0u:a0x .Mod (.flt x) (.flt y)=if !(Float64.isZero y)then fl (Float64.divmod x y).snd else .none:=rfl
theorem a9a:a0x .Add (.flt x) (.int a)=if small a then fl (Float64.add x (Float64.ofInt a))else .none:=rfl
theorem a9c:a0x .Sub (.flt x) (.int a)=if small a then fl (Float64.sub x (Float64.ofInt a))else .none:=rfl
theorem a7p:a0x .Mult (.int a) (.flt x)=if small a then fl (Float64.mul (Float64.ofInt a) x)else .none:=rfl
theorem b1e:a0x .Add (.str s) (.str t)=if decide (s.length+t.length<=big)then some (.str (s++t))else .none:=rfl
theorem a9h:a0x .Mult (.str s) (.int a)=if decide (s.length * a.toNat<=big)&&small a then some (.str (List.replicate a.toNat s).flatten)else .none:=rfl
theorem b1s:a0x .Add (.lst l) (.lst m)=if decide (l.length+m.length<=big)then some (.lst (l++m))else .none:=rfl
theorem b3i:a0x .Mult (.lst l) (.int a)=if decide (l.length * a.toNat<=big)&&small a then some (.lst (List.replicate a.toNat l).flatten)else .none:=rfl
theorem b3b:a0x .Add (.int a) (.int b)=some (.int (a+b)):=rfl
end
noncomputable def eqv(u v:V):Option Bool:=match b3g u,b3g v with
 | some a,some b=>if SeqAt.shaped a&&SeqAt.shaped b then some (a.eqv b)else .none
 | _,_=>match u,v with
  | .flt a,.flt b=>some (Float64.cmp a b==some .eq)
  | _,_=>.none
noncomputable def d0c(u v:V):Option Bool:=match u,v with
 | .str x,.str y=>some (Txt.contains ⟨y.toArray⟩ ⟨x.toArray⟩)
 | _,.lst l=>match b3g u,toPys l with
  | some d,some xs=>if SeqAt.shaped (.list xs)&&SeqAt.shaped d then some (xs.any fun y=>y.eqv d)else .none
  | _,_=>.none
 | _,_=>.none
noncomputable def a0z:CmpOp->V->V->Option Bool
 | .Eq,u,v=>eqv u v
 | .NotEq,u,v=>(eqv u v).map (!·)
 | .In,u,v=>d0c u v
 | .NotIn,u,v=>(d0c u v).map (!·)
 | .Is,.bool a,.bool b=>some (a==b)
 | .Is,.none,.none=>some true
 | .Is,.lst _,.none=>some false
 | .IsNot,.none,.none=>some false
 | .IsNot,.lst _,.none=>some true
 | .Lt,.int a,.int b=>some (decide (a<b))
 | .LtE,.int a,.int b=>some (decide (a<=b))
 | .Gt,.int a,.int b=>some (decide (a>b))
 | .GtE,.int a,.int b=>some (decide (a≥b))
 | .Lt,.flt a,.flt b=>some (Float64.cmp a b==some .lt)
 | .LtE,.flt a,.flt b=>some (Float64.cmp a b==some .lt||Float64.cmp a b==some .eq)
 | .LtE,.int n,.flt a=>some (Float64.cmpInt a n==some .gt||Float64.cmpInt a n==some .eq)
 | .LtE,.flt a,.int n=>some (Float64.cmpInt a n==some .lt||Float64.cmpInt a n==some .eq)
 | _,_,_=>.none
theorem e4e(u v:V):a0z .Eq u v=eqv u v:=rfl
theorem e4m(u v:V):a0z .NotEq u v=(eqv u v).map (!·):=rfl
theorem e4l(u v:V):a0z .In u v=d0c u v:=rfl
theorem e4j(a b:Int):a0z .Lt (.int a) (.int b)=some (decide (a<b)):=rfl
theorem e4n(a b:Int):a0z .LtE (.int a) (.int b)=some (decide (a<=b)):=rfl
theorem e4f(a b:Int):a0z .Gt (.int a) (.int b)=some (decide (a>b)):=rfl
theorem e3z(a b:Int):a0z .GtE (.int a) (.int b)=some (decide (a≥b)):=rfl
noncomputable def a3a:V->Option Bool
 | .none=>some false
 | .bool b=>some b
 | .int i=>some (i != 0)
 | .str s=>if s.length<=big then some (!s.isEmpty)else .none
 | .tup l=>if l.length<=big then some (!l.isEmpty)else .none
 | .lst l=>if l.length<=big then some (!l.isEmpty)else .none
 | _=>.none
noncomputable def item:V->V->Option V
 | .lst l,.int k=>if l.length<=big then(seqIndex? k l.length).bind (l[·]?)else .none
 | .tup l,.int k=>if l.length<=big then(seqIndex? k l.length).bind (l[·]?)else .none
 | .str s,.int k=>if s.length<=big then(seqIndex? k s.length).bind fun i=>(s[i]?).map fun c=>.str [c]else .none
 | _,_=>.none
noncomputable def b5k:Option V->Option (Option Int)
 | .none=>some .none
 | some (.int i)=>some (some i)
 | some .none=>some .none
 | _=>.none
noncomputable def slT(l:List V)(hi st:Option Int):Option Int->Option V
 | some (.ofNat a)=>if 1<=a/\a<=l.length/\l.length<=big/\hi=.none/\st=.none then some (.tup (l.drop a))else .none
 | _=>.none
noncomputable def a1y(a:V)(lo hi st:Option Int):Option V:=
 if st==some 0 then .none else match a with
 | .lst l=>if l.length<=big then some (.lst ((sliceRange (sliceBounds lo hi st l.length).1 (sliceBounds lo hi st l.length).2.1 (sliceBounds lo hi st l.length).2.2).filterMap (l[·]?)))else .none
 | .str s=>if s.length<=big/\((Builtin.Str.strSliceIndices lo hi (st.getD 1) s.length).filterMap (s[·]?)).length<=big then some (.str (if(st.getD 1==1&&(Builtin.Str.strSliceIndices lo hi (st.getD 1) s.length).length==s.length)=true then s else(Builtin.Str.strSliceIndices lo hi (st.getD 1) s.length).filterMap (s[·]?)))else .none
 | .tup l=>slT l hi st lo
 | _=>.none
noncomputable def a8t:List Nat->V->Rho->Option Rho
 | is,.tup l,ρ=>if is.length==l.length then some ((is.zip l).foldl (fun ρ p=>put p.1 p.2 ρ) ρ)else .none
 | is,.lst l,ρ=>if is.length==l.length then some ((is.zip l).foldl (fun ρ p=>put p.1 p.2 ρ) ρ)else .none
 | _,_,_=>.none
noncomputable def a3f:T->V->Rho->Option Rho
 | .one i,v,ρ=>some (put i v ρ)
 | .many is,.tup l,ρ=>a8t is (.tup l) ρ
 | _,_,_=>.none
section
variable{γ:Type}{r:γ}{P:Prop}
theorem a7c{e:Option (V×Mu)}{f:V->Mu->Option γ}(h:(match e with | some (a,b)=>f a b | .none=>.none)=some r)(k:∀ a b,e=some (a,b)->f a b=some r->P):P:=by
 induction e using Option.casesOn with
 | none=>exact ns h
 | some p=>exact k p.1 p.2 rfl h
theorem c4q{e:Option (List V×Mu)}{f:List V->Mu->Option γ}(h:(match e with | some (a,b)=>f a b | .none=>.none)=some r)(k:∀ a b,e=some (a,b)->f a b=some r->P):P:=by
 induction e using Option.casesOn with
 | none=>exact ns h
 | some p=>exact k p.1 p.2 rfl h
theorem e7l{e:Option (Option V×Mu)}{f:Option V->Mu->Option γ}(h:(match e with | some (a,b)=>f a b | .none=>.none)=some r)(k:∀ a b,e=some (a,b)->f a b=some r->P):P:=by
 induction e using Option.casesOn with
 | none=>exact ns h
 | some p=>exact k p.1 p.2 rfl h
theorem d2e{e:Option Bool}{a b:Option γ}(h:(match e with | some true=>a | some false=>b | .none=>.none)=some r)(k1:e=some true->a=some r->P)(k2:e=some false->b=some r->P):P:=by
 induction e using Option.casesOn with
 | none=>exact ns h
 | some c=>induction c using Bool.casesOn with
  | true=>exact k1 rfl h
  | false=>exact k2 rfl h
end
structure G where
 tbl:List Str
 glob:Nat->Option V
 call:Nat->Nat->List V->Mu->Option (V×Mu)
 find:Nat->V->Mu->Bool
 meth:Nat->Nat->V->List V->Mu->Option (V×Mu)
 attr:Nat->V->Mu->Option V
 dic:Nat->Option (List (List Nat×Int))
 lexOn:Bool
 ownR:Bool
noncomputable def evs(f:X->Mu->Option (V×Mu)):List X->Mu->Option (List V×Mu)
 | [],μ=>some ([],μ)
 | x::r,μ=>match f x μ with
  | some (v,μ)=>match evs f r μ with
   | some (vs,μ)=>some (v::vs,μ)
   | .none=>.none
  | .none=>.none
noncomputable def evo(f:X->Mu->Option (V×Mu)):Option X->Mu->Option (Option V×Mu)
 | .none,μ=>some (.none,μ)
 | some x,μ=>match f x μ with
  | some (v,μ)=>some (some v,μ)
  | .none=>.none
noncomputable def e4o(f:X->Mu->Option (V×Mu)):List X->Mu->Option (V×Mu)
 | [],_=>.none
 | [x],μ=>f x μ
 | x::r,μ=>match f x μ with
  | some (v,μ)=>match a3a (a1n μ v)with
   | some true=>e4o f r μ
   | some false=>some (v,μ)
   | .none=>.none
  | .none=>.none
noncomputable def ors(f:X->Mu->Option (V×Mu)):List X->Mu->Option (V×Mu)
 | [],_=>.none
 | [x],μ=>f x μ
 | x::r,μ=>match f x μ with
  | some (v,μ)=>match a3a (a1n μ v)with
   | some true=>some (v,μ)
   | some false=>ors f r μ
   | .none=>.none
  | .none=>.none
noncomputable def a0p(a b c:Int):List V:=(List.range (Builtin.Range.rangeSize a b c).toNat).map fun(i:Nat)=>.int (a+(i:Int) * c)
noncomputable def b8k:V->Option Int
 | .int i=>some i
 | _=>.none
noncomputable def a0l:List V->Option (List V)
 | []=>.none
 | [x]=>(b8k x).bind fun b=>if Builtin.Range.small 0 b 1 then some (a0p 0 b 1)else .none
 | [x,y]=>(b8k x).bind fun a=>(b8k y).bind fun b=>if Builtin.Range.small a b 1 then some (a0p a b 1)else .none
 | [x,y,z]=>(b8k x).bind fun a=>(b8k y).bind fun b=>(b8k z).bind fun c=>if Builtin.Range.small a b c&&c != 0&&small c then some (a0p a b c)else .none
 | _::_::_::_::_=>.none
theorem d1k{b:Int}(h:Builtin.Range.small 0 b 1=true):a0l [.int b]=some (a0p 0 b 1):=if_pos h
theorem d1g{a b:Int}(h:Builtin.Range.small a b 1=true):a0l [.int a,.int b]=some (a0p a b 1):=if_pos h
noncomputable def a5a:V->Option (List V)
 | .lst l=>some l
 | .tup l=>some l
 | .str s=>some (s.map fun c=>.str [c])
 | _=>.none
noncomputable def a1w(f:X->Mu->Option (V×Mu))(x:X)(μ:Mu):Option (List V×Mu):=match x with
 | .range args=>match evs f args μ with
  | some (vs,μ)=>(a0l vs).map (·,μ)
  | .none=>.none
 | .enum a=>match f a μ with
  | some (.lst l,μ)=>some (l.zipIdx.map fun p=>.tup [.int p.2,p.1],μ)
  | _=>.none
 | x=>match f x μ with
  | some (v,μ)=>(a5a v).map (·,μ)
  | .none=>.none
noncomputable def b2l(f:X->Mu->Option (V×Mu)):List X->Mu->Option (Bool×Mu)
 | [],μ=>some (true,μ)
 | x::r,μ=>match f x μ with
  | some (v,μ)=>match a3a (a1n μ v)with
   | some true=>b2l f r μ
   | some false=>some (false,μ)
   | .none=>.none
  | .none=>.none
noncomputable def a8z(f:X->Rho->Mu->Option (V×Mu))(elt:X)(t:T)(ifs:List X):List V->Rho->Mu->Option (List V×Mu)
 | [],_,μ=>some ([],μ)
 | v::r,ρ,μ=>match a3f t v ρ with
  | .none=>.none
  | some ρ=>match b2l (fun x μ=>f x ρ μ) ifs μ with
   | .none=>.none
   | some (false,μ)=>a8z f elt t ifs r ρ μ
   | some (true,μ)=>match f elt ρ μ with
    | .none=>.none
    | some (y,μ)=>match a8z f elt t ifs r ρ μ with
     | .none=>.none
     | some (ys,μ)=>some (y::ys,μ)
noncomputable def a4f(f:X->Rho->Mu->Option (V×Mu))(elt:X)(t:T)(ifs:List X)(P:Mu->Prop)[∀ μ,Decidable (P μ)]:List V->Rho->Mu->Option (List V×Mu)
 | [],_,μ=>if P μ then some ([],μ)else .none
 | v::r,ρ,μ=>if P μ then match a3f t v ρ with
  | .none=>.none
  | some ρ=>match b2l (fun x μ=>f x ρ μ) ifs μ with
   | .none=>.none
   | some (false,μ)=>a4f f elt t ifs P r ρ μ
   | some (true,μ)=>match f elt ρ μ with
    | .none=>.none
    | some (y,μ)=>match a4f f elt t ifs P r ρ μ with
     | .none=>.none
     | some (ys,μ)=>some (y::ys,μ)
  else .none
noncomputable def d0f(f:X->Mu->Option (V×Mu))(x:X)(μ:Mu):Option (Nat×List V×Mu):=match f x μ with
 | some (.mut k,μ)=>match μ[k]? with
  | some (.list l)=>some (k,l,μ)
  | _=>.none
 | _=>.none
open Classical in
noncomputable def d0v(f:X->Rho->Mu->Option (V×Mu))(elt:X)(t:T)(it:X)(ifs:List X)(ρ ρ':Rho)(μ:Mu):Option (V×Mu):=(d0f (fun x μ=>f x ρ μ) it μ).bind fun q=>if q.2.1.length<=big then
 (a4f f elt t ifs (fun μ=>μ[q.1]?=some (.list q.2.1)) q.2.1 ρ' q.2.2).map fun p=>(.lst p.1,p.2)else .none
noncomputable def ev(Γ:G):Nat->X->Rho->Mu->Option (V×Mu)
 | 0,_,_,_=>.none
 | n+1,x,ρ,μ=>match x with
  | .cst v=>some (v,μ)
  | .loc i=>(ρ.lookup i).map (·,μ)
  | .glb i=>(Γ.glob i).map (·,μ)
  | .bin op a b=>match ev Γ n a ρ μ with
   | some (u,μ)=>match ev Γ n b ρ μ with
    | some (v,μ)=>(a0x op (a1n μ u) (a1n μ v)).map (·,μ)
    | .none=>.none
   | .none=>.none
  | .neg a=>match ev Γ n a ρ μ with
   | some (.int i,μ)=>some (.int (-i),μ)
   | _=>.none
  | .not a=>match ev Γ n a ρ μ with
   | some (v,μ)=>(a3a (a1n μ v)).map fun b=>(.bool (!b),μ)
   | .none=>.none
  | .cmp op a b=>match ev Γ n a ρ μ with
   | some (u,μ)=>match ev Γ n b ρ μ with
    | some (v,μ)=>(a0z op (a1n μ u) (a1n μ v)).map fun b=>(.bool b,μ)
    | .none=>.none
   | .none=>.none
  | .cmp2 o1 o2 a b c=>match ev Γ n a ρ μ with
   | some (u,μ)=>match ev Γ n b ρ μ with
    | some (v,μ)=>match a0z o1 (a1n μ u) (a1n μ v)with
     | some true=>match ev Γ n c ρ μ with
      | some (w,μ)=>(a0z o2 (a1n μ v) (a1n μ w)).map fun b=>(.bool b,μ)
      | .none=>.none
     | some false=>some (.bool false,μ)
     | .none=>.none
    | .none=>.none
   | .none=>.none
  | .and l=>e4o (fun x μ=>ev Γ n x ρ μ) l μ
  | .or l=>ors (fun x μ=>ev Γ n x ρ μ) l μ
  | .ite c a b=>match ev Γ n c ρ μ with
   | some (v,μ)=>match a3a (a1n μ v)with
    | some true=>ev Γ n a ρ μ
    | some false=>ev Γ n b ρ μ
    | .none=>.none
   | .none=>.none
  | .tup l=>match evs (fun x μ=>ev Γ n x ρ μ) l μ with
   | some (vs,μ)=>if vs.length<=big then some (.tup vs,μ)else .none
   | .none=>.none
  | .lst l=>match evs (fun x μ=>ev Γ n x ρ μ) l μ with
   | some (vs,μ)=>if vs.length<=big then some (.lst vs,μ)else .none
   | .none=>.none
  | .mlst l=>match evs (fun x μ=>ev Γ n x ρ μ) l μ with
   | some (vs,μ)=>if vs.length<=big then some (.mut μ.length,μ++[.list vs])else .none
   | .none=>.none
  | .sub a i=>match ev Γ n a ρ μ with
   | some (u,μ)=>match ev Γ n i ρ μ with
    | some (v,μ)=>(item (a1n μ u) v).map (·,μ)
    | .none=>.none
   | .none=>.none
  | .slc a lo hi st=>match ev Γ n a ρ μ with
   | some (u,μ)=>match evo (fun x μ=>ev Γ n x ρ μ) lo μ with
    | some (l,μ)=>match evo (fun x μ=>ev Γ n x ρ μ) hi μ with
     | some (h,μ)=>match evo (fun x μ=>ev Γ n x ρ μ) st μ with
      | some (s,μ)=>match b5k l,b5k h,b5k s with
       | some l,some h,some s=>(a1y (a1n μ u) l h s).map (·,μ)
       | _,_,_=>.none
      | .none=>.none
     | .none=>.none
    | .none=>.none
   | .none=>.none
  | .call f args=>match evs (fun x μ=>ev Γ n x ρ μ) args μ with
   | some (vs,μ)=>Γ.call n f vs μ
   | .none=>.none
  | .meth m o args=>match ev Γ n o ρ μ with
   | some (u,μ)=>if Γ.find m u μ then match evs (fun x μ=>ev Γ n x ρ μ) args μ with
     | some (vs,μ)=>Γ.meth n m u vs μ
     | .none=>.none
    else .none
   | .none=>.none
  | .attr m o=>match ev Γ n o ρ μ with
   | some (u,μ)=>(Γ.attr m u μ).map (·,μ)
   | .none=>.none
  | .comp elt t it ifs own=>match a1w (fun x μ=>ev Γ n x ρ μ) it μ with
   | some (vs,μ)=>if vs.length<=big then
     match a8z (ev Γ n) elt t ifs vs (ρ.filter fun p=>!own.contains p.1) μ with
     | some (ys,μ)=>some (.lst ys,μ)
     | .none=>.none
    else .none
   | .none=>d0v (ev Γ n) elt t it ifs ρ (ρ.filter fun p=>!own.contains p.1) μ
  | .inG neg i a=>match ev Γ n a ρ μ,Γ.dic i with
   | some (.str x,μ),some l=>some (.bool ((l.lookup x).isSome != neg),μ)
   | _,_=>.none
  | .subG i a=>match ev Γ n a ρ μ,Γ.dic i with
   | some (.str x,μ),some l=>(l.lookup x).map fun k=>(.int k,μ)
   | _,_=>.none
  | .lrange args=>match evs (fun x μ=>ev Γ n x ρ μ) args μ with
   | some (vs,μ)=>(a0l vs).bind fun l=>if l.length<=big then(if Γ.ownR then some (.mut μ.length,μ++[.list l])else some (.lst l,μ))else .none
   | .none=>.none
  | .range _=>.none
  | .enum _=>.none
  | .zip _ _=>.none
noncomputable def a3w(f:Rho->Mu->Option (F×Rho×Mu))(t:T):List V->Rho->Mu->Option (F×Rho×Mu)
 | [],ρ,μ=>some (.next,ρ,μ)
 | v::r,ρ,μ=>match a3f t v ρ with
  | .none=>.none
  | some ρ=>match f ρ μ with
   | .none=>.none
   | some (.brk,ρ,μ)=>some (.next,ρ,μ)
   | some (.ret v,ρ,μ)=>some (.ret v,ρ,μ)
   | some (_,ρ,μ)=>a3w f t r ρ μ
noncomputable def a3q(f:S->Rho->Mu->Option (F×Rho×Mu)):List S->Rho->Mu->Option (F×Rho×Mu)
 | [],ρ,μ=>some (.next,ρ,μ)
 | s::r,ρ,μ=>match f s ρ μ with
  | some (.next,ρ,μ)=>a3q f r ρ μ
  | x=>x
noncomputable def chars(t:List Nat):List V:=t.reverse.map fun c=>.str [c]
noncomputable def a6p(μ:Mu)(t:List Nat):Option (Nat×Mu):=if t.length<=big then match (μ[0]?:Option M)with
 | some (.obj [] (-1))=>some (μ.length+2,μ.set 0 (.obj [μ.length+1] (-5))++[.list (chars t),.obj [] (-6),.obj [μ.length,μ.length+1] (-3)])
 | some (.obj [kc] (-5))=>some (μ.length+1,μ++[.list (chars t),.obj [μ.length,kc] (-3)])
 | _=>.none
 else .none
noncomputable def a9e(m ks:Nat):Mu:=[.list [],.obj [m,ks] 1]
noncomputable def a0w(μ:Mu)(k:Nat):Option (List Nat×Mu):=match μ[k]? with
 | some (.obj [kp,ks] n)=>if 1<=n then match μ[ks]? with
  | some (.obj [kl,kc] (-3))=>match μ[kl]?,μ[kc]? with
   | some (.list L),some (.obj [] (-6))=>if L.length<=big then match L.getLast? with
    | .none=>some ([],μ)
    | some (.str [c])=>if c<1114112 then(if c=10 then some ([c],(μ.set kl (.list L.dropLast)).set k (.obj [kp,ks] (n+1)))else some ([c],μ.set kl (.list L.dropLast)))else .none
    | _=>.none
    else .none
   | _,_=>.none
  | _=>.none
  else .none
 | _=>.none
noncomputable def draw(μ:Mu)(kf:Nat):Option (Option (List Nat)×Mu):=match μ[kf]? with
 | some (.obj [k] (-2))=>match a0w μ k with
  | some ([],μ)=>some (.none,μ.set kf (.obj [k] (-4)))
  | some (c,μ)=>some (some c,μ)
  | .none=>.none
 | some (.obj [_] (-4))=>some (.none,μ)
 | _=>.none
noncomputable def a3h(f:Rho->Mu->Option (F×Rho×Mu))(t:T)(kf:Nat):Nat->Rho->Mu->Option (F×Rho×Mu)
 | 0,_,_=>.none
 | m+1,ρ,μ=>match draw μ kf with
  | .none=>.none
  | some (.none,μ)=>some (.next,ρ,μ)
  | some (some c,μ)=>match a3f t (.str c) ρ with
   | .none=>.none
   | some ρ=>match f ρ μ with
    | .none=>.none
    | some (.brk,ρ,μ)=>some (.next,ρ,μ)
    | some (.ret v,ρ,μ)=>some (.ret v,ρ,μ)
    | some (_,ρ,μ)=>a3h f t kf m ρ μ
noncomputable def c2r:Operator->V->V->Option V
 | .Add,.int a,.int b=>some (.int (a+b))
 | .Add,.str a,.str b=>if decide (a.length+b.length<=big)then some (.str (a++b))else .none
 | _,_,_=>.none
noncomputable def exec(Γ:G):Nat->List S->Rho->Mu->Option (F×Rho×Mu)
 | 0,_,_,_=>.none
 | n+1,ss,ρ,μ=>a3q (fun s ρ μ=>match s with
  | .assign i e=>match ev Γ n e ρ μ with
   | some (v,μ)=>some (.next,put i v ρ,μ)
   | .none=>.none
  | .unpack l e=>match ev Γ n e ρ μ with
   | some (v,μ)=>(a8t l v ρ).map fun ρ=>(.next,ρ,μ)
   | .none=>.none
  | .aug i op e=>match ρ.lookup i with
   | some u=>match ev Γ n e ρ μ with
    | some (v,μ)=>(c2r op u v).map fun r=>(.next,put i r ρ,μ)
    | .none=>.none
   | .none=>.none
  | .ite c a b=>match ev Γ n c ρ μ with
   | some (v,μ)=>match a3a (a1n μ v)with
    | some true=>exec Γ n a ρ μ
    | some false=>exec Γ n b ρ μ
    | .none=>.none
   | .none=>.none
  | .for t it body=>match a1w (fun x μ=>ev Γ n x ρ μ) it μ with
   | some (vs,μ)=>a3w (fun ρ μ=>exec Γ n body ρ μ) t vs ρ μ
   | .none=>.none
  | .ret e=>match ev Γ n e ρ μ with
   | some (v,μ)=>some (.ret v,ρ,μ)
   | .none=>.none
  | .expr e=>match ev Γ n e ρ μ with
   | some (_,μ)=>some (.next,ρ,μ)
   | .none=>.none
  | .lexer i e=>if Γ.lexOn&&decide (12<=n)then match ev Γ n e ρ μ with
   | some (.mut ks,μ)=>match μ[ks]? with
    | some (.obj [_,_] (-3))=>some (.next,put i (.mut (μ.length+1)) ρ,μ++a9e μ.length ks)
    | _=>.none
   | _=>.none
   else .none
  | .fit i j=>if Γ.lexOn&&decide (12<=n)then match ρ.lookup j with
   | some (.mut k)=>match μ[k]? with
    | some (.obj [_,_] m)=>if 1<=m then some (.next,put i (.mut μ.length) ρ,μ++[.obj [k] (-2)])else .none
    | _=>.none
   | _=>.none
   else .none
  | .chars t i body=>if Γ.lexOn&&decide (12<=n)then match ρ.lookup i with
   | some (.mut k)=>a3h (fun ρ μ=>exec Γ n body ρ μ) t k big ρ μ
   | _=>.none
   else .none
  | .line j=>match ρ.lookup j with
   | some (.mut k)=>match μ[k]? with
    | some (.obj is m)=>if 1<=m then some (.next,ρ,μ.set k (.obj is (m+1)))else .none
    | _=>.none
   | _=>.none
  | .brk=>some (.brk,ρ,μ)
  | .cont=>some (.cont,ρ,μ)) ss ρ μ
mutual
noncomputable def a4v(m:Nat)(μ:Mu):V->Option V
 | .mut k=>if k<m then some (.mut k)else match μ[k]? with
  | some (.list l)=>if a0v l then some (.lst l)else .none
  | _=>.none
 | .tup l=>(b0l m μ l).map .tup
 | .lst l=>if a0v l then some (.lst l)else .none
 | v=>some v
noncomputable def b0l(m:Nat)(μ:Mu):List V->Option (List V)
 | []=>some []
 | x::r=>match a4v m μ x,b0l m μ r with
  | some a,some b=>some (a::b)
  | _,_=>.none
noncomputable def plain:V->Bool
 | .mut _=>false
 | .tup l=>a0v l
 | .lst l=>a0v l
 | _=>true
noncomputable def a0v:List V->Bool
 | []=>true
 | x::r=>plain x&&a0v r
end
noncomputable def okM(m:Nat):M->Bool
 | .list l=>a0v l
 | .obj is _=>is.all (·<m)
noncomputable def a2z(Γ:G)(n:Nat)(params:List Nat)(body:List S)(args:List V)(μ:Mu):Option (V×Mu):=
 if params.length==args.length then match exec Γ n body (params.zip args) μ with
  | some (.ret v,_,μ')=>if(μ'.take μ.length).all (okM μ.length)then(a4v μ.length μ' v).map (·,μ'.take μ.length)else .none
  | some (.next,_,μ')=>if(μ'.take μ.length).all (okM μ.length)then some (.none,μ'.take μ.length)else .none
  | _=>.none
 else .none
section
variable{Γ:G}{n:Nat}{ρ:Rho}{μ:Mu}{a b c i:X}{l:List X}
theorem c2x{v:V}:ev Γ (n+1) (.cst v) ρ μ=some (v,μ):=rfl
theorem c3p{k:Nat}:ev Γ (n+1) (.loc k) ρ μ=(ρ.lookup k).map (·,μ):=rfl
theorem c4a{k:Nat}:ev Γ (n+1) (.glb k) ρ μ=(Γ.glob k).map (·,μ):=rfl
theorem b9i{op:Operator}:ev Γ (n+1) (.bin op a b) ρ μ=(match ev Γ n a ρ μ with
  | some (u,μ)=>match ev Γ n b ρ μ with
   | some (v,μ)=>(a0x op (a1n μ u) (a1n μ v)).map (·,μ)
   | .none=>.none
  | .none=>.none):=rfl
theorem c2n:ev Γ (n+1) (.neg a) ρ μ=(match ev Γ n a ρ μ with
  | some (.int i,μ)=>some (.int (-i),μ)
  | _=>.none):=rfl
theorem b9c{op:CmpOp}:ev Γ (n+1) (.cmp op a b) ρ μ=(match ev Γ n a ρ μ with
  | some (u,μ)=>match ev Γ n b ρ μ with
   | some (v,μ)=>(a0z op (a1n μ u) (a1n μ v)).map fun b=>(.bool b,μ)
   | .none=>.none
  | .none=>.none):=rfl
theorem b8n:ev Γ (n+1) (.ite c a b) ρ μ=(match ev Γ n c ρ μ with
  | some (v,μ)=>match a3a (a1n μ v)with
   | some true=>ev Γ n a ρ μ
   | some false=>ev Γ n b ρ μ
   | .none=>.none
  | .none=>.none):=rfl
theorem b9f:ev Γ (n+1) (.tup l) ρ μ=(match evs (fun x μ=>ev Γ n x ρ μ) l μ with
  | some (vs,μ)=>if vs.length<=big then some (.tup vs,μ)else .none
  | .none=>.none):=rfl
theorem b8y:ev Γ (n+1) (.lst l) ρ μ=(match evs (fun x μ=>ev Γ n x ρ μ) l μ with
  | some (vs,μ)=>if vs.length<=big then some (.lst vs,μ)else .none
  | .none=>.none):=rfl
theorem b1k:ev Γ (n+1) (.mlst l) ρ μ=(match evs (fun x μ=>ev Γ n x ρ μ) l μ with
  | some (vs,μ)=>if vs.length<=big then some (.mut μ.length,μ++[.list vs])else .none
  | .none=>.none):=rfl
theorem b8h:ev Γ (n+1) (.sub a i) ρ μ=(match ev Γ n a ρ μ with
  | some (u,μ)=>match ev Γ n i ρ μ with
   | some (v,μ)=>(item (a1n μ u) v).map (·,μ)
   | .none=>.none
  | .none=>.none):=rfl
theorem b1g{lo hi st:Option X}:ev Γ (n+1) (.slc a lo hi st) ρ μ=(match ev Γ n a ρ μ with
  | some (u,μ)=>match evo (fun x μ=>ev Γ n x ρ μ) lo μ with
   | some (l,μ)=>match evo (fun x μ=>ev Γ n x ρ μ) hi μ with
    | some (h,μ)=>match evo (fun x μ=>ev Γ n x ρ μ) st μ with
     | some (s,μ)=>match b5k l,b5k h,b5k s with
      | some l,some h,some s=>(a1y (a1n μ u) l h s).map (·,μ)
      | _,_,_=>.none
     | .none=>.none
    | .none=>.none
   | .none=>.none
  | .none=>.none):=rfl
theorem b0y{f:Nat}:ev Γ (n+1) (.call f l) ρ μ=(match evs (fun x μ=>ev Γ n x ρ μ) l μ with
  | some (vs,μ)=>Γ.call n f vs μ
  | .none=>.none):=rfl
theorem b0n{m:Nat}:ev Γ (n+1) (.meth m a l) ρ μ=(match ev Γ n a ρ μ with
  | some (u,μ)=>if Γ.find m u μ then match evs (fun x μ=>ev Γ n x ρ μ) l μ with
    | some (vs,μ)=>Γ.meth n m u vs μ
    | .none=>.none
   else .none
  | .none=>.none):=rfl
theorem b1q{m:Nat}:ev Γ (n+1) (.attr m a) ρ μ=(match ev Γ n a ρ μ with
  | some (u,μ)=>(Γ.attr m u μ).map (·,μ)
  | .none=>.none):=rfl
theorem a8j{t:T}{own:List Nat}:ev Γ (n+1) (.comp a t i l own) ρ μ=(match a1w (fun x μ=>ev Γ n x ρ μ) i μ with
  | some (vs,μ)=>if vs.length<=big then
    match a8z (ev Γ n) a t l vs (ρ.filter fun p=>!own.contains p.1) μ with
    | some (ys,μ)=>some (.lst ys,μ)
    | .none=>.none
   else .none
  | .none=>d0v (ev Γ n) a t i l ρ (ρ.filter fun p=>!own.contains p.1) μ):=rfl
theorem a6m:ev Γ (n+1) (.lrange l) ρ μ=(match evs (fun x μ=>ev Γ n x ρ μ) l μ with
  | some (vs,μ)=>(a0l vs).bind fun l=>if l.length<=big then(if Γ.ownR then some (.mut μ.length,μ++[.list l])else some (.lst l,μ))else .none
  | .none=>.none):=rfl
theorem b0w{k:Nat}:ev Γ (n+1) (.subG k a) ρ μ=(match ev Γ n a ρ μ,Γ.dic k with
  | some (.str x,μ),some l=>(l.lookup x).map fun k=>(.int k,μ)
  | _,_=>.none):=rfl
theorem b8q{k:Nat}{neg:Bool}:ev Γ (n+1) (.inG neg k a) ρ μ=(match ev Γ n a ρ μ,Γ.dic k with
  | some (.str x,μ),some l=>some (.bool ((l.lookup x).isSome != neg),μ)
  | _,_=>.none):=rfl
theorem e3i{o1 o2:CmpOp}:ev Γ (n+1) (.cmp2 o1 o2 a b c) ρ μ=(match ev Γ n a ρ μ with
  | some (u,μ)=>match ev Γ n b ρ μ with
   | some (v,μ)=>match a0z o1 (a1n μ u) (a1n μ v)with
    | some true=>match ev Γ n c ρ μ with
     | some (w,μ)=>(a0z o2 (a1n μ v) (a1n μ w)).map fun b=>(.bool b,μ)
     | .none=>.none
    | some false=>some (.bool false,μ)
    | .none=>.none
   | .none=>.none
  | .none=>.none):=rfl
theorem e5a{f:S->Rho->Mu->Option (F×Rho×Mu)}{s:S}{r:List S}:a3q f (s::r) ρ μ=(match f s ρ μ with
  | some (.next,ρ,μ)=>a3q f r ρ μ
  | x=>x):=rfl
theorem e6z:a1n μ .none=.none:=rfl
theorem e6g{b:Bool}:a1n μ (.bool b)=.bool b:=rfl
theorem e4y{b:Int}:a1n μ (.int b)=.int b:=rfl
theorem e7v{b:UInt64}:a1n μ (.flt b)=.flt b:=rfl
theorem e4b{b:List Nat}:a1n μ (.str b)=.str b:=rfl
theorem e7n{b:List V}:a1n μ (.tup b)=.tup b:=rfl
theorem d9x{b:List V}:a1n μ (.lst b)=.lst b:=rfl
theorem e2v{k:Nat}:a1n μ (.mut k)=(match μ[k]? with
  | some (.list l)=>.lst l
  | _=>.mut k):=rfl
theorem e8t{b:List V}:a3a (.lst b)=if b.length<=big then some (!b.isEmpty)else .none:=rfl
theorem au_s{x y:List Nat}:c2r .Add (.str x) (.str y)=if decide (x.length+y.length<=big)then some (.str (x++y))else .none:=rfl
theorem e3y{m k:Nat}:a4v m μ (.mut k)=if k<m then some (.mut k)else match μ[k]? with
  | some (.list l)=>if a0v l then some (.lst l)else .none
  | _=>.none:=rfl
section
variable{f:X->Mu->Option (V×Mu)}{x y:X}
theorem e4a:ors f (x::y::l) μ=(match f x μ with
  | some (v,μ)=>match a3a (a1n μ v)with
   | some true=>some (v,μ)
   | some false=>ors f (y::l) μ
   | .none=>.none
  | .none=>.none):=rfl
theorem d5o:a1w f (.range l) μ=(match evs f l μ with
  | some (vs,μ)=>(a0l vs).map (·,μ)
  | .none=>.none):=rfl
theorem e6d:a1w f (.enum x) μ=(match f x μ with
  | some (.lst l,μ)=>some (l.zipIdx.map fun p=>.tup [.int p.2,p.1],μ)
  | _=>.none):=rfl
theorem e4d{k:Nat}:a1w f (.loc k) μ=(match f (.loc k) μ with
  | some (v,μ)=>(a5a v).map (·,μ)
  | .none=>.none):=rfl
theorem e9z{k:Nat}:a1w f (.call k l) μ=(match f (.call k l) μ with
  | some (v,μ)=>(a5a v).map (·,μ)
  | .none=>.none):=rfl
theorem e6b{lo hi st:Option X}:a1w f (.slc a lo hi st) μ=(match f (.slc a lo hi st) μ with
  | some (v,μ)=>(a5a v).map (·,μ)
  | .none=>.none):=rfl
theorem f0q:a1w f (.tup l) μ=(match f (.tup l) μ with
  | some (v,μ)=>(a5a v).map (·,μ)
  | .none=>.none):=rfl
end
end
end
section
noncomputable def nid:List Str->Str->Option Nat
 | [],_=>.none
 | y::r,x=>if y=x then some 0 else(nid r x).map (·+1)
theorem a0o:∀ {tbl:List Str} {x:Str} {i:Nat},nid tbl x=some i->tbl[i]?=some x:=by
 intro z_;induction z_ with
 | nil=>
  intro x i h;exact ns h
 | cons y r ih=>
  intro x i h;exact ifE h (fun e h'=>by rw [← Option.some.inj h',e];rfl) fun zz h'=>a1e h' fun j q e=>e▸(ih q:r[j]?=some x)
noncomputable def e3l:Const->Option V
 | .none=>some .none
 | .bool b=>some (.bool b)
 | .int i=>some (.int i)
 | .float b=>some (.flt b)
 | .str s=>some (.str s.cps.toList)
 | _=>.none
noncomputable def a1k{α β:Type}(f:α->Option β):List α->Option (List β)
 | []=>some []
 | x::r=>match f x,a1k f r with
  | some a,some b=>some (a::b)
  | _,_=>.none
theorem a5u{α β:Type}{f:α->Option β}{x:α}{r:List α}{a:β}{b:List β}(h1:f x=some a)(h2:a1k f r=some b):a1k f (x::r)=some (a::b):=by
 show(match (generalizing:=false) f x,a1k f r with | some a,some b=>some (a::b) | _,_=>.none)=_
 rw [h1,h2]
theorem a0g{α β:Type}{f:α->Option β}{x:α}{r:List α}{xs:List β}{G:Prop}(h:a1k f (x::r)=some xs)(k:∀ a b,f x=some a->a1k f r=some b->a::b=xs->G):G:=by
 have h:(match (generalizing:=false) f x,a1k f r with | some a,some b=>some (a::b) | _,_=>.none)=some xs:=h
 induction h1:f x using Option.casesOn with
 | none=>rw [h1]at h;exact ns h
 | some a=>induction h2:a1k f r using Option.casesOn with
  | none=>rw [h1,h2]at h;exact ns h
  | some b=>rw [h1,h2]at h;exact k a b h1 h2 (Option.some.inj h)
noncomputable def d6v{α β:Type}(f:α->Option β):Option α->Option (Option β)
 | .none=>some .none
 | some x=>(f x).map some
noncomputable def a2e(sc:Scope)(x:Str):Option NameKind:=sc.names.lookup x
noncomputable def a5o(sc:Scope)(x:Str):Bool:=match a2e sc x with
 | some .local=>true
 | some .cell=>true
 | some .free=>true
 | _=>false
noncomputable def a4q(sc:Scope)(x:Str):Bool:=match a2e sc x with
 | some .globalImplicit=>true
 | _=>false
noncomputable def a8k(sc:Scope)(x:Str):Bool:=match a2e sc x with
 | some .cell=>true
 | some .free=>true
 | _=>false
noncomputable def a1v:Expr->Bool
 | .Starred ..=>false
 | _=>true
noncomputable def a1g(sc:Scope)(x:Str):Bool:=match a2e sc x with
 | some .local=>true
 | some .cell=>true
 | _=>false
noncomputable def a9r(tbl:List Str)(sc:Scope):Expr->Option Nat
 | .Name x _=>if a1g sc x then nid tbl x else .none
 | _=>.none
noncomputable def a1u(tbl:List Str)(sc:Scope):Expr->Option T
 | .Name x _=>if a1g sc x then(nid tbl x).map .one else .none
 | .Tuple elts _ _=>(a1k (a9r tbl sc) elts).map .many
 | _=>.none
noncomputable def b3p(sc cs:Scope)(tbl:List Str):Bool:=
 cs.kind==.function&&cs.names.all (fun p=>(p.2==.local&&cs.names.lookup p.1==some .local)||(p.2==.free&&a8k sc p.1&&cs.names.lookup p.1==some .free&&(nid tbl p.1).isSome)||p.2==.globalImplicit||(p.2==.cell&&cs.names.lookup p.1==some .cell&&(nid tbl p.1).isSome))
noncomputable def c5e(cs:Scope)(tbl:List Str):Option (List Nat):=
 a1k (fun p=>nid tbl p.1) (cs.names.filter fun p=>p.2==.local||p.2==.cell)
noncomputable def e1g(sc:Scope):Expr->Option Str
 | .Name g _=>if a4q sc g&&!(g==("__debug__":Str))then some g else .none
 | _=>.none
noncomputable def gIn(sc:Scope):CmpOp->Expr->Option Str
 | .In,e=>e1g sc e
 | _,_=>.none
noncomputable def d9r:Expr->Bool
 | .Tuple ..=>true
 | _=>false
noncomputable def d4s:Option X->Option X
 | some (.range _)=>.none
 | some (.enum _)=>.none
 | x=>x
noncomputable def b0m(t it:Expr):Bool:=match it with
 | .Call (.Name f _) _ _ _=>d9r t||!(f==("enumerate":Str))
 | _=>true
noncomputable def a8e:Expr->Option (Str×List Expr)
 | .Call (.Name f _) args [] _=>some (f,args)
 | _=>.none
theorem a3p{e:Expr}{q:Str×List Expr}(h:a8e e=some q):∃ p pos,e=.Call (.Name q.1 p) q.2 [] pos:=by
 induction e using PySem.Expr.casesOn with
 | Call f args kws pos=>induction f using PySem.Expr.casesOn with
  | Name f p=>induction kws using List.casesOn with
   | nil=>obtain rfl:=Option.some.inj h;exact⟨p,pos,rfl⟩
   | cons _ _=>exact ns h
  | _=>exact ns h
 | _=>exact ns h
noncomputable def e5l(sc:Scope)(e:Expr):Option (List Expr):=(a8e e).bind fun q=>match q.2 with
 | [a]=>if q.1==("list":Str)&&a4q sc q.1 then(a8e a).bind fun r=>if r.1==("range":Str)&&a4q sc r.1&&r.2.all a1v then some r.2 else .none else .none
 | _=>.none
theorem e0y {sc:Scope} {e:Expr} {ar:List Expr} {P:Prop} (h:e5l sc e=some ar) (k:∀ p1 p2 p3 p4,e=.Call (.Name "list" p1) [.Call (.Name "range" p2) ar [] p3] [] p4->a4q sc "list" = true->a4q sc "range" = true->ar.all a1v=true->P):P:=by
 refine a0h h fun q hq h'=>?_;clear h;obtain⟨f,args⟩:=q;obtain⟨p1,p4,rfl⟩:=a3p hq;induction args using List.casesOn with
 | nil=>exact ns h'
 | cons a args=>induction args using List.casesOn with
  | cons _ _=>exact ns h'
  | nil=>
   refine ifS h' fun hc h=>a0h h fun r hr h=>ifS h fun hd h9=>?_;obtain⟨g,args⟩:=r;obtain⟨p2,p3,rfl⟩:=a3p hr;obtain rfl:=Option.some.inj h9;have h1:=eq_of_beq (a0e hc);have h2:=eq_of_beq (a0e (a0e hd));dsimp only at h1 h2 hc hd ⊢;subst h1 h2;exact k p1 p2 p3 p4 rfl (a0n hc) (a0n (a0e hd)) (a0n hd)
noncomputable def trE(tbl:List Str):Nat->Scope->Expr->Option X
 | 0,_,_=>.none
 | k+1,sc,e=>match e with
  | .Constant c _ _=>(e3l c).map .cst
  | .Name x _=>if x==("__debug__":Str)||x==("__classdict__":Str)then .none else
    if a5o sc x then(nid tbl x).map .loc else if a4q sc x then(nid tbl x).map .glb else .none
  | .BinOp l op r _=>(trE tbl k sc l).bind fun a=>(trE tbl k sc r).map fun b=>.bin op a b
  | .UnaryOp .USub x _=>(trE tbl k sc x).map .neg
  | .UnaryOp .Not x _=>(trE tbl k sc x).map .not
  | .Compare l [op] [r] _=>(gIn sc op r).elim ((trE tbl k sc l).bind fun a=>(trE tbl k sc r).map fun b=>.cmp op a b) fun g=>(trE tbl k sc l).bind fun a=>(nid tbl g).map fun i=>.inG false i a
  | .Compare l [o1,o2] [r,r2] _=>(trE tbl k sc l).bind fun a=>(trE tbl k sc r).bind fun b=>(trE tbl k sc r2).map fun c=>.cmp2 o1 o2 a b c
  | .BoolOp .And l _=>(a1k (trE tbl k sc) l).map .and
  | .BoolOp .Or l _=>(a1k (trE tbl k sc) l).map .or
  | .IfExp c a b _=>(trE tbl k sc c).bind fun c=>(trE tbl k sc a).bind fun a=>(trE tbl k sc b).map fun b=>.ite c a b
  | .Tuple l _ _=>if l.all a1v then(a1k (trE tbl k sc) l).map .tup else .none
  | .List l _=>if l.all a1v then(a1k (trE tbl k sc) l).map .lst else .none
  | .Subscript a (.Slice lo hi st _) _=>(trE tbl k sc a).bind fun a=>(d6v (trE tbl k sc) lo).bind fun lo=>(d6v (trE tbl k sc) hi).bind fun hi=>(d6v (trE tbl k sc) st).map fun st=>.slc a lo hi st
  | .Subscript a i _=>(e1g sc a).elim ((trE tbl k sc a).bind fun a=>(trE tbl k sc i).map fun i=>.sub a i) fun g=>(nid tbl g).bind fun j=>(trE tbl k sc i).map fun i=>.subG j i
  | .Call (.Name f _) args [] _=>(e5l sc e).elim (if a4q sc f&&args.all a1v&&decide (args.length<=30)&&!(f==("__debug__":Str))&&!(f==("super":Str))then(nid tbl f).bind fun i=>(a1k (trE tbl k sc) args).map fun l=>.call i l
   else .none) fun ar=>(a1k (trE tbl k sc) ar).map .lrange
  | .Call (.Attribute o m ap) args [] cp=>if args.all a1v&&decide (args.length<20)&&ap.endLine==cp.line then(nid tbl m).bind fun i=>(trE tbl k sc o).bind fun o=>(a1k (trE tbl k sc) args).map fun l=>.meth i o l
   else .none
  | .Attribute o m _=>(nid tbl m).bind fun i=>(trE tbl k sc o).map fun o=>.attr i o
  | .ListComp elt [⟨t,it,ifs,0⟩] cs _=>if b3p sc cs tbl&&b0m t it then(trE tbl k cs elt).bind fun e=>(a1u tbl cs t).bind fun t=>(trI tbl k sc it).bind fun it=>(a1k (trE tbl k cs) ifs).bind fun ifs=>(c5e cs tbl).map fun own=>.comp e t it ifs own
   else .none
  | _=>.none
where
 trI (tbl:List Str):Nat->Scope->Expr->Option X
 | 0,_,_=>.none
 | k+1,sc,e=>match e with
  | .Call (.Name f _) args [] _=>if a4q sc f&&args.all a1v&&decide (args.length<=30)then
    if f==("range":Str)then(a1k (trE tbl k sc) args).map .range
    else if f==("enumerate":Str)then(match args with | [a]=>(trE tbl k sc a).map .enum | _=>.none)
    else if f==("zip":Str)then(match args with | [a,b]=>(trE tbl k sc a).bind fun a=>(trE tbl k sc b).map fun b=>.zip a b | _=>.none)
    else d4s (trE tbl k sc e)
   else .none
  | _=>d4s (trE tbl k sc e)
end
end Mine
end
section
open PySem PySem.W PySem.Calls PyProof.Rows
namespace Mine
section
structure LxP where
 At:Heap->List Addr->List Addr->Int->Prop
 keep:∀ {h h':Heap} {ads rs:List Addr} {n},At h ads rs n->(∀ a∈ads,∀ o,h.get? a=some o->h'.get? a=some o)->At h' ads rs n
noncomputable def b7v(as:List (List Addr))(is:List Nat):Option (List Addr):=a1k (fun i=>as[i+1]?.bind List.head?) is
theorem b1d{as as':List (List Addr)}(g:∀(k:Nat) (l:List Addr),as[k+1]?=some l->as'[k+1]?=some l):∀ {is:List Nat} {rs:List Addr},b7v as is=some rs->b7v as' is=some rs:=by
 intro z_;induction z_ with
 | nil=>
  intro _ e;exact e
 | cons i is ih=>
  intro rs e;exact a0g e fun a b h1 h2 e=>a0h h1 fun l q hl=>e▸a5u (by rw [g i l q];exact hl) (ih h2)
theorem c7q{as nw:List (List Addr)}{m:Nat}(hm:as.length=m+1):∀ {is:List Nat} {rs:List Addr},is.all (·<m)=true->b7v (as++nw) is=some rs->b7v as is=some rs:=by
 intro z_;induction z_ with
 | nil=>
  intro _ _ e;exact e
 | cons i is ih=>
  intro rs ha e;exact a0g e fun a b h1 h2 e=>e▸a5u (by
   rw [List.getElem?_append_left (by rw [hm];exact Nat.succ_lt_succ (of_decide_eq_true (a0e ha)))]at h1;exact h1) (ih (a0n ha) h2)
noncomputable def e0q(Lx:LxP)(h:Heap)(as:List (List Addr)):M->List Addr->Prop
 | .list l,ads=>∃ a vs,ads=[a]/\h.PlainList a vs.toArray/\Reps h as l vs
 | .obj is n,ads=>∃ rs,b7v as is=some rs/\Lx.At h ads rs n
noncomputable def Ks(as:List (List Addr))(h h':Heap):Prop:=∀ a o,a∉as.flatten->h.get? a=some o->(∃ xs n,o.data=.seq xs n)->h'.get? a=some o
theorem Rep.ks{as:List (List Addr)}{h h':Heap}(k:Ks as h h'):∀ {x:V} {v:Value},Rep h as x v->Rep h' as x v:=fun r=>
 Rep.tr (fun a o ha e q=>⟨ha,k a o ha e q⟩) (fun zz zz e=>e) r
theorem Reps.ks{as:List (List Addr)}{h h':Heap}(k:Ks as h h'):∀ {l:List V} {vs:List Value},Reps h as l vs->Reps h' as l vs:=fun r=>
 Reps.tr (fun a o ha e q=>⟨ha,k a o ha e q⟩) (fun zz zz e=>e) r
structure Foreign(as:List (List Addr))(h:Heap)(I:Addr):Prop where
 off:I∉as.flatten
 kind:∀ o,h.get? I=some o->∀ xs n,o.data≠.seq xs n
theorem Foreign.ks{as:List (List Addr)}{h h':Heap}{I:Addr}(f:Foreign as h I)(y:∀ a o,a≠I->h.get? a=some o->h'.get? a=some o):Ks as h h':=
 fun a o _ e ⟨xs,n,hd⟩=>y a o (fun q=>f.kind o (q▸e) xs n hd) e
structure GR(Lx:LxP)(base:Heap)(μ:Mu)(as:List (List Addr))(h:Heap):Prop where
 keep:∀ a o,base.get? a=some o->h.get? a=some o
 fresh:∀ a∈as.flatten,base.get? a=.none
 nd:as.flatten.Nodup
 alive:∀ a∈as.flatten,∃ o,h.get? a=some o
 len:as.length=μ.length+1
 mus:∀(k:Nat) (m:M) (ads:List Addr),μ[k]?=some m->as[k+1]?=some ads->e0q Lx h as m ads
theorem PlainList.some{h:Heap}{a:Addr}{xs:Array Value}(p:h.PlainList a xs):∃ o,h.get? a=some o:=let⟨_,e⟩:=p;⟨_,e⟩
section
variable{Lx:LxP}{base:Heap}{μ:Mu}{as:List (List Addr)}{h h':Heap}
theorem GR.go(g:GR Lx base μ as h):Go as h as h:=Go.refl g.alive
theorem GR.mod{I:Addr}(g:GR Lx base μ as h)(hI:Foreign as h I)(hb:base.get? I=.none)(y:∀ a o,a≠I->h.get? a=some o->h'.get? a=some o):GR Lx base μ as h':=by
 have hne:∀ a∈as.flatten,a≠I:=fun a ha q=>hI.off (q▸ha);refine⟨fun a o e=>y a o (fun q=>by rw [q,hb]at e;exact ns e) (g.keep a o e),g.fresh,g.nd,fun a ha=>let⟨o,e⟩:=g.alive a ha;⟨o,y a o (hne a ha) e⟩,g.len,fun k m ads hk ha=>?_⟩;have hm:=g.mus k m ads hk ha;have hin:∀ a∈ads,a∈as.flatten:=fun a hq=>List.mem_flatten.mpr ⟨ads,List.mem_of_getElem? ha,hq⟩;induction m using Mine.M.casesOn with
 | list l=>
  obtain⟨a,vs,rfl,hp,hr⟩:=hm;exact⟨a,vs,rfl,let⟨n,e⟩:=hp;⟨n,y a _ (hne a (hin a (by simp))) e⟩,Reps.ks (hI.ks y) hr⟩
 | obj is n=>exact let⟨rs,e1,e2⟩:=hm;⟨rs,e1,Lx.keep e2 fun a ha o e=>y a o (hne a (hin a ha)) e⟩
theorem GR.push(g:GR Lx base μ as h)(o:Obj):GR Lx base μ as (h.push o):=by
 have hn:h.get? h.objs.size=.none:=by
  induction q:h.get? h.objs.size using Option.casesOn with
  | none=>rfl
  | some o=>exact absurd (Heap.lt_size q) (Nat.lt_irrefl _)
 refine g.mod (I:=h.objs.size) ⟨fun q=>?_,fun o e=>by rw [hn]at e;exact ns e⟩ ?_ fun a o' zz e=>Heap.get?_push_of_some o e
 ·obtain⟨o',e⟩:=g.alive _ q
  rw [hn]at e;exact ns e
 ·induction q:base.get? h.objs.size using Option.casesOn with
  | none=>rfl
  | some o'=>rw [g.keep _ _ q]at hn;cases hn
theorem a0y(h:Heap):h.get? h.objs.size=.none:=by
 induction q:h.get? h.objs.size using Option.casesOn with
 | none=>rfl
 | some o=>exact absurd (Heap.lt_size q) (Nat.lt_irrefl _)
theorem GR.top_off(g:GR Lx base μ as h):h.objs.size∉as.flatten:=fun q=>by
 obtain⟨o',e⟩:=g.alive _ q;rw [a0y]at e;exact ns e
theorem GR.top_base(g:GR Lx base μ as h):base.get? h.objs.size=.none:=by
 induction q:base.get? h.objs.size using Option.casesOn with
 | none=>rfl
 | some o'=>have:=g.keep _ _ q;rw [a0y]at this;exact ns this
noncomputable def a1i(prog:Program)(w:World)(base:Heap)(x:Str)(v:Value):Prop:=
 ∀(env:Env) (A:Around) (E:Value->Shared->Prop) (s:Shared) (Q:Value->Shared->Prop),env.globals=mainGlobals->env.builtins=builtinsNs →
  (∀ a o,base.get? a=some o->s.heap.get? a=some o)->Q v s->wpAny (model prog w) A (loadGlobal env x) Q E s
inductive e7x(tbl:List Str)(env:Env)(ρ:Rho)(as:List (List Addr))(h:Heap):Prop where
 | mk (m:Str->Option Value) (hn:h.Ns env.locals m) (hl:∀ i x v,tbl[i]?=some x->env.kindOf x=some .local->ρ.lookup i=some v->∃ u,m x=some u/\Rep h as v u)
inductive e4z(base:Heap)(env:Env)(ρ:Rho)(as:List (List Addr))(h:Heap)(i:Nat)(x:Str):Prop where
 | mk (c:Addr) (u:Option Value) (h1:env.cells.lookup x=some c) (h2:c∉as.flatten) (h3:base.get? c=.none) (h4:h.IsCell c u) (h5:∀ v,ρ.lookup i=some v->∃ u',u=some u'/\Rep h as v u')
structure ER(tbl:List Str)(base:Heap)(env:Env)(ρ:Rho)(as:List (List Addr))(h:Heap):Prop where
 kind:env.scope.kind=.function
 glob:env.globals=mainGlobals
 bns:env.builtins=builtinsNs
 loc:e7x tbl env ρ as h
 off:env.locals∉as.flatten/\base.get? env.locals=.none
 cel:∀ i x,tbl[i]?=some x->(env.kindOf x=some .cell∨env.kindOf x=some .free)->e4z base env ρ as h i x
 inj:∀ x y c,env.cells.lookup x=some c->env.cells.lookup y=some c->x=y
theorem Ns.go{m:Str->Option Value}{L:Addr}{as':List (List Addr)}(g:Go as h as' h')(hL:L∉as.flatten)(n:h.Ns L m):h'.Ns L m:=
 let⟨o,es,ep,e,r⟩:=n;⟨o,es,ep,g.at hL e,r⟩
theorem Ns.get{m:Str->Option Value}{L:Addr}(n:h.Ns L m):∃ o,h.get? L=some o/\∀ xs k,o.data≠.seq xs k:=
 let⟨o,_,_,e,hd,_⟩:=n;⟨o,e,fun zz zz q=>by rw [hd]at q;cases q⟩
theorem ER.go{tbl:List Str}{env:Env}{ρ:Rho}{as':List (List Addr)}(e:ER tbl base env ρ as h)(g:Go as h as' h'):ER tbl base env ρ as' h':=by
 obtain⟨m,hn,hl⟩:=e.loc;obtain⟨o,ho,_⟩:=Ns.get hn;refine⟨e.kind,e.glob,e.bns,⟨m,Ns.go g e.off.1 hn,fun i x v h1 h2 h3=>?_⟩,⟨g.off ho e.off.1,e.off.2⟩,fun i x h1 h2=>?_,e.inj⟩
 ·obtain⟨u,h4,h5⟩:=hl i x v h1 h2 h3
  exact⟨u,h4,h5.go g⟩
 ·obtain⟨c,u,h3,h4,h5,⟨oc,hoc,hdc⟩,h7⟩:=e.cel i x h1 h2
  refine⟨c,u,h3,g.off hoc h4,h5,⟨oc,g.at h4 hoc,hdc⟩,fun v hv=>?_⟩;obtain⟨u',h8,h9⟩:=h7 v hv;exact⟨u',h8,h9.go g⟩
structure Room(A:Around)(n:Nat):Prop where
 calm:A.handled=.none
 depth:A.depth+n<=900
 units:A.units+10 * n<=9000
variable{prog:Program}{w:World}
noncomputable def Post(Lx:LxP)(base:Heap)(as:List (List Addr))(s:Shared)(r:V)(μ':Mu)(Q:Value->Shared->Prop):Prop:=
 ∀(v:Value) (as':List (List Addr)) (h':Heap) (tk:Nat),GR Lx base μ' as' h'->Go as s.heap as' h'->Rep h' as' r v->Q v { s with heap:=h',toks:=tk}
noncomputable def CallOK(prog:Program)(w:World)(Lx:LxP)(base:Heap)(n:Nat)(f:Value)(args:List V)(μ:Mu)(r:V)(μ':Mu):Prop:=
 ∀(A:Around) (E:Value->Shared->Prop) (s:Shared) (as:List (List Addr)) (vs:List Value) (Q:Value->Shared->Prop),Room A n->GR Lx base μ as s.heap->Reps s.heap as args vs →
  Post Lx base as s r μ' Q->wpAny (model prog w) A (call f vs) Q E s
inductive a8d(base:Heap):Value->Prop where
 | builtin (id:String):a8d base (.builtin id)
 | type (n:String):a8d base (.type n)
 | func (a:Addr) (o:Obj) (fd:FuncData):base.get? a=some o->o.data=.func fd->a8d base (.ref a)
noncomputable def a6c(prog:Program)(w:World)(Lx:LxP)(base:Heap)(x:Str)(u:V)(μ:Mu)(f:Value):Prop:=
 ∀(A:Around) (E:Value->Shared->Prop) (s:Shared) (as:List (List Addr)) (ov:Value) (p:Sem Bool) (Q:Value×List Value->Shared->Prop),GR Lx base μ as s.heap->Rep s.heap as u ov->Q (f,[ov]) s->wpAny (model prog w) A (getMethod ov x p) Q E s
structure Snd(prog:Program)(w:World)(Lx:LxP)(base:Heap)(Γ:G):Prop where
 glob:∀ i v,Γ.glob i=some v->∃ x u,Γ.tbl[i]?=some x/\a1i prog w base x u/\∀ h as,Rep h as v u
 range:a1i prog w base "range" (.type "range")
 enum:a1i prog w base "enumerate" (.type "enumerate")
 list:a1i prog w base "list" (.type "list")
 dic:∀ i l,Γ.dic i=some l->∃ x a,Γ.tbl[i]?=some x/\a1i prog w base x (.ref a)/\StrTab prog w base a (l.map fun p=>(.str ⟨p.1.toArray⟩,.int p.2))
 call:∀ n i args μ r μ',Γ.call n i args μ=some (r,μ')->∃ x f,Γ.tbl[i]?=some x/\a1i prog w base x f/\a8d base f/\CallOK prog w Lx base n f args μ r μ'
 meth:∀ n m u args μO μ r μ',Γ.find m u μO=true->Γ.meth n m u args μ=some (r,μ')->∃ x f,Γ.tbl[m]?=some x/\a8d base f/\a6c prog w Lx base x u μO f/\CallOK prog w Lx base n f (u::args) μ r μ'
 attr:∀ m u μ r,Γ.attr m u μ=some r->∃ x,Γ.tbl[m]?=some x/\∀(A:Around) (E:Value->Shared->Prop) (s:Shared) (as:List (List Addr)) (ov:Value) (Q:Value->Shared->Prop),GR Lx base μ as s.heap->Rep s.heap as u ov →
  Post Lx base as s r μ Q->wpAny (model prog w) A (getAttr ov x true) Q E s
end
end
section
section
variable{Lx:LxP}{base:Heap}{μ:Mu}{as:List (List Addr)}{prog:Program}{w:World}{A:Around}{E:Value->Shared->Prop}{s:Shared}{Q:Value->Shared->Prop}
theorem Post.now{r:V}{v:Value}{tk:Nat}(hQ:Post Lx base as s r μ Q)(g:GR Lx base μ as s.heap)(rv:Rep s.heap as r v):Q v { s with toks:=tk}:=hQ v as s.heap tk g g.go rv
theorem Post.new{r:V}{v:Value}{tk:Nat}{o:Obj}(hQ:Post Lx base as s r μ Q)(g:GR Lx base μ as s.heap)(rv:Rep (s.heap.push o) as r v):Q v { s with heap:=s.heap.push o,toks:=tk}:=hQ v as _ tk (g.push o) (g.go.push o) rv
theorem Post.eq{a r:V}(hQ:Post Lx base as s r μ Q)(h:some a=some r):Post Lx base as s a μ Q:=Option.some.inj h▸hQ
theorem a4y {l:List V} {vs:List Value} (g:GR Lx base μ as s.heap) (r:Reps s.heap as l vs):Rep (s.heap.push { cls:=.type "list",data:=.seq vs.toArray}) as (.lst l) (.ref s.heap.objs.size):=
 ⟨_,vs,rfl,g.top_off,⟨_,Heap.get?_push_size _ rfl⟩,r.go (g.go.push _)⟩
theorem a6b {l:List V} {vs:List Value} (g:GR Lx base μ as s.heap) (r:Reps s.heap as l vs):Rep (s.heap.push { cls:=.type "tuple",data:=.seq vs.toArray}) as (.tup l) (.ref s.heap.objs.size):=
 ⟨_,vs,rfl,g.top_off,⟨_,Heap.get?_push_size _ rfl,rfl,_,rfl⟩,r.go (g.go.push _)⟩
noncomputable def Rep0(h:Heap)(as:List (List Addr)):V->Value->Prop
 | .lst l,v=>∃ a vs,v=.ref a/\h.PlainList a vs.toArray/\Reps h as l vs
 | u,v=>Rep h as u v
theorem a1a{h:Heap}{u:V}{v:Value}(g:GR Lx base μ as h)(r:Rep h as u v):Rep0 h as (a1n μ u) v:=by
 induction u using Mine.V.casesOn with
 | «mut» k=>
  rw [e2v];induction hk:μ[k]? using Option.casesOn with
  | none=>exact r
  | some m=>induction m using Mine.M.casesOn with
   | list l=>
    obtain⟨a,q,e,rfl⟩:=r;obtain⟨b,vs,eb,hp,hr⟩:=g.mus k _ _ hk e;cases eb;exact⟨_,vs,rfl,hp,hr⟩
   | obj=>exact r
 | lst l=>obtain⟨a,vs,e,_,hp,hr⟩:=r;exact⟨a,vs,e,hp,hr⟩
 | _=>exact r
theorem a8r{n:Int}(h:small n=true):n.natAbs<2^1023:=by
 have h1:n.natAbs<2^60:=of_decide_eq_true h;exact Nat.lt_of_lt_of_le h1 (Nat.pow_le_pow_right (by decide) (by decide))
set_option tactic.hygienic true in
theorem c4b{n:Int}(h:small n=true):Builtin.Int.intBits n<=64:=by
 have h1:n.natAbs<2^60:=of_decide_eq_true h;unfold Builtin.Int.intBits;split
 ·decide
 ·rename_i hn
  have:n.natAbs≠0:=by simpa using hn
  have:=(Nat.log2_lt this).mpr h1;omega
set_option tactic.hygienic true in
theorem a9i{a b:Int}(h:small b=true):Builtin.divisionGoesByPylong a b=false:=by
 have h1:b.natAbs<2^60:=of_decide_eq_true h;have:(if b==0 then 0 else b.natAbs.log2 / 30+1)<=300:=by
  split
  ·omega
  ·rename_i hn
   have hz:b.natAbs≠0:=by simpa using hn
   have:=(Nat.log2_lt hz).mpr h1;omega
 unfold Builtin.divisionGoesByPylong;simp only [Bool.and_eq_false_iff,decide_eq_false_iff_not];left;omega
theorem a2a{n:Nat}(h:n<=big):n<=sizeLine:=by unfold big at h;rw [sizeLine_eq];omega
theorem d6s(x y:List Nat):(⟨x.toArray⟩:Str)++(⟨y.toArray⟩:Str)=⟨(x++y).toArray⟩:=by
 apply Str.ext';show(⟨x.toArray⟩++⟨y.toArray⟩:Str).cps=_;rw [Str.cps_append];simp
theorem b2g{l l':List V}{a b:Value}(ra:Rep0 s.heap as (.lst l) a)(rb:Rep0 s.heap as (.lst l') b)(hsz:l.length+l'.length<=big)(g:GR Lx base μ as s.heap)
  (hQ:Post Lx base as s (.lst (l++l')) μ Q):wpAny (model prog w) A (binaryOp .Add a b) Q E s:=by
 obtain⟨a,vs,rfl,hl,rl⟩:=ra;obtain⟨b,ws,rfl,hb,rb⟩:=rb;obtain⟨n,ho⟩:=id hl;obtain⟨n2,ho2⟩:=id hb;have e:vs.toArray++ws.toArray=(vs++ws).toArray:=by simp
 have hs:vs.toArray.size+ws.toArray.size<=sizeLine:=by
  simp only [List.size_toArray,rl.length,rb.length];exact a2a hsz
 refine concat_meets ⟨_,ho,rfl⟩ ⟨_,ho2,rfl⟩ noFill_list_add seq_list_add PySem.F.slot_list_add PySem.F.entry_list_add (PySem.F.args_list_add_2 _ _) (list_addW a b vs.toArray ws.toArray n n2 _ _ _ _ hs) ⟨ho,ho2,?_⟩;rw [e];exact hQ.new g (a4y g (rl.append rb))
theorem c4y(n:Nat)(vs:List Value):List.foldl (fun x1 x2=>x1++x2) #[] (List.replicate n vs.toArray)=(List.replicate n vs).flatten.toArray:=by
 have:∀(n:Nat) (a:Array Value),List.foldl (fun x1 x2=>x1++x2) a (List.replicate n vs.toArray)=a++(List.replicate n vs).flatten.toArray:=by
  intro n;induction n with
  | zero=>intro a;simp
  | succ k ih=>intro a;simp only [List.replicate_succ,List.foldl_cons,ih,List.flatten_cons];simp
 simpa using this n #[]
theorem c3z(n:Nat)(vs:List Nat):List.foldl (·++·) #[] (List.replicate n vs.toArray)=(List.replicate n vs).flatten.toArray:=by
 have:∀(n:Nat) (a:Array Nat),List.foldl (·++·) a (List.replicate n vs.toArray)=a++(List.replicate n vs).flatten.toArray:=by
  intro n;induction n with
  | zero=>intro a;simp
  | succ k ih=>intro a;simp only [List.replicate_succ,List.foldl_cons,ih,List.flatten_cons];simp
 simpa using this n #[]
theorem Reps.rep{h:Heap}{l:List V}{vs:List Value}(r:Reps h as l vs):∀ n:Nat,Reps h as (List.replicate n l).flatten (List.replicate n vs).flatten:=by
 intro z_;induction z_ with
 | zero=>
  simp [Reps]
 | succ n ih=>
  simpa [List.replicate_succ]using r.append (ih)
theorem c1d{n:Int}(h:small n=true):-(2^63:Int)<=n/\n<2^63:=by
 have h1:n.natAbs<2^60:=of_decide_eq_true h;constructor<;>omega
theorem b2j{l:List V}{x:Int}{a b:Value}(ra:Rep0 s.heap as (.lst l) a)(rb:Rep s.heap as (.int x) b)(hsz:l.length * x.toNat<=big)(hx:small x=true)(g:GR Lx base μ as s.heap)
  (hQ:Post Lx base as s (.lst (List.replicate x.toNat l).flatten) μ Q):wpAny (model prog w) A (binaryOp .Mult a b) Q E s:=by
 simp only [Rep]at rb;obtain⟨a,vs,rfl,⟨k,hl⟩,rl⟩:=ra;obtain⟨u,rfl⟩:=rb;have hlo:=c1d hx;have hs:vs.toArray.size * x.toNat<=2^24:=by
  simp only [List.size_toArray,rl.length];have:=a2a hsz;unfold sizeLine at this;exact this
 refine wpAny_binaryOp_repeat_ref (T:="list") (U:="int") (by decide) ⟨_,hl,rfl⟩ (fun s'=>typeIs_int s' x u) noFill_list_mul F.fills_int_mul F.slot_int_rmul repeat_list F.slot_int_index.lookup
  (call_meets F.slot_int_rmul (typeIs_int s x u) F.entry_int_rmul (F.args_int_rmul_2 _ _) (int___rmul___int_list x u a vs.toArray k)
   ⟨hl,rfl,⟨_,hl,rfl⟩,call_meets F.slot_list_mul ⟨_,hl,rfl⟩ F.entry_list_mul (F.args_list_mul_2 _ _)
    (AutoListH.list___mul___list_int_3 a vs.toArray k x u (by simp [Builtin.List.listFitsIndex];omega) (by omega) (by unfold Builtin.List.listTooLong;rw [decide_eq_true_eq,sizeLine_eq];omega))
    ⟨hl,?_⟩⟩)
 have e:List.foldl (fun x1 x2=>x1++x2) #[] (List.replicate (if vs.toArray.isEmpty=true then 0 else x.toNat) vs.toArray)=(List.replicate x.toNat vs).flatten.toArray:=by
  rw [c4y];induction vs using List.casesOn with
  | nil=>simp
  | cons v r=>simp
 have:=hQ.new (tk:=s.toks) g (a4y g (rl.rep x.toNat));rw [← e]at this;exact this
set_option tactic.hygienic true in
theorem b4r{l:List Nat}{x:Int}{a b:Value}(ra:Rep s.heap as (.str l) a)(rb:Rep s.heap as (.int x) b)(hsz:l.length * x.toNat<=big)(hx:small x=true)(g:GR Lx base μ as s.heap)
  (hQ:Post Lx base as s (.str (List.replicate x.toNat l).flatten) μ Q):wpAny (model prog w) A (binaryOp .Mult a b) Q E s:=by
 simp only [Rep]at ra rb;obtain⟨t,rfl⟩:=ra;obtain⟨u,rfl⟩:=rb;have hlo:=c1d hx;have e:Txt.mul ⟨l.toArray⟩ x=⟨(List.replicate x.toNat l).flatten.toArray⟩:=by
  unfold Txt.mul;split
  ·rename_i h1
   have:x.toNat=0:=by omega
   rw [this];rfl
  ·rename_i h1
   split
   ·rename_i h2
    simp only [Str.length,List.size_toArray,Bool.or_eq_true,beq_iff_eq]at h2;rcases h2 with h2 | h2
    ·subst h2;simp [List.replicate_succ]
    ·rw [List.length_eq_zero_iff]at h2;subst h2;simp
   ·rw [← c3z]
 refine SB.mul ⟨by simp only [Bool.or_eq_false_iff,decide_eq_false_iff_not];omega,fun h1 h2=>?_,fun h1 h2=>?_⟩ fun t' k=>?_
 ·simp only [Str.length,List.size_toArray]
  have hb:l.length<=big:=by
   have:1<=x.toNat:=by omega
   calc l.length=l.length * 1:=(Nat.mul_one _).symm
    _<=l.length * x.toNat:=Nat.mul_le_mul_left _ this
    _<=big:=hsz
  have hb2:((l.length:Int)) * x<=1000000:=by
   have:((l.length * x.toNat:Nat):Int)<=(big:Int):=by exact_mod_cast hsz
   rw [Int.natCast_mul,Int.toNat_of_nonneg (by omega)]at this;exact this
  have:(l.length:Int)<=(2^63-1) / x:=by
   apply Int.le_ediv_of_mul_le (by omega);omega
  omega
 ·simp only [Str.length,List.size_toArray]
  have:=a2a hsz;unfold Builtin.Str.tooLong;simp only [decide_eq_false_iff_not];omega
 ·rw [e]
  exact hQ.now g (by simp [Rep])
theorem d0s{op:Operator}{u v r:V}{a b:Value}(h:a0x op u v=some r)(ra:Rep0 s.heap as u a)(rb:Rep0 s.heap as v b)(hc:A.handled=.none)(g:GR Lx base μ as s.heap)
  (hQ:Post Lx base as s r μ Q):wpAny (model prog w) A (binaryOp op a b) Q E s:=by
 cases op with
 | Add=>induction u using Mine.V.casesOn with
  | int i=>induction v using Mine.V.casesOn with
   | int j=>obtain⟨_,rfl⟩:=ra;obtain⟨_,rfl⟩:=rb;exact add_int ((hQ.eq h).now g ⟨_,rfl⟩)
   | _=>exact ns h
  | flt x=>induction v using Mine.V.casesOn with
   | flt y=>obtain⟨_,rfl⟩:=ra;obtain⟨_,rfl⟩:=rb;exact add_float ((hQ.eq h).now g ⟨_,rfl⟩)
   | int n=>obtain⟨_,rfl⟩:=ra;obtain⟨_,rfl⟩:=rb;exact ifS h fun hs h=>add_fi_fits (a8r hs) ((hQ.eq h).now g ⟨_,rfl⟩)
   | _=>exact ns h
  | str x=>induction v using Mine.V.casesOn with
   | str y=>
    obtain⟨_,rfl⟩:=ra;obtain⟨_,rfl⟩:=rb;exact ifS h fun hs h=>add_str (fun t' tk=>(d6s x y).symm▸(hQ.eq h).now g ⟨_,rfl⟩) (a2a (of_decide_eq_true hs))
   | _=>exact ns h
  | lst l=>induction v using Mine.V.casesOn with
   | lst l'=>exact ifS h fun hs h=>b2g ra rb (of_decide_eq_true hs) g (hQ.eq h)
   | _=>exact ns h
  | _=>exact ns h
 | Sub=>induction u using Mine.V.casesOn with
  | bool x=>induction v using Mine.V.casesOn with
   | bool y=>obtain rfl:=ra;obtain rfl:=rb;exact sub_bool ((hQ.eq h).now g ⟨_,rfl⟩)
   | _=>exact ns h
  | int i=>induction v using Mine.V.casesOn with
   | int j=>obtain⟨_,rfl⟩:=ra;obtain⟨_,rfl⟩:=rb;exact sub_int ((hQ.eq h).now g ⟨_,rfl⟩)
   | _=>exact ns h
  | flt x=>induction v using Mine.V.casesOn with
   | flt y=>obtain⟨_,rfl⟩:=ra;obtain⟨_,rfl⟩:=rb;exact sub_float ((hQ.eq h).now g ⟨_,rfl⟩)
   | int n=>obtain⟨_,rfl⟩:=ra;obtain⟨_,rfl⟩:=rb;exact ifS h fun hs h=>sub_fi_fits (a8r hs) ((hQ.eq h).now g ⟨_,rfl⟩)
   | _=>exact ns h
  | _=>exact ns h
 | Mult=>induction u using Mine.V.casesOn with
  | int i=>induction v using Mine.V.casesOn with
   | int j=>obtain⟨_,rfl⟩:=ra;obtain⟨_,rfl⟩:=rb;exact ifS h fun hs h=>mul_int ((hQ.eq h).now g ⟨_,rfl⟩) (IntMulOk.of_left (c4b hs))
   | flt y=>obtain⟨_,rfl⟩:=ra;obtain⟨_,rfl⟩:=rb;exact ifS h fun hs h=>mul_if_fits (a8r hs) ((hQ.eq h).now g ⟨_,rfl⟩)
   | _=>exact ns h
  | flt x=>induction v using Mine.V.casesOn with
   | flt y=>obtain⟨_,rfl⟩:=ra;obtain⟨_,rfl⟩:=rb;exact mul_float ((hQ.eq h).now g ⟨_,rfl⟩)
   | _=>exact ns h
  | str x=>induction v using Mine.V.casesOn with
   | int n=>exact ifS h fun hs h=>b4r ra rb (of_decide_eq_true (a0e hs)) (a0n hs) g (hQ.eq h)
   | _=>exact ns h
  | lst l=>induction v using Mine.V.casesOn with
   | int n=>exact ifS h fun hs h=>b2j ra rb (of_decide_eq_true (a0e hs)) (a0n hs) g (hQ.eq h)
   | _=>exact ns h
  | _=>exact ns h
 | FloorDiv=>induction u using Mine.V.casesOn with
  | int i=>induction v using Mine.V.casesOn with
   | int j=>obtain⟨_,rfl⟩:=ra;obtain⟨_,rfl⟩:=rb;exact ifS h fun hs h=>floordiv_int (bne_iff_ne.mp (a0e hs)) ((hQ.eq h).now g ⟨_,rfl⟩) (.inl (a9i (a0n hs)))
   | _=>exact ns h
  | _=>exact ns h
 | Mod=>induction u using Mine.V.casesOn with
  | int i=>induction v using Mine.V.casesOn with
   | int j=>obtain⟨_,rfl⟩:=ra;obtain⟨_,rfl⟩:=rb;exact ifS h fun hs h=>mod_int' (bne_iff_ne.mp hs) ((hQ.eq h).now g ⟨_,rfl⟩)
   | _=>exact ns h
  | flt x=>induction v using Mine.V.casesOn with
   | flt y=>obtain⟨_,rfl⟩:=ra;obtain⟨_,rfl⟩:=rb;exact ifS h fun hs h=>Flt.mod_ff hc (fun q=>nt ((c4p hs).symm.trans q)) fun zz=>(hQ.eq h).now g ⟨_,rfl⟩
   | _=>exact ns h
  | _=>exact ns h
 | Pow=>induction u using Mine.V.casesOn with
  | int i=>induction v using Mine.V.casesOn with
   | int j=>
    obtain⟨_,rfl⟩:=ra;obtain⟨_,rfl⟩:=rb;exact ifS h fun hs h=>pow_int_small (of_decide_eq_true (a0e (a0e hs))) (Int.le_trans (of_decide_eq_true (a0n (a0e hs))) (by decide)) (Nat.lt_of_lt_of_le (of_decide_eq_true (a0n hs)) (by decide)) ((hQ.eq h).now g ⟨_,rfl⟩)
   | _=>exact ns h
  | _=>exact ns h
 | Div=>induction u using Mine.V.casesOn with
  | int i=>induction v using Mine.V.casesOn with
   | int j=>obtain⟨_,rfl⟩:=ra;obtain⟨_,rfl⟩:=rb;exact ifS h fun hs h=>Flt.div_ii hc (fun q=>absurd q (bne_iff_ne.mp (a0e hs))) (fun zz q=>nt ((c4p (a0n hs)).symm.trans q)) fun zz zz=>(hQ.eq h).now g ⟨_,rfl⟩
   | _=>exact ns h
  | flt x=>induction v using Mine.V.casesOn with
   | flt y=>obtain⟨_,rfl⟩:=ra;obtain⟨_,rfl⟩:=rb;exact ifS h fun hs h=>truediv_float_or hc (fun q=>nt ((c4p hs).symm.trans q)) fun zz=>(hQ.eq h).now g ⟨_,rfl⟩
   | _=>exact ns h
  | _=>exact ns h
 | _=>exact ns h
end
end
section
mutual
theorem Rep.reads{h:Heap}{as:List (List Addr)}:∀ {u:V} {a:Value} {d:PyData},b3g u=some d->Rep h as u a->∃ bs,Reads h a d bs
 | .none,_,_,e,r=>by cases e;cases r;exact⟨_,.none⟩
 | .bool b,_,_,e,r=>by cases e;cases r;exact⟨_,.bool b⟩
 | .int i,_,_,e,r=>by cases e;obtain⟨t,rfl⟩:=r;exact⟨_,.int i t⟩
 | .flt _,_,_,e,_=>ns e
 | .str x,_,_,e,r=>by cases e;obtain⟨t,rfl⟩:=r;exact⟨_,.str _ t⟩
 | .mut _,_,_,e,_=>ns e
 | .tup l,_,_,e,r=>a1e e fun ds e2 q=>by
  cases q;obtain⟨a,vs,rfl,_,⟨o,ho,hc,n,hd⟩,hr⟩:=r;obtain⟨bs,hb⟩:=Reps.reads e2 hr;exact⟨_,.tuple ho hc hd hb⟩
 | .lst l,_,_,e,r=>a1e e fun ds e2 q=>by
  cases q;obtain⟨a,vs,rfl,_,⟨n,ho⟩,hr⟩:=r;obtain⟨bs,hb⟩:=Reps.reads e2 hr;exact⟨_,.list ho rfl rfl hb⟩
theorem Reps.reads{h:Heap}{as:List (List Addr)}:∀ {l:List V} {vs:List Value} {ds:List PyData},toPys l=some ds->Reps h as l vs->∃ bs,ReadsAll h vs ds bs
 | [],_,_,e,r=>by cases e;cases r;exact⟨_,.nil⟩
 | x::l,vs,ds,e,r=>by
  obtain⟨v,rs,rfl,hx,hr⟩:=r;unfold toPys at e;induction e1:b3g x using Option.casesOn with
  | none=>rw [e1]at e;exact ns e
  | some a=>induction e2:toPys l using Option.casesOn with
   | none=>rw [e1,e2]at e;exact ns e
   | some b=>
    rw [e1,e2]at e;obtain rfl:=Option.some.inj e;obtain⟨b1,h1⟩:=Rep.reads e1 hx;obtain⟨b2,h2⟩:=Reps.reads e2 hr;exact⟨_,.cons h1 h2⟩
end
theorem Rep0.reads{h:Heap}{as:List (List Addr)}{u:V}{a:Value}{d:PyData}(e:b3g u=some d)(r:Rep0 h as u a):∃ bs,Reads h a d bs:=by
 induction u using Mine.V.casesOn with
 | lst l=>
  refine a1e e fun ds e2 q=>?_;cases q;obtain⟨a,vs,rfl,⟨n,ho⟩,hr⟩:=r;obtain⟨bs,hb⟩:=Reps.reads e2 hr;exact⟨_,.list ho rfl rfl hb⟩
 | _=>exact Rep.reads (as:=as) e r
section
variable{Lx:LxP}{base:Heap}{μ:Mu}{as:List (List Addr)}{prog:Program}{w:World}{A:Around}{E:Value->Shared->Prop}{s:Shared}{Q:Value->Shared->Prop}
theorem a0q{c:Bool}{tk:Nat}(hQ:Post Lx base as s (.bool c) μ Q)(g:GR Lx base μ as s.heap):Q (.bool c) { s with toks:=tk}:=hQ.now g rfl
theorem c7x{u v:V}{c:Bool}{P:Prop}(h:eqv u v=some c)(k1:∀ da db,b3g u=some da->b3g v=some db->SeqAt.shaped da=true->SeqAt.shaped db=true->da.eqv db=c->P)
  (k2:∀ x y,u=.flt x->v=.flt y->(Float64.cmp x y==some .eq)=c->P):P:=by
 have fb:(match (generalizing:=false) u,v with | .flt a,.flt b=>some (Float64.cmp a b==some .eq) | _,_=>.none)=some c->P:=fun h=>by
  induction u using Mine.V.casesOn with
  | flt x=>induction v using Mine.V.casesOn with
   | flt y=>exact k2 x y rfl rfl (Option.some.inj h)
   | _=>exact ns h
  | _=>exact ns h
 unfold eqv at h;induction hu:b3g u using Option.casesOn with
 | none=>rw [hu]at h;exact fb h
 | some da=>induction hv:b3g v using Option.casesOn with
  | none=>rw [hu,hv]at h;exact fb h
  | some db=>rw [hu,hv]at h;exact ifS h fun hs h=>k1 da db hu hv (a0e hs) (a0n hs) (Option.some.inj h)
theorem e5d{u v:V}{c:Bool}{a b:Value}(h:eqv u v=some c)(ra:Rep0 s.heap as u a)(rb:Rep0 s.heap as v b)(hu:A.units<=9500)(g:GR Lx base μ as s.heap)
  (hQ:Post Lx base as s (.bool c) μ Q):wpAny (model prog w) A (compareOp .Eq a b) Q E s:=
 c7x h (fun da db ea eb sa sb e=>by
   subst e;obtain⟨_,h1⟩:=ra.reads ea;obtain⟨_,h2⟩:=rb.reads eb;exact SeqAt.compareEq_shaped h1 h2 sa sb (Nat.lt_of_le_of_lt (Nat.add_le_add_right hu 64) (by decide)) (a0q hQ g))
  fun x y e1 e2 e=>by subst e1 e2 e;obtain⟨_,rfl⟩:=ra;obtain⟨_,rfl⟩:=rb;exact AutoFloatOps.eq_0 (a0q hQ g)
theorem e6m{u v:V}{c:Bool}{a b:Value}(h:eqv u v=some c)(ra:Rep0 s.heap as u a)(rb:Rep0 s.heap as v b)(hu:A.units<=9500)(g:GR Lx base μ as s.heap)
  (hQ:Post Lx base as s (.bool (!c)) μ Q):wpAny (model prog w) A (compareOp .NotEq a b) Q E s:=
 c7x h (fun da db ea eb sa sb e=>by
   subst e;obtain⟨_,h1⟩:=ra.reads ea;obtain⟨_,h2⟩:=rb.reads eb;exact SeqAt.compareNe_shaped h1 h2 sa sb (Nat.lt_of_le_of_lt (Nat.add_le_add_right hu 64) (by decide)) (a0q hQ g))
  fun x y e1 e2 e=>by subst e1 e2 e;obtain⟨_,rfl⟩:=ra;obtain⟨_,rfl⟩:=rb;exact AutoFloatOps.ne_0 (a0q hQ g)
theorem b2b{xs:List PyData}(h:SeqAt.shaped (.list xs)=true):PyData.canLayAll0 xs=true:=by
 have:=SeqAt.canLay_of_shaped h;simpa [PyData.canLay0]using this
theorem c5l{n:Nat}(h:n<=big):(n:Int)<2^63:=by unfold big at h;omega
theorem b5q{n d:Nat}(hu:n<=9500)(h:d<=64):n+1+d<cLine:=by unfold cLine;omega
theorem b2z{xs:List PyData}{d:PyData}(h:SeqAt.shaped d=true):min (PyData.depthAll xs) d.depth<=64:=
 Nat.le_trans (Nat.min_le_right _ _) (SeqAt.depth_of_shaped h)
theorem c0h{u v:V}{c:Bool}{P:Prop}(h:d0c u v=some c)(k1:∀ x y,u=.str x->v=.str y->Txt.contains ⟨y.toArray⟩ ⟨x.toArray⟩=c->P)
  (k2:∀ l d xs,v=.lst l->b3g u=some d->b3g v=some (.list xs)->SeqAt.shaped (.list xs)=true->SeqAt.shaped d=true->(xs.any fun y=>y.eqv d)=c->P):P:=by
 induction v using Mine.V.casesOn with
 | str y=>induction u using Mine.V.casesOn with
  | str x=>exact k1 x y rfl rfl (Option.some.inj h)
  | _=>exact ns h
 | lst l=>
  have fb:(match (generalizing:=false) b3g u,toPys l with | some d,some xs=>if SeqAt.shaped (.list xs)&&SeqAt.shaped d then some (xs.any fun y=>y.eqv d)else .none | _,_=>.none)=some c->P:=fun h=>by
   induction hu:b3g u using Option.casesOn with
   | none=>rw [hu]at h;exact ns h
   | some d=>induction hv:toPys l using Option.casesOn with
    | none=>rw [hu,hv]at h;exact ns h
    | some xs=>rw [hu,hv]at h;exact ifS h fun hs h=>k2 l d xs rfl hu (congrArg (Option.map PyData.list) hv) (a0e hs) (a0n hs) (Option.some.inj h)
  induction u using Mine.V.casesOn<;>exact fb h
 | _=>induction u using Mine.V.casesOn<;>exact ns h
theorem e7u{u v:V}{c:Bool}{a b:Value}(h:d0c u v=some c)(ra:Rep0 s.heap as u a)(rb:Rep0 s.heap as v b)(hu:A.units<=9500)(g:GR Lx base μ as s.heap)
  (hQ:Post Lx base as s (.bool c) μ Q):wpAny (model prog w) A (compareOp .In a b) Q E s:=
 c0h h (fun x y e1 e2 e=>by subst e1 e2 e;obtain⟨_,rfl⟩:=ra;obtain⟨_,rfl⟩:=rb;exact SB.contains (a0q hQ g))
  fun l d xs zz e1 e2 s1 s2 e=>by
   subst e;obtain⟨_,h1⟩:=ra.reads e1;obtain⟨_,h2⟩:=rb.reads e2;exact SeqAt.in_list_reads h2 h1 (b2b s1) (SeqAt.canLay_of_shaped s2) (b5q hu (@b2z xs _ s2)) (a0q hQ g)
theorem d1r{u v:V}{c:Bool}{a b:Value}(h:d0c u v=some c)(ra:Rep0 s.heap as u a)(rb:Rep0 s.heap as v b)(hu:A.units<=9500)(g:GR Lx base μ as s.heap)
  (hQ:Post Lx base as s (.bool (!c)) μ Q):wpAny (model prog w) A (compareOp .NotIn a b) Q E s:=
 c0h h (fun x y e1 e2 e=>by subst e1 e2 e;obtain⟨_,rfl⟩:=ra;obtain⟨_,rfl⟩:=rb;exact SB.notContains (a0q hQ g))
  fun l d xs zz e1 e2 s1 s2 e=>by
   subst e;obtain⟨_,h1⟩:=ra.reads e1;obtain⟨_,h2⟩:=rb.reads e2;exact SeqAt.notIn_list_reads h2 h1 (b2b s1) (SeqAt.canLay_of_shaped s2) (b5q hu (@b2z xs _ s2)) (a0q hQ g)
theorem a7w{op:CmpOp}{u v:V}{c:Bool}{a b:Value}(h:a0z op u v=some c)(ra:Rep0 s.heap as u a)(rb:Rep0 s.heap as v b)(hu:A.units<=9500)(g:GR Lx base μ as s.heap)
  (hQ:Post Lx base as s (.bool c) μ Q):wpAny (model prog w) A (compareOp op a b) Q E s:=by
 cases op with
 | Eq=>exact e5d h ra rb hu g hQ
 | NotEq=>exact a1e h fun c h e=>e6m h ra rb hu g (e▸hQ)
 | In=>exact e7u h ra rb hu g hQ
 | NotIn=>exact a1e h fun c h e=>d1r h ra rb hu g (e▸hQ)
 | Is=>induction u using Mine.V.casesOn with
  | bool x=>induction v using Mine.V.casesOn with
   | bool y=>cases ra;cases rb;exact is_bool (a0q (Option.some.inj h▸hQ) g)
   | _=>exact ns h
  | none=>cases v with
   | none=>cases ra;cases rb;exact is_none_none (a0q (Option.some.inj h▸hQ) g)
   | _=>exact ns h
  | lst l=>cases v with
   | none=>obtain⟨a,vs,rfl,_⟩:=ra;cases rb;exact is_ref_none (a0q (Option.some.inj h▸hQ) g)
   | _=>exact ns h
  | _=>exact ns h
 | IsNot=>induction u using Mine.V.casesOn with
  | none=>cases v with
   | none=>cases ra;cases rb;exact isnot_none_none (a0q (Option.some.inj h▸hQ) g)
   | _=>exact ns h
  | lst l=>cases v with
   | none=>obtain⟨a,vs,rfl,_⟩:=ra;cases rb;exact isnot_ref_none (a0q (Option.some.inj h▸hQ) g)
   | _=>exact ns h
  | _=>exact ns h
 | Lt=>induction u using Mine.V.casesOn with
  | int x=>induction v using Mine.V.casesOn with
   | int y=>obtain⟨_,rfl⟩:=ra;obtain⟨_,rfl⟩:=rb;exact lt_int (a0q (Option.some.inj h▸hQ) g)
   | _=>exact ns h
  | flt x=>induction v using Mine.V.casesOn with
   | flt y=>obtain⟨_,rfl⟩:=ra;obtain⟨_,rfl⟩:=rb;exact AutoFloatOps.lt_0 (a0q (Option.some.inj h▸hQ) g)
   | _=>exact ns h
  | _=>exact ns h
 | LtE=>induction u using Mine.V.casesOn with
  | int x=>induction v using Mine.V.casesOn with
   | int y=>obtain⟨_,rfl⟩:=ra;obtain⟨_,rfl⟩:=rb;exact le_int (a0q (Option.some.inj h▸hQ) g)
   | flt y=>obtain⟨_,rfl⟩:=ra;obtain⟨_,rfl⟩:=rb;exact le_if (a0q (Option.some.inj h▸hQ) g)
   | _=>exact ns h
  | flt x=>induction v using Mine.V.casesOn with
   | flt y=>obtain⟨_,rfl⟩:=ra;obtain⟨_,rfl⟩:=rb;exact AutoFloatOps.le_0 (a0q (Option.some.inj h▸hQ) g)
   | int y=>obtain⟨_,rfl⟩:=ra;obtain⟨_,rfl⟩:=rb;exact le_fi (a0q (Option.some.inj h▸hQ) g)
   | _=>exact ns h
  | _=>exact ns h
 | Gt=>induction u using Mine.V.casesOn with
  | int x=>induction v using Mine.V.casesOn with
   | int y=>obtain⟨_,rfl⟩:=ra;obtain⟨_,rfl⟩:=rb;exact gt_int (a0q (Option.some.inj h▸hQ) g)
   | _=>exact ns h
  | _=>exact ns h
 | GtE=>induction u using Mine.V.casesOn with
  | int x=>induction v using Mine.V.casesOn with
   | int y=>obtain⟨_,rfl⟩:=ra;obtain⟨_,rfl⟩:=rb;exact ge_int (a0q (Option.some.inj h▸hQ) g)
   | _=>exact ns h
  | _=>exact ns h
theorem b6z{l:List V}{vs:List Value}(hr:Reps s.heap as l vs):(!vs.toArray.isEmpty)=!l.isEmpty:=by
 have hl:=hr.length;induction l using List.casesOn with
 | nil=>induction vs using List.casesOn with
  | nil=>rfl
  | cons _ _=>cases hl
 | cons x r=>induction vs using List.casesOn with
  | nil=>cases hl
  | cons v t=>simp
theorem a6s{u:V}{c:Bool}{a:Value}{Q:Bool->Shared->Prop}(h:a3a u=some c)(ra:Rep0 s.heap as u a)
  (hQ:∀ tk,Q c { s with toks:=tk}):wpAny (model prog w) A (truthy a) Q E s:=by
 induction u using Mine.V.casesOn with
 | none=>cases ra;exact truthy_none (Option.some.inj h▸hQ s.toks)
 | bool b=>cases ra;exact wpAny_truthy_bool (Option.some.inj h▸hQ s.toks)
 | int i=>obtain⟨_,rfl⟩:=ra;exact truthy_int (Option.some.inj h▸hQ s.toks)
 | str l=>
  obtain⟨_,rfl⟩:=ra;refine ifS h fun hb h=>P.truthy_str (Int.not_le.mpr (c5l hb)) ?_;have e:(((⟨l.toArray⟩:Str).length:Int) != 0)=!l.isEmpty:=by
   induction l using List.casesOn with
   | nil=>rfl
   | cons a r=>simp [Str.length];omega
  exact(e.trans (Option.some.inj h)).symm▸hQ _
 | tup l=>
  obtain⟨a,vs,rfl,_,ht,hr⟩:=ra;exact ifS h fun hb h=>truthy_tuple ht (by rw [List.size_toArray,hr.length];exact c5l hb) (((b6z hr).trans (Option.some.inj h)).symm▸hQ _)
 | lst l=>
  obtain⟨a,vs,rfl,ht,hr⟩:=ra;exact ifS h fun hb h=>wpAny_truthy_list ht.isList (by rw [List.size_toArray,hr.length];exact c5l hb) (((b6z hr).trans (Option.some.inj h)).symm▸hQ _)
 | _=>exact ns h
theorem b9p{k:Int}{n j:Nat}(h:seqIndex? k n=some j)(hn:n<=big):j<n /\ -(2^63:Int)<=k/\k<2^63/\(k<0 -> -(n:Int)<=k/\(k+n).toNat=j)/\(¬k<0->k.toNat=j/\0<=k):=by
 have hb:(n:Int)<=1000000:=Int.ofNat_le.mpr hn;unfold seqIndex? at h;by_cases hk:k<0
 ·rw [if_pos hk]at h
  refine ifS h fun h2 h=>?_;have h3:=of_decide_eq_true (a0e h2);have h4:=of_decide_eq_true (a0n h2);have h5:=Option.some.inj h;have h6:-(n:Int)<=k:=by have:=Int.sub_le_sub_right h3 n;rwa [Int.zero_sub,Int.add_sub_cancel]at this
  exact⟨h5▸(Int.toNat_lt h3).mpr h4,Int.le_trans (Int.le_trans (by decide) (Int.neg_le_neg hb)) h6,Int.lt_trans hk (by decide),fun zz=>⟨h6,h5⟩,fun q=>absurd hk q⟩
 ·rw [if_neg hk]at h
  refine ifS h fun h2 h=>?_;have h3:=of_decide_eq_true (a0e h2);have h4:=of_decide_eq_true (a0n h2);have h5:=Option.some.inj h;exact⟨h5▸(Int.toNat_lt h3).mpr h4,Int.le_trans (by decide) h3,Int.lt_of_lt_of_le h4 (Int.le_trans hb (by decide)),fun q=>absurd q hk,fun zz=>⟨h5,h3⟩⟩
theorem d6g{u v r:V}{a b:Value}(h:item u v=some r)(ra:Rep0 s.heap as u a)(rb:Rep s.heap as v b)(g:GR Lx base μ as s.heap)
  (hQ:Post Lx base as s r μ Q):wpAny (model prog w) A (getItem a b) Q E s:=by
 induction u using Mine.V.casesOn with
 | lst l=>induction v using Mine.V.casesOn with
  | int k=>
   obtain⟨a,vs,rfl,ht,hr⟩:=ra;obtain⟨t,rfl⟩:=rb;refine ifS h fun hb h=>a0h h fun j h1 h2=>?_;obtain⟨hj,hlo,hhi,hn,hp⟩:=b9p h1 hb;obtain⟨y,hy,ry⟩:=hr.get j h2;by_cases hk:k<0
   ·obtain⟨h3,h4⟩:=hn hk
    refine wpAny_getItem_list_neg ht.isList hk (by rw [List.size_toArray,hr.length];exact h3) hlo (x:=y) ?_ (hQ.now g ry);rw [List.size_toArray,hr.length,h4];exact(List.getElem?_toArray ..).trans hy
   ·obtain⟨h3,h4⟩:=hp hk
    exact wpAny_getItem_list ht.isList h4 hhi (x:=y) (by rw [h3];exact(List.getElem?_toArray ..).trans hy) (hQ.now g ry)
  | _=>exact ns h
 | tup l=>induction v using Mine.V.casesOn with
  | int k=>
   obtain⟨a,vs,rfl,_,ht,hr⟩:=ra;obtain⟨t,rfl⟩:=rb;refine ifS h fun hb h=>a0h h fun j h1 h2=>?_;obtain⟨hj,hlo,hhi,_⟩:=b9p h1 hb;obtain⟨y,hy,ry⟩:=hr.get j h2;exact getItem_tuple ht hlo hhi (by rw [List.size_toArray,hr.length];exact h1) ((List.getElem?_toArray ..).trans hy) (hQ.now g ry)
  | _=>exact ns h
 | str x=>induction v using Mine.V.casesOn with
  | int k=>
   obtain⟨t,rfl⟩:=ra;obtain⟨u,rfl⟩:=rb;refine ifS h fun hb h=>a0h h fun j h1 h=>a1e h fun c h2 e=>?_;obtain⟨hj,hlo,hhi,_⟩:=b9p h1 hb;refine getItem_str (c:=c) (by simp only [Bool.or_eq_false_iff,decide_eq_false_iff_not];omega) ?_ ((hQ.eq (congrArg some e)).now g ⟨_,rfl⟩);simp only [Str.length,List.size_toArray,h1,Option.bind_some];exact(List.getElem?_toArray ..).trans h2
  | _=>exact ns h
 | _=>exact ns h
theorem Reps.pick{h:Heap}{l:List V}{vs:List Value}(r:Reps h as l vs):∀ is:List Nat,Reps h as (is.filterMap (l[·]?)) (is.filterMap (vs[·]?)):=by
 intro z_;induction z_ with
 | nil=>
  simp [Reps]
 | cons i is ih=>
  rw [List.filterMap_cons,List.filterMap_cons];induction q:l[i]? using Option.casesOn with
  | none=>
   have:vs[i]?=.none:=by
    rw [List.getElem?_eq_none_iff]at q ⊢;rw [r.length];exact q
   simp only [this];exact ih
  | some x=>
   obtain⟨v,hv,rv⟩:=r.get i q;simp only [hv];exact .cons rv (ih)
noncomputable def IsP(u:Option V)(a:Value):Prop:=match u with
 | .none=>a=.none
 | some (.int i)=>∃ t,a=.int i t
 | some .none=>a=.none
 | _=>False
theorem c4v{u:Option V}{p:Option Int}{a:Value}(h:b5k u=some p)(r:IsP u a):IsPart a p:=by
 induction u using Option.casesOn with
 | none=>cases r;cases h;exact .none
 | some v=>induction v using Mine.V.casesOn with
  | none=>cases r;cases h;exact .none
  | int i=>obtain⟨t,rfl⟩:=r;obtain rfl:=Option.some.inj h;exact .int _ t
  | _=>exact ns h
theorem b5d{l:List V}{lo hi st:Option Int}{r:V}{a vl vu vs:Value}{sl:Addr}(h:a1y (.lst l) lo hi st=some r)(ra:Rep0 s.heap as (.lst l) a)(hs:s.heap.IsSliceOf sl vl vu vs)(h1:IsPart vl lo)(h2:IsPart vu hi)(h3:IsPart vs st)(g:GR Lx base μ as s.heap)
  (hQ:Post Lx base as s r μ Q):wpAny (model prog w) A (getItem a (.ref sl)) Q E s:=by
 refine ifN h fun h0 h=>ifS h fun hb h=>?_;obtain⟨a,vs',rfl,ht,hr⟩:=ra;have hl:=hr.length;refine wpAny_getItem_list_slice ht.isList hs h1 h2 h3 (by intro q;subst q;simp at h0) ?_ (by simp only [List.size_toArray,hl];exact a2a hb);have:=(hQ.eq h).new (tk:=s.toks) g (a4y g (hr.pick ((sliceRange (sliceBounds lo hi st l.length).1 (sliceBounds lo hi st l.length).2.1 (sliceBounds lo hi st l.length).2.2))));unfold slicePick;simp only [List.size_toArray,hl,List.getElem?_toArray];exact this
noncomputable def a9g:Option Int->Value->Option (Int×Tok)
 | some i,.int _ t=>some (i,t)
 | _,_=>.none
theorem a6f{p:Option Int}{a:Value}(h:IsPart a p):partValue (a9g p a)=a/\(a9g p a).map (·.1)=p:=by
 cases h<;>exact⟨rfl,rfl⟩
theorem b6a{x:List Nat}{lo hi st:Option Int}{r:V}{a vl vu vs:Value}{sl:Addr}(h:a1y (.str x) lo hi st=some r)(ra:Rep s.heap as (.str x) a)(hs:s.heap.IsSliceOf sl vl vu vs)(h1:IsPart vl lo)(h2:IsPart vu hi)(h3:IsPart vs st)(g:GR Lx base μ as s.heap)
  (hQ:Post Lx base as s r μ Q):wpAny (model prog w) A (getItem a (.ref sl)) Q E s:=by
 refine ifN h fun h0 h=>ifS h fun hb h=>?_;have hQ:=hQ.eq h;obtain⟨t,rfl⟩:=ra;obtain⟨e1,f1⟩:=a6f h1;obtain⟨e2,f2⟩:=a6f h2;obtain⟨e3,f3⟩:=a6f h3;have hS:s.heap.IsSlice sl (a9g lo vl) (a9g hi vu) (a9g st vs):=by
  obtain⟨o,ho,hc,hd⟩:=hs;exact⟨o,ho,hc,by rw [e1,e2,e3];exact hd⟩
 refine wpAny_getItem_str_slice hS ?_ ?_
 ·rw [f3]
  induction st using Option.casesOn with
  | none=>rfl
  | some i=>
   simp only [beq_iff_eq,Option.some.injEq]at h0;simpa using h0
 ·unfold sliceMade
  have idx:slicePicked ⟨x.toArray⟩ (a9g lo vl) (a9g hi vu) (a9g st vs)=Builtin.Str.strSliceIndices lo hi (st.getD 1) x.length:=by
   unfold slicePicked;rw [f1,f2,f3];rfl
  rw [idx,f3];by_cases hw:(st.getD 1==1&&(Builtin.Str.strSliceIndices lo hi (st.getD 1) x.length).length==x.length)=true
  ·rw [if_pos hw]at hQ
   exact(if_pos hw).symm▸hQ.now g ⟨_,rfl⟩
  ·rw [if_neg hw]at hQ
   have hx:=a2a hb.2;refine(if_neg hw).symm▸⟨?_,?_⟩
   ·simp only [List.getElem?_toArray,Str.length,List.size_toArray]
    exact hx
   ·simp only [List.getElem?_toArray]
    exact hQ.now g ⟨_,rfl⟩
theorem b5v{l:List V}{lo hi st:Option Int}{r:V}{a vl vu vs:Value}{sl:Addr}(h:a1y (.tup l) lo hi st=some r)(ra:Rep0 s.heap as (.tup l) a)(hs:s.heap.IsSliceOf sl vl vu vs)(h1:IsPart vl lo)(h2:IsPart vu hi)(h3:IsPart vs st)(g:GR Lx base μ as s.heap)
  (hQ:Post Lx base as s r μ Q):wpAny (model prog w) A (getItem a (.ref sl)) Q E s:=by
 refine ifN h fun zz h=>?_;induction lo using Option.casesOn with
 | none=>exact ns h
 | some i=>induction i using Int.casesOn with
  | negSucc _=>exact ns h
  | ofNat n=>
   replace h:slT l hi st (some (.ofNat n))=some r:=h;refine ifS h fun hc h9=>?_;obtain⟨c1,c2,c3,rfl,rfl⟩:=hc;cases h1;cases h2;cases h3;obtain⟨a,vs',rfl,_,ht,hr⟩:=ra;have hl:=hr.length;refine getItem_tuple_from ht hs c1 (by rw [List.size_toArray,hl];exact c2) ?_ (by rw [List.size_toArray,hl];exact a2a c3);exact(hQ.eq h9).new (tk:=s.toks) g (a6b g (hr.drop n))
theorem d1l{u r:V}{lo hi st:Option Int}{a vl vu vs:Value}{sl:Addr}(h:a1y u lo hi st=some r)(ra:Rep0 s.heap as u a)(hs:s.heap.IsSliceOf sl vl vu vs)(h1:IsPart vl lo)(h2:IsPart vu hi)(h3:IsPart vs st)(g:GR Lx base μ as s.heap)
  (hQ:Post Lx base as s r μ Q):wpAny (model prog w) A (getItem a (.ref sl)) Q E s:=by
 induction u using Mine.V.casesOn with
 | lst l=>exact b5d h ra hs h1 h2 h3 g hQ
 | tup l=>exact b5v h ra hs h1 h2 h3 g hQ
 | str x=>exact b6a h ra hs h1 h2 h3 g hQ
 | _=>exact ifN h fun zz h=>ns h
end
end
section
noncomputable def Mv(own:List Addr)(h h':Heap):Prop:=∀ a o,a∉own->h.get? a=some o->h'.get? a=some o
structure Sf(own:List Addr)(as:List (List Addr))(h:Heap)(as':List (List Addr))(h':Heap):Prop where
 off':∀ a o,h.get? a=some o->a∉as.flatten->a∉as'.flatten
 get':∀(k:Nat) (l:List Addr),as[k+1]?=some l->as'[k+1]?=some l
 keep:∀ a o,a∉as.flatten->h.get? a=some o->(a∈own∨∃ xs n,o.data=.seq xs n)->h'.get? a=some o
theorem Sf.off{own as h as' h'}(g:Sf own as h as' h'){a:Addr}{o:Obj}(e:h.get? a=some o)(ha:a∉as.flatten):a∉as'.flatten:=g.off' a o e ha
theorem Rep.sf{own:List Addr}{as as':List (List Addr)}{h h':Heap}(g:Sf own as h as' h'):∀ {x:V} {v:Value},Rep h as x v->Rep h' as' x v:=fun r=>
 Rep.tr (fun a o ha e q=>⟨g.off e ha,g.keep a o ha e (.inr q)⟩) g.get' r
theorem Reps.sf{own:List Addr}{as as':List (List Addr)}{h h':Heap}(g:Sf own as h as' h'):∀ {l:List V} {vs:List Value},Reps h as l vs->Reps h' as' l vs:=fun r=>
 Reps.tr (fun a o ha e q=>⟨g.off e ha,g.keep a o ha e (.inr q)⟩) g.get' r
structure Wk(prog:Program)(w:World)(A:Around)(base h₀:Heap)(tg:Expr)(it:Value)(own:List Addr)(vs:List V)(St:Nat->List (List Addr)->Heap->Prop)(Src:List (List Addr)->Heap->Prop):Prop where
 fresh:∀ a∈own,h₀.get? a=.none/\base.get? a=.none
 off:∀ i as h,St i as h->∀ a∈own,a∉as.flatten/\∃ o,h.get? a=some o/\∀ xs n,o.data≠.seq xs n
 stay:∀ i as h as' h',St i as h->Sf own as h as' h'->St i as' h'
 item:∀ i as (s:Shared) (Q:Value->Shared->Prop) (E:Value->Shared->Prop) x,vs[i]?=some x->(∀ a∈as.flatten,∃ o,s.heap.get? a=some o)->St i as s.heap->Src as s.heap →
  (∀ v h' tk,Rep h' as x v->St (i+1) as h'->Mv own s.heap h'->Q v { s with heap:=h',toks:=tk}) →
  wpAny (model prog w) A (pyNext it) (fun r sI=>match r with | .none=>False | some v=>wpAny (model prog w) A (letOwnedTupleGo tg it v) (fun zz sJ=>Q v sJ) E sI) E s
 done:∀ as (s:Shared) (Q:Option Value->Shared->Prop) (E:Value->Shared->Prop),St vs.length as s.heap->Src as s.heap →
  (∀ h' tk,Mv own s.heap h'->Q .none { s with heap:=h',toks:=tk})->wpAny (model prog w) A (pyNext it) Q E s
 self:∀ i as (s:Shared) (Q:Value->Shared->Prop) (E:Value->Shared->Prop),St i as s.heap->Q it s->wpAny (model prog w) A (pyIter it) Q E s
section
variable{prog:Program}{w:World}{A:Around}{base h₀:Heap}{tg:Expr}{as:List (List Addr)}
noncomputable def b6t:Expr->Bool
 | .Name ..=>true
 | .Tuple ..=>true
 | _=>false
theorem a1m{M:Model}{E:Value->Shared->Prop}{s:Shared}{I:Addr}{o:Obj}{vs:Array Value}{n:String}{v:Value}{Q:Unit->Shared->Prop}(ht:b6t tg=true)(ho:s.heap.get? I=some o)(hc:o.cls=.type n)(hd:o.data=.fields vs)
  (hn:(["enumerate","zip","dict_itemiterator","dict_reverseitemiterator","odict_iterator","itertools.zip_longest","itertools.pairwise"].contains n)=false) (hQ:Q () s):wpAny M A (letOwnedTupleGo tg (.ref I) v) Q E s:=by
 induction tg using PySem.Expr.casesOn with
 | Name=>exact wpAny_pure hQ
 | Tuple=>
  cases v with
  | ref a=>
   refine wpAny_bind (wpAny_load ho ?_);rw [hc,hd];show wpAny M A (if(["enumerate","zip","dict_itemiterator","dict_reverseitemiterator","odict_iterator","itertools.zip_longest","itertools.pairwise"].contains n&&vs[0]?==some (rawInt a))=true then _ else _) Q E s
   rw [hn,Bool.false_and,if_neg (by decide)];exact wpAny_pure hQ
  | _=>exact wpAny_pure hQ
 | _=>exact nt ht
theorem Wk.list(hh:A.handled=.none)(ht:b6t tg=true)(I ax:Addr)(l:List V)(vals:List Value)(hf:h₀.get? I=.none/\base.get? I=.none) :
  Wk prog w A base h₀ tg (.ref I) [I] l (fun i as h=>h.IsListIter I ax i/\I∉as.flatten/\ax∉as.flatten/\h.PlainList ax vals.toArray/\Reps h as l vals) (fun zz zz=>True) where
 fresh:=fun a ha=>by rw [List.mem_singleton]at ha;subst ha;exact hf
 off:=fun i as h st a ha=>by
  rw [List.mem_singleton]at ha;subst ha;obtain⟨o,ho,hc,hd⟩:=st.1;exact⟨st.2.1,o,ho,fun zz zz q=>by rw [hd]at q;cases q⟩
 stay:=fun i as h as' h' st g=>by
  obtain⟨⟨o,ho,hc,hd⟩,h1,h2,⟨n,h3⟩,h4⟩:=st;exact⟨⟨o,g.keep I o h1 ho (.inl (by simp)),hc,hd⟩,g.off ho h1,g.off h3 h2,⟨n,g.keep ax _ h2 h3 (.inr ⟨_,_,rfl⟩)⟩,h4.sf g⟩
 item:=fun i as s Q E x hx zz st zz hQ=>by
  obtain⟨h0,h1,h2,h3,h4⟩:=st;obtain⟨y,hy,ry⟩:=h4.get i hx;obtain⟨o,ho,hc,hd⟩:=id h0;have hne:ax≠I:=fun q=>by obtain⟨n,e⟩:=h3;rw [q,ho]at e;cases e;cases hd
  refine wpAny_pyNext_list_item h0 h3.isList (x:=y) (by simpa using hy) fun h' hit hs=>?_;obtain⟨o',ho',hc',hd'⟩:=id hit;have mv:Mv [I] s.heap h':=fun a o ha e=>(hs.2 a (by simpa using ha)).trans e;have ks:Ks as s.heap h':=fun a o _ e ⟨xs,n,q⟩=>mv a o (fun hm=>by rw [List.mem_singleton]at hm;subst hm;rw [ho]at e;cases e;rw [hd]at q;cases q) e;refine a1m ht ho' hc' hd' (by decide) (hQ y h' s.toks (ry.ks ks) ⟨hit,h1,h2,?_,h4.ks ks⟩ mv);obtain⟨n,e⟩:=h3;exact⟨n,mv ax _ (by simpa using hne) e⟩
 done:=fun as s Q E st zz hQ=>by
  obtain⟨h0,h1,h2,h3,h4⟩:=st;refine wpAny_pyNext_list_end hh h0 h3.isList (by simp [h4.length]) fun h' he=>hQ h' s.toks fun a o ha e=>he a o (by simpa using ha) e
 self:=fun zz zz zz zz zz st hQ=>wpAny_pyIter_listiter st.1 hQ
inductive e2d(k:Nat)(l:List V)(as:List (List Addr))(h:Heap):Prop
 | mk (ax:Addr) (vals:List Value) (h1:as[k+1]?=some [ax]) (h2:h.PlainList ax vals.toArray) (h3:Reps h as l vals)
theorem Wk.own(hh:A.handled=.none)(ht:b6t tg=true)(k:Nat)(I ax:Addr)(l:List V)(hf:h₀.get? I=.none/\base.get? I=.none) :
  Wk prog w A base h₀ tg (.ref I) [I] l (fun i as h=>h.IsListIter I ax i/\I∉as.flatten/\as[k+1]?=some [ax]) (e2d k l) where
 fresh:=fun a ha=>by rw [List.mem_singleton]at ha;subst ha;exact hf
 off:=fun i as h st a ha=>by
  rw [List.mem_singleton]at ha;subst ha;obtain⟨o,ho,hc,hd⟩:=st.1;exact⟨st.2.1,o,ho,fun zz zz q=>by rw [hd]at q;cases q⟩
 stay:=fun i as h as' h' st g=>by
  obtain⟨⟨o,ho,hc,hd⟩,h1,h2⟩:=st;exact⟨⟨o,g.keep I o h1 ho (.inl (List.mem_singleton_self _)),hc,hd⟩,g.off ho h1,g.get' _ _ h2⟩
 item:=fun i as s Q E x hx zz st sr hQ=>by
  obtain⟨h0,h1,h2⟩:=st;obtain⟨_,vals,q,h3,h4⟩:=sr;obtain rfl:=(List.cons.inj (Option.some.inj (h2.symm.trans q))).1;obtain⟨y,hy,ry⟩:=h4.get i hx;obtain⟨o,ho,hc,hd⟩:=id h0;refine wpAny_pyNext_list_item h0 h3.isList (x:=y) ((List.getElem?_toArray ..).trans hy) fun h' hit hs=>?_;obtain⟨o',ho',hc',hd'⟩:=id hit;have mv:Mv [I] s.heap h':=fun a o ha e=>(hs.2 a (fun q=>ha (List.mem_singleton.mpr q))).trans e;have ks:Ks as s.heap h':=fun a o _ e ⟨xs,n,q⟩=>mv a o (fun hm=>by rw [List.mem_singleton]at hm;subst hm;rw [ho]at e;cases e;rw [hd]at q;cases q) e;exact a1m ht ho' hc' hd' (by decide) (hQ y h' s.toks (ry.ks ks) ⟨hit,h1,h2⟩ mv)
 done:=fun as s Q E st sr hQ=>by
  obtain⟨_,vals,q,h3,h4⟩:=sr;obtain rfl:=(List.cons.inj (Option.some.inj (st.2.2.symm.trans q))).1;refine wpAny_pyNext_list_end hh st.1 h3.isList (by simp [h4.length]) fun h' he=>hQ h' s.toks fun a o ha e=>he a o (fun q=>ha (List.mem_singleton.mpr q)) e
 self:=fun zz zz zz zz zz st hQ=>wpAny_pyIter_listiter st.1 hQ
theorem Wk.tuple(hh:A.handled=.none)(ht:b6t tg=true)(I ax:Addr)(l:List V)(vals:List Value)(hf:h₀.get? I=.none/\base.get? I=.none) :
  Wk prog w A base h₀ tg (.ref I) [I] l (fun i as h=>h.IsTupleIter I ax i/\I∉as.flatten/\ax∉as.flatten/\h.IsTuple ax vals.toArray/\Reps h as l vals) (fun zz zz=>True) where
 fresh:=fun a ha=>by rw [List.mem_singleton]at ha;subst ha;exact hf
 off:=fun i as h st a ha=>by
  rw [List.mem_singleton]at ha;subst ha;obtain⟨o,ho,hc,hd⟩:=st.1;exact⟨st.2.1,o,ho,fun zz zz q=>by rw [hd]at q;cases q⟩
 stay:=fun i as h as' h' st g=>by
  obtain⟨⟨o,ho,hc,hd⟩,h1,h2,⟨o2,ho2,hc2,n,hd2⟩,h4⟩:=st;exact⟨⟨o,g.keep I o h1 ho (.inl (by simp)),hc,hd⟩,g.off ho h1,g.off ho2 h2,⟨o2,g.keep ax _ h2 ho2 (.inr ⟨_,_,hd2⟩),hc2,n,hd2⟩,h4.sf g⟩
 item:=fun i as s Q E x hx zz st zz hQ=>by
  obtain⟨h0,h1,h2,h3,h4⟩:=st;obtain⟨y,hy,ry⟩:=h4.get i hx;obtain⟨o,ho,hc,hd⟩:=id h0;have hne:ax≠I:=fun q=>by obtain⟨o2,ho2,hc2,n,hd2⟩:=h3;rw [q,ho]at ho2;cases ho2;rw [hd]at hd2;cases hd2
  refine wpAny_pyNext_tuple_item h0 h3 (x:=y) (by simpa using hy) fun h' hit hs=>?_;obtain⟨o',ho',hc',hd'⟩:=id hit;have mv:Mv [I] s.heap h':=fun a o ha e=>(hs.2 a (by simpa using ha)).trans e;have ks:Ks as s.heap h':=fun a o _ e ⟨xs,n,q⟩=>mv a o (fun hm=>by rw [List.mem_singleton]at hm;subst hm;rw [ho]at e;cases e;rw [hd]at q;cases q) e;refine a1m ht ho' hc' hd' (by decide) (hQ y h' s.toks (ry.ks ks) ⟨hit,h1,h2,?_,h4.ks ks⟩ mv);obtain⟨o2,ho2,r⟩:=h3;exact⟨o2,mv ax _ (by simpa using hne) ho2,r⟩
 done:=fun as s Q E st zz hQ=>by
  obtain⟨h0,h1,h2,h3,h4⟩:=st;refine wpAny_pyNext_tuple_end hh h0 h3 (by simp [h4.length]) fun h' he=>hQ h' s.toks fun a o ha e=>he a o (by simpa using ha) e
 self:=fun zz zz zz zz zz st hQ=>wpAny_pyIter_tupleiter st.1 hQ
theorem Wk.strA(hh:A.handled=.none)(ht:b6t tg=true)(I:Addr)(x:List Nat)(t:Tok)(hf:h₀.get? I=.none/\base.get? I=.none) :
  Wk prog w A base h₀ tg (.ref I) [I] (x.map fun c=>.str [c]) (fun i as h=>h.IsStrIter I "str_ascii_iterator" ⟨x.toArray⟩ t i/\I∉as.flatten) (fun zz zz=>True) where
 fresh:=fun a ha=>by rw [List.mem_singleton]at ha;subst ha;exact hf
 off:=fun i as h st a ha=>by
  rw [List.mem_singleton]at ha;subst ha;obtain⟨o,ho,hc,hd⟩:=st.1;exact⟨st.2,o,ho,fun zz zz q=>by rw [hd]at q;cases q⟩
 stay:=fun i as h as' h' st g=>by
  obtain⟨⟨o,ho,hc,hd⟩,h1⟩:=st;exact⟨⟨o,g.keep I o h1 ho (.inl (by simp)),hc,hd⟩,g.off ho h1⟩
 item:=fun i as s Q E y hx zz st zz hQ=>by
  obtain⟨h0,h1⟩:=st;simp only [List.getElem?_map,Option.map_eq_some_iff]at hx;obtain⟨c,hc,rfl⟩:=hx;refine wpAny_pyNext_ascii_item h0 (c:=c) (by simpa using hc) fun h' hit hs=>?_;obtain⟨o',ho',hc',hd'⟩:=id hit;exact a1m ht ho' hc' hd' (by decide) (hQ _ h' _ (by simp [Rep]) ⟨hit,h1⟩ fun a o ha e=>(hs.2 a (by simpa using ha)).trans e)
 done:=fun as s Q E st zz hQ=>by
  obtain⟨h0,h1⟩:=st;refine wpAny_pyNext_ascii_end hh h0 (by simp) fun h' he=>hQ h' s.toks fun a o ha e=>he a o (by simpa using ha) e
 self:=fun zz zz zz zz zz st hQ=>wpAny_pyIter_striter_ascii st.1 hQ
theorem Wk.strW(hh:A.handled=.none)(ht:b6t tg=true)(I:Addr)(x:List Nat)(t:Tok)(hf:h₀.get? I=.none/\base.get? I=.none) :
  Wk prog w A base h₀ tg (.ref I) [I] (x.map fun c=>.str [c]) (fun i as h=>h.IsStrIter I "str_iterator" ⟨x.toArray⟩ t i/\I∉as.flatten) (fun zz zz=>True) where
 fresh:=fun a ha=>by rw [List.mem_singleton]at ha;subst ha;exact hf
 off:=fun i as h st a ha=>by
  rw [List.mem_singleton]at ha;subst ha;obtain⟨o,ho,hc,hd⟩:=st.1;exact⟨st.2,o,ho,fun zz zz q=>by rw [hd]at q;cases q⟩
 stay:=fun i as h as' h' st g=>by
  obtain⟨⟨o,ho,hc,hd⟩,h1⟩:=st;exact⟨⟨o,g.keep I o h1 ho (.inl (by simp)),hc,hd⟩,g.off ho h1⟩
 item:=fun i as s Q E y hx zz st zz hQ=>by
  obtain⟨h0,h1⟩:=st;simp only [List.getElem?_map,Option.map_eq_some_iff]at hx;obtain⟨c,hc,rfl⟩:=hx;refine wpAny_pyNext_wide_item h0 (c:=c) (by simpa using hc) fun h' hit hs=>?_;obtain⟨o',ho',hc',hd'⟩:=id hit;exact a1m ht ho' hc' hd' (by decide) (hQ _ h' _ (by simp [Rep]) ⟨hit,h1⟩ fun a o ha e=>(hs.2 a (by simpa using ha)).trans e)
 done:=fun as s Q E st zz hQ=>by
  obtain⟨h0,h1⟩:=st;refine wpAny_pyNext_wide_end hh h0 (by simp) fun h' he=>hQ h' s.toks fun a o ha e=>he a o (by simpa using ha) e
 self:=fun zz zz zz zz zz st hQ=>wpAny_pyIter_striter_wide st.1 hQ
theorem Wk.range(hh:A.handled=.none)(ht:b6t tg=true)(I:Addr)(a b c:Int)(hf:h₀.get? I=.none/\base.get? I=.none) :
  Wk prog w A base h₀ tg (.ref I) [I] (a0p a b c) (fun i as h=>IsRangeIter h I (a+(i:Int) * c) (Builtin.Range.rangeSize a b c-i) c/\I∉as.flatten/\i<=(Builtin.Range.rangeSize a b c).toNat) (fun zz zz=>True) where
 fresh:=fun a ha=>by rw [List.mem_singleton]at ha;subst ha;exact hf
 off:=fun i as h st a ha=>by
  rw [List.mem_singleton]at ha;subst ha;exact⟨st.2.1,_,st.1,fun zz zz q=>by cases q⟩
 stay:=fun i as h as' h' st g=>⟨g.keep I _ st.2.1 st.1 (.inl (by simp)),g.off st.1 st.2.1,st.2.2⟩
 item:=fun i as s Q E y hx zz st zz hQ=>by
  obtain⟨h0,h1,h2⟩:=st;refine a1e (List.getElem?_map.symm.trans hx) fun j hj e=>?_;subst e;obtain⟨hlt,e⟩:=List.getElem?_eq_some_iff.mp hj;rw [List.getElem_range]at e;subst e;rw [List.length_range]at hlt;refine wpAny_pyNext_range_item h0 (by omega) fun h' hit hs=>?_;refine a1m (n:="range_iterator") ht hit rfl rfl (by decide) (hQ _ h' _ (by simp [Rep]) ⟨?_,h1,by omega⟩ fun a o ha e=>(hs.2 a (by simpa using ha)).trans e)
  have e1:a+((i+1:Nat):Int) * c=a+(i:Int) * c+c:=by
   rw [Int.natCast_add,Int.add_mul];simp;omega
  have e2:Builtin.Range.rangeSize a b c-((i+1:Nat):Int)=Builtin.Range.rangeSize a b c-i-1:=by omega
  rw [e1,e2];exact hit
 done:=fun as s Q E st zz hQ=>by
  obtain⟨h0,h1,h2⟩:=st;have hl:(a0p a b c).length=(Builtin.Range.rangeSize a b c).toNat:=(List.length_map _).trans List.length_range;rw [hl]at h0 h2;refine wpAny_pyNext_range_end hh h0 (by omega) fun h' he=>hQ h' s.toks fun a o ha e=>he a o (by simpa using ha) e
 self:=fun zz zz zz zz zz st hQ=>wpAny_pyIter_rangeiter st.1 hQ
end
end
section
section
variable{prog:Program}{w:World}{A:Around}{base h₀:Heap}{as:List (List Addr)}
theorem c2o{l:List V}{i:Nat}{y:V}(h:(l.zipIdx.map fun p=>V.tup [.int (p.2:Int),p.1])[i]?=some y):∃ x,l[i]?=some x/\y=.tup [.int (i:Int),x]:=by
 rw [List.getElem?_map,Option.map_eq_some_iff]at h;obtain⟨p,hp,rfl⟩:=h;rw [List.getElem?_zipIdx,Option.map_eq_some_iff]at hp;obtain⟨x,hx,rfl⟩:=hp;exact⟨x,hx,by simp⟩
theorem Wk.enum0{elts:List Expr}{k:Nat}{pos:Pos}(hh:A.handled=.none)(e I ax:Addr)(l:List V)(vals:List Value)(hf:h₀.get? I=.none/\base.get? I=.none)(hf':h₀.get? e=.none/\base.get? e=.none)(hne:e≠I) :
  Wk prog w A base h₀ (.Tuple elts k pos) (.ref e) [e,I] (l.zipIdx.map fun p=>V.tup [.int (p.2:Int),p.1])
   (fun i as h=>(∃ old,IsEnum h e I i old)/\h.IsListIter I ax i/\e∉as.flatten/\I∉as.flatten/\ax∉as.flatten/\h.PlainList ax vals.toArray/\Reps h as l vals) (fun zz zz=>True) where
 fresh:=fun a ha=>by
  rcases List.mem_cons.mp ha with rfl | ha
  ·exact hf'
  ·rw [List.mem_singleton]at ha;subst ha;exact hf
 off:=fun i as h st a ha=>by
  obtain⟨⟨old,he⟩,⟨o,ho,hc,hd⟩,h1,h2,_⟩:=st;rcases List.mem_cons.mp ha with rfl | ha
  ·exact⟨h1,_,he,fun zz zz q=>by cases q⟩
  ·rw [List.mem_singleton]at ha;subst ha
   exact⟨h2,o,ho,fun zz zz q=>by rw [hd]at q;cases q⟩
 stay:=fun i as h as' h' st g=>by
  obtain⟨⟨old,he⟩,⟨o,ho,hc,hd⟩,h1,h2,h3,⟨n,h4⟩,h5⟩:=st;exact⟨⟨old,g.keep e _ h1 he (.inl (by simp))⟩,⟨o,g.keep I o h2 ho (.inl (by simp)),hc,hd⟩,g.off he h1,g.off ho h2,g.off h4 h3,⟨n,g.keep ax _ h3 h4 (.inr ⟨_,_,rfl⟩)⟩,h5.sf g⟩
 item:=fun i as s Q E y hx al st zz hQ=>by
  refine e5e fun G0 hG=>?_;obtain⟨⟨old,he⟩,hi,h1,h2,h3,h4,h5⟩:=st;obtain⟨x,hx',rfl⟩:=c2o hx;obtain⟨u,hu,ru⟩:=h5.get i hx';obtain⟨o,ho,hc,hd⟩:=id hi;obtain⟨n,hn⟩:=id h4;have ne1:ax≠I:=fun q=>by rw [q,ho]at hn;cases hn;cases hd
  have ne2:ax≠e:=fun q=>by
   rw [q,he]at hn;have:=congrArg Obj.data (Option.some.inj hn);cases this
  refine hG (wpAny_pyNext_enum_item he hi h4.isList (x:=u) (by simpa using hu) hne fun h' ho' hi' hnew hsz hk=>?_);refine wpAny_letOwnedTupleGo_enum ho' fun h'' he'' hs=>?_;have szne:s.heap.objs.size≠e:=Nat.ne_of_gt (Heap.lt_size he);have mv1:Mv [e,I] s.heap h':=fun a o ha q=>by
   simp only [List.mem_cons,List.not_mem_nil,or_false,not_or]at ha;exact hk a o ha.1 ha.2 q
  have mv2:∀ a o,a≠e->h'.get? a=some o->h''.get? a=some o:=fun a o ha q=>(hs.2 a ha).trans q;have mv:Mv [e,I] s.heap h'':=fun a o ha q=>by
   have:=mv1 a o ha q;simp only [List.mem_cons,List.not_mem_nil,or_false,not_or]at ha;exact mv2 a o ha.1 this
  have ks:Ks as s.heap h'':=fun a o _ q ⟨xs,n,hq⟩=>by
   refine mv a o (fun hm=>?_) q;simp only [List.mem_cons,List.not_mem_nil,or_false]at hm;rcases hm with rfl | rfl
   ·rw [he]at q;cases q;cases hq
   ·rw [ho]at q;cases q;rw [hd]at hq;cases hq
  refine hQ _ h'' _ ?_ ⟨⟨u,?_⟩,?_,h1,h2,h3,?_,h5.ks ks⟩ mv
  ·refine⟨_,[.int i s.toks,u],rfl,fun hm=>?_,⟨_,mv2 _ _ szne hnew,rfl,_,rfl⟩,_,_,rfl,⟨_,rfl⟩,_,_,rfl,ru.ks ks,rfl⟩
   obtain⟨o',q⟩:=al _ hm;exact absurd (Heap.lt_size q) (Nat.lt_irrefl _)
  ·exact he''
  ·obtain⟨o2,ho2,r⟩:=hi'
   exact⟨o2,mv2 _ _ (Ne.symm hne) ho2,r⟩
  ·exact⟨n,mv ax _ (by simp [ne1,ne2]) hn⟩
 done:=fun as s Q E st zz hQ=>by
  obtain⟨⟨old,he⟩,hi,h1,h2,h3,h4,h5⟩:=st;have hl:(l.zipIdx.map fun p=>V.tup [.int (p.2:Int),p.1]).length=l.length:=by simp
  rw [hl]at he hi;refine wpAny_pyNext_enum_end hh he hi h4.isList (by simp [h5.length]) fun h' he'=>hQ h' s.toks fun a o ha q=>he' a o (fun hm=>ha (by simp [hm])) q
 self:=fun zz zz zz zz zz st hQ=>let⟨⟨_,he⟩,_⟩:=st;wpAny_pyIter_enum he hQ
theorem Wk.enum{tg:Expr}(hh:A.handled=.none)(ht:d9r tg=true)(e I ax:Addr)(l:List V)(vals:List Value)(hf:h₀.get? I=.none/\base.get? I=.none)(hf':h₀.get? e=.none/\base.get? e=.none)(hne:e≠I) :
  Wk prog w A base h₀ tg (.ref e) [e,I] (l.zipIdx.map fun p=>V.tup [.int (p.2:Int),p.1])
   (fun i as h=>(∃ old,IsEnum h e I i old)/\h.IsListIter I ax i/\e∉as.flatten/\I∉as.flatten/\ax∉as.flatten/\h.PlainList ax vals.toArray/\Reps h as l vals) (fun zz zz=>True):=by
 induction tg using PySem.Expr.casesOn with
 | Tuple elts k pos=>exact Wk.enum0 hh e I ax l vals hf hf' hne
 | _=>exact nt ht
end
end
section
theorem lk_self{l:Rho}{i:Nat}{v:V}:((i,v)::l).lookup i=some v:=by rw [List.lookup_cons,beq_self_eq_true]
theorem c9o{l:Rho}{i j:Nat}{v:V}(h:¬j=i):((i,v)::l).lookup j=l.lookup j:=by rw [List.lookup_cons,beq_false_of_ne h]
theorem a0b(i:Nat)(v:V):∀(ρ:Rho) (j:Nat),(put i v ρ).lookup j=if j=i then some v else ρ.lookup j:=by
 intro z_;induction z_ with
 | nil=>
  intro j;by_cases h:j=i
  ·subst h;rw [if_pos rfl];exact lk_self
  ·rw [if_neg h];exact c9o h
 | cons z1_ r ih=>
  obtain⟨a,b⟩:=z1_;intro j;by_cases h:a=i
  ·have e:put i v ((a,b)::r)=(i,v)::r:=if_pos (beq_iff_eq.mpr h)
   rw [e];subst h;by_cases hj:j=a
   ·subst hj;rw [if_pos rfl];exact lk_self
   ·rw [if_neg hj,c9o hj,c9o hj]
  ·have e:put i v ((a,b)::r)=(a,b)::put i v r:=if_neg (fun q=>h (beq_iff_eq.mp q))
   rw [e];by_cases hj:j=a
   ·subst hj;rw [if_neg h];exact lk_self.trans lk_self.symm
   ·rw [c9o hj,c9o hj,ih j]
noncomputable def Wf(tbl:List Str)(env:Env)(a:Addr):Prop:=a=env.locals∨∃(i:Nat) (x:Str),tbl[i]?=some x/\(env.kindOf x=some .cell∨env.kindOf x=some .free)/\env.cells.lookup x=some a
structure GoS(W:Addr->Prop)(as:List (List Addr))(h:Heap)(as':List (List Addr))(h':Heap):Prop where
 ext:∃ nw,as'=as++nw/\∀ a∈nw.flatten,h.get? a=.none
 keep:∀ a o,a∉as.tail.flatten->¬ W a->h.get? a=some o->h'.get? a=some o
 alive:∀ a∈as'.flatten,∃ o,h'.get? a=some o
theorem Go.toS{W as h as' h'}(g:Go as h as' h'):GoS W as h as' h':=⟨g.ext,fun a o ha zz e=>g.keep a o ha e,g.alive⟩
theorem GoS.sub{W as h as' h'}(g:GoS W as h as' h'){a:Addr}(ha:a∈as.flatten):a∈as'.flatten:=by
 obtain⟨nw,rfl,_⟩:=g.ext;rw [List.flatten_append];exact List.mem_append_left _ ha
theorem GoS.off{W as h as' h'}(g:GoS W as h as' h'){a:Addr}{o:Obj}(e:h.get? a=some o)(ha:a∉as.flatten):a∉as'.flatten:=by
 obtain⟨nw,rfl,hn⟩:=g.ext;rw [List.flatten_append];intro hm;rcases List.mem_append.mp hm with hm | hm
 ·exact ha hm
 ·rw [hn a hm]at e;exact ns e
theorem GoS.trans{W as asI asJ h hY hJ}(x:GoS W as h asI hY)(y:GoS W asI hY asJ hJ)(hw:∀ a,W a->∃ o,hY.get? a=some o):GoS W as h asJ hJ:=by
 refine⟨?_,fun a o ha hf e=>y.keep a o (fun q=>?_) hf (x.keep a o ha hf e),y.alive⟩
 rotate_left
 ·obtain⟨n1,rfl,h1⟩:=x.ext
  rcases b3v q with q | q
  ·exact ha q
  ·rw [h1 a q]at e;exact ns e
 have xs:=@GoS.sub _ _ _ _ _ x;have xa:=x.alive;have xk:=x.keep;obtain⟨n1,rfl,h1⟩:=x.ext;obtain⟨n2,rfl,h2⟩:=y.ext;refine⟨n1++n2,by simp,fun a ha=>?_⟩;rw [List.flatten_append]at ha;rcases List.mem_append.mp ha with ha | ha
 ·exact h1 a ha
 ·induction q:h.get? a using Option.casesOn with
  | none=>rfl
  | some o=>
   exfalso;by_cases m:a∈as.flatten
   ·obtain⟨o',e'⟩:=xa a (xs m)
    rw [h2 a ha]at e';exact ns e'
   ·by_cases hf:W a
    ·obtain⟨o',e'⟩:=hw a hf
     rw [h2 a ha]at e';exact ns e'
    ·have:=xk a o (fun z=>m (a5f z)) hf q
     rw [h2 a ha]at this;exact ns this
section
variable{Lx:LxP}{base:Heap}{μ:Mu}{as:List (List Addr)}{h h':Heap}{tbl:List Str}{env:Env}{ρ:Rho}
theorem ER.held(e:ER tbl base env ρ as h){a:Addr}(hw:Wf tbl env a):a∉as.flatten/\base.get? a=.none/\∃ o,h.get? a=some o/\∀ xs n,o.data≠.seq xs n:=by
 rcases hw with rfl | ⟨i,x,h1,h2,h3⟩
 ·obtain⟨m,hn,_⟩:=e.loc
  exact⟨e.off.1,e.off.2,Ns.get hn⟩
 ·obtain⟨c,u,h4,h5,h6,⟨o,ho,hd⟩,_⟩:=e.cel i x h1 h2
  rw [h3]at h4;obtain rfl:=Option.some.inj h4;exact⟨h5,h6,o,ho,fun zz zz q=>by rw [hd]at q;cases q⟩
theorem ER.foreign(e:ER tbl base env ρ as h){a:Addr}(hw:Wf tbl env a):Foreign as h a:=by
 obtain⟨h1,_,o,ho,hk⟩:=e.held hw;exact⟨h1,fun o' e'=>by rw [ho]at e';obtain rfl:=Option.some.inj e';exact hk⟩
theorem ER.congr{ρ':Rho}(e:ER tbl base env ρ as h)(hq:∀ i,ρ'.lookup i=ρ.lookup i):ER tbl base env ρ' as h:=
 ⟨e.kind,e.glob,e.bns,let⟨m,h1,h2⟩:=e.loc;⟨m,h1,fun i x v a b c=>h2 i x v a b (by rw [← hq];exact c)⟩,e.off,fun i x a b=>let⟨c,u,h1,h2,h3,h4,h5⟩:=e.cel i x a b;⟨c,u,h1,h2,h3,h4,fun v hv=>h5 v (by rw [← hq];exact hv)⟩,e.inj⟩
theorem GoS.sf{W:Addr->Prop}{as' own}(g:GoS W as h as' h')(hk:∀ a,W a->∀ o,h.get? a=some o->∀ xs n,o.data≠.seq xs n)(ho:∀ a∈own,¬ W a):Sf own as h as' h':=
 ⟨fun a o e ha=>g.off e ha,fun k l e=>by obtain⟨nw,rfl,_⟩:=g.ext;rw [List.getElem?_append_left (List.getElem?_eq_some_iff.mp e).1];exact e,fun a o ha hq hk'=>g.keep a o (fun z=>ha (a5f z)) (fun hw=>by
  rcases hk' with hk' | ⟨xs,n,hk'⟩
  ·exact ho a hk' hw
  ·exact hk a hw o hq xs n hk') hq⟩
theorem ER.wk(e:ER tbl base env ρ as h):∀ a,Wf tbl env a->∀ o,h.get? a=some o->∀ xs n,o.data≠.seq xs n:=fun a hw o ho=>by
 obtain⟨_,_,o',e',hd⟩:=e.held hw;rw [ho]at e';obtain rfl:=Option.some.inj e';exact hd
noncomputable def InW(W:Addr->Prop)(env:Env)(x:Str):Prop:=a1g env.scope x=true/\(env.kindOf x=some .local->W env.locals)/\(∀ c,env.kindOf x=some .cell->env.cells.lookup x=some c->W c)
theorem c0k{a:Addr}(f:Foreign as h a)(hs:Heap.SameBut a h h'):Ks as h h':=f.ks fun b zz hb q=>(hs.2 b hb).trans q
theorem a7n{sc:Scope}{x:Str}(h:a1g sc x=true):sc.names.lookup x=some .local∨sc.names.lookup x=some .cell:=by
 unfold a1g at h;induction q:a2e sc x using Option.casesOn with
 | none=>rw [q]at h;exact nt h
 | some k=>
  rw [q]at h;cases k with
  | «local»=>exact .inl q
  | cell=>exact .inr q
  | _=>exact nt h
theorem b4w{prog:Program}{w:World}{A:Around}{E:Value->Shared->Prop}{s:Shared}{Q:Unit->Shared->Prop}{i:Nat}{x:Str}{u:V}{v:Value}
  (nd:∀(i j:Nat) (x:Str),tbl[i]?=some x->tbl[j]?=some x->i=j) (hx:tbl[i]?=some x) {W:Addr->Prop} (hW:InW W env x) (er:ER tbl base env ρ as s.heap) (gr:GR Lx base μ as s.heap) (ru:Rep s.heap as u v)
  (hQ:∀ h' tk,GR Lx base μ as h'->ER tbl base env (put i u ρ) as h'->GoS W as s.heap as h'->Ks as s.heap h'->Q () { s with heap:=h',toks:=tk}) :
  wpAny (model prog w) A (storeName env x v) Q E s:=by
 obtain⟨ho,hWl,hWc⟩:=hW;have goS:∀(a:Addr) (h':Heap),W a->Wf tbl env a->Heap.SameBut a s.heap h'->GoS W as s.heap as h':=fun a h' hwa hw hs=>
  ⟨⟨[],by simp,by simp⟩,fun b o zz hb q=>(hs.2 b (fun e=>hb (e▸hwa))).trans q,fun b hb=>by
   obtain⟨o,e⟩:=gr.alive b hb;exact⟨o,(hs.2 b (fun q=>(er.held hw).1 (q▸hb))).trans e⟩⟩
 obtain⟨m,hn,hl⟩:=er.loc;rcases a7n ho with hk | hk
 ·replace hk:env.kindOf x=_:=hk
  refine wpAny_storeName_local hk hn (fun h' hn' hs=>?_) (by rw [er.kind];rfl);have hw:Wf tbl env env.locals:=.inl rfl;have ks:=c0k (er.foreign hw) hs;refine hQ h' _ (gr.mod (er.foreign hw) (er.held hw).2.1 fun a o ha q=>(hs.2 a ha).trans q) ?_ (goS _ _ (hWl hk) hw hs) ks;refine⟨er.kind,er.glob,er.bns,⟨_,hn',fun j y z h1 h2 h3=>?_⟩,er.off,fun j y h1 h2=>?_,er.inj⟩
  ·rw [a0b]at h3
   by_cases hj:j=i
   ·subst hj
    rw [hx]at h1;obtain rfl:=Option.some.inj h1;rw [if_pos rfl]at h3;cases h3;exact⟨v,if_pos rfl,ru.ks ks⟩
   ·rw [if_neg hj]at h3
    have hne:y≠x:=fun q=>hj (nd j i x (q▸h1) hx);obtain⟨u',h4,h5⟩:=hl j y z h1 h2 h3;exact⟨u',by rw [if_neg hne];exact h4,h5.ks ks⟩
  ·obtain⟨c,u',h3,h4,h5,⟨oc,hoc,hdc⟩,h7⟩:=er.cel j y h1 h2
   have hcl:c≠env.locals:=fun q=>by
    obtain⟨o,es,ep,e1,e2,_⟩:=hn;rw [q,e1]at hoc;cases hoc;rw [e2]at hdc;cases hdc
   refine⟨c,u',h3,h4,h5,⟨oc,(hs.2 c hcl).trans hoc,hdc⟩,fun z hz=>?_⟩;rw [a0b]at hz;by_cases hj:j=i
   ·subst hj
    rw [hx]at h1;cases h1;rcases h2 with h2 | h2<;>cases hk.symm.trans h2
   ·rw [if_neg hj]at hz
    obtain⟨u'',h8,h9⟩:=h7 z hz;exact⟨u'',h8,h9.ks ks⟩
 ·replace hk:env.kindOf x=_:=hk
  obtain⟨c,u',h3,h4,h5,hic,h7⟩:=er.cel i x hx (.inl hk);refine wpAny_storeName_cell er.kind hk h3 hic fun h' hic' hs=>?_;have hw:Wf tbl env c:=.inr ⟨i,x,hx,.inl hk,h3⟩;have ks:=c0k (er.foreign hw) hs;have hlc:env.locals≠c:=fun q=>by
   obtain⟨o,es,ep,e1,e2,_⟩:=hn;obtain⟨oc,hoc,hdc⟩:=hic;rw [← q,e1]at hoc;cases hoc;rw [e2]at hdc;cases hdc
  refine hQ h' s.toks (gr.mod (er.foreign hw) (er.held hw).2.1 fun a o ha q=>(hs.2 a ha).trans q) ?_ (goS _ _ (hWc c hk h3) hw hs) ks;refine⟨er.kind,er.glob,er.bns,⟨m,hn.sameBut hs hlc,fun j y z h1 h2 h3'=>?_⟩,er.off,fun j y h1 h2=>?_,er.inj⟩
  ·rw [a0b]at h3'
   by_cases hj:j=i
   ·subst hj
    rw [hx]at h1;obtain rfl:=Option.some.inj h1;cases hk.symm.trans h2
   ·rw [if_neg hj]at h3'
    obtain⟨u'',h8,h9⟩:=hl j y z h1 h2 h3';exact⟨u'',h8,h9.ks ks⟩
  ·by_cases hj:j=i
   ·subst hj
    rw [hx]at h1;obtain rfl:=Option.some.inj h1;refine⟨c,some v,h3,h4,h5,hic',fun z hz=>?_⟩;rw [a0b,if_pos rfl]at hz;obtain rfl:=Option.some.inj hz;exact⟨v,rfl,ru.ks ks⟩
   ·obtain⟨c',u'',g3,g4,g5,⟨oc,hoc,hdc⟩,g7⟩:=er.cel j y h1 h2
    have hcc:c'≠c:=fun q=>by
     subst q;have:=er.inj y x c' g3 h3;subst this;exact hj (nd j i y h1 hx)
    refine⟨c',u'',g3,g4,g5,⟨oc,(hs.2 c' hcc).trans hoc,hdc⟩,fun z hz=>?_⟩;rw [a0b,if_neg hj]at hz;obtain⟨z',g8,g9⟩:=g7 z hz;exact⟨z',g8,g9.ks ks⟩
end
end
section
section
variable{Lx:LxP}{base:Heap}{μ:Mu}{as:List (List Addr)}{h h':Heap}{tbl:List Str}{env:Env}{ρ:Rho}{prog:Program}{w:World}{A:Around}{E:Value->Shared->Prop}{s:Shared}{Q:Unit->Shared->Prop}
theorem GR.all(g:GR Lx base μ as h)(k:∀ a o,a≠h.objs.size->h.get? a=some o->h'.get? a=some o):GR Lx base μ as h'/\Go as h as h':=by
 refine⟨g.mod (I:=h.objs.size) ⟨g.top_off,fun o e=>by rw [a0y]at e;exact ns e⟩ g.top_base k,?_⟩;exact⟨⟨[],by simp,by simp⟩,fun a o zz e=>k a o (fun q=>by rw [q,a0y]at e;exact ns e) e,fun a ha=>by
  obtain⟨o,e⟩:=g.alive a ha;exact⟨o,k a o (fun q=>by rw [q,a0y]at e;exact ns e) e⟩⟩
theorem Go.ks{as'}(g:Go as h as' h'):Ks as h h':=fun a o ha e zz=>g.at ha e
theorem GoS.refl{W:Addr->Prop}(g:GR Lx base μ as h):GoS W as h as h:=g.go.toS
noncomputable def c8f(Lx:LxP)(base:Heap)(tbl:List Str)(env:Env)(W:Addr->Prop)(as:List (List Addr))(s:Shared)(ρ:Rho)(μ:Mu)(Q:Unit->Shared->Prop):Prop:=
 ∀ h' tk,GR Lx base μ as h'->ER tbl base env ρ as h'->GoS W as s.heap as h'->Ks as s.heap h'->Q () { s with heap:=h',toks:=tk}
theorem b0k{hY hJ h₃:Heap}(x:Ks as hY hJ)(y:Ks as hJ h₃):Ks as hY h₃:=fun a o ha e hk=>y a o ha (x a o ha e hk) hk
theorem b1h{tbl:List Str}{sc:Scope}{e:Expr}{i:Nat}{G:Prop}(h:a9r tbl sc e=some i)(k:∀ x p,e=.Name x p->a1g sc x=true->nid tbl x=some i->G):G:=by
 induction e using PySem.Expr.casesOn with
 | Name x p=>exact ifS h fun hx h=>k x p rfl hx h
 | _=>exact ns h
theorem b3l{W:Addr->Prop}{sc:Scope}(hW:∀ x,a1g sc x=true->InW W env x)(ha:∀ a,W a->Wf tbl env a)(nd:∀(i j:Nat) (x:Str),tbl[i]?=some x->tbl[j]?=some x->i=j):∀(elts:List Expr) (is:List Nat) (l:List V) (vals:List Value) (ρ:Rho) (s:Shared),
  a1k (a9r tbl sc) elts=some is->is.length=l.length->ER tbl base env ρ as s.heap->GR Lx base μ as s.heap->Reps s.heap as l vals →
  c8f Lx base tbl env W as s ((is.zip l).foldl (fun ρ p=>put p.1 p.2 ρ) ρ) μ Q->wpAny (model prog w) A (assignInOrder ((assignEach elts env).map (·.2)) vals) Q E s:=by
 intro z_;induction z_ with
 | nil=>
  intro is l vals ρ s e hl er gr rl hQ;obtain rfl:=Option.some.inj e;induction l using List.casesOn with
  | cons a r=>cases hl
  | nil=>
   cases rl;exact wpAny_assignInOrder_none (hQ s.heap s.toks gr er (GoS.refl gr) fun zz zz zz e zz=>e)
 | cons t ts ih=>
  intro is l vals ρ s e hl er gr rl hQ;refine a0g e fun i js e1 e2 e=>?_;induction l using List.casesOn with
  | nil=>subst e;cases hl
  | cons u l=>
   refine b1h e1 fun x p ht hx hi=>?_;subst e ht;obtain⟨v,vr,rfl,ru,rl⟩:=rl;refine wpAny_assignInOrder_more (wpAny_assign_Name (b4w nd (a0o hi) (hW x hx) er gr ru fun h' tk gr' er' go' ks'=>?_));refine ih js l vr _ _ e2 (Nat.succ.inj hl) er' gr' (rl.ks ks') ?_;intro h'' tk' gr'' er'' go'' ks'';refine hQ h'' tk' gr'' er'' (go'.trans go'' fun a hq=>?_) (b0k ks' ks'');obtain⟨_,_,o,ho,_⟩:=er'.held (ha a hq);exact⟨o,ho⟩
theorem b9x:∀ elts:List Expr,(assignEach elts env).length=elts.length:=by
 intro z_;induction z_ with
 | nil=>
  exact rfl
 | cons e r ih=>
  cases e<;>exact congrArg Nat.succ (ih)
theorem a6r{α β:Type}{f:α->Option β}:∀ {l:List α} {r:List β},a1k f l=some r->r.length=l.length:=by
 intro z_;induction z_ with
 | nil=>
  intro r h;obtain rfl:=Option.some.inj h;rfl
 | cons _ _ ih=>
  intro _ h;exact a0g h fun zz zz zz h2 e=>e▸congrArg Nat.succ (ih h2)
theorem a8y{sc:Scope}:∀ {elts:List Expr} {is:List Nat},a1k (a9r tbl sc) elts=some is->(assignEach elts env).findIdx? (·.1)=.none
 | [],_,_=>rfl
 | e::r,is,h=>a0g h fun zz zz h1 h2 zz=>b1h h1 fun x p he zz zz=>by
  subst he;show(((false,assign (.Name x p) env):Bool×(Value->Sem Unit))::assignEach r env).findIdx? (·.1)=.none;rw [List.findIdx?_cons];simp [a8y h2]
theorem a6j{W:Addr->Prop}{sc:Scope}(hW:∀ x,a1g sc x=true->InW W env x)(hWf:∀ a,W a->Wf tbl env a){t:T}{tg:Expr}{u:V}{v:Value}{ρ':Rho}(nd:∀(i j:Nat) (x:Str),tbl[i]?=some x->tbl[j]?=some x->i=j)(ht:a1u tbl sc tg=some t)(hc:A.handled=.none)
  (hb:a3f t u ρ=some ρ') (er:ER tbl base env ρ as s.heap) (gr:GR Lx base μ as s.heap) (ru:Rep s.heap as u v)
  (hQ:c8f Lx base tbl env W as s ρ' μ Q):wpAny (model prog w) A (assign tg env v) Q E s:=by
 induction tg using PySem.Expr.casesOn with
 | Name x p=>
  refine ifS ht fun hx ht=>a1e ht fun i hi e=>?_;subst e;exact wpAny_assign_Name (b4w nd (a0o hi) (hW x hx) er gr ru (Option.some.inj hb▸hQ))
 | Tuple elts k p=>
  refine a1e ht fun is hi e=>?_;subst e;induction u using Mine.V.casesOn with
  | tup l=>
   refine ifS hb fun hl hb=>?_;have hQ:=Option.some.inj hb▸hQ;obtain⟨a,vs,rfl,ha,hT,hr⟩:=ru;have hl:is.length=l.length:=of_decide_eq_true hl;refine wpAny_assign_Tuple hc hT ?_ (a8y hi) fun h' he=>?_
   ·rw [b9x,List.size_toArray,hr.length,← hl,a6r hi]
   ·obtain⟨gr',go'⟩:=gr.all (h':=h') fun a o ha e=>he a o ha e
    have hr':=hr.go go';refine b3l (s:={ s with heap:=h',toks:=s.toks}) hW hWf nd elts is l vs ρ hi hl (er.go go') gr' hr' ?_;intro h'' tk gr'' er'' go'' ks'';refine hQ h'' tk gr'' er'' (go'.toS.trans go'' fun a hq=>?_) (b0k go'.ks ks'');obtain⟨_,_,o,ho,_⟩:=(er.go go').held (hWf a hq);exact⟨o,ho⟩
  | _=>exact ns hb
 | _=>exact ns ht
end
end
section
structure ScR(sc:Scope)(env:Env):Prop where
 var:∀ x,a5o sc x=true->a5o env.scope x=true
 glb:∀ x,a4q sc x=true->a4q env.scope x=true
 held:∀ x,a8k sc x=true->a8k env.scope x=true
theorem b3o{env:Env}{x:Str}(h:a5o env.scope x=true):env.kindOf x=some .local∨env.kindOf x=some .cell∨env.kindOf x=some .free:=by
 show a2e env.scope x=_∨a2e env.scope x=_∨a2e env.scope x=_;unfold a5o at h;induction q:a2e env.scope x using Option.casesOn with
 | none=>rw [q]at h;exact nt h
 | some k=>
  rw [q]at h;cases k with
  | «local»=>exact .inl rfl
  | cell=>exact .inr (.inl rfl)
  | free=>exact .inr (.inr rfl)
  | _=>exact nt h
theorem c3r{env:Env}{x:Str}(h:a4q env.scope x=true):env.kindOf x=some .globalImplicit:=by
 show a2e env.scope x=_;unfold a4q at h;induction q:a2e env.scope x using Option.casesOn with
 | none=>rw [q]at h;exact nt h
 | some k=>
  rw [q]at h;cases k with
  | globalImplicit=>rfl
  | _=>exact nt h
section
variable{prog:Program}{w:World}{Lx:LxP}{base:Heap}{Γ:G}
noncomputable def a7g(prog:Program)(w:World)(Lx:LxP)(base:Heap)(Γ:G)(n:Nat):Prop:=
 ∀(x:X) (k:Nat) (sc:Scope) (e:Expr),trE Γ.tbl k sc e=some x->∀(A:Around) (E:Value->Shared->Prop) (env:Env) (ρ:Rho) (μ:Mu) (as:List (List Addr)) (s:Shared) (r:V) (μ':Mu) (Q:Value->Shared->Prop),
  Room A n->ScR sc env->ER Γ.tbl base env ρ as s.heap->GR Lx base μ as s.heap->ev Γ n x ρ μ=some (r,μ')->Post Lx base as s r μ' Q->wpAny (model prog w) A (eval e env) Q E s
noncomputable def PostB(Lx:LxP)(base:Heap)(as:List (List Addr))(s:Shared)(b:Bool)(μ':Mu)(Q:Bool->Shared->Prop):Prop:=
 ∀(as':List (List Addr)) (h':Heap) (tk:Nat),GR Lx base μ' as' h'->Go as s.heap as' h'->Q b { s with heap:=h',toks:=tk}
noncomputable def a7f(prog:Program)(w:World)(Lx:LxP)(base:Heap)(Γ:G)(n:Nat):Prop:=
 ∀(x:X) (k:Nat) (sc:Scope) (e:Expr),trE Γ.tbl k sc e=some x->∀(A:Around) (E:Value->Shared->Prop) (env:Env) (ρ:Rho) (μ:Mu) (as:List (List Addr)) (s:Shared) (r:V) (b:Bool) (μ':Mu) (Q:Bool->Shared->Prop),
  Room A n->ScR sc env->ER Γ.tbl base env ρ as s.heap->GR Lx base μ as s.heap->ev Γ n x ρ μ=some (r,μ')->a3a (a1n μ' r)=some b->PostB Lx base as s b μ' Q->wpAny (model prog w) A (isTrue e env (eval e env)) Q E s
theorem Room.less{A:Around}{n m:Nat}(h:Room A n)(hm:m<=n):Room A m:=⟨h.calm,by have:=h.depth;omega,by have:=h.units;omega⟩
variable{A:Around}{E:Value->Shared->Prop}{env:Env}{ρ:Rho}{as:List (List Addr)}{s:Shared}{sc:Scope}
theorem a0u{n k:Nat}{x:X}{e:Expr}{μ μ₁:Mu}{u:V}{Q:Value->Shared->Prop}(H:a7g prog w Lx base Γ n)(t:trE Γ.tbl k sc e=some x)(rm:Room A n)(c:ScR sc env)(er:ER Γ.tbl base env ρ as s.heap)(gr:GR Lx base μ as s.heap)
  (h:ev Γ n x ρ μ=some (u,μ₁))
  (K:∀(v:Value) (asI:List (List Addr)) (hY:Heap) (tk:Nat),GR Lx base μ₁ asI hY->ER Γ.tbl base env ρ asI hY->Go as s.heap asI hY->Rep hY asI u v->Q v { s with heap:=hY,toks:=tk}) :
  wpAny (model prog w) A (eval e env) Q E s:=
 H x k sc e t A E env ρ μ as s u μ₁ Q rm c er gr h fun v asI hY tk g go r=>K v asI hY tk g (er.go go) go r
theorem Post.after{asI:List (List Addr)}{hY:Heap}{tk:Nat}{r:V}{μ:Mu}{Q:Value->Shared->Prop}(hQ:Post Lx base as s r μ Q)(go:Go as s.heap asI hY):Post Lx base asI { s with heap:=hY,toks:=tk} r μ Q:=
 fun v as' h' tk' g go' rv=>hQ v as' h' tk' g (go.trans go') rv
theorem PostB.after{asI:List (List Addr)}{hY:Heap}{tk:Nat}{b:Bool}{μ:Mu}{Q:Bool->Shared->Prop}(hQ:PostB Lx base as s b μ Q)(go:Go as s.heap asI hY):PostB Lx base asI { s with heap:=hY,toks:=tk} b μ Q:=
 fun as' h' tk' g go'=>hQ as' h' tk' g (go.trans go')
theorem d5q{f:X->Mu->Option (V×Mu)}{x:X}{r:List X}{μ μ':Mu}{vs:List V}{G:Prop}(h:evs f (x::r) μ=some (vs,μ'))(k:∀ v μ₁ vr μ₂,f x μ=some (v,μ₁)->evs f r μ₁=some (vr,μ₂)->v::vr=vs->μ₂=μ'->G):G:=
 a7c h fun v μ₁ h1 h=>c4q h fun vr μ₂ h2 h=>sp h fun e1 e2=>k v μ₁ vr μ₂ h1 h2 e1 e2
theorem a1b{e:Expr}{rest:List Expr}(h:a1v e=true):starEach (e::rest) env=(false,eval e env)::starEach rest env:=by
 induction e using PySem.Expr.casesOn<;>first | rfl | exact nt h
theorem c1q{n k:Nat}(H:a7g prog w Lx base Γ n)(rm:Room A n)(c:ScR sc env)(pos:Pos):∀(elts:List Expr) (xs:List X) (μ μ':Mu) (vs:List V) (as:List (List Addr)) (s:Shared) (Q:List Value->Shared->Prop),
  elts.all a1v=true->a1k (trE Γ.tbl k sc) elts=some xs->ER Γ.tbl base env ρ as s.heap->GR Lx base μ as s.heap->evs (fun x μ=>ev Γ n x ρ μ) xs μ=some (vs,μ') →
  (∀(vals:List Value) (as':List (List Addr)) (h':Heap) (tk:Nat),GR Lx base μ' as' h'->Go as s.heap as' h'->Reps h' as' vs vals->Q vals { s with heap:=h',toks:=tk}) →
  wpAny (model prog w) A (spliced (backTo pos (starEach elts env))) Q E s:=by
 intro z_;induction z_ with
 | nil=>
  intro xs μ μ' vs as s Q _ t er gr h hQ;obtain rfl:=Option.some.inj t;cases h;exact wpAny_items_nil (hQ [] as s.heap s.toks gr gr.go .nil)
 | cons e r ih=>
  intro xs μ μ' vs as s Q hp t er gr h hQ;refine a0g t fun x xr t1 t2 t=>?_;subst t;refine d5q h fun v μ₁ vr μ₂ h1 h2 h3 h4=>?_;subst h3 h4;refine wpAny_items_cons (a0u H t1 rm c er gr h1 fun a asI hY tk gI erI goI ra=>?_) (a1b (a0e hp));refine ih xr μ₁ _ vr asI _ _ (a0n hp) t2 erI gI h2 fun vals asJ hJ tkJ gJ goJ rv=>?_;exact hQ (a::vals) asJ hJ tkJ gJ (goI.trans goJ) (.cons (ra.go goJ) rv)
end
end
section
section
variable{prog:Program}{w:World}{Lx:LxP}{base:Heap}{Γ:G}
variable{A:Around}{E:Value->Shared->Prop}{env:Env}{ρ:Rho}{as:List (List Addr)}{s:Shared}{sc:Scope}
theorem evx{y x:X}{μ:Mu}{n:Nat}{q:V×Mu}(e:y=x)(h:ev Γ n x ρ μ=some q):ev Γ n y ρ μ=some q:=e▸h
theorem spQ{μ μ':Mu}{a r:V}{Q:Value->Shared->Prop}(h:some (a,μ)=some (r,μ'))(hQ:Post Lx base as s r μ' Q):Post Lx base as s a μ Q:=by cases h;exact hQ
theorem d5m{α:Type}{f:α->V}{x:Option α}{μ μ':Mu}{r:V}{Q:Value->Shared->Prop}{G:Prop}(h:x.map (fun a=>(f a,μ))=some (r,μ'))(hQ:Post Lx base as s r μ' Q)(k:∀ a,x=some a->Post Lx base as s (f a) μ Q->G):G:=by
 induction x using Option.casesOn with
 | none=>exact ns h
 | some a=>exact k a rfl (spQ h hQ)
theorem e3b{c:Const}{kk:Nat}{pos:Pos}{v:V}{μ:Mu}{Q:Value->Shared->Prop}(t:e3l c=some v)(gr:GR Lx base μ as s.heap)(hQ:Post Lx base as s v μ Q):wpAny (model prog w) A (eval (.Constant c kk pos) env) Q E s:=by
 cases c with
 | none=>exact wpAny_Constant_none ((hQ.eq t).now gr rfl)
 | bool _=>exact wpAny_Constant_bool ((hQ.eq t).now gr rfl)
 | int _=>exact wpAny_Constant_int ((hQ.eq t).now gr ⟨_,rfl⟩)
 | float _=>exact wpAny_Constant_float ((hQ.eq t).now gr ⟨_,rfl⟩)
 | str _=>exact wpAny_Constant_str ((hQ.eq t).now gr ⟨_,rfl⟩)
 | _=>exact ns t
theorem e0r {x:Str} {pos:Pos} {i:Nat} {v:V} {μ:Mu} {Q:Value->Shared->Prop} (hd:(x==("__debug__":Str)||x==("__classdict__":Str))=false) (hv:a5o sc x=true) (hi:nid Γ.tbl x=some i) (c:ScR sc env) (er:ER Γ.tbl base env ρ as s.heap) (gr:GR Lx base μ as s.heap)
  (h:ρ.lookup i=some v) (hQ:Post Lx base as s v μ Q):wpAny (model prog w) A (eval (.Name x pos) env) Q E s:=by
 rw [Bool.or_eq_false_iff]at hd;refine wpAny_Name ?_ hd.1;have hx:=a0o hi;rcases b3o (c.var x hv)with hk | hk | hk
 ·obtain⟨m,hn,hl⟩:=er.loc
  obtain⟨u,h1,h2⟩:=hl i x v hx hk h;exact wpAny_loadName_local er.kind hk hn h1 (hQ.now gr h2)
 ·obtain⟨cc,u,h3,_,_,h6,h7⟩:=er.cel i x hx (.inl hk)
  obtain⟨u',rfl,hr⟩:=h7 v h;exact wpAny_loadName_cell er.kind hk h3 h6 (hQ.now gr hr)
 ·obtain⟨cc,u,h3,_,_,h6,h7⟩:=er.cel i x hx (.inr hk)
  obtain⟨u',rfl,hr⟩:=h7 v h;exact wpAny_loadName_free er.kind hk h3 h6 (hQ.now gr hr) hd.2
theorem a2w {x:Str} {pos:Pos} {v:Value} {Q:Value->Shared->Prop} (hd:(x==("__debug__":Str))=false) (hv:a4q sc x=true) (c:ScR sc env) (er:ER Γ.tbl base env ρ as s.heap) {μ:Mu} (gr:GR Lx base μ as s.heap) (g:a1i prog w base x v)
  (hQ:Q v s):wpAny (model prog w) A (eval (.Name x pos) env) Q E s:=
 Name_function_global er.kind (c3r (c.glb x hv)) (g env A E s Q er.glob er.bns gr.keep hQ) hd
theorem b4q{n k:Nat}{x y:X}{e f:Expr}{μ μ₁ μ₂:Mu}{u v:V}(H:a7g prog w Lx base Γ n)(t1:trE Γ.tbl k sc e=some x)(t2:trE Γ.tbl k sc f=some y)(rm:Room A n)(c:ScR sc env)(er:ER Γ.tbl base env ρ as s.heap)(gr:GR Lx base μ as s.heap)
  (h1:ev Γ n x ρ μ=some (u,μ₁)) (h2:ev Γ n y ρ μ₁=some (v,μ₂)) {P:Value->Value->Shared->Prop}
  (K:∀(a b:Value) (asI:List (List Addr)) (hY:Heap) (tk:Nat),GR Lx base μ₂ asI hY->ER Γ.tbl base env ρ asI hY->Go as s.heap asI hY->Rep hY asI u a->Rep hY asI v b->P a b { s with heap:=hY,toks:=tk}) :
  wpAny (model prog w) A (eval e env) (fun a sI=>wpAny (model prog w) A (eval f env) (fun b sJ=>P a b sJ) E sI) E s:=
 a0u H t1 rm c er gr h1 fun a asI hY tk gI erI goI ra=>a0u H t2 rm c erI gI h2 fun b asJ hJ tkJ gJ erJ goJ rb=>
  K a b asJ hJ tkJ gJ erJ (goI.trans goJ) (ra.go goJ) rb
theorem c9c{k:Nat}{e:Expr}{x:X}{op:CmpOp}(t:trE Γ.tbl k sc e=some x):behindInMarks op e=false:=by
 induction e using PySem.Expr.casesOn with
 | Set elts kk pos=>cases k<;>exact ns t
 | _=>rfl
theorem d5t{n k:Nat}(H:a7g prog w Lx base Γ n)(rm:Room A n)(c:ScR sc env)(pos:Pos):∀(elts:List Expr) (xs:List X) (μ μ':Mu) (r:V) (as:List (List Addr)) (s:Shared) (Q:Value->Shared->Prop),
  a1k (trE Γ.tbl k sc) elts=some xs->ER Γ.tbl base env ρ as s.heap->GR Lx base μ as s.heap->e4o (fun x μ=>ev Γ n x ρ μ) xs μ=some (r,μ')->Post Lx base as s r μ' Q →
  wpAny (model prog w) A (eval (.BoolOp .And elts pos) env) Q E s:=by
 intro z_;induction z_ with
 | nil=>
  intro xs μ μ' r as s Q t er gr h hQ;obtain rfl:=Option.some.inj t;exact ns h
 | cons e z_ ih=>induction z_ using List.casesOn with
  | nil=>
   intro xs μ μ' r as s Q t er gr h hQ;refine a0g t fun x xr t1 t2 e'=>?_;obtain rfl:=Option.some.inj t2;subst e';exact BoolOp_one (H x k sc e t1 A E env ρ μ as s r μ' Q rm c er gr h hQ)
  | cons e2 er'=>
   intro xs μ μ' r as s Q t er gr h hQ;refine a0g t fun x xr t1 t2 e'=>a0g t2 fun y ys zz zz e2'=>?_;subst e2' e';exact a7c h fun v μ₁ h1 h=>BoolOp_and (a0u H t1 rm c er gr h1 fun a asI hY tk gI erI goI ra=>d2e h
    (fun hb h=>a6s hb (a1a gI ra) fun tk'=>ih (y::ys) μ₁ μ' r asI _ Q t2 erI gI h (hQ.after goI))
    fun hb h=>a6s hb (a1a gI ra) fun tk'=>spQ h hQ a asI hY tk' gI goI ra)
theorem e0i{n k:Nat}(H:a7g prog w Lx base Γ n)(rm:Room A n)(c:ScR sc env)(pos:Pos):∀(elts:List Expr) (xs:List X) (μ μ':Mu) (r:V) (as:List (List Addr)) (s:Shared) (Q:Value->Shared->Prop),
  a1k (trE Γ.tbl k sc) elts=some xs->ER Γ.tbl base env ρ as s.heap->GR Lx base μ as s.heap->ors (fun x μ=>ev Γ n x ρ μ) xs μ=some (r,μ')->Post Lx base as s r μ' Q →
  wpAny (model prog w) A (eval (.BoolOp .Or elts pos) env) Q E s:=by
 intro z_;induction z_ with
 | nil=>
  intro xs μ μ' r as s Q t er gr h hQ;obtain rfl:=Option.some.inj t;exact ns h
 | cons e z_ ih=>induction z_ using List.casesOn with
  | nil=>
   intro xs μ μ' r as s Q t er gr h hQ;refine a0g t fun x xr t1 t2 e'=>?_;obtain rfl:=Option.some.inj t2;subst e';exact BoolOp_one (H x k sc e t1 A E env ρ μ as s r μ' Q rm c er gr h hQ)
  | cons e2 er'=>
   intro xs μ μ' r as s Q t er gr h hQ;refine a0g t fun x xr t1 t2 e'=>a0g t2 fun y ys zz zz e2'=>?_;subst e2' e';exact a7c h fun v μ₁ h1 h=>BoolOp_or (a0u H t1 rm c er gr h1 fun a asI hY tk gI erI goI ra=>d2e h
    (fun hb h=>a6s hb (a1a gI ra) fun tk'=>spQ h hQ a asI hY tk' gI goI ra)
    fun hb h=>a6s hb (a1a gI ra) fun tk'=>ih (y::ys) μ₁ μ' r asI _ Q t2 erI gI h (hQ.after goI))
theorem b1i{a1y:Expr}(hs:∀ lo hi st p,a1y≠.Slice lo hi st p)(o i:Value):subscripted a1y false o i=operate [o,i] (getItem o i):=by
 induction a1y using PySem.Expr.casesOn with
 | Slice _ _ _ _=>exact absurd rfl (hs _ _ _ _)
 | _=>rfl
theorem e3n{value a1y:Expr}{u v r:V}{μ:Mu}{a b:Value}{ops:List Value}{Q:Value->Shared->Prop}(hi:item u v=some r)(ra:Rep0 s.heap as u a)(rb:Rep s.heap as v b)(gr:GR Lx base μ as s.heap)(hs:subscripted a1y false a b=operate ops (getItem a b))
  (hQ:Post Lx base as s r μ Q):wpAny (model prog w) A (subscriptTail value a1y a b) Q E s:=by
 have hg:=d6g (prog:=prog) (w:=w) (A:=A) (E:=E) hi ra rb gr hQ;induction u using Mine.V.casesOn with
 | lst l=>
  obtain⟨a,vs,rfl,hp,_⟩:=ra;exact tail_any hp.isList.typeIs slot_list_getitem.lookup hg hs
 | tup l=>
  obtain⟨a,vs,rfl,_,hp,_⟩:=ra;exact tail_any hp.typeIs slot_tuple_getitem.lookup hg hs
 | str l=>
  obtain⟨_,rfl⟩:=ra;exact tail_any (typeIs_str _ _ _) slot_str_getitem.lookup hg hs
 | _=>induction v using Mine.V.casesOn<;>exact ns hi
end
end
section
section
variable{prog:Program}{w:World}{Lx:LxP}{base:Heap}{Γ:G}
variable{A:Around}{E:Value->Shared->Prop}{env:Env}{ρ:Rho}{as:List (List Addr)}{s:Shared}{sc:Scope}
theorem spB{μ μ':Mu}{a r:V}{b c:Bool}{Q:Bool->Shared->Prop}(h:some (a,μ)=some (r,μ'))(h1:a3a (a1n μ a)=some c)(hb:a3a (a1n μ' r)=some b)(hQ:PostB Lx base as s b μ' Q):PostB Lx base as s c μ Q:=by
 cases h;cases h1.symm.trans hb;exact hQ
theorem c9t{n k:Nat}(H:a7g prog w Lx base Γ n)(T:a7f prog w Lx base Γ n)(rm:Room A n)(c:ScR sc env):∀(elts:List Expr) (xs:List X) (μ μ':Mu) (r:V) (b:Bool) (as:List (List Addr)) (s:Shared) (Q:Bool->Shared->Prop),
  a1k (trE Γ.tbl k sc) elts=some xs->ER Γ.tbl base env ρ as s.heap->GR Lx base μ as s.heap->e4o (fun x μ=>ev Γ n x ρ μ) xs μ=some (r,μ')->a3a (a1n μ' r)=some b->PostB Lx base as s b μ' Q →
  wpAny (model prog w) A (allTrue .And elts env) Q E s:=by
 intro z_;induction z_ with
 | nil=>
  intro xs μ μ' r b as s Q t er gr h hb hQ;obtain rfl:=Option.some.inj t;exact ns h
 | cons e z_ ih=>induction z_ using List.casesOn with
  | nil=>
   intro xs μ μ' r b as s Q t er gr h hb hQ;refine a0g t fun x xr t1 t2 e'=>?_;obtain rfl:=Option.some.inj t2;subst e';refine wpAny_allTrue_And_cons (T x k sc e t1 A E env ρ μ as s r b μ' _ rm c er gr h hb fun as' h' tk g go=>?_);induction b using Bool.casesOn with
   | true=>exact wpAny_allTrue_And_nil (hQ as' h' tk g go)
   | false=>exact hQ as' h' tk g go
  | cons e2 er'=>
   intro xs μ μ' r b as s Q t er gr h hb hQ;refine a0g t fun x xr t1 t2 e'=>a0g t2 fun y ys zz zz e2'=>?_;subst e2' e';exact a7c h fun v μ₁ h1 h=>d2e h
    (fun hb1 h=>wpAny_allTrue_And_cons (T x k sc e t1 A E env ρ μ as s v true μ₁ _ rm c er gr h1 hb1 fun as' h' tk g go=>ih (y::ys) μ₁ μ' r b as' _ Q t2 (er.go go) g h hb (hQ.after go)))
    fun hb1 h=>wpAny_allTrue_And_cons (T x k sc e t1 A E env ρ μ as s v false μ₁ _ rm c er gr h1 hb1 fun as' h' tk g go=>spB h hb1 hb hQ as' h' tk g go)
theorem d0h{n k:Nat}(H:a7g prog w Lx base Γ n)(T:a7f prog w Lx base Γ n)(rm:Room A n)(c:ScR sc env):∀(elts:List Expr) (xs:List X) (μ μ':Mu) (r:V) (b:Bool) (as:List (List Addr)) (s:Shared) (Q:Bool->Shared->Prop),
  a1k (trE Γ.tbl k sc) elts=some xs->ER Γ.tbl base env ρ as s.heap->GR Lx base μ as s.heap->ors (fun x μ=>ev Γ n x ρ μ) xs μ=some (r,μ')->a3a (a1n μ' r)=some b->PostB Lx base as s b μ' Q →
  wpAny (model prog w) A (allTrue .Or elts env) Q E s:=by
 intro z_;induction z_ with
 | nil=>
  intro xs μ μ' r b as s Q t er gr h hb hQ;obtain rfl:=Option.some.inj t;exact ns h
 | cons e z_ ih=>induction z_ using List.casesOn with
  | nil=>
   intro xs μ μ' r b as s Q t er gr h hb hQ;refine a0g t fun x xr t1 t2 e'=>?_;obtain rfl:=Option.some.inj t2;subst e';refine wpAny_allTrue_Or_cons (T x k sc e t1 A E env ρ μ as s r b μ' _ rm c er gr h hb fun as' h' tk g go=>?_);induction b using Bool.casesOn with
   | true=>exact hQ as' h' tk g go
   | false=>exact wpAny_allTrue_Or_nil (hQ as' h' tk g go)
  | cons e2 er'=>
   intro xs μ μ' r b as s Q t er gr h hb hQ;refine a0g t fun x xr t1 t2 e'=>a0g t2 fun y ys zz zz e2'=>?_;subst e2' e';exact a7c h fun v μ₁ h1 h=>d2e h
    (fun hb1 h=>wpAny_allTrue_Or_cons (T x k sc e t1 A E env ρ μ as s v true μ₁ _ rm c er gr h1 hb1 fun as' h' tk g go=>spB h hb1 hb hQ as' h' tk g go))
    fun hb1 h=>wpAny_allTrue_Or_cons (T x k sc e t1 A E env ρ μ as s v false μ₁ _ rm c er gr h1 hb1 fun as' h' tk g go=>ih (y::ys) μ₁ μ' r b as' _ Q t2 (er.go go) g h hb (hQ.after go))
noncomputable def c7o:Expr->Bool
 | .UnaryOp .Not _ _=>false
 | .BoolOp ..=>false
 | .IfExp ..=>false
 | .Compare ..=>false
 | _=>true
theorem c7g{e:Expr}{whole:Sem Value}(h:c7o e=true):isTrue e env whole=(do let v ← whole;standAt e.pos;holding [v] (truthy v)):=by
 induction e using PySem.Expr.casesOn with
 | UnaryOp op x p=>cases op<;>first | rfl | exact nt h
 | _=>first | rfl | exact nt h
theorem c3j{n k:Nat}{x:X}{e:Expr}{μ μ':Mu}{r:V}{b:Bool}{Q:Bool->Shared->Prop}(H:a7g prog w Lx base Γ n)(hp:c7o e=true)(t:trE Γ.tbl k sc e=some x)(rm:Room A n)(c:ScR sc env)(er:ER Γ.tbl base env ρ as s.heap)(gr:GR Lx base μ as s.heap)
  (h:ev Γ n x ρ μ=some (r,μ')) (hb:a3a (a1n μ' r)=some b) (hQ:PostB Lx base as s b μ' Q):wpAny (model prog w) A (isTrue e env (eval e env)) Q E s:=
 isTrue_plain (a0u H t rm c er gr h fun a asI hY tk gI erI goI ra=>a6s hb (a1a gI ra) fun tk'=>hQ asI hY tk' gI goI) (c7g hp)
theorem b4x{n:Nat}(rm:Room A n):A.units<=9500:=Nat.le_trans (Nat.le_trans (Nat.le_add_right _ _) rm.units) (by decide)
theorem a9d{b c:Bool}{μ:Mu}(h:a3a (a1n μ (.bool b))=some c):c=b:=(Option.some.inj h).symm
noncomputable def d2p(l:List (List Nat×Int)):List (PyData×PyData):=l.map fun p=>(.str ⟨p.1.toArray⟩,.int p.2)
theorem b3j(x:List Nat):∀ l:List (List Nat×Int),Spec.lookup (.str ⟨x.toArray⟩) (d2p l)=(l.lookup x).map .int:=by
 intro z_;induction z_ with
 | nil=>
  exact rfl
 | cons z1_ r ih=>
  obtain⟨a,b⟩:=z1_;show(if Spec.same (.str ⟨a.toArray⟩) (.str ⟨x.toArray⟩)=true then some (PyData.int b)else Spec.lookup (.str ⟨x.toArray⟩) (d2p r))=_;rw [List.lookup_cons,ih,Spec.same];by_cases h:x=a
  ·subst h;simp
  ·have h1:(x==a)=false:=by simpa using h
   have h2:((⟨a.toArray⟩:Str)==⟨x.toArray⟩)=false:=by
    rw [beq_eq_false_iff_ne];intro q
    injection q with q
    exact h (by simpa using congrArg Array.toList q.symm)
   rw [h1,h2];rfl
theorem b7f {a:Expr} {g:Str} (h:e1g sc a=some g):∃ p,a=.Name g p/\a4q sc g=true/\(g==("__debug__":Str))=false:=by
 induction a using PySem.Expr.casesOn with
 | Name x p=>exact ifS h fun hq h=>by obtain rfl:=Option.some.inj h;exact⟨p,rfl,a0e hq,c4p (a0n hq)⟩
 | _=>exact ns h
theorem e8y{α:Type}{r:α}{G:Prop}{e:Option (V×Mu)}{e':Option (List (List Nat×Int))}{f:List Nat->Mu->List (List Nat×Int)->Option α}(h:(match e,e' with | some (.str i,μ),some l=>f i μ l | _,_=>.none)=some r)(k:∀ i μ l,e=some (.str i,μ)->e'=some l->f i μ l=some r->G):G:=by
 induction e using Option.casesOn with
 | none=>exact ns h
 | some p=>cases p with | mk v μ=>induction v using Mine.V.casesOn<;>first | exact ns h | (cases e' with | none=>exact ns h | some l=>exact k _ _ _ rfl rfl h)
theorem b1u(S:Snd prog w Lx base Γ){n k:Nat}{x:X}{l r:Expr}{op:CmpOp}{pos:Pos}{μ μ':Mu}{v:V}{P:Value->Shared->Prop}(H:a7g prog w Lx base Γ n)(t:trE Γ.tbl (k+1) sc (.Compare l [op] [r] pos)=some x)(rm:Room A (n+1))(c:ScR sc env)(er:ER Γ.tbl base env ρ as s.heap)(gr:GR Lx base μ as s.heap)
  (h:ev Γ (n+1) x ρ μ=some (v,μ')) (hQ:Post Lx base as s v μ' P) :
  behindInMarks op r=false/\(∃ b,v=.bool b)/\wpAny (model prog w) A (eval l env) (fun a sI=>wpAny (model prog w) A (eval r env) (fun b sJ=>wpAny (model prog w) A (compareOp op a b) P E sJ) E sI) E s:=by
 have rm':=rm.less (Nat.le_succ n);refine c2d t (fun g hg t'=>?_) fun zz t=>a0h t fun y t1 t=>a1e t fun z t2 e=>a7c (evx e h) fun u μ₁ h1 h=>a7c h fun u2 μ₂ h2 h=>a1e h fun b hb h=>?_
 ·cases op with
  | In=>
   obtain⟨p,rfl,hglb,hdbg⟩:=b7f hg;refine a0h t' fun y t1 t=>a1e t fun i hi e=>e8y (evx e h) fun x μ₁ l' h1 hd h=>⟨rfl,⟨_,(congrArg Prod.fst (Option.some.inj h)).symm⟩,a0u H t1 rm' c er gr h1 fun a asI hY tk gI erI goI ra=>?_⟩;obtain⟨g',ad,hx,gn,tab⟩:=S.dic i l' hd;cases (a0o hi).symm.trans hx;refine a2w hdbg hglb c erI gI gn ?_;obtain⟨tt,rfl⟩:=ra;refine in_strTab (D:=d2p l') (tab.keep gI.keep) ?_;rw [b3j];have e:((l'.lookup x).map PyData.int).isSome=((l'.lookup x).isSome != false):=by cases l'.lookup x<;>rfl
   rw [e];exact spQ h hQ _ asI hY _ gI goI rfl
  | _=>exact ns hg
 ·have hQ:=spQ (congrArg some h) hQ
  exact⟨c9c t2,⟨b,(congrArg Prod.fst h).symm⟩,b4q H t1 t2 rm' c er gr h1 h2 fun a b asI hY tk gI erI goI ra rb=>a7w hb (a1a gI ra) (a1a gI rb) (b4x rm) gI (hQ.after goI)⟩
theorem c6l{n k:Nat}{x:X}{l r1 r2:Expr}{o1 o2:CmpOp}{pos:Pos}{μ μ':Mu}{v:V}{G:Prop}(t:trE Γ.tbl (k+1) sc (.Compare l [o1,o2] [r1,r2] pos)=some x)(h:ev Γ (n+1) x ρ μ=some (v,μ'))
  (K:∀ y z z2 u u2 μ₁ μ₂ b1,trE Γ.tbl k sc l=some y->trE Γ.tbl k sc r1=some z->trE Γ.tbl k sc r2=some z2->ev Γ n y ρ μ=some (u,μ₁)->ev Γ n z ρ μ₁=some (u2,μ₂)->a0z o1 (a1n μ₂ u) (a1n μ₂ u2)=some b1 →
   ((b1=false/\.bool false=v/\μ₂=μ')∨(b1=true/\∃ u3 b,ev Γ n z2 ρ μ₂=some (u3,μ')/\a0z o2 (a1n μ' u2) (a1n μ' u3)=some b/\.bool b=v))->G):G:=
 a0h t fun y t1 t=>a0h t fun z t2 t=>a1e t fun z2 t3 e=>a7c (evx e h) fun u μ₁ h1 h=>a7c h fun u2 μ₂ h2 h=>d2e h
  (fun hb h=>K y z z2 u u2 μ₁ μ₂ true t1 t2 t3 h1 h2 hb (.inr ⟨rfl,a7c h fun u3 μK h3 h=>a1e h fun b hb2 h=>by
   obtain rfl:=congrArg Prod.snd h;exact⟨u3,b,h3,hb2,congrArg Prod.fst h⟩⟩))
  fun hb h=>K y z z2 u u2 μ₁ μ₂ false t1 t2 t3 h1 h2 hb (.inl ⟨rfl,congrArg Prod.fst (Option.some.inj h),congrArg Prod.snd (Option.some.inj h)⟩)
theorem d4g{k:Nat}{e1 e2:Expr}{y z:X}{o1 o2:CmpOp}(t2:trE Γ.tbl k sc e2=some z):lastMarks [o1,o2] [e1,e2]=false:=c9c t2
theorem c6j{n k:Nat}{x:X}{l r1 r2:Expr}{o1 o2:CmpOp}{pos:Pos}{μ μ':Mu}{v:V}{b:Bool}{whole:Sem Value}{Q:Bool->Shared->Prop}(H:a7g prog w Lx base Γ n)(t:trE Γ.tbl (k+1) sc (.Compare l [o1,o2] [r1,r2] pos)=some x)(rm:Room A (n+1))(c:ScR sc env)(er:ER Γ.tbl base env ρ as s.heap)(gr:GR Lx base μ as s.heap)
  (h:ev Γ (n+1) x ρ μ=some (v,μ')) (hb:a3a (a1n μ' v)=some b) (hQ:PostB Lx base as s b μ' Q):wpAny (model prog w) A (isTrue (.Compare l [o1,o2] [r1,r2] pos) env whole) Q E s:=by
 have rm':=rm.less (Nat.le_succ n);have hu:=b4x rm;refine c6l t h fun y z z2 u u2 μ₁ μ₂ b1 t1 t2 t3 h1 h2 hb1 hr=>?_;refine isTrue_chain (a0u H t1 rm' c er gr h1 fun a asI hY tkI gI erI goI ra=>test_link (a0u H t2 rm' c erI gI h2 fun a2 asJ hJ tkJ gJ erJ goJ rb=>?_)) (d4g (y:=y) t3);refine a7w (μ:=μ₂) (as:=asJ) hb1 (a1a gJ (ra.go goJ)) (a1a gJ rb) hu gJ fun v3 asK h₃ tkK gT goK r3=>?_;cases r3;refine wpAny_truthy_bool ?_;rcases hr with⟨rfl,rfl,rfl⟩ | ⟨rfl,u3,b2,h3,hb2,rfl⟩
 ·have:=a9d hb;subst this
  exact hQ asK h₃ tkK gT ((goI.trans goJ).trans goK)
 ·have:=a9d hb;subst this
  refine test_last (a0u H t3 rm' c ((erJ.go goK)) gT h3 fun a4 asL hU tkL gU erL goL rc=>?_);refine a7w (as:=asL) hb2 (a1a gU ((rb.go goK).go goL)) (a1a gU rc) hu gU fun v5 asM h₅ tkM gM goM r5=>?_;cases r5;exact wpAny_truthy_bool (hQ asM h₅ tkM gM (((goI.trans goJ).trans goK).trans (goL.trans goM)))
theorem d0g{n k:Nat}{x:X}{l r1 r2:Expr}{o1 o2:CmpOp}{pos:Pos}{μ μ':Mu}{v:V}{Q:Value->Shared->Prop}(H:a7g prog w Lx base Γ n)(t:trE Γ.tbl (k+1) sc (.Compare l [o1,o2] [r1,r2] pos)=some x)(rm:Room A (n+1))(c:ScR sc env)(er:ER Γ.tbl base env ρ as s.heap)(gr:GR Lx base μ as s.heap)
  (h:ev Γ (n+1) x ρ μ=some (v,μ')) (hQ:Post Lx base as s v μ' Q):wpAny (model prog w) A (eval (.Compare l [o1,o2] [r1,r2] pos) env) Q E s:=by
 have rm':=rm.less (Nat.le_succ n);have hu:=b4x rm;refine c6l t h fun y z z2 u u2 μ₁ μ₂ b1 t1 t2 t3 h1 h2 hb1 hr=>?_;refine Compare_chain (a0u H t1 rm' c er gr h1 fun a asI hY tkI gI erI goI ra=>chain_link (a0u H t2 rm' c erI gI h2 fun a2 asJ hJ tkJ gJ erJ goJ rb=>?_)) (d4g (y:=y) t3);refine a7w (μ:=μ₂) (as:=asJ) hb1 (a1a gJ (ra.go goJ)) (a1a gJ rb) hu gJ fun v3 asK h₃ tkK gT goK r3=>?_;cases r3;refine wpAny_truthy_bool ?_;rcases hr with⟨rfl,rfl,rfl⟩ | ⟨rfl,u3,b2,h3,hb2,rfl⟩
 ·exact hQ _ asK h₃ tkK gT ((goI.trans goJ).trans goK) rfl
 ·refine chain_last (a0u H t3 rm' c ((erJ.go goK)) gT h3 fun a4 asL hU tkL gU erL goL rc=>?_)
  refine a7w (as:=asL) hb2 (a1a gU ((rb.go goK).go goL)) (a1a gU rc) hu gU fun v5 asM h₅ tkM gM goM r5=>?_;exact hQ _ asM h₅ tkM gM (((goI.trans goJ).trans goK).trans (goL.trans goM)) r5
theorem c6h(S:Snd prog w Lx base Γ)(n:Nat)(H:a7g prog w Lx base Γ n)(H1:a7g prog w Lx base Γ (n+1))(T:a7f prog w Lx base Γ n):a7f prog w Lx base Γ (n+1):=by
 intro x k sc e t A E env ρ μ as s r b μ' Q rm c er gr h hb hQ;have rm':=rm.less (Nat.le_succ n);by_cases hp:c7o e=true
 ·exact c3j H1 hp t rm c er gr h hb hQ
 induction k using Nat.casesOn with
 | zero=>exact ns t
 | succ k=>
  induction e using PySem.Expr.casesOn with
  | UnaryOp op e1 p=>cases op with
   | Not=>exact a1e t fun y t e=>a7c (evx e h) fun v μ₁ h1 h=>a1e h fun b1 hb1 h=>isTrue_not (T y k sc e1 t A E env ρ μ as s v b1 _ _ rm' c er gr h1 hb1 (spB (c:=!b1) (Q:=Q) (congrArg some h) rfl hb hQ:PostB Lx base as s (!b1) _ Q))
   | _=>exact absurd rfl hp
  | BoolOp op elts p=>
   rw [arm_isTrue_BoolOp];cases op with
   | And=>exact a1e t fun xs t e=>c9t H T rm' c elts xs μ μ' r b as s Q t er gr (evx e h) hb hQ
   | Or=>exact a1e t fun xs t e=>d0h H T rm' c elts xs μ μ' r b as s Q t er gr (evx e h) hb hQ
  | IfExp e0 e1 e2 p=>
   exact a0h t fun y0 t0 t=>a0h t fun y1 t1 t=>a1e t fun y2 t2 e=>a7c (evx e h) fun v μ₁ h1 h=>d2e h
    (fun hb1 h=>isTrue_IfExp (T y0 k sc e0 t0 A E env ρ μ as s v true μ₁ _ rm' c er gr h1 hb1 fun as' h' tk g go=>T y1 k sc e1 t1 A E env ρ μ₁ as' _ r b μ' Q rm' c (er.go go) g h hb (hQ.after go)))
    fun hb1 h=>isTrue_IfExp (T y0 k sc e0 t0 A E env ρ μ as s v false μ₁ _ rm' c er gr h1 hb1 fun as' h' tk g go=>T y2 k sc e2 t2 A E env ρ μ₁ as' _ r b μ' Q rm' c (er.go go) g h hb (hQ.after go))
  | Compare l ops rs p=>induction ops using List.casesOn with
   | nil=>exact ns t
   | cons o1 ops=>induction ops using List.casesOn with
    | nil=>induction rs using List.casesOn with
     | nil=>exact ns t
     | cons r1 rs=>induction rs using List.casesOn with
      | nil=>
       obtain⟨hm,⟨b',rfl⟩,_⟩:=b1u (P:=fun zz zz=>True) (E:=E) (A:=A) S H t rm c er gr h fun zz zz zz zz zz zz zz=>trivial;have:=a9d hb;subst this;refine wpAny_isTrue_Compare1 (b1u (E:=E) (A:=A) S H t rm c er gr h fun v asI hY tk gI goI rv=>?_).2.2 hm;cases rv;exact wpAny_truthy_bool (hQ asI hY tk gI goI)
      | cons _ _=>exact ns t
    | cons o2 ops=>induction ops using List.casesOn with
     | nil=>induction rs using List.casesOn with
      | nil=>exact ns t
      | cons r1 rs=>induction rs using List.casesOn with
       | nil=>exact ns t
       | cons r2 rs=>induction rs using List.casesOn with
        | nil=>exact c6j H t rm c er gr h hb hQ
        | cons _ _=>exact ns t
     | cons _ _=>induction rs using List.casesOn with
      | nil=>exact ns t
      | cons _ rs=>cases rs<;>exact ns t
  | _=>exact absurd rfl hp
end
end
section
section
variable{prog:Program}{w:World}{Lx:LxP}{base:Heap}{Γ:G}
variable{A:Around}{E:Value->Shared->Prop}{env:Env}{ρ:Rho}{as:List (List Addr)}{s:Shared}{sc:Scope}
theorem b0e(pos:Pos):∀ {elts:List Expr},elts.all a1v=true->(backTo pos (starEach elts env)).any (·.1)=false:=by
 intro z_;induction z_ with
 | nil=>
  intro _;exact rfl
 | cons e r ih=>
  intro h;rw [List.all_cons,Bool.and_eq_true]at h;rw [a1b h.1];show(((false,eval e env):Bool×Sem Value)::backTo pos (starEach r env)).any (·.1)=false;rw [List.any_cons,ih h.2];rfl
theorem a5e{n k:Nat}{pos:Pos}{f:Value}{elts:List Expr}{xs:List X}{μ μ':Mu}{vs:List V}{Q:Args->Shared->Prop}(H:a7g prog w Lx base Γ n)(rm:Room A n)(c:ScR sc env)(hp:elts.all a1v=true)(t:a1k (trE Γ.tbl k sc) elts=some xs)
  (er:ER Γ.tbl base env ρ as s.heap) (gr:GR Lx base μ as s.heap) (h:evs (fun x μ=>ev Γ n x ρ μ) xs μ=some (vs,μ'))
  (K:∀(vals:List Value) (as':List (List Addr)) (h':Heap) (tk:Nat),GR Lx base μ' as' h'->Go as s.heap as' h'->Reps h' as' vs vals->Q ⟨vals,[]⟩ { s with heap:=h',toks:=tk}) :
  wpAny (model prog w) A (evalArgs f true (backTo pos (starEach elts env)) []) Q E s:=by
 induction elts using List.casesOn with
 | nil=>
  obtain rfl:=Option.some.inj t;refine sp h ?_;rintro rfl rfl;exact evalArgs_nil3 (K [] as s.heap s.toks gr gr.go .nil)
 | cons e r=>
  have:=c1q (E:=E) H rm c pos (e::r) xs μ μ' vs as s (fun vals s'=>Q ⟨vals,[]⟩ s') hp t er gr h K;rw [List.all_cons,Bool.and_eq_true]at hp;rw [a1b hp.1]at this ⊢;exact evalArgs_plain this
theorem b2a{n k:Nat}{pos:Pos}{f:Value}{elts:List Expr}{xs:List X}{μ μ₁ μ':Mu}{us vs:List V}{first:List Value}{r:V}{Q:Value->Shared->Prop}(H:a7g prog w Lx base Γ n)(rm:Room A n)(c:ScR sc env)(hp:elts.all a1v=true)(t:a1k (trE Γ.tbl k sc) elts=some xs)
  (er:ER Γ.tbl base env ρ as s.heap) (gr:GR Lx base μ as s.heap) (h:evs (fun x μ=>ev Γ n x ρ μ) xs μ=some (vs,μ₁)) (hf:a8d base f) (hr:Reps s.heap as us first)
  (hc:CallOK prog w Lx base n f (us++vs) μ₁ r μ') (hQ:Post Lx base as s r μ' Q):wpAny (model prog w) A (callWith pos f first (backTo pos (starEach elts env)) []) Q E s:=by
 have fin:∀(vals:List Value) (as':List (List Addr)) (h':Heap) (tk:Nat),GR Lx base μ₁ as' h'->Go as s.heap as' h'->Reps h' as' vs vals->wpAny (model prog w) A (call f (first++vals)) Q E { s with heap:=h',toks:=tk}:=
  fun vals as' h' tk g go rv=>hc A E _ as' (first++vals) Q rm g ((hr.go go).append rv) (hQ.after go)
 cases hf with
 | builtin id=>exact Calls.callWith_builtin (b0e pos hp) (a5e H rm c hp t er gr h fun vals as' h' tk g go rv=>fin vals as' h' tk g go rv)
 | type n=>exact PyProof.Rows.callWith_type (b0e pos hp) (a5e H rm c hp t er gr h fun vals as' h' tk g go rv=>fin vals as' h' tk g go rv)
 | func a o fd h1 h2=>exact Calls.callWith_function (o:=o) (fd:=fd) (a5e H rm c hp t er gr h fun vals as' h' tk g go rv=>⟨⟨g.keep a o h1,h2⟩,fin vals as' h' tk g go rv⟩)
theorem b6h{o:Expr}{name:Str}{k:Nat}{x:X}(t:trE Γ.tbl k sc o=some x):attributeBase o name env (eval o env)=eval o env:=by
 induction o using PySem.Expr.casesOn with
 | Call f args kw pos=>
  induction f using PySem.Expr.casesOn with
  | Name id p=>
   induction args using List.casesOn with
   | nil=>
    induction kw using List.casesOn with
    | nil=>
     induction k using Nat.casesOn with
     | zero=>exact ns t
     | succ k=>
      exact ifS t fun hq zz=>by
       have:(id != ("super":Str))=true:=by rw [bne,c4p (a0n hq)];rfl
       exact(if_pos (by rw [this];rfl)).trans rfl
    | cons _ _=>rfl
   | cons _ _=>rfl
  | _=>rfl
 | _=>rfl
theorem c3o(pos:Pos):∀ {elts:List Expr},elts.all a1v=true->(backTo pos (starEach elts env)).all (!·.1)=true:=by
 intro z_;induction z_ with
 | nil=>
  intro _;exact rfl
 | cons e r ih=>
  intro h;rw [List.all_cons,Bool.and_eq_true]at h;rw [a1b h.1];show(((false,eval e env):Bool×Sem Value)::backTo pos (starEach r env)).all (!·.1)=true;rw [List.all_cons,ih h.2];rfl
theorem d7w(S:Snd prog w Lx base Γ){n k m:Nat}{o:Expr}{name:Str}{ap pos:Pos}{elts:List Expr}{x:X}{xs:List X}{u r:V}{vs:List V}{μ μ₁ μ₂ μ':Mu}{Q:Value->Shared->Prop}(H:a7g prog w Lx base Γ n)(rm:Room A n)(c:ScR sc env)
  (hm:nid Γ.tbl name=some m) (to:trE Γ.tbl k sc o=some x) (t:a1k (trE Γ.tbl k sc) elts=some xs) (hp:elts.all a1v=true) (hl:elts.length<20) (hline:(ap.endLine==pos.line)=true)
  (er:ER Γ.tbl base env ρ as s.heap) (gr:GR Lx base μ as s.heap) (h1:ev Γ n x ρ μ=some (u,μ₁)) (hf:Γ.find m u μ₁=true) (h2:evs (fun x μ=>ev Γ n x ρ μ) xs μ₁=some (vs,μ₂)) (h3:Γ.meth n m u vs μ₂=some (r,μ'))
  (hQ:Post Lx base as s r μ' Q):wpAny (model prog w) A (eval (.Call (.Attribute o name ap) elts [] pos) env) Q E s:=by
 rw [arm_eval_Call,b6h to];refine wpAny_bind (a0u H to rm c er gr h1 fun ov asI hY tk gI erI goI ro=>?_);refine wpAny_bind (wpAny_standAt ?_);obtain⟨nm,f,hn,hc,hfind,hcall⟩:=S.meth n m u vs μ₁ μ₂ r μ' hf h3;have:=a0o hm;rw [hn]at this;obtain rfl:=Option.some.inj this;have few:methodCallForm (elts.length+([]:List Keyword).length) (backTo pos (starEach elts env)) (backToKw pos (keywordEach [] env))=true:=by
  show((backTo pos (starEach elts env)).all (!·.1)&&true&&decide (elts.length+0+0<30))=true;rw [c3o pos hp];exact decide_eq_true (Nat.lt_of_lt_of_le hl (by decide))
 unfold methodCall;rw [few];refine wpAny_bind (wpAny_holding (hfind A E _ asI ov _ _ gI ro ?_));show wpAny (model prog w) A (methodCallPos true o env ap pos >>= fun cp=>callWith cp f [ov] (backTo pos (starEach elts env)) []) Q E _;have hpos:methodCallPos true o env ap pos=pure pos:=by
  unfold methodCallPos;rw [if_pos (by simpa using hline)]
 rw [hpos];refine wpAny_bind (wpAny_pure ?_);exact b2a (us:=[u]) H rm c hp t erI gI h2 hc (.cons ro .nil) hcall (hQ.after goI)
theorem d8s(S:Snd prog w Lx base Γ){n k m:Nat}{o:Expr}{name:Str}{pos:Pos}{x:X}{u r:V}{μ μ₁:Mu}{Q:Value->Shared->Prop}(H:a7g prog w Lx base Γ n)(rm:Room A n)(c:ScR sc env)
  (hm:nid Γ.tbl name=some m) (to:trE Γ.tbl k sc o=some x) (er:ER Γ.tbl base env ρ as s.heap) (gr:GR Lx base μ as s.heap) (h1:ev Γ n x ρ μ=some (u,μ₁)) (h2:Γ.attr m u μ₁=some r)
  (hQ:Post Lx base as s r μ₁ Q):wpAny (model prog w) A (eval (.Attribute o name pos) env) Q E s:=by
 obtain⟨nm,hn,ha⟩:=S.attr m u μ₁ r h2;have:=a0o hm;rw [hn]at this;cases this;refine Attribute_any_ (a0u H to rm c er gr h1 fun ov asI hY tk gI erI goI ro=>ha A E _ asI ov Q gI ro (hQ.after goI)) ?_;show(do
   let o' ← attributeBase o name env (eval o env)
   standAt pos.atName
   let r ← holding [o'] (getAttr o' name true)
   letTemporaryGo o o' r
   pure r)=_
 rw [b6h to]
theorem c5o{n k:Nat}(H:a7g prog w Lx base Γ n)(rm:Room A n)(c:ScR sc env){e:Option Expr}{x:Option X}{μ μ':Mu}{u:Option V}{Q:Value->Shared->Prop}(t:d6v (trE Γ.tbl k sc) e=some x)(er:ER Γ.tbl base env ρ as s.heap)(gr:GR Lx base μ as s.heap)
  (h:evo (fun x μ=>ev Γ n x ρ μ) x μ=some (u,μ'))
  (K:∀(a:Value) (as':List (List Addr)) (h':Heap) (tk:Nat),GR Lx base μ' as' h'->ER Γ.tbl base env ρ as' h'->Go as s.heap as' h'->(∀ p,b5k u=some p->IsPart a p)->Q a { s with heap:=h',toks:=tk}) :
  wpAny (model prog w) A (evalPart e env) Q E s:=by
 induction e using Option.casesOn with
 | none=>
  obtain rfl:=Option.some.inj t;refine sp h ?_;rintro rfl rfl;exact wpAny_evalPart_none (K .none as s.heap s.toks gr er gr.go fun p hp=>c4v hp rfl)
 | some e=>
  refine a1e t fun y t1 e1=>?_;subst e1;refine a7c h fun v μ₁ h1 h=>?_;refine sp h ?_;rintro rfl rfl;refine wpAny_evalPart_some (a0u H t1 rm c er gr h1 fun a asI hY tk gI erI goI ra=>K a asI hY tk gI erI goI fun p hp=>c4v hp ?_);induction v using Mine.V.casesOn with
  | none=>exact ra
  | int i=>exact ra
  | _=>exact ns hp
end
end
section
section
variable{prog:Program}{w:World}{Lx:LxP}{base:Heap}{Γ:G}
variable{A:Around}{E:Value->Shared->Prop}{env:Env}{ρ:Rho}{as:List (List Addr)}{s:Shared}{sc:Scope}
noncomputable def b8a(prog:Program)(w:World)(Lx:LxP)(base:Heap)(as:List (List Addr))(s:Shared)(tg:Expr)(vs:List V)(μ':Mu)(Src:List (List Addr)->Heap->Prop)(Q:Value->Shared->Prop):Prop:=
 ∀(itv:Value) (own:List Addr) (St:Nat->List (List Addr)->Heap->Prop) (as':List (List Addr)) (h':Heap) (tk:Nat),
  (∀ A':Around,A'.handled=.none->Wk prog w A' base s.heap tg itv own vs St Src)->St 0 as' h'->GR Lx base μ' as' h'->Go as s.heap as' h'->Q itv { s with heap:=h',toks:=tk}
theorem a6t{h hY:Heap}{as asI:List (List Addr)}{I:Addr}(go:Go as h asI hY)(hI:hY.get? I=.none):h.get? I=.none:=by
 induction q:h.get? I using Option.casesOn with
 | none=>rfl
 | some o=>
  exfalso;by_cases m:I∈as.flatten
  ·obtain⟨o',e'⟩:=go.alive I (go.sub m)
   rw [hI]at e';exact ns e'
  ·have:=go.at m q
   rw [hI]at this;exact ns this
theorem b1o{h:Heap}{μ:Mu}{I:Addr}(g:GR Lx base μ as h)(hI:h.get? I=.none):base.get? I=.none:=by
 induction q:base.get? I using Option.casesOn with
 | none=>rfl
 | some o=>have:=g.keep I o q;rw [hI]at this;exact ns this
theorem e9o{α:Type}{r:α}{G:Prop}{e:Option (V×Mu)}{f:Nat->Mu->Option α}(h:(match e with | some (.mut i,μ)=>f i μ | _=>.none)=some r)(k:∀ i μ,e=some (.mut i,μ)->f i μ=some r->G):G:=by
 induction e using Option.casesOn with
 | none=>exact ns h
 | some p=>cases p with | mk v μ=>induction v using Mine.V.casesOn<;>first | exact k _ _ rfl h | exact ns h
theorem e9t{α:Type}{r:α}{G:Prop}{e:Option M}{f:List V->Option α}(h:(match e with | some (.list l)=>f l | _=>.none)=some r)(k:∀ l,e=some (.list l)->f l=some r->G):G:=by
 induction e using Option.casesOn with
 | none=>exact ns h
 | some m=>induction m using Mine.M.casesOn with
  | list l=>exact k l rfl h
  | obj _ _=>exact ns h
theorem d3g{v:V}{a:Value}{vs:List V}{μ:Mu}{tg:Expr}{h₀:Heap}{Q:Value->Shared->Prop}(ht:b6t tg=true)(h:a5a v=some vs)(ra:Rep s.heap as v a)(gr:GR Lx base μ as s.heap)(hf:∀ I,s.heap.get? I=.none->h₀.get? I=.none)
  (K:∀(itv:Value) (own:List Addr) (St:Nat->List (List Addr)->Heap->Prop) (o:Obj),(∀ A':Around,A'.handled=.none->Wk prog w A' base h₀ tg itv own vs St fun zz zz=>True)->St 0 as (s.heap.push o)->Q itv { s with heap:=s.heap.push o}) :
  wpAny (model prog w) A (pyIter a) Q E s:=by
 have fr:h₀.get? s.heap.objs.size=.none/\base.get? s.heap.objs.size=.none:=⟨hf _ (a0y _),gr.top_base⟩;induction v using Mine.V.casesOn with
 | lst l=>
  obtain rfl:=Option.some.inj h;obtain⟨ax,vals,rfl,hax,hp,hr⟩:=ra;refine wpAny_pyIter_list hp.isList (K _ _ _ _ (fun A' hA=>Wk.list hA ht _ ax l vals fr) ⟨⟨_,Heap.get?_push_size _ rfl,rfl,rfl⟩,gr.top_off,hax,?_,hr.go (gr.go.push _)⟩);obtain⟨n,e⟩:=hp;exact⟨n,Heap.get?_push_of_some _ e⟩
 | tup l=>
  obtain rfl:=Option.some.inj h;obtain⟨ax,vals,rfl,hax,hp,hr⟩:=ra;refine wpAny_pyIter_tuple hp (K _ _ _ _ (fun A' hA=>Wk.tuple hA ht _ ax l vals fr) ⟨⟨_,Heap.get?_push_size _ rfl,rfl,rfl⟩,gr.top_off,hax,?_,hr.go (gr.go.push _)⟩);obtain⟨o,e,r⟩:=hp;exact⟨o,Heap.get?_push_of_some _ e,r⟩
 | str x=>
  obtain rfl:=Option.some.inj h;obtain⟨t,rfl⟩:=ra;cases hx:(⟨x.toArray⟩:Str).cps.all (·<128)
  ·exact wpAny_pyIter_wide hx (K _ _ _ _ (fun A' hA=>Wk.strW hA ht _ x t fr) ⟨⟨_,Heap.get?_push_size _ rfl,rfl,rfl⟩,gr.top_off⟩)
  ·exact wpAny_pyIter_ascii hx (K _ _ _ _ (fun A' hA=>Wk.strA hA ht _ x t fr) ⟨⟨_,Heap.get?_push_size _ rfl,rfl,rfl⟩,gr.top_off⟩)
 | _=>exact ns h
theorem a4t{x:V}{i:Int}{a:Value}{h:Heap}(e:b8k x=some i)(r:Rep h as x a):∃ t,a=.int i t:=by
 induction x using Mine.V.casesOn with
 | int j=>obtain rfl:=Option.some.inj e;exact r
 | _=>exact ns e
theorem b3r{args vs:List V}{vals:List Value}{Q:Value->Shared->Prop}(h:a0l args=some vs)(ra:Reps s.heap as args vals)
  (core:∀(a b c:Int) (t u v:Tok) (tk:Nat),Builtin.Range.small a b c=true->vs=a0p a b c->Q (.ref s.heap.objs.size) { s with heap:=s.heap.push { cls:=.type "range",data:=.fields #[.int a t,.int b u,.int c v]},toks:=tk}) :
  wpAny (model prog w) A (call (.type "range") vals) Q E s:=by
 induction args using List.casesOn with
 | nil=>exact ns h
 | cons x args=>
  obtain⟨_,_,rfl,rx,ra⟩:=ra;induction args using List.casesOn with
  | nil=>
   cases ra;exact a0h h fun b hb h=>ifS h fun hs h=>by
    obtain⟨t,rfl⟩:=a4t hb rx;exact call_range_1 (core _ _ _ _ _ _ _ hs (Option.some.inj h).symm)
  | cons y args=>
   obtain⟨_,_,rfl,ry,ra⟩:=ra;induction args using List.casesOn with
   | nil=>
    cases ra;exact a0h h fun a ha h=>a0h h fun b hb h=>ifS h fun hs h=>by
     obtain⟨t,rfl⟩:=a4t ha rx;obtain⟨u,rfl⟩:=a4t hb ry;exact call_range_2 (core _ _ _ _ _ _ _ hs (Option.some.inj h).symm)
   | cons z args=>
    obtain⟨_,_,rfl,rz,ra⟩:=ra;induction args using List.casesOn with
    | nil=>
     cases ra;exact a0h h fun a ha h=>a0h h fun b hb h=>a0h h fun c hc h=>ifS h fun hs h=>by
      obtain⟨t,rfl⟩:=a4t ha rx;obtain⟨u,rfl⟩:=a4t hb ry;obtain⟨v,rfl⟩:=a4t hc rz;exact call_range_3 (bne_iff_ne.mp (a0n (a0e hs))) (core _ _ _ _ _ _ _ (a0e (a0e hs)) (Option.some.inj h).symm) (.inl (a9i (a0n hs)))
    | cons _ _=>exact ns h
theorem c3q{args vs:List V}{vals:List Value}{μ:Mu}{tg:Expr}{h₀:Heap}{Q:Value->Shared->Prop}(ht:b6t tg=true)(h:a0l args=some vs)(ra:Reps s.heap as args vals)(gr:GR Lx base μ as s.heap)(hf:∀ I,s.heap.get? I=.none->h₀.get? I=.none)
  (K:∀(itv:Value) (own:List Addr) (St:Nat->List (List Addr)->Heap->Prop) (oI o:Obj) (tk:Nat),(∀ A':Around,A'.handled=.none->Wk prog w A' base h₀ tg itv own vs St fun zz zz=>True)->St 0 as ((s.heap.push oI).push o)->Q itv { s with heap:=(s.heap.push oI).push o,toks:=tk}) :
  wpAny (model prog w) A (call (.type "range") vals) (fun v sI=>wpAny (model prog w) A (pyIter v) Q E sI) E s:=by
 refine b3r h ra ?_;intro a b c t u v tk hs hvs;subst hvs;have gr1:=gr.push { cls:=.type "range",data:=.fields #[.int a t,.int b u,.int c v]}
 have hn:=a0y (s.heap.push { cls:=.type "range",data:=.fields #[.int a t,.int b u,.int c v]})
 have h0n:h₀.get? (s.heap.push { cls:=.type "range",data:=.fields #[.int a t,.int b u,.int c v]}).objs.size=.none:=by
  refine hf _ ?_;induction q:s.heap.get? (s.heap.push { cls:=.type "range",data:=.fields #[.int a t,.int b u,.int c v]}).objs.size using Option.casesOn with
  | none=>rfl
  | some o=>have:=Heap.get?_push_of_some { cls:=.type "range",data:=.fields #[.int a t,.int b u,.int c v]} q;rw [hn]at this;exact ns this
 refine wpAny_pyIter_range (IsRange.new ..) hs (K _ _ _ _ _ _ (fun A' hA=>Wk.range hA ht _ a b c ⟨h0n,gr1.top_base⟩) ⟨?_,gr1.top_off,Nat.zero_le _⟩);have:=Heap.get?_push_size (s.heap.push { cls:=.type "range",data:=.fields #[.int a t,.int b u,.int c v]}) (o:={ cls:=.type "range_iterator",data:=.fields #[rawInt a,rawInt (Builtin.Range.rangeSize a b c),rawInt c]}) rfl
 simpa [IsRangeIter]using this
theorem b1c {n k:Nat} {T:String} {f:Str} {np pos:Pos} {elts:List Expr} {xs:List X} {μ μ₁:Mu} {vs:List V} {Q:Value->Shared->Prop} (H:a7g prog w Lx base Γ n) (rm:Room A n) (c:ScR sc env) (hg:a4q sc f=true) (hd:(f==("__debug__":Str))=false)
  (gn:a1i prog w base f (.type T)) (hp:elts.all a1v=true) (t:a1k (trE Γ.tbl k sc) elts=some xs) (er:ER Γ.tbl base env ρ as s.heap) (gr:GR Lx base μ as s.heap) (h:evs (fun x μ=>ev Γ n x ρ μ) xs μ=some (vs,μ₁))
  (K:∀(vals:List Value) (as':List (List Addr)) (h':Heap) (tk:Nat),GR Lx base μ₁ as' h'->Go as s.heap as' h'->Reps h' as' vs vals->wpAny (model prog w) A (call (.type T) vals) Q E { s with heap:=h',toks:=tk}) :
  wpAny (model prog w) A (eval (.Call (.Name f np) elts [] pos) env) Q E s:=by
 refine wpAny_Call_ofName (a2w hd hg c er gr gn ?_);exact PyProof.Rows.callWith_type (b0e pos hp) (a5e H rm c hp t er gr h fun vals as' h' tk g go rv=>K vals as' h' tk g go rv)
theorem c8i{f:X->Mu->Option (V×Mu)}{x:X}{y:Option X}{μ:Mu}{G:Prop}(t:d4s y=some x)(k:y=some x->a1w f x μ=(match f x μ with | some (v,μ)=>(a5a v).map (·,μ) | .none=>.none)->G):G:=by
 induction y using Option.casesOn with
 | none=>exact ns t
 | some z=>cases z with
  | range _=>exact ns t
  | enum _=>exact ns t
  | _=>obtain rfl:=Option.some.inj t;exact k rfl rfl
theorem d3d{n k i:Nat}{x:X}{e:Expr}{l:List V}{μ μ':Mu}{tg:Expr}{Q:Value->Shared->Prop}(H:a7g prog w Lx base Γ n)(ht:b6t tg=true)(t:trE Γ.tbl k sc e=some x)(rm:Room A n)(c:ScR sc env)(er:ER Γ.tbl base env ρ as s.heap)(gr:GR Lx base μ as s.heap)
  (h:d0f (fun x μ=>ev Γ n x ρ μ) x μ=some (i,l,μ')) (hQ:b8a prog w Lx base as s tg l μ' (e2d i l) Q) :
  wpAny (model prog w) A (eval e env) (fun v sI=>wpAny (model prog w) A (pyIter v) Q E sI) E s:=by
 refine e9o h fun j μ₁ h1 h=>?_;refine e9t h fun l' hl h=>?_;cases h;refine a0u H t rm c er gr h1 fun v asI hY tk g er' go rv=>?_;obtain⟨a,r,e1,rfl⟩:=rv;obtain⟨ax,vals,e2,hp,hr⟩:=g.mus _ _ _ hl e1;obtain⟨rfl,rfl⟩:=List.cons.inj e2;refine wpAny_pyIter_list hp.isList (hQ _ _ _ asI _ tk (fun A' hA=>Wk.own hA ht i _ a l ⟨a6t go (a0y _),b1o g (a0y _)⟩) ⟨⟨_,Heap.get?_push_size _ rfl,rfl,rfl⟩,g.top_off,e1⟩ (g.push _) (go.push _))
theorem b8o{n:Nat}{l:List X}{μ:Mu}:ev Γ n (.range l) ρ μ=.none:=by cases n<;>rfl
theorem c3t{n:Nat}{a:X}{μ:Mu}:ev Γ n (.enum a) ρ μ=.none:=by cases n<;>rfl
theorem c3x{n k:Nat}{x:X}{e:Expr}{μ μ':Mu}{vs:List V}{tg:Expr}{Q:Value->Shared->Prop}(H:a7g prog w Lx base Γ n)(ht:b6t tg=true)(t:trE Γ.tbl k sc e=some x)(rm:Room A n)(c:ScR sc env)(er:ER Γ.tbl base env ρ as s.heap)(gr:GR Lx base μ as s.heap)
  (h:(match ev Γ n x ρ μ with | some (v,μ)=>(a5a v).map (·,μ) | .none=>.none)=some (vs,μ')) (hQ:b8a prog w Lx base as s tg vs μ' (fun zz zz=>True) Q) :
  wpAny (model prog w) A (eval e env) (fun v sI=>wpAny (model prog w) A (pyIter v) Q E sI) E s:=by
 refine a7c h fun v μ₁ h1 h=>a1e h fun vs h2 h=>pr h ?_;rintro rfl rfl;refine a0u H t rm c er gr h1 fun a asI hY tk gI erI goI ra=>?_;refine d3g (h₀:=s.heap) ht h2 ra gI (fun I hI=>a6t goI hI) fun itv own St o wk st=>?_;exact hQ itv own St asI _ tk wk st (gI.push o) (goI.push o)
theorem e9f{α:Type}{r:α}{G:Prop}{e:Option (V×Mu)}{f:List V->Mu->Option α}(h:(match e with | some (.lst i,μ)=>f i μ | _=>.none)=some r)(k:∀ i μ,e=some (.lst i,μ)->f i μ=some r->G):G:=by
 induction e using Option.casesOn with
 | none=>exact ns h
 | some p=>cases p with | mk v μ=>induction v using Mine.V.casesOn<;>first | exact k _ _ rfl h | exact ns h
theorem d0t{α β:Type}{f:α->Option β}{x:α}{y:β}(h:f x=some y):a1k f [x]=some [y]:=a5u h rfl
theorem e2o{f:X->Mu->Option (V×Mu)}{x:X}{μ μ':Mu}{v:V}(h:f x μ=some (v,μ')):evs f [x] μ=some ([v],μ'):=by
 show(match (generalizing:=false) f x μ with | some (v,μ)=>some ([v],μ) | .none=>.none)=_
 rw [h]
theorem d5z{f:X->Mu->Option (V×Mu)}{y x:X}{μ:Mu}{q:List V×Mu}(e:y=x)(h:a1w f x μ=some q):a1w f y μ=some q:=e▸h
theorem spI{tg:Expr}{vs us:List V}{μ μ':Mu}{Q:Value->Shared->Prop}(h:(us,μ)=(vs,μ'))(hQ:b8a prog w Lx base as s tg vs μ' (fun zz zz=>True) Q):b8a prog w Lx base as s tg us μ (fun zz zz=>True) Q:=by cases h;exact hQ
theorem c0f:(("range":Str)==("__debug__":Str))=false:=by decide +kernel
theorem d7p:(("enumerate":Str)==("__debug__":Str))=false:=by decide +kernel
theorem c1r{tbl:List Str}{k:Nat}{sc:Scope}{e:Expr}:(∃ f np args pos,e=.Call (.Name f np) args [] pos)∨trE.trI tbl (k+1) sc e=d4s (trE tbl k sc e):=by
 generalize hq:d4s (trE tbl k sc e)=q;induction e using PySem.Expr.casesOn with
 | Call f args kws pos=>induction f using PySem.Expr.casesOn with
  | Name f np=>induction kws using List.casesOn with
   | nil=>exact .inl ⟨f,np,args,pos,rfl⟩
   | cons _ _=>exact .inr hq
  | _=>exact .inr hq
 | _=>exact .inr hq
theorem d8w{x:X}{y:Option X}(t:d4s y=some x):y=some x:=by
 induction y using Option.casesOn with
 | none=>exact t
 | some z=>induction z using Mine.X.casesOn<;>first | exact t | exact ns t
theorem c2q{n k i:Nat}{x:X}{e:Expr}{l:List V}{μ μ':Mu}{tg:Expr}{Q:Value->Shared->Prop}(H:a7g prog w Lx base Γ n)(ht:b6t tg=true)(t:trE.trI Γ.tbl k sc e=some x)(rm:Room A n)(c:ScR sc env)(er:ER Γ.tbl base env ρ as s.heap)(gr:GR Lx base μ as s.heap)
  (h:d0f (fun x μ=>ev Γ n x ρ μ) x μ=some (i,l,μ')) (hQ:b8a prog w Lx base as s tg l μ' (e2d i l) Q) :
  wpAny (model prog w) A (eval e env) (fun v sI=>wpAny (model prog w) A (pyIter v) Q E sI) E s:=by
 induction k using Nat.casesOn with
 | zero=>exact ns t
 | succ k=>
  have other:∀ {k:Nat},d4s (trE Γ.tbl k sc e)=some x->wpAny (model prog w) A (eval e env) (fun v sI=>wpAny (model prog w) A (pyIter v) Q E sI) E s:=fun t=>d3d H ht (d8w t) rm c er gr h hQ;have no:∀ y,(∀ n,ev Γ n y ρ μ=.none)->y≠x:=fun y hy q=>by
   subst q;have h:(match (generalizing:=false) ev Γ n y ρ μ with | some (.mut k,μ)=>_ | _=>.none)=some (i,l,μ'):=h
   rw [hy n]at h;exact ns h
  rcases c1r (tbl:=Γ.tbl) (k:=k) (sc:=sc) (e:=e)with⟨f,np,args,pos,rfl⟩ | q
  rotate_left
  ·exact other (q.symm.trans t)
  ·refine ifS t fun hq t=>ifE t (fun hr t=>a1e t fun xs zz e1=>absurd e1 (no _ fun n=>b8o)) fun zz t=>ifE t (fun hr t=>?_) fun zz t=>ifE t (fun hr t=>?_) fun zz t=>other t
   ·clear other
    induction args using List.casesOn with
    | nil=>exact ns t
    | cons a args=>induction args using List.casesOn with
     | cons _ _=>exact ns t
     | nil=>exact a1e t fun y zz e1=>absurd e1 (no _ fun n=>c3t)
   ·clear other
    induction args using List.casesOn with
    | nil=>exact ns t
    | cons a args=>induction args using List.casesOn with
     | nil=>exact ns t
     | cons b args=>induction args using List.casesOn with
      | cons _ _=>exact ns t
      | nil=>exact a0h t fun y zz t=>a1e t fun z zz e1=>absurd e1 (no _ fun n=>by cases n<;>rfl)
theorem c5w(S:Snd prog w Lx base Γ){n k:Nat}{x:X}{e:Expr}{μ μ':Mu}{vs:List V}{tg:Expr}{Q:Value->Shared->Prop}(H:a7g prog w Lx base Γ n)(ht:b6t tg=true)(he:b0m tg e=true)(t:trE.trI Γ.tbl k sc e=some x)(rm:Room A n)(c:ScR sc env)(er:ER Γ.tbl base env ρ as s.heap)(gr:GR Lx base μ as s.heap)
  (h:a1w (fun x μ=>ev Γ n x ρ μ) x μ=some (vs,μ')) (hQ:b8a prog w Lx base as s tg vs μ' (fun zz zz=>True) Q) :
  wpAny (model prog w) A (eval e env) (fun v sI=>wpAny (model prog w) A (pyIter v) Q E sI) E s:=by
 induction k using Nat.casesOn with
 | zero=>exact ns t
 | succ k=>
  have other:∀ {k:Nat},d4s (trE Γ.tbl k sc e)=some x->wpAny (model prog w) A (eval e env) (fun v sI=>wpAny (model prog w) A (pyIter v) Q E sI) E s:=fun t=>
   c8i t fun t q=>c3x H ht t rm c er gr (q.symm.trans h) hQ
  rcases c1r (tbl:=Γ.tbl) (k:=k) (sc:=sc) (e:=e)with⟨f,np,args,pos,rfl⟩ | q
  rotate_left
  ·exact other (q.symm.trans t)
  ···refine ifS t fun hq t=>ifE t (fun hr t=>?_) fun zz t=>ifE t (fun hr t=>?_) fun zz t=>ifE t (fun hr t=>?_) fun zz t=>other t
     ·refine a1e t fun xs t1 e1=>c4q (d5z e1 h) fun us μ₁ h1 h=>a1e h fun vs h2 h=>?_
      have hQ:=spI h hQ;refine b1c H rm c (a0e (a0e hq)) (eq_of_beq hr▸c0f) (eq_of_beq hr▸S.range) (a0n (a0e hq)) t1 er gr h1 fun vals as' h' tk g go rv=>?_;refine c3q (h₀:=s.heap) ht h2 rv g (fun I hI=>a6t go hI) fun itv own St oI o tk' wk st=>?_;exact hQ itv own St as' _ tk' wk st ((g.push oI).push o) ((go.push oI).push o)
     ·clear other
      induction args using List.casesOn with
      | nil=>exact ns t
      | cons a args=>induction args using List.casesOn with
       | cons _ _=>exact ns t
       | nil=>
        refine a1e t fun y t1 e1=>e9f (d5z e1 h) fun l μ₁ h1 h=>?_;have hQ:=spI (Option.some.inj h) hQ;have hit:d9r tg=true:=orn he hr;refine b1c H rm c (a0e (a0e hq)) (eq_of_beq hr▸d7p) (eq_of_beq hr▸S.enum) (a0n (a0e hq)) (k:=k) (xs:=[y]) (vs:=[.lst l]) (μ₁:=μ₁) (d0t t1) er gr (e2o h1) fun vals as' h' tk g go rv=>?_;obtain⟨_,_,rfl,⟨ax,vs',rfl,hax,hpl,hr⟩,q⟩:=rv;cases q;refine call_enumerate_list hpl.isList fun h'' he hi hsz hk=>wpAny_pyIter_enum he ?_;obtain⟨g',go'⟩:=g.all (h':=h'') fun a o zz e=>hk a o e;have n1:=a0y h';have n2:h'.get? (h'.objs.size+1)=.none:=by
         induction q:h'.get? (h'.objs.size+1)using Option.casesOn with
         | none=>rfl
         | some o=>exact absurd (Nat.lt_of_succ_lt (Heap.lt_size q)) (Nat.lt_irrefl _)
        have off1:h'.objs.size∉as'.flatten:=g.top_off;have off2:h'.objs.size+1∉as'.flatten:=fun hm=>by
         obtain⟨o,e⟩:=g.alive _ hm;exact ns (n2.symm.trans e)
        refine hQ _ _ _ as' h'' tk (fun A' hA=>Wk.enum hA hit _ _ ax l vs' ⟨a6t go n1,b1o g n1⟩ ⟨a6t go n2,b1o g n2⟩ (Nat.succ_ne_self _)) ⟨⟨_,he⟩,hi,off2,off1,hax,?_,hr.go go'⟩ g' (go.trans go');obtain⟨m,e⟩:=hpl;exact⟨m,hk _ _ e⟩
     ·induction args using List.casesOn with
      | nil=>exact ns t
      | cons a args=>induction args using List.casesOn with
       | nil=>exact ns t
       | cons b args=>induction args using List.casesOn with
        | cons _ _=>exact ns t
        | nil=>
         refine a0h t fun a zz t=>a1e t fun b zz e1=>?_;have h:=d5z e1 h;cases n<;>exact ns h
end
end
section
noncomputable def hide(D:Addr):List (List Addr)->List (List Addr)
 | []=>[[D]]
 | x::r=>(D::x)::r
theorem hide_mem{D a:Addr}{as:List (List Addr)}:a∈(hide D as).flatten↔a=D∨a∈as.flatten:=by
 induction as using List.casesOn with
 | nil=>exact List.mem_singleton.trans ⟨.inl,fun h=>h.elim id fun q=>absurd q (List.not_mem_nil)⟩
 | cons x r=>exact List.mem_cons
theorem a2s{D:Addr}{as:List (List Addr)}(k:Nat):(hide D as)[k+1]?=as[k+1]?:=by
 cases as<;>rfl
theorem b0h{D:Addr}{as nw:List (List Addr)}(h:as≠[]):hide D as++nw=hide D (as++nw):=by
 induction as using List.casesOn with
 | nil=>exact absurd rfl h
 | cons x r=>rfl
theorem c0o{as:List (List Addr)}{h:Heap}{D a:Addr}{o:Obj}(hD:h.get? D=.none)(ha:a∉as.flatten)(e:h.get? a=some o):a∉(Mine.hide D as).flatten:=fun hm=>
 (hide_mem.mp hm).elim (fun q=>by rw [q,hD]at e;exact ns e) ha
theorem Rep.hide{as:List (List Addr)}{h h':Heap}{D:Addr}(hD:h.get? D=.none)(k:∀ a o,h.get? a=some o->h'.get? a=some o):∀ {x:V} {v:Value},Rep h as x v->Rep h' (hide D as) x v:=fun r=>
 Rep.tr (fun a o ha e zz=>⟨c0o hD ha e,k a o e⟩) (fun k zz e=>(a2s k).trans e) r
theorem Reps.hide{as:List (List Addr)}{h h':Heap}{D:Addr}(hD:h.get? D=.none)(k:∀ a o,h.get? a=some o->h'.get? a=some o):∀ {l:List V} {vs:List Value},Reps h as l vs->Reps h' (hide D as) l vs:=fun r=>
 Reps.tr (fun a o ha e zz=>⟨c0o hD ha e,k a o e⟩) (fun k zz e=>(a2s k).trans e) r
theorem Rep.show{as:List (List Addr)}{h:Heap}{D:Addr}:∀ {x:V} {v:Value},Rep h (Mine.hide D as) x v->Rep h as x v:=fun r=>
 Rep.tr (fun a o ha e zz=>⟨fun hm=>ha (hide_mem.mpr (.inr hm)),e⟩) (fun k zz e=>(a2s k).symm.trans e) r
theorem Reps.show{as:List (List Addr)}{h:Heap}{D:Addr}:∀ {l:List V} {vs:List Value},Reps h (Mine.hide D as) l vs->Reps h as l vs:=fun r=>
 Reps.tr (fun a o ha e zz=>⟨fun hm=>ha (hide_mem.mpr (.inr hm)),e⟩) (fun k zz e=>(a2s k).symm.trans e) r
section
variable{Lx:LxP}{base:Heap}{μ:Mu}{as:List (List Addr)}{h h':Heap}{D:Addr}
theorem c3i(nd:as.flatten.Nodup)(hD:D∉as.flatten):(hide D as).flatten.Nodup:=by
 induction as using List.casesOn with
 | nil=>exact List.nodup_cons.mpr ⟨List.not_mem_nil,List.nodup_nil⟩
 | cons x r=>
  have e:(hide D (x::r)).flatten=D::(x::r).flatten:=rfl;rw [e];exact List.nodup_cons.mpr ⟨hD,nd⟩
theorem a6x(nd:(hide D as).flatten.Nodup):as.flatten.Nodup/\D∉as.flatten:=by
 induction as using List.casesOn with
 | nil=>simp
 | cons x r=>
  have e:(hide D (x::r)).flatten=D::(x::r).flatten:=rfl;rw [e]at nd;exact⟨(List.nodup_cons.mp nd).2,(List.nodup_cons.mp nd).1⟩
theorem c0e(h:as≠[]):(hide D as).length=as.length:=by
 induction as using List.casesOn with
 | nil=>exact absurd rfl h
 | cons x r=>rfl
theorem GR.ne(g:GR Lx base μ as h):as≠[]:=fun q=>by
 have:=g.len;rw [q]at this;simp at this
theorem GR.hide(g:GR Lx base μ as h)(hD:h.get? D=.none)(hb:base.get? D=.none)(k:∀ a o,h.get? a=some o->h'.get? a=some o){oD:Obj}(hn:h'.get? D=some oD):GR Lx base μ (hide D as) h':=by
 have off:D∉as.flatten:=fun hm=>by
  obtain⟨o,e⟩:=g.alive _ hm;rw [hD]at e;exact ns e
 refine⟨fun a o e=>k a o (g.keep a o e),fun a ha=>?_,c3i g.nd off,fun a ha=>?_,by rw [c0e g.ne];exact g.len,fun i m ads hi ha=>?_⟩
 ·rcases hide_mem.mp ha with rfl | ha
  ·exact hb
  ·exact g.fresh a ha
 ·rcases hide_mem.mp ha with rfl | ha
  ·exact⟨_,hn⟩
  ·obtain⟨o,e⟩:=g.alive a ha
   exact⟨o,k a o e⟩
 ·rw [a2s]at ha
  have hm:=g.mus i m ads hi ha;induction m using Mine.M.casesOn with
  | list l=>
   obtain⟨a,vs,rfl,⟨n,hp⟩,hr⟩:=hm;exact⟨a,vs,rfl,⟨n,k a _ hp⟩,hr.hide hD k⟩
  | obj is n=>exact let⟨rs,e1,e2⟩:=hm;⟨rs,b1d (fun j l e=>by rw [a2s];exact e) e1,Lx.keep e2 fun a zz o e=>k a o e⟩
theorem GR.show(g:GR Lx base μ (Mine.hide D as) h)(hne:as≠[]):GR Lx base μ as h:=by
 refine⟨g.keep,fun a ha=>g.fresh a (hide_mem.mpr (.inr ha)),(a6x g.nd).1,fun a ha=>g.alive a (hide_mem.mpr (.inr ha)),by rw [← c0e (D:=D) hne];exact g.len,fun i m ads hi ha=>?_⟩;have hm:=g.mus i m ads hi (by rw [a2s];exact ha);induction m using Mine.M.casesOn with
 | list l=>
  obtain⟨a,vs,rfl,hp,hr⟩:=hm;exact⟨a,vs,rfl,hp,hr.show⟩
 | obj is n=>exact let⟨rs,e1,e2⟩:=hm;⟨rs,b1d (fun j l e=>by rw [a2s]at e;exact e) e1,e2⟩
theorem GR.modHid(g:GR Lx base μ (Mine.hide D as) h)(hs:Heap.SameBut D h h'){oD:Obj}(hn:h'.get? D=some oD):GR Lx base μ (Mine.hide D as) h':=by
 have hD:D∈(Mine.hide D as).flatten:=hide_mem.mpr (.inl rfl);have nd:=a6x g.nd;have ks:Ks (Mine.hide D as) h h':=fun a o ha e zz=>(hs.2 a (fun q=>ha (q▸hD))).trans e;refine⟨fun a o e=>(hs.2 a (fun q=>by rw [q,g.fresh D hD]at e;exact ns e)).trans (g.keep a o e),g.fresh,g.nd,fun a ha=>?_,g.len,fun i m ads hi ha=>?_⟩
 ·by_cases q:a=D
  ·exact⟨oD,q▸hn⟩
  ·obtain⟨o,e⟩:=g.alive a ha
   exact⟨o,(hs.2 a q).trans e⟩
 ·have hm:=g.mus i m ads hi ha
  have hne:∀ a∈ads,a≠D:=fun a hq q=>nd.2 (by
   rw [a2s]at ha;exact q▸List.mem_flatten.mpr ⟨ads,List.mem_of_getElem? ha,hq⟩)
  induction m using Mine.M.casesOn with
  | list l=>
   obtain⟨a,vs,rfl,⟨n,hp⟩,hr⟩:=hm;exact⟨a,vs,rfl,⟨n,(hs.2 a (hne a (by simp))).trans hp⟩,hr.ks ks⟩
  | obj is n=>exact let⟨rs,e1,e2⟩:=hm;⟨rs,e1,Lx.keep e2 fun a ha o e=>(hs.2 a (hne a ha)).trans e⟩
theorem GR.mvs(g:GR Lx base μ as h){own:List Addr}(ho:∀ a∈own,a∉as.flatten/\base.get? a=.none/\∃ o,h.get? a=some o/\∀ xs n,o.data≠.seq xs n)(mv:Mv own h h'):GR Lx base μ as h'/\Ks as h h':=by
 have ks:Ks as h h':=fun a o ha e ⟨xs,n,hd⟩=>mv a o (fun hm=>by
  obtain⟨_,_,o',e',hk⟩:=ho a hm;rw [e]at e';obtain rfl:=Option.some.inj e';exact hk xs n hd) e
 have off:∀ a∈as.flatten,a∉own:=fun a ha hm=>(ho a hm).1 ha;refine⟨⟨fun a o e=>mv a o (fun hm=>by rw [(ho a hm).2.1]at e;exact ns e) (g.keep a o e),g.fresh,g.nd,fun a ha=>?_,g.len,fun i m ads hi ha=>?_⟩,ks⟩
 ·obtain⟨o,e⟩:=g.alive a ha
  exact⟨o,mv a o (off a ha) e⟩
 ·have hm:=g.mus i m ads hi ha
  have hin:∀ a∈ads,a∉own:=fun a hq=>off a (List.mem_flatten.mpr ⟨ads,List.mem_of_getElem? ha,hq⟩);induction m using Mine.M.casesOn with
  | list l=>
   obtain⟨a,vs,rfl,⟨n,hp⟩,hr⟩:=hm;exact⟨a,vs,rfl,⟨n,mv a _ (hin a (by simp)) hp⟩,hr.ks ks⟩
  | obj is n=>exact let⟨rs,e1,e2⟩:=hm;⟨rs,e1,Lx.keep e2 fun a ha o e=>mv a o (hin a ha) e⟩
theorem ER.mvs{tbl:List Str}{env:Env}{ρ:Rho}(e:ER tbl base env ρ as h){own:List Addr}(ho:∀ a,Wf tbl env a->a∉own)(mv:Mv own h h')(ks:Ks as h h'):ER tbl base env ρ as h':=by
 obtain⟨m,hn,hl⟩:=e.loc;refine⟨e.kind,e.glob,e.bns,⟨m,?_,fun i x v h1 h2 h3=>?_⟩,e.off,fun i x h1 h2=>?_,e.inj⟩
 ·obtain⟨o,es,ep,e1,r⟩:=hn
  exact⟨o,es,ep,mv _ _ (ho _ (.inl rfl)) e1,r⟩
 ·obtain⟨u,h4,h5⟩:=hl i x v h1 h2 h3
  exact⟨u,h4,h5.ks ks⟩
 ·obtain⟨c,u,h3,h4,h5,⟨oc,hoc,hdc⟩,h7⟩:=e.cel i x h1 h2
  refine⟨c,u,h3,h4,h5,⟨oc,mv c oc (ho c (.inr ⟨i,x,h1,h2,h3⟩)) hoc,hdc⟩,fun v hv=>?_⟩;obtain⟨u',h8,h9⟩:=h7 v hv;exact⟨u',h8,h9.ks ks⟩
theorem Go.over{as₀ nw:List (List Addr)}{h₀:Heap}{W:Addr->Prop}(x:Go as₀ h₀ as h)(y:GoS W (Mine.hide D as) h (Mine.hide D as++nw) h')(hne:as≠[])(hW:∀ a,W a->h₀.get? a=.none):Go as₀ h₀ (as++nw) h':=by
 have xsub:=@Go.sub _ _ _ _ x;have xk:=x.keep;have xa:=x.alive;have tl:(Mine.hide D as).tail=as.tail:=by induction as using List.casesOn with
  | nil=>exact absurd rfl hne
  | cons a r=>rfl
 obtain⟨n1,e1,h1⟩:=x.ext;obtain⟨n2,e2,h2⟩:=y.ext;have e2:nw=n2:=List.append_cancel_left e2;subst e2;refine⟨⟨n1++nw,by rw [e1];simp,fun a ha=>?_⟩,fun a o ha e=>?_,fun a ha=>y.alive a ?_⟩
 ·rw [List.flatten_append]at ha
  rcases List.mem_append.mp ha with ha | ha
  ·exact h1 a ha
  ·induction q:h₀.get? a using Option.casesOn with
   | none=>rfl
   | some o=>
    exfalso;by_cases m:a∈as₀.tail.flatten
    ·obtain⟨o',e'⟩:=xa a (xsub (a5f m))
     rw [h2 a ha]at e';exact ns e'
    ·have:=xk a o m q
     rw [h2 a ha]at this;exact ns this
 ·refine y.keep a o (fun hm=>?_) (fun hw=>by rw [hW a hw]at e;exact ns e) (xk a o ha e)
  rw [tl,e1]at hm;rcases b3v hm with hm | hm
  ·exact ha hm
  ·rw [h1 a hm]at e;exact ns e
 ·rw [List.flatten_append]at ha ⊢
  rcases List.mem_append.mp ha with ha | ha
  ·exact List.mem_append_left _ (hide_mem.mpr (.inr ha))
  ·exact List.mem_append_right _ ha
theorem Go.sf{as':List (List Addr)}{own:List Addr}(g:Go as h as' h'):Sf own as h as' h':=⟨fun a o e ha=>g.off e ha,fun k l e=>g.get e,fun a o ha e zz=>g.at ha e⟩
end
end
section
noncomputable def clo(env:Env):List (Str×NameKind)->List (Str×Addr)->List (Str×Addr)
 | [],cs=>cs
 | (n,k)::r,cs=>if k==.free then clo env r ((n,(env.cells.lookup n).getD 0)::cs)else clo env r cs
theorem c8h{env:Env}{n:Str}{k:NameKind}{r:List (Str×NameKind)}{cs:List (Str×Addr)}(h:(k==.free)=true):clo env ((n,k)::r) cs=clo env r ((n,(env.cells.lookup n).getD 0)::cs):=if_pos h
theorem d1a{env:Env}{n:Str}{k:NameKind}{r:List (Str×NameKind)}{cs:List (Str×Addr)}(h:¬(k==.free)=true):clo env ((n,k)::r) cs=clo env r cs:=if_neg h
theorem d9t{env:Env}(f:Str×NameKind->List (Str×Addr)->Sem (ForInStep (List (Str×Addr))))(h1:∀ n k cs,(k==NameKind.free)=false->f (n,k) cs=pure (ForInStep.yield cs))
  (h2:∀ n c cs,env.cells.lookup n=some c->f (n,.free) cs=pure (ForInStep.yield ((n,c)::cs))):∀(l:List (Str×NameKind)) (cs:List (Str×Addr)),(∀ p∈l,p.2=.free->∃ c,env.cells.lookup p.1=some c)->forIn l cs f=pure (clo env l cs):=by
 intro z_;induction z_ with
 | nil=>
  intro cs _;exact rfl
 | cons z1_ r ih=>
  obtain⟨n,k⟩:=z1_;intro cs hp;rw [List.forIn_cons];by_cases hk:(k==NameKind.free)=true
  ·have hk':k=.free:=by simpa using hk
   subst hk';obtain⟨c,hc⟩:=hp (n,.free) (by simp) rfl;simp only at hc;rw [h2 n c cs hc];show(forIn r ((n,c)::cs) f:Sem (List (Str×Addr)))=_;rw [ih _ fun q hq=>hp q (by simp [hq])];have e:clo env ((n,.free)::r) cs=clo env r ((n,c)::cs):=by
    rw [c8h rfl,hc];rfl
   rw [e]
  ·have hk':(k==NameKind.free)=false:=by simpa using hk
   rw [h1 n k cs hk'];show(forIn r cs f:Sem (List (Str×Addr)))=_;rw [ih _ fun q hq=>hp q (by simp [hq])];have e:clo env ((n,k)::r) cs=clo env r cs:=d1a hk;rw [e]
theorem e1m{scope:Scope}{env:Env}(h:∀ p∈scope.names,p.2=.free->∃ c,env.cells.lookup p.1=some c):closureFor scope env=pure (clo env scope.names []):=by
 simp only [closureFor];rw [d9t (env:=env) _ (fun n k cs hk=>?_) (fun n c cs hc=>?_) scope.names [] h]
 ·rfl
 ·simp only [hk];rfl
 ·unfold cellOf
  simp only [hc];rfl
theorem c5p{env:Env}:∀(l:List (Str×NameKind)) (cs:List (Str×Addr)) (p:Str×Addr),p∈clo env l cs->p∈cs∨(∃ q∈l,q.2=.free/\p=(q.1,(env.cells.lookup q.1).getD 0)):=by
 intro z_;induction z_ with
 | nil=>
  intro cs p h;exact .inl h
 | cons z1_ r ih=>
  obtain⟨n,k⟩:=z1_;intro cs p h;by_cases hk:(k==.free)=true
  ·rw [c8h hk]at h
   rcases ih _ p h with h | ⟨q,hq,h1,h2⟩
   ·rcases List.mem_cons.mp h with rfl | h
    ·exact .inr ⟨(n,k),.head _,eq_of_beq hk,rfl⟩
    ·exact .inl h
   ·exact .inr ⟨q,.tail _ hq,h1,h2⟩
  ·rw [d1a hk]at h
   rcases ih _ p h with h | ⟨q,hq,h1,h2⟩
   ·exact .inl h
   ·exact .inr ⟨q,.tail _ hq,h1,h2⟩
theorem d7e{env:Env}:∀(l:List (Str×NameKind)) (cs:List (Str×Addr)) (p:Str×Addr),p∈cs->p∈clo env l cs:=by
 intro z_;induction z_ with
 | nil=>
  intro _ _ h;exact h
 | cons z1_ r ih=>
  obtain⟨n,k⟩:=z1_;intro cs p h;by_cases hk:(k==.free)=true
  ·rw [c8h hk];exact ih _ p (.tail _ h)
  ·rw [d1a hk];exact ih _ p h
theorem b8w{env:Env}:∀(l:List (Str×NameKind)) (cs:List (Str×Addr)) (q:Str×NameKind),q∈l->q.2=.free->(q.1,(env.cells.lookup q.1).getD 0)∈clo env l cs
 | (n,k)::r,cs,q,hq,hf=>by
  rcases List.mem_cons.mp hq with rfl | hq
  ·have hf':k=.free:=hf
   subst hf';rw [c8h rfl];exact d7e r _ _ (.head _)
  ·by_cases hk:(k==.free)=true
   ·rw [c8h hk];exact b8w r _ q hq hf
   ·rw [d1a hk];exact b8w r _ q hq hf
theorem b2m{l:List (Str×Addr)}{x:Str}{c:Addr}(h:∀ p∈l,p.1=x->p.2=c)(hm:(x,c)∈l):l.lookup x=some c:=by
 induction l with
 | nil=>cases hm
 | cons p r ih=>
  obtain⟨a,b⟩:=p;rw [List.lookup_cons];by_cases hx:x=a
  ·subst hx
   simp only [beq_self_eq_true];have:=h (x,b) (by simp) rfl;simp only at this;rw [this]
  ·have:(x==a)=false:=by simpa using hx
   rw [this];refine ih (fun p hp e=>h p (by simp [hp]) e) ?_;rcases List.mem_cons.mp hm with q | q
   ·exact absurd (congrArg Prod.fst q) hx
   ·exact q
theorem b2k{l:List (Str×Addr)}{x:Str}{c:Addr}(h:l.lookup x=some c):(x,c)∈l:=by
 induction l with
 | nil=>simp at h
 | cons p r ih=>
  obtain⟨a,b⟩:=p;rw [List.lookup_cons]at h;by_cases hx:x=a
  ·subst hx
   simp only [beq_self_eq_true,Option.some.injEq]at h;subst h;simp
  ·have:(x==a)=false:=by simpa using hx
   rw [this]at h;exact List.mem_cons_of_mem _ (ih h)
theorem a6k{env:Env}{l:List (Str×NameKind)}{x:Str}{c:Addr}(h:(clo env l []).lookup x=some c):(∃ q∈l,q.2=.free/\q.1=x)/\c=(env.cells.lookup x).getD 0:=by
 rcases c5p l [] _ (b2k h)with q | ⟨q,hq,h1,h2⟩
 ·cases q
 ·simp only [Prod.mk.injEq]at h2
  obtain⟨rfl,rfl⟩:=h2;exact⟨⟨q,hq,h1,rfl⟩,rfl⟩
theorem b0z{env:Env}{l:List (Str×NameKind)}{x:Str}{c:Addr}(hm:(x,NameKind.free)∈l)(hc:env.cells.lookup x=some c):(clo env l []).lookup x=some c:=by
 refine b2m (fun p hp e=>?_) ?_
 ·rcases c5p l [] p hp with q | ⟨q,hq,h1,h2⟩
  ·cases q
  ·subst h2
   simp only at e;subst e;simp [hc]
 ·have:=b8w (env:=env) l [] (x,.free) hm rfl
  simpa [hc]using this
set_option tactic.hygienic true in
theorem a2t(cs:Scope)(env:Env)(x:Str):(relabel cs env).names.lookup x=(cs.names.lookup x).map fun k=>if(k==.free&&env.scope.kind==.function&&env.kindOf x==some .cell)then .cell else k:=by
 have:∀ l:List (Str×NameKind),(l.map fun(n,k)=>if(k==.free&&env.scope.kind==.function&&env.kindOf n==some .cell)then(n,NameKind.cell)else(n,k)).lookup x=(l.lookup x).map fun k=>if(k==.free&&env.scope.kind==.function&&env.kindOf x==some .cell)then .cell else k:=by
  intro l;induction l with
  | nil=>rfl
  | cons p r ih=>
   obtain⟨n,k⟩:=p;rw [List.map_cons];by_cases hx:x=n
   ·subst hx
    simp only;split
    ·rename_i h
     rw [List.lookup_cons,List.lookup_cons];simp only [beq_self_eq_true,Option.map_some];rw [if_pos h]
    ·rename_i h
     rw [List.lookup_cons,List.lookup_cons];simp only [beq_self_eq_true,Option.map_some];rw [if_neg h]
   ·have hb:(x==n)=false:=by simpa using hx
    simp only;split
    ·simp only [List.lookup_cons,hb,ih]
    ·simp only [List.lookup_cons,hb,ih]
 exact this cs.names
theorem ScR.comp{cs:Scope}{env cenv:Env}(hs:cenv.scope=relabel cs env):ScR cs cenv:=by
 have key:∀ x,cenv.scope.names.lookup x=(cs.names.lookup x).map fun k=>if(k==.free&&env.scope.kind==.function&&env.kindOf x==some .cell)then .cell else k:=fun x=>by rw [hs,a2t]
 refine⟨fun x h=>?_,fun x h=>?_,fun x h=>?_⟩
 ·unfold a5o a2e at h ⊢
  rw [key];induction q:cs.names.lookup x using Option.casesOn with
  | none=>rw [q]at h;exact nt h
  | some k=>
   rw [q]at h;cases k with
   | «local»=>rfl
   | cell=>rfl
   | free=>
    rw [Option.map_some];by_cases hc:(NameKind.free==.free&&env.scope.kind==.function&&env.kindOf x==some .cell)=true
    ·rw [if_pos hc]
    ·rw [if_neg hc]
   | _=>exact nt h
 ·unfold a4q a2e at h ⊢
  rw [key];induction q:cs.names.lookup x using Option.casesOn with
  | none=>rw [q]at h;exact nt h
  | some k=>
   rw [q]at h;cases k with
   | globalImplicit=>rfl
   | _=>exact nt h
 ·unfold a8k a2e at h ⊢
  rw [key];induction q:cs.names.lookup x using Option.casesOn with
  | none=>rw [q]at h;exact nt h
  | some k=>
   rw [q]at h;cases k with
   | cell=>rfl
   | free=>
    rw [Option.map_some];by_cases hc:(NameKind.free==.free&&env.scope.kind==.function&&env.kindOf x==some .cell)=true
    ·rw [if_pos hc]
    ·rw [if_neg hc]
   | _=>exact nt h
theorem b1t:∀(l:List (Str×NameKind)) (n:Nat) (acc:List (Str×Addr)),cellsFrom n l acc=cellsFrom n l []++acc:=by
 intro l;induction l with
 | nil=>exact fun zz zz=>rfl
 | cons p r ih=>
  obtain⟨x,k⟩:=p;intro n acc;by_cases hk:(k==.cell)=true
  ·have e:∀ acc,cellsFrom n ((x,k)::r) acc=cellsFrom (n+1) r ((x,n)::acc):=fun acc=>if_pos hk
   rw [e,e,ih,ih (n+1) [(x,n)],List.append_assoc];rfl
  ·have e:∀ acc,cellsFrom n ((x,k)::r) acc=cellsFrom n r acc:=fun acc=>if_neg hk
   rw [e,e,ih]
theorem c6w:∀(l:List (Str×NameKind)) (n:Nat) (p:Str×Addr),p∈cellsFrom n l []->(p.1,NameKind.cell)∈l:=by
 intro l;induction l with
 | nil=>exact fun zz zz h=>nomatch h
 | cons p r ih=>
  obtain⟨x,k⟩:=p;intro n p hp;by_cases hk:(k==.cell)=true
  ·have e:cellsFrom n ((x,k)::r) []=cellsFrom (n+1) r [(x,n)]:=if_pos hk
   rw [e,b1t]at hp;rcases List.mem_append.mp hp with hp | hp
   ·exact .tail _ (ih _ _ hp)
   ·rw [List.mem_singleton]at hp
    subst hp;rw [eq_of_beq hk];exact .head _
  ·have e:cellsFrom n ((x,k)::r) []=cellsFrom n r []:=if_neg hk
   rw [e]at hp;exact .tail _ (ih _ _ hp)
theorem c6a:∀(l:List (Str×NameKind)) (n:Nat) (x:Str),(x,NameKind.cell)∈l->∃ c,(x,c)∈cellsFrom n l []:=by
 intro l;induction l with
 | nil=>exact fun zz zz h=>nomatch h
 | cons p r ih=>
  obtain⟨y,k⟩:=p;intro n x hx;by_cases hk:(k==.cell)=true
  ·have e:cellsFrom n ((y,k)::r) []=cellsFrom (n+1) r [(y,n)]:=if_pos hk
   rw [e,b1t];rcases List.mem_cons.mp hx with q | hx
   ·cases q
    exact⟨n,List.mem_append_right _ (.head _)⟩
   ·obtain⟨c,hc⟩:=ih (n+1) x hx
    exact⟨c,List.mem_append_left _ hc⟩
  ·have e:cellsFrom n ((y,k)::r) []=cellsFrom n r []:=if_neg hk
   rw [e];rcases List.mem_cons.mp hx with q | hx
   ·cases q;exact absurd rfl hk
   ·exact ih n x hx
structure d8k(names:List (Str×NameKind))(h h':Heap)(C:Addr)(nw:List (Str×Addr)):Prop where
 mem:∀ p∈nw,(p.1,NameKind.cell)∈names/\h.get? p.2=.none/\C<p.2/\h'.IsCell p.2 .none
 apart:nw.Pairwise fun x y=>x.2≠y.2
 has:∀ x,(x,NameKind.cell)∈names->∃ c,(x,c)∈nw
theorem b9m{M:Model}{A:Around}{E:Value->Shared->Prop}{s:Shared}{scope:Scope}{globals:Addr}{cl:List (Str×Addr)}{qual:Str}{outer:Env}{Q:Env->Shared->Prop}
  (hQ:∀ h' nw,(∀ a o,s.heap.get? a=some o->h'.get? a=some o)->h'.Ns s.heap.objs.size (fun zz=>.none)->d8k scope.names s.heap h' s.heap.objs.size nw->Q (newEnv scope s.heap.objs.size globals (nw++cl) qual .none .none (some outer) builtinsNs) { s with heap:=h'}) :
  wpAny M A (newFunctionEnv scope globals cl [] qual .none .none (some outer)) Q E s:=by
 simp only [newFunctionEnv,Option.isSome_some,if_true];refine wpAny_bind (wpAny_alloc ?_);refine wpAny_bind (wpAny_layCells _ (fun name kind cells=>by cases hkc:kind==NameKind.cell<;>simp [hkc]) _ _ _ _ ?_);have ok:=cellsFrom_ok scope.names (s.heap.push { cls:=.type "dict",data:=.dict #[]}) (s.heap.objs.size+1) [] ⟨fun zz zz hm=>(nomatch hm),List.Pairwise.nil⟩ (by rw [Heap.size_push];exact Nat.le_refl _)
 rw [Heap.size_push]at ok;rw [show({ s with heap:=s.heap.push { cls:=.type "dict",data:=.dict #[]}}:Shared).heap.objs.size=s.heap.objs.size+1 from Heap.size_push ..,b1t]
 rw [List.forIn_nil];refine wpAny_bind (wpAny_pure (wpAny_pure ?_));refine hQ _ _ (fun a o e=>pushCells_keeps _ _ a o (Heap.get?_push_of_some _ e)) ((Heap.Ns.new s.heap (.type "dict")).keeps (pushCells_keeps _ _)) ⟨fun p hp=>?_,ok.apart,fun x hx=>c6a _ _ _ hx⟩
 obtain⟨h1,h2⟩:=ok.empty p.1 p.2 hp;refine⟨c6w _ _ _ hp,?_,h2,h1⟩;induction q:s.heap.get? p.2 using Option.casesOn with
 | none=>rfl
 | some o=>exact absurd (Heap.lt_size q) (Nat.not_lt.mpr (Nat.le_of_succ_le h2))
end
section
section
variable{prog:Program}{w:World}{Lx:LxP}{base:Heap}{Γ:G}
variable{A:Around}{E:Value->Shared->Prop}{env cenv:Env}{ρ:Rho}{as:List (List Addr)}{s:Shared}{sc cs:Scope}
theorem a5d{f:Nat->Bool}:∀(ρ:Rho) (i:Nat),(ρ.filter fun p=>f p.1).lookup i=if f i then ρ.lookup i else .none:=by
 intro z_;induction z_ with
 | nil=>
  intro i;simp
 | cons z1_ r ih=>
  obtain⟨a,v⟩:=z1_;intro i;rw [List.filter_cons];by_cases ha:f a=true
  ·rw [if_pos ha,List.lookup_cons,List.lookup_cons,ih i]
   by_cases hi:i=a
   ·subst hi;simp [ha]
   ·have:(i==a)=false:=by simpa using hi
    simp [this]
  ·rw [if_neg ha,ih i,List.lookup_cons]
   by_cases hi:i=a
   ·subst hi;simp [ha]
   ·have:(i==a)=false:=by simpa using hi
    simp [this]
structure d4d(tbl:List Str)(sc cs:Scope):Prop where
 kind:cs.kind=.function
 names:∀ p∈cs.names,(p.2=.local/\cs.names.lookup p.1=some .local)∨(p.2=.free/\a8k sc p.1=true/\cs.names.lookup p.1=some .free/\(nid tbl p.1).isSome=true)∨p.2=.globalImplicit∨(p.2=.cell/\cs.names.lookup p.1=some .cell/\(nid tbl p.1).isSome=true)
theorem c5r{tbl:List Str}(h:b3p sc cs tbl=true):d4d tbl sc cs:=by
 unfold b3p at h;simp only [Bool.and_eq_true,beq_iff_eq,List.all_eq_true,Bool.or_eq_true]at h;refine⟨h.1,fun p hp=>?_⟩;rcases h.2 p hp with((h | h) | h) | h
 ·exact .inl h
 ·exact .inr (.inl ⟨h.1.1.1,h.1.1.2,h.1.2,h.2⟩)
 ·exact .inr (.inr (.inl h))
 ·exact .inr (.inr (.inr ⟨h.1.1,h.1.2,h.2⟩))
theorem c8x{tbl:List Str}{own:List Nat}{l:List (Str×NameKind)}(h:a1k (fun p:Str×NameKind=>nid tbl p.1) (l.filter fun p=>p.2==.local||p.2==.cell)=some own){p:Str×NameKind}(hp:p∈l)(hk:p.2=.local∨p.2=.cell):∃ i,nid tbl p.1=some i/\i∈own:=by
 have key:∀(l:List (Str×NameKind)) (own:List Nat),a1k (fun p:Str×NameKind=>nid tbl p.1) l=some own->∀ p∈l,∃ i,nid tbl p.1=some i/\i∈own:=by
  intro l;induction l with
  | nil=>intro _ _ p hp;cases hp
  | cons q r ih=>
   intro own h p hp;refine a0g h fun a b h1 h2 e=>?_;subst e;rcases List.mem_cons.mp hp with rfl | hp
   ·exact⟨a,h1,.head _⟩
   ·obtain⟨i,h3,h4⟩:=ih b h2 p hp
    exact⟨i,h3,.tail _ h4⟩
 exact key _ own h p (List.mem_filter.mpr ⟨hp,hk.elim (fun e=>by rw [e];rfl) fun e=>by rw [e];rfl⟩)
theorem a6g{x:Str}(h:a8k env.scope x=true):env.kindOf x=some .cell∨env.kindOf x=some .free:=by
 show a2e env.scope x=_∨a2e env.scope x=_;unfold a8k at h;induction q:a2e env.scope x using Option.casesOn with
 | none=>rw [q]at h;exact nt h
 | some k=>
  rw [q]at h;cases k with
  | cell=>exact .inl rfl
  | free=>exact .inr rfl
  | _=>exact nt h
theorem a4u{l:List (Str×NameKind)}{x:Str}{k:NameKind}(h:l.lookup x=some k):(x,k)∈l:=by
 induction l with
 | nil=>simp at h
 | cons p r ih=>
  obtain⟨a,b⟩:=p;rw [List.lookup_cons]at h;by_cases hx:x=a
  ·subst hx
   simp only [beq_self_eq_true,Option.some.injEq]at h;subst h;simp
  ·have:(x==a)=false:=by simpa using hx
   rw [this]at h;exact List.mem_cons_of_mem _ (ih h)
theorem d7f{tbl:List Str}{hY hJ h₃:Heap}{D C:Addr}{own:List Nat}{nw:List (Str×Addr)}(nd:∀(i j:Nat) (x:Str),tbl[i]?=some x->tbl[j]?=some x->i=j)(co:d4d tbl sc cs)(c:ScR sc env)(ho:c5e cs tbl=some own)(er:ER tbl base env ρ as hY)
  (hD:hY.get? D=.none) (k:∀ a o,hY.get? a=some o->h₃.get? a=some o) (hC:h₃.Ns C fun zz=>.none) (hCa:C∉(hide D as).flatten) (hCb:base.get? C=.none)
  (hN:d8k cs.names hJ h₃ C nw) (kJ:∀ a o,hY.get? a=some o->hJ.get? a=some o) (hDJ:∃ o,hJ.get? D=some o) (al:∀ a∈as.flatten,∃ o,hY.get? a=some o) (kb:∀ a o,base.get? a=some o->hY.get? a=some o)
  (e1:cenv.scope=relabel cs env) (e2:cenv.locals=C) (e3:cenv.globals=env.globals) (e4:cenv.cells=nw++clo env cs.names []) (e5:cenv.builtins=env.builtins) :
  ER tbl base cenv (ρ.filter fun p=>!own.contains p.1) (hide D as) h₃:=by
 have kind:∀ x,cenv.kindOf x=(cs.names.lookup x).map fun k=>if(k==.free&&env.scope.kind==.function&&env.kindOf x==some .cell)then .cell else k:=fun x=>by
  unfold Env.kindOf;rw [e1];exact a2t cs env x
 have free:∀ x,(cenv.kindOf x=some .cell∨cenv.kindOf x=some .free)->((x,NameKind.free)∈cs.names/\cs.names.lookup x=some .free/\a8k sc x=true)∨cs.names.lookup x=some .cell:=by
  intro x hx;rw [kind]at hx;induction q:cs.names.lookup x using Option.casesOn with
  | none=>rw [q]at hx;simp at hx
  | some kk=>
   have hm:=a4u q;rw [q]at hx;simp only [Option.map_some,Option.some.injEq]at hx;rcases co.names _ hm with⟨h1,_⟩ | ⟨h1,h2,_,_⟩ | h1 | ⟨h1,h2,_⟩
   ·simp only at h1;subst h1;simp at hx
   ·simp only at h1;subst h1;exact .inl ⟨hm,rfl,h2⟩
   ·simp only at h1;subst h1;simp at hx
   ·simp only at h1;subst h1;exact .inr rfl
 have nwc:∀ p∈nw,cs.names.lookup p.1=some .cell:=fun p hp=>by
  rcases co.names _ (hN.mem p hp).1 with⟨h1,_⟩ | ⟨h1,_⟩ | h1 | ⟨_,h2,_⟩
  ·cases h1
  ·cases h1
  ·cases h1
  ·exact h2
 have nwn:∀ p∈nw,hY.get? p.2=.none:=fun p hp=>by
  induction q:hY.get? p.2 using Option.casesOn with
  | none=>rfl
  | some o=>have:=(hN.mem p hp).2.1;rw [kJ _ _ q]at this;exact ns this.symm
 have lk:∀ x,cenv.cells.lookup x=(nw.lookup x).or ((clo env cs.names []).lookup x):=fun x=>by rw [e4,List.lookup_append]
 have nwf:∀ x,cs.names.lookup x=some .free->nw.lookup x=.none:=fun x hx=>by
  induction q:nw.lookup x using Option.casesOn with
  | none=>rfl
  | some c=>have:=nwc _ (PySem.mem_of_lookup q);rw [hx]at this;cases this
 have cells:∀ x a,cenv.cells.lookup x=some a->(x,a)∈nw∨(nw.lookup x=.none/\(clo env cs.names []).lookup x=some a):=fun x a hx=>by
  rw [lk]at hx;induction q:nw.lookup x using Option.casesOn with
  | none=>rw [q]at hx;exact .inr ⟨rfl,hx⟩
  | some c=>rw [q]at hx;obtain rfl:=Option.some.inj hx;exact .inl (PySem.mem_of_lookup q)
 refine⟨by rw [e1];exact co.kind,e3.trans er.glob,e5.trans er.bns,⟨fun zz=>.none,by rw [e2];exact hC,fun i x v h1 h2 h3=>?_⟩,by rw [e2];exact⟨hCa,hCb⟩,fun i x h1 h2=>?_,fun x y a h1 h2=>?_⟩
 ·exfalso
  rw [kind]at h2;induction q:cs.names.lookup x using Option.casesOn with
  | none=>rw [q]at h2;simp at h2
  | some kk=>
   rw [q]at h2;simp only [Option.map_some,Option.some.injEq]at h2;have hk:kk=.local:=by
    split at h2
    ·cases h2
    ·exact h2
   subst hk;obtain⟨j,hj,hjo⟩:=c8x ho (a4u q) (.inl rfl);have:=nd i j x h1 (a0o hj);subst this;rw [a5d (f:=fun i=>!own.contains i)]at h3;have:(!own.contains i)=false:=by simpa using hjo
   rw [this]at h3;simp at h3
 ·rcases free x h2 with⟨hm,hl,hh⟩ | hl
  ·obtain⟨cc,u,h3,h4,h5,⟨oc,hoc,hdc⟩,h7⟩:=er.cel i x h1 (a6g (c.held x hh))
   refine⟨cc,u,by rw [lk,nwf x hl];exact b0z hm h3,fun hq=>?_,h5,⟨oc,k _ _ hoc,hdc⟩,fun v hv=>?_⟩
   ·rcases hide_mem.mp hq with rfl | hq
    ·rw [hD]at hoc;exact ns hoc
    ·exact h4 hq
   ·rw [a5d (f:=fun i=>!own.contains i)]at hv
    split at hv
    ·obtain⟨u',h8,h9⟩:=h7 v hv
     exact⟨u',h8,h9.hide hD k⟩
    ·exact ns hv
  ·have hm:=a4u hl
   obtain⟨cc,hcc⟩:=hN.has x hm;obtain⟨c2,q⟩:∃ c2,nw.lookup x=some c2:=by
    induction q:nw.lookup x using Option.casesOn with
    | none=>have:=List.lookup_eq_none_iff.mp q _ hcc;simp at this
    | some c2=>exact⟨c2,rfl⟩
   have hp:=PySem.mem_of_lookup q;obtain⟨_,h4,h5,h6⟩:=hN.mem _ hp;refine⟨c2,.none,by rw [lk,q];rfl,fun hq=>?_,?_,h6,fun v hv=>?_⟩
   ·rcases hide_mem.mp hq with e | hq
    ·obtain⟨o,e'⟩:=hDJ
     rw [e,e']at h4;exact ns h4.symm
    ·obtain⟨o,e⟩:=al _ hq
     rw [nwn _ hp]at e;exact ns e
   ·induction q:base.get? c2 using Option.casesOn with
    | none=>rfl
    | some o=>have:=nwn _ hp;rw [kb _ _ q]at this;exact ns this.symm
   ·obtain⟨j,hj,hjo⟩:=c8x ho hm (.inr rfl)
    have:=nd i j x h1 (a0o hj);subst this;rw [a5d (f:=fun i=>!own.contains i)]at hv;have:(!own.contains i)=false:=by simpa using hjo
    rw [this]at hv;simp at hv
 ·have old:∀ z,(clo env cs.names []).lookup z=some a->nw.lookup z=.none->∃ o,hY.get? a=some o:=fun z hz zz=>by
   obtain⟨⟨p,hp,hpf,rfl⟩,r1⟩:=a6k hz;obtain⟨pn,pk⟩:=p;simp only at hpf;subst hpf;rcases co.names _ hp with⟨q,_⟩ | ⟨_,h2,_,h4⟩ | q | ⟨q,_⟩
   ·cases q
   ·obtain⟨i,hi⟩:=Option.isSome_iff_exists.mp h4
    obtain⟨cc,u,h3,_,_,⟨oc,hoc,_⟩,_⟩:=er.cel i pn (a0o hi) (a6g (c.held pn h2));simp only [h3,Option.getD_some]at r1;subst r1;exact⟨oc,hoc⟩
   ·cases q
   ·cases q
  rcases cells x a h1 with h1 | ⟨q1,h1⟩<;>rcases cells y a h2 with h2 | ⟨q2,h2⟩
  ·exact PySem.name_of_addr hN.apart h1 h2
  ·obtain⟨o,e⟩:=old y h2 q2
   rw [nwn _ h1]at e;exact ns e
  ·obtain⟨o,e⟩:=old x h1 q1
   rw [nwn _ h2]at e;exact ns e
  ·obtain⟨⟨p,hp,hpf,rfl⟩,r1⟩:=a6k h1
   obtain⟨⟨q,hq,hqf,rfl⟩,r2⟩:=a6k h2;obtain⟨pn,pk⟩:=p;obtain⟨qn,qk⟩:=q;simp only at hpf hqf;subst hpf hqf;have lk:∀ n,(n,NameKind.free)∈cs.names->∃(i:Nat) (c:Addr),tbl[i]?=some n/\env.cells.lookup n=some c:=by
    intro n hn;rcases co.names _ hn with⟨h1,_⟩ | ⟨_,h2,_,h4⟩ | h1 | ⟨h1,_⟩
    ·cases h1
    ·obtain⟨i,hi⟩:=Option.isSome_iff_exists.mp h4
     obtain⟨cc,u,h3,_⟩:=er.cel i n (a0o hi) (a6g (c.held n h2));exact⟨i,cc,a0o hi,h3⟩
    ·cases h1
    ·cases h1
   obtain⟨_,c1,_,h3⟩:=lk pn hp;obtain⟨_,c2,_,h4⟩:=lk qn hq;simp only [h3,Option.getD_some]at r1;simp only [h4,Option.getD_some]at r2;subst r1;subst r2;exact er.inj pn qn _ h3 h4
theorem c4i{Q:Bool->Shared->Prop}(l:List Expr):∀(s:Shared),Q false s->wpAny (model prog w) A (forIn l false fun c r=>if r=true then do let ok ← isTrue c env (eval c env);pure (ForInStep.yield ok)else pure (ForInStep.yield r)) Q E s:=by
 induction l with
 | nil=>intro s hq;exact wpAny_pure hq
 | cons e r ih=>
  intro s hq;rw [List.forIn_cons];refine wpAny_bind ?_;rw [if_neg (by decide)];exact wpAny_pure (ih s hq)
theorem c1j{n k:Nat}(TT:a7f prog w Lx base Γ n)(rm:Room A n)(c:ScR sc env):∀(ifs:List Expr) (xs:List X) (μ μ':Mu) (b:Bool) (as:List (List Addr)) (s:Shared) (Q:Bool->Shared->Prop),
  a1k (trE Γ.tbl k sc) ifs=some xs->ER Γ.tbl base env ρ as s.heap->GR Lx base μ as s.heap->b2l (fun x μ=>ev Γ n x ρ μ) xs μ=some (b,μ')->PostB Lx base as s b μ' Q →
  wpAny (model prog w) A (forIn ifs true fun c r=>if r=true then do let ok ← isTrue c env (eval c env);pure (ForInStep.yield ok)else pure (ForInStep.yield r)) Q E s:=by
 intro z_;induction z_ with
 | nil=>
  intro xs μ μ' b as s Q t er gr h hQ;obtain rfl:=Option.some.inj t;cases h;exact wpAny_pure (hQ as s.heap s.toks gr gr.go)
 | cons e r ih=>
  intro xs μ μ' b as s Q t er gr h hQ;refine a0g t fun x xr t1 t2 t=>?_;subst t;rw [List.forIn_cons];refine a7c h fun v μ₁ h1 h=>wpAny_bind ?_;rw [if_pos rfl];refine d2e h (fun hb h=>?_) fun hb h=>?_
  ·refine wpAny_bind (TT x k sc e t1 A E env ρ μ as s v true μ₁ _ rm c er gr h1 hb fun as' h' tk g go=>wpAny_pure ?_)
   exact ih xr μ₁ μ' b as' _ Q t2 (er.go go) g h (hQ.after go)
  ·refine sp h fun e1 e2=>?_
   subst e1 e2;refine wpAny_bind (TT x k sc e t1 A E env ρ μ as s v false _ _ rm c er gr h1 hb fun as' h' tk g go=>wpAny_pure ?_);exact c4i r _ (hQ as' h' tk g go)
end
end
section
section
variable{prog:Program}{w:World}{Lx:LxP}{base:Heap}{Γ:G}
variable{A:Around}{env cenv:Env}{cs:Scope}
theorem ER.all{tbl:List Str}{ρ:Rho}{as:List (List Addr)}{h h':Heap}(e:ER tbl base env ρ as h)(g:Go as h as h'):ER tbl base env ρ as h':=e.go g
theorem b9j{f:X->Rho->Mu->Option (V×Mu)}{elt:X}{t:T}{ifs:List X}:∀(l:List V) (ρ:Rho) (μ:Mu),a4f f elt t ifs (fun zz=>True) l ρ μ=a8z f elt t ifs l ρ μ:=by
 intro l;induction l with
 | nil=>exact fun ρ μ=>rfl
 | cons v r ih=>
  intro ρ μ;have e:a4f f elt t ifs (fun zz=>True) r=a8z f elt t ifs r:=funext fun ρ=>funext fun μ=>ih ρ μ;refine(if_pos (c:=True) trivial).trans ?_;rw [e];rfl
theorem b9k{f:X->Rho->Mu->Option (V×Mu)}{elt:X}{t:T}{ifs:List X}{P:Mu->Prop}{d:∀ μ,Decidable (P μ)}{v:V}{r zs:List V}{ρ:Rho}{μ μ':Mu}{G:Prop}(h:a4f f elt t ifs P (v::r) ρ μ=some (zs,μ'))
  (k:∀ ρI b μ₂,P μ->a3f t v ρ=some ρI->b2l (fun x μ=>f x ρI μ) ifs μ=some (b,μ₂)->((b=false/\a4f f elt t ifs P r ρI μ₂=some (zs,μ'))∨(b=true/\∃ y μK zs',f elt ρI μ₂=some (y,μK)/\a4f f elt t ifs P r ρI μK=some (zs',μ')/\y::zs'=zs))->G):G:=by
 refine ifS h fun hP h=>?_;have h:(match (generalizing:=false) a3f t v ρ with | .none=>.none | some ρ=>_)=some (zs,μ'):=h
 induction q:a3f t v ρ using Option.casesOn with
 | none=>rw [q]at h;exact ns h
 | some ρI=>
  rw [q]at h;dsimp only at h;induction q1:b2l (fun x μ=>f x ρI μ) ifs μ using Option.casesOn with
  | none=>rw [q1]at h;exact ns h
  | some p=>
   obtain⟨b,μ₂⟩:=p;rw [q1]at h;induction b using Bool.casesOn with
   | false=>exact k ρI _ μ₂ hP q q1 (.inl ⟨rfl,h⟩)
   | true=>
    dsimp only at h;induction q2:f elt ρI μ₂ using Option.casesOn with
    | none=>rw [q2]at h;exact ns h
    | some p=>
     obtain⟨y,μK⟩:=p;rw [q2]at h;dsimp only at h;induction q3:a4f f elt t ifs P r ρI μK using Option.casesOn with
     | none=>rw [q3]at h;exact ns h
     | some p=>
      obtain⟨zs',μL⟩:=p;rw [q3]at h;exact sp h fun e1 e2=>k ρI _ μ₂ hP q q1 (.inr ⟨rfl,y,μK,zs',q2,by rw [q3,e2],e1⟩)
theorem c6d{n k:Nat}{elt tg it:Expr}{ifs:List Expr}{pos:Pos}{x:X}{t:T}{xs:List X}{itv:Value}{own:List Addr}{vs:List V}{St:Nat->List (List Addr)->Heap->Prop}{Src:List (List Addr)->Heap->Prop}{P:Mu->Prop}{d:∀ μ,Decidable (P μ)}{D:Addr}{Wc:Addr->Prop}{as₀:List (List Addr)}{h₀ hw:Heap}{R:Result->Shared->Prop}
  (H:a7g prog w Lx base Γ n) (TT:a7f prog w Lx base Γ n) (rm:Room A n) (c:ScR cs cenv) (nd:∀(i j:Nat) (x:Str),Γ.tbl[i]?=some x->Γ.tbl[j]?=some x->i=j) (te:trE Γ.tbl k cs elt=some x) (tt:a1u Γ.tbl cs tg=some t) (ti:a1k (trE Γ.tbl k cs) ifs=some xs)
  (wk:Wk prog w A base hw tg itv own vs St Src) (hS:∀ μ as h,P μ->GR Lx base μ as h->Src as h) (hvl:vs.length<=big) (hD0:h₀.get? D=.none) (hWf:∀ a,Wc a->Wf Γ.tbl cenv a) (hW0:∀ a,Wc a->h₀.get? a=.none) (hown0:∀ a∈own,h₀.get? a=.none) (hCo:∀ a,Wf Γ.tbl cenv a->a∉own)
  (hW:∀ x,a1g cs x=true->InW Wc cenv x) :
  ∀(rest:List V) (i:Nat) (ρ:Rho) (μ μ':Mu) (zs:List V) (as:List (List Addr)) (s:Shared) (ys:List V) (vals:List Value),vs.drop i=rest->i<=vs.length->ys.length<=i->a4f (ev Γ n) x t xs P rest ρ μ=some (zs,μ') →
   as≠[]->ER Γ.tbl base cenv ρ (hide D as) s.heap->GR Lx base μ (hide D as) s.heap->St i (hide D as) s.heap->s.heap.PlainList D vals.toArray->Reps s.heap (hide D as) ys vals->Go as₀ h₀ as s.heap →
   (∀(as':List (List Addr)) (h':Heap) (tk:Nat) (vals':List Value) (ρ':Rho),as'≠[]->ER Γ.tbl base cenv ρ' (hide D as') h'->GR Lx base μ' (hide D as') h'->h'.PlainList D vals'.toArray->Reps h' (hide D as') (ys++zs) vals'->Go as₀ h₀ as' h'->R (.ok .next) { s with heap:=h',toks:=tk}) →
   codeAny (model prog w) A (.compLoop (.ListComp elt [⟨tg,it,ifs,0⟩] cs pos) 0 itv (.ref D) cenv) R s:=by
 intro rest;induction rest with
 | nil=>
  intro i ρ μ μ' zs as s ys vals hd hi hy h hne er gr st hp hr go K;refine ifS h fun hP h=>sp h ?_;clear h;rintro rfl rfl;have hi':i=vs.length:=by
   have:=List.drop_eq_nil_iff.mp hd;omega
  subst hi';refine codeAny_of_tree ?_;show wpAny (model prog w) A ((compTurn (.ListComp elt [⟨tg,it,ifs,0⟩] cs pos) 0 itv (.ref D) cenv).onRaise (fun x=>do noteFrame x cenv;theTreesLotGoes x)) _ _ s
  refine wpAny_noted ?_;rw [compTurn_list];refine wpAny_bind (wpAny_standAt (wpAny_bind (wk.done _ s _ _ st (hS _ _ _ hP gr) fun h' tk mv=>wpAny_pure ?_)));have hown:∀ a∈own,a∉(hide D as).flatten/\base.get? a=.none/\∃ o,s.heap.get? a=some o/\∀ xs n,o.data≠.seq xs n:=fun a ha=>by
   obtain⟨h1,o,h2,h3⟩:=wk.off _ _ _ st a ha;exact⟨h1,(wk.fresh a ha).2,o,h2,h3⟩
  obtain⟨gr',ks⟩:=gr.mvs hown mv;have er':=er.mvs hCo mv ks;have hDn:D∉own:=fun hm=>(hown D hm).1 (hide_mem.mpr (.inl rfl));refine K as h' tk vals ρ hne er' gr' ?_ (by simpa using hr.ks ks) ?_
  ·obtain⟨m,e⟩:=hp;exact⟨m,mv D _ hDn e⟩
  ·refine⟨go.ext,fun a o ha e=>mv a o (fun hm=>by rw [hown0 a hm]at e;exact ns e) (go.keep a o ha e),fun a ha=>gr'.alive a (hide_mem.mpr (.inr ha))⟩
 | cons v rest ih=>
  intro i ρ μ μ' zs as s ys vals hd hi hy h hne er gr st hp hr go K;have hlt:i<vs.length:=by
   rcases Nat.lt_or_ge i vs.length with q | q
   ·exact q
   ·rw [List.drop_eq_nil_of_le q]at hd;cases hd
  have hv:vs[i]?=some v:=by
   have:=congrArg List.head? hd;rw [List.head?_drop]at this;simpa using this
  have hd':vs.drop (i+1)=rest:=by
   rw [← List.drop_drop,hd];rfl
  refine b9k h fun ρI b μ₂ hPm hb ht fin=>?_;clear h
  ·skip
   refine codeAny_of_tree ?_;show wpAny (model prog w) A ((compTurn (.ListComp elt [⟨tg,it,ifs,0⟩] cs pos) 0 itv (.ref D) cenv).onRaise (fun x=>do noteFrame x cenv;theTreesLotGoes x)) _ _ s
   refine wpAny_noted ?_;rw [compTurn_list];have hown:∀ a∈own,a∉(hide D as).flatten/\base.get? a=.none/\∃ o,s.heap.get? a=some o/\∀ xs n,o.data≠.seq xs n:=fun a ha=>by
    obtain⟨h1,o,h2,h3⟩:=wk.off _ _ _ st a ha;exact⟨h1,(wk.fresh a ha).2,o,h2,h3⟩
   have hDn:D∉own:=fun hm=>(hown D hm).1 (hide_mem.mpr (.inl rfl));refine wpAny_bind (wpAny_standAt (wpAny_bind ?_));obtain⟨EO,hEO⟩:∃ EO:Value->Shared->Prop,EO=notedBy (model prog w) A cenv fun e s'=>R (.error e) s':=⟨_,rfl⟩;obtain⟨L,hL⟩:∃ L:Shared->Prop,L=fun sM=>codeAny (model prog w) A (.compLoop (.ListComp elt [⟨tg,it,ifs,0⟩] cs pos) 0 itv (.ref D) cenv) R sM:=⟨_,rfl⟩;obtain⟨P2,hP2⟩:∃ P2:Bool->Shared->Prop,P2=fun ok sK=>if ok=true then wpAny (model prog w) A (eval elt cenv) (fun y sL=>wpAny (model prog w) A (call (.builtin "list.append") [.ref D,y]) (fun zz sM=>L sM) EO sL) EO sK else L sK:=⟨_,rfl⟩
   obtain⟨P1,hP1⟩:∃ P1:Shared->Prop,P1=fun sJ=>wpAny (model prog w) A (forIn ifs true fun c r=>if r=true then do let ok ← isTrue c cenv (eval c cenv);pure (ForInStep.yield ok)else pure (ForInStep.yield r)) P2 EO sJ:=⟨_,rfl⟩
   obtain⟨P,hP⟩:∃ P:Value->Shared->Prop,P=fun u s'=>wpAny (model prog w) A (assign tg cenv u) (fun zz sJ=>P1 sJ) EO s':=⟨_,rfl⟩;rw [← hEO];refine wpAny_mono (wk.item i (hide D as) s P EO v hv gr.alive st (hS _ _ _ hPm gr) fun u h' tk ru st' mv=>?_) (fun r s' hr'=>?_) fun zz zz e=>e
   ·rw [hP]
    obtain⟨gr',ks⟩:=gr.mvs hown mv;have er':=er.mvs hCo mv ks;have hDn':h'.PlainList D vals.toArray:=let⟨m,e⟩:=hp;⟨m,mv D _ hDn e⟩;have go':Go as₀ h₀ as h':=⟨go.ext,fun a o ha e=>mv a o (fun hm=>by rw [hown0 a hm]at e;exact ns e) (go.keep a o ha e),fun a ha=>gr'.alive a (hide_mem.mpr (.inr ha))⟩;refine a6j hW hWf nd tt rm.calm hb er' gr' ru fun hJ tkJ gJ erJ gsJ ksJ=>?_;have wkind:∀ a,Wc a->∀ o,h'.get? a=some o->∀ xs n,o.data≠.seq xs n:=fun a ha o ho=>er'.wk a (hWf a ha) o ho;have stJ:=wk.stay _ _ _ _ _ st' (gsJ.sf wkind fun a ha q=>hCo a (hWf a q) ha);have hDC:¬ Wc D:=fun q=>(er'.held (hWf D q)).1 (hide_mem.mpr (.inl rfl));have htl:∀ {as:List (List Addr)},as≠[]->(hide D as).flatten.Nodup->D∉(hide D as).tail.flatten:=by
     intro as hne nd;induction as using List.casesOn with
     | nil=>exact absurd rfl hne
     | cons a r=>
      have:=(a6x nd).2;intro q;exact this (by rw [List.flatten_cons];exact List.mem_append_right _ q)
    have hpJ:hJ.PlainList D vals.toArray:=by
     obtain⟨m,e⟩:=hDn';exact⟨m,gsJ.keep D _ (htl hne gJ.nd) hDC e⟩
    have goJ:Go as₀ h₀ as hJ:=by
     have:=go'.over (nw:=[]) (W:=Wc) (by simpa using gsJ) hne hW0;simpa using this
    have hrJ:=(hr.ks ks).ks ksJ;rw [hP1];rcases fin with⟨rfl,h⟩ | ⟨rfl,y,μK,zs',he,hz,rfl⟩
    ·skip
     refine c1j TT rm c ifs xs μ μ₂ false _ _ _ ti erJ gJ ht fun asK h₃ tkK gT goK=>?_;rw [hP2];show L _;obtain⟨nw,eK,hnK⟩:=id goK.ext;rw [b0h hne]at eK;subst eK;rw [hL];refine ih (i+1) ρI μ₂ μ' zs (as++nw) _ ys vals hd' hlt (by omega) h (by simp [hne]) (erJ.go goK) gT (wk.stay _ _ _ _ _ stJ goK.sf) ?_ (hrJ.go goK) ?_ ?_
     ·obtain⟨m,e⟩:=hpJ;exact⟨m,goK.keep D _ (htl hne gJ.nd) e⟩
     ·exact goJ.over (W:=fun zz=>False) (by rw [b0h hne];exact goK.toS) hne (fun a ha=>ha.elim)
     ·exact fun as' h' tk vals' ρ' h1 h2 h3 h4 h5 h6=>K as' h' tk vals' ρ' h1 h2 h3 h4 h5 h6
    ·refine c1j TT rm c ifs xs μ μ₂ true _ _ _ ti erJ gJ ht fun asK h₃ tkK gT goK=>?_
     rw [hP2];show wpAny (model prog w) A (eval elt cenv) (fun y sL=>wpAny (model prog w) A (call (.builtin "list.append") [.ref D,y]) (fun zz sM=>L sM) EO sL) EO _
     ··skip
       refine a0u H te rm c (erJ.go goK) gT he fun yv asL hU tkL gU erL goL ry=>?_;have goKL:=goK.trans goL;obtain⟨nw,eU,hnL⟩:=id goKL.ext;rw [b0h hne]at eU;subst eU;have hne':as++nw≠[]:=by simp [hne]
       have hpL:hU.PlainList D vals.toArray:=let⟨m,e⟩:=hpJ;⟨m,goKL.keep D _ (htl hne gJ.nd) e⟩;have hrL:=hrJ.go goKL;have stL:=wk.stay _ _ _ _ _ stJ goKL.sf;have goM:Go as₀ h₀ (as++nw) hU:=goJ.over (W:=fun zz=>False) (by rw [b0h hne];exact goKL.toS) hne (fun a ha=>ha.elim);refine wpAny_list_append_plain hpL (fun h₅ hpM hsM=>?_) (by
        simp only [List.size_toArray,hrL.length];exact a2a (by omega))
       obtain⟨mM,eM⟩:=id hpM;have ksM:Ks (hide D (as++nw)) hU h₅:=fun a o ha e zz=>(hsM.2 a (fun q=>ha (hide_mem.mpr (.inl q)))).trans e;have mvM:Mv [D] hU h₅:=fun a o ha e=>(hsM.2 a (by simpa using ha)).trans e;have grM:=gU.modHid hsM eM;have erM:=erL.mvs (own:=[D]) (fun a ha hm=>by
        rw [List.mem_singleton]at hm;subst hm;exact(erL.held ha).1 (hide_mem.mpr (.inl rfl))) mvM ksM
       rw [hL];refine ih (i+1) ρI μK _ zs' (as++nw) _ (ys++[y]) (vals++[yv]) hd' hlt (by simp;omega) hz hne' erM grM (wk.stay _ _ _ _ _ stL ⟨fun a o e ha=>ha,fun k l e=>e,fun a o ha e zz=>(hsM.2 a (fun q=>ha (hide_mem.mpr (.inl q)))).trans e⟩) ?_ ((hrL.append (.cons ry .nil)).ks ksM) ?_ ?_
       ·have e:(vals++[yv]).toArray=vals.toArray.push yv:=by simp
        rw [e];exact hpM
       ·exact⟨goM.ext,fun a o ha e=>(hsM.2 a (fun q=>by rw [q,hD0]at e;exact ns e)).trans (goM.keep a o ha e),fun a ha=>grM.alive a (hide_mem.mpr (.inr ha))⟩
       ·intro as' h' tk vals' ρ' h1 h2 h3 h4 h5 h6
        exact K as' h' tk vals' ρ' h1 h2 h3 h4 (by simpa using h5) h6
   ·induction r using Option.casesOn with
    | none=>exact hr'.elim
    | some u=>
     subst hP hP1 hP2 hL;refine wpAny_bind (wpAny_mono hr' (fun zz sI hY=>?_) fun zz zz e=>e);refine wpAny_bind (wpAny_mono hY (fun zz sJ hJ=>wpAny_bind (wpAny_mono hJ (fun ok sK h₃=>?_) fun zz zz h'=>h')) fun zz zz h'=>h');induction ok using Bool.casesOn with
     | false=>exact wpAny_pure ⟨rfl,h₃⟩
     | true=>
      exact wpAny_bind (wpAny_bind (wpAny_mono h₃ (fun x sL hU=>wpAny_bind (wpAny_mono hU (fun zz sM h₅=>wpAny_pure (wpAny_pure ⟨rfl,h₅⟩)) fun zz zz h'=>h')) fun zz zz h'=>h'))
end
end
section
section
variable{prog:Program}{w:World}{Lx:LxP}{base:Heap}{Γ:G}
variable{A:Around}{E:Value->Shared->Prop}{env:Env}{ρ:Rho}{as:List (List Addr)}{s:Shared}{sc cs:Scope}
theorem b0f{tbl:List Str}{tg:Expr}{t:T}(h:a1u tbl cs tg=some t):b6t tg=true:=by
 induction tg using PySem.Expr.casesOn<;>first | rfl | exact ns h
theorem b0v{k:Nat}{e:Expr}{x:X}(t:trE.trI Γ.tbl k sc e=some x)(v:Value):foldedSetIterable e env v=pure v:=by
 induction e using PySem.Expr.casesOn with
 | Set elts kk pos=>induction k using Nat.casesOn with
  | zero=>exact ns t
  | succ k=>cases k<;>exact ns t
 | _=>rfl
theorem d7l{sc:Scope}{x:Str}(h:sc.names.lookup x=some .local):a1g sc x=true:=by
 show(match (generalizing:=false) sc.names.lookup x with | some .local=>true | some .cell=>true | _=>false)=true
 rw [h]
inductive e5y(prog:Program)(w:World)(Lx:LxP)(base:Heap)(Γ:G)(A:Around)(E:Value->Shared->Prop)(env:Env)(as:List (List Addr))(s:Shared)(tg it:Expr)(n:Nat)(x:X)(t:T)(xs:List X)(ρ:Rho)(zs:List V)(μ':Mu):Prop
 | mk (vs:List V) (μ₁:Mu) (P:Mu->Prop) (d:∀ μ,Decidable (P μ)) (Src:List (List Addr)->Heap->Prop) (hI:∀ Q,b8a prog w Lx base as s tg vs μ₁ Src Q->wpAny (model prog w) A (eval it env) (fun v sI=>wpAny (model prog w) A (pyIter v) Q E sI) E s)
   (hS:∀ μ as h,P μ->GR Lx base μ as h->Src as h) (hl:vs.length<=big) (h2:a4f (ev Γ n) x t xs P vs ρ μ₁=some (zs,μ'))
theorem f0p{k:Nat}{l:List V}{μ:Mu}{as:List (List Addr)}{h:Heap}(e:μ[k]?=some (.list l))(g:GR Lx base μ as h):e2d k l as h:=by
 induction q:as[k+1]? using Option.casesOn with
 | none=>
  have h1:=(List.getElem?_eq_some_iff.mp e).1;have h2:=List.getElem?_eq_none_iff.mp q;rw [g.len]at h2;omega
 | some ads=>
  obtain⟨a,vals,rfl,hp,hr⟩:=g.mus _ _ _ e q;exact⟨a,vals,q,hp,hr⟩
theorem c2b(S:Snd prog w Lx base Γ){n k:Nat}{tg it:Expr}{x ix:X}{t:T}{xs:List X}{own:List Nat}{μ μ':Mu}{r:V}{G:Prop}(H:a7g prog w Lx base Γ n)(rm:Room A n)(c:ScR sc env)(he:b0m tg it=true)(tt:a1u Γ.tbl cs tg=some t)(tit:trE.trI Γ.tbl k sc it=some ix)
  (er:ER Γ.tbl base env ρ as s.heap) (gr:GR Lx base μ as s.heap) (h:ev Γ (n+1) (.comp x t ix xs own) ρ μ=some (r,μ'))
  (K:∀ zs μ₂,e5y prog w Lx base Γ A E env as s tg it n x t xs (ρ.filter fun p=>!own.contains p.1) zs μ₂->some (.lst zs,μ₂)=some (r,μ')->G):G:=by
 rw [a8j]at h;induction hi:a1w (fun x μ=>ev Γ n x ρ μ) ix μ using Option.casesOn with
 | some p=>
  rw [hi]at h;refine ifS h fun hl h=>c4q h fun ys μ₂ hcl h=>K ys μ₂ ⟨p.1,p.2,fun zz=>True,fun zz=>instDecidableTrue,fun zz zz=>True,fun Q hQ=>c5w S H (b0f tt) he tit rm c er gr hi hQ,fun zz zz zz zz zz=>trivial,hl,?_⟩ h;exact(b9j _ _ _).trans hcl
 | none=>
  rw [hi]at h;exact a0h h fun q hq h=>ifS h fun hl h=>a1e h fun p hp h=>K p.1 p.2 ⟨q.2.1,q.2.2,_,_,e2d q.1 q.2.1,fun Q hQ=>c2q H (b0f tt) tit rm c er gr hq hQ,fun zz zz zz e g=>f0p e g,hl,hp⟩ (congrArg some h)
theorem d9j{sc:Scope}{x:Str}(h:sc.names.lookup x=some .cell):a1g sc x=true:=by
 show(match (generalizing:=false) sc.names.lookup x with | some .local=>true | some .cell=>true | _=>false)=true
 rw [h]
theorem b6f(S:Snd prog w Lx base Γ)(nd:∀(i j:Nat) (x:Str),Γ.tbl[i]?=some x->Γ.tbl[j]?=some x->i=j){n k:Nat}{elt tg it:Expr}{ifs:List Expr}{pos cpos:Pos}{x ix:X}{t:T}{xs:List X}{own:List Nat}{μ μ':Mu}{zs:List V}{use:Option (Value->Sem Unit)}{Q:Value->Shared->Prop}
  (H:a7g prog w Lx base Γ n) (TT:a7f prog w Lx base Γ n) (rm:Room A n) (c:ScR sc env) (co:b3p sc cs Γ.tbl=true) (he:b0m tg it=true) (te:trE Γ.tbl k cs elt=some x) (tt:a1u Γ.tbl cs tg=some t) (tit:trE.trI Γ.tbl k sc it=some ix) (ti:a1k (trE Γ.tbl k cs) ifs=some xs) (ho:c5e cs Γ.tbl=some own)
  (er:ER Γ.tbl base env ρ as s.heap) (gr:GR Lx base μ as s.heap) (RR:e5y prog w Lx base Γ A E env as s tg it n x t xs (ρ.filter fun p=>!own.contains p.1) zs μ')
  (K:∀(D C:Addr) (as':List (List Addr)) (h':Heap) (tk:Nat) (m:Str->Option Value),GR Lx base μ' as' h'->ER Γ.tbl base env ρ as' h'->Go as s.heap as' h'->Rep h' as' (.lst zs) (.ref D)->h'.Ns C m->Foreign as' h' C->s.heap.get? C=.none->base.get? C=.none->¬ Wf Γ.tbl env C →
   compPost (model prog w) A E use Q (.ref D) C (.ok .next) { s with heap:=h',toks:=tk}) :
  wpAny (model prog w) A (comprehension (.ListComp elt [⟨tg,it,ifs,0⟩] cs pos) cs env cpos (newList []) false (eval it env) use) Q E s:=by
 have cok:=c5r co;have free:∀ p∈cs.names,p.2=.free->∃ cc,env.cells.lookup p.1=some cc:=by
  intro p hp hf;rcases cok.names p hp with⟨q,_⟩ | ⟨_,hh,_,hn⟩ | q | ⟨q,_⟩
  ·rw [hf]at q;cases q
  ·obtain⟨i,hi⟩:=Option.isSome_iff_exists.mp hn
   obtain⟨cc,_,q,_⟩:=er.cel i p.1 (a0o hi) (a6g (c.held _ hh));exact⟨cc,q⟩
  ·rw [hf]at q;cases q
  ·rw [hf]at q;cases q
 refine wpAny_comprehension_free (g:=⟨tg,it,ifs,0⟩) (gs:=[]) rfl (fun v=>b0v tit v) (e1m free) cok.kind (fun p hp hk=>?_) ?_
 ·rcases cok.names p hp with⟨_,q⟩ | ⟨q,_⟩ | q | ⟨q,_⟩
  ·exact q
  ·rw [hk]at q;cases q
  ·rw [hk]at q;cases q
  ·rw [hk]at q;cases q
 ·obtain⟨vs,μ₁,P,dP,Src,hI,hS,hl,h2⟩:=RR
  refine hI _ fun itv ownA St asI hY tkI wk st gI goI=>?_;have eD:(List.toArray ([]:List Value))=#[]:=rfl;refine wpAny_newList ?_ (by simp);obtain⟨hD,hhD⟩:∃ D,D=hY.objs.size:=⟨_,rfl⟩;obtain⟨hJ,hhJ⟩:∃ hJ,hJ=hY.push { cls:=.type "list",data:=.seq ([]:List Value).toArray}:=⟨_,rfl⟩
  have hDn:hY.get? hD=.none:=by rw [hhD];exact a0y hY
  have kIJ:∀ a o,hY.get? a=some o->hJ.get? a=some o:=fun a o e=>by rw [hhJ];exact Heap.get?_push_of_some _ e
  have hDo:hJ.get? hD=some { cls:=.type "list",data:=.seq ([]:List Value).toArray}:=by rw [hhJ,hhD];exact Heap.get?_push_size _ rfl
  refine b9m fun h₃ nw kJK hns hN=>?_;obtain⟨C,hhC⟩:∃ C,C=hJ.objs.size:=⟨_,rfl⟩;have hns':h₃.Ns C fun zz=>.none:=by rw [hhC,hhJ];exact hns
  have hN':d8k cs.names hJ h₃ C nw:=by rw [hhC,hhJ];exact hN
  have kJK:∀ a o,hJ.get? a=some o->h₃.get? a=some o:=by rw [hhJ];exact kJK
  have hCn:hJ.get? C=.none:=by rw [hhC];exact a0y hJ
  have hCnI:hY.get? C=.none:=by
   induction q:hY.get? C using Option.casesOn with
   | none=>rfl
   | some o=>rw [kIJ _ _ q]at hCn;cases hCn
  have kIK:∀ a o,hY.get? a=some o->h₃.get? a=some o:=fun a o e=>kJK a o (kIJ a o e);have hDoK:=kJK _ _ hDo;have hDC:hD≠C:=fun q=>by rw [q,hCn]at hDo;exact ns hDo
  have gT:GR Lx base μ₁ (hide hD asI) h₃:=gI.hide hDn (b1o gI hDn) kIK hDoK;have hCb:base.get? C=.none:=b1o gI hCnI;have hCoff:C∉(hide hD asI).flatten:=fun hm=>by
   rcases hide_mem.mp hm with q | q
   ·exact hDC q.symm
   ·obtain⟨o,e⟩:=gI.alive _ q
    rw [hCnI]at e;exact ns e
  have erI:=er.go goI;obtain⟨cenv,hcenv⟩:∃ cenv:Env,cenv={ newEnv cs C env.globals (nw++clo env cs.names []) env.qual .none .none (some env) builtinsNs with scope:=relabel cs env}:=⟨_,rfl⟩;have erc:ER Γ.tbl base cenv (ρ.filter fun p=>!own.contains p.1) (hide hD asI) h₃:=
   d7f nd cok c ho erI hDn kIK hns' hCoff hCb hN' kIJ ⟨_,hDo⟩ gI.alive gI.keep (by rw [hcenv]) (by rw [hcenv];rfl) (by rw [hcenv];rfl) (by rw [hcenv];rfl) (by rw [hcenv];rfl)
  have loc:cenv.locals=C:=by rw [hcenv];rfl
  have hst:St 0 (hide hD asI) h₃:=(wk A rm.calm).stay _ _ _ _ _ st ⟨fun a o e ha hm=>by
    rcases hide_mem.mp hm with q | q
    ·rw [q,hDn]at e;exact ns e
    ·exact ha q,fun k l e=>by rw [a2s];exact e,fun a o zz e zz=>kIK a o e⟩
  have hf0:∀ I,hY.get? I=.none->s.heap.get? I=.none:=fun I hI=>a6t goI hI;have goK:Go as s.heap asI h₃:=⟨goI.ext,fun a o ha e=>kIK a o (goI.keep a o ha e),fun a ha=>let⟨o,e⟩:=goI.alive a ha;⟨o,kIK a o e⟩⟩;have hCo:∀ a,Wf Γ.tbl cenv a->a∉ownA:=fun a hw hm=>by
   rcases hw with rfl | ⟨i,x,h1,h2,h3⟩
   ·obtain⟨_,o,e,_⟩:=(wk A rm.calm).off _ _ _ st _ hm
    rw [loc,hCnI]at e;exact ns e
   ·obtain⟨_,_,_,h4,_⟩:=erc.cel i x h1 h2
    obtain⟨_,o,e,_⟩:=(wk A rm.calm).off _ _ _ st _ hm;have ha:@LT.lt Nat _ a hY.objs.size:=Heap.lt_size e;rw [hcenv]at h3;have h3:(nw++clo env cs.names []).lookup x=some a:=h3;rw [List.lookup_append]at h3;induction hq:nw.lookup x using Option.casesOn with
    | some c2=>
     rw [hq]at h3;obtain rfl:=Option.some.inj h3;have:=(hN'.mem _ (PySem.mem_of_lookup hq)).2.1;rw [kIJ _ _ e]at this;exact ns this.symm
    | none=>
     rw [hq]at h3;have h3:(clo env cs.names []).lookup x=some a:=h3;obtain⟨⟨q,hq2,hqf,rfl⟩,r⟩:=a6k h3;obtain⟨hh,i',hi'⟩:a8k sc q.1=true/\∃ i':Nat,nid Γ.tbl q.1=some i':=by
      rcases cok.names q hq2 with⟨z,_⟩ | ⟨_,z0,_,z⟩ | z | ⟨z,_⟩
      ·rw [hqf]at z;cases z
      ·exact⟨z0,Option.isSome_iff_exists.mp z⟩
      ·rw [hqf]at z;cases z
      ·rw [hqf]at z;cases z
     obtain⟨cc',_,q1,_,_,⟨oc,hoc,_⟩,_⟩:=er.cel i' q.1 (a0o hi') (a6g (c.held _ hh));have e1:a=cc':=by rw [r,q1];rfl
     have:=((wk A rm.calm).fresh a hm).1;rw [e1,hoc]at this;cases this
  obtain⟨Wc,hWc⟩:∃ Wc:Addr->Prop,Wc=fun a=>a=C∨∃ x,nw.lookup x=some a:=⟨_,rfl⟩;have hW0:∀ a,Wc a->s.heap.get? a=.none:=fun a ha=>by
   rw [hWc]at ha;rcases ha with rfl | ⟨x,hx⟩
   ·exact hf0 _ hCnI
   ·refine hf0 _ ?_
    induction q:hY.get? a using Option.casesOn with
    | none=>rfl
    | some o=>have:=(hN'.mem _ (PySem.mem_of_lookup hx)).2.1;rw [kIJ _ _ q]at this;exact ns this.symm
  have lkc:∀ x,cs.names.lookup x=some .cell->∃ c2,nw.lookup x=some c2/\cenv.cells.lookup x=some c2:=fun x hx=>by
   obtain⟨c1,hc1⟩:=hN'.has x (a4u hx);induction q:nw.lookup x using Option.casesOn with
   | none=>have:=List.lookup_eq_none_iff.mp q _ hc1;simp at this
   | some c2=>
    refine⟨c2,rfl,?_⟩;rw [hcenv];show(nw++clo env cs.names []).lookup x=_;rw [List.lookup_append,q];rfl
  have kcell:∀ x,cs.names.lookup x=some .cell->cenv.kindOf x=some .cell:=fun x hx=>by
   unfold Env.kindOf;rw [hcenv];show(relabel cs env).names.lookup x=_;rw [a2t,hx];rfl
  have hWf:∀ a,Wc a->Wf Γ.tbl cenv a:=fun a ha=>by
   rw [hWc]at ha;rcases ha with rfl | ⟨x,hx⟩
   ·exact .inl loc.symm
   ·rcases cok.names _ (hN'.mem _ (PySem.mem_of_lookup hx)).1 with⟨z,_⟩ | ⟨z,_⟩ | z | ⟨_,z,z2⟩
    ·cases z
    ·cases z
    ·cases z
    ·obtain⟨i,hi⟩:=Option.isSome_iff_exists.mp z2
     obtain⟨c2,q1,q2⟩:=lkc _ z;obtain rfl:=Option.some.inj (hx.symm.trans q1);exact .inr ⟨i,x,a0o hi,.inl (kcell _ z),q2⟩
  have hW:∀ x,a1g cs x=true->InW Wc cenv x:=by
   intro x hx;rw [hWc];rcases a7n hx with hk | hk
   ·have hk':cenv.kindOf x=some .local:=by
     unfold Env.kindOf;rw [hcenv];show(relabel cs env).names.lookup x=_;rw [a2t,hk];rfl
    exact⟨d7l hk',fun zz=>.inl loc,fun c' q zz=>by rw [hk']at q;cases q⟩
   ·have hk':=kcell x hk
    obtain⟨c2,q1,q2⟩:=lkc x hk;exact⟨d9j hk',(fun q=>nomatch hk'.symm.trans q),fun c' zz q=>.inr ⟨x,q1.trans (q2.symm.trans q)⟩⟩
  have hR:∀(as':List (List Addr)) (h':Heap) (tk:Nat) (vals':List Value) (ρ':Rho),as'≠[]->ER Γ.tbl base cenv ρ' (hide hD as') h'->GR Lx base μ' (hide hD as') h'->h'.PlainList hD vals'.toArray->Reps h' (hide hD as') ([]++zs) vals'->Go as s.heap as' h' →
    compPost (model prog w) A E use Q (.ref hD) C (.ok .next) { s with heap:=h',toks:=tk}:=by
   intro as' h' tk vals' ρ' hne er' gr' hp' hr' go';obtain⟨m,hm,_⟩:=er'.loc;rw [loc]at hm;have hCw:Wf Γ.tbl cenv C:=.inl loc.symm;have f:=er'.foreign hCw;refine K hD C as' h' tk m (gr'.show hne) (er.go go') go' ?_ hm ⟨fun q=>f.off (hide_mem.mpr (.inr q)),f.kind⟩ (hf0 _ hCnI) hCb fun hw=>?_
   ·simp only [Rep]
    exact⟨hD,vals',rfl,(a6x gr'.nd).2,hp',by simpa using hr'.show⟩
   ·obtain⟨_,_,o,e,_⟩:=er.held hw
    rw [hf0 _ hCnI]at e;exact ns e
  have loop:=c6d (A:=A) (R:=compPost (model prog w) A E use Q (.ref hD) C) (D:=hD) (it:=it) (pos:=pos) (h₀:=s.heap) (as₀:=as) H TT rm (ScR.comp (by rw [hcenv])) nd te tt ti (wk A rm.calm) hS hl (hf0 _ hDn) hWf hW0 (fun a ha=>((wk A rm.calm).fresh a ha).1) hCo hW vs 0 _ μ₁ μ' zs asI { s with heap:=h₃,toks:=tkI} [] [] rfl (Nat.zero_le _) (Nat.le_refl _) h2 gI.ne erc gT hst ⟨0,hDoK⟩ (by simp [Reps]) goK hR;have both:=codeAny_compStart_list loop ((wk A rm.calm).self 0 (hide hD asI) { s with heap:=h₃,toks:=tkI} _ _ hst loop);rw [hcenv,hhC,hhJ,hhD]at both;exact both
end
end
section
section
variable{prog:Program}{w:World}{Lx:LxP}{base:Heap}{Γ:G}
variable{A:Around}{E:Value->Shared->Prop}{env:Env}{ρ:Rho}{as:List (List Addr)}{s:Shared}{sc cs:Scope}
theorem d3t(S:Snd prog w Lx base Γ)(nd:∀(i j:Nat) (x:Str),Γ.tbl[i]?=some x->Γ.tbl[j]?=some x->i=j){n k:Nat}{elt tg it:Expr}{ifs:List Expr}{pos:Pos}{x ix:X}{t:T}{xs:List X}{own:List Nat}{μ μ':Mu}{zs:List V}{Q:Value->Shared->Prop}
  (H:a7g prog w Lx base Γ n) (TT:a7f prog w Lx base Γ n) (rm:Room A n) (c:ScR sc env) (co:b3p sc cs Γ.tbl=true) (he:b0m tg it=true) (te:trE Γ.tbl k cs elt=some x) (tt:a1u Γ.tbl cs tg=some t) (tit:trE.trI Γ.tbl k sc it=some ix) (ti:a1k (trE Γ.tbl k cs) ifs=some xs) (ho:c5e cs Γ.tbl=some own)
  (er:ER Γ.tbl base env ρ as s.heap) (gr:GR Lx base μ as s.heap) (RR:e5y prog w Lx base Γ A E env as s tg it n x t xs (ρ.filter fun p=>!own.contains p.1) zs μ')
  (hQ:Post Lx base as s (.lst zs) μ' Q):wpAny (model prog w) A (eval (.ListComp elt [⟨tg,it,ifs,0⟩] cs pos) env) Q E s:=by
 show wpAny (model prog w) A (comprehension (.ListComp elt [⟨tg,it,ifs,0⟩] cs pos) cs env (firstIterPos [⟨tg,it,ifs,0⟩] pos) (newList []) false (eval it env)) Q E s;refine b6f S nd H TT rm c co he te tt tit ti ho er gr RR fun D C as' h' tk m g er' go r hm f hC hb hw=>?_;refine⟨m,hm,fun h'' hs=>?_⟩;have y:∀ a o,a≠C->h'.get? a=some o->h''.get? a=some o:=fun a o ha e=>(hs.2 a ha).trans e;exact hQ (.ref D) as' h'' tk (g.mod f hb y) (go.mod hC f.off y) (r.ks (f.ks y))
theorem e0m{n k:Nat}{a:Expr}{lo hi st:Option Expr}{p pos:Pos}{x:X}{xl xh xs:Option X}{u r:V}{vl vh vst:Option V}{pl ph ps:Option Int}{μ μ₁ μ₂ μK μL:Mu}{Q:Value->Shared->Prop}(H:a7g prog w Lx base Γ n)(rm:Room A n)(c:ScR sc env)
  (ta:trE Γ.tbl k sc a=some x) (tl:d6v (trE Γ.tbl k sc) lo=some xl) (th:d6v (trE Γ.tbl k sc) hi=some xh) (ts:d6v (trE Γ.tbl k sc) st=some xs)
  (er:ER Γ.tbl base env ρ as s.heap) (gr:GR Lx base μ as s.heap) (h1:ev Γ n x ρ μ=some (u,μ₁)) (h2:evo (fun x μ=>ev Γ n x ρ μ) xl μ₁=some (vl,μ₂)) (h3:evo (fun x μ=>ev Γ n x ρ μ) xh μ₂=some (vh,μK)) (h4:evo (fun x μ=>ev Γ n x ρ μ) xs μK=some (vst,μL))
  (p1:b5k vl=some pl) (p2:b5k vh=some ph) (p3:b5k vst=some ps) (hr:a1y (a1n μL u) pl ph ps=some r) (hQ:Post Lx base as s r μL Q):wpAny (model prog w) A (eval (.Subscript a (.Slice lo hi st p) pos) env) Q E s:=by
 refine Subscript_ (a0u H ta rm c er gr h1 fun av asI hY tkI gI erI goI ra=>wpAny_Slice ?_);refine c5o H rm c tl erI gI h2 fun lv asJ hJ tkJ gJ erJ goJ pl'=>?_;refine c5o H rm c th erJ gJ h3 fun hv asK h₃ tkK gT erK goK ph'=>?_;refine c5o H rm c ts erK gT h4 fun sv asL hU tkL gU erL goL ps'=>?_;have raL:=((ra.go goJ).go goK).go goL;have gM:=gU.push { cls:=.type "slice",data:=.fields #[lv,hv,sv]}
 have goM:=gU.go.push { cls:=.type "slice",data:=.fields #[lv,hv,sv]}
 have goA:=(((goI.trans goJ).trans goK).trans goL).trans goM;have hsl:(hU.push { cls:=.type "slice",data:=.fields #[lv,hv,sv]}).IsSliceOf hU.objs.size lv hv sv:=⟨_,Heap.get?_push_size _ rfl,rfl,rfl⟩
 have rl:=a1a gM (raL.go goM);have core:=d1l (prog:=prog) (w:=w) (A:=A) (E:=E) (s:={ s with heap:=hU.push { cls:=.type "slice",data:=.fields #[lv,hv,sv]},toks:=tkL}) hr rl hsl (pl' _ p1) (ph' _ p2) (ps' _ p3) gM (hQ.after goA)
 have hsub:∀ o i:Value,∃ ops,subscripted (.Slice lo hi st p) false o i=operate ops (getItem o i):=by
  intro o i;induction st using Option.casesOn with
  | none=>exact⟨_,rfl⟩
  | some e=>exact⟨_,rfl⟩
 obtain⟨ops,hops⟩:=hsub av (.ref hU.objs.size);induction hk:a1n μL u using Mine.V.casesOn with
 | lst l=>
  rw [hk]at rl;obtain⟨aa,vs,rfl,hp,_⟩:=rl;exact tail_any hp.isList.typeIs slot_list_getitem.lookup core hops
 | tup l=>
  rw [hk]at rl;obtain⟨aa,vs,rfl,_,hp,_⟩:=rl;exact tail_any (T:="tuple") hp.typeIs slot_tuple_getitem.lookup core hops
 | str l=>
  rw [hk]at rl;obtain⟨_,rfl⟩:=rl;exact tail_any (typeIs_str _ _ _) slot_str_getitem.lookup core hops
 | _=>rw [hk]at hr;exact ifN hr fun zz h=>ns h
section
variable{h h':Heap}{μ:Mu}
theorem GR.new(g:GR Lx base μ as h){ads:List Addr}{m:M}(kp:∀ b o,h.get? b=some o->h'.get? b=some o)(fr:∀ a∈ads,h.get? a=.none)(nd:ads.Nodup)(al:∀ a∈ads,∃ o,h'.get? a=some o)
  (hm:e0q Lx h' (as++[ads]) m ads):GR Lx base (μ++[m]) (as++[ads]) h'/\Go as h (as++[ads]) h':=by
 have go:Go as h (as++[ads]) h':=by
  refine⟨⟨[ads],rfl,by simpa using fr⟩,fun b o zz e=>kp b o e,fun b hb=>?_⟩;rw [List.flatten_append,List.mem_append]at hb;rcases hb with hb | hb
  ·obtain⟨o,e⟩:=g.alive b hb;exact⟨o,kp b o e⟩
  ·exact al b (by simpa using hb)
 refine⟨⟨fun b o e=>kp b o (g.keep b o e),fun b hb=>?_,?_,go.alive,by rw [List.length_append,List.length_append,g.len];rfl,fun j M ads' hj hads=>?_⟩,go⟩
 ·rw [List.flatten_append,List.mem_append]at hb
  rcases hb with hb | hb
  ·exact g.fresh b hb
  ·have:=fr b (by simpa using hb)
   induction q:base.get? b using Option.casesOn with
   | none=>rfl
   | some o=>rw [g.keep b o q]at this;cases this
 ·rw [List.flatten_append,List.nodup_append]
  refine⟨g.nd,by simpa using nd,fun a ha b hb q=>?_⟩;subst q;obtain⟨o,e⟩:=g.alive a ha;rw [fr a (by simpa using hb)]at e;exact ns e
 ·by_cases q:j<μ.length
  ·rw [List.getElem?_append_left q]at hj
   rw [List.getElem?_append_left (by rw [g.len];omega)]at hads;have hM:=g.mus j M ads' hj hads;induction M using Mine.M.casesOn with
   | list l'=>
    obtain⟨b,us,rfl,⟨m',hp⟩,hr⟩:=hM;exact⟨b,us,rfl,⟨m',kp b _ hp⟩,hr.go go⟩
   | obj is n'=>exact let⟨rs,e1,e2⟩:=hM;⟨rs,b1d (fun j l e=>by rw [List.getElem?_append_left (List.getElem?_eq_some_iff.mp e).1];exact e) e1,Lx.keep e2 fun b hb o e=>kp b o e⟩
  ·have hj':j=μ.length:=by
    have:=(List.getElem?_eq_some_iff.mp hj).1;simp at this;omega
   subst hj';rw [List.getElem?_append_right (Nat.le_refl _)]at hj;rw [List.getElem?_append_right (by rw [g.len];omega)]at hads;have hz:μ.length+1-as.length=0:=by rw [g.len];omega
   rw [hz]at hads;simp only [Nat.sub_self,List.getElem?_cons_zero,Option.some.injEq]at hj hads;subst hj;subst hads;exact hm
end
theorem c4h{as:List (List Addr)}{h:Heap}:∀ {n:Nat} {l:List Value} (f:Nat->Int),l.length=n->(∀ j v,l[j]?=some v->∃ t,v=Value.int (f j) t)->Reps h as ((List.range n).map fun i=>V.int (f i)) l:=by
 intro n;induction n with
 | zero=>
  intro l f hl _;exact List.eq_nil_of_length_eq_zero hl
 | succ n ih=>
  intro l f hl hk;induction l using List.casesOn with
  | nil=>cases hl
  | cons v l=>
   rw [List.range_succ_eq_map,List.map_cons,List.map_map];exact .cons (hk 0 v rfl) (ih (fun j=>f (j+1)) (Nat.succ.inj hl) fun j v hv=>hk (j+1) v hv)
theorem c3w{f:Value}{e:Expr}{pos:Pos}{Q:Args->Shared->Prop}(he:a1v e=true)(h:wpAny (model prog w) A (eval e env) (fun v s'=>Q ⟨[v],[]⟩ s') E s):wpAny (model prog w) A (evalArgs f true (backTo pos (starEach [e] env)) []) Q E s:=by
 have:=wpAny_items_cons (pos:=pos) (Q:=fun vs s'=>Q ⟨vs,[]⟩ s') (wpAny_mono h (fun v s' h'=>wpAny_items_nil (pos:=pos) (env:=env) (Q:=fun vs s'=>Q ⟨v::vs,[]⟩ s') h') fun zz zz e=>e) (a1b he);rw [a1b he]at this ⊢;exact evalArgs_plain this
theorem c7u(S:Snd prog w Lx base Γ){n k:Nat}{e:Expr}{ar:List Expr}{xs:List X}{μ μ':Mu}{r:V}{Q:Value->Shared->Prop}(H:a7g prog w Lx base Γ n)(rm:Room A n)(c:ScR sc env)(hl:e5l sc e=some ar)(t:a1k (trE Γ.tbl k sc) ar=some xs)
  (er:ER Γ.tbl base env ρ as s.heap) (gr:GR Lx base μ as s.heap) (h:ev Γ (n+1) (.lrange xs) ρ μ=some (r,μ')) (hQ:Post Lx base as s r μ' Q):wpAny (model prog w) A (eval e env) Q E s:=by
 refine e0y hl fun p1 p2 p3 p4 eq h1 h2 h3=>?_;subst eq;rw [a6m]at h;refine c4q h fun vs μ₁ hv h=>a0h h fun l hr h=>ifS h fun hz h=>?_;refine wpAny_Call_ofName (a2w (x:="list") (by decide +kernel) h1 c er gr S.list (PyProof.Rows.callWith_type rfl (c3w rfl ?_)))
 refine b1c H rm c h2 c0f S.range h3 t er gr hv fun vals asI hY tk g go rv=>?_;refine b3r hr rv fun a b cc t u v tk hs e=>?_;subst e;have hlen:(a0p a b cc).length=(Builtin.Range.rangeSize a b cc).toNat:=(List.length_map _).trans List.length_range;have hn:(Builtin.Range.rangeSize a b cc).toNat<=2^24:=by rw [← hlen];exact Nat.le_trans hz (by decide)
 refine call_list_range rm.calm (IsRange.new ..) hs (PyProof.Rows.rangeSize_toNat a b cc) hn fun h' tk' acc cu hk hS hI=>?_;have gI:=g.push { cls:=.type "range",data:=.fields #[.int a t,.int b u,.int cc v]}
 have goA:=(go.push { cls:=.type "range",data:=.fields #[.int a t,.int b u,.int cc v]})
 have hr':∀ as':List (List Addr),Reps h' as' (a0p a b cc) acc.toList:=fun as'=>c4h _ (by simpa using hI.1) fun j v hv=>hI.2 j v (by simpa using hv);obtain⟨gJ,goJ⟩:=gI.all (h':=h') fun a o zz e=>hk a o e;refine ifE h (fun zz h=>?_) fun zz h=>?_
 ·obtain⟨gT,goK⟩:=gI.new (h':=h') (ads:=[(hY.push { cls:=.type "range",data:=.fields #[.int a t,.int b u,.int cc v]}).objs.size]) (m:=.list (a0p a b cc)) hk (fun a ha=>by rw [List.mem_singleton]at ha;subst ha;exact a0y _) (List.nodup_cons.mpr ⟨List.not_mem_nil,List.nodup_nil⟩)
   (fun a ha=>by rw [List.mem_singleton]at ha;subst ha;exact⟨_,hS⟩) ⟨_,acc.toList,rfl,⟨cu,hS⟩,hr' _⟩
  refine spQ h hQ _ _ h' tk' gT (goA.trans goK) ⟨_,[],?_,rfl⟩;rw [List.getElem?_append_right (Nat.le_of_eq gI.len),gI.len];simp
 ·refine spQ h hQ _ _ h' tk' gJ (goA.trans goJ) ⟨_,acc.toList,rfl,fun hm=>?_,⟨cu,hS⟩,hr' _⟩
  obtain⟨o,e⟩:=gI.alive _ hm;rw [a0y]at e;exact ns e
theorem b9r{k:Nat}{e:Expr}{x:X}(t:trE Γ.tbl k sc e=some x):∀ lo hi st p,e≠.Slice lo hi st p:=by
 intro lo hi st p q;subst q;cases k<;>exact ns t
theorem f0z{α:Type}{r:α}{G:Prop}{e:Option (V×Mu)}{f:Int->Mu->Option α}(h:(match e with | some (.int i,μ)=>f i μ | _=>.none)=some r)(k:∀ i μ,e=some (.int i,μ)->f i μ=some r->G):G:=by
 induction e using Option.casesOn with
 | none=>exact ns h
 | some p=>cases p with | mk v μ=>induction v using Mine.V.casesOn<;>first | exact k _ _ rfl h | exact ns h
theorem f0a{γ:Type}{r:γ}{P:Prop}{a b c:Option (Option Int)}{f:Option Int->Option Int->Option Int->Option γ}(h:(match a,b,c with | some l,some h,some s=>f l h s | _,_,_=>.none)=some r)(k:∀ l h s,a=some l->b=some h->c=some s->f l h s=some r->P):P:=by
 induction a using Option.casesOn with
 | none=>exact ns h
 | some a=>induction b using Option.casesOn with
  | none=>exact ns h
  | some b=>induction c using Option.casesOn with
   | none=>exact ns h
   | some c=>exact k _ _ _ rfl rfl rfl h
theorem f0f(tbl:List Str)(k:Nat)(sc:Scope)(a i:Expr)(pos:Pos):(∃ lo hi st p,i=.Slice lo hi st p)∨trE tbl (k+1) sc (.Subscript a i pos)=(e1g sc a).elim ((trE tbl k sc a).bind fun a=>(trE tbl k sc i).map fun i=>.sub a i) fun g=>(nid tbl g).bind fun j=>(trE tbl k sc i).map fun i=>.subG j i:=by
 generalize hq:((e1g sc a).elim ((trE tbl k sc a).bind fun a=>(trE tbl k sc i).map fun i=>X.sub a i) fun g=>(nid tbl g).bind fun j=>(trE tbl k sc i).map fun i=>.subG j i)=q;induction i using PySem.Expr.casesOn with
 | Slice lo hi st p=>exact .inl ⟨lo,hi,st,p,rfl⟩
 | _=>exact .inr hq
theorem d6t(S:Snd prog w Lx base Γ)(nd:∀(i j:Nat) (x:Str),Γ.tbl[i]?=some x->Γ.tbl[j]?=some x->i=j)(n:Nat)(H:a7g prog w Lx base Γ n)(TT:a7f prog w Lx base Γ n):a7g prog w Lx base Γ (n+1):=by
 intro x k sc e t A E env ρ μ as s r μ' Q rm c er gr h hQ;have rm':=rm.less (Nat.le_succ n);induction k using Nat.casesOn with
 | zero=>exact ns t
 | succ k=>
  induction e using PySem.Expr.casesOn with
  | Constant v _ _=>exact a1e t fun v t e1=>e3b t gr (spQ (evx e1 h) hQ)
  | Name x p=>
   exact ifN t fun hd t=>ifE t
    (fun hv t=>a1e t fun i t e1=>d5m (evx e1 h) hQ fun v hl hQ=>e0r (Bool.eq_false_iff.mpr hd) hv t c er gr hl hQ)
    fun zz t=>ifS t fun hv t=>a1e t fun i t e1=>d5m (evx e1 h) hQ fun v hl hQ=>by
     obtain⟨x',u,h1,h2,h3⟩:=S.glob i v hl;cases (a0o t).symm.trans h1;exact a2w (f0g hd) hv c er gr h2 (hQ.now gr (h3 _ _))
  | BinOp l op r0 p=>
   exact a0h t fun a t1 t=>a1e t fun b t2 e=>a7c (evx e h) fun u μ₁ h1 h=>a7c h fun v μ₂ h2 h=>d5m h hQ fun r hb hQ=>
    wpAny_BinOp (b4q H t1 t2 rm' c er gr h1 h2 fun a b asI hY tk gI erI goI ra rb=>d0s hb (a1a gI ra) (a1a gI rb) rm.calm gI (hQ.after goI))
  | UnaryOp op y p=>cases op with
   | USub=>
    exact a1e t fun y t e1=>f0z (evx e1 h) fun i μ₁ h1 h=>UnaryOp_ (a0u H t rm' c er gr h1 fun a asI hY tk gI erI goI ra=>by
     obtain⟨tt,rfl⟩:=ra;exact PyProof.Rows.neg_int (((spQ h hQ).after goI).now gI ⟨_,rfl⟩))
   | Not=>exact a1e t fun y t e1=>a7c (evx e1 h) fun v μ₁ h1 h=>d5m h hQ fun b hb hQ=>UnaryOp_ (a0u H t rm' c er gr h1 fun a asI hY tk gI erI goI ra=>not_of (a6s hb (a1a gI ra) fun tk'=>hQ _ asI hY tk' gI goI rfl))
   | _=>exact ns t
  | Compare l ops rs p=>induction ops using List.casesOn with
   | nil=>exact ns t
   | cons o1 ops=>induction ops using List.casesOn with
    | nil=>induction rs using List.casesOn with
     | nil=>exact ns t
     | cons r1 rs=>induction rs using List.casesOn with
      | nil=>
       obtain⟨hm,_,core⟩:=b1u S H t rm c er gr h hQ;exact wpAny_Compare1 core hm
      | cons _ _=>exact ns t
    | cons o2 ops=>induction ops using List.casesOn with
     | nil=>induction rs using List.casesOn with
      | nil=>exact ns t
      | cons r1 rs=>induction rs using List.casesOn with
       | nil=>exact ns t
       | cons r2 rs=>induction rs using List.casesOn with
        | nil=>exact d0g H t rm c er gr h hQ
        | cons _ _=>exact ns t
     | cons _ _=>induction rs using List.casesOn with
      | nil=>exact ns t
      | cons _ rs=>cases rs<;>exact ns t
  | BoolOp op l p=>cases op with
   | And=>exact a1e t fun y t e1=>d5t H rm' c _ _ _ _ _ _ _ _ _ t er gr (evx e1 h) hQ
   | Or=>exact a1e t fun y t e1=>e0i H rm' c _ _ _ _ _ _ _ _ _ t er gr (evx e1 h) hQ
  | IfExp c0 a b p=>
   exact a0h t fun y0 t9 t=>a0h t fun y1 t1 t=>a1e t fun y2 t2 e=>a7c (evx e h) fun v μ₁ h1 h=>d2e h
    (fun hb1 h=>wpAny_IfExp (TT y0 k sc _ t9 A E env ρ μ as s v true μ₁ _ rm' c er gr h1 hb1 fun as' h' tk g go=>H y1 k sc _ t1 A E env ρ μ₁ as' _ r μ' Q rm' c (er.go go) g h (hQ.after go)))
    fun hb1 h=>wpAny_IfExp (TT y0 k sc _ t9 A E env ρ μ as s v false μ₁ _ rm' c er gr h1 hb1 fun as' h' tk g go=>H y2 k sc _ t2 A E env ρ μ₁ as' _ r μ' Q rm' c (er.go go) g h (hQ.after go))
  | Tuple l _ p=>
   exact ifS t fun hp t=>a1e t fun y t e1=>c4q (evx e1 h) fun vs μ₁ h1 h=>ifS h fun hlen h=>
    wpAny_Tuple_spliced (c1q H rm' c _ _ _ _ _ _ _ _ _ hp t er gr h1 fun vals as' h' tk g go rv=>⟨by rw [rv.length];exact a2a hlen,((spQ h hQ).after go).new g (a6b (s:={ s with heap:=h',toks:=tk}) g rv)⟩)
  | List l p=>
   exact ifS t fun hp t=>a1e t fun y t e1=>c4q (evx e1 h) fun vs μ₁ h1 h=>ifS h fun hlen h=>
    wpAny_List_spliced (c1q H rm' c _ _ _ _ _ _ _ _ _ hp t er gr h1 fun vals as' h' tk g go rv=>⟨by rw [rv.length];exact a2a hlen,((spQ h hQ).after go).new g (a4y (s:={ s with heap:=h',toks:=tk}) g rv)⟩)
  | Subscript a i p=>
   rcases f0f Γ.tbl k sc a i p with⟨lo,hi,st,p',rfl⟩ | q
   ·exact a0h t fun y t1 t=>a0h t fun yl t2 t=>a0h t fun yh t3 t=>a1e t fun ys t4 e=>a7c (evx e h) fun u μ₁ h1 h=>e7l h fun vl μ₂ h2 h=>e7l h fun vh μK h3 h=>e7l h fun vst μL h4 h=>f0a h fun pl ph ps p1 p2 p3 h=>d5m h hQ fun r hr hQ=>
     e0m H rm' c t1 t2 t3 t4 er gr h1 h2 h3 h4 p1 p2 p3 hr hQ
   ·exact c2d (q.symm.trans t)
     (fun g hg t=>a0h t fun j hj t=>a1e t fun y t1 e=>e8y (evx e h) fun x μ₁ l' h1 hd h=>d5m h hQ fun kk hl hQ=>by
      obtain⟨p,rfl,hglb,hdbg⟩:=b7f hg;obtain⟨g',ad,hx,gn,tab⟩:=S.dic j l' hd;cases (a0o hj).symm.trans hx;refine Subscript_ (a2w hdbg hglb c er gr gn (a0u H t1 rm' c er gr h1 fun a asI hY tk gI erI goI ra=>?_));obtain⟨tt,rfl⟩:=ra;refine item_strTab (D:=d2p l') (dv:=.int kk) (tab.keep gI.keep) (by rw [b3j,hl];rfl) (fun v hv=>?_) (b1i (b9r t1) _ _) (fun zz=>rfl);obtain⟨tt',rfl⟩:=hv.int_inv;exact(hQ.after goI).now gI ⟨_,rfl⟩)
     fun zz t=>a0h t fun y t1 t=>a1e t fun z t2 e=>a7c (evx e h) fun u μ₁ h1 h=>a7c h fun v μ₂ h2 h=>d5m h hQ fun r hr hQ=>
      Subscript_ (b4q H t1 t2 rm' c er gr h1 h2 fun a b asI hY tk gI erI goI ra rb=>e3n hr (a1a gI ra) rb gI (b1i (b9r t2) _ _) (hQ.after goI))
  | Call f args kws p=>induction f using PySem.Expr.casesOn with
   | Name f p'=>induction kws using List.casesOn with
    | nil=>
     refine c2d t (fun ar hl t=>a1e t fun xs t e1=>c7u S H rm' c hl t er gr (evx e1 h) hQ) fun hl t=>?_;exact ifS t fun hq t=>a0h t fun i hi t=>a1e t fun l t e1=>c4q (evx e1 h) fun vs μ₁ h1 h=>by
      obtain⟨x',f,hx,gn,hf,hc⟩:=S.call n i vs μ₁ r μ' h;cases (a0o hi).symm.trans hx;exact wpAny_Call_ofName (a2w (c4p (a0n (a0e hq))) (a0e (a0e (a0e (a0e hq)))) c er gr gn (b2a (us:=[]) (first:=[]) H rm' c (a0n (a0e (a0e (a0e hq)))) t er gr h1 hf .nil hc hQ))
    | cons _ _=>exact ns t
   | Attribute o m p'=>induction kws using List.casesOn with
    | nil=>
     exact ifS t fun hq t=>a0h t fun i hi t=>a0h t fun o to t=>a1e t fun l tl e1=>a7c (evx e1 h) fun u μ₁ h1 h=>ifS h fun hf h=>c4q h fun vs μ₂ h2 h=>
      d7w S H rm' c hi to tl (a0e (a0e hq)) (of_decide_eq_true (a0n (a0e hq))) (a0n hq) er gr h1 hf h2 h hQ
    | cons _ _=>exact ns t
   | _=>exact ns t
  | Attribute o m p=>exact a0h t fun i hi t=>a1e t fun o to e=>a7c (evx e h) fun u μ₁ h1 h=>d5m h hQ fun r hr hQ=>d8s S H rm' c hi to er gr h1 hr hQ
  | ListComp elt gens cs p=>induction gens using List.casesOn with
   | nil=>exact ns t
   | cons g gs=>induction gs using List.casesOn with
    | cons _ _=>cases g with | mk _ _ _ i=>induction i using Int.casesOn with
     | negSucc _=>exact ns t
     | ofNat i=>cases i<;>exact ns t
    | nil=>cases g with | mk tg it ifs i=>cases i with
     | negSucc _=>exact ns t
     | ofNat i=>induction i using Nat.casesOn with
     | succ _=>exact ns t
     | zero=>
      exact ifS t fun hq t=>a0h t fun e1 h1 t=>a0h t fun t1 h2 t=>a0h t fun it1 h3 t=>a0h t fun ifs1 h4 t=>a1e t fun own1 h5 e=>c2b S H rm' c (a0n hq) h2 h3 er gr (evx e h) fun ys μ₂ RR h=>
       d3t S nd H TT rm' c (a0e hq) (a0n hq) h1 h2 h3 h4 h5 er gr RR (spQ h hQ)
  | _=>exact ns t
end
end
section
section
variable{prog:Program}{w:World}{Lx:LxP}{base:Heap}{Γ:G}
variable{A:Around}{E:Value->Shared->Prop}{env:Env}{ρ:Rho}{as:List (List Addr)}{s:Shared}{sc cs:Scope}
theorem a4n(S:Snd prog w Lx base Γ)(nd:∀(i j:Nat) (x:Str),Γ.tbl[i]?=some x->Γ.tbl[j]?=some x->i=j):∀ n,a7g prog w Lx base Γ n/\a7f prog w Lx base Γ n:=by
 intro z_;induction z_ with
 | zero=>
  exact⟨fun x k sc e t A E env ρ μ as s r μ' Q rm c er gr h=>ns h,fun x k sc e t A E env ρ μ as s r b μ' Q rm c er gr h=>ns h⟩
 | succ n ih=>
  obtain⟨H,TT⟩:=ih;have H1:=d6t S nd n H TT;exact⟨H1,c6h S n H H1 TT⟩
theorem GR.newList{μ:Mu}{h:Heap}{vs:List V}{vals:List Value}(g:GR Lx base μ as h)(r:Reps h as vs vals) :
  GR Lx base (μ++[.list vs]) (as++[[h.objs.size]]) (h.push { cls:=.type "list",data:=.seq vals.toArray})/\Go as h (as++[[h.objs.size]]) (h.push { cls:=.type "list",data:=.seq vals.toArray}):=by
 have off:=g.top_off;have hnew:(h.push { cls:=.type "list",data:=.seq vals.toArray}).get? h.objs.size=some { cls:=.type "list",data:=.seq vals.toArray}:=Heap.get?_push_size _ rfl
 have fl:∀ a,a∈(as++[[h.objs.size]]).flatten↔a∈as.flatten∨a=h.objs.size:=fun a=>by simp [List.flatten_append]
 have go:Go as h (as++[[h.objs.size]]) (h.push { cls:=.type "list",data:=.seq vals.toArray}):=by
  refine⟨⟨[[h.objs.size]],rfl,fun a ha=>?_⟩,fun a o zz e=>Heap.get?_push_of_some _ e,fun a ha=>?_⟩
  ·simp only [List.flatten_cons,List.flatten_nil,List.append_nil,List.mem_singleton]at ha
   subst ha;exact a0y h
  ·rcases(fl a).mp ha with ha | rfl
   ·obtain⟨o,e⟩:=g.alive a ha;exact⟨o,Heap.get?_push_of_some _ e⟩
   ·exact⟨_,hnew⟩
 refine⟨⟨fun a o e=>Heap.get?_push_of_some _ (g.keep a o e),fun a ha=>?_,?_,go.alive,by simp [g.len],fun k m ads hk ha=>?_⟩,go⟩
 ·rcases(fl a).mp ha with ha | rfl
  ·exact g.fresh a ha
  ·exact g.top_base
 ·rw [List.flatten_append]
  refine List.nodup_append.mpr ⟨g.nd,by simp,fun a ha b hb q=>?_⟩;simp only [List.flatten_cons,List.flatten_nil,List.append_nil,List.mem_singleton]at hb;subst hb;subst q;exact off ha
 ·by_cases hlt:k<μ.length
  ·rw [List.getElem?_append_left hlt]at hk
   rw [List.getElem?_append_left (by rw [g.len];omega)]at ha;have hm:=g.mus k m ads hk ha;induction m using Mine.M.casesOn with
   | list l=>
    obtain⟨a,vs',rfl,⟨n,hp⟩,hr⟩:=hm;exact⟨a,vs',rfl,⟨n,Heap.get?_push_of_some _ hp⟩,hr.go go⟩
   | obj is n=>exact let⟨rs,e1,e2⟩:=hm;⟨rs,b1d (fun j l e=>by rw [List.getElem?_append_left (List.getElem?_eq_some_iff.mp e).1];exact e) e1,Lx.keep e2 fun a zz o e=>Heap.get?_push_of_some _ e⟩
  ·have hk':k=μ.length:=by
    have:=(List.getElem?_eq_some_iff.mp hk).1;simp at this;omega
   subst hk';rw [List.getElem?_append_right (Nat.le_refl _)]at hk;rw [List.getElem?_append_right (by rw [g.len];omega)]at ha;have hz:μ.length+1-as.length=0:=by rw [g.len];omega
   rw [hz]at ha;simp only [Nat.sub_self,List.getElem?_cons_zero,Option.some.injEq]at hk ha;subst hk;subst ha;exact⟨_,vals,rfl,⟨0,hnew⟩,r.go go⟩
noncomputable def trV(tbl:List Str)(k:Nat)(sc:Scope)(m:Bool)(e:Expr):Option X:=
 if m then(match e with
  | .List l _=>if l.all a1v then(a1k (trE tbl k sc) l).map .mlst else .none
  | _=>.none)
 else trE tbl k sc e
theorem d4y(S:Snd prog w Lx base Γ)(nd:∀(i j:Nat) (x:Str),Γ.tbl[i]?=some x->Γ.tbl[j]?=some x->i=j){n k:Nat}{m:Bool}{e:Expr}{x:X}{r:V}{μ μ':Mu}{Q:Value->Shared->Prop}(t:trV Γ.tbl k sc m e=some x)(rm:Room A n)(c:ScR sc env)
  (er:ER Γ.tbl base env ρ as s.heap) (gr:GR Lx base μ as s.heap) (h:ev Γ n x ρ μ=some (r,μ')) (hQ:Post Lx base as s r μ' Q):wpAny (model prog w) A (eval e env) Q E s:=by
 refine ifE t (fun zz t=>?_) fun zz t=>(a4n S nd n).1 x k sc e t A E env ρ μ as s r μ' Q rm c er gr h hQ;induction e using PySem.Expr.casesOn with
 | List l pos=>
  refine ifS t fun hp t=>a1e t fun xs t1 e1=>?_;induction n using Nat.casesOn with
  | zero=>exact ns h
  | succ n=>
   refine c4q (evx e1 h) fun vs μ₁ h1 h=>ifS h fun hlen h=>?_;refine wpAny_List_spliced (c1q (a4n S nd n).1 (rm.less (Nat.le_succ n)) c _ _ _ _ _ _ _ _ _ hp t1 er gr h1 fun vals as' h' tk g go rv=>⟨by rw [rv.length];exact a2a hlen,?_⟩);obtain⟨g',go'⟩:=g.newList rv;refine spQ h hQ _ _ _ tk g' (go.trans go') ⟨h'.objs.size,[],?_,rfl⟩;rw [List.getElem?_append_right (Nat.le_of_eq g.len),g.len];simp
 | _=>exact ns t
noncomputable def isList:Expr->Bool
 | .List ..=>true
 | _=>false
noncomputable def b1y:Expr->Bool
 | .ListComp ..=>true
 | _=>false
noncomputable def e2l:Expr->Option Str
 | .Name x _=>some x
 | _=>.none
noncomputable def e8p{α β γ:Type}(f:α->β->Option γ):List α->List β->Option (List γ)
 | [],[]=>some []
 | a::r,b::q=>(f a b).bind fun c=>(e8p f r q).map fun d=>c::d
 | _,_=>.none
noncomputable def d7g(tbl:List Str)(k:Nat)(sc:Scope)(mt:List Str)(ts vs:List Expr):Option (List X):=
 e8p (fun t v=>(e2l t).bind fun x=>trV tbl k sc (mt.contains x&&isList v) v) ts vs
noncomputable def c0p:List Nat->Bool
 | []=>true
 | a::r=>!r.contains a&&c0p r
noncomputable def c1m:Expr->Option (Str×Str)
 | .Attribute (.Name x _) a _=>some (x,a)
 | _=>.none
theorem b4z{e:Expr}{q:Str×Str}(h:c1m e=some q):∃ p p',e=.Attribute (.Name q.1 p) q.2 p':=by
 induction e using PySem.Expr.casesOn with
 | Attribute o a p'=>induction o using PySem.Expr.casesOn with
  | Name x p=>obtain rfl:=Option.some.inj h;exact⟨p,p',rfl⟩
  | _=>exact ns h
 | _=>exact ns h
noncomputable def e1d:Expr->Option Str
 | .Constant (.str e) _ _=>some e
 | _=>.none
theorem c2l{e:Expr}{q:Str}(h:e1d e=some q):∃ k p,e=.Constant (.str q) k p:=by
 induction e using PySem.Expr.casesOn with
 | Constant c k p=>induction c using PySem.Const.casesOn with
  | str x=>obtain rfl:=Option.some.inj h;exact⟨k,p,rfl⟩
  | _=>exact ns h
 | _=>exact ns h
noncomputable def d0l(sc:Scope)(v:Expr):Option Str:=(a8e v).bind fun q=>match q.2 with
 | [a1,a2]=>(c1m a1).bind fun xa=>(e1d a2).bind fun e=>if q.1==("iter":Str)&&xa.2==("_read_char":Str)&&e==("":Str)&&a4q sc q.1&&a5o sc xa.1&&!(xa.1==("__debug__":Str))&&!(xa.1==("__classdict__":Str))then some xa.1 else .none
 | _=>.none
theorem c7a {sc:Scope} {v:Expr} {y:Str} {P:Prop} (h:d0l sc v=some y) (k:∀ p1 p2 p3 p4 p5 kd,v=.Call (.Name "iter" p1) [.Attribute (.Name y p2) "_read_char" p3,.Constant (.str "") kd p4] [] p5->a4q sc "iter" = true->a5o sc y=true->(y==("__debug__":Str))=false->(y==("__classdict__":Str))=false->P):P:=by
 refine a0h h fun q hq h'=>?_;clear h;obtain⟨f,args⟩:=q;obtain⟨p1,p5,rfl⟩:=a3p hq;induction args using List.casesOn with
 | nil=>exact ns h'
 | cons a1 args=>induction args using List.casesOn with
  | nil=>exact ns h'
  | cons a2 args=>induction args using List.casesOn with
   | cons _ _=>exact ns h'
   | nil=>
    refine a0h h' fun xa hx h=>a0h h fun e he h=>ifS h fun hc h9=>?_;obtain⟨p2,p3,rfl⟩:=b4z hx;obtain⟨kd,p4,rfl⟩:=c2l he;obtain rfl:=Option.some.inj h9;have h1:=a0e (a0e (a0e (a0e hc)));refine k p1 p2 p3 p4 p5 kd ?_ ?_ (a0n (a0e (a0e hc))) (c4p (a0n (a0e hc))) (c4p (a0n hc))
    ·rw [eq_of_beq (a0e (a0e h1)),eq_of_beq (a0n (a0e h1)),eq_of_beq (a0n h1)]
    ·rw [← eq_of_beq (a0e (a0e h1))];exact a0n (a0e (a0e (a0e hc)))
noncomputable def e8r(sc:Scope):Expr->Option Str
 | .Name x _=>if x==("fiter":Str)&&a5o sc x then some x else .none
 | _=>.none
noncomputable def d8v(sc:Scope)(v:Expr):Option Expr:=(a8e v).bind fun q=>match q.2 with
 | [e]=>if q.1==("_netrclex":Str)&&a4q sc q.1&&a1v e then some e else .none
 | _=>.none
theorem c6z {sc:Scope} {v e:Expr} {P:Prop} (h:d8v sc v=some e) (k:∀ p1 p2,v=.Call (.Name "_netrclex" p1) [e] [] p2->a4q sc "_netrclex" = true->a1v e=true->P):P:=by
 refine a0h h fun q hq h'=>?_;clear h;obtain⟨f,args⟩:=q;obtain⟨p1,p5,rfl⟩:=a3p hq;induction args using List.casesOn with
 | nil=>exact ns h'
 | cons a1 args=>induction args using List.casesOn with
  | cons _ _=>exact ns h'
  | nil=>
   refine ifS h' fun hc h9=>?_;obtain rfl:=Option.some.inj h9;have h1:=eq_of_beq (a0e (a0e hc));exact k p1 p5 (by rw [← h1]) (by rw [← h1];exact a0n (a0e hc)) (a0n hc)
noncomputable def trS(tbl:List Str)(mt:List Str):Nat->Scope->Stmt->Option S
 | 0,_,_=>.none
 | k+1,sc,st=>match st with
  | .Assign [.Name x _] v _=>if a1g sc x then(nid tbl x).bind fun i=>(d0l sc v).elim ((d8v sc v).elim ((trV tbl k sc (mt.contains x&&isList v) v).map (.assign i)) fun e=>(trE tbl k sc e).map (.lexer i)) fun y=>(nid tbl y).map (.fit i)else .none
  | .Assign [.Tuple ts _ _] (.Tuple vs _ _) _=>if vs.all a1v&&!(vs.all (constantsAlone 8))then(a1k (a9r tbl sc) ts).bind fun is=>(d7g tbl k sc mt ts vs).bind fun l=>if c0p is then some (.unpack is (.tup l))else .none
   else .none
  | .Assign [.Tuple ts _ _] v _=>(a1k (a9r tbl sc) ts).bind fun is=>(trE tbl k sc v).map fun e=>.unpack is e
  | .If c a b _=>(trE tbl k sc c).bind fun c=>(trSs tbl mt k sc a).bind fun a=>(trSs tbl mt k sc b).map fun b=>.ite c a b
  | .AugAssign (.Name x _) .Add e _=>if a1g sc x then(nid tbl x).bind fun i=>(trE tbl k sc e).map fun e=>.aug i .Add e else .none
  | .AugAssign (.Attribute (.Name x _) a _) .Add (.Constant (.int 1) _ _) _=>if a5o sc x&&a==("lineno":Str)&&!(x==("__debug__":Str))&&!(x==("__classdict__":Str))then(nid tbl x).map .line else .none
  | .For t it body [] _=>(e8r sc it).elim (if b0m t it then(a1u tbl sc t).bind fun t=>(trE.trI tbl k sc it).bind fun it=>(trSs tbl mt k sc body).map fun body=>.for t it body else .none)
    fun x=>(a1u tbl sc t).bind fun t=>(nid tbl x).bind fun i=>(trSs tbl mt k sc body).map fun b=>.chars t i b
  | .Return (some e) _=>(trE tbl k sc e).map .ret
  | .Expr e _=>if b1y e then .none else(trE tbl k sc e).map .expr
  | .Break _=>some .brk
  | .Continue _=>some .cont
  | _=>.none
where
 trSs (tbl:List Str) (mt:List Str):Nat->Scope->List Stmt->Option (List S)
 | 0,_,_=>.none
 | k+1,sc,l=>match l with
  | []=>some []
  | st::r=>(trS tbl mt k sc st).bind fun a=>(trSs tbl mt k sc r).map fun b=>a::b
end
end
section
noncomputable def a0d(Γ:G)(n:Nat)(s:S)(ρ:Rho)(μ:Mu):Option (F×Rho×Mu):=match s with
  | .assign i e=>match ev Γ n e ρ μ with
   | some (v,μ)=>some (.next,put i v ρ,μ)
   | .none=>.none
  | .unpack l e=>match ev Γ n e ρ μ with
   | some (v,μ)=>(a8t l v ρ).map fun ρ=>(.next,ρ,μ)
   | .none=>.none
  | .aug i op e=>match ρ.lookup i with
   | some u=>match ev Γ n e ρ μ with
    | some (v,μ)=>(c2r op u v).map fun r=>(.next,put i r ρ,μ)
    | .none=>.none
   | .none=>.none
  | .ite c a b=>match ev Γ n c ρ μ with
   | some (v,μ)=>match a3a (a1n μ v)with
    | some true=>exec Γ n a ρ μ
    | some false=>exec Γ n b ρ μ
    | .none=>.none
   | .none=>.none
  | .for t it body=>match a1w (fun x μ=>ev Γ n x ρ μ) it μ with
   | some (vs,μ)=>a3w (fun ρ μ=>exec Γ n body ρ μ) t vs ρ μ
   | .none=>.none
  | .ret e=>match ev Γ n e ρ μ with
   | some (v,μ)=>some (.ret v,ρ,μ)
   | .none=>.none
  | .expr e=>match ev Γ n e ρ μ with
   | some (_,μ)=>some (.next,ρ,μ)
   | .none=>.none
  | .lexer i e=>if Γ.lexOn&&decide (12<=n)then match ev Γ n e ρ μ with
   | some (.mut ks,μ)=>match μ[ks]? with
    | some (.obj [_,_] (-3))=>some (.next,put i (.mut (μ.length+1)) ρ,μ++a9e μ.length ks)
    | _=>.none
   | _=>.none
   else .none
  | .fit i j=>if Γ.lexOn&&decide (12<=n)then match ρ.lookup j with
   | some (.mut k)=>match μ[k]? with
    | some (.obj [_,_] m)=>if 1<=m then some (.next,put i (.mut μ.length) ρ,μ++[.obj [k] (-2)])else .none
    | _=>.none
   | _=>.none
   else .none
  | .chars t i body=>if Γ.lexOn&&decide (12<=n)then match ρ.lookup i with
   | some (.mut k)=>a3h (fun ρ μ=>exec Γ n body ρ μ) t k big ρ μ
   | _=>.none
   else .none
  | .line j=>match ρ.lookup j with
   | some (.mut k)=>match μ[k]? with
    | some (.obj is m)=>if 1<=m then some (.next,ρ,μ.set k (.obj is (m+1)))else .none
    | _=>.none
   | _=>.none
  | .brk=>some (.brk,ρ,μ)
  | .cont=>some (.cont,ρ,μ)
section
variable{Γ:G}{n:Nat}{ρ:Rho}{μ:Mu}{i:Nat}{e:X}{a b:List S}
theorem a9w:a0d Γ n (.assign i e) ρ μ=(match ev Γ n e ρ μ with
  | some (v,μ)=>some (.next,put i v ρ,μ)
  | .none=>.none):=rfl
theorem a9z{l:List Nat}:a0d Γ n (.unpack l e) ρ μ=(match ev Γ n e ρ μ with
  | some (v,μ)=>(a8t l v ρ).map fun ρ=>(.next,ρ,μ)
  | .none=>.none):=rfl
theorem d2n{op:Operator}:a0d Γ n (.aug i op e) ρ μ=(match ρ.lookup i with
  | some u=>match ev Γ n e ρ μ with
   | some (v,μ)=>(c2r op u v).map fun r=>(.next,put i r ρ,μ)
   | .none=>.none
  | .none=>.none):=rfl
theorem d1t:a0d Γ n (.ite e a b) ρ μ=(match ev Γ n e ρ μ with
  | some (v,μ)=>match a3a (a1n μ v)with
   | some true=>exec Γ n a ρ μ
   | some false=>exec Γ n b ρ μ
   | .none=>.none
  | .none=>.none):=rfl
theorem d2o{t:T}:a0d Γ n (.for t e a) ρ μ=(match a1w (fun x μ=>ev Γ n x ρ μ) e μ with
  | some (vs,μ)=>a3w (fun ρ μ=>exec Γ n a ρ μ) t vs ρ μ
  | .none=>.none):=rfl
theorem d2t:a0d Γ n (.ret e) ρ μ=(match ev Γ n e ρ μ with
  | some (v,μ)=>some (.ret v,ρ,μ)
  | .none=>.none):=rfl
theorem b9s:a0d Γ n (.expr e) ρ μ=(match ev Γ n e ρ μ with
  | some (_,μ)=>some (.next,ρ,μ)
  | .none=>.none):=rfl
theorem e5f{j:Nat}:a0d Γ n (.fit i j) ρ μ=(if Γ.lexOn&&decide (12<=n)then match ρ.lookup j with
  | some (.mut k)=>match μ[k]? with
   | some (.obj [_,_] m)=>if 1<=m then some (.next,put i (.mut μ.length) ρ,μ++[.obj [k] (-2)])else .none
   | _=>.none
  | _=>.none
  else .none):=rfl
theorem b4b{t:T}:a0d Γ n (.chars t i a) ρ μ=(if Γ.lexOn&&decide (12<=n)then match ρ.lookup i with
  | some (.mut k)=>a3h (fun ρ μ=>exec Γ n a ρ μ) t k big ρ μ
  | _=>.none
  else .none):=rfl
end
theorem d5v(Γ:G)(n:Nat)(ss:List S)(ρ:Rho)(μ:Mu):exec Γ (n+1) ss ρ μ=a3q (a0d Γ n) ss ρ μ:=rfl
section
variable{prog:Program}{w:World}{Lx:LxP}{base:Heap}{Γ:G}
variable{A:Around}{E:Value->Shared->Prop}{env:Env}{ρ:Rho}{as:List (List Addr)}{s:Shared}
noncomputable def e2x(h:Heap)(as:List (List Addr)):F->Flow->Prop
 | .next,.next=>True
 | .brk,.brk=>True
 | .cont,.cont=>True
 | .ret v,.ret u=>Rep h as v u
 | _,_=>False
noncomputable def SPost(Lx:LxP)(base:Heap)(tbl:List Str)(env:Env)(as:List (List Addr))(s:Shared)(f:F)(ρ':Rho)(μ':Mu)(Q:Flow->Shared->Prop):Prop:=
 ∀ fl as' h' tk,GR Lx base μ' as' h'->ER tbl base env ρ' as' h'->GoS (Wf tbl env) as s.heap as' h'->e2x h' as' f fl->Q fl { s with heap:=h',toks:=tk}
theorem SPost.after{f:F}{ρ':Rho}{μ':Mu}{asI:List (List Addr)}{hY:Heap}{tk:Nat}{Q:Flow->Shared->Prop}(hQ:SPost Lx base Γ.tbl env as s f ρ' μ' Q)(go:GoS (Wf Γ.tbl env) as s.heap asI hY)(hw:∀ a,Wf Γ.tbl env a->∃ o,hY.get? a=some o) :
  SPost Lx base Γ.tbl env asI { s with heap:=hY,toks:=tk} f ρ' μ' Q:=fun fl as' h' tk' g er go' r=>hQ fl as' h' tk' g er (go.trans go' hw) r
theorem ER.there{tbl:List Str}{h:Heap}(e:ER tbl base env ρ as h):∀ a,Wf tbl env a->∃ o,h.get? a=some o:=fun a ha=>let⟨_,_,o,ho,_⟩:=e.held ha;⟨o,ho⟩
theorem b4s{tbl:List Str}{h:Heap}(er:ER tbl base env ρ as h)(hn:∀ x,a1g env.scope x=true->(nid tbl x).isSome=true):∀ x,a1g env.scope x=true->InW (Wf tbl env) env x:=fun x hx=>by
 refine⟨hx,fun zz=>.inl rfl,fun c hk hc=>?_⟩;obtain⟨i,hi⟩:=Option.isSome_iff_exists.mp (hn x hx);exact .inr ⟨i,x,a0o hi,.inl hk,hc⟩
theorem b0o{tbl:List Str}{μ:Mu}{i:Nat}{x:Str}{u:V}{v:Value}{Q:Unit->Shared->Prop}(nd:∀(i j:Nat) (x:Str),tbl[i]?=some x->tbl[j]?=some x->i=j)(hx:nid tbl x=some i)(ho:a1g env.scope x=true)(er:ER tbl base env ρ as s.heap)(gr:GR Lx base μ as s.heap)(ru:Rep s.heap as u v)
  (hQ:c8f Lx base tbl env (Wf tbl env) as s (put i u ρ) μ Q):wpAny (model prog w) A (storeName env x v) Q E s:=
 b4w nd (a0o hx) ⟨ho,fun zz=>.inl rfl,fun c hk hc=>.inr ⟨i,x,a0o hx,.inl hk,hc⟩⟩ er gr ru hQ
theorem b6c{e:Expr}{tg:Option Expr}{line:Nat}{k:Nat}{x:X}{sc:Scope}{m:Bool}(hc:b1y e=false)(ht:(trV Γ.tbl k sc m e)=some x)(htg:tg.isSome=true):swapsWith e tg line env=pure false:=by
 induction e using PySem.Expr.casesOn with
 | ListComp _ _ _ _=>cases hc
 | SetComp _ _ _ _=>cases m<;>cases k<;>exact ns ht
 | DictComp _ _ _ _ _=>cases m<;>cases k<;>exact ns ht
 | _=>rfl
theorem c2j{k:Nat}{sc cs:Scope}{elt:Expr}{gens:List Comprehension}{cp:Pos}{y:X}{G:Prop}(t:trE Γ.tbl (k+1) sc (.ListComp elt gens cs cp)=some y)
  (K:∀ tg it ifs e1 t1 it1 ifs1 own,gens=[⟨tg,it,ifs,0⟩]->b3p sc cs Γ.tbl=true->b0m tg it=true->trE Γ.tbl k cs elt=some e1->a1u Γ.tbl cs tg=some t1->trE.trI Γ.tbl k sc it=some it1->a1k (trE Γ.tbl k cs) ifs=some ifs1->c5e cs Γ.tbl=some own->.comp e1 t1 it1 ifs1 own=y->G):G:=by
 induction gens using List.casesOn with
 | nil=>exact ns t
 | cons g gs=>induction gs using List.casesOn with
  | cons _ _=>cases g with | mk _ _ _ i=>induction i using Int.casesOn with
   | negSucc _=>exact ns t
   | ofNat i=>cases i<;>exact ns t
  | nil=>cases g with | mk tg it ifs i=>cases i with
   | negSucc _=>exact ns t
   | ofNat i=>induction i using Nat.casesOn with
   | succ _=>exact ns t
   | zero=>
    exact ifS t fun hq t=>a0h t fun e1 h1 t=>a0h t fun t1 h2 t=>a0h t fun it1 h3 t=>a0h t fun ifs1 h4 t=>a1e t fun own1 h5 e=>K tg it ifs e1 t1 it1 ifs1 own1 rfl (a0e hq) (a0n hq) h1 h2 h3 h4 h5 e
theorem spS{f fI:F}{ρI ρ₂:Rho}{μ₁ μ₂:Mu}{Q:Flow->Shared->Prop}(h:some (fI,ρI,μ₁)=some (f,ρ₂,μ₂))(hQ:SPost Lx base Γ.tbl env as s f ρ₂ μ₂ Q):SPost Lx base Γ.tbl env as s fI ρI μ₁ Q:=by cases h;exact hQ
theorem stx{y x:S}{n:Nat}{μ:Mu}{q:F×Rho×Mu}(e:y=x)(h:a0d Γ n x ρ μ=some q):a0d Γ n y ρ μ=some q:=e▸h
section
variable{α:Type}{r:α}{G:Prop}
theorem e4t{e:Option (V×Mu)}{f:Nat->Mu->Option α}(h:(match e with | some (.mut i,μ)=>f i μ | _=>.none)=some r)(k:∀ i μ,e=some (.mut i,μ)->f i μ=some r->G):G:=by
 induction e using Option.casesOn with
 | none=>exact ns h
 | some p=>cases p with | mk v μ=>induction v using Mine.V.casesOn<;>first | exact k _ _ rfl h | exact ns h
theorem lkM{e:Option V}{f:Nat->Option α}(h:(match e with | some (.mut i)=>f i | _=>.none)=some r)(k:∀ i,e=some (.mut i)->f i=some r->G):G:=by
 induction e using Option.casesOn with
 | none=>exact ns h
 | some v=>induction v using Mine.V.casesOn<;>first | exact k _ rfl h | exact ns h
theorem f0m{e:Option M}{f:Int->Option α}(h:(match e with | some (.obj [_,_] m)=>f m | _=>.none)=some r)(k:∀ a b m,e=some (.obj [a,b] m)->f m=some r->G):G:=by
 induction e using Option.casesOn with
 | none=>exact ns h
 | some m=>induction m using Mine.M.casesOn with
  | list _=>exact ns h
  | obj is m=>induction is using List.casesOn with
   | nil=>exact ns h
   | cons a is=>induction is using List.casesOn with
    | nil=>exact ns h
    | cons b is=>induction is using List.casesOn with
     | nil=>exact k a b m rfl h
     | cons _ _=>exact ns h
theorem e9n{e:Option M}{f:List Nat->Int->Option α}(h:(match e with | some (.obj is m)=>f is m | _=>.none)=some r)(k:∀ is m,e=some (.obj is m)->f is m=some r->G):G:=by
 induction e using Option.casesOn with
 | none=>exact ns h
 | some m=>induction m using Mine.M.casesOn with
  | list _=>exact ns h
  | obj is m=>exact k is m rfl h
theorem e9u{e:Option M}{a:Option α}(h:(match e with | some (.obj [_,_] (-3))=>a | _=>.none)=some r)(k:∀ x y,e=some (.obj [x,y] (-3))->a=some r->G):G:=by
 induction e using Option.casesOn with
 | none=>exact ns h
 | some m=>induction m using Mine.M.casesOn with
  | list _=>exact ns h
  | obj is n=>induction is using List.casesOn with
   | nil=>exact ns h
   | cons x is=>induction is using List.casesOn with
    | nil=>exact ns h
    | cons y is=>induction is using List.casesOn with
     | cons _ _=>exact ns h
     | nil=>induction n using Int.casesOn with
      | ofNat _=>exact ns h
      | negSucc m=>rcases m with _ | _ | _ | m<;>first | exact ns h | exact k x y rfl h
theorem e9k{e:Option V}{f:V->Option α}(h:(match e with | some a=>f a | .none=>.none)=some r)(k:∀ a,e=some a->f a=some r->G):G:=by
 induction e using Option.casesOn with
 | none=>exact ns h
 | some a=>exact k a rfl h
end
theorem b2p(S:Snd prog w Lx base Γ)(nd:∀(i j:Nat) (x:Str),Γ.tbl[i]?=some x->Γ.tbl[j]?=some x->i=j){n k i:Nat}{m:Bool}{x:Str}{p pos:Pos}{e:Expr}{y:X}{r:V}{μ μ':Mu}{Q:Flow->Shared->Prop}
  (hx:nid Γ.tbl x=some i) (ho:a1g env.scope x=true) (t:trV Γ.tbl k env.scope m e=some y) (rm:Room A n) (c:ScR env.scope env) (er:ER Γ.tbl base env ρ as s.heap) (gr:GR Lx base μ as s.heap) (h:ev Γ n y ρ μ=some (r,μ')) (hm:b1y e=true->m=false)
  (hQ:SPost Lx base Γ.tbl env as s .next (put i r ρ) μ' Q):wpAny (model prog w) A (PySem.exec (.Assign [.Name x p] e pos) env) Q E s:=by
 have plain:swapsWith e (some (.Name x p)) pos.line env=pure false->wpAny (model prog w) A (PySem.exec (.Assign [.Name x p] e pos) env) Q E s:=by
  intro hs;refine wpAny_Assign_Name (d4y S nd t rm c er gr h fun v asI hY tk gI goI rv=>?_) hs;refine b0o nd hx ho (er.go goI) gI rv fun hJ tkJ gJ erJ gsJ ksJ=>?_;exact hQ .next asI hJ tkJ gJ erJ (goI.toS.trans gsJ (er.go goI).there) trivial
 by_cases hc:b1y e=true
 ·have hm':=hm hc
  subst hm';obtain⟨elt,gens,cs,cp,rfl⟩:∃ elt gens cs cp,e=.ListComp elt gens cs cp:=by
   induction e using PySem.Expr.casesOn with
   | ListComp a b c d=>exact⟨a,b,c,d,rfl⟩
   | _=>exact nt hc
  have hs:∃ b,swapsWith (.ListComp elt gens cs cp) (some (.Name x p)) pos.line env=pure b:=⟨_,rfl⟩;obtain⟨b,hs⟩:=hs;induction b using Bool.casesOn with
  | false=>exact plain hs
  | true=>
   rw [exec_Assign_Name_used _ _ _ _ hs];refine wpAny_bind (wpAny_standAt (wpAny_bind ?_));have t':trE Γ.tbl k env.scope (.ListComp elt gens cs cp)=some y:=t;induction k using Nat.casesOn with
   | zero=>exact ns t'
   | succ k=>
    refine c2j t' fun tg it ifs e1 t1 it1 ifs1 own eg p1 p2 p3 p4 p5 p6 p7 ey=>?_;subst eg;induction n using Nat.casesOn with
    | zero=>exact ns (evx ey h)
    | succ n'=>
    refine c2b (E:=E) S (a4n S nd n').1 (rm.less (Nat.le_succ n')) c p2 p4 p5 er gr (evx ey h) fun ys μ₂ RR eh=>?_;cases eh;show wpAny (model prog w) A (comprehension (.ListComp elt [⟨tg,it,ifs,0⟩] cs cp) cs env (firstIterPos [⟨tg,it,ifs,0⟩] cp) (newList []) false (eval it env) (some (assign (.Name x p) env)) >>= fun zz=>pure ()) _ E s;refine wpAny_bind (b6f S nd (a4n S nd n').1 (a4n S nd n').2 (rm.less (Nat.le_succ n')) c p1 p2 p3 p4 p5 p6 p7 er gr RR fun D C as' h' tk mm g er' go r hmm f hC hb hw=>?_);refine wpAny_assign_Name (b0o nd hx ho er' g r fun hJ tkJ gJ erJ gsJ ksJ=>?_);have hCk:∀ o,h'.get? C=some o->hJ.get? C=some o:=fun o e=>gsJ.keep C o (fun q=>f.off (a5f q)) hw e;have hmJ:hJ.Ns C mm:=let⟨o,es,ep,e,r⟩:=hmm;⟨o,es,ep,hCk o e,r⟩;refine⟨mm,hmJ,fun h₃ hs=>wpAny_pure (wpAny_pure ?_)⟩;have y:∀ a o,a≠C->hJ.get? a=some o->h₃.get? a=some o:=fun a o ha e=>(hs.2 a ha).trans e;have fJ:Foreign as' hJ C:=⟨f.off,fun o e=>let⟨o',e',hk⟩:=Ns.get hmJ;by rw [e]at e';obtain rfl:=Option.some.inj e';exact hk⟩;have ksK:Ks as' hJ h₃:=fJ.ks y;have gT:=gJ.mod fJ hb y;have erK:ER Γ.tbl base env (put i (.lst ys) ρ) as' h₃:=erJ.mvs (own:=[C]) (fun a ha hq=>by rw [List.mem_singleton]at hq;subst hq;exact hw ha) (fun a o ha e=>y a o (by simpa using ha) e) ksK;refine hQ .next as' h₃ _ gT erK ?_ trivial;have gA:GoS (Wf Γ.tbl env) as s.heap as' hJ:=go.toS.trans gsJ er'.there;exact⟨gA.ext,fun a o ha hwf e=>y a o (fun q=>by rw [q,hC]at e;exact ns e) (gA.keep a o ha hwf e),gT.alive⟩
 ·have hc':b1y e=false:=by simpa using hc
  exact plain (b6c hc' t rfl)
end
end
section
section
variable{prog:Program}{w:World}{Lx:LxP}{base:Heap}{Γ:G}
variable{A:Around}{E:Value->Shared->Prop}{env:Env}{ρ:Rho}{as:List (List Addr)}{s:Shared}{tbl:List Str}
theorem a8o{i:Nat}:∀(ps:List (Nat×V)) (ρ:Rho),i∉ps.map (·.1)->(ps.foldl (fun ρ p=>put p.1 p.2 ρ) ρ).lookup i=ρ.lookup i:=by
 intro z_;induction z_ with
 | nil=>
  intro _ _;exact rfl
 | cons p r ih=>
  intro ρ h;simp only [List.map_cons,List.mem_cons,not_or]at h;rw [List.foldl_cons,ih _ h.2,a0b,if_neg h.1]
theorem c0v{i:Nat}{v:V}:∀(ps:List (Nat×V)) (ρ:Rho),(ps.map (·.1)).Nodup->(i,v)∈ps->(ps.foldl (fun ρ p=>put p.1 p.2 ρ) ρ).lookup i=some v:=by
 intro z_;induction z_ with
 | nil=>
  intro _ _ h;cases h
 | cons p r ih=>
  intro ρ nd h;rw [List.map_cons,List.nodup_cons]at nd;rw [List.foldl_cons];rcases List.mem_cons.mp h with rfl | h
  ·rw [a8o r _ nd.1,a0b,if_pos rfl]
  ·exact ih _ nd.2 h
theorem d3c(ps:List (Nat×V))(ρ:Rho)(nd:(ps.map (·.1)).Nodup)(i:Nat):(ps.reverse.foldl (fun ρ p=>put p.1 p.2 ρ) ρ).lookup i=(ps.foldl (fun ρ p=>put p.1 p.2 ρ) ρ).lookup i:=by
 by_cases h:i∈ps.map (·.1)
 ·obtain⟨⟨j,v⟩,hm,rfl⟩:=List.mem_map.mp h
  rw [c0v ps ρ nd hm,c0v ps.reverse ρ (by rw [List.map_reverse];exact(List.reverse_perm _).nodup_iff.mpr nd) (List.mem_reverse.mpr hm)]
 ·rw [a8o ps ρ h,a8o ps.reverse ρ (by rw [List.map_reverse];simpa using h)]
theorem c7b:∀ {l:List Nat},c0p l=true->l.Nodup:=by
 intro z_;induction z_ with
 | nil=>
  intro _;exact List.nodup_nil
 | cons a r ih=>
  intro h;have h1:(!r.contains a)=true:=a0e h;exact List.nodup_cons.mpr ⟨by simpa using h1,ih (a0n h)⟩
noncomputable def e0w(tbl:List Str)(sc:Scope)(x:Str):Option Nat:=if a1g sc x then nid tbl x else .none
theorem b8u{μ:Mu}{Q:Unit->Shared->Prop}(nd:∀(i j:Nat) (x:Str),tbl[i]?=some x->tbl[j]?=some x->i=j):∀(names:List Str) (is:List Nat) (l:List V) (vals:List Value) (ρ:Rho) (as:List (List Addr)) (s:Shared),
  a1k (e0w tbl env.scope) names=some is->is.length=l.length->ER tbl base env ρ as s.heap->GR Lx base μ as s.heap->Reps s.heap as l vals →
  c8f Lx base tbl env (Wf tbl env) as s ((is.zip l).foldl (fun ρ p=>put p.1 p.2 ρ) ρ) μ Q->wpAny (model prog w) A (assignInOrder (names.map fun n=>bindName env n) vals) Q E s:=by
 intro z_;induction z_ with
 | nil=>
  intro is l vals ρ as s e hl er gr rl hQ;simp only [a1k,Option.some.injEq]at e;subst e;induction l using List.casesOn with
  | cons a r=>cases hl
  | nil=>
   simp only [Reps]at rl;subst rl;exact wpAny_assignInOrder_none (hQ s.heap s.toks gr er (GoS.refl gr) fun zz zz zz e zz=>e)
 | cons x xs ih=>
  intro is l vals ρ as s e hl er gr rl hQ;refine a0g e fun i js e1 e2 e=>?_;subst e;induction l using List.casesOn with
  | nil=>cases hl
  | cons u l=>
   obtain⟨v,vr,rfl,ru,rl⟩:=rl;refine ifS e1 fun hx e1=>?_;refine wpAny_assignInOrder_more (wpAny_bindName (b0o nd e1 hx er gr ru fun h' tk gr' er' go' ks'=>?_));refine ih js l vr _ as _ e2 (Nat.succ.inj hl) er' gr' (rl.ks ks') ?_;intro h'' tk' gr'' er'' go'' ks'';exact hQ h'' tk' gr'' er'' (go'.trans go'' er'.there) (b0k ks' ks'')
theorem d2w{α β:Type}{f:α->Option β}:∀ {l l':List α} {r r':List β},a1k f l=some r->a1k f l'=some r'->a1k f (l++l')=some (r++r'):=by
 intro z_;induction z_ with
 | nil=>
  intro _ r _ h h';obtain rfl:=Option.some.inj h;exact h'
 | cons a l ih=>
  intro l' r r' h h';exact a0g h fun b c h1 h2 e=>e▸a5u h1 (ih h2 h')
theorem c0t{α β:Type}{f:α->Option β}:∀ {l:List α} {r:List β},a1k f l=some r->a1k f l.reverse=some r.reverse
 | [],r,h=>by obtain rfl:=Option.some.inj h;rfl
 | a::l,r,h=>a0g h fun b c h1 h2 e=>by
  rw [← e,List.reverse_cons,List.reverse_cons];exact d2w (c0t h2) (a5u h1 rfl)
noncomputable def a6e(env:Env)(line:Nat):Expr->Option Str
 | .Name id pos=>if env.kindOf id==some .local&&pos.line==line then some id else .none
 | _=>.none
theorem c1h{line:Nat}:∀(ts:List Expr) (is:List Nat),a1k (a9r tbl env.scope) ts=some is →
  (ts.filterMap (a6e env line)).length=ts.length →
  a1k (e0w tbl env.scope) (ts.filterMap (a6e env line))=some is
 | [],is,h,_=>h
 | t::ts,is,h,hl=>a0g h fun i js h1 h2 e=>b1h h1 fun x p ht hx hi=>by
  subst e ht;by_cases hq:(env.kindOf x==some .local&&p.line==line)=true
  ·have e1:a6e env line (.Name x p)=some x:=if_pos hq
   rw [List.filterMap_cons_some e1]at hl ⊢;exact a5u ((if_pos hx).trans hi) (c1h ts js h2 (Nat.succ.inj hl))
  ·have e1:a6e env line (.Name x p)=.none:=if_neg hq
   rw [List.filterMap_cons_none e1]at hl;exact absurd (hl▸List.length_filterMap_le _ ts) (Nat.not_succ_le_self _)
theorem b4k{ts vs:List Expr}{k k':Nat}{p p':Pos}(hc:vs.all (constantsAlone 8)=false) :
  swappedStores [.Tuple ts k p] (.Tuple vs k' p') env=pure .none∨∃ line,swappedStores [.Tuple ts k p] (.Tuple vs k' p') env=pure (some (ts.filterMap (a6e env line))) ∧
   (ts.filterMap (a6e env line)).length=ts.length:=by
 have K:∀ {c:Prop} [Decidable c] {a:Sem (Option (List Str))},(¬c->a=pure .none∨∃ line,a=pure (some (ts.filterMap (a6e env line)))/\(ts.filterMap (a6e env line)).length=ts.length) →
   ((if c then pure .none else a)=pure .none∨∃ line,(if c then pure .none else a)=pure (some (ts.filterMap (a6e env line)))/\(ts.filterMap (a6e env line)).length=ts.length):=fun {c} _ {a} h=>by
  by_cases hc:c
  ·exact .inl (if_pos hc)
  ·rw [if_neg hc];exact h hc
 refine K fun zz=>K fun zz=>K fun hl=>K fun zz=>?_;rw [if_neg (by rw [hc];decide)];simp only [Bool.or_eq_true,bne_iff_ne,ne_eq,not_or,Decidable.not_not]at hl;refine .inr ⟨(ts.head?.map (·.pos.line)).getD 0,?_,?_⟩
 ·refine congrArg (fun g:Expr->Option Str=>(pure (some (ts.filterMap g)):Sem (Option (List Str)))) ?_
  funext x;induction x using PySem.Expr.casesOn<;>rfl
 ·refine Eq.trans (congrArg (fun g:Expr->Option Str=>(ts.filterMap g).length) ?_) hl.1
  funext x;induction x using PySem.Expr.casesOn<;>rfl
end
end
section
section
variable{prog:Program}{w:World}{Lx:LxP}{base:Heap}{Γ:G}
variable{A:Around}{E:Value->Shared->Prop}{env:Env}{ρ:Rho}{as:List (List Addr)}{s:Shared}
theorem d8u(S:Snd prog w Lx base Γ)(nd:∀(i j:Nat) (x:Str),Γ.tbl[i]?=some x->Γ.tbl[j]?=some x->i=j){n k:Nat}{mt:List Str}{sc:Scope}(rm:Room A n)(c:ScR sc env)(pos:Pos):∀(ts elts:List Expr) (xs:List X) (μ μ':Mu) (vs:List V) (as:List (List Addr)) (s:Shared) (Q:List Value->Shared->Prop),
  elts.all a1v=true->d7g Γ.tbl k sc mt ts elts=some xs->ER Γ.tbl base env ρ as s.heap->GR Lx base μ as s.heap->evs (fun x μ=>ev Γ n x ρ μ) xs μ=some (vs,μ') →
  (∀(vals:List Value) (as':List (List Addr)) (h':Heap) (tk:Nat),GR Lx base μ' as' h'->Go as s.heap as' h'->Reps h' as' vs vals->Q vals { s with heap:=h',toks:=tk}) →
  wpAny (model prog w) A (spliced (backTo pos (starEach elts env))) Q E s:=by
 intro ts;induction ts with
 | nil=>
  intro elts xs μ μ' vs as s Q _ t er gr h hQ;induction elts using List.casesOn with
  | nil=>
   obtain rfl:=Option.some.inj t;refine sp h fun e1 e2=>?_;subst e1 e2;exact wpAny_items_nil (hQ [] as s.heap s.toks gr gr.go .nil)
  | cons _ _=>exact ns t
 | cons tg ts ih=>
  intro elts xs μ μ' vs as s Q hp t er gr h hQ;induction elts using List.casesOn with
  | nil=>exact ns t
  | cons e r=>
   refine a0h t fun x t1 t'=>a1e t' fun xr t2 e1=>a0h t1 fun nm hnm t1=>?_;subst e1;refine a7c h fun v μ₁ h1 h'=>c4q h' fun vr μ₂ h2 h'=>sp h' fun e1 e2=>?_;subst e1 e2;refine wpAny_items_cons (d4y S nd t1 rm c er gr h1 fun a asI hY tk gI goI ra=>?_) (a1b (a0e hp));refine ih r xr μ₁ _ vr asI _ _ (a0n hp) t2 (er.go goI) gI h2 fun vals asJ hJ tkJ gJ goJ rv=>?_;exact hQ (a::vals) asJ hJ tkJ gJ (goI.trans goJ) (.cons (ra.go goJ) rv)
theorem b9q{elts:List Expr}{kk:Nat}{pos:Pos}{is:List Nat}{l:List V}{a:Value}{μ:Mu}{ρ':Rho}{Q:Unit->Shared->Prop}(nd:∀(i j:Nat) (x:Str),Γ.tbl[i]?=some x->Γ.tbl[j]?=some x->i=j)(hi:a1k (a9r Γ.tbl env.scope) elts=some is)(hc:A.handled=.none)(hl:is.length=l.length)
  (er:ER Γ.tbl base env ρ as s.heap) (gr:GR Lx base μ as s.heap) (ra:Rep s.heap as (.lst l) a) (own:∀ x,a1g env.scope x=true->InW (Wf Γ.tbl env) env x)
  (hQ:c8f Lx base Γ.tbl env (Wf Γ.tbl env) as s ((is.zip l).foldl (fun ρ p=>put p.1 p.2 ρ) ρ) μ Q):wpAny (model prog w) A (assign (.Tuple elts kk pos) env a) Q E s:=by
 obtain⟨ax,vs,rfl,ha,hp,hr⟩:=ra;show wpAny (model prog w) A (do standAt pos;unpack (.ref ax) (assignEach elts env)) Q E s
 refine wpAny_bind (wpAny_standAt ?_);unfold unpack;rw [a8y hi];have hlen:(assignEach elts env).length=vs.toArray.size:=by
  rw [b9x,List.size_toArray,hr.length,← hl,a6r hi]
 rw [hlen];refine wpAny_bind (wpAny_holding (kun_itemsOf hc hp.isList fun h' he=>?_));obtain⟨gr',go'⟩:=gr.all (h':=h') fun a o ha e=>he a o ha e;refine b3l (s:={ s with heap:=h',toks:=s.toks}) own (fun a ha=>ha) nd elts is l _ ρ hi hl (er.go go') gr' (by simpa using hr.go go') ?_;intro h'' tk gr'' er'' go'' ks'';exact hQ h'' tk gr'' er'' (go'.toS.trans go'' (er.go go').there) (b0k go'.ks ks'')
theorem b7r(S:Snd prog w Lx base Γ)(nd:∀(i j:Nat) (x:Str),Γ.tbl[i]?=some x->Γ.tbl[j]?=some x->i=j)(own:∀ x,a1g env.scope x=true->(nid Γ.tbl x).isSome=true){n k:Nat}{ts:List Expr}{kk:Nat}{p pos:Pos}{e:Expr}{is:List Nat}{y:X}{r:V}{μ μ':Mu}{ρ':Rho}{Q:Flow->Shared->Prop}
  (hi:a1k (a9r Γ.tbl env.scope) ts=some is) (hnt:∀ vs k p,e≠.Tuple vs k p) (t:trE Γ.tbl k env.scope e=some y) (rm:Room A n) (c:ScR env.scope env) (er:ER Γ.tbl base env ρ as s.heap) (gr:GR Lx base μ as s.heap) (h:ev Γ n y ρ μ=some (r,μ')) (hu:a8t is r ρ=some ρ')
  (hQ:SPost Lx base Γ.tbl env as s .next ρ' μ' Q):wpAny (model prog w) A (PySem.exec (.Assign [.Tuple ts kk p] e pos) env) Q E s:=by
 have hs:swapsWithSole [.Tuple ts kk p] e pos.line env=pure false:=by
  induction e using PySem.Expr.casesOn with
  | SetComp _ _ _ _=>cases k<;>exact ns t
  | DictComp _ _ _ _ _=>cases k<;>exact ns t
  | _=>rfl
 have hw:swappedStores [.Tuple ts kk p] e env=pure .none:=by
  induction e using PySem.Expr.casesOn with
  | Tuple vs k p=>exact absurd rfl (hnt _ _ _)
  | _=>rfl
 refine Assign_Tuple ((a4n S nd n).1 y k env.scope e t A E env ρ μ as s r μ' _ rm c er gr h fun v asI hY tk gI goI rv=>?_) hs hw;have erI:=er.go goI;have ow:=b4s erI own;have fin:∀ {hJ:Heap} {tkJ:Nat},GR Lx base μ' asI hJ->ER Γ.tbl base env ρ' asI hJ->GoS (Wf Γ.tbl env) asI hY asI hJ->Q .next { s with heap:=hJ,toks:=tkJ}:=fun gJ erJ gsJ=>hQ .next asI _ _ gJ erJ (goI.toS.trans gsJ erI.there) trivial;induction r using Mine.V.casesOn with
 | tup l=>
  refine ifS hu fun hl hu=>?_;obtain rfl:=Option.some.inj hu;exact a6j (t:=.many is) (sc:=env.scope) ow (fun a ha=>ha) nd (congrArg (Option.map T.many) hi) rm.calm (show a3f (.many is) (.tup l) ρ=_ from if_pos hl) erI gI rv fun hJ tkJ gJ erJ gsJ zz=>fin gJ erJ gsJ
 | lst l=>
  refine ifS hu fun hl hu=>?_;obtain rfl:=Option.some.inj hu;exact b9q (ρ':=ρ) nd hi rm.calm (eq_of_beq hl) erI gI rv ow fun hJ tkJ gJ erJ gsJ zz=>fin gJ erJ gsJ
 | _=>exact ns hu
theorem c6o{α β:Type}:∀(l:List α) (r:List β),l.length=r.length->l.reverse.zip r.reverse=(l.zip r).reverse
 | [],[],_=>rfl
 | [],_::_,h=>by cases h
 | _::_,[],h=>by cases h
 | a::l,b::r,h=>by
  have h':l.length=r.length:=by simpa using h
  rw [List.reverse_cons,List.reverse_cons,List.zip_append (by simpa using h'),c6o l r h'];simp
theorem c3a(S:Snd prog w Lx base Γ)(nd:∀(i j:Nat) (x:Str),Γ.tbl[i]?=some x->Γ.tbl[j]?=some x->i=j)(own:∀ x,a1g env.scope x=true->(nid Γ.tbl x).isSome=true){n k:Nat}{mt:List Str}{ts vs:List Expr}{kk kk':Nat}{p p' pos:Pos}{is:List Nat}{xs:List X}{r:V}{μ μ':Mu}{ρ':Rho}{Q:Flow->Shared->Prop}
  (hi:a1k (a9r Γ.tbl env.scope) ts=some is) (hnd:c0p is=true) (hp:vs.all a1v=true) (hcon:vs.all (constantsAlone 8)=false) (t:d7g Γ.tbl k env.scope mt ts vs=some xs) (rm:Room A n) (c:ScR env.scope env) (er:ER Γ.tbl base env ρ as s.heap) (gr:GR Lx base μ as s.heap)
  (h:ev Γ n (.tup xs) ρ μ=some (r,μ')) (hu:a8t is r ρ=some ρ')
  (hQ:SPost Lx base Γ.tbl env as s .next ρ' μ' Q):wpAny (model prog w) A (PySem.exec (.Assign [.Tuple ts kk p] (.Tuple vs kk' p') pos) env) Q E s:=by
 have hs:swapsWithSole [.Tuple ts kk p] (.Tuple vs kk' p') pos.line env=pure false:=rfl;induction n using Nat.casesOn with
 | zero=>exact ns h
 | succ n=>
  refine c4q h fun us μ₁ h1 h'=>ifS h' fun hlen h'=>sp h' ?_;rintro rfl rfl;refine ifS hu fun hq hu=>?_;have hl:=eq_of_beq hq;obtain rfl:=Option.some.inj hu;have rm':=rm.less (Nat.le_succ n);have evt:∀(Q':Value->Shared->Prop),Post Lx base as s (.tup us) μ₁ Q'->wpAny (model prog w) A (eval (.Tuple vs kk' p') env) Q' E s:=fun Q' hQ'=>
   wpAny_Tuple_spliced (d8u S nd rm' c _ ts vs xs μ μ₁ us as s _ hp t er gr h1 fun vals as' h' tk g go rv=>⟨by rw [rv.length];exact a2a hlen,(hQ'.after go).new g (a6b (s:={ s with heap:=h',toks:=tk}) g rv)⟩)
  rcases b4k (ts:=ts) (k:=kk) (p:=p) (k':=kk') (p':=p') (env:=env) hcon with hw | ⟨line,hw,hlen'⟩
  ·refine Assign_Tuple (evt _ fun v asI hY tk gI goI rv=>?_) hs hw
   have erI:=er.go goI;exact a6j (t:=.many is) (sc:=env.scope) (b4s erI own) (fun a ha=>ha) nd (congrArg (Option.map T.many) hi) rm.calm (show a3f (.many is) (.tup us) ρ=_ from if_pos (beq_iff_eq.mpr hl)) erI gI rv fun hJ tkJ gJ erJ gsJ zz=>hQ .next asI _ _ gJ erJ (goI.toS.trans gsJ erI.there) trivial
  ·refine Assign_Tuple_swapped (evt _ fun v asI hY tk gI goI rv=>?_) hs hw
   have erI:=er.go goI;obtain⟨ax,vals,rfl,hax,hT,hr⟩:=rv;have hsz:(ts.filterMap (a6e env line)).length=vals.toArray.size:=by
    rw [hlen',List.size_toArray,hr.length,← hl,a6r hi]
   rw [hsz];refine unpackItems_tuple rm.calm hT fun hJ he=>?_;obtain⟨gJ,goJ⟩:=gI.all (h':=hJ) fun a o ha e=>he a o ha e;have erJ:=erI.go goJ;refine b8u (s:={ s with heap:=hJ,toks:=tk}) nd _ is.reverse us.reverse _ ρ asI (c0t (c1h ts is hi hlen')) (by simpa using hl) erJ gJ (by simpa using (hr.go goJ).reverse) fun h₃ tkK gT erK gsK zz=>?_;refine hQ .next asI h₃ tkK gT (erK.congr fun i=>?_) ((goI.trans goJ).toS.trans gsK erJ.there) trivial;have hz:is.reverse.zip us.reverse=(is.zip us).reverse:=by
    exact c6o is us hl
   rw [hz,d3c];rw [List.map_fst_zip (by omega)];exact c7b hnd
end
end
section
section
variable{prog:Program}{w:World}{Lx:LxP}{base:Heap}{Γ:G}
noncomputable def c4u(prog:Program)(w:World)(Lx:LxP)(base:Heap)(Γ:G)(n:Nat):Prop:=
 ∀(k:Nat) (e v:Expr) (y:X) (A:Around) (E:Value->Shared->Prop) (env:Env) (ρ:Rho) (μ:Mu) (as:List (List Addr)) (s:Shared) (ks kl kc:Nat) (μ':Mu) (Q:Value->Shared->Prop),
  d8v env.scope v=some e->trE Γ.tbl k env.scope e=some y->Room A n->ScR env.scope env->ER Γ.tbl base env ρ as s.heap->GR Lx base μ as s.heap->ev Γ n y ρ μ=some (.mut ks,μ')->μ'[ks]?=some (.obj [kl,kc] (-3)) →
  Post Lx base as s (.mut (μ'.length+1)) (μ'++a9e μ'.length ks) Q->wpAny (model prog w) A (eval v env) Q E s
structure a5w(prog:Program)(w:World)(Lx:LxP)(base:Heap)(Γ:G)(n:Nat):Prop where
 new:Γ.lexOn=true->12<=n->c4u prog w Lx base Γ n
 fit:∀(v:Expr) (y:Str) (j k kp ks:Nat) (m:Int) (A:Around) (E:Value->Shared->Prop) (env:Env) (ρ:Rho) (μ:Mu) (as:List (List Addr)) (s:Shared) (Q:Value->Shared->Prop),
  Γ.lexOn=true->12<=n->d0l env.scope v=some y->nid Γ.tbl y=some j->ρ.lookup j=some (.mut k)->μ[k]?=some (.obj [kp,ks] m)->1<=m->Room A n->ER Γ.tbl base env ρ as s.heap->GR Lx base μ as s.heap →
  Post Lx base as s (.mut μ.length) (μ++[.obj [k] (-2)]) Q->wpAny (model prog w) A (eval v env) Q E s
 line:∀(x a:Str) (p q r c:Pos) (kd:Nat) (j k:Nat) (is:List Nat) (m:Int) (A:Around) (E:Value->Shared->Prop) (env:Env) (ρ:Rho) (μ:Mu) (as:List (List Addr)) (s:Shared) (Q:Flow->Shared->Prop),
  a5o env.scope x=true->a = "lineno" -> nid Γ.tbl x=some j->(x==("__debug__":Str))=false->(x==("__classdict__":Str))=false->ρ.lookup j=some (.mut k)->μ[k]?=some (.obj is m)->1<=m->Room A n->ER Γ.tbl base env ρ as s.heap->GR Lx base μ as s.heap →
  (∀ h' tk,GR Lx base (μ.set k (.obj is (m+1))) as h'->Go as s.heap as h'->Q .next { s with heap:=h',toks:=tk})->wpAny (model prog w) A (PySem.exec (.AugAssign (.Attribute (.Name x p) a q) .Add (.Constant (.int 1) kd c) r) env) Q E s
 draw:∀(A:Around) (E:Value->Shared->Prop) (s:Shared) (as:List (List Addr)) (μ μ':Mu) (k:Nat) (a:Addr) (q:List Addr) (r:Option (List Nat)) (Q:Option Value->Shared->Prop),Γ.lexOn=true->12<=n->Room A n->GR Lx base μ as s.heap->as[k+1]?=some (a::q)->Mine.draw μ k=some (r,μ') →
  (∀ h' tk rv,GR Lx base μ' as h'->Go as s.heap as h'->(match r with | .none=>rv=.none | some c=>∃ t,rv=some (.str ⟨c.toArray⟩ t))->Q rv { s with heap:=h',toks:=tk})->wpAny (model prog w) A (pyNext (.ref a)) Q E s
 self:∀(A:Around) (E:Value->Shared->Prop) (s:Shared) (as:List (List Addr)) (μ:Mu) (k:Nat) (a:Addr) (q:List Addr) (is:List Nat) (m:Int) (Q:Value->Shared->Prop),Γ.lexOn=true->GR Lx base μ as s.heap->as[k+1]?=some (a::q)->μ[k]?=some (.obj is m)->(m = -2∨m = -4)->Q (.ref a) s->wpAny (model prog w) A (pyIter (.ref a)) Q E s
 lets:∀(A:Around) (E:Value->Shared->Prop) (s:Shared) (as:List (List Addr)) (μ:Mu) (k:Nat) (a:Addr) (q:List Addr) (is:List Nat) (m:Int) (tg:Expr) (v:Value) (Q:Unit->Shared->Prop),Γ.lexOn=true->GR Lx base μ as s.heap->as[k+1]?=some (a::q)->μ[k]?=some (.obj is m)->(m = -2∨m = -4)->b6t tg=true->Q () s->wpAny (model prog w) A (letOwnedTupleGo tg (.ref a) v) Q E s
noncomputable def b2u(prog:Program)(w:World)(Lx:LxP)(base:Heap)(Γ:G)(n:Nat):Prop:=
 ∀(ss:List S) (mt:List Str) (k:Nat) (stmts:List Stmt) (A:Around) (E:Value->Shared->Prop) (env:Env) (ρ ρ':Rho) (μ μ':Mu) (as:List (List Addr)) (s:Shared) (f:F) (Q:Flow->Shared->Prop),
  trS.trSs Γ.tbl mt k env.scope stmts=some ss->(∀ x,a1g env.scope x=true->(nid Γ.tbl x).isSome=true)->interactive env=false->Room A n->ScR env.scope env->ER Γ.tbl base env ρ as s.heap->GR Lx base μ as s.heap->exec Γ n ss ρ μ=some (f,ρ',μ') →
  SPost Lx base Γ.tbl env as s f ρ' μ' Q->wpAny (model prog w) A (execs stmts env) Q E s
variable{A:Around}{E:Value->Shared->Prop}{env:Env}{ρ:Rho}{as:List (List Addr)}{s:Shared}
theorem GoS.mv{W:Addr->Prop}{own:List Addr}{as asI:List (List Addr)}{h₀ h h':Heap}(g:GoS W as h₀ asI h)(hf:∀ a∈own,h₀.get? a=.none)(mv:Mv own h h')(al:∀ a∈asI.flatten,∃ o,h'.get? a=some o):GoS W as h₀ asI h':=
 ⟨g.ext,fun a o ha hw e=>mv a o (fun hm=>by rw [hf a hm]at e;exact ns e) (g.keep a o ha hw e),al⟩
noncomputable def d9i(f:F)(ρ:Rho)(μ:Mu)(go:Option (F×Rho×Mu)):Option (F×Rho×Mu):=match f with
 | .brk=>some (.next,ρ,μ)
 | .ret v=>some (.ret v,ρ,μ)
 | _=>go
theorem c3m{f:Rho->Mu->Option (F×Rho×Mu)}{t:T}{v:V}{r:List V}{ρ ρ':Rho}{μ μ':Mu}{g:F}{G:Prop}(h:a3w f t (v::r) ρ μ=some (g,ρ',μ'))
  (k:∀ ρ₂ fK ρK μK,a3f t v ρ=some ρ₂->f ρ₂ μ=some (fK,ρK,μK)->d9i fK ρK μK (a3w f t r ρK μK)=some (g,ρ',μ')->G):G:=by
 have h:(match (generalizing:=false) a3f t v ρ with | .none=>.none | some ρ=>_)=some (g,ρ',μ'):=h
 induction q:a3f t v ρ using Option.casesOn with
 | none=>rw [q]at h;exact ns h
 | some ρ₂=>
  rw [q]at h;dsimp only at h;induction q2:f ρ₂ μ using Option.casesOn with
  | none=>rw [q2]at h;exact ns h
  | some p=>
   obtain⟨x,ρK,μK⟩:=p;rw [q2]at h;cases x<;>exact k ρ₂ _ ρK μK q q2 h
theorem b5r{fK f:F}{fl:Flow}{ρK ρ':Rho}{μK μ':Mu}{go:Option (F×Rho×Mu)}{N:Prop}{Q:Flow->Shared->Prop}{R:Result->Shared->Prop}{asL:List (List Addr)}{hU:Heap}{tkL:Nat}(hR:∀ fl s',Q fl s'->R (.ok fl) s')(hQ:SPost Lx base Γ.tbl env as s f ρ' μ' Q)
  (h:d9i fK ρK μK go=some (f,ρ',μ')) (fr:e2x hU asL fK fl) (g:GR Lx base μK asL hU) (er:ER Γ.tbl base env ρK asL hU) (gs:GoS (Wf Γ.tbl env) as s.heap asL hU) (k:go=some (f,ρ',μ')->N) :
  (match (generalizing:=false) fl with
   | .next | .cont=>N
   | .brk=>R (.ok .next) { s with heap:=hU,toks:=tkL}
   | .ret v=>R (.ok (.ret v)) { s with heap:=hU,toks:=tkL}):=by
 induction fK using Mine.F.casesOn with
 | next=>induction fl using PySem.Flow.casesOn with
  | next=>exact k h
  | _=>exact fr.elim
 | cont=>induction fl using PySem.Flow.casesOn with
  | cont=>exact k h
  | _=>exact fr.elim
 | brk=>induction fl using PySem.Flow.casesOn with
  | brk=>exact hR _ _ (spS h hQ .next asL hU tkL g er gs trivial)
  | _=>exact fr.elim
 | ret v=>induction fl using PySem.Flow.casesOn with
  | ret u=>exact hR _ _ (spS h hQ (.ret u) asL hU tkL g er gs fr)
  | _=>exact fr.elim
inductive e9c(Lx:LxP)(base:Heap)(Γ:G)(env:Env)(as:List (List Addr))(s:Shared)(n:Nat)(bs:List S)(t:T)(vs:List V)(St:Nat->List (List Addr)->Heap->Prop)(f:F)(ρ':Rho)(μ':Mu)(m:Nat)(s':Shared):Prop
 | mk (i:Nat) (ρI:Rho) (μ₁:Mu) (asI:List (List Addr)) (hY:Heap) (tkI:Nat) (hm:m=vs.length-i) (hi:i<=vs.length) (hs:s'={ s with heap:=hY,toks:=tkI}) (hf:a3w (fun ρ μ=>exec Γ n bs ρ μ) t (vs.drop i) ρI μ₁=some (f,ρ',μ')) (er:ER Γ.tbl base env ρI asI hY) (gr:GR Lx base μ₁ asI hY) (st:St i asI hY) (gs:GoS (Wf Γ.tbl env) as s.heap asI hY)
theorem d1n{n k:Nat}{mt:List Str}{tg:Expr}{t:T}{body:List Stmt}{bs:List S}{itv:Value}{own:List Addr}{vs:List V}{St:Nat->List (List Addr)->Heap->Prop}{ρ':Rho}{μ':Mu}{f:F}{Q:Flow->Shared->Prop}{R:Result->Shared->Prop}
  (X:b2u prog w Lx base Γ n) (nd:∀(i j:Nat) (x:Str),Γ.tbl[i]?=some x->Γ.tbl[j]?=some x->i=j) (hown:∀ x,a1g env.scope x=true->(nid Γ.tbl x).isSome=true) (hint:interactive env=false) (rm:Room A n) (c:ScR env.scope env) (tt:a1u Γ.tbl env.scope tg=some t) (tb:trS.trSs Γ.tbl mt k env.scope body=some bs)
  (wk:Wk prog w A base s.heap tg itv own vs St fun zz zz=>True) (hCo:∀ a,Wf Γ.tbl env a->a∉own) (hR:∀ fl s',Q fl s'->R (.ok fl) s')
  (hQ:SPost Lx base Γ.tbl env as s f ρ' μ' Q) :
  ∀(rest:List V) (i:Nat) (ρI:Rho) (μ₁:Mu) (asI:List (List Addr)) (hY:Heap) (tkI:Nat),vs.drop i=rest->i<=vs.length->a3w (fun ρ μ=>exec Γ n bs ρ μ) t rest ρI μ₁=some (f,ρ',μ') →
   ER Γ.tbl base env ρI asI hY->GR Lx base μ₁ asI hY->St i asI hY->GoS (Wf Γ.tbl env) as s.heap asI hY →
   codeAny (model prog w) A (.forLoop tg itv body [] env) R { s with heap:=hY,toks:=tkI}:=by
 intro rest i ρI μ₁ asI hY tkI hd hi hf er gr st gs;refine codeAny_forLoop_any (e9c Lx base Γ env as s n bs t vs St f ρ' μ') (fun m s' hm=>?_) (vs.length-i) (.mk i ρI μ₁ asI hY tkI rfl hi rfl (by rw [hd];exact hf) er gr st gs);clear hd hf er gr st gs hi;obtain⟨i,ρI,μ₁,asI,hY,tkI,rfl,hi,rfl,hf,er,gr,st,gs⟩:=hm;generalize hI:e9c Lx base Γ env as s n bs t vs St f ρ' μ'=I;have hof:∀ a∈own,a∉asI.flatten/\base.get? a=.none/\∃ o,hY.get? a=some o/\∀ xs n,o.data≠.seq xs n:=fun a ha=>by
  obtain⟨h1,o,h2,h3⟩:=wk.off _ _ _ st a ha;exact⟨h1,(wk.fresh a ha).2,o,h2,h3⟩
 have hfr:∀ a∈own,s.heap.get? a=.none:=fun a ha=>(wk.fresh a ha).1;rcases Nat.lt_or_ge i vs.length with hlt | hge
 ·obtain⟨v,hv⟩:∃ v,vs[i]?=some v:=⟨vs[i],List.getElem?_eq_getElem hlt⟩
  have hdr:vs.drop i=v::vs.drop (i+1):=by
   rw [List.drop_eq_getElem_cons hlt];have:vs[i]=v:=by rw [List.getElem?_eq_getElem hlt]at hv;exact Option.some.inj hv
   rw [this]
  rw [hdr]at hf;refine c3m hf fun ρ₂ fK ρK μK hb he hf=>?_;generalize notedBy (model prog w) A env (fun e s'=>R (.error e) s')=EO;refine wpAny_mono (wk.item i asI { s with heap:=hY,toks:=tkI} (fun u s'=>wpAny (model prog w) A (assign tg env u) (fun zz sJ=>wpAny (model prog w) A (execs body env) (fun fl sK=>match fl with
     | .next | .cont=>∃ m,m<vs.length-i/\I m sK
     | .brk=>R (.ok .next) sK
     | .ret v=>R (.ok (.ret v)) sK) EO sJ) EO s') EO v hv gr.alive st trivial fun u h' tk ru st' mv=>?_) (fun r s' hr'=>?_) fun zz zz e=>e
  ·obtain⟨gr',ks⟩:=gr.mvs hof mv
   have er':=er.mvs hCo mv ks;have gs':=gs.mv hfr mv gr'.alive;refine a6j (b4s er' hown) (fun a ha=>ha) nd tt rm.calm hb er' gr' ru fun hJ tkJ gJ erJ gsJ ksJ=>?_;have stJ:=wk.stay _ _ _ _ _ st' (gsJ.sf (fun a ha o ho=>er'.wk a ha o ho) fun a ha q=>hCo a q ha);have gsK:=gs'.trans gsJ er'.there;refine X bs mt k body A EO env _ _ _ _ asI _ _ _ tb hown hint rm c erJ gJ he fun fl asL hU tkL gU erL gsL fr=>?_;have gsM:=gsK.trans gsL erJ.there;exact b5r (s:=s) hR hQ hf fr gU erL gsM fun hf=>⟨vs.length-(i+1),by omega,hI▸.mk (i+1) ρK μK asL hU tkL rfl hlt rfl hf erL gU ( wk.stay _ _ _ _ _ stJ (gsL.sf (fun a ha o ho=>erJ.wk a ha o ho) fun a ha q=>hCo a q ha)) gsM⟩
  ·induction r using Option.casesOn with
   | none=>exact hr'.elim
   | some u=>exact hr'
 ·have hi':i=vs.length:=by omega
  subst hi';rw [List.drop_length]at hf;refine wk.done asI _ _ _ st trivial fun h' tk mv=>?_;obtain⟨gr',ks⟩:=gr.mvs hof mv;have er':=er.mvs hCo mv ks;exact wpAny_execs_nil (hR _ _ (spS hf hQ .next asI h' tk gr' er' (gs.mv hfr mv gr'.alive) trivial))
section
variable{γ:Type}{r:γ}{G:Prop}
theorem mo2{e:Option M}{f:Nat->Nat->Int->Option γ}(h:(match e with | some (.obj [a,b] n)=>f a b n | _=>.none)=some r)(k:∀ a b n,e=some (.obj [a,b] n)->f a b n=some r->G):G:=by
 induction e using Option.casesOn with
 | none=>exact ns h
 | some m=>induction m using Mine.M.casesOn with
  | list _=>exact ns h
  | obj is n=>induction is using List.casesOn with
   | nil=>exact ns h
   | cons x is=>induction is using List.casesOn with
    | nil=>exact ns h
    | cons y is=>induction is using List.casesOn with
     | cons _ _=>exact ns h
     | nil=>exact k x y n rfl h
theorem mo3{e:Option M}{f:Nat->Nat->Option γ}(h:(match e with | some (.obj [a,b] (-3))=>f a b | _=>.none)=some r)(k:∀ a b,e=some (.obj [a,b] (-3))->f a b=some r->G):G:=by
 induction e using Option.casesOn with
 | none=>exact ns h
 | some m=>induction m using Mine.M.casesOn with
  | list _=>exact ns h
  | obj is n=>induction is using List.casesOn with
   | nil=>exact ns h
   | cons x is=>induction is using List.casesOn with
    | nil=>exact ns h
    | cons y is=>induction is using List.casesOn with
     | cons _ _=>exact ns h
     | nil=>induction n using Int.casesOn with
      | ofNat _=>exact ns h
      | negSucc m=>rcases m with _ | _ | _ | m<;>first | exact ns h | exact k x y rfl h
theorem mLC{e e':Option M}{f:List V->Option γ}(h:(match e,e' with | some (.list L),some (.obj [] (-6))=>f L | _,_=>.none)=some r)(k:∀ L,e=some (.list L)->e'=some (.obj [] (-6))->f L=some r->G):G:=by
 induction e using Option.casesOn with
 | none=>exact ns h
 | some m=>induction m using Mine.M.casesOn with
  | obj _ _=>exact ns h
  | list L=>induction e' using Option.casesOn with
   | none=>exact ns h
   | some m=>induction m using Mine.M.casesOn with
    | list _=>exact ns h
    | obj is n=>induction is using List.casesOn with
     | cons _ _=>exact ns h
     | nil=>induction n using Int.casesOn with
      | ofNat _=>exact ns h
      | negSucc m=>rcases m with _ | _ | _ | _ | _ | _ | m<;>first | exact ns h | exact k L rfl rfl h
theorem mD{e:Option M}{f:Nat->Option γ}{a:Option γ}(h:(match e with | some (.obj [k] (-2))=>f k | some (.obj [_] (-4))=>a | _=>.none)=some r)(k1:∀ k,e=some (.obj [k] (-2))->f k=some r->G)(k2:∀ k,e=some (.obj [k] (-4))->a=some r->G):G:=by
 induction e using Option.casesOn with
 | none=>exact ns h
 | some m=>induction m using Mine.M.casesOn with
  | list _=>exact ns h
  | obj is n=>induction is using List.casesOn with
   | nil=>exact ns h
   | cons x is=>induction is using List.casesOn with
    | cons _ _=>exact ns h
    | nil=>induction n using Int.casesOn with
     | ofNat _=>exact ns h
     | negSucc m=>rcases m with _ | _ | _ | _ | m<;>first | exact ns h | exact k1 x rfl h | exact k2 x rfl h
theorem mG{e:Option V}{a:Option γ}{f:Nat->Option γ}(h:(match e with | .none=>a | some (.str [c])=>f c | _=>.none)=some r)(k1:e=.none->a=some r->G)(k2:∀ c,e=some (.str [c])->f c=some r->G):G:=by
 induction e using Option.casesOn with
 | none=>exact k1 rfl h
 | some v=>induction v using Mine.V.casesOn with
  | str x=>induction x using List.casesOn with
   | nil=>exact ns h
   | cons c x=>induction x using List.casesOn with
    | nil=>exact k2 c rfl h
    | cons _ _=>exact ns h
  | _=>exact ns h
end
theorem b5f{μ μ':Mu}{k:Nat}{c:List Nat}{G:Prop}(h:a0w μ k=some (c,μ'))(K:∀ kp ks kl kc n L,μ[k]?=some (.obj [kp,ks] n)->1<=n->μ[ks]?=some (.obj [kl,kc] (-3))->μ[kl]?=some (.list L)->μ[kc]?=some (.obj [] (-6))->L.length<=big →
  ((L.getLast?=.none/\c=[]/\μ'=μ)∨∃ z,L.getLast?=some (.str [z])/\z<1114112/\c=[z]/\(z=10/\μ'=(μ.set kl (.list L.dropLast)).set k (.obj [kp,ks] (n+1))∨z≠10/\μ'=μ.set kl (.list L.dropLast)))->G):G:=by
 refine mo2 (e:=μ[k]?) h fun kp ks n hk h=>ifS h fun hn h=>mo3 h fun kl kc hs h=>mLC h fun L hL hC h=>ifS h fun hl h=>K kp ks kl kc n L hk hn hs hL hC hl ?_;refine mG h (fun hg h=>sp h fun e1 e2=>.inl ⟨hg,e1.symm,e2.symm⟩) fun z hg h=>?_;exact ifS h fun hz h=>ifE h (fun hq h=>sp h fun e1 e2=>.inr ⟨z,hg,hz,e1.symm,.inl ⟨hq,e2.symm⟩⟩) fun hq h=>sp h fun e1 e2=>.inr ⟨z,hg,hz,e1.symm,.inr ⟨hq,e2.symm⟩⟩
theorem a4m{μ μ':Mu}{k kf:Nat}{c:List Nat}{is:List Nat}(h:a0w μ k=some (c,μ'))(hf:μ[kf]?=some (.obj is (-2))):μ'[kf]?=some (.obj is (-2)):=by
 refine b5f h fun kp ks kl kc n L hk hn hs hL hC zz q=>?_;have h1:kf≠k:=fun q=>by rw [q,hk]at hf;cases hf;exact absurd hn (by decide)
 have h2:kf≠kl:=fun q=>by rw [q,hL]at hf;cases hf
 rcases q with⟨_,_,rfl⟩ | ⟨z,_,_,_,⟨_,rfl⟩ | ⟨_,rfl⟩⟩
 ·exact hf
 ·rw [List.getElem?_set_ne (fun z=>h1 z.symm),List.getElem?_set_ne (fun z=>h2 z.symm)];exact hf
 ·rw [List.getElem?_set_ne (fun z=>h2 z.symm)];exact hf
theorem c1c{μ μ':Mu}{kf:Nat}{r:Option (List Nat)}{G:Prop}(h:draw μ kf=some (r,μ'))(K1:∀ k c μ₁,μ[kf]?=some (.obj [k] (-2))->a0w μ k=some (c,μ₁)->((c=[]/\r=.none/\μ'=μ₁.set kf (.obj [k] (-4)))∨(c≠[]/\r=some c/\μ'=μ₁))->G)
  (K2:∀ k,μ[kf]?=some (.obj [k] (-4))->r=.none->μ'=μ->G):G:=by
 refine mD (e:=μ[kf]?) h (fun k hk h=>?_) fun k hk h=>sp h fun e1 e2=>K2 k hk e1.symm e2.symm;induction hr:a0w μ k using Option.casesOn with
 | none=>rw [hr]at h;exact ns h
 | some p=>
  obtain⟨c,μ₁⟩:=p;rw [hr]at h;induction c using List.casesOn with
  | nil=>exact sp h fun e1 e2=>K1 k _ μ₁ hk hr (.inl ⟨rfl,e1.symm,e2.symm⟩)
  | cons a c=>exact sp h fun e1 e2=>K1 k _ μ₁ hk hr (.inr ⟨List.cons_ne_nil _ _,e1.symm,e2.symm⟩)
theorem c9y{μ μ':Mu}{kf:Nat}{r:Option (List Nat)}(h:draw μ kf=some (r,μ')):(∃ k m,μ[kf]?=some (.obj [k] m)/\(m = -2∨m = -4))/\∃ k m,μ'[kf]?=some (.obj [k] m)/\(m = -2∨m = -4):=
 c1c h (fun k c μ₁ hk hr q=>⟨⟨k,_,hk,.inl rfl⟩,by
  have:=a4m hr hk;rcases q with⟨_,_,rfl⟩ | ⟨_,_,rfl⟩
  ·exact⟨k,-4,by rw [List.getElem?_set_self (List.getElem?_eq_some_iff.mp this).1],.inr rfl⟩
  ·exact⟨k,-2,this,.inl rfl⟩⟩) fun k hk zz e=>by subst e;exact⟨⟨k,_,hk,.inr rfl⟩,⟨k,_,hk,.inr rfl⟩⟩
theorem c3d{f:Rho->Mu->Option (F×Rho×Mu)}{t:T}{kf m:Nat}{ρ ρ':Rho}{μ μ':Mu}{g:F}{G:Prop}(h:a3h f t kf (m+1) ρ μ=some (g,ρ',μ'))(k1:∀ μ₂,draw μ kf=some (.none,μ₂)->some (F.next,ρ,μ₂)=some (g,ρ',μ')->G)
  (k2:∀ c μ₂ ρ₂ fK ρK μK,draw μ kf=some (some c,μ₂)->a3f t (.str c) ρ=some ρ₂->f ρ₂ μ₂=some (fK,ρK,μK)->d9i fK ρK μK (a3h f t kf m ρK μK)=some (g,ρ',μ')->G):G:=by
 have h:(match (generalizing:=false) draw μ kf with | .none=>.none | some (.none,μ)=>_ | some (some c,μ)=>_)=some (g,ρ',μ'):=h
 induction q:draw μ kf using Option.casesOn with
 | none=>rw [q]at h;exact ns h
 | some p=>
  obtain⟨c,μ₂⟩:=p;rw [q]at h;induction c using Option.casesOn with
  | none=>exact k1 μ₂ q h
  | some c=>
   dsimp only at h;induction q1:a3f t (.str c) ρ using Option.casesOn with
   | none=>rw [q1]at h;exact ns h
   | some ρ₂=>
    rw [q1]at h;dsimp only at h;induction q2:f ρ₂ μ₂ using Option.casesOn with
    | none=>rw [q2]at h;exact ns h
    | some p=>
     obtain⟨x,ρK,μK⟩:=p;rw [q2]at h;cases x<;>exact k2 c μ₂ ρ₂ _ ρK μK q q1 q2 h
inductive e2u(Lx:LxP)(base:Heap)(Γ:G)(env:Env)(as:List (List Addr))(s:Shared)(n:Nat)(bs:List S)(t:T)(kf:Nat)(f:F)(ρ':Rho)(μ':Mu)(m:Nat)(s':Shared):Prop
 | mk (ρI:Rho) (μ₁:Mu) (asI:List (List Addr)) (hY:Heap) (tkI:Nat) (hs:s'={ s with heap:=hY,toks:=tkI}) (hf:a3h (fun ρ μ=>exec Γ n bs ρ μ) t kf m ρI μ₁=some (f,ρ',μ')) (er:ER Γ.tbl base env ρI asI hY) (gr:GR Lx base μ₁ asI hY) (gs:GoS (Wf Γ.tbl env) as s.heap asI hY)
theorem c4t{n k:Nat}{mt:List Str}{tg:Expr}{t:T}{body:List Stmt}{bs:List S}{kf:Nat}{a:Addr}{q:List Addr}{ρ':Rho}{μ':Mu}{f:F}{Q:Flow->Shared->Prop}{R:Result->Shared->Prop}
  (LX:a5w prog w Lx base Γ n) (on:Γ.lexOn=true) (hn:12<=n) (X:b2u prog w Lx base Γ n) (nd:∀(i j:Nat) (x:Str),Γ.tbl[i]?=some x->Γ.tbl[j]?=some x->i=j) (hown:∀ x,a1g env.scope x=true->(nid Γ.tbl x).isSome=true) (hint:interactive env=false) (rm:Room A n) (c:ScR env.scope env) (tt:a1u Γ.tbl env.scope tg=some t) (htg:b6t tg=true) (tb:trS.trSs Γ.tbl mt k env.scope body=some bs)
  (hR:∀ fl s',Q fl s'->R (.ok fl) s') (ha:as[kf+1]?=some (a::q))
  (hQ:SPost Lx base Γ.tbl env as s f ρ' μ' Q) :
  ∀(m:Nat) (ρI:Rho) (μ₁:Mu) (asI:List (List Addr)) (hY:Heap) (tkI:Nat),a3h (fun ρ μ=>exec Γ n bs ρ μ) t kf m ρI μ₁=some (f,ρ',μ') →
   ER Γ.tbl base env ρI asI hY->GR Lx base μ₁ asI hY->GoS (Wf Γ.tbl env) as s.heap asI hY →
   codeAny (model prog w) A (.forLoop tg (.ref a) body [] env) R { s with heap:=hY,toks:=tkI}:=by
 intro m ρI μ₁ asI hY tkI hf er gr gs;refine codeAny_forLoop_any (e2u Lx base Γ env as s n bs t kf f ρ' μ') (fun m s' hm=>?_) m (.mk ρI μ₁ asI hY tkI rfl hf er gr gs);clear hf er gr gs;obtain⟨ρI,μ₁,asI,hY,tkI,rfl,hf,er,gr,gs⟩:=hm;generalize hI:e2u Lx base Γ env as s n bs t kf f ρ' μ'=I;have haI:asI[kf+1]?=some (a::q):=by
  obtain⟨nw,rfl,_⟩:=gs.ext;rw [List.getElem?_append_left (List.getElem?_eq_some_iff.mp ha).1];exact ha
 induction m using Nat.casesOn with
 | zero=>exact ns hf
 | succ m=>
  generalize notedBy (model prog w) A env (fun e s'=>R (.error e) s')=EO;refine c3d hf (fun μ₂ hd hf=>?_) fun cc μ₂ ρ₂ fK ρK μK hd hb he hf=>?_
  ·refine LX.draw A EO _ asI μ₁ μ₂ kf a q .none _ on hn rm gr haI hd fun h' tk rv g' go' hr=>?_
   cases hr;exact wpAny_execs_nil (hR _ _ (spS hf hQ .next asI h' tk g' (er.go go') (gs.trans go'.toS er.there) trivial))
  ·obtain⟨_,kJ,mJ,hkJ,hmJ⟩:=c9y hd
   refine LX.draw A EO _ asI μ₁ μ₂ kf a q (some cc) _ on hn rm gr haI hd fun h' tk rv g' go' hr=>?_;obtain⟨ttO,rfl⟩:=hr;have er':=er.go go';have gs':=gs.trans go'.toS er.there;refine LX.lets A EO { s with heap:=h',toks:=tk} asI μ₂ kf a q [kJ] mJ tg _ _ on g' haI hkJ hmJ htg ?_;refine a6j (b4s er' hown) (fun a ha=>ha) nd tt rm.calm hb er' g' ⟨_,rfl⟩ fun hJ tkJ gJ erJ gsJ ksJ=>?_;have gsK:=gs'.trans gsJ er'.there;refine X bs mt k body A EO env _ _ _ _ asI _ _ _ tb hown hint rm c erJ gJ he fun fl asL hU tkL gU erL gsL fr=>?_;have gsM:=gsK.trans gsL erJ.there;exact b5r (s:=s) hR hQ hf fr gU erL gsM fun hf=>⟨m,Nat.lt_succ_self m,hI▸.mk ρK μK asL hU tkL rfl hf erL gU gsM⟩
end
end
section
section
variable{prog:Program}{w:World}{Lx:LxP}{base:Heap}{Γ:G}
variable{A:Around}{E:Value->Shared->Prop}{env:Env}{ρ:Rho}{as:List (List Addr)}{s:Shared}
theorem a5s{x:Str}{p pos:Pos}{e:Expr}{Q:Flow->Shared->Prop}(h:wpAny (model prog w) A (eval e env) (fun v sI=>wpAny (model prog w) A (storeName env x v) (fun zz=>Q .next) E sI) E s)(hs:swapsWith e (some (.Name x p)) pos.line env=pure false) :
  wpAny (model prog w) A (PySem.exec (.Assign [.Name x p] e pos) env) Q E s:=wpAny_Assign_Name h hs
theorem d9d{e:Expr}(h:b1y e=true):isList e=false:=by induction e using PySem.Expr.casesOn<;>first | rfl | exact nt h
theorem d8z{tbl:List Str}{k line:Nat}{sc:Scope}{e:Expr}{y:Mine.X}(hcmp:b1y e=false)(t:trE tbl k sc e=some y):swapsWith e none line env=pure false:=by
 induction e using PySem.Expr.casesOn with
 | ListComp _ _ _ _=>cases hcmp
 | SetComp _ _ _ _=>cases k<;>exact ns t
 | DictComp _ _ _ _ _=>cases k<;>exact ns t
 | _=>rfl
theorem c0g {tbl:List Str} {env:Env} {ρ:Rho} {i:Nat} {x:Str} {v:V} {Q:Value->Shared->Prop} (er:ER tbl base env ρ as s.heap) (hx:nid tbl x=some i) (hv:a5o env.scope x=true) (hc:(x==("__classdict__":Str))=false) (hρ:ρ.lookup i=some v)
  (h:∀ u,Rep s.heap as v u->Q u s):wpAny (model prog w) A (loadName env x) Q E s:=by
 rcases b3o hv with hk | hk | hk
 ·obtain⟨m,hn,hl⟩:=er.loc
  obtain⟨u,h1,h2⟩:=hl i x v (a0o hx) hk hρ;exact wpAny_loadName_local er.kind hk hn h1 (h u h2)
 ·obtain⟨c,u,h1,_,_,h2,h3⟩:=er.cel i x (a0o hx) (.inl hk)
  obtain⟨u',rfl,r⟩:=h3 v hρ;exact wpAny_loadName_cell er.kind hk h1 h2 (h u' r)
 ·obtain⟨c,u,h1,_,_,h2,h3⟩:=er.cel i x (a0o hx) (.inr hk)
  obtain⟨u',rfl,r⟩:=h3 v hρ;exact wpAny_loadName_free er.kind hk h1 h2 (h u' r) hc
theorem e2a{tbl:List Str}{env:Env}{ρ:Rho}{i:Nat}{x:Str}{v:V}{Q:Value->Shared->Prop}(er:ER tbl base env ρ as s.heap)(hx:nid tbl x=some i)(hv:a1g env.scope x=true)(hρ:ρ.lookup i=some v)
  (h:∀ u,Rep s.heap as v u->Q u s):wpAny (model prog w) A (loadName env x) Q E s:=by
 rcases a7n hv with hk | hk
 ·obtain⟨m,hn,hl⟩:=er.loc
  obtain⟨u,h1,h2⟩:=hl i x v (a0o hx) hk hρ;exact wpAny_loadName_local er.kind hk hn h1 (h u h2)
 ·obtain⟨c,u,h1,_,_,h2,h3⟩:=er.cel i x (a0o hx) (.inl hk)
  obtain⟨u',rfl,r⟩:=h3 v hρ;exact wpAny_loadName_cell er.kind hk h1 h2 (h u' r)
theorem d3n{a b:List Nat}{t u:Tok}{Q:Value->Shared->Prop}(hl:a.length+b.length<=big)(h:∀ t' tk',Q (.str ⟨(a++b).toArray⟩ t') { s with toks:=tk'}):wpAny (model prog w) A (inplaceOp .Add (.str ⟨a.toArray⟩ t) (.str ⟨b.toArray⟩ u)) Q E s:=by
 have e:(⟨a.toArray⟩:Str)++(⟨b.toArray⟩:Str)=⟨(a++b).toArray⟩:=by
  show(⟨a.toArray++b.toArray⟩:Str)=_;simp
 refine iadd_str (fun t' tk'=>by rw [e];exact h t' tk') ?_;have e2:(⟨a.toArray⟩:Str).length+(⟨b.toArray⟩:Str).length=a.length+b.length:=by simp [Str.length]
 rw [e2,sizeLine_eq];unfold big at hl;omega
theorem e3d(S:Snd prog w Lx base Γ)(nd:∀(i j:Nat) (x:Str),Γ.tbl[i]?=some x->Γ.tbl[j]?=some x->i=j){n k i:Nat}{x:Str}{p pos:Pos}{e:Expr}{y:Mine.X}{u v r:V}{μ μ₁:Mu}{Q:Flow->Shared->Prop}
  (hx:nid Γ.tbl x=some i) (ho:a1g env.scope x=true) (te:trE Γ.tbl k env.scope e=some y) (rm:Room A n) (c:ScR env.scope env) (er:ER Γ.tbl base env ρ as s.heap) (gr:GR Lx base μ as s.heap) (hu:ρ.lookup i=some u) (h1:ev Γ n y ρ μ=some (v,μ₁)) (hop:c2r .Add u v=some r)
  (hQ:SPost Lx base Γ.tbl env as s .next (put i r ρ) μ₁ Q):wpAny (model prog w) A (PySem.exec (.AugAssign (.Name x p) .Add e pos) env) Q E s:=by
 refine wpAny_AugAssign_Name (e2a er hx ho hu fun a ra=>?_);refine(a4n S nd n).1 y k env.scope e te A E env ρ μ as s v μ₁ _ rm c er gr h1 fun b asI hY tk gI goI rb=>?_;have ra:=ra.go goI;have fin:∀ {w':Value} {tk':Nat},Rep hY asI r w'->wpAny (model prog w) A (storeName env x w') (fun zz=>Q .next) E { s with heap:=hY,toks:=tk'}:=fun {w' tk'} rw'=>
  b0o (s:={ s with heap:=hY,toks:=tk'}) nd hx ho (er.go goI) gI rw' fun hJ tkJ gJ erJ gsJ ksJ=>hQ .next asI hJ tkJ gJ erJ (goI.toS.trans gsJ (er.go goI).there) trivial
 induction u using Mine.V.casesOn with
 | int i=>induction v using Mine.V.casesOn with
  | int j=>
   obtain rfl:=Option.some.inj hop;obtain⟨t1,rfl⟩:=ra;obtain⟨t2,rfl⟩:=rb;exact iadd_int (fin ⟨_,rfl⟩)
  | _=>exact ns hop
 | str a=>induction v using Mine.V.casesOn with
  | str b=>
   refine ifS hop fun hl hop=>?_;obtain rfl:=Option.some.inj hop;obtain⟨t1,rfl⟩:=ra;obtain⟨t2,rfl⟩:=rb;exact d3n (of_decide_eq_true hl) fun t' tk'=>fin ⟨t',rfl⟩
  | _=>exact ns hop
 | _=>induction v using Mine.V.casesOn<;>exact ns hop
theorem d3u{n k:Nat}(LX:a5w prog w Lx base Γ n)(on:Γ.lexOn=true)(hn:12<=n)(X:b2u prog w Lx base Γ n)(nd:∀(i j:Nat) (x:Str),Γ.tbl[i]?=some x->Γ.tbl[j]?=some x->i=j){mt:List Str}{tg it:Expr}{body:List Stmt}{pos:Pos}{x:Str}{t:T}{i kf:Nat}{bs:List Mine.S}{ρ':Rho}{μ μ':Mu}{f:F}{Q:Flow->Shared->Prop}
  (hown:∀ x,a1g env.scope x=true->(nid Γ.tbl x).isSome=true) (hint:interactive env=false) (rm:Room A n) (c:ScR env.scope env) (hch:e8r env.scope it=some x) (tt:a1u Γ.tbl env.scope tg=some t) (hx:nid Γ.tbl x=some i) (tb:trS.trSs Γ.tbl mt k env.scope body=some bs)
  (er:ER Γ.tbl base env ρ as s.heap) (gr:GR Lx base μ as s.heap) (hρ:ρ.lookup i=some (.mut kf)) (h:a3h (fun ρ μ=>exec Γ n bs ρ μ) t kf big ρ μ=some (f,ρ',μ')) (hQ:SPost Lx base Γ.tbl env as s f ρ' μ' Q) :
  wpAny (model prog w) A (PySem.exec (.For tg it body [] pos) env) Q E s:=by
 induction it using PySem.Expr.casesOn with
 | Name y p=>
  refine ifS hch fun hy hch=>?_;obtain rfl:=Option.some.inj hch;obtain rfl:=eq_of_beq (a0e hy);refine wpAny_For (wpAny_Name (c0g er hx (a0n hy) (by decide) hρ fun u ru=>?_) (by decide)) fun v=>rfl;obtain⟨a,q,ha,rfl⟩:=ru;obtain⟨⟨r,μ₂⟩,hd⟩:∃ r,Mine.draw μ kf=some r:=by
   induction hd:Mine.draw μ kf using Option.casesOn with
   | some r=>exact⟨r,rfl⟩
   | none=>
    have h:a3h (fun ρ μ=>exec Γ n bs ρ μ) t kf (999999+1) ρ μ=some (f,ρ',μ'):=h;unfold a3h at h;rw [hd]at h;exact ns h
  obtain⟨⟨kI,mI,hkI,hmI⟩,_⟩:=c9y hd;refine LX.self A E s as μ kf a q [kI] mI _ on gr ha hkI hmI ?_;exact c4t (f:=f) (ρ':=ρ') (μ':=μ') (Q:=Q) LX on hn X nd hown hint rm c tt (b0f tt) tb (fun fl s' q=>q) ha hQ big ρ μ as s.heap s.toks h er gr (GoS.refl gr)
 | _=>exact ns hch
theorem f0t(tbl:List Str)(mt:List Str)(k:Nat)(sc:Scope)(ts:List Expr)(kk:Nat)(p:Pos)(v:Expr)(pos:Pos):(∃ vs k p,v=.Tuple vs k p)∨(trS tbl mt (k+1) sc (.Assign [.Tuple ts kk p] v pos)=((a1k (a9r tbl sc) ts).bind fun is=>(trE tbl k sc v).map fun e=>.unpack is e)/\∀ vs k p,v≠.Tuple vs k p):=by
 generalize hq:((a1k (a9r tbl sc) ts).bind fun is=>(trE tbl k sc v).map fun e=>Mine.S.unpack is e)=q;induction v using PySem.Expr.casesOn with
 | Tuple vs k p=>exact .inl ⟨vs,k,p,rfl⟩
 | _=>exact .inr ⟨hq,fun zz zz zz h=>nomatch h⟩
theorem b8d(S:Snd prog w Lx base Γ)(nd:∀(i j:Nat) (x:Str),Γ.tbl[i]?=some x->Γ.tbl[j]?=some x->i=j){n:Nat}(LX:a5w prog w Lx base Γ n)(X:b2u prog w Lx base Γ n){k:Nat}{mt:List Str}{st:Stmt}{x:Mine.S}{ρ':Rho}{μ μ':Mu}{f:F}{Q:Flow->Shared->Prop}
  (t:trS Γ.tbl mt k env.scope st=some x) (hown:∀ x,a1g env.scope x=true->(nid Γ.tbl x).isSome=true) (hint:interactive env=false) (rm:Room A n) (c:ScR env.scope env) (er:ER Γ.tbl base env ρ as s.heap) (gr:GR Lx base μ as s.heap) (h:a0d Γ n x ρ μ=some (f,ρ',μ'))
  (hQ:SPost Lx base Γ.tbl env as s f ρ' μ' Q):wpAny (model prog w) A (PySem.exec st env) Q E s:=by
 induction k using Nat.casesOn with
 | zero=>exact ns t
 | succ k=>
  cases st with
  | Assign targets v pos=>induction targets using List.casesOn with
   | nil=>exact ns t
   | cons t0 ts=>induction ts using List.casesOn with
    | cons _ _=>induction t0 using PySem.Expr.casesOn<;>exact ns t
    | nil=>induction t0 using PySem.Expr.casesOn with
     | Name x p=>
      refine ifS t fun ho t=>a0h t fun i hx t=>c2d t (fun y hfit t=>?_) fun zz t=>c2d t (fun e hlex t=>?_) fun zz t=>?_
      ·exact a1e t fun j hj e=>ifS (stx e h) fun hon h=>lkM h fun kx hρ h=>f0m h fun kp ks m hk h=>ifS h fun hm h=>
        a5s (LX.fit _ y j kx kp ks m A E env ρ μ as s _ (a0e hon) (of_decide_eq_true (a0n hon)) hfit hj hρ hk hm rm er gr fun v asI hY tk gI goI rv=>
         b0o nd hx ho (er.go goI) gI rv fun hJ tkJ gJ erJ gsJ ksJ=>spS h hQ .next asI hJ tkJ gJ erJ (goI.toS.trans gsJ (er.go goI).there) trivial) (c7a hfit fun zz zz zz zz zz zz e zz zz zz zz=>e▸rfl)
      ·exact a1e t fun y t e1=>ifS (stx e1 h) fun hon h=>e4t h fun ks μ₁ h1 h=>e9u h fun kl kc hks h=>
        a5s (LX.new (a0e hon) (of_decide_eq_true (a0n hon)) k e _ y A E env ρ μ as s ks kl kc μ₁ _ hlex t rm c er gr h1 hks fun v asI hY tk gI goI rv=>
         b0o nd hx ho (er.go goI) gI rv fun hJ tkJ gJ erJ gsJ ksJ=>spS h hQ .next asI hJ tkJ gJ erJ (goI.toS.trans gsJ (er.go goI).there) trivial) (c6z hlex fun zz zz e zz zz=>e▸rfl)
      ·exact a1e t fun y t e=>a7c (stx e h) fun v μ₁ h1 h=>b2p S nd hx ho t rm c er gr h1 (fun hc=>by rw [d9d hc,Bool.and_false]) (spS h hQ)
     | Tuple ts kk p=>
      rcases f0t Γ.tbl mt k env.scope ts kk p v pos with⟨vs,k',p',rfl⟩ | ⟨q,hnt⟩
      ·exact ifS t fun hq t=>a0h t fun is hi t=>a0h t fun l tl t=>ifS t fun hnd t=>a7c (stx (Option.some.inj t) h) fun v μ₁ h1 h=>a1e h fun ρI hu h=>
        c3a S nd hown hi hnd (a0e hq) (c4p (a0n hq)) tl rm c er gr h1 hu (spS (congrArg some h) hQ)
      ·exact a0h (q.symm.trans t) fun is hi t=>a1e t fun e te e1=>a7c (stx e1 h) fun v μ₁ h1 h=>a1e h fun ρI hu h=>b7r S nd hown hi hnt te rm c er gr h1 hu (spS (congrArg some h) hQ)
     | _=>exact ns t
  | If c0 a b pos=>
   exact a0h t fun cx tc t=>a0h t fun ax ta t=>a1e t fun bx tb e=>a7c (stx e h) fun v μ₁ h1 h=>wpAny_If (d2e h
    (fun h2 h=>(a4n S nd n).2 cx k env.scope _ tc A E env ρ μ as s v true μ₁ _ rm c er gr h1 h2 fun asI hY tk gI goI=>X _ mt k _ A E env ρ _ _ _ asI _ f _ ta hown hint rm c (er.go goI) gI h (hQ.after goI.toS (er.go goI).there))
    fun h2 h=>(a4n S nd n).2 cx k env.scope _ tc A E env ρ μ as s v false μ₁ _ rm c er gr h1 h2 fun asI hY tk gI goI=>X _ mt k _ A E env ρ _ _ _ asI _ f _ tb hown hint rm c (er.go goI) gI h (hQ.after goI.toS (er.go goI).there))
  | AugAssign tg op e pos=>induction tg using PySem.Expr.casesOn with
   | Name x p=>cases op with
    | Add=>exact ifS t fun ho t=>a0h t fun i hx t=>a1e t fun ex te e1=>e9k (stx e1 h) fun u hu h=>a7c h fun v μ₁ h1 h=>a1e h fun r hop h=>e3d S nd hx ho te rm c er gr hu h1 hop (spS (congrArg some h) hQ)
    | _=>exact ns t
   | Attribute o a p=>induction o using PySem.Expr.casesOn with
    | Name x p'=>cases op with
     | Add=>induction e using PySem.Expr.casesOn with
      | Constant cst kd pc=>induction cst using PySem.Const.casesOn with
       | int z=>induction z using Int.casesOn with
        | negSucc _=>exact ns t
        | ofNat z=>induction z using Nat.casesOn with
         | zero=>exact ns t
         | succ z=>induction z using Nat.casesOn with
          | succ _=>exact ns t
          | zero=>
           exact ifS t fun hq t=>a1e t fun j hj e=>lkM (stx e h) fun kx hρ h=>e9n h fun is m hk h=>ifS h fun hm h=>
            LX.line _ _ _ _ _ _ _ j kx is m A E env ρ μ as s Q (a0e (a0e (a0e hq))) (eq_of_beq (a0n (a0e (a0e hq)))) hj (c4p (a0n (a0e hq))) (c4p (a0n hq)) hρ hk hm rm er gr fun h' tk g' go'=>spS h hQ .next as h' tk g' (er.go go') go'.toS trivial
       | _=>exact ns t
      | _=>exact ns t
     | _=>exact ns t
    | _=>exact ns t
   | _=>exact ns t
  | For tg it body orelse pos=>induction orelse using List.casesOn with
   | cons _ _=>exact ns t
   | nil=>
    refine c2d t (fun x hch t=>?_) fun zz t=>?_
    ·exact a0h t fun tt h1 t=>a0h t fun i h2 t=>a1e t fun bs h3 e=>ifS (stx e h) fun hon h=>lkM h fun kf hρ h=>
      d3u LX (a0e hon) (of_decide_eq_true (a0n hon)) X nd hown hint rm c hch h1 h2 h3 er gr hρ h hQ
    ·refine ifS t fun he t=>a0h t fun tt h1 t=>a0h t fun ix h2 t=>a1e t fun bs h3 e=>c4q (stx e h) fun vs μ₁ hi h=>?_
     refine wpAny_For (c5w S (a4n S nd n).1 (b0f h1) he h2 rm c er gr hi fun itv own St asI hY tkI wk st gI goI=>?_) fun v=>b0v h2 v;have erI:=er.go goI;refine d1n (f:=f) (ρ':=ρ') (μ':=μ') (Q:=Q) X nd hown hint rm c h1 h3 (wk A rm.calm) (fun a ha hm=>?_) (fun fl s' q=>q) hQ vs 0 ρ μ₁ asI hY tkI rfl (Nat.zero_le _) h erI gI st goI.toS;obtain⟨_,_,o,e,_⟩:=er.held ha;exact ns (((wk A rm.calm).fresh a hm).1.symm.trans e)
  | Return e pos=>induction e using Option.casesOn with
   | none=>exact ns t
   | some e=>exact a1e t fun y t e1=>a7c (stx e1 h) fun v μ₁ h1 h=>wpAny_Return_some ((a4n S nd n).1 y k env.scope _ t A E env ρ μ as s v _ _ rm c er gr h1 fun u asI hY tk gI goI rv=>spS h hQ (.ret u) asI hY tk gI (er.go goI) goI.toS rv)
  | Expr e pos=>
   exact ifN t fun hcmp t=>a1e t fun y t e1=>a7c (stx e1 h) fun v μ₁ h1 h=>wpAny_Expr_any ((a4n S nd n).1 y k env.scope _ t A E env ρ μ as s v _ _ rm c er gr h1 fun u asI hY tk gI goI rv=>spS h hQ .next asI hY tk gI (er.go goI) goI.toS trivial) hint (d8z (Bool.eq_false_iff.mpr hcmp) t)
  | Break pos=>exact wpAny_Break (spS (stx (Option.some.inj t) h) hQ .brk as s.heap s.toks gr er (GoS.refl gr) trivial)
  | Continue pos=>exact wpAny_Continue (spS (stx (Option.some.inj t) h) hQ .cont as s.heap s.toks gr er (GoS.refl gr) trivial)
  | _=>exact ns t
end
end
section
section
variable{prog:Program}{w:World}{Lx:LxP}{base:Heap}{Γ:G}
variable{A:Around}{E:Value->Shared->Prop}{env:Env}{as:List (List Addr)}{s:Shared}
theorem c5z{f:S->Rho->Mu->Option (F×Rho×Mu)}{a:S}{b:List S}{ρ ρ':Rho}{μ μ':Mu}{g:F}{G:Prop}(h:a3q f (a::b) ρ μ=some (g,ρ',μ'))(k1:∀ ρI μ₁,f a ρ μ=some (.next,ρI,μ₁)->a3q f b ρI μ₁=some (g,ρ',μ')->G)(k2:f a ρ μ=some (g,ρ',μ')->g≠.next->G):G:=by
 have h:(match (generalizing:=false) f a ρ μ with
  | some (.next,ρ,μ)=>a3q f b ρ μ
  | x=>x)=some (g,ρ',μ'):=h
 induction q:f a ρ μ using Option.casesOn with
 | none=>rw [q]at h;exact ns h
 | some p=>
  obtain⟨x,ρI,μ₁⟩:=p;rw [q]at h;induction x using Mine.F.casesOn with
  | next=>exact k1 ρI μ₁ q h
  | _=>exact k2 (q.trans h) fun e=>by subst e;cases h
theorem c1b(S:Snd prog w Lx base Γ)(nd:∀(i j:Nat) (x:Str),Γ.tbl[i]?=some x->Γ.tbl[j]?=some x->i=j){n:Nat}(LX:a5w prog w Lx base Γ n)(X:b2u prog w Lx base Γ n){mt:List Str}(hown:∀ x,a1g env.scope x=true->(nid Γ.tbl x).isSome=true)(hint:interactive env=false)(rm:Room A n)(c:ScR env.scope env) :
  ∀(k:Nat) (stmts:List Stmt) (ss:List Mine.S) (ρ ρ':Rho) (μ μ':Mu) (as:List (List Addr)) (s:Shared) (f:F) (Q:Flow->Shared->Prop),
  trS.trSs Γ.tbl mt k env.scope stmts=some ss->ER Γ.tbl base env ρ as s.heap->GR Lx base μ as s.heap->a3q (a0d Γ n) ss ρ μ=some (f,ρ',μ') →
  SPost Lx base Γ.tbl env as s f ρ' μ' Q->wpAny (model prog w) A (execs stmts env) Q E s:=by
 intro k;induction k with
 | zero=>intro stmts ss ρ ρ' μ μ' as s f Q t er gr h hQ;exact ns t
 | succ k ih=>
  intro stmts ss ρ ρ' μ μ' as s f Q t er gr h hQ;induction stmts using List.casesOn with
  | nil=>
   obtain rfl:=Option.some.inj t;exact wpAny_execs_nil (spS h hQ .next as s.heap s.toks gr er (GoS.refl gr) trivial)
  | cons st r=>
   refine a0h t fun a t1 t=>a1e t fun b t2 e=>?_;have h:a3q (a0d Γ n) (a::b) ρ μ=_:=e▸h;refine c5z h (fun ρI μ₁ h1 h=>?_) fun h hne=>?_
   ·refine wpAny_execs_cons (b8d S nd LX X t1 hown hint rm c er gr h1 fun fl asI hY tk gI erI gsI fr=>?_)
    induction fl using PySem.Flow.casesOn with
    | next=>exact ih r b ρI ρ' μ₁ μ' asI _ f Q t2 erI gI h (hQ.after gsI erI.there)
    | _=>exact fr.elim
   ·refine wpAny_execs_cons (b8d S nd LX X t1 hown hint rm c er gr h fun fl asI hY tk gI erI gsI fr=>?_)
    induction fl using PySem.Flow.casesOn with
    | next=>induction f using Mine.F.casesOn with
     | next=>exact absurd rfl hne
     | _=>exact fr.elim
    | _=>exact hQ _ asI hY tk gI erI gsI fr
theorem a6v(S:Snd prog w Lx base Γ)(nd:∀(i j:Nat) (x:Str),Γ.tbl[i]?=some x->Γ.tbl[j]?=some x->i=j)(LX:∀ n,a5w prog w Lx base Γ n):∀ n,b2u prog w Lx base Γ n
 | 0=>fun ss mt k stmts A E env ρ ρ' μ μ' as s f Q zz zz zz zz zz zz zz h zz=>ns h
 | n+1=>fun ss mt k stmts A E env ρ ρ' μ μ' as s f Q t ho hi rm c er gr h hQ=>by
  rw [d5v]at h;exact c1b S nd (LX n) (a6v S nd LX n) ho hi (rm.less (Nat.le_succ n)) c k stmts ss ρ ρ' μ μ' as s f Q t er gr h hQ
end
end
section
section
variable{h:Heap}{as as':List (List Addr)}
mutual
theorem Rep.plain_to(sub:∀ a,a∈as.flatten->a∈as'.flatten):∀ {x:V} {v:Value},plain x=true->Rep h as' x v->Rep h as x v
 | .none,_,_,r=>r
 | .bool _,_,_,r=>r
 | .int _,_,_,r=>r
 | .flt _,_,_,r=>r
 | .str _,_,_,r=>r
 | .typ _,_,_,r=>r
 | .mut _,_,p,_=>nt p
 | .tup l,v,p,r=>by
  obtain⟨a,vs,e,ha,hi,hr⟩:=r;exact⟨a,vs,e,fun q=>ha (sub a q),hi,Reps.plain_to sub p hr⟩
 | .lst l,v,p,r=>by
  obtain⟨a,vs,e,ha,hi,hr⟩:=r;exact⟨a,vs,e,fun q=>ha (sub a q),hi,Reps.plain_to sub p hr⟩
theorem Reps.plain_to(sub:∀ a,a∈as.flatten->a∈as'.flatten):∀ {l:List V} {vs:List Value},a0v l=true->Reps h as' l vs->Reps h as l vs
 | [],_,_,r=>r
 | x::l,vs,p,r=>by
  obtain⟨v,rs,e,hx,hr⟩:=r;exact⟨v,rs,e,Rep.plain_to sub (a0e p) hx,Reps.plain_to sub (a0n p) hr⟩
end
variable{Lx:LxP}{base:Heap}{μ:Mu}{nw:List (List Addr)}
theorem mL{α:Type}{r:α}{G:Prop}{e:Option M}{f:List V->Option α}(h:(match e with | some (.list l)=>f l | _=>.none)=some r)(k:∀ l,e=some (.list l)->f l=some r->G):G:=by
 induction e using Option.casesOn with
 | none=>exact ns h
 | some m=>induction m using Mine.M.casesOn with
  | list l=>exact k l rfl h
  | obj _ _=>exact ns h
mutual
theorem Rep.frozen{m:Nat}(g:GR Lx base μ (as++nw) h)(hm:as.length=m+1):∀ {x y:V} {v:Value},a4v m μ x=some y->Rep h (as++nw) x v->Rep h as y v
 | .none,_,_,f,r=>by obtain rfl:=Option.some.inj f;exact r
 | .bool _,_,_,f,r=>by obtain rfl:=Option.some.inj f;exact r
 | .int _,_,_,f,r=>by obtain rfl:=Option.some.inj f;exact r
 | .flt _,_,_,f,r=>by obtain rfl:=Option.some.inj f;exact r
 | .str _,_,_,f,r=>by obtain rfl:=Option.some.inj f;exact r
 | .typ _,_,_,f,r=>by obtain rfl:=Option.some.inj f;exact r
 | .mut k,y,v,f,r=>by
  have sub:∀ a,a∈as.flatten->a∈(as++nw).flatten:=fun a q=>by rw [List.flatten_append];exact List.mem_append_left _ q
  obtain⟨a,q,e,rfl⟩:=r;refine ifE f (fun hk f=>?_) fun hk f=>mL f fun l hl f=>ifS f fun hp f=>?_
  ·obtain rfl:=Option.some.inj f
   rw [List.getElem?_append_left (hm▸Nat.succ_lt_succ hk)]at e;exact⟨a,q,e,rfl⟩
  ·cases f
   obtain⟨a',vs,e',hpl,hr⟩:=g.mus k _ _ hl e;cases e';refine⟨a,vs,rfl,fun hin=>?_,hpl,hr.plain_to sub hp⟩;rw [List.getElem?_append_right (hm▸Nat.succ_le_succ (Nat.not_lt.mp hk))]at e;have h2:a∈nw.flatten:=List.mem_flatten.mpr ⟨[a],List.mem_of_getElem? e,List.mem_singleton.mpr rfl⟩;have:=g.nd;rw [List.flatten_append,List.nodup_append]at this;exact this.2.2 a hin a h2 rfl
 | .tup l,y,v,f,r=>a1e f fun l' f2 e2=>by
  cases e2;obtain⟨a,vs,e,ha,hi,hr⟩:=r;exact⟨a,vs,e,fun q=>ha (by rw [List.flatten_append];exact List.mem_append_left _ q),hi,Reps.frozen g hm f2 hr⟩
 | .lst l,y,v,f,r=>ifS f fun hp f=>by
  obtain rfl:=Option.some.inj f;exact Rep.plain_to (as:=as) (as':=as++nw) (x:=.lst l) (fun a q=>by rw [List.flatten_append];exact List.mem_append_left _ q) hp r
theorem Reps.frozen{m:Nat}(g:GR Lx base μ (as++nw) h)(hm:as.length=m+1):∀ {l l':List V} {vs:List Value},b0l m μ l=some l'->Reps h (as++nw) l vs->Reps h as l' vs
 | [],_,_,f,r=>by obtain rfl:=Option.some.inj f;exact r
 | x::l,l',vs,f,r=>by
  have f:(match (generalizing:=false) a4v m μ x,b0l m μ l with | some a,some b=>some (a::b) | _,_=>.none)=some l':=f
  obtain⟨v,rs,e,hx,hr⟩:=r;induction f1:a4v m μ x using Option.casesOn with
  | none=>rw [f1]at f;exact ns f
  | some a=>induction f2:b0l m μ l using Option.casesOn with
   | none=>rw [f1,f2]at f;exact ns f
   | some b=>
    rw [f1,f2]at f;obtain rfl:=Option.some.inj f;exact⟨v,rs,e,Rep.frozen g hm f1 hx,Reps.frozen g hm f2 hr⟩
end
theorem GR.drop{m:Nat}(g:GR Lx base μ (as++nw) h)(hm:as.length=m+1)(hok:(μ.take m).all (okM m)=true)(hl:m<=μ.length):GR Lx base (μ.take m) as h:=by
 have sub:∀ a,a∈as.flatten->a∈(as++nw).flatten:=fun a q=>by rw [List.flatten_append];exact List.mem_append_left _ q
 refine⟨g.keep,fun a ha=>g.fresh a (sub a ha),?_,fun a ha=>g.alive a (sub a ha),by rw [hm,List.length_take];omega,fun k M ads hk ha=>?_⟩
 ·have:=g.nd
  rw [List.flatten_append,List.nodup_append]at this;exact this.1
 ·have hk':k<m:=by
   have:=(List.getElem?_eq_some_iff.mp hk).1;rw [List.length_take]at this;omega
  have hM:okM m M=true:=List.all_eq_true.mp hok M (List.mem_of_getElem? hk);rw [List.getElem?_take_of_lt hk']at hk;have:=g.mus k M ads hk (by rw [List.getElem?_append_left (by omega)];exact ha);induction M using Mine.M.casesOn with
  | list l=>
   obtain⟨a,vs,rfl,hp,hr⟩:=this;exact⟨a,vs,rfl,hp,hr.plain_to sub hM⟩
  | obj is n=>exact let⟨rs,e1,e2⟩:=this;⟨rs,c7q hm hM e1,e2⟩
end
end
section
theorem b8e(f:Str->Option NameKind){x:Str}:∀(bs:List (Str×Value)) (m:Str->Option Value),x∉bs.map (·.1)->bindL f bs m x=m x:=by
 intro z_;induction z_ with
 | nil=>
  intro _ _;exact rfl
 | cons z1_ r ih=>
  obtain⟨n,v⟩:=z1_;intro m h;refine(ih _ fun q=>h (List.mem_cons_of_mem _ q)).trans ?_;by_cases hf:f n=some .local
  ·rw [if_pos hf];exact if_neg fun q=>h (List.mem_cons.mpr (.inl q))
  ·rw [if_neg hf]
theorem b1w(f:Str->Option NameKind){x:Str}{u:Value}(hx:f x=some .local):∀(bs:List (Str×Value)) (m:Str->Option Value),(bs.map (·.1)).Nodup->(x,u)∈bs->bindL f bs m x=some u:=by
 intro z_;induction z_ with
 | nil=>
  intro _ _ h;cases h
 | cons z1_ r ih=>
  obtain⟨n,v⟩:=z1_;intro m nd h;rw [List.map_cons,List.nodup_cons]at nd;rcases List.mem_cons.mp h with e | h
  ·cases e
   refine(b8e f r _ nd.1).trans ?_;rw [if_pos hx];exact if_pos rfl
  ·exact ih _ nd.2 h
theorem b7w(f:Str->Option NameKind){x:Str}:∀(bs:List (Str×Value)) (m:Str->Option Value),x∉bs.map (·.1)->bindC f bs m x=m x:=by
 intro z_;induction z_ with
 | nil=>
  intro _ _;exact rfl
 | cons z1_ r ih=>
  obtain⟨n,v⟩:=z1_;intro m h;refine(ih _ fun q=>h (List.mem_cons_of_mem _ q)).trans ?_;by_cases hf:f n=some .local
  ·rw [if_pos hf]
  ·rw [if_neg hf];exact if_neg fun q=>h (List.mem_cons.mpr (.inl q))
theorem c8g(f:Str->Option NameKind){x:Str}{u:Value}(hx:f x≠some .local):∀(bs:List (Str×Value)) (m:Str->Option Value),(bs.map (·.1)).Nodup->(x,u)∈bs->bindC f bs m x=some u:=by
 intro z_;induction z_ with
 | nil=>
  intro _ _ h;cases h
 | cons z1_ r ih=>
  obtain⟨n,v⟩:=z1_;intro m nd h;rw [List.map_cons,List.nodup_cons]at nd;rcases List.mem_cons.mp h with e | h
  ·cases e
   refine(b7w f r _ nd.1).trans ?_;rw [if_neg hx];exact if_pos rfl
  ·exact ih _ nd.2 h
theorem a2l{x:Str}(ns:List (Str×NameKind))(n:Nat)(acc:List (Str×Addr))(h:ns.lookup x=some .cell):((cellsFrom n ns acc).lookup x).isSome=true:=cellsFrom_some ns n acc (.inl h)
theorem a8s{tbl:List Str}{h:Heap}{as:List (List Addr)}{i:Nat}{x:Str}{v:V}(hx:tbl[i]?=some x):∀(names:List Str) (is:List Nat) (args:List V) (vals:List Value),a1k (nid tbl) names=some is->Reps h as args vals->(is.zip args).lookup i=some v →
  ∃ u,(x,u)∈names.zip vals/\Rep h as v u
 | [],is,args,vals,a,r,e=>by cases a;cases e
 | n::ns,is,[],vals,a,r,e=>by rw [List.zip_nil_right]at e;cases e
 | n::ns,is,y::ys,vals,a,r,e=>by
  refine a0g a fun j js h1 h2 a=>?_;cases a;obtain⟨u,us,rfl,ru,rr⟩:=r;rw [List.zip_cons_cons,List.lookup_cons]at e;induction q:i==j using Bool.casesOn with
  | true=>
   rw [q]at e;obtain rfl:=Option.some.inj e;cases eq_of_beq q;rw [a0o h1]at hx;obtain rfl:=Option.some.inj hx;exact⟨u,List.mem_cons_self,ru⟩
  | false=>
   rw [q]at e;obtain⟨u',m,r'⟩:=a8s hx ns js ys us h2 rr e;exact⟨u',List.mem_cons_of_mem _ m,r'⟩
section
variable{prog:Program}{w:World}{Lx:LxP}{base:Heap}{Γ:G}
theorem b4d{tbl:List Str}{fd:FuncData}{a:Addr}{as:List (List Addr)}{s sI:Shared}{names:List Str}{is:List Nat}{args:List V}{vals:List Value}{μ:Mu}
  (hk:fd.scope.kind=.function) (hg:fd.globals=mainGlobals) (hb:fd.builtins=builtinsNs) (hfree:∀ p∈fd.scope.names,p.2≠.free) (hnd:names.Nodup) (hi:a1k (nid tbl) names=some is)
  (x:InCallC s (callEnvC fd s.heap.objs.size a).locals (bindL (callEnvC fd s.heap.objs.size a).kindOf (names.zip vals) fun zz=>.none) (callEnvC fd s.heap.objs.size a).cells
    (bindC (callEnvC fd s.heap.objs.size a).kindOf (names.zip vals) fun zz=>.none) sI)
  (hl:names.length=vals.length) (g:GR Lx base μ as s.heap) (ra:Reps sI.heap as args vals):ER tbl base (callEnvC fd s.heap.objs.size a) (is.zip args) as sI.heap:=by
 have hndz:((names.zip vals).map (·.1)).Nodup:=by rw [List.map_fst_zip (by omega)];exact hnd
 have off:∀ c,s.heap.objs.size<=c->c∉as.flatten/\base.get? c=.none:=fun c hc=>by
  have hn:s.heap.get? c=.none:=by
   induction q:s.heap.get? c using Option.casesOn with
   | none=>rfl
   | some o=>exact absurd (Heap.lt_size q) (Nat.not_lt.mpr hc)
  refine⟨fun q=>?_,?_⟩
  ·obtain⟨o,e⟩:=g.alive c q
   rw [hn]at e;exact ns e
  ·induction q:base.get? c using Option.casesOn with
   | none=>rfl
   | some o=>have:=g.keep _ _ q;rw [hn]at this;exact ns this
 refine⟨hk,hg,hb,⟨_,x.toInCall.ns,fun i y v h1 h2 h3=>?_⟩,off _ x.toInCall.fresh,fun i y h1 h2=>?_,fun y z c h1 h2=>?_⟩
 ·obtain⟨u,hm,hr⟩:=a8s h1 names is args vals hi ra h3
  exact⟨u,b1w _ h2 _ _ hndz hm,hr⟩
 ·have hkc:(callEnvC fd s.heap.objs.size a).kindOf y=some .cell:=by
   rcases h2 with q | q
   ·exact q
   ·exact absurd rfl (hfree _ (a4u q))
  obtain⟨c,hc⟩:=Option.isSome_iff_exists.mp (a2l fd.scope.names (s.heap.objs.size+1) [] hkc);have hc':(callEnvC fd s.heap.objs.size a).cells.lookup y=some c:=hc;have hlt:s.heap.objs.size<=c:=Nat.le_of_lt (Nat.lt_of_le_of_lt x.toInCall.fresh (x.above _ _ (mem_of_lookup hc')));refine⟨c,_,hc',(off c hlt).1,(off c hlt).2,x.cell _ _ hc',fun v hv=>?_⟩;obtain⟨u,hm,hr⟩:=a8s h1 names is args vals hi ra hv;exact⟨u,c8g _ (by rw [hkc];intro q;cases q) _ _ hndz hm,hr⟩
 ·exact name_of_addr x.apart (mem_of_lookup h1) (mem_of_lookup h2)
theorem e9y{m:Nat}{ex:Option (F×Rho×Mu)}{r:V}{μ':Mu}{P:Prop}(h:(match ex with | some (.ret v,_,μ')=>if(μ'.take m).all (okM m)then(a4v m μ' v).map (·,μ'.take m)else .none | some (.next,_,μ')=>if(μ'.take m).all (okM m)then some (.none,μ'.take m)else .none | _=>.none)=some (r,μ'))
  (k1:∀ v ρ₂ μ₂ v',ex=some (.ret v,ρ₂,μ₂)->(μ₂.take m).all (okM m)=true->a4v m μ₂ v=some v'->v'=r->μ₂.take m=μ'->P) (k2:∀ ρ₂ μ₂,ex=some (.next,ρ₂,μ₂)->(μ₂.take m).all (okM m)=true->V.none=r->μ₂.take m=μ'->P):P:=by
 induction ex using Option.casesOn with
 | none=>exact ns h
 | some p=>
  obtain⟨f,ρ₂,μ₂⟩:=p;induction f using Mine.F.casesOn with
  | ret v=>exact ifS h fun hok h=>a1e h fun v' hf h=>pr h fun e1 e2=>k1 v ρ₂ μ₂ v' rfl hok hf e1 e2
  | next=>exact ifS h fun hok h=>sp h fun e1 e2=>k2 ρ₂ μ₂ rfl hok e1 e2
  | _=>exact ns h
theorem e3h(S:Snd prog w Lx base Γ)(nd:∀(i j:Nat) (x:Str),Γ.tbl[i]?=some x->Γ.tbl[j]?=some x->i=j)(LX:∀ n,a5w prog w Lx base Γ n)(hbig:base.NoLimit)
  {n k:Nat} {mt:List Str} {a:Addr} {o:Obj} {fd:FuncData} {body:List Stmt} {ss:List Mine.S} {names:List Str} {is:List Nat} {args:List V} {μ μ':Mu} {r:V}
  (ho:base.get? a=some o) (hd:o.data=.func fd) (hcd:base.CodeRec fd.code fd.qualname) (hbody:fd.body=.stmts body)
  (hg:fd.globals=mainGlobals) (hb:fd.builtins=builtinsNs) (hclo:fd.closure=[])
  (hco:fd.scope.isCoroutine=false) (hgen:fd.scope.isGenerator=false) (hk:fd.scope.kind=.function)
  (hbind:∀ vals:List Value,vals.length=names.length->bindArgs fd ⟨vals,[]⟩=pure (names.zip vals))
  (hi:a1k (nid Γ.tbl) names=some is) (hnd:names.Nodup) (hkn:∀ x∈names,fd.scope.names.lookup x=some .local∨fd.scope.names.lookup x=some .cell)
  (hfree:∀ p∈fd.scope.names,p.2≠.free) (hown:∀ x,a1g fd.scope x=true->(nid Γ.tbl x).isSome=true) (hint:∀ L,interactive (callEnvC fd L a)=false)
  (t:trS.trSs Γ.tbl mt k fd.scope body=some ss) (h:a2z Γ n is ss args μ=some (r,μ')):CallOK prog w Lx base (n+1) (.ref a) args μ r μ':=by
 intro A E s as vals Q rm g ra hQ
 ·refine ifS h fun hlen h=>?_
  have hlen:is.length=args.length:=eq_of_beq hlen;have hl:names.length=vals.length:=by rw [ra.length,← hlen,a6r hi]
  have rm':∀ env,Room (A.deeper env) n:=fun env=>⟨rm.calm,by show A.depth+1+n<=900;have:=rm.depth;omega,by show A.units+3+10 * n<=9000;have:=rm.units;omega⟩;refine wpAny_call (codeAny_call_cells (by have:=rm.depth;show A.depth<1000;omega) (g.keep _ _ ho) hd (hbig.keeps fun b o e=>g.keep b o e) (hcd.keeps fun b o e=>g.keep b o e) hbody (hbind vals hl.symm) hclo (fun x hx=>?_) (fun sI x=>?_) hco hgen hk)
  ·rcases hkn x.1 (List.of_mem_zip hx).1 with q | q
   ·exact .inl q
   ·exact .inr ⟨q,a2l _ _ _ q⟩
  ·obtain⟨hY,tkI,eI,hkeep⟩:=x.done
   have gI:GR Lx base μ as sI.heap/\Go as s.heap as sI.heap:=g.all fun a o zz e=>x.toInCall.keep a o e;obtain⟨gI,goI⟩:=gI;have er:=b4d (tbl:=Γ.tbl) hk hg hb hfree hnd hi x hl g (ra.go goI);have hwf:∀ b,Wf Γ.tbl (callEnvC fd s.heap.objs.size a) b->s.heap.get? b=.none:=by
    intro b hb;have:s.heap.objs.size<=b:=by
     rcases hb with rfl | ⟨i,y,_,_,hc⟩
     ·exact x.toInCall.fresh
     ·exact Nat.le_of_lt (Nat.lt_of_le_of_lt x.toInCall.fresh (x.above _ _ (mem_of_lookup hc)))
    induction q:s.heap.get? b using Option.casesOn with
    | none=>rfl
    | some o=>exact absurd (Heap.lt_size q) (Nat.not_lt.mpr this)
   have fin:∀ {μ₂:Mu} {asJ:List (List Addr)} {hJ:Heap} {u:Value} {v v':V} {tk:Nat},GR Lx base μ₂ asJ hJ->GoS (Wf Γ.tbl (callEnvC fd s.heap.objs.size a)) as sI.heap asJ hJ->((μ₂.take μ.length).all (okM μ.length)=true)->Rep hJ asJ v u->a4v μ.length μ₂ v=some v' →
     (∀ u h' tk,GR Lx base (μ₂.take μ.length) as h'->Go as s.heap as h'->Rep h' as v' u->Q u { s with heap:=h',toks:=tk})->Q u { s with heap:=hJ,toks:=tk}:=by
    intro μ₂ asJ hJ u v v' tk gJ gs hok rv hf K;obtain⟨nw,rfl,_⟩:=gs.ext;have hlm:as.length=μ.length+1:=g.len;have hle:μ.length<=μ₂.length:=by
     have:=gJ.len;rw [List.length_append]at this;omega
    refine K u hJ tk (gJ.drop hlm hok hle) ⟨⟨[],by simp,by simp⟩,fun b o hb e=>?_,fun b hb=>?_⟩ (rv.frozen gJ hlm hf)
    ·exact gs.keep b o hb (fun q=>by rw [hwf b q]at e;exact ns e) (x.toInCall.keep b o e)
    ·exact gJ.alive b (by rw [List.flatten_append];exact List.mem_append_left _ hb)
   rw [eI];rw [eI]at gI er;refine e9y h (fun v ρ₂ μ₂ v' hx hok hf e1 e2=>?_) fun ρ₂ μ₂ hx hok e1 e2=>?_
   ·subst e1 e2
    refine a6v S nd LX n ss mt k body _ _ _ _ ρ₂ _ μ₂ as _ (.ret v) _ t hown (hint _) (rm' _) ⟨fun zz q=>q,fun zz q=>q,fun zz q=>q⟩ er gI hx fun fl asJ hJ tk gJ erJ gs fr=>?_;induction fl using PySem.Flow.casesOn<;>try exact fr.elim
    exact fin gJ (by rw [eI];exact gs) hok fr hf fun u h' tk g' go' r'=>hQ u as h' tk g' go' r'
   ·subst e1 e2
    refine a6v S nd LX n ss mt k body _ _ _ _ ρ₂ _ μ₂ as _ .next _ t hown (hint _) (rm' _) ⟨fun zz q=>q,fun zz q=>q,fun zz q=>q⟩ er gI hx fun fl asJ hJ tk gJ erJ gs fr=>?_;induction fl using PySem.Flow.casesOn<;>try exact fr.elim
    exact fin (v:=.none) (v':=.none) gJ (by rw [eI];exact gs) hok rfl rfl fun u h' tk g' go' r'=>hQ u as h' tk g' go' r'
end
end
section
theorem Ns.keep{h h':Heap}{a:Addr}{m:Str->Option Value}(x:h.Ns a m)(k:∀ b o,h.get? b=some o->h'.get? b=some o):h'.Ns a m:=
 let⟨o,es,ep,e,r⟩:=x;⟨o,es,ep,k _ _ e,r⟩
section
variable{prog:Program}{w:World}{Lx:LxP}{base:Heap}{Γ:G}
theorem a1s{x:Str}{v:Value}{mg:Str->Option Value}(hg:base.Ns mainGlobals mg)(hv:mg x=some v):a1i prog w base x v:=
 fun env A E s Q eg eb keep q=>loadGlobal_global (mg:=mg) (by rw [eg];exact Ns.keep hg keep) hv q
theorem b9h{x:Str}{v:Value}{mg mb:Str->Option Value}(hg:base.Ns mainGlobals mg)(hn:mg x=.none)(hb:base.Ns builtinsNs mb)(hv:mb x=some v):a1i prog w base x v:=
 fun env A E s Q eg eb keep q=>loadGlobal_builtin (mg:=mg) (mb:=mb) (by rw [eg];exact Ns.keep hg keep) hn (by rw [eb];exact Ns.keep hb keep) hv q
noncomputable def f1c(Γ:G)(id:Nat)(params:List Nat)(body:List S):G:=
 { Γ with call:=fun n i args μ=>if i=id then(match n with | 0=>.none | n+1=>a2z Γ n params body args μ)else Γ.call n i args μ}
noncomputable def okF(tbl:List Str)(sc:Scope)(names:List Str)(is:List Nat):Bool:=
 a1k (nid tbl) names==some is&&decide names.Nodup&&names.all (fun x=>sc.names.lookup x==some .local||sc.names.lookup x==some .cell) &&
 sc.names.all (fun p=>p.2 != .free)&&sc.names.all (fun p=>(nid tbl p.1).isSome)&&!sc.isCoroutine&&!sc.isGenerator&&sc.kind==.function
theorem a6u{tbl:List Str}{sc:Scope}(h:sc.names.all (fun p=>(nid tbl p.1).isSome)=true):∀ x,a1g sc x=true->(nid tbl x).isSome=true:=by
 intro x hx;unfold a1g a2e at hx;have:∃ k,sc.names.lookup x=some k:=by
  induction q:sc.names.lookup x using Option.casesOn with
  | none=>rw [q]at hx;cases hx
  | some k=>exact⟨k,rfl⟩
 obtain⟨k,hk⟩:=this;exact List.all_eq_true.mp h (x,k) (mem_of_lookup hk)
end
end
section
noncomputable def a3m:List V->Option (List Int)
 | []=>some []
 | .int i::r=>(a3m r).map (i::·)
 | _=>.none
noncomputable def a9m:List V->Option (List (List Nat))
 | []=>some []
 | .str i::r=>(a9m r).map (i::·)
 | _=>.none
noncomputable def a3t(a b:UInt64):UInt64:=if Float64.cmp a b==some .lt then b else a
noncomputable def a5q(a b:UInt64):UInt64:=if Float64.cmp b a==some .lt then b else a
noncomputable def a8x(x:Int):List Int->List Int
 | []=>[x]
 | y::r=>if x<=y then x::y::r else y::a8x x r
noncomputable def b3y:List Int->List Int
 | []=>[]
 | x::r=>a8x x (b3y r)
theorem a9k(x:Int):∀ l:List Int,(a8x x l).Perm (x::l):=by
 intro z_;induction z_ with
 | nil=>
  exact .refl _
 | cons y r ih=>
  show(if x<=y then x::y::r else y::a8x x r).Perm _;by_cases h:x<=y
  ·rw [if_pos h]
  ·rw [if_neg h];exact((ih).cons y).trans (.swap _ _ _)
theorem a8u:∀ l:List Int,(b3y l).Perm l:=by
 intro z_;induction z_ with
 | nil=>
  exact .refl _
 | cons x r ih=>
  exact(a9k x _).trans ((ih).cons x)
theorem b2q(x:Int):∀ l:List Int,l.Pairwise (·<=·)->(a8x x l).Pairwise (·<=·):=by
 intro z_;induction z_ with
 | nil=>
  intro _;exact List.pairwise_singleton _ _
 | cons y r ih=>
  intro h;have h:=List.pairwise_cons.mp h;show(if x<=y then x::y::r else y::a8x x r).Pairwise _;by_cases hxy:x<=y
  ·rw [if_pos hxy]
   refine List.pairwise_cons.mpr ⟨fun z hz=>?_,List.pairwise_cons.mpr h⟩;rcases List.mem_cons.mp hz with rfl | hz
   ·exact hxy
   ·exact Int.le_trans hxy (h.1 z hz)
  ·rw [if_neg hxy]
   refine List.pairwise_cons.mpr ⟨fun z hz=>?_,ih h.2⟩;rcases List.mem_cons.mp ((a9k x r).mem_iff.mp hz)with rfl | hz
   ·exact Int.le_of_lt (Int.not_le.mp hxy)
   ·exact h.1 z hz
theorem a9l:∀ l:List Int,(b3y l).Pairwise (·<=·):=by
 intro z_;induction z_ with
 | nil=>
  exact .nil
 | cons x r ih=>
  exact b2q x _ (ih)
theorem a7h:∀ {lI lJ:List Int},lI.Perm lJ->lI.Pairwise (·<=·)->lJ.Pairwise (·<=·)->lI=lJ
 | [],lJ,p,_,_=>(List.nil_perm.mp p).symm▸rfl
 | a::r,[],p,_,_=>nomatch p.length_eq
 | a::r,b::q,p,h1,h2=>by
  have h1:=List.pairwise_cons.mp h1;have h2:=List.pairwise_cons.mp h2;have e:a=b:=by
   refine Int.le_antisymm ?_ ?_
   ·rcases List.mem_cons.mp (p.mem_iff.mpr List.mem_cons_self:b∈a::r)with rfl | h
    ·exact Int.le_refl _
    ·exact h1.1 b h
   ·rcases List.mem_cons.mp (p.mem_iff.mp List.mem_cons_self:a∈b::q)with rfl | h
    ·exact Int.le_refl _
    ·exact h2.1 a h
  subst e;rw [a7h (List.perm_cons a |>.mp p) h1.2 h2.2]
section
variable{prog:Program}{w:World}{Lx:LxP}{base:Heap}{μ:Mu}{h:Heap}{as:List (List Addr)}{n:Nat}
theorem Post.same{s:Shared}{r:V}{v:Value}{tk:Nat}{Q:Value->Shared->Prop}(hQ:Post Lx base as s r μ Q)(g:GR Lx base μ as s.heap)(rv:Rep s.heap as r v):Q v { s with toks:=tk}:=
 hQ v as s.heap tk g g.go rv
theorem Post.kept{s:Shared}{r:V}{v:Value}{h':Heap}{tk:Nat}{Q:Value->Shared->Prop}(hQ:Post Lx base as s r μ Q)(g:GR Lx base μ as s.heap)(k:∀ b o,s.heap.get? b=some o->h'.get? b=some o)(rv:Rep h' as r v):Q v { s with heap:=h',toks:=tk}:=
 let⟨g',go⟩:=g.all fun a o zz e=>k a o e
 hQ v as h' tk g' go rv
theorem b0j:∀ {l:List V} {ns:List Int} {vs:List Value},a3m l=some ns->Reps h as l vs->IntsAre vs ns:=by
 intro z_;induction z_ with
 | nil=>
  intro ns vs e r;cases e;cases r;exact .nil
 | cons x l ih=>
  intro ns vs e r;obtain⟨v,rs,rfl,rx,rr⟩:=r;induction x using Mine.V.casesOn with
  | int i=>
   refine a1e e fun ms e2 q=>?_;cases q;obtain⟨t,rfl⟩:=rx;exact .cons _ _ (ih e2 rr)
  | _=>exact Mine.ns e
theorem b7h{vs:List Value}{ns:List Int}(x:IntsAre vs ns):Reps h as (ns.map .int) vs:=by
 induction x with
 | nil=>rfl
 | cons i t _ ih=>exact⟨_,_,rfl,⟨_,rfl⟩,ih⟩
theorem a6o:∀ {vs:List Value} {ns:List Int},IntsAre vs ns->∃ ys:List (Int×Tok),vs=ys.map (fun p=>Value.int p.1 p.2)/\ys.map (·.1)=ns
 | _,_,.nil=>⟨[],rfl,rfl⟩
 | _,_,.cons i t x=>by
  obtain⟨ys,e1,e2⟩:=a6o x;exact⟨(i,t)::ys,by simp [e1],by simp [e2]⟩
theorem d6w {l:List V} (hl:l.length<=big):CallOK prog w Lx base n (.builtin "len") [.lst l] μ (.int l.length) μ:=fun A E s as vs Q rm g ra hQ=>by
 obtain⟨v,r,rfl,⟨a,us,rfl,ha,hp,hr⟩,rfl⟩:=ra;refine len_list hp.isList ?_ (hQ.same (tk:=s.toks+1+1) g ?_)
 ·rw [List.size_toArray,hr.length];unfold big at hl;omega
 ·simp only [Rep,List.size_toArray,hr.length];exact⟨_,rfl⟩
theorem d7y {l:List V} {k:Nat} (hk:μ[k]?=some (.list l)) (hl:l.length<=big):CallOK prog w Lx base n (.builtin "len") [.mut k] μ (.int l.length) μ:=fun A E s as vs Q rm g ra hQ=>by
 obtain⟨v,r,rfl,⟨a,q,e,rfl⟩,rfl⟩:=ra;obtain⟨a',us,e',hp,hr⟩:=g.mus k _ _ hk e;obtain⟨rfl,rfl⟩:=List.cons.inj e';refine len_list hp.isList ?_ (hQ.same (tk:=s.toks+1+1) g ?_)
 ·rw [List.size_toArray,hr.length];unfold big at hl;omega
 ·simp only [Rep,List.size_toArray,hr.length];exact⟨_,rfl⟩
theorem d8b {l:List V} (hl:l.length<=big):CallOK prog w Lx base n (.builtin "len") [.tup l] μ (.int l.length) μ:=fun A E s as vs Q rm g ra hQ=>by
 obtain⟨v,r,rfl,⟨a,us,rfl,ha,hp,hr⟩,rfl⟩:=ra;refine len_tuple hp ?_ (hQ.same (tk:=s.toks+1+1) g ?_)
 ·rw [List.size_toArray,hr.length];unfold big at hl;omega
 ·simp only [Rep,List.size_toArray,hr.length];exact⟨_,rfl⟩
theorem d0w {x:List Nat} (hl:x.length<=big):CallOK prog w Lx base n (.builtin "len") [.str x] μ (.int x.length) μ:=fun A E s as vs Q rm g ra hQ=>by
 obtain⟨v,r,rfl,⟨t,rfl⟩,rfl⟩:=ra;have e:(⟨x.toArray⟩:Str).length=x.length:=by simp [Str.length]
 refine len_str ?_ (hQ.same (tk:=s.toks+1+1) g ?_)
 ·rw [e];unfold big at hl;omega
 ·simp only [Rep,e];exact⟨_,rfl⟩
theorem d6p {l:List V} {ns:List Int} (hi:a3m l=some ns):CallOK prog w Lx base n (.builtin "sum") [.lst l] μ (.int ns.sum) μ:=fun A E s as vs Q rm g ra hQ=>by
 obtain⟨v,r,rfl,⟨a,us,rfl,ha,hp,hr⟩,rfl⟩:=ra;obtain⟨ys,rfl,rfl⟩:=a6o (b0j hi hr);have e:(ys.map fun p=>Value.int p.1 p.2).toArray=intItems ys.toArray:=by simp [intItems]
 rw [e]at hp;refine sum_intListG rm.calm hp.isList fun h' tk t' k=>hQ.kept g k ?_;refine⟨t',?_⟩;rw [preSum_eq,List.take_of_length_le (by simp)]
theorem c3n {l:List V} {ns:List Int} (hi:a3m l=some ns) (hl:l.length<64):CallOK prog w Lx base n (.builtin "sorted") [.lst l] μ (.lst ((b3y ns).map .int)) μ:=fun A E s as vs Q rm g ra hQ=>by
 obtain⟨v,r,rfl,⟨a,us,rfl,ha,hp,hr⟩,rfl⟩:=ra;refine PyProof.Rows.sorted_ints hp.isList (b0j hi hr) (by rw [hr.length];exact hl) fun out ns' a1 a2 a3=>?_;obtain⟨e,he⟩:=sortedAll_at s.heap us out;have hns:ns'=b3y ns:=a7h (a2.trans (a8u ns).symm) a3 (a9l ns);subst hns;refine hQ.kept (tk:=s.toks) g (fun zz zz=>sortedAll_old) ?_;refine⟨s.heap.objs.size+1,out.toList,rfl,fun hm=>?_,⟨e,?_⟩,b7h a1⟩
 ·obtain⟨o,ho⟩:=g.alive _ hm
  exact absurd (Heap.lt_size ho) (Nat.not_lt.mpr (Nat.le_succ _))
 ·simpa [seqObj]using he
theorem c7z{ys:List (Int×Tok)}{b:Nat}{v:Value}(hb:(intItems ys.toArray)[b]?=some v):numAt ys.toArray b∈ys.map (·.1):=by
 simp only [intItems,Array.getElem?_map,Option.map_eq_some_iff,List.getElem?_toArray]at hb;obtain⟨p,hp,_⟩:=hb;have:numAt ys.toArray b=p.1:=by simp [numAt,hp]
 rw [this];exact List.mem_map.mpr ⟨p,List.mem_of_getElem? hp,rfl⟩
theorem c4r{ys:List (Int×Tok)}{x:Int}(h:x∈ys.map (·.1)):∃ j,j<=ys.toArray.size-1/\numAt ys.toArray j=x:=by
 obtain⟨p,hp,rfl⟩:=List.mem_map.mp h;obtain⟨j,hj,e⟩:=List.getElem_of_mem hp;refine⟨j,by rw [List.size_toArray];omega,?_⟩;simp [numAt,hj,e]
theorem d6h {l:List V} {ns:List Int} {m:Int} (hi:a3m l=some ns) (hm:ns.max?=some m):CallOK prog w Lx base n (.builtin "max") [.lst l] μ (.int m) μ:=fun A E s as vs Q rm g ra hQ=>by
 obtain⟨v,r,rfl,⟨a,us,rfl,ha,hp,hr⟩,rfl⟩:=ra;obtain⟨ys,rfl,rfl⟩:=a6o (b0j hi hr);have e:(ys.map fun p=>Value.int p.1 p.2).toArray=intItems ys.toArray:=by simp [intItems]
 rw [e]at hp;obtain⟨m1,m2⟩:=List.max?_eq_some_iff.mp hm;refine max_intList rm.calm hp.isList ?_ fun v h' tk hb k=>hQ.kept g k ?_
 ·obtain⟨p,hq,_⟩:=List.mem_map.mp m1
  rw [List.size_toArray];exact List.length_pos_of_mem hq
 ·obtain⟨t,rfl⟩:=intItems_at hb
  obtain⟨j,hj,ej⟩:=c4r m1;have h1:=(PySem.argBest_gt (numAt ys.toArray) (ys.toArray.size-1)).2 j hj;rw [ej]at h1;exact⟨t,by rw [Int.le_antisymm h1 (m2 _ (c7z hb))]⟩
theorem d6o {l:List V} {ns:List Int} {m:Int} (hi:a3m l=some ns) (hm:ns.min?=some m):CallOK prog w Lx base n (.builtin "min") [.lst l] μ (.int m) μ:=fun A E s as vs Q rm g ra hQ=>by
 obtain⟨v,r,rfl,⟨a,us,rfl,ha,hp,hr⟩,rfl⟩:=ra;obtain⟨ys,rfl,rfl⟩:=a6o (b0j hi hr);have e:(ys.map fun p=>Value.int p.1 p.2).toArray=intItems ys.toArray:=by simp [intItems]
 rw [e]at hp;obtain⟨m1,m2⟩:=List.min?_eq_some_iff.mp hm;refine min_intList rm.calm hp.isList ?_ fun v h' tk hb k=>hQ.kept g k ?_
 ·obtain⟨p,hq,_⟩:=List.mem_map.mp m1
  rw [List.size_toArray];exact List.length_pos_of_mem hq
 ·obtain⟨t,rfl⟩:=intItems_at hb
  obtain⟨j,hj,ej⟩:=c4r m1;have h1:=(PySem.argBest_lt (numAt ys.toArray) (ys.toArray.size-1)).2 j hj;rw [ej]at h1;exact⟨t,by rw [Int.le_antisymm (m2 _ (c7z hb)) h1]⟩
theorem d6a {l:List V}:CallOK prog w Lx base n (.builtin "isinstance") [.tup l,.typ "tuple"] μ (.bool true) μ:=fun A E s as vs Q rm g ra hQ=>by
 obtain⟨v,r,rfl,⟨a,us,rfl,ha,⟨o,ho,hc,_⟩,hr⟩,v2,r2,rfl,rfl,rfl⟩:=ra;exact PySem.IsiPair.tuple_tuple ho hc (hQ.same (tk:=s.toks) g rfl)
end
end
section
section
variable{prog:Program}{w:World}{Lx:LxP}{base:Heap}{μ:Mu}{h:Heap}{as:List (List Addr)}{n:Nat}
variable{A:Around}{E:Value->Shared->Prop}{s:Shared}
theorem e0e{bt:Nat->Nat->Bool}{a b c:UInt64}{t u x:Tok}{v:Value}(m:UInt64->UInt64->Bool)(h10:bt 1 0=m a b)(h20:bt 2 0=m a c)(h21:bt 2 1=m b c)(hP:#[Value.float a t,.float b u,.float c x][argBest bt 2]?=some v):∃ tk,v=.float (if m (if m a b then b else a) c then c else(if m a b then b else a)) tk:=by
 have e:argBest bt 2=if bt 2 (if bt 1 0 then 1 else 0)then 2 else if bt 1 0 then 1 else 0:=rfl;rw [e,h10]at hP;induction hc:m a b using Bool.casesOn with
 | false=>
  rw [hc,if_neg Bool.false_ne_true,h20]at hP;rw [if_neg Bool.false_ne_true];induction hd:m a c using Bool.casesOn with
  | false=>rw [hd]at hP;exact⟨t,(Option.some.inj hP).symm⟩
  | true=>rw [hd]at hP;exact⟨x,(Option.some.inj hP).symm⟩
 | true=>
  rw [hc,if_pos rfl,h21]at hP;rw [if_pos rfl];induction hd:m b c using Bool.casesOn with
  | false=>rw [hd]at hP;exact⟨u,(Option.some.inj hP).symm⟩
  | true=>rw [hd]at hP;exact⟨x,(Option.some.inj hP).symm⟩
theorem b3t{a b c:UInt64}{t u x:Tok}{Q:Value->Shared->Prop}(hh:A.handled=.none)
  (h:∀ h' tk tk',(∀ d o,s.heap.get? d=some o->h'.get? d=some o)->Q (.float (a3t (a3t a b) c) tk') { s with heap:=h',toks:=tk}) :
  wpAny (model prog w) A (call (.builtin "max") [.float a t,.float b u,.float c x]) Q E s:=by
 have hT:(s.heap.push { cls:=.type "tuple",data:=.seq #[.float a t,.float b u,.float c x]}).IsTuple s.heap.objs.size #[.float a t,.float b u,.float c x]:=⟨_,Heap.get?_push_size _ rfl,rfl,0,rfl⟩
 refine call_max_three (wpAny_pyIter_tuple hT ?_);have hsz:(s.heap.push { cls:=.type "tuple",data:=.seq #[.float a t,.float b u,.float c x]}).objs.size=s.heap.objs.size+1:=Heap.size_push ..
 refine⟨_,[_,s.heap.objs.size],[_],_,_,_,_,rfl,Walks.tuple (A:=A.in1) hh _ s.heap.objs.size (by rw [hsz];exact Nat.ne_of_lt (Nat.lt_succ_self _)) #[.float a t,.float b u,.float c x],
  ⟨⟨_,Heap.get?_push_size _ rfl,rfl,rfl⟩,hT.push _⟩,fun d hd=>?_,by simp,Flt.cmpOf_gt #[.float a t,.float b u,.float c x] (by simp only [List.mem_toArray,List.mem_cons,List.not_mem_nil,or_false];rintro v (rfl | rfl | rfl)<;>exact .float _ _),fun v h' tk hP hk=>?_⟩
 ·show d<((s.heap.push _).push _).objs.size
  rw [Heap.size_push,hsz];rcases List.mem_cons.mp hd with rfl | hd
  ·rw [hsz];exact Nat.lt_succ_self _
  ·rcases List.mem_cons.mp hd with rfl | hd
   ·exact Nat.lt_succ_of_lt (Nat.lt_succ_self _)
   ·cases hd
 ·have hold:∀ d o,s.heap.get? d=some o->h'.get? d=some o:=fun d o e=>by
   refine hk d o (fun hm=>?_) (Heap.get?_push_of_some _ (Heap.get?_push_of_some _ e));rcases List.mem_cons.mp hm with e1 | hm
   ·have:=Heap.lt_size e;rw [e1,hsz]at this;exact Nat.lt_irrefl _ (Nat.lt_of_succ_lt this)
   ·cases hm
  obtain⟨tk',rfl⟩:=e0e (fun p q=>Float64.cmp p q==some .lt) rfl rfl rfl hP;exact h h' tk tk' hold
theorem b5e{a b c:UInt64}{t u x:Tok}{Q:Value->Shared->Prop}(hh:A.handled=.none)
  (h:∀ h' tk tk',(∀ d o,s.heap.get? d=some o->h'.get? d=some o)->Q (.float (a5q (a5q a b) c) tk') { s with heap:=h',toks:=tk}) :
  wpAny (model prog w) A (call (.builtin "min") [.float a t,.float b u,.float c x]) Q E s:=by
 have hT:(s.heap.push { cls:=.type "tuple",data:=.seq #[.float a t,.float b u,.float c x]}).IsTuple s.heap.objs.size #[.float a t,.float b u,.float c x]:=⟨_,Heap.get?_push_size _ rfl,rfl,0,rfl⟩
 refine call_min_three (wpAny_pyIter_tuple hT ?_);have hsz:(s.heap.push { cls:=.type "tuple",data:=.seq #[.float a t,.float b u,.float c x]}).objs.size=s.heap.objs.size+1:=Heap.size_push ..
 refine⟨_,[_,s.heap.objs.size],[_],_,_,_,_,rfl,Walks.tuple (A:=A.in1) hh _ s.heap.objs.size (by rw [hsz];exact Nat.ne_of_lt (Nat.lt_succ_self _)) #[.float a t,.float b u,.float c x],
  ⟨⟨_,Heap.get?_push_size _ rfl,rfl,rfl⟩,hT.push _⟩,fun d hd=>?_,by simp,Flt.cmpOf_lt #[.float a t,.float b u,.float c x] (by simp only [List.mem_toArray,List.mem_cons,List.not_mem_nil,or_false];rintro v (rfl | rfl | rfl)<;>exact .float _ _),fun v h' tk hP hk=>?_⟩
 ·show d<((s.heap.push _).push _).objs.size
  rw [Heap.size_push,hsz];rcases List.mem_cons.mp hd with rfl | hd
  ·rw [hsz];exact Nat.lt_succ_self _
  ·rcases List.mem_cons.mp hd with rfl | hd
   ·exact Nat.lt_succ_of_lt (Nat.lt_succ_self _)
   ·cases hd
 ·have hold:∀ d o,s.heap.get? d=some o->h'.get? d=some o:=fun d o e=>by
   refine hk d o (fun hm=>?_) (Heap.get?_push_of_some _ (Heap.get?_push_of_some _ e));rcases List.mem_cons.mp hm with e1 | hm
   ·have:=Heap.lt_size e;rw [e1,hsz]at this;exact Nat.lt_irrefl _ (Nat.lt_of_succ_lt this)
   ·cases hm
  obtain⟨tk',rfl⟩:=e0e (fun p q=>Float64.cmp q p==some .lt) rfl rfl rfl hP;exact h h' tk tk' hold
theorem d6y {a b c:UInt64}:CallOK prog w Lx base n (.builtin "max") [.flt a,.flt b,.flt c] μ (.flt (a3t (a3t a b) c)) μ:=fun A E s as vs Q rm g ra hQ=>by
 obtain⟨v1,r1,rfl,⟨t1,rfl⟩,v2,r2,rfl,⟨t2,rfl⟩,v3,r3,rfl,⟨t3,rfl⟩,rfl⟩:=ra;exact b3t rm.calm fun h' tk tk' k=>hQ.kept g k (⟨_,rfl⟩)
theorem d6d {a b c:UInt64}:CallOK prog w Lx base n (.builtin "min") [.flt a,.flt b,.flt c] μ (.flt (a5q (a5q a b) c)) μ:=fun A E s as vs Q rm g ra hQ=>by
 obtain⟨v1,r1,rfl,⟨t1,rfl⟩,v2,r2,rfl,⟨t2,rfl⟩,v3,r3,rfl,⟨t3,rfl⟩,rfl⟩:=ra;exact b5e rm.calm fun h' tk tk' k=>hQ.kept g k (⟨_,rfl⟩)
theorem d5u {a:UInt64} (ha:Float64.isFinite a=true):CallOK prog w Lx base n (.type "int") [.flt a] μ (.int (Flt.toInt Float64.truncOf a)) μ:=fun A E s as vs Q rm g ra hQ=>by
 obtain⟨v1,r1,rfl,⟨t1,rfl⟩,rfl⟩:=ra;have h1:Float64.isNaN a=false:=by
  unfold Float64.isFinite at ha;unfold Float64.isNaN;cases e:Float64.decode a with
  | fin=>rfl
  | _=>first | rfl | (rw [e]at ha;exact nt ha)
 have h2:Float64.isInf a=false:=by
  unfold Float64.isFinite at ha;unfold Float64.isInf;cases e:Float64.decode a with
  | fin=>rfl
  | _=>first | rfl | (rw [e]at ha;exact nt ha)
 refine Flt.call_int_float3 rm.calm (fun q=>by rw [h1]at q;cases q) (fun q=>by rw [h2]at q;cases q) fun zz=>?_;exact hQ.same (tk:=s.toks+1) g (⟨_,rfl⟩)
noncomputable def txt(x:List Nat):Str:=⟨x.toArray⟩
theorem c3y{x y:Str}{t u:Tok}{Q:Value->Shared->Prop}(hy:(y.length==0)=false)
  (h:∀(l:List (Str×Tok)) (k:Nat),l.map (·.1)=Txt.split x y->Q (.ref s.heap.objs.size) { s with heap:=s.heap.push { cls:=.type "list",data:=.seq (strValues l).toArray},toks:=k})
  (hsz:x.length+2<=sizeLine):wpAny (model prog w) A (call (.builtin "str.split") [.str x t,.str y u]) Q E s:=by
 have hn:(Builtin.Str.partsBetween x (Builtin.Str.occurrences x y 0 x.length (x.length+1)) y.length).length<=sizeLine:=by
  have e1:=StrLaws.occ_length_le x y 0 x.length (x.length+1);rw [length_partsBetween];omega
 cases h1:(decide (x.length<y.length)||decide (Builtin.Str.strKind x<Builtin.Str.strKind y))
 ·cases hf:(Builtin.Str.occurrences x y 0 x.length (x.length+1)).isEmpty
  ·refine call_meets F.slot_str_split (typeIs_str _ _ _) F.entry_str_split (F.args_str_split_2 _ _) (meets_str_split_sep x y t u h1 hy hf (by omega) hn) ?_
   show wants Q E _ { s with toks:=_,heap:=s.heap.push { cls:=.type "list",data:=.seq (strsFrom s.toks (Builtin.Str.partsBetween x (Builtin.Str.occurrences x y 0 x.length (x.length+1)) y.length)).toArray}}
   rw [strsFrom_eq];exact h (numbered s.toks _) _ ((numbered_texts _ _).trans ((if_neg (ne_true_of_eq_false h1)).trans (if_neg (ne_true_of_eq_false hf))).symm)
  ·exact call_meets F.slot_str_split (typeIs_str _ _ _) F.entry_str_split (F.args_str_split_2 _ _) (meets_str_split_not_found x y t u h1 hy hf)
    (h [(x,t)] s.toks ((if_neg (ne_true_of_eq_false h1)).trans (if_pos hf)).symm)
 ·exact call_meets F.slot_str_split (typeIs_str _ _ _) F.entry_str_split (F.args_str_split_2 _ _) (meets_str_split_cannot_occur x y t u h1)
   (h [(x,t)] s.toks (if_pos h1).symm)
end
end
section
noncomputable def b5g(sep:List Nat):List (List Nat)->List Nat
 | []=>[]
 | [x]=>x
 | x::r=>x++sep++b5g sep r
noncomputable def c6k(s:Str):List Nat:=s.cps.toList
theorem c7f(x y:List Nat):txt x++txt y=txt (x++y):=by
 show(⟨(txt x).cps++(txt y).cps⟩:Str)=_;simp [txt]
theorem d1p(sep:List Nat):∀ l:List (List Nat),Str.join (txt sep) (l.map txt)=txt (b5g sep l):=by
 intro z_;induction z_ with
 | nil=>
  exact rfl
 | cons x z_ ih=>induction z_ using List.casesOn with
  | nil=>
   exact rfl
  | cons y r=>
   have:=ih;rw [List.map_cons]at this;rw [List.map_cons,List.map_cons,Str.join,this,c7f,c7f]
   ·rfl
   ·intro q;cases q
section
variable{prog:Program}{w:World}{Lx:LxP}{base:Heap}{μ:Mu}{h:Heap}{as:List (List Addr)}{n:Nat}
variable{A:Around}{E:Value->Shared->Prop}{s:Shared}
theorem b8f:∀(l:List (Str×Tok)),Reps h as ((l.map (·.1)).map fun x=>V.str (c6k x)) (strValues l):=by
 intro z_;induction z_ with
 | nil=>
  exact rfl
 | cons p r ih=>
  exact⟨_,_,rfl,⟨p.2,rfl⟩,ih⟩
theorem d0m:∀ {l:List V} {ts:List (List Nat)} {vs:List Value},a9m l=some ts->Reps h as l vs->StrsAre vs (ts.map txt):=by
 intro z_;induction z_ with
 | nil=>
  intro ns vs e r;cases e;cases r;exact .nil
 | cons x l ih=>
  intro ns vs e r;obtain⟨v,rs,rfl,rx,rr⟩:=r;induction x using Mine.V.casesOn with
  | str i=>
   refine a1e e fun ms e2 q=>?_;cases q;obtain⟨t,rfl⟩:=rx;exact .cons _ _ (ih e2 rr)
  | _=>exact Mine.ns e
theorem Rep.int_of{c:Int}(tk:Tok):Rep h as (.int c) (.int c tk):=⟨tk,rfl⟩
theorem c6i {x y:List Nat} (hy:y≠[]) (hx:x.length<=big):CallOK prog w Lx base n (.builtin "str.split") [.str x,.str y] μ (.lst ((Txt.split (txt x) (txt y)).map fun p=>.str (c6k p))) μ:=fun A E s as vs Q rm g ra hQ=>by
 obtain⟨v1,r1,rfl,⟨t1,rfl⟩,v2,r2,rfl,⟨t2,rfl⟩,rfl⟩:=ra;have e1:(txt x).length=x.length:=by simp [Str.length,txt]
 have e2:(txt y).length=y.length:=by simp [Str.length,txt]
 refine c3y (x:=txt x) (y:=txt y) (by rw [e2];induction y using List.casesOn with | nil=>exact absurd rfl hy | cons=>rfl) (fun l k hl=>?_) (by rw [e1,sizeLine_eq];unfold big at hx;omega)
 refine hQ.kept g (fun b o e=>Heap.get?_push_of_some _ e) ?_;refine⟨s.heap.objs.size,strValues l,rfl,g.top_off,⟨0,Heap.get?_push_size _ rfl⟩,?_⟩;rw [← hl];exact b8f l
theorem d1z {x:List Nat} {l:List V} {ts:List (List Nat)} (hs:a9m l=some ts) (hl:(ts.map (·.length)).sum+ts.length * x.length<=big):CallOK prog w Lx base n (.builtin "str.join") [.str x,.lst l] μ (.str (b5g x ts)) μ:=fun A E s as vs Q rm g ra hQ=>by
 obtain⟨v1,r1,rfl,⟨t1,rfl⟩,v2,r2,rfl,⟨a,us,rfl,ha,hp,hr⟩,rfl⟩:=ra;refine join_list (ys:=ts.map txt) hp.isList (by simpa using d0m hs hr) ?_ fun t' k=>?_
 ·have e:((ts.map txt).map fun x=>x.length)=ts.map (·.length):=by
   rw [List.map_map];exact List.map_congr_left fun y zz=>by simp [Str.length,txt]
  rw [e,List.length_map];have e1:(⟨x.toArray⟩:Str).length=x.length:=by simp [Str.length]
  rw [e1];unfold big at hl;omega
 ·have e:Txt.join ⟨x.toArray⟩ (ts.map txt)=txt (b5g x ts):=by
   show Builtin.Str.glued (txt x) (ts.map txt)=_;rw [StrLaws.glued_eq_join,d1p]
  rw [e];exact hQ.same (tk:=k) g (⟨t',rfl⟩)
theorem c6v {x y:Str} {t u:Tok} {Q:Value->Shared->Prop} (h:∀ tk tk',Q (.int (Txt.count x y) tk) { s with toks:=tk'}):wpAny (model prog w) A (call (.builtin "str.count") [.str x t,.str y u]) Q E s:=SC.count (h _ _)
theorem c9f {x y:List Nat}:CallOK prog w Lx base n (.builtin "str.count") [.str x,.str y] μ (.int (Txt.count (txt x) (txt y))) μ:=fun A E s as vs Q rm g ra hQ=>by
 obtain⟨v1,r1,rfl,⟨t1,rfl⟩,v2,r2,rfl,⟨t2,rfl⟩,rfl⟩:=ra;refine c6v (x:=txt x) (y:=txt y) fun tk tk'=>?_;exact hQ.same (tk:=tk') g (Rep.int_of _)
theorem c3k {x:List Nat}:a6c prog w Lx base "split" (.str x) μ (.builtin "str.split"):=by
 intro A E s as ov p Q g r h;rw [Rep]at r;obtain⟨t,rfl⟩:=r
 with_reducible exact GM.split h
theorem c9u {x:List Nat}:a6c prog w Lx base "join" (.str x) μ (.builtin "str.join"):=by
 intro A E s as ov p Q g r h;rw [Rep]at r;obtain⟨t,rfl⟩:=r
 with_reducible exact GM.join h
theorem c2y {x:List Nat}:a6c prog w Lx base "count" (.str x) μ (.builtin "str.count"):=by
 intro A E s as ov p Q g r h;rw [Rep]at r;obtain⟨t,rfl⟩:=r
 with_reducible exact GM.count h
theorem b7z {k:Nat} {l:List V} (hk:μ[k]?=some (.list l)):a6c prog w Lx base "append" (.mut k) μ (.builtin "list.append"):=fun A E s as ov p Q g r h=>by
 obtain⟨a,q,e,rfl⟩:=r;obtain⟨a',us,e',⟨m,hp⟩,hr⟩:=g.mus k _ _ hk e;obtain⟨rfl,rfl⟩:=List.cons.inj e';exact getMethod_list_append hp rfl rfl h
theorem c3b {k:Nat} {l:List V} {x:V} (hk:μ[k]?=some (.list l)) (hl:l.length<=big):CallOK prog w Lx base n (.builtin "list.append") [.mut k,x] μ .none (μ.set k (.list (l++[x]))):=fun A E s as vs Q rm g ra hQ=>by
 obtain⟨v1,r1,rfl,⟨a,q,e,rfl⟩,v2,r2,rfl,rx,rfl⟩:=ra;obtain⟨a',us,e',hp,hr⟩:=g.mus k _ _ hk e;obtain⟨rfl,rfl⟩:=List.cons.inj e';have hin:a∈as.flatten:=List.mem_flatten.mpr ⟨[a],List.mem_of_getElem? e,by simp⟩;have htl:a∈as.tail.flatten:=by
  refine List.mem_flatten.mpr ⟨[a],?_,by simp⟩;have:as.tail[k]?=some [a]:=by rw [List.getElem?_tail];exact e
  exact List.mem_of_getElem? this
 refine wpAny_list_append_plain hp (fun h' hp' hs=>?_) (by rw [List.size_toArray,hr.length,sizeLine_eq];unfold big at hl;omega);have ks:Ks as s.heap h':=fun b o hb e' zz=>(hs.2 b (fun q=>hb (q▸hin))).trans e';have hb:base.get? a=.none:=g.fresh a hin;have only:∀ j ads,as[j+1]?=some ads->j≠k->a∉ads:=by
  intro j ads hj hne hm;have nd:as.flatten.Pairwise (·≠·):=g.nd;rw [List.pairwise_flatten]at nd;have pw:=nd.2;rw [List.pairwise_iff_getElem]at pw;obtain⟨hj1,hj2⟩:=List.getElem?_eq_some_iff.mp hj;obtain⟨hk1,hk2⟩:=List.getElem?_eq_some_iff.mp e;rcases Nat.lt_or_gt_of_ne (show j+1≠k+1 by omega)with q | q
  ·have:=pw (j+1) (k+1) hj1 hk1 q
   rw [hj2,hk2]at this;exact this a hm a (by simp) rfl
  ·have:=pw (k+1) (j+1) hk1 hj1 q
   rw [hj2,hk2]at this;exact this a (by simp) a hm rfl
 have g':GR Lx base (μ.set k (.list (l++[x]))) as h':=by
  refine⟨fun b o e'=>(hs.2 b (fun q=>by rw [q,hb]at e';exact ns e')).trans (g.keep b o e'),g.fresh,g.nd,fun b hbm=>?_,by rw [List.length_set];exact g.len,fun j m ads hj hads=>?_⟩
  ·by_cases q:b=a
   ·obtain⟨m,e'⟩:=hp';exact⟨_,by rw [q];exact e'⟩
   ·obtain⟨o,e'⟩:=g.alive b hbm;exact⟨o,(hs.2 b q).trans e'⟩
  ·by_cases q:j=k
   ·subst q
    have hjl:j<μ.length:=(List.getElem?_eq_some_iff.mp hk).1;rw [List.getElem?_set_self hjl,Option.some.injEq]at hj;subst hj;rw [e,Option.some.injEq]at hads;subst hads;refine⟨a,us++[v2],rfl,?_,(hr.ks ks).append (.cons (rx.ks ks) .nil)⟩;have:(us++[v2]).toArray=us.toArray.push v2:=by simp
    rw [this];exact hp'
   ·rw [List.getElem?_set_ne (fun z=>q z.symm)]at hj
    have hm:=g.mus j m ads hj hads;have hn:=only j ads hads q;induction m using Mine.M.casesOn with
    | list l'=>
     obtain⟨b,ws,rfl,hpl,hrl⟩:=hm;refine⟨b,ws,rfl,?_,hrl.ks ks⟩;obtain⟨m,e'⟩:=hpl;exact⟨m,(hs.2 b (fun z=>hn (by simp [z]))).trans e'⟩
    | obj is n'=>exact let⟨rs,e1,e2⟩:=hm;⟨rs,e1,Lx.keep e2 fun b hb' o e'=>(hs.2 b (fun z=>hn (z▸hb'))).trans e'⟩
 refine hQ .none as h' s.toks g' ⟨⟨[],by simp,by simp⟩,fun b o hb' e'=>(hs.2 b (fun q=>hb' (q▸htl))).trans e',fun b hbm=>g'.alive b hbm⟩ (by simp [Rep])
end
end
section
inductive e3t(base:Heap)(C N:Addr):Prop where
 | mk {nm q:Str} {bs:List Value} {sn:List Str} {sub:List Value} {ab:Bool} {col:Option Bool} {dd:Option Addr} {k0 k1 k2 k3 k5:Option Value} {newId:String} (h:base.get? C=some (excClassObj nm q C N bs [.type "object"] true sn sub ab col dd k0 k1 k2 k3 k5 newId)):e3t base C N
structure LB(base:Heap) where
 C:Addr
 N:Addr
 mN:Str->Option Value
 cls:e3t base C N
 ns:base.Ns N mN
 nga:mN "__getattribute__" = .none
 ngt:mN "__getattr__" = .none
 nsa:mN "__setattr__" = .none
 own:∀ x:Str,x = "lineno" ∨ x = "instream" ∨ x = "whitespace" ∨ x = "pushback" -> mN x=.none
 fr:Addr
 fg:Addr
 fp:Addr
 read:mN "_read_char" = some (.ref fr)
 get:mN "get_token" = some (.ref fg)
 push:mN "push_token" = some (.ref fp)
theorem LB.ne{base:Heap}(B:LB base){X:Addr}(h:base.get? X=.none):X≠B.C:=fun q=>by
 obtain⟨hC⟩:=B.cls;exact Mine.ns ((q▸h:base.get? B.C=.none).symm.trans hC)
noncomputable def ws:List Nat:=[10,9,13,32]
structure a7x(mA:Str->Option Value)(PB F:Addr)(n:Int):Prop where
 line:∃ t,mA "lineno" = some (.int n t)
 stream:mA "instream" = some (.ref F)
 white:∃ t,mA "whitespace" = some (.str (txt ws) t)
 back:mA "pushback" = some (.ref PB)
 only:∀ x:Str,x ≠ "lineno" -> x ≠ "instream" -> x ≠ "whitespace" -> x ≠ "pushback" -> mA x=.none
inductive LexerAt(C:Addr)(h:Heap)(ads rs:List Addr)(n:Int):Prop where
 | mk (X D PB F:Addr) (o:Obj) (mA:Str->Option Value) (e1:ads=[X,D]) (e2:rs=[PB,F]) (h1:h.get? X=some o) (h2:o.cls=.ref C) (h3:∀ c,o.data≠.cls c) (h4:o.dict=some D) (h5:D≠X) (h6:h.Ns1 D mA) (h7:a7x mA PB F n)
inductive d7b(C:Addr)(h:Heap)(ads rs:List Addr)(n:Int):Prop where
 | mk (X D PB F:Addr) (mA:Str->Option Value) (e1:ads=[X,D]) (e2:rs=[PB,F]) (h1:h.Inst X C mA) (h2:a7x mA PB F n)
theorem LexerAt.keep{C:Addr}{h h':Heap}{ads rs:List Addr}{n:Int}(x:LexerAt C h ads rs n)(k:∀ a∈ads,∀ o,h.get? a=some o->h'.get? a=some o):LexerAt C h' ads rs n:=by
 obtain⟨X,D,PB,F,o,mA,rfl,rfl,h1,h2,h3,h4,h5,h6,h7⟩:=x;exact⟨X,D,PB,F,o,mA,rfl,rfl,k X (.head _) o h1,h2,h3,h4,h5,h6.at (fun o e=>k D (.tail _ (.head _)) o e),h7⟩
theorem LexerAt.inst{C:Addr}{h:Heap}{ads rs:List Addr}{n:Int}(x:LexerAt C h ads rs n):d7b C h ads rs n:=by
 obtain⟨X,D,PB,F,o,mA,rfl,rfl,h1,h2,h3,h4,h5,h6,h7⟩:=x;exact⟨X,D,PB,F,mA,rfl,rfl,⟨o,h1,h2,h3,.inr ⟨D,h4,h5,h6⟩⟩,h7⟩
theorem c9m (x:Str) (h:x = "lineno" ∨ x = "instream" ∨ x = "whitespace" ∨ x = "pushback" ∨ x = "_read_char" ∨ x = "get_token" ∨ x = "push_token"):typeLookup (.type "object") x=pure .none:=by
 rcases h with rfl | rfl | rfl | rfl | rfl | rfl | rfl<;>(rw [typeLookup_type,builtinLookup_eq_fast];kernel_rfl)
section
variable{prog:Program}{w:World}{base:Heap}{B:LB base}{A:Around}{E:Value->Shared->Prop}{s:Shared}
theorem a7y {mA:Str->Option Value} {X:Addr} {x:Str} {v:Value} {Q:Value->Shared->Prop} (k:∀ a o,base.get? a=some o->s.heap.get? a=some o) (I:s.heap.Inst X B.C mA) (hx:x = "lineno" ∨ x = "instream" ∨ x = "whitespace" ∨ x = "pushback") (hv:mA x=some v) (hh:handedOut v=pure v)
  (h:Q v { s with toks:=s.toks+1}):wpAny (model prog w) A (getAttr (.ref X) x true) Q E s:=by
 obtain⟨hC⟩:=B.cls;exact load_attr (k _ _ hC) (Ns.keep B.ns k) B.nga (B.own x hx) (c9m x (by rcases hx with h | h | h | h<;>simp [h])) I hv hh h
theorem d3v {mA:Str->Option Value} {X f:Addr} {of:Obj} {x:Str} {p:Sem Bool} {Q:Value×List Value->Shared->Prop} (k:∀ a o,base.get? a=some o->s.heap.get? a=some o) (I:s.heap.Inst X B.C mA) (hx:x = "_read_char" ∨ x = "get_token" ∨ x = "push_token")
  (hf:B.mN x=some (.ref f)) (ho:base.get? f=some of) (hc:of.cls=.type "function") (hsh:mA x=.none) (h:Q (.ref f,[.ref X]) s):wpAny (model prog w) A (getMethod (.ref X) x p) Q E s:=by
 obtain⟨hC⟩:=B.cls;exact method_of (k _ _ hC) (Ns.keep B.ns k) B.nga B.ngt hf (k _ _ ho) hc (c9m x (by rcases hx with h | h | h<;>simp [h])) I hsh h
end
end
section
section
variable{prog:Program}{w:World}{Lx:LxP}{base:Heap}{μ:Mu}{h h':Heap}{as:List (List Addr)}{n:Nat}
variable{A:Around}{E:Value->Shared->Prop}{s:Shared}
theorem c1s(g:GR Lx base μ as h){j k:Nat}{ads ads':List Addr}(hj:as[j]?=some ads)(hk:as[k]?=some ads')(hne:j≠k){a:Addr}(ha:a∈ads):a∉ads':=by
 intro hm;have nd:as.flatten.Pairwise (·≠·):=g.nd;rw [List.pairwise_flatten]at nd;have pw:=nd.2;rw [List.pairwise_iff_getElem]at pw;obtain⟨hj1,hj2⟩:=List.getElem?_eq_some_iff.mp hj;obtain⟨hk1,hk2⟩:=List.getElem?_eq_some_iff.mp hk;rcases Nat.lt_or_gt_of_ne hne with q | q
 ·have:=pw j k hj1 hk1 q
  rw [hj2,hk2]at this;exact this a ha a hm rfl
 ·have:=pw k j hk1 hj1 q
  rw [hj2,hk2]at this;exact this a hm a ha rfl
theorem GR.upd(g:GR Lx base μ as h){k:Nat}{ads:List Addr}{m:M}(hk:as[k+1]?=some ads)(hkl:k<μ.length)(kp:∀ b o,b∉ads->h.get? b=some o->h'.get? b=some o)(al:∀ a∈ads,∃ o,h'.get? a=some o)
  (hm:Ks as h h'->e0q Lx h' as m ads):GR Lx base (μ.set k m) as h'/\Go as h as h':=by
 have sub:∀ a∈ads,a∈as.flatten:=fun a ha=>List.mem_flatten.mpr ⟨ads,List.mem_of_getElem? hk,ha⟩;have subt:∀ a∈ads,a∈as.tail.flatten:=fun a ha=>List.mem_flatten.mpr ⟨ads,by
  have:as.tail[k]?=some ads:=by rw [List.getElem?_tail];exact hk
  exact List.mem_of_getElem? this,ha⟩
 have ks:Ks as h h':=fun b o hb e zz=>kp b o (fun q=>hb (sub b q)) e;have alive:∀ b∈as.flatten,∃ o,h'.get? b=some o:=fun b hb=>by
  by_cases q:b∈ads
  ·exact al b q
  ·obtain⟨o,e⟩:=g.alive b hb;exact⟨o,kp b o q e⟩
 refine⟨⟨fun b o e=>kp b o (fun q=>by rw [g.fresh b (sub b q)]at e;exact ns e) (g.keep b o e),g.fresh,g.nd,alive,by rw [List.length_set];exact g.len,fun j M ads' hj hads=>?_⟩,⟨⟨[],by simp,by simp⟩,fun b o hb e=>kp b o (fun q=>hb (subt b q)) e,alive⟩⟩;by_cases q:j=k
 ·subst q
  rw [List.getElem?_set_self hkl,Option.some.injEq]at hj;subst hj;rw [hk,Option.some.injEq]at hads;subst hads;exact hm ks
 ·rw [List.getElem?_set_ne (fun z=>q z.symm)]at hj
  have hM:=g.mus j M ads' hj hads;have hn:∀ a∈ads',a∉ads:=fun a ha=>c1s g hads hk (by omega) ha;induction M using Mine.M.casesOn with
  | list l'=>
   obtain⟨b,us,rfl,⟨m',hp⟩,hr⟩:=hM;exact⟨b,us,rfl,⟨m',kp b _ (hn b (by simp)) hp⟩,hr.ks ks⟩
  | obj is n'=>exact let⟨rs,e1,e2⟩:=hM;⟨rs,e1,Lx.keep e2 fun b hb o e=>kp b o (hn b hb) e⟩
end
end
end Mine
end
section
open PySem PySem.W PySem.Calls PyProof.Rows
set_option maxRecDepth 100000
namespace Mine
section
open PySem.Flt (wpAny_nsGet_known wpAny_loadPart_known)
namespace FF
theorem slot_ga:Slot "function" "__getattribute__" "object.__getattribute__":=
 .of (owner:="object") (n:="__getattribute__") (by rw [typeLookup_type,builtinLookup_eq_fast];kernel_rfl) (by decide +kernel) (by decide +kernel) (by decide +kernel)
  (by first | exact .inl (by decide +kernel) | exact .inr (by decide +kernel)) (by rw [isSubtype_type];kernel_rfl)
theorem lk_read:typeLookup (.type "function") "read" = pure .none:=by rw [typeLookup_type,builtinLookup_eq_fast];kernel_rfl
theorem lk_getattr:typeLookup (.type "function") "__getattr__" = pure .none:=by rw [typeLookup_type,builtinLookup_eq_fast];kernel_rfl
theorem canon:(Manifest.canonical "object.__getattribute__" != "object.__getattribute__")=false:=by decide +kernel
theorem sub_static:isSubtype (.type "function") (.type "staticmethod")=pure false:=by rw [isSubtype_type];kernel_rfl
theorem sub_classm:isSubtype (.type "function") (.type "classmethod")=pure false:=by rw [isSubtype_type];kernel_rfl
end FF
noncomputable def a9j (h:Heap) (a D:Addr) (m:Str->Option Value):Prop:=(∃ fd sl,h.get? a=some { cls:=.type "function",dict:=some D,data:=.func fd,slots:=sl})/\h.Ns D m
section
variable{prog:Program}{w:World}{A:Around}{E:Value->Shared->Prop}{h:Heap}{g:Array GenState}{d:Drawn}{t:Nat}{os:OsState}{Fa D:Addr}{md:Str->Option Value}
theorem d2c {tk:Tok} {v:Value} {Q:Fin->Shared->Prop} (hm:a9j h Fa D md) (hv:md "read" = some v)
  (hq:Q (.done (.ret v)) ⟨h,g,d,t,os⟩):wpAny (model prog w) A (Builtin.«object.__getattribute__» ⟨[.ref Fa,.str "read" tk],[]⟩) Q E ⟨h,g,d,t,os⟩:=by
 obtain⟨⟨fd,sl,hM⟩,hD⟩:=hm;have hT:(⟨h,g,d,t,os⟩:Shared).TypeIs (.ref Fa) "function":=⟨_,hM,rfl⟩
 have f1:=FF.sub_static;have f2:=FF.sub_classm;have hnm:=FF.lk_read
 repeat (any_goals (first | assumption | with_reducible apply wpAny_nsGet_known | with_reducible apply wpAny_loadPart_known | wp_step))
theorem d7t {v:Value} {Q:Value->Shared->Prop} (hm:a9j h Fa D md) (hv:md "read" = some v)
  (hh:handedOut v=pure v) (hq:Q v ⟨h,g,d,t+1,os⟩):wpAny (model prog w) A (getAttr (.ref Fa) "read" false) Q E ⟨h,g,d,t,os⟩:=by
 obtain⟨⟨fd,sl,hM⟩,hD⟩:=id hm;have hT:(⟨h,g,d,t,os⟩:Shared).TypeIs (.ref Fa) "function":=⟨_,hM,rfl⟩
 have hT1:(⟨h,g,d,t+1,os⟩:Shared).TypeIs (.ref Fa) "function":=⟨_,hM,rfl⟩
 have f1:=FF.slot_ga.lookup;have f2:=FF.lk_getattr;have f4:=FF.slot_ga.bind (.ref Fa)
 repeat (any_goals (first | assumption | wp_step))
 refine codeAny_call_builtin FF.slot_ga.plain F.entry_object_getattribute (FF.slot_ga.check _ _ _ _ _ _ _ _ hT1 (F.args_object_getattribute_2 _ _) (d2c hm hv ?_))
 repeat (any_goals (first | assumption | wp_step))
theorem c9r {v:Value} {pl:Sem Bool} {Q:Value×List Value->Shared->Prop} (hm:a9j h Fa D md) (hv:md "read" = some v)
  (hh:handedOut v=pure v) (hq:Q (v,[]) ⟨h,g,d,t+1,os⟩):wpAny (model prog w) A (getMethod (.ref Fa) "read" pl) Q E ⟨h,g,d,t,os⟩:=by
 obtain⟨⟨fd,sl,hM⟩,hD⟩:=id hm;have hT:(⟨h,g,d,t,os⟩:Shared).TypeIs (.ref Fa) "function":=⟨_,hM,rfl⟩
 have f1:=FF.slot_ga.lookup;unfold getMethod;refine wpAny_bind (wpAny_specialOf hT f1 ?_);show wpAny _ A (if(Manifest.canonical "object.__getattribute__" != "object.__getattribute__")=true then _ else _) Q E _
 rw [FF.canon,if_neg Bool.false_ne_true];refine wpAny_bind (wpAny_specialOf hT FF.lk_getattr ?_);show wpAny _ A (if(Option.isSome (.none:Option Value))=true then _ else _) Q E _;rw [if_neg (by decide)];refine wpAny_bind (wpAny_specialOf hT FF.lk_read ?_);refine wpAny_bind (d7t hm hv hh ?_);exact wpAny_pure hq
end
end
section
section
variable{prog:Program}{w:World}{Lx:LxP}{base:Heap}{μ:Mu}{h h':Heap}{as:List (List Addr)}{n:Nat}
variable{A:Around}{E:Value->Shared->Prop}{s:Shared}
theorem c8k {D:Addr} {y:Value} {ys:List Value} {m:Nat} {u:Tok} {Q:Value->Shared->Prop} (hD:s.heap.get? D=some { cls:=.type "list",data:=.seq (y::ys).toArray m}) (hz:(y::ys).length<=big)
  (h:∀ h',Heap.SameBut D s.heap h'->h'.PlainList D ys.toArray->Q y { s with heap:=h'}):wpAny (model prog w) A (call (.builtin "list.pop") [.ref D,.int 0 u]) Q E s:=by
 have hf:Builtin.List.listFitsIndex 0=true:=by decide +kernel
 have hk:seqIndex? 0 (y::ys).toArray.size=some 0:=by
  simp [seqIndex?]
 have hy:(y::ys).toArray[0]?=some y:=by simp
 have hz':(y::ys).toArray.size<=sizeLine:=by rw [List.size_toArray,sizeLine_eq];unfold big at hz;omega
 refine call_meets PySem.F.slot_list_pop ⟨_,hD,rfl⟩ PySem.F.entry_list_pop (PySem.F.args_list_pop_2 _ _) (PySem.MeetsSeq.list_pop_at D _ m 0 u _ y hf hk hy hz') ⟨hD,h _ (Heap.SameBut.update ..) ?_⟩;refine⟨m+1,?_⟩;rw [Heap.get?_update_self _ hD rfl];simp only [Obj.mapSeq];have e:((y::ys).toArray.eraseIdxIfInBounds 0)=ys.toArray:=by
  simp
 simp [e]
theorem d1d {D:Addr} {y:Value} {ys:List Value} {m:Nat} {Q:Value->Shared->Prop} (hD:s.heap.get? D=some { cls:=.type "list",data:=.seq (ys++[y]).toArray m}) (hz:(ys++[y]).length<=big)
  (h:∀ h',Heap.SameBut D s.heap h'->h'.PlainList D ys.toArray->Q y { s with heap:=h'}):wpAny (model prog w) A (call (.builtin "list.pop") [.ref D]) Q E s:=by
 have hsz:(ys++[y]).toArray.size-1=ys.length:=by simp
 have hy:(ys++[y]).toArray[(ys++[y]).toArray.size-1]?=some y:=by rw [hsz];simp
 have hz':(ys++[y]).toArray.size<=sizeLine:=by rw [List.size_toArray,sizeLine_eq];unfold big at hz;omega
 refine call_meets PySem.F.slot_list_pop ⟨_,hD,rfl⟩ PySem.F.entry_list_pop (PySem.F.args_list_pop_1 _) (PySem.MeetsSeq.list_pop_last D _ m y hy hz') ⟨hD,h _ (Heap.SameBut.update ..) ?_⟩;refine⟨if(ys.toArray.size==(ys++[y]).toArray.size)=true then m else m+1,?_⟩;rw [Heap.get?_update_self _ hD rfl];have e:((ys++[y]).toArray.eraseIdxIfInBounds ((ys++[y]).toArray.size-1))=ys.toArray:=by
  rw [hsz,List.eraseIdxIfInBounds_toArray,List.eraseIdx_append_of_length_le (Nat.le_refl _),Nat.sub_self];simp
 simp only [Obj.mapSeq,e]
theorem b3w{k:Nat}{l:List V}{v:Value}(g:GR Lx base μ as s.heap)(hk:μ[k]?=some (.list l))(r:Rep s.heap as (.mut k) v):∃ a us,as[k+1]?=some [a]/\v=.ref a/\s.heap.PlainList a us.toArray/\Reps s.heap as l us:=by
 obtain⟨a,q,e,rfl⟩:=r;obtain⟨a',us,e',hp,hr⟩:=g.mus k _ _ hk e;obtain⟨rfl,rfl⟩:=List.cons.inj e';exact⟨a,us,e,rfl,hp,hr⟩
theorem d3b {k:Nat} {l:List V} (hk:μ[k]?=some (.list l)):a6c prog w Lx base "pop" (.mut k) μ (.builtin "list.pop"):=by
 intro A E s as ov p Q g r h;obtain⟨a,us,_,rfl,hp,_⟩:=b3w g hk r;obtain⟨m,e⟩:=id hp;exact getMethod_list_of F.slot_list_pop F.type_list_pop hp.isList ⟨_,e,rfl⟩ h
theorem d3e {k:Nat} {x:V} {l:List V} (hk:μ[k]?=some (.list (x::l))) (hl:(x::l).length<=big):CallOK prog w Lx base n (.builtin "list.pop") [.mut k,.int 0] μ x (μ.set k (.list l)):=fun A E s as vs Q rm g ra hQ=>by
 obtain⟨v1,r1,rfl,r,v2,r2,rfl,rx,rfl⟩:=ra;obtain⟨a,us,e,rfl,⟨m,hp⟩,hr⟩:=b3w g hk r;obtain⟨t,rfl⟩:=rx;obtain⟨y,ys,rfl,ry,rys⟩:=hr;refine c8k hp (by have:=rys.length;simp only [List.length_cons]at hl ⊢;omega) fun h' hs hp'=>?_;have hin:a∈as.flatten:=List.mem_flatten.mpr ⟨[a],List.mem_of_getElem? e,by simp⟩;obtain⟨g',go⟩:=g.upd (m:=.list l) e (List.getElem?_eq_some_iff.mp hk).1 (fun b o hb e'=>(hs.2 b (by simpa using hb)).trans e') (fun b hb=>by
  rw [List.mem_singleton]at hb;subst hb;obtain⟨m,e'⟩:=hp';exact⟨_,e'⟩) fun ks=>⟨a,ys,rfl,hp',rys.ks ks⟩
 exact hQ y as h' s.toks g' go (ry.ks fun b o hb e' zz=>(hs.2 b (fun q=>hb (q▸hin))).trans e')
theorem Reps.last{l:List V}{x:V}{vs:List Value}(r:Reps h as (l++[x]) vs):∃ ys y,vs=ys++[y]/\Reps h as l ys/\Rep h as x y:=by
 induction l generalizing vs with
 | nil=>
  obtain⟨y,r',rfl,ry,q⟩:=r;cases q;exact⟨[],y,rfl,.nil,ry⟩
 | cons z l ih=>
  obtain⟨v,r',rfl,rv,q⟩:=r;obtain⟨ys,y,rfl,h1,h2⟩:=ih q;exact⟨v::ys,y,rfl,.cons rv h1,h2⟩
theorem d7s {k:Nat} {x:V} {l:List V} (hk:μ[k]?=some (.list (l++[x]))) (hl:(l++[x]).length<=big):CallOK prog w Lx base n (.builtin "list.pop") [.mut k] μ x (μ.set k (.list l)):=fun A E s as vs Q rm g ra hQ=>by
 obtain⟨v1,r1,rfl,r,rfl⟩:=ra;obtain⟨a,us,e,rfl,⟨m,hp⟩,hr⟩:=b3w g hk r;obtain⟨ys,y,rfl,rys,ry⟩:=hr.last;refine d1d hp (by have:=rys.length;simp only [List.length_append,List.length_singleton]at hl ⊢;omega) fun h' hs hp'=>?_;have hin:a∈as.flatten:=List.mem_flatten.mpr ⟨[a],List.mem_of_getElem? e,List.mem_singleton_self _⟩;obtain⟨g',go⟩:=g.upd (m:=.list l) e (List.getElem?_eq_some_iff.mp hk).1 (fun b o hb e'=>(hs.2 b (by simpa using hb)).trans e') (fun b hb=>by
  rw [List.mem_singleton]at hb;subst hb;obtain⟨m,e'⟩:=hp';exact⟨_,e'⟩) fun ks=>⟨a,ys,rfl,hp',rys.ks ks⟩
 exact hQ y as h' s.toks g' go (ry.ks fun b o hb e' zz=>(hs.2 b (fun q=>hb (q▸hin))).trans e')
end
end
section
structure LamT where
 qual:Str
 params:Arguments
 scope:Scope
 p1:Pos
 p2:Pos
 p3:Pos
 p4:Pos
 p5:Pos
 p6:Pos
 kd:Nat
 pos0:Pos
 pos:Pos
noncomputable def LamT.body (l:LamT):Expr:=.IfExp (.Name "letters" l.p1) (.Call (.Attribute (.Name "letters" l.p2) "pop" l.p3) [] [] l.p4) (.Constant (.str "") l.kd l.p5) l.p6
structure b7t(l:LamT):Prop where
 bind:∀(cl:List (Str×Addr)) (pm cdv ct v:Value),bindArgs (kla_fn "<lambda>" l.qual l.params l.body l.scope cl pm cdv ct) ⟨[v],[]⟩=pure [(("size":Str),v)]
 size:l.scope.names.lookup ("size":Str)=some NameKind.local
 letters:l.scope.names.lookup ("letters":Str)=some NameKind.free
 nocell:∀ x∈l.scope.names,x.2≠.cell
 kind:l.scope.kind=.function
 coro:l.scope.isCoroutine=false
 gen:l.scope.isGenerator=false
 line:(l.p3.endLine==l.p4.line)=true
section
variable{prog:Program}{w:World}{A:Around}{E:Value->Shared->Prop}{s:Shared}
theorem d1u{l:LamT}(ok:b7t l)(hh:A.handled=.none)(hd:A.depth<1000){G LC LL cG:Addr}{pm ctv v:Value}{us:List Value}{Q:Value->Shared->Prop}
  (hG:s.heap.get? G=some (kla_obj "<lambda>" l.qual l.params l.body l.scope [("letters",LC)] pm cG ctv)) (hcd:s.heap.CodeRec (.ref cG) l.qual) (hbig:s.heap.NoLimit) (hC:s.heap.IsCell LC (some (.ref LL))) (hL:s.heap.PlainList LL us.toArray) (hz:us.length<=big)
  (h0:us=[]->∀ h' tk t,(∀ b o,s.heap.get? b=some o->h'.get? b=some o)->Q (.str "" t) { s with heap:=h',toks:=tk})
  (h1:∀ y ys,us=ys++[y]->∀ h' tk,(∀ b o,b≠LL->s.heap.get? b=some o->h'.get? b=some o)->h'.PlainList LL ys.toArray->Q y { s with heap:=h',toks:=tk}) :
  wpAny (model prog w) A (call (.ref G) [v]) Q E s:=by
 refine wpAny_call (kla_callFunE hd hG rfl ok.coro ok.gen rfl hcd ?_);rw [ok.bind];refine wpAny_pure (wpAny_newFunctionEnv ok.nocell (by
  intro x hx;rw [List.mem_singleton]at hx;subst hx;exact ok.size) (fun h' hns hsb=>?_) ok.kind)
 have kp:∀ b o,s.heap.get? b=some o->h'.get? b=some o:=fun b o e=>hsb.extBut b o (Nat.ne_of_lt (Heap.lt_size e)) (Heap.get?_push_of_some _ e);refine⟨hbig.keeps kp,kla_codeExpr ?_⟩;obtain⟨env,henv⟩:∃ env,env=newEnv l.scope s.heap.objs.size mainGlobals [("letters",LC)] (l.qual++".<locals>.") (some G) (.ref cG) .none builtinsNs:=⟨_,rfl⟩
 show wpAny (model prog w) (A.deeper (newEnv l.scope s.heap.objs.size mainGlobals [("letters",LC)] (l.qual++".<locals>.") (some G) (.ref cG) .none builtinsNs)) (eval l.body (newEnv l.scope s.heap.objs.size mainGlobals [("letters",LC)] (l.qual++".<locals>.") (some G) (.ref cG) .none builtinsNs)) _ _ _
 rw [← henv];have hk:env.scope.kind=.function:=by rw [henv];exact ok.kind
 have hl:env.kindOf "letters" = some .free:=by rw [henv];exact ok.letters
 have hc:env.cells.lookup ("letters":Str)=some LC:=by rw [henv];rfl
 have hC':h'.IsCell LC (some (.ref LL)):=hC.keeps kp;obtain⟨m,eL⟩:=hL;have eL':=kp _ _ eL;have hsz:us.toArray.size<=sizeLine:=by rw [List.size_toArray,sizeLine_eq];unfold big at hz;omega
 unfold LamT.body;have name:∀ {p:Pos} {E':Value->Shared->Prop} {Q':Value->Shared->Prop} {tk:Nat},Q' (.ref LL) { s with heap:=h',toks:=tk}->wpAny (model prog w) (A.deeper env) (eval (.Name "letters" p) env) Q' E' { s with heap:=h',toks:=tk}:=fun {p E' Q' tk} q=>
  wpAny_Name (wpAny_loadName_free hk hl hc hC' q) (by decide)
 refine wpAny_IfExp (isTrue_plain (name ?_));refine wpAny_truthy_list (items:=us.toArray) ⟨_,eL',rfl,m,rfl⟩ (by simp only [List.size_toArray];unfold big at hz;omega) ?_;rcases List.eq_nil_or_concat us with rfl | ⟨ys,y,rfl⟩
 ·simp only [List.isEmpty_toArray,List.isEmpty_nil,Bool.not_true,Bool.false_eq_true,if_false]
  exact wpAny_Constant_str (h0 rfl h' _ _ kp)
 ·have e1:(!(ys++[y]).toArray.isEmpty)=true:=by simp
  simp only [List.concat_eq_append]at eL' hz hsz h1 ⊢;rw [e1,if_pos rfl,arm_eval_Call];refine wpAny_bind (name ?_);refine wpAny_bind (wpAny_standAt ?_);have few:methodCallForm (([]:List Expr).length+([]:List Keyword).length) (backTo l.p4 (starEach [] env)) (backToKw l.p4 (keywordEach [] env))=true:=rfl;unfold methodCall;rw [few];refine wpAny_bind (wpAny_holding (getMethod_list_of F.slot_list_pop F.type_list_pop (items:=(ys++[y]).toArray) ⟨_,eL',rfl,m,rfl⟩ ⟨_,eL',rfl⟩ ?_));show wpAny (model prog w) _ (methodCallPos true _ env l.p3 l.p4 >>= fun cp=>callWith cp (.builtin "list.pop") [.ref LL] (backTo l.p4 (starEach [] env)) []) _ _ _
  have hpos:methodCallPos true (.Name "letters" l.p2) env l.p3 l.p4=pure l.p4:=by
   unfold methodCallPos;rw [if_pos (by simpa using ok.line)]
  rw [hpos];refine wpAny_bind (wpAny_pure ?_);refine P.pop_list (items:=(ys++[y]).toArray) (n:=m) eL' (y:=y) (by simp) ?_ hsz;refine h1 y ys rfl _ _ (fun b o hb e=>?_) ⟨m+1,?_⟩
  ·rw [Heap.get?_update_ne _ _ _ _ hb];exact kp b o e
  ·rw [Heap.get?_update_self _ eL' rfl]
   simp only [Obj.mapSeq];have e3:(ys++[y]).eraseIdx ys.length=ys:=by simpa using kl_eraseL ys [] y
   simp [e3]
end
end
section
inductive StreamAt(lm:LamT)(h:Heap)(ads rs:List Addr):Prop where
 | mk (F FD G LC cG LL:Addr) (pm:Value) (ctv:Value) (mF:Str->Option Value) (e1:ads=[F,FD,G,LC]) (e2:rs=[LL,cG]) (h1:a9j h F FD mF) (h2:mF "read" = some (.ref G)) (h3:h.get? G=some (kla_obj "<lambda>" lm.qual lm.params lm.body lm.scope [("letters",LC)] pm cG ctv)) (h4:h.IsCell LC (some (.ref LL)))
noncomputable def CodeAt(lm:LamT)(h:Heap)(ads:List Addr):Prop:=∃ c,ads=[c]/\h.CodeRec (.ref c) lm.qual
noncomputable def a7k (a b:Value) (e:Bool):Obj:={ cls:=.type "callable_iterator",data:=.fields #[a,b,.bool e]}
inductive FitAt(fr:Addr)(h:Heap)(ads rs:List Addr):Prop where
 | mk (fi bm X:Addr) (t:Tok) (e1:ads=[fi,bm]) (e2:rs=[X]) (h1:h.get? fi=some (a7k (.ref bm) (.str "" t) false)) (h2:h.get? bm=some (methodObj (.ref fr) (.ref X)))
noncomputable def EndAt(h:Heap)(ads:List Addr):Prop:=∃ fi bm,ads=[fi,bm]/\h.get? fi=some (a7k .none .none true)
noncomputable def TabAt(lm:LamT)(P:Addr)(h:Heap)(ads rs:List Addr)(n:Int):Prop:=ads=[P] ∧
 ((n = -1/\h.get? P=some (tabObj #[]))∨n = -8 ∨
 (n = -5/\∃ c1 c2,rs=[c2]/\h.get? P=some (tabObj #[rawInt lm.pos0.line,rawInt lm.pos0.col,.ref c1,rawInt lm.pos.line,rawInt lm.pos.col,.ref c2])))
section
variable{lm:LamT}{P fr:Addr}{h h':Heap}{ads rs:List Addr}{n:Int}
theorem StreamAt.keep(x:StreamAt lm h ads rs)(k:∀ a∈ads,∀ o,h.get? a=some o->h'.get? a=some o):StreamAt lm h' ads rs:=by
 obtain⟨F,FD,G,LC,cG,LL,pm,ctv,mF,rfl,rfl,⟨⟨fd,sl,h1⟩,h2⟩,h3,h4,⟨oc,h5,h6⟩⟩:=x;exact⟨F,FD,G,LC,cG,LL,pm,ctv,mF,rfl,rfl,⟨⟨fd,sl,k F (.head _) _ h1⟩,let⟨o,es,ep,e,r⟩:=h2;⟨o,es,ep,k FD (.tail _ (.head _)) _ e,r⟩⟩,h3,k G (.tail _ (.tail _ (.head _))) _ h4,⟨oc,k LC (.tail _ (.tail _ (.tail _ (.head _)))) _ h5,h6⟩⟩
theorem FitAt.keep(x:FitAt fr h ads rs)(k:∀ a∈ads,∀ o,h.get? a=some o->h'.get? a=some o):FitAt fr h' ads rs:=by
 obtain⟨fi,bm,X,t,rfl,rfl,h1,h2⟩:=x;exact⟨fi,bm,X,t,rfl,rfl,k fi (.head _) _ h1,k bm (.tail _ (.head _)) _ h2⟩
theorem EndAt.keep(x:EndAt h ads)(k:∀ a∈ads,∀ o,h.get? a=some o->h'.get? a=some o):EndAt h' ads:=by
 obtain⟨fi,bm,rfl,h1⟩:=x;exact⟨fi,bm,rfl,k fi (.head _) _ h1⟩
theorem CodeAt.keep(x:CodeAt lm h ads)(k:∀ a∈ads,∀ o,h.get? a=some o->h'.get? a=some o):CodeAt lm h' ads:=by
 obtain⟨c',rfl,c,o,vs,t,e,h7,h8⟩:=x;cases e;exact⟨c',rfl,c',o,vs,t,rfl,k c' (.head _) _ h7,h8⟩
theorem TabAt.keep(x:TabAt lm P h ads rs n)(k:∀ a∈ads,∀ o,h.get? a=some o->h'.get? a=some o):TabAt lm P h' ads rs n:=by
 obtain⟨rfl,x⟩:=x;exact⟨rfl,x.imp (And.imp_right (k P (.head _) _)) (Or.imp_right (And.imp_right fun⟨c1,c2,h2,h3⟩=>⟨c1,c2,h2,k P (.head _) _ h3⟩))⟩
end
noncomputable def a1f{base:Heap}(B:LB base)(lm:LamT)(P:Addr):LxP where
 At h ads rs n:=(1<=n/\LexerAt B.C h ads rs n)∨(n = -3/\StreamAt lm h ads rs)∨(n = -2/\FitAt B.fr h ads rs)∨(n = -4/\EndAt h ads)∨(n = -6/\CodeAt lm h ads)∨((n = -1∨n = -8∨n = -5)/\TabAt lm P h ads rs n)
 keep:=fun x k=>x.imp (And.imp_right (·.keep k)) (Or.imp (And.imp_right (StreamAt.keep · k)) (Or.imp (And.imp_right (FitAt.keep · k)) (Or.imp (And.imp_right (EndAt.keep · k)) (Or.imp (And.imp_right (CodeAt.keep · k)) (And.imp_right (TabAt.keep · k))))))
section
variable{prog:Program}{w:World}{base:Heap}{B:LB base}{lm:LamT}{P:Addr}{μ:Mu}{as:List (List Addr)}{A:Around}{E:Value->Shared->Prop}{s:Shared}
inductive e5n(C:Addr)(as:List (List Addr))(h:Heap)(k:Nat)(is:List Nat)(n:Int)(v:Value):Prop where
 | mk (X D PB F:Addr) (mA:Str->Option Value) (e1:v=.ref X) (e2:as[k+1]?=some [X,D]) (e3:b7v as is=some [PB,F]) (h1:h.Inst X C mA) (h2:a7x mA PB F n)
theorem e6c{n m:Int}{G:Prop}(q:n=m)(h:1<=n)(hm:m<1):G:=absurd (Int.lt_of_lt_of_le hm (q▸h)) (Int.lt_irrefl _)
theorem a3z{k:Nat}{is:List Nat}{n:Int}{h:Heap}{v:Value}(g:GR (a1f B lm P) base μ as h)(hk:μ[k]?=some (.obj is n))(hn:1<=n)(r:Rep h as (.mut k) v) :
  e5n B.C as h k is n v:=by
 obtain⟨a,q,e,rfl⟩:=r;obtain⟨rs,e1,e2⟩:=g.mus k _ _ hk e;rcases e2 with⟨_,x⟩ | ⟨q,_⟩ | ⟨q,_⟩ | ⟨q,_⟩ | ⟨q,_⟩ | ⟨q,_⟩
 ·obtain⟨X,D,PB,F,mA,ea,er,I,L⟩:=x.inst
  rw [ea]at e;obtain⟨rfl,_⟩:=List.cons.inj ea;exact⟨_,D,PB,F,mA,rfl,e,by rw [e1,er],I,L⟩
 all_goals first | exact e6c q hn (by decide) | omega
theorem b4g{kp ks:Nat}{PB F:Addr}(h:b7v as [kp,ks]=some [PB,F]):(∃ q,as[kp+1]?=some (PB::q))/\∃ q,as[ks+1]?=some (F::q):=by
 refine a0g h fun x y h1 h2 e=>a0g h2 fun z zz h3 zz e2=>?_;subst e2;cases e;refine a0h h1 fun l1 h1 e1=>a0h h3 fun l2 h2 e2=>?_;induction l1 using List.casesOn with
 | nil=>exact ns e1
 | cons a q1=>induction l2 using List.casesOn with
  | nil=>exact ns e2
  | cons b q2=>
   cases e1;cases e2;exact⟨⟨_,h1⟩,⟨_,h2⟩⟩
theorem c6m {k:Nat} {is:List Nat} {n:Int} {ov:Value} {Q:Value->Shared->Prop} (hk:μ[k]?=some (.obj is n)) (hn:1<=n) (g:GR (a1f B lm P) base μ as s.heap) (r:Rep s.heap as (.mut k) ov) (hQ:Post (a1f B lm P) base as s (.int n) μ Q):wpAny (model prog w) A (getAttr ov "lineno" true) Q E s:=by
 obtain⟨X,D,PB,F,mA,rfl,_,_,I,L⟩:=a3z g hk hn r;obtain⟨t,hl⟩:=L.line;exact a7y (B:=B) g.keep I (by simp) hl rfl (hQ.same (tk:=s.toks+1) g (⟨_,rfl⟩))
theorem c3l {k:Nat} {is:List Nat} {n:Int} {ov:Value} {Q:Value->Shared->Prop} (hk:μ[k]?=some (.obj is n)) (hn:1<=n) (g:GR (a1f B lm P) base μ as s.heap) (r:Rep s.heap as (.mut k) ov) (hQ:Post (a1f B lm P) base as s (.str ws) μ Q):wpAny (model prog w) A (getAttr ov "whitespace" true) Q E s:=by
 obtain⟨X,D,PB,F,mA,rfl,_,_,I,L⟩:=a3z g hk hn r;obtain⟨t,hl⟩:=L.white;exact a7y (B:=B) g.keep I (by simp) hl rfl (hQ.same (tk:=s.toks+1) g (⟨_,rfl⟩))
theorem c8d {k kp ks:Nat} {n:Int} {ov:Value} {Q:Value->Shared->Prop} (hk:μ[k]?=some (.obj [kp,ks] n)) (hn:1<=n) (g:GR (a1f B lm P) base μ as s.heap) (r:Rep s.heap as (.mut k) ov) (hQ:Post (a1f B lm P) base as s (.mut kp) μ Q):wpAny (model prog w) A (getAttr ov "pushback" true) Q E s:=by
 obtain⟨X,D,PB,F,mA,rfl,_,hr,I,L⟩:=a3z g hk hn r;obtain⟨⟨q,h1⟩,_⟩:=b4g hr;exact a7y (B:=B) g.keep I (by simp) L.back rfl (hQ.same (tk:=s.toks+1) g (⟨_,_,h1,rfl⟩))
end
end
end Mine
end
section
open PySem PySem.W PySem.Calls PyProof.Rows
namespace Mine
section
section
variable{prog:Program}{w:World}{Lx:LxP}{base:Heap}
noncomputable def CodeOK(prog:Program)(w:World)(Lx:LxP)(base:Heap)(n:Nat)(f:Value)(args:List V)(μ:Mu)(r:V)(μ':Mu):Prop:=
 ∀(A:Around) (R:Result->Shared->Prop) (s:Shared) (as:List (List Addr)) (vs:List Value),Room A n->GR Lx base μ as s.heap->Reps s.heap as args vs →
  Post Lx base as s r μ' (fun v s'=>R (.ok (.ret v)) s')->codeAny (model prog w) A (.call f ⟨vs,[]⟩) R s
theorem CodeOK.call{n:Nat}{f:Value}{args:List V}{μ μ':Mu}{r:V}(h:CodeOK prog w Lx base n f args μ r μ'):CallOK prog w Lx base n f args μ r μ':=
 fun A E s as vs Q rm g ra hQ=>wpAny_call (h A _ s as vs rm g ra hQ)
theorem d9c{tbl:List Str}(hbig:base.NoLimit)
  {n:Nat} {a:Addr} {o:Obj} {fd:FuncData} {body:List Stmt} {v:F} {μ₂:Mu} {ρ₂:Rho} {names:List Str} {is:List Nat} {args:List V} {μ μ':Mu} {r:V}
  (ho:base.get? a=some o) (hd:o.data=.func fd) (hcd:base.CodeRec fd.code fd.qualname) (hbody:fd.body=.stmts body)
  (hg:fd.globals=mainGlobals) (hb:fd.builtins=builtinsNs) (hclo:fd.closure=[])
  (hco:fd.scope.isCoroutine=false) (hgen:fd.scope.isGenerator=false) (hk:fd.scope.kind=.function)
  (hbind:∀ vals:List Value,vals.length=names.length->bindArgs fd ⟨vals,[]⟩=pure (names.zip vals))
  (hi:a1k (nid tbl) names=some is) (hnd:names.Nodup) (hkn:∀ x∈names,fd.scope.names.lookup x=some .local∨fd.scope.names.lookup x=some .cell)
  (hfree:∀ p∈fd.scope.names,p.2≠.free) (hlen:is.length=args.length)
  (hx:∀(A:Around) (E:Value->Shared->Prop) (L:Addr) (as:List (List Addr)) (s:Shared) (Q:Flow->Shared->Prop),Room A n->s.heap.NoLimit->ER tbl base (callEnvC fd L a) (is.zip args) as s.heap->GR Lx base μ as s.heap->SPost Lx base tbl (callEnvC fd L a) as s v ρ₂ μ₂ Q->wpAny (model prog w) A (execs body (callEnvC fd L a)) Q E s)
  (hok:(μ₂.take μ.length).all (okM μ.length)=true∨μ₂.length=μ.length) (hμ:μ'=μ₂.take μ.length) (hr:match v with | .ret u=>a4v μ.length μ₂ u=some r | .next=>r=.none | _=>False):CodeOK prog w Lx base (n+1) (.ref a) args μ r μ':=by
 intro A R s as vals rm g ra hQ;obtain⟨Q,hQe⟩:∃ Q:Value->Shared->Prop,Q=fun v s'=>R (.ok (.ret v)) s':=⟨_,rfl⟩;rw [← hQe]at hQ;subst hμ
 ·have hl:names.length=vals.length:=by rw [ra.length,← hlen,a6r hi]
  have rm':∀ env,Room (A.deeper env) n:=fun env=>⟨rm.calm,by show A.depth+1+n<=900;have:=rm.depth;omega,by show A.units+3+10 * n<=9000;have:=rm.units;omega⟩;refine(codeAny_call_cells (by have:=rm.depth;show A.depth<1000;omega) (g.keep _ _ ho) hd (hbig.keeps fun b o e=>g.keep b o e) (hcd.keeps fun b o e=>g.keep b o e) hbody (hbind vals hl.symm) hclo (fun x hx=>?_) (fun sI x=>?_) hco hgen hk)
  ·rcases hkn x.1 (List.of_mem_zip hx).1 with q | q
   ·exact .inl q
   ·exact .inr ⟨q,a2l _ _ _ q⟩
  ·obtain⟨hY,tkI,eI,hkeep⟩:=x.done
   have gI:GR Lx base μ as sI.heap/\Go as s.heap as sI.heap:=g.all fun a o zz e=>x.toInCall.keep a o e;obtain⟨gI,goI⟩:=gI;have er:=b4d (tbl:=tbl) hk hg hb hfree hnd hi x hl g (ra.go goI);have hwf:∀ b,Wf tbl (callEnvC fd s.heap.objs.size a) b->s.heap.get? b=.none:=by
    intro b hb;have:s.heap.objs.size<=b:=by
     rcases hb with rfl | ⟨i,y,_,_,hc⟩
     ·exact x.toInCall.fresh
     ·exact Nat.le_of_lt (Nat.lt_of_le_of_lt x.toInCall.fresh (x.above _ _ (mem_of_lookup hc)))
    induction q:s.heap.get? b using Option.casesOn with
    | none=>rfl
    | some o=>exact absurd (Heap.lt_size q) (Nat.not_lt.mpr this)
   have fin:∀ {μ₂:Mu} {asJ:List (List Addr)} {hJ:Heap} {u:Value} {v v':V} {tk:Nat},GR Lx base μ₂ asJ hJ->GoS (Wf tbl (callEnvC fd s.heap.objs.size a)) as sI.heap asJ hJ->((μ₂.take μ.length).all (okM μ.length)=true∨μ₂.length=μ.length)->Rep hJ asJ v u->a4v μ.length μ₂ v=some v' →
     (∀ u h' tk,GR Lx base (μ₂.take μ.length) as h'->Go as s.heap as h'->Rep h' as v' u->Q u { s with heap:=h',toks:=tk})->Q u { s with heap:=hJ,toks:=tk}:=by
    intro μ₂ asJ hJ u v v' tk gJ gs hok rv hf K;obtain⟨nw,rfl,_⟩:=gs.ext;have hlm:as.length=μ.length+1:=g.len;have hle:μ.length<=μ₂.length:=by
     have:=gJ.len;rw [List.length_append]at this;omega
    have gd:GR Lx base (μ₂.take μ.length) as hJ:=by
     rcases hok with hok | hok
     ·exact gJ.drop hlm hok hle
     ·have hn0:nw=[]:=by
       have:=gJ.len;rw [List.length_append]at this;exact List.eq_nil_of_length_eq_zero (by omega)
      rw [← hok,List.take_length];rw [hn0,List.append_nil]at gJ;exact gJ
    refine K u hJ tk gd ⟨⟨[],by simp,by simp⟩,fun b o hb e=>?_,fun b hb=>?_⟩ (rv.frozen gJ hlm hf)
    ·exact gs.keep b o hb (fun q=>by rw [hwf b q]at e;exact ns e) (x.toInCall.keep b o e)
    ·exact gJ.alive b (by rw [List.flatten_append];exact List.mem_append_left _ hb)
   rw [eI];rw [eI]at gI er;induction v using Mine.F.casesOn with
   | ret u=>
    refine hx _ _ _ as _ _ (rm' _) (by have:=hbig.keeps (fun b o e=>gI.keep b o e);exact this) er gI fun fl asJ hJ tk gJ erJ gs fr=>?_;induction fl using PySem.Flow.casesOn<;>try exact fr.elim
    have gs':GoS (Wf tbl (callEnvC fd s.heap.objs.size a)) as sI.heap asJ hJ:=by rw [eI];exact gs
    have z:=fin (tk:=tk) gJ gs' hok fr hr fun u h' tk g' go' r'=>hQ u as h' tk g' go' r';rw [hQe]at z;exact z
   | next=>
    simp only at hr;subst hr;refine hx _ _ _ as _ _ (rm' _) (by have:=hbig.keeps (fun b o e=>gI.keep b o e);exact this) er gI fun fl asJ hJ tk gJ erJ gs fr=>?_;induction fl using PySem.Flow.casesOn<;>try exact fr.elim
    have gs':GoS (Wf tbl (callEnvC fd s.heap.objs.size a)) as sI.heap asJ hJ:=by rw [eI];exact gs
    have z:=fin (v:=.none) (v':=.none) (u:=Value.none) (tk:=tk) gJ gs' hok (by simp [Rep]) rfl fun u h' tk g' go' r'=>hQ u as h' tk g' go' r';rw [hQe]at z;exact z
   | _=>exact hr.elim
end
end
end Mine
end
section
open PySem PySem.W PySem.Calls PyProof.Rows
set_option maxRecDepth 100000
namespace Mine
section
section
variable{prog:Program}{w:World}{base:Heap}{B:LB base}{lm:LamT}{P:Addr}{μ:Mu}{as:List (List Addr)}{A:Around}{E:Value->Shared->Prop}{s:Shared}
theorem c4g {mA:Str->Option Value} {PB F:Addr} {n:Int} (L:a7x mA PB F n):Within mA ["lineno","instream","whitespace","pushback"]:=by
 intro y hy;by_cases h1:y = "lineno"
 ·simp [h1]
 by_cases h2:y = "instream"
 ·simp [h2]
 by_cases h3:y = "whitespace"
 ·simp [h3]
 by_cases h4:y = "pushback"
 ·simp [h4]
 exact absurd (L.only y h1 h2 h3 h4) hy
theorem c2e{k:Nat}{is:List Nat}{n m:Int}{v:Value}{t:Tok}{Q:Unit->Shared->Prop}(hk:μ[k]?=some (.obj is n))(hn:1<=n)(hm:1<=m)(g:GR (a1f B lm P) base μ as s.heap)(r:Rep s.heap as (.mut k) v)
  (h:∀ h' tk,GR (a1f B lm P) base (μ.set k (.obj is m)) as h'->Go as s.heap as h'->Q () { s with heap:=h',toks:=tk}):wpAny (model prog w) A (setAttr v "lineno" (.int m t)) Q E s:=by
 obtain⟨X,D,PB,F,mA,rfl,e,er,I,L⟩:=a3z g hk hn r;obtain⟨hC⟩:=B.cls;have hXC:X≠B.C:=B.ne (g.fresh X (List.mem_flatten.mpr ⟨[X,D],List.mem_of_getElem? e,.head _⟩));obtain⟨o,hX,hc,hnc,hd⟩:=id I;have hD:o.dict=some D/\D≠X/\s.heap.Ns1 D mA:=by
  obtain⟨rs,e1,e2⟩:=g.mus k _ _ hk e;rcases e2 with⟨_,x⟩ | ⟨q,_⟩ | ⟨q,_⟩ | ⟨q,_⟩ | ⟨q,_⟩ | ⟨q,_⟩
  ·obtain⟨X',D',PB',F',o',mA',ea,er',h1,h2,h3,h4,h5,h6,h7⟩:=x
   simp only [List.cons.injEq,and_true]at ea;obtain⟨rfl,rfl⟩:=ea;rw [hX]at h1;obtain rfl:=Option.some.inj h1;refine⟨h4,h5,?_⟩;rcases hd with⟨q,_⟩ | ⟨d,hd1,hd2,hd3⟩
   ·rw [h4]at q;cases q
   ·rw [h4]at hd1;obtain rfl:=Option.some.inj hd1;exact hd3
  all_goals first | exact e6c q hn (by decide) | omega
 refine store_attr PySem.F.store_object (g.keep _ _ hC) (Ns.keep B.ns g.keep) B.nsa (B.own _ (.inl rfl)) (c9m _ (.inl rfl)) hXC I (fun h' tk' I' hk' hsame=>?_) (c4g L) (by decide);obtain⟨oI,hoI,hcI,hdI,_,hdd⟩:=hsame o hX;have hI':∃ o',h'.get? X=some o'/\o'.dict=some D/\h'.Ns1 D (fun y=>if y = "lineno" then some (.int m t)else mA y):=by
  obtain⟨o',h1,h2,h3,h4⟩:=I';rw [hoI]at h1;obtain rfl:=Option.some.inj h1;have hdd':=hdd D hD.1;rcases h4 with⟨q,_⟩ | ⟨d,q1,q2,q3⟩
  ·rw [hdd']at q;cases q
  ·rw [hdd']at q1;obtain rfl:=Option.some.inj q1;exact⟨_,hoI,hdd',q3⟩
 obtain⟨o',ho',hdo',hns'⟩:=hI';rw [hoI]at ho';obtain rfl:=Option.some.inj ho';have at':a7x (fun y=>if y = "lineno" then some (.int m t)else mA y) PB F m:=by
  refine⟨⟨t,by simp⟩,?_,?_,?_,fun x h1 h2 h3 h4=>?_⟩
  ·rw [if_neg (by decide)];exact L.stream
  ·rw [if_neg (by decide)];exact L.white
  ·rw [if_neg (by decide)];exact L.back
  ·rw [if_neg h1];exact L.only x h1 h2 h3 h4
 obtain⟨g',go⟩:=g.upd (h':=h') (m:=.obj is m) e (List.getElem?_eq_some_iff.mp hk).1 (fun b ob hb eb=>by
   simp only [List.mem_cons,List.not_mem_nil,or_false,not_or]at hb;refine hk' b ob hb.1 (fun oO dx e0 e1=>?_) eb;rw [hX]at e0;obtain rfl:=Option.some.inj e0;rw [hD.1]at e1;obtain rfl:=Option.some.inj e1;exact hb.2) (fun b hb=>by
   simp only [List.mem_cons,List.not_mem_nil,or_false]at hb;rcases hb with rfl | rfl
   ·exact⟨_,hoI⟩
   ·obtain⟨od,es,ep,ed,_⟩:=hns';exact⟨_,ed⟩) (fun ks=>⟨[PB,F],er,.inl ⟨hm,X,D,PB,F,oI,_,rfl,rfl,hoI,by rw [hcI,hc],by rw [hdI];exact hnc,hdo',hD.2.1,hns',at'⟩⟩)
 exact h h' tk' g' go
theorem c5y {Γ:G} {env:Env} {ρ:Rho} {x a:Str} {p q r c:Pos} {kd j k:Nat} {is:List Nat} {m:Int} {Q:Flow->Shared->Prop} (hv:a5o env.scope x=true) (ha:a = "lineno") (hx:nid Γ.tbl x=some j) (h1:(x==("__debug__":Str))=false) (h2:(x==("__classdict__":Str))=false)
  (hρ:ρ.lookup j=some (.mut k)) (hk:μ[k]?=some (.obj is m)) (hm:1<=m) (er:ER Γ.tbl base env ρ as s.heap) (g:GR (a1f B lm P) base μ as s.heap)
  (h:∀ h' tk,GR (a1f B lm P) base (μ.set k (.obj is (m+1))) as h'->Go as s.heap as h'->Q .next { s with heap:=h',toks:=tk}):wpAny (model prog w) A (PySem.exec (.AugAssign (.Attribute (.Name x p) a q) .Add (.Constant (.int 1) kd c) r) env) Q E s:=by
 subst ha;refine wpAny_AugAssign_AttributeAny (wpAny_Name (c0g er hx hv h2 hρ fun u ru=>?_) h1);obtain⟨X,D,PB,F,mA,rfl,_,_,I,L⟩:=a3z g hk hm ru;obtain⟨t,hl⟩:=L.line;refine a7y (B:=B) g.keep I (by simp) hl rfl (wpAny_Constant_int (iadd_int ?_));exact c2e (s:={ s with toks:=s.toks+1+1+1}) hk hm (by omega) g ru fun h'' tk'' g'' go''=>h h'' tk'' g'' go''
end
end
section
section
variable{prog:Program}{w:World}{base:Heap}{B:LB base}{lm:LamT}{P:Addr}{μ:Mu}{as:List (List Addr)}{A:Around}{E:Value->Shared->Prop}{s:Shared}
inductive d3q(lm:LamT)(as:List (List Addr))(h:Heap)(kl:Nat)(v:Value):Prop where
 | mk (F FD G LC cG LL:Addr) (pm ctv:Value) (mF:Str->Option Value) (q:List Addr) (e1:v=.ref F) (e2:as[kl+1]?=some (LL::q)) (h1:a9j h F FD mF) (h2:mF "read" = some (.ref G)) (h3:h.get? G=some (kla_obj "<lambda>" lm.qual lm.params lm.body lm.scope [("letters",LC)] pm cG ctv)) (h4:h.IsCell LC (some (.ref LL))) (h5:h.CodeRec (.ref cG) lm.qual)
theorem c6n{ks kl kc:Nat}{h:Heap}{v:Value}(g:GR (a1f B lm P) base μ as h)(hs:μ[ks]?=some (.obj [kl,kc] (-3)))(hc:μ[kc]?=some (.obj [] (-6)))(r:Rep h as (.mut ks) v) :
  d3q lm as h kl v:=by
 obtain⟨a,q,e,rfl⟩:=r;obtain⟨rs,e1,e2⟩:=g.mus ks _ _ hs e;rcases e2 with⟨q,_⟩ | ⟨_,x⟩ | ⟨q,_⟩ | ⟨q,_⟩ | ⟨q,_⟩ | ⟨q,_⟩
 ·first | exact absurd q (by decide) | exact absurd z (by decide)
 ·obtain⟨F,FD,G,LC,cG,LL,pm,ctv,mF,ea,rfl,h1,h2,h3,h4⟩:=x
  obtain⟨rfl,rfl⟩:=List.cons.inj ea;obtain⟨⟨q,hl⟩,⟨q2,hl2⟩⟩:=b4g e1;obtain⟨rs2,_,e3⟩:=g.mus kc _ _ hc hl2;rcases e3 with⟨z,_⟩ | ⟨z,_⟩ | ⟨z,_⟩ | ⟨z,_⟩ | ⟨_,c,ec,hcode⟩ | ⟨z,_⟩
  ·first | exact absurd q (by decide) | exact absurd z (by decide)
  ·first | exact absurd q (by decide) | exact absurd z (by decide)
  ·first | exact absurd q (by decide) | exact absurd z (by decide)
  ·first | exact absurd q (by decide) | exact absurd z (by decide)
  ·simp only [List.cons.injEq]at ec
   obtain⟨rfl,_⟩:=ec;exact⟨_,FD,G,LC,_,LL,pm,ctv,mF,q,rfl,hl,h1,h2,h3,h4,hcode⟩
  ·first | exact absurd q (by decide) | exact absurd z (by decide)
 all_goals omega
theorem c9l{h:Heap}{x:V}:∀ {L':List V} {us:List Value},Reps h as (L'++[x]) us->∃ ys' y',us=ys'++[y']/\Reps h as L' ys'/\Rep h as x y':=by
 intro z_;induction z_ with
 | nil=>
  intro us hr;simp only [List.nil_append,Reps]at hr;obtain⟨v,r',rfl,hx,rfl⟩:=hr;exact⟨[],v,rfl,by simp [Reps],hx⟩
 | cons a b ih=>
  intro us hr;simp only [List.cons_append,Reps]at hr;obtain⟨v,r',rfl,ha,hb⟩:=hr;obtain⟨ys',y',rfl,c1,c2⟩:=ih hb;exact⟨v::ys',y',rfl,⟨v,ys',rfl,ha,c1⟩,c2⟩
theorem c8e(ok:b7t lm)(hbig:base.NoLimit)(hh:A.handled=.none)(hd:A.depth<1000){ks kl kc:Nat}{L:List V}{v:Value}{p:Sem Bool}{R:Value×List Value->Shared->Prop}{Q:Value->Shared->Prop}(g:GR (a1f B lm P) base μ as s.heap)(hs:μ[ks]?=some (.obj [kl,kc] (-3)))(hkc:μ[kc]?=some (.obj [] (-6)))(hl:μ[kl]?=some (.list L))(hz:L.length<=big)(r:Rep s.heap as (.mut ks) v)
  (h0:L=[]->∀ h' tk t,GR (a1f B lm P) base μ as h'->Go as s.heap as h'->Q (.str "" t) { s with heap:=h',toks:=tk})
  (h1:∀ L' x,L=L'++[x]->∀ h' tk y,GR (a1f B lm P) base (μ.set kl (.list L')) as h'->Go as s.heap as h'->Rep h' as x y->Q y { s with heap:=h',toks:=tk})
  (hR:∀(G:Addr) (o:Obj) (fd:FuncData) (tk:Nat),s.heap.get? G=some o->o.data=.func fd->(∀(A':Around) (one:Value) (tk:Nat),A'.handled=.none->A'.depth<1000->wpAny (model prog w) A' (call (.ref G) [one]) Q E { s with toks:=tk})->R (.ref G,[]) { s with toks:=tk}) :
  wpAny (model prog w) A (getMethod v "read" p) R E s:=by
 obtain⟨F,FD,G,LC,cG,LL,pm,ctv,mF,q,rfl,hLL,h2,h3,h4,h5,h6⟩:=c6n g hs hkc r;obtain⟨LL',us,e',hp,hr⟩:=g.mus kl _ _ hl hLL;obtain⟨rfl,rfl⟩:=List.cons.inj e';refine c9r h2 h3 rfl (hR G _ _ _ h4 rfl fun A' one tk hh' hd'=>?_);refine d1u (s:={ s with toks:=tk}) ok hh' hd' h4 h6 (hbig.keeps g.keep) h5 hp (by rw [hr.length];exact hz) (fun e h' tk' t kp=>?_) (fun y ys e h' tk' kp hp'=>?_)
 ·subst e
  have eL:L=[]:=by
   induction L using List.casesOn with
   | nil=>rfl
   | cons a b=>simp [Reps]at hr
  obtain⟨g',go⟩:=g.all fun a o zz e=>kp a o e;exact h0 eL h' tk' t g' go
 ·rcases List.eq_nil_or_concat L with rfl | ⟨L',x,rfl⟩
  ·simp only [Reps]at hr;subst hr;simp at e
  ·simp only [List.concat_eq_append]at hl hr h1 hz
   obtain⟨ys',y',e2,r1,r2⟩:=c9l hr;rw [e2]at e;obtain⟨rfl,e3⟩:=List.append_inj' e rfl;simp only [List.cons.injEq,and_true]at e3;subst e3;have hin:LL∈as.flatten:=List.mem_flatten.mpr ⟨[LL],List.mem_of_getElem? hLL,by simp⟩;obtain⟨g',go⟩:=g.upd (h':=h') (m:=.list L') hLL (List.getElem?_eq_some_iff.mp hl).1 (fun b o hb e=>kp b o (by simpa using hb) e) (fun b hb=>by
    rw [List.mem_singleton]at hb;subst hb;obtain⟨m,e'⟩:=hp';exact⟨_,e'⟩) fun ks=>⟨LL,ys',rfl,hp',r1.ks ks⟩
   exact h1 L' x rfl h' tk' y' g' go (r2.ks fun b o hb e' zz=>kp b o (fun q=>hb (q▸hin)) e')
end
end
section
section
variable{prog:Program}{w:World}{base:Heap}{B:LB base}{lm:LamT}{P:Addr}{μ:Mu}{as:List (List Addr)}{A:Around}{E:Value->Shared->Prop}{s:Shared}{Γ:G}{env:Env}{ρ:Rho}
theorem c7w(S:Snd prog w (a1f B lm P) base Γ)(nd:∀(i j:Nat) (x:Str),Γ.tbl[i]?=some x->Γ.tbl[j]?=some x->i=j)(ok:b7t lm)(hbig:base.NoLimit)(rm:Room A 5)(c:ScR env.scope env){k kp ks kl kc j kd:Nat}{n:Int}{L:List V}{p1 p2 p3 p4 p5:Pos}{Q:Value->Shared->Prop}
  (hv:a5o env.scope "self" = true) (hx:nid Γ.tbl "self" = some j) (hρ:ρ.lookup j=some (.mut k)) (hline:(p3.endLine==p5.line)=true)
  (hk:μ[k]?=some (.obj [kp,ks] n)) (hn:1<=n) (hs:μ[ks]?=some (.obj [kl,kc] (-3))) (hkc:μ[kc]?=some (.obj [] (-6))) (hl:μ[kl]?=some (.list L)) (hz:L.length<=big)
  (er:ER Γ.tbl base env ρ as s.heap) (g:GR (a1f B lm P) base μ as s.heap)
  (h0:L=[]->∀ h' tk t,GR (a1f B lm P) base μ as h'->Go as s.heap as h'->Q (.str "" t) { s with heap:=h',toks:=tk})
  (h1:∀ L' x,L=L'++[x]->∀ h' tk y,GR (a1f B lm P) base (μ.set kl (.list L')) as h'->Go as s.heap as h'->Rep h' as x y->Q y { s with heap:=h',toks:=tk}) :
  wpAny (model prog w) A (eval (.Call (.Attribute (.Attribute (.Name "self" p1) "instream" p2) "read" p3) [.Constant (.int 1) kd p4] [] p5) env) Q E s:=by
 have hb1:attributeBase (.Attribute (.Name "self" p1) "instream" p2) "read" env (eval (.Attribute (.Name "self" p1) "instream" p2) env)=eval (.Attribute (.Name "self" p1) "instream" p2) env:=rfl
 rw [arm_eval_Call,hb1];refine wpAny_bind (Attribute_any_ (wpAny_Name (c0g er hx hv (by decide) hρ fun u ru=>?_) (by decide)) rfl);obtain⟨X,D,PB,F,mA,rfl,_,hr,I,La⟩:=a3z g hk hn ru;obtain⟨_,⟨q,hF⟩⟩:=b4g hr;refine a7y (B:=B) g.keep I (by simp) La.stream rfl ?_;refine wpAny_bind (wpAny_standAt ?_);have few:methodCallForm ([(.Constant (.int 1) kd p4:Expr)].length+([]:List Keyword).length) (backTo p5 (starEach [.Constant (.int 1) kd p4] env)) (backToKw p5 (keywordEach [] env))=true:=rfl;unfold methodCall;rw [few];refine wpAny_bind (wpAny_holding (c8e (s:={ s with toks:=s.toks+1}) (Q:=Q) ok hbig rm.calm (by have:=rm.depth;omega) g hs hkc hl hz (⟨F,q,hF,rfl⟩) h0 h1 fun G o fd tk hG hfd hcall=>?_));show wpAny (model prog w) A (methodCallPos true (.Attribute (.Name "self" p1) "instream" p2) env p3 p5 >>= fun cp=>callWith cp (.ref G) [] (backTo p5 (starEach [.Constant (.int 1) kd p4] env)) []) Q E _
 have hpos:methodCallPos true (.Attribute (.Name "self" p1) "instream" p2) env p3 p5=pure p5:=by
  unfold methodCallPos;rw [if_pos (by simpa using hline)]
 rw [hpos];refine wpAny_bind (wpAny_pure ?_);refine Calls.callWith_function (o:=o) (fd:=fd) ?_;refine evalArgs_plain (wpAny_items_cons (wpAny_Constant_int ?_) rfl);exact wpAny_items_nil ⟨⟨hG,hfd⟩,hcall A _ _ rm.calm (by have:=rm.depth;omega)⟩
end
end
section
section
variable{prog:Program}{w:World}{base:Heap}{B:LB base}{lm:LamT}{P:Addr}{Γ:G}
theorem e4c(hoff:Γ.lexOn=false)(n:Nat):a5w prog w (a1f B lm P) base Γ n where
 new:=fun h=>nt (hoff.symm.trans h)
 fit:=fun zz zz zz zz zz zz zz zz zz zz zz zz zz zz zz h=>nt (hoff.symm.trans h)
 line:=fun x a p q r c kd j k is m A E env ρ μ as s Q h1 h2 h3 h4 h5 h6 h7 h8 rm er g hQ=>c5y h1 h2 h3 h4 h5 h6 h7 h8 er g hQ
 draw:=fun zz zz zz zz zz zz zz zz zz zz zz h=>nt (hoff.symm.trans h)
 self:=fun zz zz zz zz zz zz zz zz zz zz zz h=>nt (hoff.symm.trans h)
 lets:=fun zz zz zz zz zz zz zz zz zz zz zz zz zz h=>nt (hoff.symm.trans h)
theorem c7h{a b:List Nat}(ha:PyData.strOk ⟨a.toArray⟩=true)(hb:PyData.strOk ⟨b.toArray⟩=true):eqv (.str a) (.str b)=some (decide (a=b)):=by
 have e:eqv (.str a) (.str b)=some ((PyData.str ⟨a.toArray⟩).eqv (PyData.str ⟨b.toArray⟩)):=by
  have h:∀ x:List Nat,b3g (.str x)=some (PyData.str ⟨x.toArray⟩):=fun x=>by simp [b3g]
  unfold eqv;rw [h,h];simp [SeqAt.shaped,PyData.canLay0,PyData.depth,ha,hb]
 rw [e];congr 1;by_cases h:a=b
 ·subst h;simp [PyData.eqv]
 ·simp [PyData.eqv,h]
noncomputable def d7i(js jc:Nat):List Mine.S:=[.ite (.cmp .Eq (.loc jc) (.cst (.str [10]))) [.line js] [],.ret (.loc jc)]
theorem d3o{js jc k kp ks:Nat}{n:Int}{μ:Mu}{c:List Nat}(hne:js≠jc)(hk:μ[k]?=some (.obj [kp,ks] n))(hn:1<=n)(hc:PyData.strOk ⟨c.toArray⟩=true) :
  ∃ ρ',a3q (a0d Γ 6) (d7i js jc) (put jc (.str c) [(js,.mut k)]) μ=some (.ret (.str c),ρ',if c=[10]then μ.set k (.obj [kp,ks] (n+1))else μ):=by
 have l1:(put jc (.str c) [(js,V.mut k)]).lookup jc=some (.str c):=by rw [a0b,if_pos rfl]
 have l2:(put jc (.str c) [(js,V.mut k)]).lookup js=some (.mut k):=by rw [a0b,if_neg hne];simp
 generalize put jc (.str c) [(js,V.mut k)]=ρ at l1 l2;have e1:ev Γ 6 (.cmp .Eq (.loc jc) (.cst (.str [10]))) ρ μ=some (.bool (decide (c=[10])),μ):=by
  have h10:PyData.strOk ⟨[10].toArray⟩=true:=by decide +kernel
  show(match (ρ.lookup jc).map (·,μ)with
   | some (u,μ)=>(a0z .Eq (a1n μ u) (.str [10])).map fun b=>((.bool b:V),μ)
   | .none=>.none)=_
  rw [l1];show(eqv (.str c) (.str [10])).map (fun b=>((.bool b:V),μ))=_;rw [c7h hc h10];rfl
 have e2:∀ μ',ev Γ 6 (.loc jc) ρ μ'=some (.str c,μ'):=fun μ'=>by
  show(ρ.lookup jc).map (·,μ')=_;rw [l1];rfl
 refine⟨ρ,?_⟩;have e3:a0d Γ 6 (.ite (.cmp .Eq (.loc jc) (.cst (.str [10]))) [.line js] []) ρ μ=some (.next,ρ,if c=[10]then μ.set k (.obj [kp,ks] (n+1))else μ):=by
  show(match ev Γ 6 (.cmp .Eq (.loc jc) (.cst (.str [10]))) ρ μ with
   | some (v,μ)=>match a3a (a1n μ v)with
    | some true=>exec Γ 6 [.line js] ρ μ
    | some false=>exec Γ 6 [] ρ μ
    | .none=>.none
   | .none=>.none)=_
  rw [e1];by_cases h:c=[10]
  ·subst h
   show(match (match ρ.lookup js with
    | some (.mut k)=>match μ[k]? with
     | some (.obj is m)=>if 1<=m then some (F.next,ρ,μ.set k (.obj is (m+1)))else .none
     | _=>.none
    | _=>.none)with
    | some (.next,ρ,μ)=>some (F.next,ρ,μ)
    | x=>x)=_
   rw [l2];show(match (match μ[k]? with
     | some (.obj is m)=>if 1<=m then some (F.next,ρ,μ.set k (.obj is (m+1)))else .none
     | _=>.none)with
    | some (.next,ρ,μ)=>some (F.next,ρ,μ)
    | x=>x)=_
   rw [hk];show(match (if 1<=n then some (F.next,ρ,μ.set k (.obj [kp,ks] (n+1)))else .none)with
    | some (.next,ρ,μ)=>some (F.next,ρ,μ)
    | x=>x)=_
   rw [if_pos hn,if_pos rfl]
  ·rw [if_neg h,decide_eq_false h];rfl
 show(match a0d Γ 6 (.ite (.cmp .Eq (.loc jc) (.cst (.str [10]))) [.line js] []) ρ μ with
  | some (.next,ρ,μ)=>a3q (a0d Γ 6) [.ret (.loc jc)] ρ μ
  | x=>x)=_
 rw [e3];show(match (match ev Γ 6 (.loc jc) ρ _ with
   | some (v,μ)=>some (F.ret v,ρ,μ)
   | .none=>.none)with
  | some (.next,ρ,μ)=>some (F.next,ρ,μ)
  | x=>x)=_
 rw [e2]
end
end
section
structure d9z{base:Heap}(B:LB base)(tbl:List Str)(js jc:Nat) where
 o:Obj
 fd:FuncData
 p1:Pos
 p2:Pos
 p3:Pos
 p4:Pos
 p5:Pos
 p6:Pos
 p7:Pos
 kd:Nat
 rest:List Stmt
 at':base.get? B.fr=some o
 data:o.data=.func fd
 code:base.CodeRec fd.code fd.qualname
 body:fd.body=.stmts (.Assign [.Name "ch" p6] (.Call (.Attribute (.Attribute (.Name "self" p1) "instream" p2) "read" p3) [.Constant (.int 1) kd p4] [] p5) p7::rest)
 line:(p3.endLine==p5.line)=true
 glob:fd.globals=mainGlobals
 built:fd.builtins=builtinsNs
 clos:fd.closure=[]
 coro:fd.scope.isCoroutine=false
 gen:fd.scope.isGenerator=false
 kind:fd.scope.kind=.function
 bind:∀ vals:List Value,vals.length=[("self":Str)].length->bindArgs fd ⟨vals,[]⟩=pure ([("self":Str)].zip vals)
 self:nid tbl "self" = some js
 ch:nid tbl "ch" = some jc
 ne:js≠jc
 kself:fd.scope.names.lookup ("self":Str)=some NameKind.local
 kch:fd.scope.names.lookup ("ch":Str)=some NameKind.local
 nofree:∀ p∈fd.scope.names,p.2≠.free
 own:∀ x,a1g fd.scope x=true->(nid tbl x).isSome=true
 calm:∀ L,interactive (callEnvC fd L B.fr)=false
 tr:∃ mt k,trS.trSs tbl mt k fd.scope rest=some (d7i js jc)
section
variable{prog:Program}{w:World}{base:Heap}{B:LB base}{lm:LamT}{P:Addr}{Γ:G}{μ μ':Mu}
theorem a9o(S:Snd prog w (a1f B lm P) base Γ)(hoff:Γ.lexOn=false)(nd:∀(i j:Nat) (x:Str),Γ.tbl[i]?=some x->Γ.tbl[j]?=some x->i=j)(ok:b7t lm)(hbig:base.NoLimit){js jc:Nat}(R:d9z B Γ.tbl js jc){k:Nat}{c:List Nat}
  (h:a0w μ k=some (c,μ')) (hlen:μ'.length=μ.length):CodeOK prog w (a1f B lm P) base 11 (.ref B.fr) [.mut k] μ (.str c) μ':=by
 have tkm:μ'.take μ.length=μ':=by rw [← hlen,List.take_length]
 refine b5f h fun kp ks kl kc n L hk hn hs hl hkc hz fin=>?_;obtain⟨mt,kk,tr⟩:=R.tr;have main:∀(μ₁:Mu),PyData.strOk ⟨c.toArray⟩=true->μ₁[k]?=some (.obj [kp,ks] n)->(if c=[10]then μ₁.set k (.obj [kp,ks] (n+1))else μ₁)=μ' →
   (∀(t:Tok),L=[]->c=[]/\μ₁=μ)->(∀ L' x,L=L'++[x]->x=.str c/\μ₁=μ.set kl (.list L'))->CodeOK prog w (a1f B lm P) base 11 (.ref B.fr) [.mut k] μ (.str c) μ':=by
  intro μ₁ hc hkI hμI c0 c1;obtain⟨ρ₂,hρJ⟩:=d3o (Γ:=Γ) (μ:=μ₁) R.ne hkI hn hc;rw [hμI]at hρJ;refine d9c (tbl:=Γ.tbl) (v:=.ret (.str c)) (μ₂:=μ') (ρ₂:=ρ₂) (names:=["self"]) (is:=[js]) hbig R.at' R.data R.code R.body R.glob R.built R.clos R.coro R.gen R.kind R.bind (by simp only [a1k,R.self]) (by decide) (fun x hx=>by rw [List.mem_singleton]at hx;subst hx;exact .inl R.kself) R.nofree rfl ?_ (.inr hlen) tkm.symm rfl
  intro A E Lc as s Q rm big er g hQ;have hv:a5o (callEnvC R.fd Lc B.fr).scope "self" = true:=by
   show a5o R.fd.scope "self" = true
   unfold a5o a2e;rw [R.kself]
  have hch:a1g (callEnvC R.fd Lc B.fr).scope "ch" = true:=by
   show a1g R.fd.scope "ch" = true
   unfold a1g a2e;rw [R.kch]
  have rest:∀(h':Heap) (tk:Nat) (y:Value),GR (a1f B lm P) base μ₁ as h'->Go as s.heap as h'->Rep h' as (.str c) y →
    wpAny (model prog w) A (storeName (callEnvC R.fd Lc B.fr) "ch" y) (fun zz s'=>wpAny (model prog w) A (execs R.rest (callEnvC R.fd Lc B.fr)) Q E s') E { s with heap:=h',toks:=tk}:=by
   intro h' tk y g' go' ry;refine b0o (s:={ s with heap:=h',toks:=tk}) nd R.ch hch (er.go go') g' ry fun hJ tkJ gJ erJ gsJ ksJ=>?_;exact c1b S nd (e4c hoff 6) (a6v S nd (e4c hoff) 6) R.own (R.calm _) (rm.less (by decide)) ⟨fun zz q=>q,fun zz q=>q,fun zz q=>q⟩ kk R.rest (d7i js jc) _ ρ₂ μ₁ μ' as { s with heap:=hJ,toks:=tkJ} (.ret (.str c)) Q tr erJ gJ hρJ (hQ.after (go'.toS.trans gsJ (er.go go').there) erJ.there)
  refine wpAny_execs_cons (a5s (c7w S nd ok hbig (rm.less (by decide)) ⟨fun zz q=>q,fun zz q=>q,fun zz q=>q⟩ hv R.self (by simp [List.zip]) R.line hk hn hs hkc hl hz er g (fun e h' tk t g' go'=>?_) (fun L' x e h' tk y g' go' ry=>?_)) rfl)
  ·obtain⟨rfl,e2⟩:=c0 t e
   subst e2;exact rest h' tk _ g' go' ⟨t,rfl⟩
  ·obtain⟨rfl,e2⟩:=c1 L' x e
   subst e2;exact rest h' tk y g' go' ry
 have hkkl:k≠kl:=fun q=>by rw [q,hl]at hk;cases hk
 rcases fin with⟨hlast,rfl,rfl⟩ | ⟨ch,hlast,hlt,rfl,fin⟩
 ·have eL:L=[]:=by simpa using hlast
  refine main _ (by decide +kernel) hk (if_neg (by decide)) (fun zz zz=>⟨rfl,rfl⟩) fun L' x e=>?_;rw [eL]at e;simp at e
 ·obtain⟨LO,hLO⟩:∃ LO,L=LO++[.str [ch]]:=by
   rcases List.eq_nil_or_concat L with q | ⟨LO,x,q⟩
   ·rw [q]at hlast;exact ns hlast
   ·rw [q]at hlast
    simp at hlast;subst hlast;exact⟨LO,by rw [q];simp⟩
  have hd:L.dropLast=LO:=by rw [hLO];simp
  rw [hd]at fin;have hkI:(μ.set kl (.list LO))[k]?=some (.obj [kp,ks] n):=by rw [List.getElem?_set_ne (fun z=>hkkl z.symm)];exact hk
  have sok:PyData.strOk ⟨[ch].toArray⟩=true:=by
   unfold PyData.strOk;simp [hlt]
  refine main _ sok hkI ?_ (fun zz e=>by rw [hLO]at e;simp at e) fun L' x e=>?_
  ·rcases fin with⟨h10,e⟩ | ⟨h10,e⟩
   ·rw [e,h10,if_pos rfl]
   ·rw [e,if_neg (by simpa using h10)]
  ·rw [hLO]at e
   obtain⟨rfl,e3⟩:=List.append_inj' e rfl;simp only [List.cons.injEq,and_true]at e3;exact⟨e3.symm,rfl⟩
end
end
section
namespace FF
theorem slot_ci_next:Slot "callable_iterator" "__next__" "callable_iterator.__next__":=
 .of (owner:="callable_iterator") (n:="__next__") (by rw [typeLookup_type,builtinLookup_eq_fast];kernel_rfl) (by decide +kernel) (by decide +kernel) (by decide +kernel)
  (by first | exact .inl (by decide +kernel) | exact .inr (by decide +kernel)) (by rw [isSubtype_type];kernel_rfl)
theorem entry_ci_next:entryFor table "callable_iterator.__next__" = some Builtin.«callable_iterator.__next__»:=entryFor_of_tree (by kernel_rfl)
theorem args_ci_next (a:Value):argsOk "callable_iterator.__next__" ⟨[a],[]⟩:=by unfold argsOk;kernel_rfl
end FF
section
variable{prog:Program}{w:World}{A:Around}{E:Value->Shared->Prop}{s:Shared}
theorem d3j{fi:Addr}{Q:Option Value->Shared->Prop}(hh:A.handled=.none)(ho:s.heap.get? fi=some (a7k .none .none true))
  (hQ:∀ h' tk,(∀ b o,s.heap.get? b=some o->h'.get? b=some o)->Q .none { s with heap:=h',toks:=tk}):wpAny (model prog w) A (pyNext (.ref fi)) Q E s:=by
 have hT:s.TypeIs (.ref fi) "callable_iterator":=⟨_,ho,rfl⟩
 unfold pyNext;refine wpAny_bind (wpAny_attempt (wpAny_callSpecial?_slot (name:=Str.ofString "__next__") hT FF.slot_ci_next
  (wpAny_call_entry FF.slot_ci_next hT FF.entry_ci_next ?_ (FF.args_ci_next _))))
 show wpAny _ _ (field (.ref fi) 2 >>= _) _ _ s;refine wpAny_bind (wpAny_field ho rfl (x:=.bool true) rfl ?_);show wpAny _ _ (if((Value.bool true==Value.bool true)=true)then _ else _) _ _ s;rw [if_pos (by rfl)];refine wpAny_bind (wpAny_rule ?_);refine wpAny_bind ?_;show wpAny _ _ (newExc (.type "StopIteration") [] >>= _) _ _ _
 refine wpAny_bind ?_;simp only [newExc,newTuple];refine wpAny_bind (wpAny_newObj_type ?_ (by size_fits));refine wpAny_bind (m:=firstArgMember _ _) (wpAny_of_eq (a:=Value.none) (by first | rfl | (simp only [firstArgMember];rfl)) ?_)
 refine wpAny_newObj_type ?_ (by size_fits);unfold raiseNew;refine wpAny_bind (wpAny_handled ?_);rw [show A.in1.handled=none from hh];refine wpAny_bind (wpAny_pure (wpAny_throw ?_));refine wpAny_bind (wpAny_isInstance (T:="StopIteration") (b:=true) ⟨_,Heap.get?_push_size _ rfl,rfl⟩ isSubtype_stop ?_)
 exact wpAny_pure (hQ _ _ fun b o e=>Heap.get?_push_of_some _ (Heap.get?_push_of_some _ e))
end
end
section
section
variable{M:Model}{A:Around}{E:Value->Shared->Prop}{s:Shared}
theorem b7n{Γ:Ctx}{p:Pos}{E:Value->Pos->Shared->Prop}(f:Value)(pos:List Value)(Q:Value->Pos->Shared->Prop) :
  Sem.wp M Γ (callBorrowed f pos) Q E p s=wpCode M (Γ.enter (.call f ⟨pos,[]⟩) Option.none p) (fun r s'=>match r with | .ok (.ret v)=>Q v p s' | .ok _=>False | .error e=>E e p s') p s:=by
 unfold callBorrowed;rw [Sem.wp];congr 1;funext r s';cases r with
 | error e=>rfl
 | ok f=>cases f<;>rfl
theorem a7z{f:Value}{pos:List Value}{Q:Value->Shared->Prop}
  (hc:codeAny M A (.call f ⟨pos,[]⟩) (fun r s'=>match r with | .ok (.ret v)=>Q v s' | .ok _=>False | .error e=>E e s') s):wpAny M A (callBorrowed f pos) Q E s:=fun Γ p hΓ=>by
 rw [b7n];exact hc _ p rfl (hΓ.enter _ Option.none p (by intro x;exact ns x))
end
end
section
section
variable{prog:Program}{w:World}{A:Around}{E:Value->Shared->Prop}{s:Shared}
theorem a7v{M:Model}{bm fr:Addr}{X:Value}{of:Obj}{fd:FuncData}{Q:Bool->Shared->Prop}(hb:s.heap.get? bm=some (methodObj (.ref fr) X))(hf:s.heap.get? fr=some of)(hd:of.data=.func fd)(h:Q true s):wpAny M A (borrowsExactly (.ref bm)) Q E s:=by
 unfold borrowsExactly;refine wpAny_bind (wpAny_load hb ?_);show wpAny M A (if((Value.type "method" == Value.type "method")=true)then _ else _) Q E s
 rw [if_pos (by rfl)];show wpAny M A (load fr >>= _) Q E s;refine wpAny_bind (wpAny_load hf ?_);rw [hd];exact wpAny_pure h
theorem b5s{bm fr:Addr}{X:Value}{of:Obj}{fd:FuncData}{Q:Value->Shared->Prop}(hb:s.heap.get? bm=some (methodObj (.ref fr) X))(hf:s.heap.get? fr=some of)(hd:of.data=.func fd)
  (hc:codeAny (model prog w) A (.call (.ref fr) ⟨[X],[]⟩) (fun r s'=>match r with | .ok (.ret v)=>Q v s' | .ok _=>False | .error e=>E e s') s):wpAny (model prog w) A (callOutOfASlot (.ref bm)) Q E s:=by
 unfold callOutOfASlot;refine wpAny_bind (a7v hb hf hd ?_);rw [if_pos rfl];exact a7z (ks_codeAny_call_bound hb hc)
end
end
section
section
variable{prog:Program}{w:World}{A:Around}{E:Value->Shared->Prop}{s:Shared}
theorem c9g {fi bm fr:Addr} {X:Value} {of:Obj} {fd:FuncData} {t:Tok} {K:Str->Heap->Nat->Tok->Prop} {Q:Option Value->Shared->Prop} (ho:s.heap.get? fi=some (a7k (.ref bm) (.str "" t) false)) (hb:s.heap.get? bm=some (methodObj (.ref fr) X)) (hf:s.heap.get? fr=some of) (hd:of.data=.func fd)
  (hcall:∀ R:Result->Shared->Prop,(∀ c h' tk u t',K c h' tk u->h'.get? fi=some (a7k (.ref bm) (.str "" t') false)->c ≠ "" -> R (.ok (.ret (.str c u))) { s with heap:=h',toks:=tk})->codeAny (model prog w) A.in1 (.call (.ref fr) ⟨[X],[]⟩) R s)
  (hQ:∀ c h' tk tk' u,K c h' tk u->Q (some (.str c u)) { s with heap:=h',toks:=tk'}):wpAny (model prog w) A (pyNext (.ref fi)) Q E s:=by
 have hT:s.TypeIs (.ref fi) "callable_iterator":=⟨_,ho,rfl⟩
 unfold pyNext;refine wpAny_bind (wpAny_attempt (wpAny_callSpecial?_slot (name:=Str.ofString "__next__") hT FF.slot_ci_next
  (wpAny_call_entry FF.slot_ci_next hT FF.entry_ci_next ?_ (FF.args_ci_next _))))
 show wpAny _ _ (field (.ref fi) 2 >>= _) _ _ s;refine wpAny_bind (wpAny_field ho rfl (x:=.bool false) rfl ?_);show wpAny _ _ (if((Value.bool false==Value.bool true)=true)then _ else _) _ _ s;rw [if_neg (by decide)];show wpAny _ _ (field (.ref fi) 0 >>= _) _ _ s;refine wpAny_bind (wpAny_field ho rfl (x:=.ref bm) rfl ?_);refine wpAny_bind (wpAny_attempt (b5s hb hf hd (hcall _ fun c h' tk u t' k ho' hc=>?_)));show wpAny _ _ (field (.ref fi) 2 >>= _) _ _ _;refine wpAny_bind (wpAny_field ho' rfl (x:=.bool false) rfl ?_);show wpAny _ _ (if((Value.bool false==Value.bool true)=true)then _ else _) _ _ _;rw [if_neg (by decide)];show wpAny _ _ (field (.ref fi) 1 >>= _) _ _ _;refine wpAny_bind (wpAny_field ho' rfl (x:=.str "" t') rfl ?_)
 refine wpAny_bind (wpAny_holding (wpAny_eqBool_str ?_));rw [show decide (("":Str)=c)=false from decide_eq_false (fun q=>hc q.symm)]
 exact wpAny_pure ⟨_,rfl,wpAny_pure (hQ _ _ _ _ _ k)⟩
end
end
section
section
variable{prog:Program}{w:World}{A:Around}{E:Value->Shared->Prop}{s:Shared}
theorem b7y {fi bm fr:Addr} {X:Value} {of:Obj} {fd:FuncData} {t:Tok} {K:Heap->Nat->Prop} {Q:Option Value->Shared->Prop} (hh:A.handled=.none) (ho:s.heap.get? fi=some (a7k (.ref bm) (.str "" t) false)) (hb:s.heap.get? bm=some (methodObj (.ref fr) X)) (hf:s.heap.get? fr=some of) (hd:of.data=.func fd)
  (hcall:∀ R:Result->Shared->Prop,(∀ h' tk u t',K h' tk->h'.get? fi=some (a7k (.ref bm) (.str "" t') false)->h'.get? bm=some (methodObj (.ref fr) X)->h'.get? fr=some of->R (.ok (.ret (.str "" u))) { s with heap:=h',toks:=tk})->codeAny (model prog w) A.in1 (.call (.ref fr) ⟨[X],[]⟩) R s)
  (hQ:∀ h' tk h'' tk',K h' tk->(∀ b o,b≠fi->h'.get? b=some o->h''.get? b=some o)->h''.get? fi=some (a7k .none .none true)->Q .none { s with heap:=h'',toks:=tk'}):wpAny (model prog w) A (pyNext (.ref fi)) Q E s:=by
 have hT:s.TypeIs (.ref fi) "callable_iterator":=⟨_,ho,rfl⟩
 unfold pyNext;refine wpAny_bind (wpAny_attempt (wpAny_callSpecial?_slot (name:=Str.ofString "__next__") hT FF.slot_ci_next
  (wpAny_call_entry FF.slot_ci_next hT FF.entry_ci_next ?_ (FF.args_ci_next _))))
 show wpAny _ _ (field (.ref fi) 2 >>= _) _ _ s;refine wpAny_bind (wpAny_field ho rfl (x:=.bool false) rfl ?_);show wpAny _ _ (if((Value.bool false==Value.bool true)=true)then _ else _) _ _ s;rw [if_neg (by decide)];show wpAny _ _ (field (.ref fi) 0 >>= _) _ _ s;refine wpAny_bind (wpAny_field ho rfl (x:=.ref bm) rfl ?_);refine wpAny_bind (wpAny_attempt (b5s hb hf hd (hcall _ fun h' tk u t' k ho' hb' hf'=>?_)));show wpAny _ _ (field (.ref fi) 2 >>= _) _ _ _;refine wpAny_bind (wpAny_field ho' rfl (x:=.bool false) rfl ?_);show wpAny _ _ (if((Value.bool false==Value.bool true)=true)then _ else _) _ _ _;rw [if_neg (by decide)];show wpAny _ _ (field (.ref fi) 1 >>= _) _ _ _;refine wpAny_bind (wpAny_field ho' rfl (x:=.str "" t') rfl ?_)
 refine wpAny_bind (wpAny_holding (wpAny_eqBool_str ?_));rw [show decide ((("":Str)) = "")=true from decide_eq_true rfl]
 refine wpAny_bind (wpAny_rule ?_);refine wpAny_bind ?_;show wpAny _ _ (field (.ref fi) 0 >>= fun old=>slotLetsGo "callable_iterator.__next__" old _ >>= fun zz=>setField (.ref fi) 0 .none >>= fun zz=>setField (.ref fi) 1 .none >>= fun zz=>setField (.ref fi) 2 (.bool true)) _ _ _
 refine wpAny_bind (wpAny_field ho' rfl (x:=.ref bm) rfl ?_);refine wpAny_bind ?_;unfold slotLetsGo;refine wpAny_bind (a7v hb' hf' hd ?_);rw [if_pos rfl];refine wpAny_pure ?_;refine wpAny_bind (wpAny_setField_rec ho' (by simp) fun h1 e1 s1=>?_);refine wpAny_bind (wpAny_setField_rec e1 (by simp) fun h2 e2 s2=>?_);refine wpAny_setField_rec e2 (by simp) fun h3 e3 s3=>?_;show wpAny _ _ (newExc (.type "StopIteration") [] >>= _) _ _ _
 refine wpAny_bind ?_;simp only [newExc,newTuple];refine wpAny_bind (wpAny_newObj_type ?_ (by size_fits));refine wpAny_bind (m:=firstArgMember _ _) (wpAny_of_eq (a:=Value.none) (by first | rfl | (simp only [firstArgMember];rfl)) ?_)
 refine wpAny_newObj_type ?_ (by size_fits);simp only [raiseNew];refine wpAny_bind (wpAny_handled ?_);rw [show A.in1.handled=none from hh];refine wpAny_bind (wpAny_pure (wpAny_throw ?_));refine wpAny_bind (wpAny_isInstance (T:="StopIteration") (b:=true) ⟨_,Heap.get?_push_size _ rfl,rfl⟩ isSubtype_stop ?_)
 refine wpAny_pure (hQ _ _ _ _ k (fun b o hb e=>Heap.get?_push_of_some _ (Heap.get?_push_of_some _ ((s3.2 b hb).trans ((s2.2 b hb).trans ((s1.2 b hb).trans e))))) (Heap.get?_push_of_some _ (Heap.get?_push_of_some _ ?_)));rw [e3];rfl
end
end
section
section
variable{prog:Program}{w:World}{base:Heap}{B:LB base}{lm:LamT}{P:Addr}{μ:Mu}{as:List (List Addr)}{A:Around}{E:Value->Shared->Prop}{s:Shared}
theorem b6e{h:Heap}{k:Nat}{a:Addr}{q:List Addr}{is:List Nat}{m:Int}(g:GR (a1f B lm P) base μ as h)(ha:as[k+1]?=some (a::q))(hk:μ[k]?=some (.obj is m))(hm:m = -2∨m = -4):∃ x y e,h.get? a=some (a7k x y e):=by
 obtain⟨rs,e1,e2⟩:=g.mus k _ _ hk ha;rcases e2 with⟨z,_⟩ | ⟨z,_⟩ | ⟨_,x⟩ | ⟨_,x⟩ | ⟨z,_⟩ | ⟨z,_⟩
 ·omega
 ·omega
 ·obtain⟨fi,bm,X,t,ea,_,h1,_⟩:=x
  obtain⟨rfl,_⟩:=List.cons.inj ea;exact⟨_,_,_,h1⟩
 ·obtain⟨fi,bm,ea,h1⟩:=x
  obtain⟨rfl,_⟩:=List.cons.inj ea;exact⟨_,_,_,h1⟩
 ·omega
 ·omega
theorem d8d{k:Nat}{a:Addr}{q:List Addr}{is:List Nat}{m:Int}{tg:Expr}{v:Value}{Q:Unit->Shared->Prop}(g:GR (a1f B lm P) base μ as s.heap)(ha:as[k+1]?=some (a::q))(hk:μ[k]?=some (.obj is m))(hm:m = -2∨m = -4)(ht:b6t tg=true)(h:Q () s):wpAny (model prog w) A (letOwnedTupleGo tg (.ref a) v) Q E s:=by
 obtain⟨x,y,e,ho⟩:=b6e g ha hk hm;exact a1m ht ho rfl rfl (by decide) h
end
end
section
namespace FF
theorem slot_ci_iter:Slot "callable_iterator" "__iter__" "callable_iterator.__iter__":=
 .of (owner:="callable_iterator") (n:="__iter__") (by rw [typeLookup_type,builtinLookup_eq_fast];kernel_rfl) (by decide +kernel) (by decide +kernel) (by decide +kernel)
  (by first | exact .inl (by decide +kernel) | exact .inr (by decide +kernel)) (by rw [isSubtype_type];kernel_rfl)
theorem entry_ci_iter:entryFor table "callable_iterator.__iter__" = some Builtin.«dict_keyiterator.__iter__»:=
 entryFor_alias (id':="dict_keyiterator.__iter__") (by kernel_rfl) rfl (by decide +kernel) (by kernel_rfl)
theorem args_ci_iter (a:Value):argsOk "callable_iterator.__iter__" ⟨[a],[]⟩:=by unfold argsOk;kernel_rfl
end FF
section
variable{prog:Program}{w:World}{base:Heap}{B:LB base}{lm:LamT}{P:Addr}{μ:Mu}{as:List (List Addr)}{A:Around}{E:Value->Shared->Prop}{s:Shared}
theorem d9p{k:Nat}{a:Addr}{q:List Addr}{is:List Nat}{m:Int}{Q:Value->Shared->Prop}(g:GR (a1f B lm P) base μ as s.heap)(ha:as[k+1]?=some (a::q))(hk:μ[k]?=some (.obj is m))(hm:m = -2∨m = -4)(h:Q (.ref a) s):wpAny (model prog w) A (pyIter (.ref a)) Q E s:=by
 obtain⟨x,y,e,ho⟩:=b6e g ha hk hm;have hT:s.TypeIs (.ref a) "callable_iterator":=⟨_,ho,rfl⟩
 refine wpAny_pyIter_slot hT FF.slot_ci_iter (wpAny_call_entry FF.slot_ci_iter hT FF.entry_ci_iter ?_ (FF.args_ci_iter _));show wpAny _ _ (ret (.ref a)) _ _ s;exact wpAny_pure ⟨_,rfl,"callable_iterator",_,hT,FF.slot_ci_next.lookup,h⟩
end
end
section
theorem a6z{μ μ':Mu}{k:Nat}{c:List Nat}(h:a0w μ k=some (c,μ')):μ'.length=μ.length/\(c=[]->μ'=μ)/\∃ kp ks n,μ[k]?=some (.obj [kp,ks] n)/\1<=n:=by
 refine b5f h fun kp ks kl kc n L hk hn hs hL hC zz fin=>?_;rcases fin with⟨_,rfl,rfl⟩ | ⟨z,_,_,rfl,⟨_,rfl⟩ | ⟨_,rfl⟩⟩
 ·exact⟨rfl,fun zz=>rfl,kp,ks,n,hk,hn⟩
 ·exact⟨by rw [List.length_set,List.length_set],(by intro e;cases e),kp,ks,n,hk,hn⟩
 ·exact⟨List.length_set,(by intro e;cases e),kp,ks,n,hk,hn⟩
section
variable{prog:Program}{w:World}{base:Heap}{B:LB base}{lm:LamT}{P:Addr}{Γ:G}{μ μ':Mu}{as:List (List Addr)}{A:Around}{E:Value->Shared->Prop}{s:Shared}
theorem d7n{Lx:LxP}{μ μ':Mu}{as as':List (List Addr)}{h h':Heap}(g:GR Lx base μ as h)(g':GR Lx base μ' as' h')(go:Go as h as' h')(hl:μ'.length=μ.length):as'=as:=by
 obtain⟨nw,rfl,_⟩:=go.ext;have h1:=g'.len;have h2:=g.len;rw [List.length_append]at h1;have:nw=[]:=List.eq_nil_of_length_eq_zero (by omega);rw [this,List.append_nil]
theorem d5p{h:Heap}{k kx:Nat}{a:Addr}{q:List Addr}(g:GR (a1f B lm P) base μ as h)(ha:as[k+1]?=some (a::q))(hk:μ[k]?=some (.obj [kx] (-2))) :
  ∃ bm X t r,a::q=[a,bm]/\as[kx+1]?=some (X::r)/\h.get? a=some (a7k (.ref bm) (.str "" t) false)/\h.get? bm=some (methodObj (.ref B.fr) (.ref X)):=by
 obtain⟨rs,e1,e2⟩:=g.mus k _ _ hk ha;rcases e2 with⟨z,_⟩ | ⟨z,_⟩ | ⟨_,x⟩ | ⟨z,_⟩ | ⟨z,_⟩ | ⟨z,_⟩
 ·exact absurd z (by decide)
 ·exact absurd z (by decide)
 ·obtain⟨fi,bm,X,t,ea,rfl,h1,h2⟩:=x
  obtain⟨rfl,rfl⟩:=List.cons.inj ea;unfold b7v at e1;simp only [a1k]at e1;induction hl:as[kx+1]? using Option.casesOn with
  | none=>rw [hl]at e1;simp at e1
  | some l=>
   rw [hl]at e1;induction l using List.casesOn with
   | nil=>simp at e1
   | cons b q=>
    simp at e1;subst e1;exact⟨bm,_,t,q,rfl,rfl,h1,h2⟩
 ·exact absurd z (by decide)
 ·exact absurd z (by decide)
 ·exact absurd z (by decide)
theorem d7a(S:Snd prog w (a1f B lm P) base Γ)(hoff:Γ.lexOn=false)(nd:∀(i j:Nat) (x:Str),Γ.tbl[i]?=some x->Γ.tbl[j]?=some x->i=j)(ok:b7t lm)(hbig:base.NoLimit){js jc:Nat}(R:d9z B Γ.tbl js jc)
  {k:Nat} {a:Addr} {q:List Addr} {r:Option (List Nat)} {Q:Option Value->Shared->Prop} (rm:Room A 12) (g:GR (a1f B lm P) base μ as s.heap) (ha:as[k+1]?=some (a::q)) (h:Mine.draw μ k=some (r,μ'))
  (hQ:∀ h' tk rv,GR (a1f B lm P) base μ' as h'->Go as s.heap as h'->(match r with | .none=>rv=.none | some c=>∃ t,rv=some (.str ⟨c.toArray⟩ t))->Q rv { s with heap:=h',toks:=tk}):wpAny (model prog w) A (pyNext (.ref a)) Q E s:=by
 have rm1:Room A.in1 11:=⟨rm.calm,by have:=rm.depth;show A.depth+11<=900;omega,by have:=rm.units;show A.units+1+10 * 11<=9000;omega⟩;refine c1c h (fun kx cc μ₁ hk hr fin=>?_) fun kx hk e1 e2=>?_
 ·have hrO:=hr
  obtain⟨bm,X,t,qx,eq,hX,h1,h2⟩:=d5p g ha hk;have hfr:=g.keep _ _ R.at';have rX:Reps s.heap as [V.mut kx] [Value.ref X]:=Reps.cons ⟨X,qx,hX,rfl⟩ .nil;have call:∀ {c:List Nat} {μ₁:Mu} {RR:Result->Shared->Prop},a0w μ kx=some (c,μ₁)->(∀ h' tk u,GR (a1f B lm P) base μ₁ as h'->Go as s.heap as h'->(∃ t',h'.get? a=some (a7k (.ref bm) (.str "" t') false))->h'.get? bm=some (methodObj (.ref B.fr) (.ref X))->RR (.ok (.ret (.str ⟨c.toArray⟩ u))) { s with heap:=h',toks:=tk}) →
    codeAny (model prog w) A.in1 (.call (.ref B.fr) ⟨[.ref X],[]⟩) RR s:=by
   intro c μ₁ RR hr hRR;obtain⟨hlen,_,_⟩:=a6z hr;refine a9o S hoff nd ok hbig R hr hlen A.in1 RR s as [.ref X] rm1 g rX fun v as' h' tk g' go' rv=>?_;have:=d7n g g' go' hlen;subst this;obtain⟨u,rfl⟩:=rv;obtain⟨bm',X',t',q',e',hX',i1,i2⟩:=d5p g' ha (a4m hr hk);rw [eq]at e';simp only [List.cons.injEq,and_true,true_and]at e';subst e';rw [hX]at hX';simp only [Option.some.injEq,List.cons.injEq]at hX';obtain⟨rfl,_⟩:=hX';exact hRR h' tk u g' go' ⟨t',i1⟩ i2
  rcases fin with⟨rfl,rfl,rfl⟩ | ⟨hc,rfl,rfl⟩
  ·clear hrO
   refine b7y (K:=fun h' tk=>GR (a1f B lm P) base μ₁ as h'/\Go as s.heap as h') rm.calm h1 h2 hfr R.data (fun RR hRR=>call hr fun h' tk u g' go' i1 i2=>?_) (fun h' tk h'' tk' K hk' hend=>?_)
   ·obtain⟨t',i1⟩:=i1
    exact hRR h' tk u t' ⟨g',go'⟩ i1 i2 (g'.keep _ _ R.at')
   ·obtain⟨g',go'⟩:=K
    have hkl:k<μ₁.length:=(List.getElem?_eq_some_iff.mp (a4m hr hk)).1;have bmo:∃ o,h'.get? bm=some o:=g'.alive bm (List.mem_flatten.mpr ⟨a::q,List.mem_of_getElem? ha,by rw [eq];simp⟩);obtain⟨g'',go''⟩:=g'.upd (h':=h'') (m:=.obj [kx] (-4)) ha hkl (fun b o hb e=>hk' b o (fun z=>hb (by rw [z];simp)) e) (fun b hb=>by
     by_cases z:b=a
     ·exact⟨_,z▸hend⟩
     ·obtain⟨o,e⟩:=g'.alive b (List.mem_flatten.mpr ⟨a::q,List.mem_of_getElem? ha,hb⟩)
      exact⟨o,hk' b o z e⟩) (fun ks=>⟨[X],by unfold b7v;simp only [a1k,hX,Option.bind_some,List.head?_cons],.inr (.inr (.inr (.inl ⟨rfl,a,bm,eq,hend⟩)))⟩)
    exact hQ h'' tk' .none g'' (go'.trans go'') rfl
  ·refine c9g (K:=fun c' h' tk u=>c'=(⟨cc.toArray⟩:Str)/\GR (a1f B lm P) base μ' as h'/\Go as s.heap as h') h1 h2 hfr R.data (fun RR hRR=>call hr fun h' tk u g' go' i1 i2=>?_) (fun c' h' tk tk' u K=>?_)
   ·obtain⟨t',i1⟩:=i1
    refine hRR _ h' tk u t' ⟨rfl,g',go'⟩ i1 fun q=>?_;have:cc=[]:=by
     have e0:(Str.ofString "").cps.toList=[]:=by rfl
     have:=congrArg (fun x:Str=>x.cps.toList) q;rw [e0]at this;simpa using this
    exact hc this
   ·obtain⟨rfl,g',go'⟩:=K
    exact hQ h' tk' _ g' go' ⟨u,rfl⟩
 ·subst e1 e2
  obtain⟨rs,e1,e2⟩:=g.mus k _ _ hk ha;rcases e2 with⟨z,_⟩ | ⟨z,_⟩ | ⟨z,_⟩ | ⟨_,x⟩ | ⟨z,_⟩ | ⟨z,_⟩
  ·exact absurd z (by decide)
  ·exact absurd z (by decide)
  ·exact absurd z (by decide)
  ·obtain⟨fi,bm,ea,h1⟩:=x
   obtain⟨rfl,_⟩:=List.cons.inj ea;refine d3j rm.calm h1 fun h' tk kp=>?_;obtain⟨g',go'⟩:=g.all fun b o zz e=>kp b o e;exact hQ h' tk _ g' go' rfl
  ·exact absurd z (by decide)
  ·exact absurd z (by decide)
end
end
section
open Builtin Builtin.ObjectAttr
namespace FF
theorem slot_fn_get:Slot "function" "__get__" "function.__get__":=
 .of (owner:="function") (n:="__get__") (by rw [typeLookup_type,builtinLookup_eq_fast];kernel_rfl) (by decide +kernel) (by decide +kernel) (by decide +kernel)
  (by first | exact .inl (by decide +kernel) | exact .inr (by decide +kernel)) (by rw [isSubtype_type];kernel_rfl)
theorem lk_set:typeLookup (.type "function") "__set__" = pure none:=by rw [typeLookup_type,builtinLookup_eq_fast];kernel_rfl
theorem lk_del:typeLookup (.type "function") "__delete__" = pure none:=by rw [typeLookup_type,builtinLookup_eq_fast];kernel_rfl
end FF
section
variable{prog:Program}{w:World}{A:Around}{E:Value->Shared->Prop}{h:Heap}{g:Array GenState}{d:Drawn}{t:Nat}{os:OsState}
variable{nm q:Str}{C N x:Addr}{bs:List Value}{sn:List Str}{sub:List Value}{ab:Bool}{col:Option Bool}{dd:Option Addr}{k0 k1 k2 k3 k5:Option Value}{newId:String}
 {mN mA:Str->Option Value} {name:Str} {v:Value}
theorem d6k {f:Addr} {of:Obj} {tp:Value} {R:Result->Shared->Prop} (hfo:h.get? f=some of) (hfc:of.cls=.type "function")
  (hq:R (.ok (.ret (.ref h.objs.size))) ⟨h.push (methodObj (.ref f) (.ref x)),g,d,t,os⟩):codeAny (model prog w) A (.call (.builtin "function.__get__") ⟨[.ref f,.ref x,tp],[]⟩) R ⟨h,g,d,t,os⟩:=by
 refine codeAny_call_builtin KF.slot_fn.plain KF.entry_fn (KF.slot_fn.check _ _ _ _ _ _ _ _ ⟨_,hfo,hfc⟩ (KF.args_fn _ _ _) ?_)
 repeat k_node
 exact hq
set_option tactic.hygienic true in
theorem b8g{tk:Tok}{f dx:Addr}{o of:Obj}{Q:Fin->Shared->Prop}
  (hC:h.get? C=some (excClassObj nm q C N bs [.type "object"] true sn sub ab col dd k0 k1 k2 k3 k5 newId)) (hn:h.Ns N mN) (hnh:mN "__getattr__" = none) (hf:mN name=some (.ref f)) (hfo:h.get? f=some of) (hfc:of.cls=.type "function")
  (hcn:(["__module__","__name__","__qualname__","__doc__","__annotations__"]:List Str).contains name=false)
  (hB:typeLookup (.type "object") name=pure none) (hx:h.get? x=some o) (hc:o.cls=.ref C) (hnc:∀ c,o.data≠.cls c) (hdx:o.dict=some dx) (hns:h.Ns dx mA) (hv:mA name=none) (hq:Q (.done (.ret (.ref h.objs.size))) ⟨h.push (methodObj (.ref f) (.ref x)),g,d,t,os⟩) :
  wpAny (model prog w) A (Builtin.«proto.getattr_hooked» ⟨[.ref x,.str name tk],[]⟩) Q E ⟨h,g,d,t,os⟩:=by
 have f1:=FF.slot_fn_get.lookup;have f2:=FF.lk_set;have f3:=FF.lk_del;have hTf:(⟨h,g,d,t,os⟩:Shared).TypeIs (.ref f) "function":=⟨_,hfo,hfc⟩
 unfold Builtin.«proto.getattr_hooked»
 repeat (first | (with_reducible refine wpAny_loadPart_at hx ?_;rw [hc]) | (with_reducible refine wpAny_typeLookup_exc hC hn F.mro_object hB ?_;rw [hf]) | wp_step)
 split
 ·rename_i c hcd
  exact absurd hcd (hnc c)
 unfold instanceDict
 repeat (first | (with_reducible refine wpAny_loadPart_at hx ?_;rw [hc]) | with_reducible refine wpAny_loadPart_at hC ?_ | wp_step)
 rw [hdx]
 repeat (first | (with_reducible refine wpAny_nsGet hns ?_;rw [hv]) | wp_step)
 rw [hcn,if_neg Bool.false_ne_true];unfold byTheClass
 repeat (first | assumption | (with_reducible refine wpAny_typeLookup_exc hC hn F.mro_object F.lk_object_getattr ?_;rw [hnh]) | wp_step)
 refine d6k hfo hfc ?_;exact wpAny_pure hq
theorem c4d{expr:Bool}{f dx:Addr}{o of:Obj}{Q:Value->Shared->Prop}
  (hC:h.get? C=some (excClassObj nm q C N bs [.type "object"] true sn sub ab col dd k0 k1 k2 k3 k5 newId)) (hn:h.Ns N mN) (hng:mN "__getattribute__" = none) (hnh:mN "__getattr__" = none) (hf:mN name=some (.ref f)) (hfo:h.get? f=some of) (hfc:of.cls=.type "function")
  (hcn:(["__module__","__name__","__qualname__","__doc__","__annotations__"]:List Str).contains name=false)
  (hB:typeLookup (.type "object") name=pure none) (hx:h.get? x=some o) (hc:o.cls=.ref C) (hnc:∀ c,o.data≠.cls c) (hdx:o.dict=some dx) (hns:h.Ns dx mA) (hv:mA name=none) (hq:Q (.ref h.objs.size) ⟨h.push (methodObj (.ref f) (.ref x)),g,d,t+1,os⟩) :
  wpAny (model prog w) A (getAttr (.ref x) name expr) Q E ⟨h,g,d,t,os⟩:=by
 unfold getAttr getAttrBy
 repeat (first | (with_reducible refine wpAny_loadPart_at hx ?_;rw [hc]) | (with_reducible refine wpAny_typeLookup_exc hC hn F.mro_object F.lk_object_ga ?_;rw [hng]) | wp_step)
 show wpAny _ _ ((runValue (.builtin "proto.getattr_hooked" ⟨[.ref x,.str name t],[]⟩)).onRaise (noteIf true (.ref x) (.str name t))) _ _ _
 refine wpAny_onRaise (wpAny_runValue (codeAny_builtin F.plainObj_entry_getattr_hooked (b8g hC hn hnh hf hfo hfc hcn hB hx hc hnc hdx hns hv ?_)));show wpAny _ _ (handedOut (.ref h.objs.size)) _ _ _;exact wpAny_pure hq
end
end
section
namespace FF
theorem args_iter2 (a b:Value):argsOk "iter" ⟨[a,b],[]⟩:=by unfold argsOk;kernel_rfl
theorem lk_method_call:typeLookup (.type "method") "__call__" = pure (some (.builtin "method.__call__")):=by rw [typeLookup_type,builtinLookup_eq_fast];kernel_rfl
end FF
section
variable{prog:Program}{w:World}{base:Heap}{B:LB base}{lm:LamT}{P:Addr}{Γ:G}{μ μ':Mu}{as:List (List Addr)}{A:Around}{E:Value->Shared->Prop}{s:Shared}{env:Env}{ρ:Rho}
theorem d0u {bm:Addr} {fr X:Value} {t:Tok} {Q:Value->Shared->Prop} (hb:s.heap.get? bm=some (methodObj fr X)) (h:Q (.ref s.heap.objs.size) { s with heap:=s.heap.push (a7k (.ref bm) (.str "" t) false)}) :
  wpAny (model prog w) A (call (.builtin "iter") [.ref bm,.str "" t]) Q E s:=by
 refine call_function_entry (by decide +kernel) (by decide +kernel) kdk_entry_iter (FF.args_iter2 _ _) ?_;unfold Builtin.«iter»;refine wpAny_bind (m:=someArgs "iter" 1 2 _) (wpAny_of_eq (a:=[Value.ref bm,.str "" t]) (by first | rfl | kernel_rfl!) ?_)
 show wpAny _ _ (specialOf (.ref bm) "__call__" >>= _) _ _ _
 refine wpAny_bind (wpAny_specialOf (T:="method") ⟨_,hb,rfl⟩ FF.lk_method_call ?_)
 show wpAny _ _ (if(Option.isNone (some (Value.builtin "method.__call__")))=true then _ else _) _ _ _
 rw [if_neg (by decide)];refine wpAny_bind (wpAny_rule ?_);refine wpAny_bind ?_;unfold newFields;refine wpAny_newObj_type ?_ (by size_fits);exact wpAny_pure ⟨_,rfl,h⟩
theorem e3s (hiter:a1i prog w base "iter" (.builtin "iter")) {of:Obj} (hf:base.get? B.fr=some of) (hfc:of.cls=.type "function") {v:Expr} {y:Str} {j k kp ks n:Nat} {m:Int} {Q:Value->Shared->Prop}
  (hv:d0l env.scope v=some y) (hy:nid Γ.tbl y=some j) (hρ:ρ.lookup j=some (.mut k)) (hk:μ[k]?=some (.obj [kp,ks] m)) (hm:1<=m) (er:ER Γ.tbl base env ρ as s.heap) (g:GR (a1f B lm P) base μ as s.heap)
  (hQ:Post (a1f B lm P) base as s (.mut μ.length) (μ++[.obj [k] (-2)]) Q):wpAny (model prog w) A (eval v env) Q E s:=by
 refine c7a hv fun p1 p2 p3 p4 p5 kd ev hg hvx hd1' hd2'=>?_;subst ev;refine wpAny_Call_ofName (a2w (Γ:=Γ) (sc:=env.scope) (by decide) hg ⟨fun zz q=>q,fun zz q=>q,fun zz q=>q⟩ er g hiter ?_);refine Calls.callWith_builtin (b0e _ (by rfl)) ?_;refine evalArgs_plain (wpAny_items_cons (Attribute_any_ (wpAny_Name (c0g er hy hvx hd2' hρ fun u ru=>?_) hd1') rfl) rfl);obtain⟨X,D,PB,F,mA,rfl,hX,hr,I,La⟩:=a3z g hk hm ru;obtain⟨o,hxo,hc,hnc,hd⟩:=id I;obtain⟨hD,hns⟩:o.dict=some D/\s.heap.Ns D mA:=by
  obtain⟨rs,e1,e2⟩:=g.mus k _ _ hk hX;rcases e2 with⟨_,x⟩ | ⟨q,_⟩ | ⟨q,_⟩ | ⟨q,_⟩ | ⟨q,_⟩ | ⟨q,_⟩
  ·obtain⟨X',D',PB',F',o',mA',ea,er',h1,h2,h3,h4,h5,h6,h7⟩:=x
   simp only [List.cons.injEq,and_true]at ea;obtain⟨rfl,rfl⟩:=ea;rw [hxo]at h1;obtain rfl:=Option.some.inj h1;refine⟨h4,?_⟩;rcases hd with⟨q,_⟩ | ⟨d,hd1,hd2,hd3⟩
   ·rw [h4]at q;cases q
   ·rw [h4]at hd1;obtain rfl:=Option.some.inj hd1;exact hd3.ns
  all_goals first | exact e6c q hm (by decide) | omega
 obtain⟨hC⟩:=B.cls;refine c4d (g.keep _ _ hC) (Ns.keep B.ns g.keep) B.nga B.ngt B.read (g.keep _ _ hf) hfc (by decide) (c9m _ (by simp)) hxo hc hnc hD hns (La.only _ (by decide) (by decide) (by decide) (by decide)) ?_;refine wpAny_items_cons (wpAny_Constant_str ?_) rfl;refine wpAny_items_nil ?_;have hb:(s.heap.push (methodObj (.ref B.fr) (.ref X))).get? s.heap.objs.size=some (methodObj (.ref B.fr) (.ref X)):=Heap.get?_push_size _ rfl;refine d0u hb ?_;have hsz:(s.heap.push (methodObj (.ref B.fr) (.ref X))).objs.size=s.heap.objs.size+1:=by simp [Heap.push]
 have hit:((s.heap.push (methodObj (.ref B.fr) (.ref X))).push (a7k (.ref s.heap.objs.size) (.str "" (s.toks+1)) false)).get? (s.heap.objs.size+1)=some (a7k (.ref s.heap.objs.size) (.str "" (s.toks+1)) false):=by
  rw [← hsz];exact Heap.get?_push_size _ rfl
 have hnone:∀ b,s.heap.objs.size<=b->s.heap.get? b=.none:=fun b hb=>by
  induction q:s.heap.get? b using Option.casesOn with
  | none=>rfl
  | some o=>exact absurd (Heap.lt_size q) (Nat.not_lt.mpr hb)
 obtain⟨g',go⟩:=g.new (h':=(s.heap.push (methodObj (.ref B.fr) (.ref X))).push (a7k (.ref s.heap.objs.size) (.str "" (s.toks+1)) false)) (ads:=[s.heap.objs.size+1,s.heap.objs.size]) (m:=.obj [k] (-2))
  (fun b o e=>Heap.get?_push_of_some _ (Heap.get?_push_of_some _ e))
  (fun a ha=>by
   simp only [List.mem_cons,List.not_mem_nil,or_false]at ha;rcases ha with rfl | rfl
   ·exact hnone _ (by omega)
   ·exact hnone _ (Nat.le_refl _))
  (by simp)
  (fun a ha=>by
   simp only [List.mem_cons,List.not_mem_nil,or_false]at ha;rcases ha with rfl | rfl
   ·exact⟨_,hit⟩
   ·exact⟨_,Heap.get?_push_of_some _ hb⟩)
  ⟨[X],by
   unfold b7v;simp only [a1k];rw [List.getElem?_append_left (List.getElem?_eq_some_iff.mp hX).1,hX];rfl,.inr (.inr (.inl ⟨rfl,_,_,X,_,rfl,rfl,hit,Heap.get?_push_of_some _ hb⟩))⟩
 refine hQ _ _ _ _ g' go ?_;refine⟨s.heap.objs.size+1,[s.heap.objs.size],?_,by rw [hsz]⟩;rw [List.getElem?_append_right (by rw [g.len];omega),g.len];simp
end
end
section
open Builtin Builtin.ObjectAttr
namespace FF
theorem slot_fn_sa:Slot "function" "__setattr__" "object.__setattr__":=
 .of (owner:="object") (n:="__setattr__") (by rw [typeLookup_type,builtinLookup_eq_fast];kernel_rfl) (by decide +kernel) (by decide +kernel) (by decide +kernel)
  (by first | exact .inl (by decide +kernel) | exact .inr (by decide +kernel)) (by rw [isSubtype_type];kernel_rfl)
theorem passes_fn (self:Value):refuseLoop self "__setattr__" [.type "function",.type "object"]=pure ():=by kernel_rfl
theorem mro_fn:mroOf (.type "function")=pure [.type "function",.type "object"]:=by kernel_rfl
end FF
section
variable{prog:Program}{w:World}{A:Around}{E:Value->Shared->Prop}{h:Heap}{g:Array GenState}{d:Drawn}{t:Nat}{os:OsState}
theorem b2n {F:Addr} {o:Obj} {fd:FuncData} {name:Str} {v:Value} {tk:Tok} {Q:Fin->Shared->Prop} (hx:h.get? F=some o) (hc:o.cls=.type "function") (hdn:o.dict=none) (hcd:o.data=.func fd)
  (hB:typeLookup (.type "function") name=pure none)
  (hq:∀ h' tk' FD,h'.get? F=some { cls:=o.cls,dict:=some FD,data:=o.data,slots:=o.slots}->(∀ b ob,b≠F->h.get? b=some ob->h'.get? b=some ob)->h.get? FD=none->h'.Ns FD (fun y=>if y=name then some v else none)->Q (.done (.ret .none)) ⟨h',g,d,tk',os⟩) :
  wpAny (model prog w) A (Builtin.«object.__setattr__» ⟨[.ref F,.str name tk,v],[]⟩) Q E ⟨h,g,d,t,os⟩:=by
 have hT:(⟨h,g,d,t,os⟩:Shared).TypeIs (.ref F) "function":=⟨_,hx,hc⟩
 have hpass:=FF.passes_fn (.ref F);have hmro:=FF.mro_fn;unfold Builtin.«object.__setattr__»
 repeat (first | rw [refuse_eq] | rw [hpass] | rw [hmro] | (with_reducible refine wpAny_loadPart_at hx ?_) | wp_step)
 rw [hc];show wpAny _ _ (match o.dict with
       | some d=>pure (some d)
       | none=>
        if(!true||!typeHasDict (.type "function"))=true then pure none
        else
         match o.data with
         | Data.cls c=>pure none
         | x=>do
          let d ← alloc { cls:=Value.type "dict",data:=Data.dict #[]}
          update F fun o=>{ cls:=o.cls,dict:=some d,data:=o.data,slots:=o.slots}
          dictMade (.type "function") F d) _ _ _
 rw [hdn,hcd];show wpAny _ _ (if(!true||!typeHasDict (.type "function"))=true then _ else _) _ _ _
 rw [if_neg (by decide +kernel)];have hxI:(h.push { cls:=.type "dict",data:=.dict #[]}).get? F=some o:=Heap.get?_push_of_some _ hx
 have hxs:F≠h.objs.size:=Nat.ne_of_lt (Heap.lt_size hx);refine wpAny_bind (wpAny_alloc' ?_);refine wpAny_bind (wpAny_update' hxI ?_);refine wpAny_pure ?_;have hgd:((h.push { cls:=.type "dict",data:=.dict #[]}).update F fun o=>{ cls:=o.cls,dict:=some h.objs.size,data:=o.data,slots:=o.slots}).get? h.objs.size
   = some { cls:=.type "dict",data:=.dict #[]}:=
  (Heap.get?_update_ne _ _ _ _ hxs.symm).trans (Heap.get?_push_at rfl rfl)
 have hnd:((h.push { cls:=.type "dict",data:=.dict #[]}).update F fun o=>{ cls:=o.cls,dict:=some h.objs.size,data:=o.data,slots:=o.slots}).Ns h.objs.size (fun zz=>none):=
  ⟨_,#[],_,hgd,rfl,fun e he=>absurd he (by simp),fun zz=>rfl⟩
 show wpAny _ _ (storeInDict h.objs.size (.str name tk) name v) _ _ _;unfold storeInDict newKeyGuard;refine wpAny_bind (wpAny_pure (wpAny_bind (wpAny_nsSet1 (Heap.Ns1.of_empty hnd) fun h' hn' hs=>?_)));obtain⟨oD,esD,epD,hoD,hdD,hcD⟩:=hn'.count (Within.cons name v Within.nil);refine wpAny_bind (wpAny_lookBehind hoD (by rw [hdD];exact pastItsLine_dict (Nat.le_trans hcD (by rw [List.length_cons,List.length_nil,sizeLine_eq];omega))) ?_)
 wp_walk
 refine hq h' _ h.objs.size ?_ (fun b ob hbx hb=>?_) (a0y h) ?_
 ·refine(hs.2 F hxs).trans (Heap.get?_update_self _ hxI ?_)
  have hfr:=(Heap.get?_some_iff.mp hx).2;obtain⟨oc,od,odt,osl⟩:=o;simp only at hcd;subst hcd;rfl
 ·exact(hs.2 b (Nat.ne_of_lt (Heap.lt_size hb))).trans ((Heap.get?_update_ne _ _ _ _ hbx).trans (Heap.get?_push_of_some _ hb))
 ·obtain⟨o',es,ep,e1,e2,e3,eu,e4⟩:=hn'
  exact⟨o',es,ep,e1,e2,e3,fun y=>by rw [e4 y]⟩
theorem d0y {F:Addr} {o:Obj} {fd:FuncData} {name:Str} {v:Value} {Q:Unit->Shared->Prop} (hx:h.get? F=some o) (hc:o.cls=.type "function") (hdn:o.dict=none) (hcd:o.data=.func fd)
  (hB:typeLookup (.type "function") name=pure none)
  (hq:∀ h' tk' FD,h'.get? F=some { cls:=o.cls,dict:=some FD,data:=o.data,slots:=o.slots}->(∀ b ob,b≠F->h.get? b=some ob->h'.get? b=some ob)->h.get? FD=none->h'.Ns FD (fun y=>if y=name then some v else none)->Q () ⟨h',g,d,tk',os⟩) :
  wpAny (model prog w) A (setAttr (.ref F) name v) Q E ⟨h,g,d,t,os⟩:=by
 have hT:(⟨h,g,d,t+1,os⟩:Shared).TypeIs (.ref F) "function":=⟨_,hx,hc⟩
 unfold setAttr;refine wpAny_bind (wpAny_mkText (wpAny_bind (wpAny_callSpecial?_slot (name:=Str.ofString "__setattr__") hT FF.slot_fn_sa
  (wpAny_call_entry FF.slot_fn_sa hT PySem.F.store_object.entry (b2n hx hc hdn hcd hB fun h' tk' FD a b c d=>?_) (PySem.F.store_object.args _ _ _)))))
 exact⟨_,rfl,wpAny_pure (hq h' tk' FD a b c d)⟩
end
end
section
structure c0x(lm:LamT)(par0:Arguments)(sc0:Scope):Prop where
 def0:∀ env,defaultsOf par0 env=([],[])
 def1:∀ env,defaultsOf lm.params env=([],[])
 clo0:∀ env,closureFor sc0 env=pure []
 clo1:∀ env LC,env.cells.lookup ("letters":Str)=some LC->closureFor lm.scope env=pure [(("letters":Str),LC)]
 n1:∀ c1:Addr,codeAmong lm.pos [rawInt lm.pos0.line,rawInt lm.pos0.col,.ref c1]=none
structure b9t(base:Heap)(lm:LamT)(P:Addr)(mg:Str->Option Value)(env:Env):Prop where
 kind:env.scope.kind=.function
 glob:env.globals=mainGlobals
 code:∃ c,env.code=.ref c/\CodeHd base c P
 g:base.Ns mainGlobals mg
 b:base.BuiltinsAt mg P
 off:base.get? P=none
 str:env.kindOf "stream" = some .local
 qual:env.qual++"<lambda>" = lm.qual
theorem BuiltinsAt.keep{h h':Heap}{mg:Str->Option Value}{P:Addr}(x:h.BuiltinsAt mg P)(k:∀ b o,h.get? b=some o->h'.get? b=some o):h'.BuiltinsAt mg P:=
 let⟨bm,o,a,b,c,d,e,r⟩:=x;⟨bm,o,a,b,c,d,k _ _ e,r⟩
noncomputable def d0d(lm:LamT)(c1 c2:Addr):Obj:=tabObj #[rawInt lm.pos0.line,rawInt lm.pos0.col,.ref c1,rawInt lm.pos.line,rawInt lm.pos.col,.ref c2]
noncomputable def f0w (lm:LamT) (LC:Addr) (pm:Value) (cG:Addr) (ctv:Value):Obj:=kla_obj "<lambda>" lm.qual lm.params lm.body lm.scope [("letters",LC)] pm cG ctv
structure d9w(lm:LamT)(P L LC:Addr)(m:Str->Option Value)(h h':Heap)(F FD G cG:Addr):Prop where
 same:∀ b o,b≠L->b≠P->h.get? b=some o->h'.get? b=some o
 ns:∃ m',h'.Ns L m'/\m' "stream" = some (.ref F)
 fn:∃ md,a9j h' F FD md/\md "read" = some (.ref G)
 lam:∃ pm ctv,h'.get? G=some (f0w lm LC pm cG ctv)
 newF:h.get? F=none
 newFD:h.get? FD=none
 newG:h.get? G=none
 nd:[F,FD,G].Nodup
section
variable{prog:Program}{w:World}{A:Around}{E:Value->Shared->Prop}{s:Shared}{base:Heap}{lm:LamT}{P:Addr}{mg:Str->Option Value}{env:Env}
theorem d4n{h:Heap}{L:Addr}{m:Str->Option Value}{ps:Array Value}(hn:h.Ns L m)(hP:h.get? P=some (tabObj ps)):L≠P:=fun q=>by
 obtain⟨o,es,ep,e1,e2,_⟩:=hn;rw [q,hP]at e1;cases e1;cases e2
theorem b6o(V:b9t base lm P mg env){p2:Pos}{Q:Shared->Prop}{F:Addr}{m:Str->Option Value}{oF:Obj}{fd:FuncData}{v:Value}
  (hns:s.heap.Ns env.locals m) (hm:m "stream" = some (.ref F)) (hF:s.heap.get? F=some oF) (hc:oF.cls=.type "function") (hdn:oF.dict=none) (hcd:oF.data=.func fd)
  (hq:∀ h' tk' FD md,a9j h' F FD md->md "read" = some v->(∀ b ob,b≠F->s.heap.get? b=some ob->h'.get? b=some ob)->s.heap.get? FD=none->Q { s with heap:=h',toks:=tk'}) :
  wpAny (model prog w) A (eval (.Name "stream" p2) env) (fun ov sJ=>wpAny (model prog w) A (setAttr ov "read" v) (fun zz s'=>Q s') E sJ) E s:=by
 refine wpAny_Name (wpAny_loadName_local V.kind V.str hns hm ?_) (by decide);obtain⟨h,g,d,t,os⟩:=s;refine d0y hF hc hdn hcd FF.lk_read fun h' tk' FD a b c e=>?_;refine hq h' tk' FD _ ⟨⟨fd,oF.slots,?_⟩,e⟩ (by simp) b c;rw [a,hc,hcd]
theorem c4n{par0:Arguments}{b0:Expr}{sc0:Scope}(Sr:c0x lm par0 sc0)(V:b9t base lm P mg env){p1 p2 p3 q1 q2:Pos}{rest:List Stmt}{Q:Flow->Shared->Prop}{m:Str->Option Value}{LC:Addr}
  (kp:∀ a o,base.get? a=some o->s.heap.get? a=some o) (hns:s.heap.Ns env.locals m) (hloc:base.get? env.locals=none) (hLC:env.cells.lookup ("letters":Str)=some LC) (hP:s.heap.get? P=some (tabObj #[]))
  (hq:∀ h' tk F FD G cG c1,d9w lm P env.locals LC m s.heap h' F FD G cG->h'.get? P=some (d0d lm c1 cG)->s.heap.get? cG=none->h'.CodeRec (.ref cG) lm.qual->cG∉[F,FD,G]->wpAny (model prog w) A (execs rest env) Q E { s with heap:=h',toks:=tk}) :
  wpAny (model prog w) A (execs (.Assign [.Name "stream" p1] (.Lambda par0 b0 sc0 lm.pos0) q1::.Assign [.Attribute (.Name "stream" p2) "read" p3] (.Lambda lm.params lm.body lm.scope lm.pos) q2::rest) env) Q E s:=by
 obtain⟨c,hcode,C⟩:=V.code;have hgP:mainGlobals≠P:=fun q=>by
  obtain⟨o,es,ep,e,_⟩:=V.g;rw [q,V.off]at e;cases e
 have hLP:env.locals≠P:=d4n hns hP;refine wpAny_execs_cons (wpAny_Assign_Name (kla_eval (Sr.def0 env) (kla_makeFunction (mg:=mg) (Sr.clo0 env) V.glob (Ns.keep V.g kp) hcode (C.keeps kp) hP (by trivial) (by rfl) hgP (BuiltinsAt.keep V.b kp) fun c1 ct1 h1 tk1 hx1 hge1 hlt1 hrec1 htb1=>?_)) rfl);have k1:∀ b o,b≠P->s.heap.get? b=some o->(h1.push (kla_obj "<lambda>" (env.qual++"<lambda>") par0 b0 sc0 [] ((mg "__name__").getD .none) c1 ct1)).get? b=some o:=fun b o hb e=>Heap.get?_push_of_some _ (hx1 b o hb e)
 obtain⟨oF,hoF⟩:∃ oF,oF=kla_obj "<lambda>" (env.qual++"<lambda>") par0 b0 sc0 [] ((mg "__name__").getD .none) c1 ct1:=⟨_,rfl⟩
 rw [← hoF]at k1 ⊢;have hF1:(h1.push oF).get? h1.objs.size=some oF:=Heap.get?_push_size _ (by rw [hoF];rfl);have hfr:∀ a,s.heap.objs.size<=a->s.heap.get? a=none:=fun a ha=>by
  induction q:s.heap.get? a using Option.casesOn with
  | none=>rfl
  | some o=>exact absurd (Heap.lt_size q) (Nat.not_lt.mpr ha)
 have hszF:s.heap.objs.size<=h1.objs.size:=Nat.le_of_lt (Nat.lt_of_le_of_lt hge1 hlt1);have hns1:(h1.push oF).Ns env.locals m:=by
  obtain⟨o,es,ep,e,r⟩:=hns;exact⟨o,es,ep,k1 _ _ hLP e,r⟩
 refine wpAny_storeName_local V.str hns1 (fun h2 hn2 hs2=>?_) (by rw [V.kind];rfl);have hP2:h2.get? P=some (tabObj #[rawInt lm.pos0.line,rawInt lm.pos0.col,.ref c1]):=(hs2.2 P hLP.symm).trans (Heap.get?_push_of_some _ (by simpa using htb1));have kp2:∀ a o,base.get? a=some o->h2.get? a=some o:=fun a o e=>(hs2.2 a (fun q=>by rw [q,hloc]at e;cases e)).trans (k1 a o (fun q=>by rw [q,V.off]at e;cases e) (kp a o e));have hFL:h1.objs.size≠env.locals:=fun q=>by
  obtain⟨o,es,ep,e,_⟩:=hns;have:=hfr _ hszF;rw [q,e]at this;cases this
 have hF2:h2.get? h1.objs.size=some oF:=(hs2.2 _ hFL).trans hF1;refine wpAny_execs_cons (plainObj_wpAny_Assign_Attribute (kla_eval (Sr.def1 env) (kla_makeFunction (s:={ s with heap:=h2,toks:=_}) (mg:=mg) (Sr.clo1 env LC hLC) V.glob (Ns.keep V.g kp2) hcode (C.keeps kp2) hP2 (by trivial) (by simpa using Sr.n1 c1) hgP (BuiltinsAt.keep V.b kp2) fun cG ctv h3 tk3 hx3 hge3 hlt3 hrec3 htb3=>?_)) rfl);obtain⟨oG,hoG⟩:∃ oG,oG=kla_obj "<lambda>" (env.qual++"<lambda>") lm.params lm.body lm.scope [("letters",LC)] ((mg "__name__").getD .none) cG ctv:=⟨_,rfl⟩
 rw [← hoG];have k3:∀ b o,b≠P->h2.get? b=some o->(h3.push oG).get? b=some o:=fun b o hb e=>Heap.get?_push_of_some _ (hx3 b o hb e);have hFP:h1.objs.size≠P:=fun q=>by
  have:=hfr _ hszF;rw [q,hP]at this;cases this
 have hns3:(h3.push oG).Ns env.locals (fun x=>if x=("stream":Str)then some (.ref h1.objs.size)else m x):=by
  obtain⟨o,es,ep,e,r⟩:=hn2;exact⟨o,es,ep,k3 _ _ hLP e,r⟩
 have hG3:(h3.push oG).get? h3.objs.size=some oG:=Heap.get?_push_size _ (by rw [hoG];rfl);refine b6o (Q:=fun s'=>wpAny (model prog w) A (execs rest env) Q E s') (s:={ s with heap:=h3.push oG,toks:=tk3}) V hns3 (by simp) (k3 _ _ hFP hF2) (by rw [hoF]) (by rw [hoF]) (by rw [hoF]) fun h4 tk4 FD md hfd hmd k4 hFD=>?_;have hs12:h1.objs.size<h2.objs.size:=Heap.lt_size hF2;have hs2s:s.heap.objs.size<=h2.objs.size:=Nat.le_of_lt (Nat.lt_of_le_of_lt hszF hs12);have hs23:h2.objs.size<=h3.objs.size:=Nat.le_of_lt (Nat.lt_of_le_of_lt hge3 hlt3);have hGF:h3.objs.size≠h1.objs.size:=by omega
 have hcGF:cG≠h1.objs.size:=by
  have:h2.objs.size<=cG:=hge3;omega
 have hcG3:∃ o,(h3.push oG).get? cG=some o:=by
  obtain⟨c',o,vs,t,e,ho,_⟩:=hrec3;cases e;exact⟨o,Heap.get?_push_of_some _ ho⟩
 have hFDn:∀ a o,(h3.push oG).get? a=some o->a≠FD:=fun a o e q=>by
  have:(h3.push oG).get? FD=none:=hFD;rw [← q,e]at this;cases this
 have hPL:P≠h1.objs.size:=hFP.symm;refine hq h4 tk4 h1.objs.size FD h3.objs.size cG c1 ⟨fun b o h1' h2' e=>?_,⟨fun x=>if x=("stream":Str)then some (.ref h1.objs.size)else m x,?_,?_⟩,⟨md,hfd,hmd⟩,⟨(mg "__name__").getD .none,ctv,?_⟩,hfr _ hszF,?_,hfr _ (by omega),?_⟩ ?_ ?_ ?_ ?_
 ·have hbF:b≠h1.objs.size:=fun q=>by rw [q,hfr _ hszF]at e;exact ns e
  exact k4 b o hbF (k3 b o h2' ((hs2.2 b h1').trans (k1 b o h2' e)))
 ·obtain⟨o,es,ep,e,r⟩:=hns3;exact⟨o,es,ep,k4 _ _ (fun q=>hFL q.symm) e,r⟩
 ·simp
 ·rw [k4 _ _ hGF hG3,hoG,V.qual];rfl
 ·induction q:s.heap.get? FD using Option.casesOn with
  | none=>rfl
  | some o=>
   exfalso;by_cases h1':FD=env.locals
   ·obtain⟨o',es,ep,e,_⟩:=hns3
    exact hFDn _ _ e h1'.symm
   ·by_cases h2':FD=P
    ·exact hFDn P _ (Heap.get?_push_of_some _ (by simpa using htb3)) h2'.symm
    ·exact hFDn FD o (k3 FD o h2' ((hs2.2 FD h1').trans (k1 FD o h2' q))) rfl
 ·simp only [List.nodup_cons,List.mem_cons,List.not_mem_nil,or_false,not_or,List.nodup_nil,and_true,not_false_eq_true]
  exact⟨⟨hFDn _ _ (k3 _ _ hFP hF2),hGF.symm⟩,fun q=>hFDn _ _ hG3 q.symm⟩
 ·refine k4 _ _ hPL ?_
  refine Heap.get?_push_of_some _ ?_;simpa [d0d]using htb3
 ·exact hfr _ (Nat.le_trans hs2s hge3)
 ·obtain⟨c',o,vs,t,e,ho,hd,hv⟩:=hrec3
  cases e;rw [← V.qual];exact⟨cG,o,vs,t,rfl,k4 _ _ hcGF (Heap.get?_push_of_some _ ho),hd,hv⟩
 ·obtain⟨o,ho⟩:=hcG3
  simp only [List.mem_cons,List.not_mem_nil,or_false,not_or];exact⟨hcGF,hFDn _ _ ho,Nat.ne_of_lt hlt3⟩
theorem e9w{c1 c2:Addr}:codeAmong lm.pos0 [rawInt lm.pos0.line,rawInt lm.pos0.col,.ref c1,rawInt lm.pos.line,rawInt lm.pos.col,.ref c2]=some (.ref c1):=by
 simp [codeAmong,rawInt]
theorem e9l{par0:Arguments}{sc0:Scope}(Sr:c0x lm par0 sc0){c1 c2:Addr}:codeAmong lm.pos [rawInt lm.pos0.line,rawInt lm.pos0.col,.ref c1,rawInt lm.pos.line,rawInt lm.pos.col,.ref c2]=some (.ref c2):=
 codeAmong_snoc [rawInt lm.pos0.line,rawInt lm.pos0.col,.ref c1] (by trivial) (Sr.n1 c1)
theorem c3v{par0:Arguments}{b0:Expr}{sc0:Scope}(Sr:c0x lm par0 sc0)(V:b9t base lm P mg env){p1 p2 p3 q1 q2:Pos}{rest:List Stmt}{Q:Flow->Shared->Prop}{m:Str->Option Value}{LC c1 cG:Addr}
  (kp:∀ a o,base.get? a=some o->s.heap.get? a=some o) (hns:s.heap.Ns env.locals m) (hloc:base.get? env.locals=none) (hLC:env.cells.lookup ("letters":Str)=some LC) (hP:s.heap.get? P=some (d0d lm c1 cG))
  (hq:∀ h' tk F FD G,d9w lm P env.locals LC m s.heap h' F FD G cG->h'.get? P=some (d0d lm c1 cG)->wpAny (model prog w) A (execs rest env) Q E { s with heap:=h',toks:=tk}) :
  wpAny (model prog w) A (execs (.Assign [.Name "stream" p1] (.Lambda par0 b0 sc0 lm.pos0) q1::.Assign [.Attribute (.Name "stream" p2) "read" p3] (.Lambda lm.params lm.body lm.scope lm.pos) q2::rest) env) Q E s:=by
 obtain⟨c,hcode,C⟩:=V.code;have hLP:env.locals≠P:=d4n hns hP;refine wpAny_execs_cons (wpAny_Assign_Name (kla_eval (Sr.def0 env) (kla_makeFunctionHit (mg:=mg) (cv:=.ref c1) (Sr.clo0 env) V.glob (Ns.keep V.g kp) hcode (C.keeps kp) hP (by trivial) e9w (BuiltinsAt.keep V.b kp) fun ct1 h1 tk1 hx1 hge1=>?_)) rfl);obtain⟨oF,hoF⟩:∃ oF:Obj,oF={ cls:=.type "function",data:=.func (kla_fn "<lambda>" (env.qual++"<lambda>") par0 b0 sc0 [] ((mg "__name__").getD .none) (.ref c1) ct1)}:=⟨_,rfl⟩
 have k1:∀ b o,s.heap.get? b=some o->(h1.push oF).get? b=some o:=fun b o e=>Heap.get?_push_of_some _ (hx1 b o e);rw [← hoF];have hF1:(h1.push oF).get? h1.objs.size=some oF:=Heap.get?_push_size _ (by rw [hoF];rfl);have hfr:∀ a,s.heap.objs.size<=a->s.heap.get? a=none:=fun a ha=>by
  induction q:s.heap.get? a using Option.casesOn with
  | none=>rfl
  | some o=>exact absurd (Heap.lt_size q) (Nat.not_lt.mpr ha)
 have hns1:(h1.push oF).Ns env.locals m:=Ns.keep hns k1;refine wpAny_storeName_local V.str hns1 (fun h2 hn2 hs2=>?_) (by rw [V.kind];rfl);have hP2:h2.get? P=some (d0d lm c1 cG):=(hs2.2 P hLP.symm).trans (k1 _ _ hP);have kp2:∀ a o,base.get? a=some o->h2.get? a=some o:=fun a o e=>(hs2.2 a (fun q=>by rw [q,hloc]at e;cases e)).trans (k1 a o (kp a o e));have hFL:h1.objs.size≠env.locals:=fun q=>by
  obtain⟨o,es,ep,e,_⟩:=hns;have:=hfr _ hge1;rw [q,e]at this;cases this
 have hF2:h2.get? h1.objs.size=some oF:=(hs2.2 _ hFL).trans hF1;refine wpAny_execs_cons (plainObj_wpAny_Assign_Attribute (kla_eval (Sr.def1 env) (kla_makeFunctionHit (s:={ s with heap:=h2,toks:=_}) (mg:=mg) (cv:=.ref cG) (Sr.clo1 env LC hLC) V.glob (Ns.keep V.g kp2) hcode (C.keeps kp2) hP2 (by trivial) (e9l Sr) (BuiltinsAt.keep V.b kp2) fun ctv h3 tk3 hx3 hge3=>?_)) rfl);obtain⟨oG,hoG⟩:∃ oG:Obj,oG={ cls:=.type "function",data:=.func (kla_fn "<lambda>" (env.qual++"<lambda>") lm.params lm.body lm.scope [("letters",LC)] ((mg "__name__").getD .none) (.ref cG) ctv)}:=⟨_,rfl⟩
 rw [← hoG];have k3:∀ b o,h2.get? b=some o->(h3.push oG).get? b=some o:=fun b o e=>Heap.get?_push_of_some _ (hx3 b o e);have hns3:(h3.push oG).Ns env.locals (fun x=>if x=("stream":Str)then some (.ref h1.objs.size)else m x):=Ns.keep hn2 k3
 have hG3:(h3.push oG).get? h3.objs.size=some oG:=Heap.get?_push_size _ (by rw [hoG];rfl);refine b6o (Q:=fun s'=>wpAny (model prog w) A (execs rest env) Q E s') (s:={ s with heap:=h3.push oG,toks:=tk3}) V hns3 (by simp) (k3 _ _ hF2) (by rw [hoF]) (by rw [hoF]) (by rw [hoF]) fun h4 tk4 FD md hfd hmd k4 hFD=>?_;have hs12:h1.objs.size<h2.objs.size:=Heap.lt_size hF2;have hs23:h2.objs.size<=h3.objs.size:=hge3;have hGF:h3.objs.size≠h1.objs.size:=by omega
 have hFDn:∀ a o,(h3.push oG).get? a=some o->a≠FD:=fun a o e q=>by
  have:(h3.push oG).get? FD=none:=hFD;rw [← q,e]at this;cases this
 refine hq h4 tk4 h1.objs.size FD h3.objs.size ⟨fun b o h1' h2' e=>?_,⟨fun x=>if x=("stream":Str)then some (.ref h1.objs.size)else m x,?_,?_⟩,⟨md,hfd,hmd⟩,⟨(mg "__name__").getD .none,ctv,?_⟩,hfr _ hge1,?_,hfr _ (by omega),?_⟩ ?_
 ·have hbF:b≠h1.objs.size:=fun q=>by rw [q,hfr _ hge1]at e;exact ns e
  exact k4 b o hbF (k3 b o ((hs2.2 b h1').trans (k1 b o e)))
 ·obtain⟨o,es,ep,e,r⟩:=hns3;exact⟨o,es,ep,k4 _ _ (fun q=>hFL q.symm) e,r⟩
 ·simp
 ·rw [k4 _ _ hGF hG3,hoG,V.qual];rfl
 ·induction q:s.heap.get? FD using Option.casesOn with
  | none=>rfl
  | some o=>
   exfalso;by_cases h1':FD=env.locals
   ·obtain⟨o',es,ep,e,_⟩:=hns3
    exact hFDn _ _ e h1'.symm
   ·exact hFDn FD o (k3 FD o ((hs2.2 FD h1').trans (k1 FD o q))) rfl
 ·simp only [List.nodup_cons,List.mem_cons,List.not_mem_nil,or_false,not_or,List.nodup_nil,and_true,not_false_eq_true]
  exact⟨⟨hFDn _ _ (k3 _ _ hF2),hGF.symm⟩,fun q=>hFDn _ _ hG3 q.symm⟩
 ·exact k4 _ _ (fun q=>by have:=hfr _ hge1;rw [← q,hP]at this;cases this) (k3 _ _ hP2)
end
end
section
noncomputable def Off(base:Heap)(as:List (List Addr))(h:Heap)(a:Addr):Prop:=a∉as.flatten/\base.get? a=.none/\∃ o,h.get? a=some o/\∀ xs n,o.data≠.seq xs n
section
variable{Lx:LxP}{base:Heap}{μ:Mu}{h h':Heap}{as:List (List Addr)}
theorem GR.upd2(g:GR Lx base μ as h){k:Nat}{ads fr:List Addr}{m:M}(hk:as[k+1]?=some ads)(hkl:k<μ.length)(hfr:∀ a∈fr,Off base as h a)(kp:∀ b o,b∉ads->b∉fr->h.get? b=some o->h'.get? b=some o)(al:∀ a∈ads,∃ o,h'.get? a=some o)
  (hm:Ks as h h'->e0q Lx h' as m ads):GR Lx base (μ.set k m) as h'/\Ks as h h':=by
 have sub:∀ a∈ads,a∈as.flatten:=fun a ha=>List.mem_flatten.mpr ⟨ads,List.mem_of_getElem? hk,ha⟩;have ks:Ks as h h':=fun b o hb e ⟨xs,n,hd⟩=>kp b o (fun q=>hb (sub b q)) (fun q=>by
  obtain⟨_,_,o',e',hs⟩:=hfr b q;rw [e]at e';obtain rfl:=Option.some.inj e';exact hs xs n hd) e
 have offf:∀ b∈as.flatten,b∉fr:=fun b hb q=>(hfr b q).1 hb;have alive:∀ b∈as.flatten,∃ o,h'.get? b=some o:=fun b hb=>by
  by_cases q:b∈ads
  ·exact al b q
  ·obtain⟨o,e⟩:=g.alive b hb;exact⟨o,kp b o q (offf b hb) e⟩
 refine⟨⟨fun b o e=>kp b o (fun q=>by rw [g.fresh b (sub b q)]at e;exact ns e) (fun q=>by rw [(hfr b q).2.1]at e;exact ns e) (g.keep b o e),g.fresh,g.nd,alive,by rw [List.length_set];exact g.len,fun j M ads' hj hads=>?_⟩,ks⟩;by_cases q:j=k
 ·subst q
  rw [List.getElem?_set_self hkl,Option.some.injEq]at hj;subst hj;rw [hk,Option.some.injEq]at hads;subst hads;exact hm ks
 ·rw [List.getElem?_set_ne (fun z=>q z.symm)]at hj
  have hM:=g.mus j M ads' hj hads;have hn:∀ a∈ads',a∉ads:=fun a ha=>c1s g hads hk (by omega) ha;have hn2:∀ a∈ads',a∉fr:=fun a ha=>offf a (List.mem_flatten.mpr ⟨ads',List.mem_of_getElem? hads,ha⟩);induction M using Mine.M.casesOn with
  | list l'=>
   obtain⟨b,us,rfl,⟨m',hp⟩,hr⟩:=hM;exact⟨b,us,rfl,⟨m',kp b _ (hn b (by simp)) (hn2 b (by simp)) hp⟩,hr.ks ks⟩
  | obj is n'=>exact let⟨rs,e1,e2⟩:=hM;⟨rs,e1,Lx.keep e2 fun b hb o e=>kp b o (hn b hb) (hn2 b hb) e⟩
theorem b7j{ads:List Addr}(ha:∀ a∈ads,∀ o,h.get? a=some o->∀ xs n,o.data≠.seq xs n){a:Addr}{o:Obj}(hoff:a∉as.flatten)(e:h.get? a=some o)(q:∃ xs n,o.data=.seq xs n):a∉(as++[ads]).flatten:=fun hm=>by
 obtain⟨xs,n,hd⟩:=q;rw [List.flatten_append,List.mem_append]at hm;rcases hm with q | q
 ·exact hoff q
 ·exact ha a ((List.append_nil ads)▸q) o e _ n hd
theorem Rep.adopt{ads:List Addr}(ha:∀ a∈ads,∀ o,h.get? a=some o->∀ xs n,o.data≠.seq xs n):∀ {x:V} {v:Value},Rep h as x v->Rep h (as++[ads]) x v:=fun r=>
 Rep.tr (fun zz zz hoff e q=>⟨b7j ha hoff e q,e⟩) (fun zz zz e=>by rw [List.getElem?_append_left (List.getElem?_eq_some_iff.mp e).1];exact e) r
theorem Reps.adopt{ads:List Addr}(ha:∀ a∈ads,∀ o,h.get? a=some o->∀ xs n,o.data≠.seq xs n):∀ {l:List V} {vs:List Value},Reps h as l vs->Reps h (as++[ads]) l vs:=fun r=>
 Reps.tr (fun zz zz hoff e q=>⟨b7j ha hoff e q,e⟩) (fun zz zz e=>by rw [List.getElem?_append_left (List.getElem?_eq_some_iff.mp e).1];exact e) r
theorem GR.adopt(g:GR Lx base μ as h){ads:List Addr}{m:M}(hoff:∀ a∈ads,Off base as h a)(nd:ads.Nodup)(hm:e0q Lx h (as++[ads]) m ads):GR Lx base (μ++[m]) (as++[ads]) h:=by
 have hk:∀ a∈ads,∀ o,h.get? a=some o->∀ xs n,o.data≠.seq xs n:=fun a ha o e=>by
  obtain⟨_,_,o',e',r⟩:=hoff a ha;rw [e]at e';obtain rfl:=Option.some.inj e';exact r
 refine⟨g.keep,fun b hb=>?_,?_,fun b hb=>?_,by rw [List.length_append,List.length_append,g.len];rfl,fun j M ads' hj hads=>?_⟩
 ·rw [List.flatten_append,List.mem_append]at hb
  rcases hb with hb | hb
  ·exact g.fresh b hb
  ·exact(hoff b (by simpa using hb)).2.1
 ·rw [List.flatten_append,List.nodup_append]
  refine⟨g.nd,by simpa using nd,fun a ha b hb q=>?_⟩;subst q;exact(hoff a (by simpa using hb)).1 ha
 ·rw [List.flatten_append,List.mem_append]at hb
  rcases hb with hb | hb
  ·exact g.alive b hb
  ·obtain⟨_,_,o,e,_⟩:=hoff b (by simpa using hb);exact⟨o,e⟩
 ·by_cases q:j<μ.length
  ·rw [List.getElem?_append_left q]at hj
   rw [List.getElem?_append_left (by rw [g.len];omega)]at hads;have hM:=g.mus j M ads' hj hads;induction M using Mine.M.casesOn with
   | list l'=>
    obtain⟨b,us,rfl,hp,hr⟩:=hM;exact⟨b,us,rfl,hp,hr.adopt hk⟩
   | obj is n'=>exact let⟨rs,e1,e2⟩:=hM;⟨rs,b1d (fun j l e=>by rw [List.getElem?_append_left (List.getElem?_eq_some_iff.mp e).1];exact e) e1,e2⟩
  ·have hj':j=μ.length:=by
    have:=(List.getElem?_eq_some_iff.mp hj).1;simp at this;omega
   subst hj';rw [List.getElem?_append_right (Nat.le_refl _)]at hj;rw [List.getElem?_append_right (by rw [g.len];omega)]at hads;have hz:μ.length+1-as.length=0:=by rw [g.len];omega
   rw [hz]at hads;simp only [Nat.sub_self,List.getElem?_cons_zero,Option.some.injEq]at hj hads;subst hj;subst hads;exact hm
theorem Off.adopt{ads:List Addr}{a:Addr}(x:Off base as h a)(hn:a∉ads):Off base (as++[ads]) h a:=
 ⟨fun q=>by
  rw [List.flatten_append,List.mem_append]at q;rcases q with q | q
  ·exact x.1 q
  ·exact hn (by simpa using q),x.2⟩
end
end
section
section
variable{base:Heap}{B:LB base}{lm:LamT}{P:Addr}{μ:Mu}{h h':Heap}{as:List (List Addr)}
theorem b1n{is:List Nat}{n:Int}(g:GR (a1f B lm P) base μ as h)(h0:μ[0]?=some (.obj is n))(hn:n = -1∨n = -8∨n = -5):as[1]?=some [P]/\∃ rs,b7v as is=some rs/\TabAt lm P h [P] rs n:=by
 obtain⟨ads,ha⟩:∃ ads,as[1]?=some ads:=by
  have:=(List.getElem?_eq_some_iff.mp h0).1;exact⟨as[1]'(by rw [g.len];omega),List.getElem?_eq_getElem _⟩
 obtain⟨rs,e1,e2⟩:=g.mus 0 _ _ h0 ha;rcases e2 with⟨z,_⟩ | ⟨z,_⟩ | ⟨z,_⟩ | ⟨z,_⟩ | ⟨z,_⟩ | ⟨_,x⟩
 any_goals omega
 have e:=x.1;subst e;exact⟨ha,rs,e1,x⟩
theorem c8v{a:Addr}(g:GR (a1f B lm P) base μ as h)(kp:∀ b o,base.get? b=some o->h.get? b=some o)(hn:h.get? a=none):a∉as.flatten/\base.get? a=none:=
 ⟨fun q=>(by obtain⟨o,e⟩:=g.alive a q;rw [hn]at e;exact ns e),by
  induction q:base.get? a using Option.casesOn with
  | none=>rfl
  | some o=>have:=kp a o q;rw [hn]at this;exact ns this⟩
theorem d2q{F FD:Addr}{md:Str->Option Value}(x:a9j h F FD md):(∃ o,h.get? F=some o/\∀ xs n,o.data≠.seq xs n)/\∃ o,h.get? FD=some o/\∀ xs n,o.data≠.seq xs n:=by
 obtain⟨⟨fd,sl,e⟩,hn⟩:=x;exact⟨⟨_,e,fun zz zz q=>by cases q⟩,Ns.get hn⟩
theorem b6r{L LC F FD G cG LL:Addr}{m:Str->Option Value}{kl kc:Nat}{q1 q2:List Addr}{h0:Heap}(g:GR (a1f B lm P) base μ as h')(M:d9w lm P L LC m h0 h' F FD G cG)(hcell:h'.IsCell LC (some (.ref LL)))
  (oF:F∉as.flatten/\base.get? F=none) (oFD:FD∉as.flatten/\base.get? FD=none) (oG:G∉as.flatten/\base.get? G=none) (oC:LC∉as.flatten/\base.get? LC=none) (hC:LC∉[F,FD,G])
  (hl:as[kl+1]?=some (LL::q1)) (hc:as[kc+1]?=some (cG::q2)):GR (a1f B lm P) base (μ++[.obj [kl,kc] (-3)]) (as++[[F,FD,G,LC]]) h':=by
 obtain⟨md,hfd,hmd⟩:=M.fn;obtain⟨pm,ctv,hG⟩:=M.lam;obtain⟨f1,f2⟩:=d2q hfd;refine g.adopt (m:=.obj [kl,kc] (-3)) (fun a ha=>?_) ?_ ⟨[LL,cG],?_,.inr (.inl ⟨rfl,F,FD,G,LC,cG,LL,pm,ctv,md,rfl,rfl,hfd,hmd,hG,hcell⟩)⟩
 ·simp only [List.mem_cons,List.not_mem_nil,or_false]at ha
  rcases ha with rfl | rfl | rfl | rfl
  ·exact⟨oF.1,oF.2,f1⟩
  ·exact⟨oFD.1,oFD.2,f2⟩
  ·exact⟨oG.1,oG.2,_,hG,fun zz zz q=>by cases q⟩
  ·obtain⟨oc,e,hd⟩:=hcell
   exact⟨oC.1,oC.2,oc,e,fun zz zz q=>by rw [hd]at q;cases q⟩
 ·have:=M.nd
  simp only [List.nodup_cons,List.mem_cons,List.not_mem_nil,or_false,not_or,List.nodup_nil,and_true,not_false_eq_true]at this hC ⊢;exact⟨⟨this.1.1,this.1.2,fun q=>hC.1 q.symm⟩,⟨this.2,fun q=>hC.2.1 q.symm⟩,fun q=>hC.2.2 q.symm⟩
 ·unfold b7v
  simp only [a1k];rw [List.getElem?_append_left (List.getElem?_eq_some_iff.mp hl).1,List.getElem?_append_left (List.getElem?_eq_some_iff.mp hc).1,hl,hc];rfl
theorem c2z{L LC F FD G cG c1 LL:Addr}{m:Str->Option Value}{kl kc:Nat}{q1:List Addr}(g:GR (a1f B lm P) base μ as h)(h0:μ[0]?=some (.obj [kc] (-5)))(M:d9w lm P L LC m h h' F FD G cG)(htab:h.get? P=some (d0d lm c1 cG))(htab':h'.get? P=some (d0d lm c1 cG))(hcell:h.IsCell LC (some (.ref LL)))
  (oL:Off base as h L) (oC:Off base as h LC) (hLC:LC≠L) (hl:as[kl+1]?=some (LL::q1)) :
  GR (a1f B lm P) base (μ++[.obj [kl,kc] (-3)]) (as++[[F,FD,G,LC]]) h':=by
 obtain⟨hP,rs,er,hT⟩:=b1n g h0 (.inr (.inr rfl));have hPm:P∈as.flatten:=List.mem_flatten.mpr ⟨[P],List.mem_of_getElem? hP,by simp⟩;have hcP:LC≠P:=fun q=>oC.1 (q▸hPm);have hc:∃ q2,as[kc+1]?=some (cG::q2):=by
  rcases hT.2 with⟨z,_⟩ | z | ⟨_,c1',c2',e1,e2⟩
  ·exact absurd z (by decide)
  ·exact absurd z (by decide)
  ·rw [htab]at e2
   simp only [d0d,Option.some.injEq,Obj.mk.injEq,Data.fields.injEq,Array.mk.injEq,List.cons.injEq,Value.ref.injEq,true_and,and_true]at e2;rw [e1,← e2.2]at er;unfold b7v at er;simp only [a1k]at er;induction hl:as[kc+1]? using Option.casesOn with
   | none=>rw [hl]at er;simp at er
   | some l=>
    rw [hl]at er;induction l using List.casesOn with
    | nil=>simp at er
    | cons b q=>simp at er;exact⟨q,by rw [er]⟩
 obtain⟨q2,hc⟩:=hc;obtain⟨g1,_⟩:=g.upd2 (h':=h') (fr:=[L]) (m:=.obj [kc] (-5)) hP (List.getElem?_eq_some_iff.mp h0).1 (fun a ha=>by simp only [List.mem_singleton]at ha;subst ha;exact oL)
  (fun b o hb hb2 e=>M.same b o (by simpa using hb2) (by simpa using hb) e) (fun a ha=>by simp only [List.mem_singleton]at ha;subst ha;exact⟨_,htab'⟩)
  (fun ks=>⟨[cG],by unfold b7v;simp only [a1k,hc,Option.bind_some,List.head?_cons],.inr (.inr (.inr (.inr (.inr ⟨.inr (.inr rfl),rfl,.inr (.inr ⟨rfl,c1,cG,rfl,htab'⟩)⟩))))⟩)
 have e0:μ.set 0 (.obj [kc] (-5))=μ:=by
  obtain⟨hh,e⟩:=List.getElem?_eq_some_iff.mp h0;rw [← e];exact List.set_getElem_self hh
 rw [e0]at g1;have nn:∀ a,h.get? a=none->a∉as.flatten/\base.get? a=none:=fun a ha=>c8v g g.keep ha;obtain⟨oc,hoc,hdc⟩:=hcell;refine b6r g1 M ⟨oc,M.same LC oc hLC hcP hoc,hdc⟩ (nn _ M.newF) (nn _ M.newFD) (nn _ M.newG) ⟨oC.1,oC.2.1⟩ (fun q=>?_) hl hc;simp only [List.mem_cons,List.not_mem_nil,or_false]at q;rcases q with q | q | q
 ·have:=M.newF;rw [← q,hoc]at this;cases this
 ·have:=M.newFD;rw [← q,hoc]at this;cases this
 ·have:=M.newG;rw [← q,hoc]at this;cases this
theorem c2u{L LC F FD G cG c1 LL:Addr}{m:Str->Option Value}{kl:Nat}{q1:List Addr}(g:GR (a1f B lm P) base μ as h)(h0:μ[0]?=some (.obj [] (-1)))(M:d9w lm P L LC m h h' F FD G cG)(htab':h'.get? P=some (d0d lm c1 cG))(hnew:h.get? cG=none)(hcode:h'.CodeRec (.ref cG) lm.qual)(hcG:cG∉[F,FD,G])
  (hcell:h.IsCell LC (some (.ref LL))) (oL:Off base as h L) (oC:Off base as h LC) (hLC:LC≠L) (hl:as[kl+1]?=some (LL::q1)) :
  GR (a1f B lm P) base (μ.set 0 (.obj [μ.length] (-5))++[.obj [] (-6)]++[.obj [kl,μ.length] (-3)]) (as++[[cG]]++[[F,FD,G,LC]]) h':=by
 obtain⟨hP,_⟩:=b1n g h0 (.inl rfl);have hPm:P∈as.flatten:=List.mem_flatten.mpr ⟨[P],List.mem_of_getElem? hP,by simp⟩;have hcP:LC≠P:=fun q=>oC.1 (q▸hPm);have h0l:=(List.getElem?_eq_some_iff.mp h0).1;obtain⟨g1,_⟩:=g.upd2 (h':=h') (fr:=[L]) (m:=.obj [] (-8)) hP h0l (fun a ha=>by simp only [List.mem_singleton]at ha;subst ha;exact oL)
  (fun b o hb hb2 e=>M.same b o (by simpa using hb2) (by simpa using hb) e) (fun a ha=>by simp only [List.mem_singleton]at ha;subst ha;exact⟨_,htab'⟩)
  (fun ks=>⟨[],rfl,.inr (.inr (.inr (.inr (.inr ⟨.inr (.inl rfl),rfl,.inr (.inl rfl)⟩))))⟩)
 have nn:∀ a,h.get? a=none->a∉as.flatten/\base.get? a=none:=fun a ha=>c8v g g.keep ha;have kc:∃ o,h'.get? cG=some o/\∀ xs n,o.data≠.seq xs n:=by
  obtain⟨c,o,vs,t,e,ho,hd,_⟩:=hcode;cases e;exact⟨o,ho,fun zz zz q=>by rw [hd]at q;cases q⟩
 have g2:=g1.adopt (ads:=[cG]) (m:=.obj [] (-6)) (fun a ha=>by
  simp only [List.mem_singleton]at ha;subst ha;exact⟨(nn _ hnew).1,(nn _ hnew).2,kc⟩) (by simp) ⟨[],rfl,.inr (.inr (.inr (.inr (.inl ⟨rfl,cG,rfl,hcode⟩))))⟩
 have hP2:(as++[[cG]])[1]?=some [P]:=by rw [List.getElem?_append_left (List.getElem?_eq_some_iff.mp hP).1];exact hP
 have hc2:(as++[[cG]])[μ.length+1]?=some [cG]:=by rw [List.getElem?_append_right (by rw [g.len];omega),g.len];simp
 obtain⟨g3,_⟩:=g2.upd2 (k:=0) (h':=h') (fr:=[]) (m:=.obj [μ.length] (-5)) hP2 (by simp) (fun a ha=>by cases ha)
  (fun b o zz zz e=>e) (fun a ha=>by simp only [List.mem_singleton]at ha;subst ha;exact⟨_,htab'⟩)
  (fun ks=>⟨[cG],by unfold b7v;simp only [a1k,hc2,Option.bind_some,List.head?_cons],.inr (.inr (.inr (.inr (.inr ⟨.inr (.inr rfl),rfl,.inr (.inr ⟨rfl,c1,cG,rfl,htab'⟩)⟩))))⟩)
 have e1:(μ.set 0 (.obj [] (-8))++[Mine.M.obj [] (-6)]).set 0 (.obj [μ.length] (-5))=μ.set 0 (.obj [μ.length] (-5))++[.obj [] (-6)]:=by
  rw [List.set_append_left _ _ (by simpa using h0l),List.set_set]
 rw [e1]at g3;have nn2:∀ a,h.get? a=none->a≠cG->a∉(as++[[cG]]).flatten/\base.get? a=none:=fun a ha hne=>⟨fun q=>by
  rw [List.flatten_append,List.mem_append]at q;rcases q with q | q
  ·exact(nn a ha).1 q
  ·exact hne (by simpa using q),(nn a ha).2⟩
 simp only [List.mem_cons,List.not_mem_nil,or_false,not_or]at hcG;obtain⟨oc,hoc,hdc⟩:=hcell;refine b6r (q1:=q1) g3 M ⟨oc,M.same LC oc hLC hcP hoc,hdc⟩ (nn2 _ M.newF (fun q=>hcG.1 q.symm)) (nn2 _ M.newFD (fun q=>hcG.2.1 q.symm)) (nn2 _ M.newG (fun q=>hcG.2.2 q.symm)) ⟨fun q=>?_,oC.2.1⟩ (fun q=>?_) ?_ hc2
 ·rw [List.flatten_append,List.mem_append]at q
  rcases q with q | q
  ·exact oC.1 q
  ·have q:LC=cG:=by simpa using q
   rw [q,hnew]at hoc;exact ns hoc
 ·simp only [List.mem_cons,List.not_mem_nil,or_false]at q
  rcases q with q | q | q
  ·have:=M.newF;rw [← q,hoc]at this;cases this
  ·have:=M.newFD;rw [← q,hoc]at this;cases this
  ·have:=M.newG;rw [← q,hoc]at this;cases this
 ·rw [List.getElem?_append_left (List.getElem?_eq_some_iff.mp hl).1];exact hl
end
end
section
section
variable{prog:Program}{w:World}{Lx:LxP}{base:Heap}{μ:Mu}{n:Nat}
theorem b8m {t:List Nat} (hz:t.length<=big):CallOK prog w Lx base n (.type "list") [.str t] μ (.mut μ.length) (μ++[.list (t.map fun c=>.str [c])]):=fun A E s as vs Q rm g ra hQ=>by
 obtain⟨v,r,rfl,⟨tk,rfl⟩,rfl⟩:=ra;refine call_list_str rm.calm _ _ (fun h' tk' acc' c' hk hS' hacc=>?_) (by rw [sizeLine_eq];unfold big at hz;simpa using by omega);have hr:Reps h' (as++[[s.heap.objs.size]]) (t.map fun c=>V.str [c]) acc'.toList:=by
  obtain⟨a1,a2⟩:=hacc;have h1:acc'.toList.length=t.length:=by simpa using a1
  have h2:∀(j:Nat) (v:Value),acc'.toList[j]?=some v->∃ c tk,t[j]?=some c/\v=.str ⟨#[c]⟩ tk:=fun j v hv=>by
   obtain⟨c,u,hc,rfl⟩:=a2 j v (by simpa using hv);exact⟨c,u,by simpa using hc,rfl⟩
  clear hS' hQ hz a1 a2;generalize acc'.toList=l at h1 h2;induction t generalizing l with
  | nil=>
   have:l=[]:=List.eq_nil_of_length_eq_zero (by simpa using h1);subst this;simp [Reps]
  | cons c t ih=>
   induction l using List.casesOn with
   | nil=>simp at h1
   | cons v l=>
    obtain⟨c',tk2,e1,rfl⟩:=h2 0 v (by simp);simp only [List.getElem?_cons_zero,Option.some.injEq]at e1;subst e1;refine Reps.cons (⟨tk2,rfl⟩) (ih l (by simpa using h1) fun j v hv=>?_);simpa using h2 (j+1) v (by simpa using hv)
 obtain⟨g',go⟩:=g.new (h':=h') (ads:=[s.heap.objs.size]) (m:=.list (t.map fun c=>V.str [c])) hk (fun a ha=>by simp only [List.mem_singleton]at ha;subst ha;exact a0y _) (by simp)
  (fun a ha=>by simp only [List.mem_singleton]at ha;subst ha;exact⟨_,hS'⟩) ⟨_,acc'.toList,rfl,⟨c',by simpa using hS'⟩,hr⟩
 refine hQ _ _ h' tk' g' go ?_;refine⟨s.heap.objs.size,[],?_,rfl⟩;rw [List.getElem?_append_right (by rw [g.len];omega),g.len];simp
end
structure e3e(base:Heap)(lm:LamT)(P:Addr)(tbl:List Str)(jt jl il:Nat) where
 a:Addr
 o:Obj
 fd:FuncData
 mg:Str->Option Value
 s1:Stmt
 par0:Arguments
 b0:Expr
 sc0:Scope
 p1:Pos
 p2:Pos
 p3:Pos
 q1:Pos
 q2:Pos
 rest:List Stmt
 at':base.get? a=some o
 data:o.data=.func fd
 code:base.CodeRec fd.code fd.qualname
 head:∃ c,fd.code=.ref c/\CodeHd base c P
 body:fd.body=.stmts (s1::.Assign [.Name "stream" p1] (.Lambda par0 b0 sc0 lm.pos0) q1::.Assign [.Attribute (.Name "stream" p2) "read" p3] (.Lambda lm.params lm.body lm.scope lm.pos) q2::rest)
 src:c0x lm par0 sc0
 glob:fd.globals=mainGlobals
 built:fd.builtins=builtinsNs
 clos:fd.closure=[]
 coro:fd.scope.isCoroutine=false
 gen:fd.scope.isGenerator=false
 kind:fd.scope.kind=.function
 qual:fd.qualname++".<locals>."++"<lambda>" = lm.qual
 bind:∀ vals:List Value,vals.length=[("text":Str)].length->bindArgs fd ⟨vals,[]⟩=pure ([("text":Str)].zip vals)
 text:nid tbl "text" = some jt
 letters:nid tbl "letters" = some jl
 stream:(nid tbl "stream").isSome=true
 ktext:fd.scope.names.lookup ("text":Str)=some NameKind.local
 kletters:fd.scope.names.lookup ("letters":Str)=some NameKind.cell
 kstream:fd.scope.names.lookup ("stream":Str)=some NameKind.local
 nofree:∀ p∈fd.scope.names,p.2≠.free
 own:∀ x,a1g fd.scope x=true->(nid tbl x).isSome=true
 calm:∀ L,interactive (callEnvC fd L a)=false
 tr:∃ mt k,trS tbl mt k fd.scope s1=some (.assign jl (.call il [.slc (.loc jt) .none .none (some (.neg (.cst (.int 1))))]))
 ne:jt≠jl
 g:base.Ns mainGlobals mg
 b:base.BuiltinsAt mg P
section
variable{prog:Program}{w:World}{base:Heap}{B:LB base}{lm:LamT}{P:Addr}{Γ:G}{μ:Mu}{as:List (List Addr)}{A:Around}{s:Shared}{jt jl il:Nat}
theorem c7t{t:List Nat}(hz:t.length<=big):a1y (.str t) .none .none (some (-1))=some (.str t.reverse):=by
 have e:((List.range t.length).map fun k=>t.length-1-k).filterMap (t[·]?)=t.reverse:=by
  rw [List.filterMap_map];have:∀ k∈List.range t.length,((t[·]?)∘fun k=>t.length-1-k) k=some (t.reverse.getD k 0):=fun k hk=>by
   have hk:k<t.length:=by simpa using hk
   have h2:t.length-1-k<t.length:=by omega
   simp only [Function.comp_apply,List.getElem?_eq_getElem h2,List.getD_eq_getElem?_getD];rw [List.getElem?_reverse hk,List.getElem?_eq_getElem h2];rfl
  have e2:∀ l:List Nat,(∀ k∈l,((t[·]?)∘fun k=>t.length-1-k) k=some (t.reverse.getD k 0))->l.filterMap ((t[·]?)∘fun k=>t.length-1-k)=l.map fun k=>t.reverse.getD k 0:=fun l=>by
   induction l with
   | nil=>intro _;rfl
   | cons a l ih=>
    intro h;rw [List.filterMap_cons,h a (by simp),List.map_cons,ih fun k hk=>h k (by simp [hk])]
  rw [e2 _ this];refine List.ext_getElem (by simp) fun j h1 h2=>?_;simp at h1;simp [h1]
 unfold a1y;rw [if_neg (by decide)];simp only [Option.getD_some,picked_rev,e];rw [if_pos ⟨hz,by simpa using hz⟩,if_neg (fun q=>by rw [Bool.and_eq_true]at q;exact absurd q.1 (by decide))]
theorem mkS{o:Option M}{q:Option (Nat×Mu)}{f:Nat->Option (Nat×Mu)}{r:Nat×Mu}{G:Prop}(h:(match o with | some (.obj [] (-1))=>q | some (.obj [kc] (-5))=>f kc | _=>.none)=some r)(k1:o=some (.obj [] (-1))->q=some r->G)(k2:∀ kc,o=some (.obj [kc] (-5))->f kc=some r->G):G:=by
 induction o using Option.casesOn with
 | none=>exact ns h
 | some m=>induction m using Mine.M.casesOn with
  | list _=>exact ns h
  | obj is n=>induction n using Int.casesOn with
   | ofNat _=>induction is using List.casesOn with
    | nil=>exact ns h
    | cons a is=>cases is<;>exact ns h
   | negSucc m=>induction is using List.casesOn with
    | nil=>induction m using Nat.casesOn with
     | zero=>exact k1 rfl h
     | succ _=>exact ns h
    | cons a is=>induction is using List.casesOn with
     | nil=>rcases m with _ | _ | _ | _ | _ | m<;>first | exact ns h | exact k2 a rfl h
     | cons _ _=>exact ns h
theorem fl4{p:Addr->Prop}{a b c d:Addr}(h1:p a)(h2:p b)(h3:p c)(h4:p d):∀ x∈([[a,b,c,d]]:List (List Addr)).flatten,p x:=
 List.forall_mem_cons.mpr ⟨h1,List.forall_mem_cons.mpr ⟨h2,List.forall_mem_cons.mpr ⟨h3,List.forall_mem_cons.mpr ⟨h4,fun zz h=>nomatch h⟩⟩⟩⟩
theorem fl5{p:Addr->Prop}{e a b c d:Addr}(h0:p e)(h1:p a)(h2:p b)(h3:p c)(h4:p d):∀ x∈([[e]]++[[a,b,c,d]]:List (List Addr)).flatten,p x:=
 List.forall_mem_cons.mpr ⟨h0,fl4 h1 h2 h3 h4⟩
theorem b9a(S:Snd prog w (a1f B lm P) base Γ)(hoff:Γ.lexOn=false)(nd:∀(i j:Nat) (x:Str),Γ.tbl[i]?=some x->Γ.tbl[j]?=some x->i=j)(hbig:base.NoLimit)
  (hlist:∀ n t μ,t.length<=big->Γ.call n il [.str t] μ=some (.mut μ.length,μ++[.list (t.map fun c=>.str [c])])) (T:e3e base lm P Γ.tbl jt jl il) (hPoff:base.get? P=none)
  {t:List Nat} {ks:Nat} {μ':Mu} {tv:Value} {R:Result->Shared->Prop} (ht:a6p μ t=some (ks,μ')) (rm:Room A 11) (g:GR (a1f B lm P) base μ as s.heap) (rt:Rep s.heap as (.str t) tv)
  (hR:∀(L:Addr) (m':Str->Option Value) (as':List (List Addr)) (h':Heap) (tk:Nat) (F:Addr) (q:List Addr),GR (a1f B lm P) base μ' as' h'->Go as s.heap as' h'->as'[ks+1]?=some (F::q)->h'.Ns L m'->L∉as'.flatten->s.heap.get? L=none->(callEnvC T.fd s.heap.objs.size T.a).locals=L->m' "stream" = some (.ref F) →
   wpAny (model prog w) (A.deeper (callEnvC T.fd s.heap.objs.size T.a)) (execs T.rest (callEnvC T.fd s.heap.objs.size T.a)) (fun f s'=>R (.ok (.ret (match f with | .ret v=>v | _=>.none))) s')
    (fun e s'=>wpAny (model prog w) (A.deeper (callEnvC T.fd s.heap.objs.size T.a)) (leaving (callEnvC T.fd s.heap.objs.size T.a) e) (fun zz s''=>R (.error e) s'') (fun e' s''=>R (.error e') s'') s') { s with heap:=h',toks:=tk}) :
  codeAny (model prog w) A (.call (.ref T.a) ⟨[tv],[]⟩) R s:=by
 have hz:t.length<=big:=ifS ht fun hz zz=>hz;have rm':∀ env,Room (A.deeper env) 10:=fun env=>⟨rm.calm,by show A.depth+1+10<=900;have:=rm.depth;omega,by show A.units+3+10 * 10<=9000;have:=rm.units;omega⟩;have hkn:∀ x∈[("text":Str)],T.fd.scope.names.lookup x=some .local∨T.fd.scope.names.lookup x=some .cell:=fun x hx=>by rw [List.mem_singleton]at hx;subst hx;exact .inl T.ktext
 refine codeAny_call_cells (by have:=rm.depth;show A.depth<1000;omega) (g.keep _ _ T.at') T.data (hbig.keeps fun b o e=>g.keep b o e) (T.code.keeps fun b o e=>g.keep b o e) T.body (T.bind [tv] rfl) T.clos (fun x hx=>?_) (fun sI x=>?_) T.coro T.gen T.kind
 ·rcases hkn x.1 (List.of_mem_zip hx).1 with q | q
  ·exact .inl q
  ·exact .inr ⟨q,a2l _ _ _ q⟩
 obtain⟨hY,tkI,eI,hkeep⟩:=x.done;have gI:GR (a1f B lm P) base μ as sI.heap/\Go as s.heap as sI.heap:=g.all fun a o zz e=>x.toInCall.keep a o e;obtain⟨gI,goI⟩:=gI;have er:=b4d (tbl:=Γ.tbl) (names:=["text"]) (is:=[jt]) (args:=[.str t]) (vals:=[tv]) (a:=T.a) T.kind T.glob T.built T.nofree (by decide) (by simp only [a1k,T.text]) x rfl g (Reps.cons (rt.go goI) .nil)
 obtain⟨env,henv⟩:∃ env,env=callEnvC T.fd s.heap.objs.size T.a:=⟨_,rfl⟩;have hwf:∀ b,Wf Γ.tbl env b->s.heap.get? b=.none:=by
  intro b hb;have:s.heap.objs.size<=b:=by
   rw [henv]at hb;rcases hb with rfl | ⟨i,y,_,_,hc⟩
   ·exact x.toInCall.fresh
   ·exact Nat.le_of_lt (Nat.lt_of_le_of_lt x.toInCall.fresh (x.above _ _ (mem_of_lookup hc)))
  induction q:s.heap.get? b using Option.casesOn with
  | none=>rfl
  | some o=>exact absurd (Heap.lt_size q) (Nat.not_lt.mpr this)
 rw [← henv]at er hR ⊢;rw [eI];rw [eI]at gI er;obtain⟨mt,k,tr⟩:=T.tr;have hsc:env.scope=T.fd.scope:=by rw [henv];rfl
 rw [← hsc]at tr;have htext:([(jt,V.str t)]:Rho).lookup jt=some (.str t):=by simp [List.lookup]
 have step:a0d Γ 10 (.assign jl (.call il [.slc (.loc jt) .none .none (some (.neg (.cst (.int 1))))])) [(jt,.str t)] μ=some (.next,put jl (.mut μ.length) [(jt,.str t)],μ++[.list (chars t)]):=by
  have e:ev Γ 9 (.slc (.loc jt) .none .none (some (.neg (.cst (.int 1))))) [(jt,.str t)] μ=some (.str t.reverse,μ):=by
   simp only [c2x,c3p,c4a,b9i,c2n,b9c,b8n,b9f,b8y,b1k,b8h,b1g,b0y,b0n,b1q,a8j,b0w,b8q,htext,Option.map_some,evo,b5k,e6z,e6g,e4y,e7v,e4b,e7n,d9x,e2v];rw [c7t hz];rfl
  simp only [a9w,a9z,d2n,d1t,d2o,d2t,b9s,b4b];rw [show ev Γ 10 (.call il [.slc (.loc jt) .none .none (some (.neg (.cst (.int 1))))]) [(jt,.str t)] μ=Γ.call 9 il [.str t.reverse] μ from by
   show(match evs (fun x μ=>ev Γ 9 x [(jt,.str t)] μ) [.slc (.loc jt) .none .none (some (.neg (.cst (.int 1))))] μ with | some (vs,μ)=>Γ.call 9 il vs μ | .none=>.none)=_
   simp only [evs,e]]
  rw [hlist 9 t.reverse μ (by simpa using hz)];rfl
 refine wpAny_execs_cons (b8d S nd (e4c hoff 10) (a6v S nd (e4c hoff) 10) tr (by rw [hsc];exact T.own) (by rw [henv];exact T.calm _) (rm' env) ⟨fun zz q=>q,fun zz q=>q,fun zz q=>q⟩ er gI step fun fl asJ hJ tkJ gJ erJ gsJ fr=>?_);induction fl using PySem.Flow.casesOn<;>try exact fr.elim
 refine e5e fun G0 hG=>?_;have hkl:env.kindOf "letters" = some .cell:=by rw [henv];exact T.kletters
 obtain⟨LC,u,hLC,hLCo,hLCb,hcell,hval⟩:=erJ.cel jl "letters" (a0o T.letters) (.inl hkl)
 obtain⟨u',rfl,hu⟩:=hval (.mut μ.length) (by rw [a0b,if_pos rfl]);obtain⟨LL,q1,hLL,rfl⟩:=hu;obtain⟨m,hns,_⟩:=erJ.loc;have oL:Off base asJ hJ env.locals:=⟨erJ.off.1,erJ.off.2,Ns.get hns⟩;have oC:Off base asJ hJ LC:=⟨hLCo,hLCb,by obtain⟨oc,e,hd⟩:=hcell;exact⟨oc,e,fun zz zz q=>by rw [hd]at q;cases q⟩⟩;have hLCL:LC≠env.locals:=fun q=>by
  obtain⟨oc,e,hd⟩:=hcell;obtain⟨o,es,ep,e1,e2,_⟩:=hns;rw [q,e1]at e;cases e;rw [e2]at hd;cases hd
 have V:b9t base lm P T.mg env:=⟨erJ.kind,erJ.glob,by rw [henv];exact T.head,T.g,T.b,hPoff,by rw [henv];exact T.kstream,by rw [henv];exact T.qual⟩;have hL0:s.heap.get? env.locals=none:=hwf _ (.inl rfl);have hC0:s.heap.get? LC=none:=hwf _ (.inr ⟨jl,"letters",a0o T.letters,.inl hkl,hLC⟩)
 obtain⟨nw,hnw,hnwf⟩:=gsJ.ext;have goAll:∀ {as':List (List Addr)} {h':Heap} {nw2:List (List Addr)} {F FD G cG:Addr} {μ'':Mu},GR (a1f B lm P) base μ'' as' h'->d9w lm P env.locals LC m hJ h' F FD G cG->as[1]?=some [P]->as'=asJ++nw2->(∀ a∈nw2.flatten,hJ.get? a=none∨a=LC)->Go as s.heap as' h':=by
  intro as' h' nw2 F FD G cG μ'' g' MD hP ha hn;have hPt:P∈as.tail.flatten:=List.mem_flatten.mpr ⟨[P],by
   have:as.tail[0]?=some [P]:=by rw [List.getElem?_tail];exact hP
   exact List.mem_of_getElem? this,by simp⟩
  have keep2:∀ a o,a∉as.tail.flatten->s.heap.get? a=some o->hJ.get? a=some o:=fun a o ha e=>
   gsJ.keep a o ha (fun q=>by rw [hwf a q]at e;exact ns e) (by have:=x.toInCall.keep a o e;rw [eI]at this;exact this)
  refine⟨⟨nw++nw2,by rw [ha,hnw,List.append_assoc],fun a ha=>?_⟩,fun a o ha e=>?_,g'.alive⟩
  ·rw [List.flatten_append,List.mem_append]at ha
   rcases ha with ha | ha
   ·induction q:s.heap.get? a using Option.casesOn with
    | none=>rfl
    | some o=>have:=hnwf a ha;have k:=x.toInCall.keep a o q;rw [eI]at k;simp only at this;rw [k]at this;cases this
   ·rcases hn a ha with hn | hn
    ·induction q:s.heap.get? a using Option.casesOn with
     | none=>rfl
     | some o=>
      by_cases hin:a∈as.tail.flatten
      ·obtain⟨o',e'⟩:=gJ.alive a (by rw [hnw,List.flatten_append];exact List.mem_append_left _ (a5f hin))
       rw [hn]at e';exact ns e'
      ·rw [keep2 a o hin q]at hn;cases hn
    ·rw [hn];exact hC0
  ·exact MD.same a o (fun q=>by rw [q,hL0]at e;exact ns e) (fun q=>ha (q▸hPt)) (keep2 a o ha e)
 have hlen2:asJ.length=μ.length+2:=by rw [gJ.len];simp
 have hLoff:∀ {as':List (List Addr)} {nw2:List (List Addr)},as'=asJ++nw2->(∀ a∈nw2.flatten,hJ.get? a=none∨a=LC)->env.locals∉as'.flatten:=by
  intro as' nw2 ha hn q;rw [ha,List.flatten_append,List.mem_append]at q;rcases q with q | q
  ·exact oL.1 q
  ·rcases hn _ q with hn | hn
   ·obtain⟨o,es,ep,e1,_⟩:=hns
    rw [hn]at e1;exact ns e1
   ·exact hLCL hn.symm
 refine mkS (o:=μ[0]?) ((if_pos hz).symm.trans ht) (fun h0 ht=>sp ht ?_) fun kc h0 ht=>sp ht ?_<;>clear ht
 ·intro e1 e2
  have h0':(μ++[Mine.M.list (chars t)])[0]?=some (.obj [] (-1)):=by rw [List.getElem?_append_left (List.getElem?_eq_some_iff.mp h0).1];exact h0
  obtain⟨hP1,rs,_,hT⟩:=b1n gJ h0' (.inl rfl);have hPs:as[1]?=some [P]:=(b1n g h0 (.inl rfl)).1;have htab:hJ.get? P=some (tabObj #[]):=by
   rcases hT.2 with⟨_,z⟩ | z | ⟨z,_⟩
   ·exact z
   ·exact absurd z (by decide)
   ·exact absurd z (by decide)
  refine hG ?_;refine c4n (s:={ s with heap:=hJ,toks:=tkJ}) (m:=m) T.src V gJ.keep hns oL.2.1 hLC htab fun h' tk F FD G cG c1 MD hP' hcGn hcode hcGd=>?_;have hg:=c2u gJ h0' MD hP' hcGn hcode hcGd hcell oL oC hLCL hLL;have hnn:=fl5 (p:=fun a=>hJ.get? a=none∨a=LC) (.inl hcGn) (.inl MD.newF) (.inl MD.newFD) (.inl MD.newG) (.inr rfl);have eμ:List.set (μ++[Mine.M.list (chars t)]) 0 (.obj [List.length (μ++[Mine.M.list (chars t)])] (-5))++[Mine.M.obj [] (-6)]++[Mine.M.obj [μ.length,List.length (μ++[Mine.M.list (chars t)])] (-3)]=μ.set 0 (.obj [μ.length+1] (-5))++[.list (chars t),.obj [] (-6),.obj [μ.length,μ.length+1] (-3)]:=by
   rw [List.set_append_left _ _ (List.getElem?_eq_some_iff.mp h0).1];simp
  obtain⟨m',hn',hs'⟩:=MD.ns;refine hR env.locals m' _ h' tk F [FD,G,LC] ((eμ.trans e2)▸hg) (goAll hg MD hPs (List.append_assoc _ _ _) hnn) ?_ hn' (hLoff (List.append_assoc _ _ _) hnn) hL0 rfl hs';rw [← e1,List.getElem?_append_right (by simp [hlen2]),List.length_append,hlen2];simp
 ·intro e1 e2
  have h0':(μ++[Mine.M.list (chars t)])[0]?=some (.obj [kc] (-5)):=by rw [List.getElem?_append_left (List.getElem?_eq_some_iff.mp h0).1];exact h0
  obtain⟨hP1,rs,_,hT⟩:=b1n gJ h0' (.inr (.inr rfl));have hPs:as[1]?=some [P]:=(b1n g h0 (.inr (.inr rfl))).1;obtain⟨c1,cG,htab⟩:∃ c1 cG,hJ.get? P=some (d0d lm c1 cG):=by
   rcases hT.2 with⟨z,_⟩ | z | ⟨_,c1,c2,_,z⟩
   ·exact absurd z (by decide)
   ·exact absurd z (by decide)
   ·exact⟨c1,c2,z⟩
  refine hG ?_;refine c3v (s:={ s with heap:=hJ,toks:=tkJ}) (m:=m) T.src V gJ.keep hns oL.2.1 hLC htab fun h' tk F FD G MD hP'=>?_;have hg:=c2z gJ h0' MD htab hP' hcell oL oC hLCL hLL;have hnn:=fl4 (p:=fun a=>hJ.get? a=none∨a=LC) (.inl MD.newF) (.inl MD.newFD) (.inl MD.newG) (.inr rfl);obtain⟨m',hn',hs'⟩:=MD.ns;refine hR env.locals m' _ h' tk F [FD,G,LC] (((List.append_assoc μ [.list (chars t)] [.obj [μ.length,kc] (-3)]).trans e2)▸hg) (goAll hg MD hPs rfl hnn) ?_ hn' (hLoff rfl hnn) hL0 rfl hs';rw [← e1,List.getElem?_append_right (by omega),hlen2];simp
end
end
section
section
variable{prog:Program}{w:World}{base:Heap}{B:LB base}{lm:LamT}{P:Addr}{Γ:G}{μ:Mu}{as:List (List Addr)}{A:Around}{E:Value->Shared->Prop}{s:Shared}{jt jl il:Nat}
noncomputable def b0i:List Str:=["lineno","instream","whitespace","pushback"]
structure LexH(C:Addr)(h:Heap)(X D:Addr)(mA:Str->Option Value):Prop where
 obj:∃ o,h.get? X=some o/\o.cls=.ref C/\(∀ c,o.data≠.cls c)/\o.dict=some D/\∀ xs n,o.data≠.seq xs n
 ne:D≠X
 ns:h.Ns1 D mA
 few:∀ y,mA y≠none->y∈b0i
theorem LexH.inst{C X D:Addr}{h:Heap}{mA:Str->Option Value}(x:LexH C h X D mA):h.Inst X C mA:=
 let⟨o,a,b,c,d,_⟩:=x.obj;⟨o,a,b,c,.inr ⟨D,d,x.ne,x.ns⟩⟩
theorem a6q {X D:Addr} {mA:Str->Option Value} {name:Str} {v:Value} {Q:Unit->Shared->Prop} (hname:name = "lineno" ∨ name = "instream" ∨ name = "whitespace" ∨ name = "pushback") (kp:∀ a o,base.get? a=some o->s.heap.get? a=some o) (x:LexH B.C s.heap X D mA) (hXC:X≠B.C)
  (hq:∀ h' tk,LexH B.C h' X D (fun y=>if y=name then some v else mA y)->(∀ b o,b≠X->b≠D->s.heap.get? b=some o->h'.get? b=some o)->Q () { s with heap:=h',toks:=tk}):wpAny (model prog w) A (setAttr (.ref X) name v) Q E s:=by
 obtain⟨hC⟩:=B.cls;obtain⟨o,hX,hc,hnc,hd,hsq⟩:=x.obj;have hin:name∈b0i:=by unfold b0i;rcases hname with rfl | rfl | rfl | rfl<;>simp
 refine store_attr PySem.F.store_object (kp _ _ hC) (Ns.keep B.ns kp) B.nsa (B.own _ hname) (c9m _ (by rcases hname with h | h | h | h<;>simp [h])) hXC x.inst (fun h' tk' I' hk' hsame=>?_) (ns:=b0i) x.few (by decide)
 obtain⟨oI,hoI,hcI,hdI,_,hdd⟩:=hsame o hX;have hdo:=hdd D hd;refine hq h' tk' ⟨⟨oI,hoI,by rw [hcI,hc],by rw [hdI];exact hnc,hdo,by rw [hdI];exact hsq⟩,x.ne,?_,fun y hy=>?_⟩ fun b ob h1 h2 e=>hk' b ob h1 (fun oO dx e0 e1=>?_) e
 ·obtain⟨o',h1,h2,h3,h4⟩:=I'
  rw [hoI]at h1;obtain rfl:=Option.some.inj h1;rcases h4 with⟨q,_⟩ | ⟨d,q1,q2,q3⟩
  ·rw [hdo]at q;cases q
  ·rw [hdo]at q1;obtain rfl:=Option.some.inj q1;exact q3
 ·by_cases hy':y=name
  ·rw [hy'];exact hin
  ·exact x.few y (by simpa [hy']using hy)
 ·rw [hX]at e0;obtain rfl:=Option.some.inj e0
  rw [hd]at e1;obtain rfl:=Option.some.inj e1;exact h2
end
end
section
structure b1r{base:Heap}(B:LB base) where
 fi:Addr
 o:Obj
 fd:FuncData
 pos:Nat->Pos
 kd:Nat->Nat
 at':base.get? fi=some o
 cls:o.cls=.type "function"
 data:o.data=.func fd
 code:base.CodeRec fd.code fd.qualname
 body:fd.body=.stmts [.Assign [.Attribute (.Name "self" (pos 0)) "lineno" (pos 1)] (.Constant (.int 1) (kd 0) (pos 2)) (pos 3),
  .Assign [.Attribute (.Name "self" (pos 4)) "instream" (pos 5)] (.Name "fp" (pos 6)) (pos 7),
  .Assign [.Attribute (.Name "self" (pos 8)) "whitespace" (pos 9)] (.Constant (.str (txt ws)) (kd 1) (pos 10)) (pos 11),
  .Assign [.Attribute (.Name "self" (pos 12)) "pushback" (pos 13)] (.List [] (pos 14)) (pos 15)]
 clos:fd.closure=[]
 coro:fd.scope.isCoroutine=false
 gen:fd.scope.isGenerator=false
 kind:fd.scope.kind=.function
 bind:∀ a b:Value,bindArgs fd ⟨[a,b],[]⟩=pure [(("self":Str),a),(("fp":Str),b)]
 kself:fd.scope.names.lookup ("self":Str)=some NameKind.local
 kfp:fd.scope.names.lookup ("fp":Str)=some NameKind.local
 init:B.mN "__init__" = some (.ref fi)
theorem neA{a b:Addr}(h:@Ne Nat a b):a≠b:=h
theorem c4c:typeLookup (.type "object") "__init__" = pure (some (.builtin "object.__init__")):=by rw [typeLookup_type,builtinLookup_eq_fast];kernel_rfl
section
variable{prog:Program}{w:World}{base:Heap}{B:LB base}{lm:LamT}{P:Addr}{Γ:G}{μ:Mu}{as:List (List Addr)}{A:Around}{E:Value->Shared->Prop}{s:Shared}
theorem Makes.keep{h h':Heap}{C:Addr}(Y:Makes (model prog w) h C)(k:∀ b o,h.get? b=some o->h'.get? b=some o):Makes (model prog w) h' C where
 obj:=let⟨oc,od,cd,sl,e,r⟩:=Y.obj;⟨oc,od,cd,sl,k _ _ e,r⟩
 made:=Y.made.keeps k
 base:=Y.base.keeps k
 self:=Y.self.keeps k
 top:=Y.top.keeps k
 call:=Y.call.keeps k
 typ:=Y.typ.keeps k
theorem c9j (I:b1r B) {h:Heap} (k:∀ b o,base.get? b=some o->h.get? b=some o):Looks (model prog w) h (typeLookup (.ref B.C) "__init__") (some (.ref I.fi)):=by
 intro A Q E s ks q;obtain⟨hC⟩:=B.cls;obtain⟨hh,g,d,t,os⟩:=s;refine wpAny_typeLookup_exc (ks _ _ (k _ _ hC)) (Ns.keep (Ns.keep B.ns k) ks) F.mro_object c4c ?_;rw [I.init];exact q
theorem c6y(I:b1r B){h:Heap}(k:∀ b o,base.get? b=some o->h.get? b=some o)(self:Value):Looks (model prog w) h (bindSpecial (.ref I.fi) self) (.ref I.fi,[self]):=by
 have ht:Looks (model prog w) h (typeOf (.ref I.fi)) (.type "function"):=by
  rw [← I.cls];exact(Looks.ld (k _ _ I.at')).andThen .now
 unfold bindSpecial;exact ht.andThen (Looks.of_pure (by kernel_rfl))
theorem b7x{h h':Heap}{X D L:Addr}{m:Str->Option Value}(hns:h.Ns L m)(h1:L≠X)(h2:L≠D)(s:∀ b o,b≠X->b≠D->h.get? b=some o->h'.get? b=some o):h'.Ns L m:=by
 obtain⟨o,es,ep,e,r⟩:=hns;exact⟨o,es,ep,s _ _ h1 h2 e,r⟩
theorem b7s{h h':Heap}{n:Nat}(hbn:∀ a:Nat,n<=a->base.get? a=none)(s:∀ b o,b≠n+1->b≠n->h.get? b=some o->h'.get? b=some o)(kb:∀ b o,base.get? b=some o->h.get? b=some o):∀ b o,base.get? b=some o->h'.get? b=some o:=fun b o e=>
 s b o (fun q=>ns ((hbn _ (Nat.le_succ n)).symm.trans (q▸e))) (fun q=>ns ((hbn _ (Nat.le_refl n)).symm.trans (q▸e))) (kb b o e)
theorem c1f(Y:Makes (model prog w) base B.C)(I:b1r B)(hbig:base.NoLimit){ks kl kc:Nat}{v:Value}{R:Result->Shared->Prop}(hd:A.depth<990)(hh:A.handled=.none)(g:GR (a1f B lm P) base μ as s.heap)(hs:μ[ks]?=some (.obj [kl,kc] (-3)))(rv:Rep s.heap as (.mut ks) v)
  (hQ:Post (a1f B lm P) base as s (.mut (μ.length+1)) (μ++a9e μ.length ks) fun v s'=>R (.ok (.ret v)) s') :
  codeAny (model prog w) A (.call (.ref B.C) ⟨[v],[]⟩) R s:=by
 obtain⟨h,gg,d,t,os⟩:=s;obtain⟨F,qF,hF,rfl⟩:=rv;have kp:=g.keep;refine make_core (Mine.Makes.keep Y kp) (c9j I kp) (fun self=>c6y I kp self) (.inl rfl) ?_;have k1:∀ b o,h.get? b=some o->((h.push emptyDict).push (instObj B.C h.objs.size)).get? b=some o:=fun b o e=>Heap.get?_push_of_some _ (Heap.get?_push_of_some _ e);have hx:((h.push emptyDict).push (instObj B.C h.objs.size)).get? (h.objs.size+1)=some (instObj B.C h.objs.size):=by
  have:(h.push emptyDict).objs.size=h.objs.size+1:=by simp [Heap.push]
  rw [← this];exact Heap.get?_push_size _ rfl
 have hdx:((h.push emptyDict).push (instObj B.C h.objs.size)).get? h.objs.size=some emptyDict:=Heap.get?_push_of_some _ (Heap.get?_push_size _ rfl);have hsz1:((h.push emptyDict).push (instObj B.C h.objs.size)).objs.size=h.objs.size+2:=by simp [Heap.push]
 generalize hh1:(h.push emptyDict).push (instObj B.C h.objs.size)=h1 at k1 hx hdx hsz1 ⊢;have kb:∀ b o,base.get? b=some o->h1.get? b=some o:=fun b o e=>k1 b o (kp b o e);refine codeAny_call_cells (s:=⟨h1,gg,d,t,os⟩) (by rw [depth_under_make];show A.depth+1<1000;omega) (kb _ _ I.at') I.data (hbig.keeps kb) (I.code.keeps kb) I.body (I.bind _ _) I.clos (fun x hx=>?_) (fun sI x=>?_) I.coro I.gen I.kind
 ·simp only [List.mem_cons,List.not_mem_nil,or_false]at hx
  rcases hx with rfl | rfl
  ·exact .inl I.kself
  ·exact .inl I.kfp
 obtain⟨env,henv⟩:∃ env,env=callEnvC I.fd h1.objs.size I.fi:=⟨_,rfl⟩;have kE:env.scope.kind=.function:=by rw [henv];exact I.kind
 have kS:env.kindOf "self" = some .local:=by rw [henv];exact I.kself
 have kF:env.kindOf "fp" = some .local:=by rw [henv];exact I.kfp
 obtain⟨h2,tk2,e2,_⟩:=x.done;have k2:∀ b o,h1.get? b=some o->h2.get? b=some o:=fun b o e=>by have:=x.toInCall.keep b o e;rw [e2]at this;exact this
 have hns:=x.toInCall.ns;have hLf:h1.objs.size<=(callEnvC I.fd h1.objs.size I.fi).locals:=x.toInCall.fresh;obtain⟨mL,hmL⟩:∃ mL,mL=bindL (callEnvC I.fd h1.objs.size I.fi).kindOf [(("self":Str),Value.ref (h.objs.size+1)),(("fp":Str),.ref F)] fun zz=>none:=⟨_,rfl⟩
 have ms:mL "self" = some (.ref (h.objs.size+1)):=by rw [hmL];exact b1w _ I.kself _ _ (by simp;decide) (by simp)
 have mf:mL "fp" = some (.ref F):=by rw [hmL];exact b1w _ I.kfp _ _ (by simp;decide) (by simp)
 rw [← henv]at hLf ⊢;rw [← hmL,← henv]at hns;rw [e2]at hns ⊢;clear x e2;have hns:h2.Ns env.locals mL:=hns;have hLf:@LE.le Nat _ h1.objs.size env.locals:=hLf;have hXC:@Ne Nat (h.objs.size+1) B.C:=fun q=>by
  obtain⟨hC⟩:=B.cls;have:@LT.lt Nat _ B.C h.objs.size:=Heap.lt_size (kp _ _ hC);omega
 have L0:LexH B.C h2 (h.objs.size+1) h.objs.size fun zz=>none:=by
  refine⟨⟨_,k2 _ _ hx,rfl,(fun c q=>by cases q),rfl,fun xs n q=>by cases q⟩,(show @Ne Nat h.objs.size (h.objs.size+1) by omega),?_,fun y hy=>absurd rfl hy⟩;exact Heap.Ns1.of_empty ⟨_,#[],_,k2 _ _ hdx,rfl,fun e he=>absurd he (by simp),fun zz=>rfl⟩
 have hLX:@Ne Nat env.locals (h.objs.size+1):=by omega
 have hLD:@Ne Nat env.locals h.objs.size:=by omega
 have kb2:∀ b o,base.get? b=some o->h2.get? b=some o:=fun b o e=>k2 b o (kb b o e);have hbn:∀ a:Nat,h.objs.size<=a->base.get? a=none:=fun a ha=>by
  induction q:base.get? a using Option.casesOn with
  | none=>rfl
  | some o=>have:@LT.lt Nat _ a h.objs.size:=Heap.lt_size (kp _ _ q);omega
 have self:∀ {h':Heap} {tk:Nat} {p:Pos} {E':Value->Shared->Prop} {Q':Value->Shared->Prop} {A':Around},h'.Ns env.locals mL->Q' (.ref (h.objs.size+1)) ⟨h',gg,d,tk,os⟩->wpAny (model prog w) A' (eval (.Name "self" p) env) Q' E' ⟨h',gg,d,tk,os⟩:=fun hn hq=>
  wpAny_Name (wpAny_loadName_local kE kS hn ms hq) (by decide)
 refine wpAny_execs_cons (plainObj_wpAny_Assign_Attribute (wpAny_Constant_int (self hns ?_)) rfl);refine a6q (s:=⟨h2,gg,d,_,os⟩) (B:=B) (.inl rfl) kb2 L0 hXC fun h3 tk3 L3 s3=>?_;have hns3:h3.Ns env.locals mL:=b7x hns hLX hLD s3;have kb3:=b7s hbn s3 kb2;refine wpAny_execs_cons (plainObj_wpAny_Assign_Attribute (wpAny_Name (wpAny_loadName_local kE kF hns3 mf (self hns3 ?_)) (by decide)) rfl);refine a6q (s:=⟨h3,gg,d,_,os⟩) (B:=B) (.inr (.inl rfl)) kb3 L3 hXC fun h4 tk4 L4 s4=>?_;have hns4:h4.Ns env.locals mL:=b7x hns3 hLX hLD s4;have kb4:=b7s hbn s4 kb3;refine wpAny_execs_cons (plainObj_wpAny_Assign_Attribute (wpAny_Constant_str (self hns4 ?_)) rfl);refine a6q (s:=⟨h4,gg,d,_,os⟩) (B:=B) (.inr (.inr (.inl rfl))) kb4 L4 hXC fun h5 tk5 L5 s5=>?_;have hns5:h5.Ns env.locals mL:=b7x hns4 hLX hLD s5;have kb5:=b7s hbn s5 kb4;refine wpAny_execs_cons (plainObj_wpAny_Assign_Attribute (wpAny_List_spliced (wpAny_items_nil ⟨by rw [sizeLine_eq];simp,?_⟩)) rfl);have hns6:(h5.push { cls:=.type "list",data:=.seq ([]:List Value).toArray}).Ns env.locals mL:=Ns.keep hns5 fun b o e=>Heap.get?_push_of_some _ e
 refine self hns6 ?_;generalize hm5:(fun y=>if y=Str.ofString "whitespace" then _ else _:Str->Option Value)=m5 at L5
 have L6:LexH B.C (h5.push { cls:=.type "list",data:=.seq ([]:List Value).toArray}) (h.objs.size+1) h.objs.size m5:=by
  obtain⟨o,e,r⟩:=L5.obj;exact⟨⟨o,Heap.get?_push_of_some _ e,r⟩,L5.ne,L5.ns.at (fun o e=>Heap.get?_push_of_some _ e),L5.few⟩
 refine a6q (s:=⟨h5.push { cls:=.type "list",data:=.seq ([]:List Value).toArray},gg,d,_,os⟩) (B:=B) (name:="pushback") (.inr (.inr (.inr rfl))) (fun b o e=>Heap.get?_push_of_some _ (kb5 b o e)) L6 hXC fun h7 tk7 L7 s7=>?_
 refine wpAny_execs_nil ⟨rfl,e5e fun G0 hG=>?_⟩;have hX5:@LT.lt Nat _ (h.objs.size+1) h5.objs.size:=by obtain⟨o,e,_⟩:=L5.obj;exact Heap.lt_size e
 obtain⟨PB,hPB⟩:∃ PB:Nat,PB=h5.objs.size:=⟨_,rfl⟩;have hp6:(h5.push { cls:=.type "list",data:=.seq ([]:List Value).toArray}).get? PB=some { cls:=.type "list",data:=.seq ([]:List Value).toArray}:=by rw [hPB];exact Heap.get?_push_size _ rfl
 have hp7:=s7 _ _ (neA (by omega)) (neA (by omega)) hp6;have kall:∀ b o,h.get? b=some o->h7.get? b=some o:=fun b o e=>by
  have h1':@Ne Nat b (h.objs.size+1):=by have:@LT.lt Nat _ b h.objs.size:=Heap.lt_size e;omega
  have h2':@Ne Nat b h.objs.size:=by have:@LT.lt Nat _ b h.objs.size:=Heap.lt_size e;omega
  exact s7 b o h1' h2' (Heap.get?_push_of_some _ (s5 b o h1' h2' (s4 b o h1' h2' (s3 b o h1' h2' (k2 b o (k1 b o e))))))
 have hnone:∀ a:Nat,h.objs.size<=a->h.get? a=none:=fun a ha=>by
  induction q:h.get? a using Option.casesOn with
  | none=>rfl
  | some o=>have:@LT.lt Nat _ a h.objs.size:=Heap.lt_size q;omega
 obtain⟨g1,go1⟩:=g.new (h':=h7) (ads:=[PB]) (m:=.list []) kall (fun a ha=>by simp only [List.mem_singleton]at ha;subst ha;exact hnone _ (by omega)) (by simp)
  (fun a ha=>by simp only [List.mem_singleton]at ha;subst ha;exact⟨_,hp7⟩) ⟨PB,[],rfl,⟨0,hp7⟩,.nil⟩
 have off:∀ a:Nat,h.objs.size<=a->a≠PB->a∉(as++[[PB]]).flatten/\base.get? a=none:=fun a ha hne=>⟨fun q=>by
  rw [List.flatten_append,List.mem_append]at q;rcases q with q | q
  ·obtain⟨o,e⟩:=g.alive a q
   have:@LT.lt Nat _ a h.objs.size:=Heap.lt_size e;omega
  ·exact hne (by simpa using q),hbn a ha⟩
 obtain⟨oX,eX,hcX,hncX,hdX,hXk⟩:=L7.obj;have hDk:∃ o,h7.get? h.objs.size=some o/\∀ xs n,o.data≠.seq xs n:=Ns.get L7.ns.ns;have g2:GR (a1f B lm P) base _ _ h7:=g1.adopt (ads:=[h.objs.size+1,h.objs.size]) (m:=.obj [μ.length,ks] 1) (fun a ha=>by
   simp only [List.mem_cons,List.not_mem_nil,or_false]at ha;rcases ha with rfl | rfl
   ·exact⟨(off _ (by omega) (by omega)).1,hbn _ (by omega),oX,eX,hXk⟩
   ·exact⟨(off _ (by omega) (by omega)).1,hbn _ (by omega),hDk⟩) (by simp) ⟨[PB,F],by
   have e1:(as++[[PB]]++[[h.objs.size+1,h.objs.size]])[μ.length+1]?=some [PB]:=by
    rw [List.append_assoc,List.getElem?_append_right (by rw [g.len];omega),g.len];simp
   have e2:(as++[[PB]]++[[h.objs.size+1,h.objs.size]])[ks+1]?=some (F::qF):=by
    rw [List.append_assoc,List.getElem?_append_left (List.getElem?_eq_some_iff.mp hF).1];exact hF
   exact a5u (by rw [e1];rfl) (a5u (by rw [e2];rfl) rfl),.inl ⟨by omega,h.objs.size+1,h.objs.size,PB,F,oX,_,rfl,rfl,eX,hcX,hncX,hdX,neA (by omega),L7.ns,?_⟩⟩
 have eμ:μ++[Mine.M.list []]++[Mine.M.obj [μ.length,ks] 1]=μ++a9e μ.length ks:=List.append_assoc _ _ _
 rotate_left
 ·subst hm5
  refine⟨⟨_,(if_neg (by decide)).trans ((if_neg (by decide)).trans ((if_neg (by decide)).trans (if_pos rfl)))⟩,(if_neg (by decide)).trans ((if_neg (by decide)).trans (if_pos rfl)),⟨_,(if_neg (by decide)).trans (if_pos rfl)⟩,?_,fun y y1 y2 y3 y4=>?_⟩
  ·dsimp only;rw [if_pos rfl,hPB]
  ·dsimp only;rw [if_neg y4,if_neg y3,if_neg y2,if_neg y1]
 refine hG (hQ (.ref (h.objs.size+1)) _ h7 tk7 (eμ▸g2) ⟨⟨[[PB],[h.objs.size+1,h.objs.size]],by simp,fun a ha=>?_⟩,fun b o zz e=>kall b o e,g2.alive⟩ ?_)
 ·simp only [List.flatten_cons,List.flatten_nil,List.append_nil,List.cons_append,List.nil_append,List.mem_cons,List.not_mem_nil,or_false]at ha
  rcases ha with rfl | rfl | rfl<;>exact hnone _ (by omega)
 ·refine⟨h.objs.size+1,[h.objs.size],?_,rfl⟩
  rw [List.getElem?_append_right (by rw [List.length_append,g.len];simp),List.length_append,g.len];simp
end
end
section
section
variable{prog:Program}{w:World}{base:Heap}{B:LB base}{lm:LamT}{P:Addr}{Γ ΓO:G}{μ:Mu}{as:List (List Addr)}{A:Around}{E:Value->Shared->Prop}{s:Shared}
structure a4z(prog:Program)(w:World){base:Heap}(B:LB base)(lm:LamT)(P:Addr)(ΓO:G) where
 snd:Snd prog w (a1f B lm P) base ΓO
 off:ΓO.lexOn=false
 nd:∀(i j:Nat) (x:Str),ΓO.tbl[i]?=some x->ΓO.tbl[j]?=some x->i=j
 lam:b7t lm
 nolimit:base.NoLimit
 js:Nat
 jc:Nat
 rd:d9z B ΓO.tbl js jc
 rdcls:rd.o.cls=.type "function"
 iter:a1i prog w base "iter" (.builtin "iter")
 lexer:a1i prog w base "_netrclex" (.ref B.C)
 cls:ClsAt base B.C B.N B.mN
 makes:Makes (model prog w) base B.C
 init:b1r B
theorem e0l(L:a4z prog w B lm P ΓO)(S:Snd prog w (a1f B lm P) base Γ)(nd:∀(i j:Nat) (x:Str),Γ.tbl[i]?=some x->Γ.tbl[j]?=some x->i=j)(n:Nat):c4u prog w (a1f B lm P) base Γ n:=by
 intro k e v y A E env ρ μ as s ks kl kc μ' Q hv ty rm c er g hy hks hQ;refine c6z hv fun p1 p2 ev hg hpl=>?_;subst ev;refine wpAny_Call_ofName (a2w (Γ:=Γ) (sc:=env.scope) (by decide) hg ⟨fun zz q=>q,fun zz q=>q,fun zz q=>q⟩ er g L.lexer ?_);refine callWith_cls (h₀:=base) L.cls ?_ (a1b hpl) rfl;refine wpAny_items_cons ((a4n S nd n).1 y k env.scope e ty A E env ρ μ as s (.mut ks) μ' _ rm c er g hy fun u asI hY tk gI goI ru=>?_) (a1b hpl);refine wpAny_items_nil ⟨gI.keep,wpAny_call (c1f (s:={ s with heap:=hY,toks:=tk}) L.makes L.init L.nolimit (by have:=rm.depth;omega) rm.calm gI hks ru fun v' as' h' tk' g' go' r'=>?_)⟩;exact hQ v' as' h' tk' g' (goI.trans go') r'
theorem c9a(L:a4z prog w B lm P ΓO)(S:Snd prog w (a1f B lm P) base Γ)(nd:∀(i j:Nat) (x:Str),Γ.tbl[i]?=some x->Γ.tbl[j]?=some x->i=j)(n:Nat):a5w prog w (a1f B lm P) base Γ n where
 new:=fun zz zz=>e0l L S nd n
 fit:=fun v y j k kp ks m A E env ρ μ as s Q zz zz hv hy hρ hk hm rm er g hQ=>e3s (n:=n) L.iter L.rd.at' L.rdcls hv hy hρ hk hm er g hQ
 line:=fun x a p q r c kd j k is m A E env ρ μ as s Q h1 h2 h3 h4 h5 h6 h7 h8 rm er g hQ=>c5y h1 h2 h3 h4 h5 h6 h7 h8 er g hQ
 draw:=fun A E s as μ μ' k a q r Q zz hn rm g ha h hQ=>d7a L.snd L.off L.nd L.lam L.nolimit L.rd (rm.less hn) g ha h hQ
 self:=fun A E s as μ k a q is m Q zz g ha hk hm h=>d9p g ha hk hm h
 lets:=fun A E s as μ k a q is m tg v Q zz g ha hk hm ht h=>d8d g ha hk hm ht h
theorem e5u{t:List Nat}{ks:Nat}{μ':Mu}(h:a6p μ t=some (ks,μ')):∃ kl kc,μ'[ks]?=some (.obj [kl,kc] (-3)):=by
 refine ifS h fun zz h=>mkS h (fun e h=>sp h fun e1 e2=>?_) fun kc e h=>sp h fun e1 e2=>?_
 ·subst e1 e2
  refine⟨μ.length,μ.length+1,?_⟩;rw [List.getElem?_append_right (by rw [List.length_set];omega),List.length_set,Nat.add_sub_cancel_left];rfl
 ·subst e1 e2
  refine⟨μ.length,kc,?_⟩;rw [List.getElem?_append_right (by omega),Nat.add_sub_cancel_left];rfl
theorem d2g(L:a4z prog w B lm P ΓO){jt jl il:Nat}(hlist:∀ n t μ,t.length<=big->ΓO.call n il [.str t] μ=some (.mut μ.length,μ++[.list (t.map fun c=>.str [c])]))(T:e3e base lm P ΓO.tbl jt jl il)(hPoff:base.get? P=none)
  {p1 p2 p3 q:Pos} (hrest:T.rest=[.Return (some (.Call (.Name "_netrclex" p1) [.Name "stream" p2] [] p3)) q]) (hk:T.fd.scope.names.lookup ("_netrclex":Str)=some NameKind.globalImplicit) {t:List Nat} {ks:Nat} {μ':Mu} (ht:a6p μ t=some (ks,μ')) :
  CodeOK prog w (a1f B lm P) base 11 (.ref T.a) [.str t] μ (.mut (μ'.length+1)) (μ'++a9e μ'.length ks):=by
 intro A R s as vs rm g ra hQ;obtain⟨tv,r,rfl,rt,rfl⟩:=ra;obtain⟨kl,kc,hks⟩:=e5u ht;refine b9a L.snd L.off L.nd L.nolimit hlist T hPoff ht rm g rt fun La m' as' h' tk F qF g' go' hF hn zz zz hL hs=>?_;rw [hrest];refine wpAny_execs_cons (wpAny_Return_some (wpAny_Call_ofName (Name_function_global (by exact T.kind) (by exact hk) (L.lexer _ _ _ _ _ (by exact T.glob) (by exact T.built) g'.keep ?_) (by decide))));refine callWith_cls (h₀:=base) L.cls ?_ (a1b rfl) rfl;refine wpAny_items_cons (wpAny_Name (wpAny_loadName_local (m:=m') (by exact T.kind) (by exact T.kstream) (by rw [hL];exact hn) hs ?_) (by decide)) (a1b rfl);have rm2:A.depth+1<990:=by have:=rm.depth;omega
 refine wpAny_items_nil ⟨g'.keep,wpAny_call (c1f (A:=A.deeper (callEnvC T.fd s.heap.objs.size T.a)) (s:={ s with heap:=h',toks:=tk}) L.makes L.init L.nolimit rm2 rm.calm g' hks ⟨F,qF,hF,rfl⟩ fun v' asJ hJ tkJ gJ goJ rJ=>?_)⟩;exact hQ v' asJ hJ tkJ gJ (go'.trans goJ) rJ
end
end
section
noncomputable def tblA:List Str:=(["len","sum","sorted","max","min","int","list","split","join","count","append","pop","range","enumerate","zip","iter","self","ch","text","letters","stream","_read_char","get_token","push_token","pushback","whitespace","lineno","EXACT_TOKEN_TYPES","NT_OFFSET","ENDMARKER","ONE_THIRD","ONE_SIXTH","TWO_THIRD","_netrclex","_law_stream","tuple","isinstance","abs","chr","index","find","_law_lexer",".0","ISTERMINAL","x","ISNONTERMINAL","ISEOF","rgb_to_hls","r","g","b","maxc","minc","sumc","rangec","l","s","rc","gc","bc","h","hls_to_rgb","m2","m1","_v","hue","rgb_to_hsv","v","hsv_to_rgb","i","f","p","q","t","__init__","fp","instream","read","token","fiter","_law_signs","_law_written","word","number","gap","dressed","sign","_law_taken","lexer","move","row","turn","symbol","kinds","answer","_law_place","paint","share","level","colour","told","due","fine","part","_law_run","order","moves","signs","rows","allowed","places","k","may","mover","fresh","_law_twin","cells","last","law","script","numbers","state","dress","base","size","words","cell","calm","many","first","before","_law_kinds","_law_pack","end","pack","_law_riffled","dealt","bits","lines","riffled","side","wheel","_law_answers","fits","fit","_law_plain","sides","_law_drawn","left","drawn","card","least","packs","cut","_law_symbol","_law_deed","_law_told","step","_law_turns","hues","thirds","third","coming","turns","symbols","now","spot","so","near","one","_law_due","names","heights","lap","place","steps","best","name","far","high","marks","start","deeds","deed","fires","ahead","_law_tree","nodes","_law_words","node","bare","_law_pile","counts","pile","found","_law_ears","hand","cuts","behind","_law_paints","ends","value","paints","mix","two","again","_law_frieze","ring","pairs","low","j","shape","ways","corner","way"]:List String).map Str.ofString
noncomputable def P_ISTERMINAL:List Nat:=[44]
noncomputable def a2x:List S:=[.ret (.cmp .Lt (.loc 44) (.glb 28))]
noncomputable def a2h:List Nat:=[44]
noncomputable def a2i:List S:=[.ret (.cmp .GtE (.loc 44) (.glb 28))]
noncomputable def b4n:List Nat:=[44]
noncomputable def b4p:List S:=[.ret (.cmp .Eq (.loc 44) (.glb 29))]
noncomputable def a4c:List Nat:=[48,49,50]
noncomputable def a3c:List S:=[.assign 51 (.call 3 [(.loc 48),(.loc 49),(.loc 50)]),
  .assign 52 (.call 4 [(.loc 48),(.loc 49),(.loc 50)]),
  .assign 53 (.bin .Add (.loc 51) (.loc 52)),
  .assign 54 (.bin .Sub (.loc 51) (.loc 52)),
  .assign 55 (.bin .Div (.loc 53) (.cst (.flt 4611686018427387904))),
  .ite (.cmp .Eq (.loc 52) (.loc 51)) [.ret (.tup [(.cst (.flt 0)),(.loc 55),(.cst (.flt 0))])] [],
  .ite (.cmp .LtE (.loc 55) (.cst (.flt 4602678819172646912))) [.assign 56 (.bin .Div (.loc 54) (.loc 53))] [.assign 56 (.bin .Div (.loc 54) (.bin .Sub (.bin .Sub (.cst (.flt 4611686018427387904)) (.loc 51)) (.loc 52)))],
  .assign 57 (.bin .Div (.bin .Sub (.loc 51) (.loc 48)) (.loc 54)),
  .assign 58 (.bin .Div (.bin .Sub (.loc 51) (.loc 49)) (.loc 54)),
  .assign 59 (.bin .Div (.bin .Sub (.loc 51) (.loc 50)) (.loc 54)),
  .ite (.cmp .Eq (.loc 48) (.loc 51)) [.assign 60 (.bin .Sub (.loc 59) (.loc 58))] [.ite (.cmp .Eq (.loc 49) (.loc 51)) [.assign 60 (.bin .Sub (.bin .Add (.cst (.flt 4611686018427387904)) (.loc 57)) (.loc 59))] [.assign 60 (.bin .Sub (.bin .Add (.cst (.flt 4616189618054758400)) (.loc 58)) (.loc 57))]],
  .assign 60 (.bin .Mod (.bin .Div (.loc 60) (.cst (.flt 4618441417868443648))) (.cst (.flt 4607182418800017408))),
  .ret (.tup [(.loc 60),(.loc 55),(.loc 56)])]
noncomputable def a4d:List Nat:=[60,55,56]
noncomputable def a2y:List S:=[.ite (.cmp .Eq (.loc 56) (.cst (.flt 0))) [.ret (.tup [(.loc 55),(.loc 55),(.loc 55)])] [],
  .ite (.cmp .LtE (.loc 55) (.cst (.flt 4602678819172646912))) [.assign 62 (.bin .Mult (.loc 55) (.bin .Add (.cst (.flt 4607182418800017408)) (.loc 56)))] [.assign 62 (.bin .Sub (.bin .Add (.loc 55) (.loc 56)) (.bin .Mult (.loc 55) (.loc 56)))],
  .assign 63 (.bin .Sub (.bin .Mult (.cst (.flt 4611686018427387904)) (.loc 55)) (.loc 62)),
  .ret (.tup [(.call 64 [(.loc 63),(.loc 62),(.bin .Add (.loc 60) (.glb 30))]),(.call 64 [(.loc 63),(.loc 62),(.loc 60)]),(.call 64 [(.loc 63),(.loc 62),(.bin .Sub (.loc 60) (.glb 30))])])]
noncomputable def e5x:List Nat:=[63,62,65]
noncomputable def e5j:List S:=[.assign 65 (.bin .Mod (.loc 65) (.cst (.flt 4607182418800017408))),
  .ite (.cmp .Lt (.loc 65) (.glb 31)) [.ret (.bin .Add (.loc 63) (.bin .Mult (.bin .Mult (.bin .Sub (.loc 62) (.loc 63)) (.loc 65)) (.cst (.flt 4618441417868443648))))] [],
  .ite (.cmp .Lt (.loc 65) (.cst (.flt 4602678819172646912))) [.ret (.loc 62)] [],
  .ite (.cmp .Lt (.loc 65) (.glb 32)) [.ret (.bin .Add (.loc 63) (.bin .Mult (.bin .Mult (.bin .Sub (.loc 62) (.loc 63)) (.bin .Sub (.glb 32) (.loc 65))) (.cst (.flt 4618441417868443648))))] [],
  .ret (.loc 63)]
noncomputable def a4b:List Nat:=[48,49,50]
noncomputable def a3e:List S:=[.assign 51 (.call 3 [(.loc 48),(.loc 49),(.loc 50)]),
  .assign 52 (.call 4 [(.loc 48),(.loc 49),(.loc 50)]),
  .assign 54 (.bin .Sub (.loc 51) (.loc 52)),
  .assign 67 (.loc 51),
  .ite (.cmp .Eq (.loc 52) (.loc 51)) [.ret (.tup [(.cst (.flt 0)),(.cst (.flt 0)),(.loc 67)])] [],
  .assign 56 (.bin .Div (.loc 54) (.loc 51)),
  .assign 57 (.bin .Div (.bin .Sub (.loc 51) (.loc 48)) (.loc 54)),
  .assign 58 (.bin .Div (.bin .Sub (.loc 51) (.loc 49)) (.loc 54)),
  .assign 59 (.bin .Div (.bin .Sub (.loc 51) (.loc 50)) (.loc 54)),
  .ite (.cmp .Eq (.loc 48) (.loc 51)) [.assign 60 (.bin .Sub (.loc 59) (.loc 58))] [.ite (.cmp .Eq (.loc 49) (.loc 51)) [.assign 60 (.bin .Sub (.bin .Add (.cst (.flt 4611686018427387904)) (.loc 57)) (.loc 59))] [.assign 60 (.bin .Sub (.bin .Add (.cst (.flt 4616189618054758400)) (.loc 58)) (.loc 57))]],
  .assign 60 (.bin .Mod (.bin .Div (.loc 60) (.cst (.flt 4618441417868443648))) (.cst (.flt 4607182418800017408))),
  .ret (.tup [(.loc 60),(.loc 56),(.loc 67)])]
noncomputable def a4j:List Nat:=[60,56,67]
noncomputable def F_hsv_to_rgb:List S:=[.ite (.cmp .Eq (.loc 56) (.cst (.flt 0))) [.ret (.tup [(.loc 67),(.loc 67),(.loc 67)])] [],
  .assign 69 (.call 5 [(.bin .Mult (.loc 60) (.cst (.flt 4618441417868443648)))]),
  .assign 70 (.bin .Sub (.bin .Mult (.loc 60) (.cst (.flt 4618441417868443648))) (.loc 69)),
  .assign 71 (.bin .Mult (.loc 67) (.bin .Sub (.cst (.flt 4607182418800017408)) (.loc 56))),
  .assign 72 (.bin .Mult (.loc 67) (.bin .Sub (.cst (.flt 4607182418800017408)) (.bin .Mult (.loc 56) (.loc 70)))),
  .assign 73 (.bin .Mult (.loc 67) (.bin .Sub (.cst (.flt 4607182418800017408)) (.bin .Mult (.loc 56) (.bin .Sub (.cst (.flt 4607182418800017408)) (.loc 70))))),
  .assign 69 (.bin .Mod (.loc 69) (.cst (.int 6))),
  .ite (.cmp .Eq (.loc 69) (.cst (.int 0))) [.ret (.tup [(.loc 67),(.loc 73),(.loc 71)])] [],
  .ite (.cmp .Eq (.loc 69) (.cst (.int 1))) [.ret (.tup [(.loc 72),(.loc 67),(.loc 71)])] [],
  .ite (.cmp .Eq (.loc 69) (.cst (.int 2))) [.ret (.tup [(.loc 71),(.loc 67),(.loc 73)])] [],
  .ite (.cmp .Eq (.loc 69) (.cst (.int 3))) [.ret (.tup [(.loc 71),(.loc 72),(.loc 67)])] [],
  .ite (.cmp .Eq (.loc 69) (.cst (.int 4))) [.ret (.tup [(.loc 73),(.loc 71),(.loc 67)])] [],
  .ite (.cmp .Eq (.loc 69) (.cst (.int 5))) [.ret (.tup [(.loc 67),(.loc 71),(.loc 72)])] []]
noncomputable def P_get_token:List Nat:=[16]
noncomputable def a2b:List S:=[.ite (.attr 24 (.loc 16)) [.ret (.meth 11 (.attr 24 (.loc 16)) [(.cst (.int 0))])] [],
  .assign 78 (.cst (.str [])),
  .fit 79 16,
  .chars (.one 17) 79 [.ite (.cmp .In (.loc 17) (.attr 25 (.loc 16))) [.cont] [],
  .ite (.cmp .Eq (.loc 17) (.cst (.str [34]))) [.chars (.one 17) 79 [.ite (.cmp .Eq (.loc 17) (.cst (.str [34]))) [.ret (.loc 78)] [.ite (.cmp .Eq (.loc 17) (.cst (.str [92]))) [.assign 17 (.meth 21 (.loc 16) [])] []],
  .aug 78 .Add (.loc 17)]] [.ite (.cmp .Eq (.loc 17) (.cst (.str [92]))) [.assign 17 (.meth 21 (.loc 16) [])] [],
  .aug 78 .Add (.loc 17),
  .chars (.one 17) 79 [.ite (.cmp .In (.loc 17) (.attr 25 (.loc 16))) [.ret (.loc 78)] [.ite (.cmp .Eq (.loc 17) (.cst (.str [92]))) [.assign 17 (.meth 21 (.loc 16) [])] []],
  .aug 78 .Add (.loc 17)]]],
  .ret (.loc 78)]
noncomputable def P_push_token:List Nat:=[16,78]
noncomputable def a3y:List S:=[.expr (.meth 10 (.attr 24 (.loc 16)) [(.loc 78)])]
end
section
noncomputable def e2y(args:List V)(μ:Mu):Option (V×Mu):=match args with
 | [.lst l]=>if l.length<=big then some (.int l.length,μ)else .none
 | [.tup l]=>if l.length<=big then some (.int l.length,μ)else .none
 | [.str l]=>if l.length<=big then some (.int l.length,μ)else .none
 | [.mut k]=>match μ[k]? with
  | some (.list l)=>if l.length<=big then some (.int l.length,μ)else .none
  | _=>.none
 | _=>.none
noncomputable def e2c(args:List V)(μ:Mu):Option (V×Mu):=match args with
 | [.lst l]=>(a3m l).map fun ns=>(.int ns.sum,μ)
 | _=>.none
noncomputable def b4i(args:List V)(μ:Mu):Option (V×Mu):=match args with
 | [.lst l]=>if l.length<64 then(a3m l).map fun ns=>(.lst ((b3y ns).map .int),μ)else .none
 | _=>.none
theorem e8c{γ:Type}{args:List V}{f:UInt64->UInt64->UInt64->Option γ}{g:List V->Option γ}{r:γ}{G:Prop}(h:(match args with | [.flt a,.flt b,.flt c]=>f a b c | [.lst l]=>g l | _=>.none)=some r)(k:∀ a b c,args=[.flt a,.flt b,.flt c]->f a b c=some r->G)(k2:∀ l,args=[.lst l]->g l=some r->G):G:=by
 induction args using List.casesOn with
 | nil=>exact ns h
 | cons x l=>induction x using Mine.V.casesOn with
  | flt a=>induction l using List.casesOn with
   | nil=>exact ns h
   | cons x l=>induction x using Mine.V.casesOn with
    | flt b=>induction l using List.casesOn with
     | nil=>exact ns h
     | cons x l=>induction x using Mine.V.casesOn with
      | flt c=>induction l using List.casesOn with
       | nil=>exact k a b c rfl h
       | cons _ _=>exact ns h
      | _=>exact ns h
    | _=>exact ns h
  | lst a=>induction l using List.casesOn with
   | nil=>exact k2 a rfl h
   | cons _ _=>exact ns h
  | _=>exact ns h
theorem f0c{γ:Type}{args:List V}{f:List V->String->Option γ}{r:γ}{G:Prop}(h:(match args with | [.tup l,.typ s]=>f l s | _=>.none)=some r)(k:∀ l s,args=[.tup l,.typ s]->f l s=some r->G):G:=by
 induction args using List.casesOn with
 | nil=>exact ns h
 | cons x l=>induction x using Mine.V.casesOn with
  | tup a=>induction l using List.casesOn with
   | nil=>exact ns h
   | cons x l=>induction x using Mine.V.casesOn with
    | typ b=>induction l using List.casesOn with
     | nil=>exact k a b rfl h
     | cons _ _=>exact ns h
    | _=>exact ns h
  | _=>exact ns h
noncomputable def e5v(args:List V)(μ:Mu):Option (V×Mu):=match args with
 | [.flt a,.flt b,.flt c]=>some (.flt (a3t (a3t a b) c),μ)
 | [.lst l]=>(a3m l).bind fun ns=>ns.max?.map fun m=>(.int m,μ)
 | _=>.none
noncomputable def e4s(args:List V)(μ:Mu):Option (V×Mu):=match args with
 | [.flt a,.flt b,.flt c]=>some (.flt (a5q (a5q a b) c),μ)
 | [.lst l]=>(a3m l).bind fun ns=>ns.min?.map fun m=>(.int m,μ)
 | _=>.none
noncomputable def e7w(args:List V)(μ:Mu):Option (V×Mu):=match args with
 | [.tup _,.typ s]=>if s = "tuple" then some (.bool true,μ)else .none
 | _=>.none
noncomputable def d7r(args:List V)(μ:Mu):Option (V×Mu):=match args with
 | [.flt a]=>if Float64.isFinite a then some (.int (Flt.toInt Float64.truncOf a),μ)else .none
 | _=>.none
noncomputable def c4j(args:List V)(μ:Mu):Option (V×Mu):=match args with
 | [.str t]=>if t.length<=big then some (.mut μ.length,μ++[.list (t.map fun c=>.str [c])])else .none
 | _=>.none
noncomputable def c5h(i:Nat)(args:List V)(μ:Mu):Option (V×Mu):=if i=0 then e2y args μ else if i=1 then e2c args μ else if i=2 then b4i args μ else if i=3 then e5v args μ else if i=4 then e4s args μ else if i=5 then d7r args μ else if i=6 then c4j args μ else if i=36 then e7w args μ else .none
noncomputable def d2f:V->Bool
 | .str _=>true
 | _=>false
noncomputable def a5z(μ:Mu):V->Bool
 | .mut k=>match μ[k]? with
  | some (.list _)=>true
  | _=>false
 | _=>false
noncomputable def b9e(m:Nat)(u:V)(μ:Mu):Bool:=if m=7 then d2f u else if m=8 then d2f u else if m=9 then d2f u else if m=10 then a5z μ u else if m=11 then a5z μ u else false
noncomputable def c0d(u:V)(args:List V)(μ:Mu):Option (V×Mu):=match u,args with
 | .str x,[.str y]=>if y≠[]/\x.length<=big then some (.lst ((Txt.split (txt x) (txt y)).map fun p=>.str (c6k p)),μ)else .none
 | _,_=>.none
noncomputable def c7d(u:V)(args:List V)(μ:Mu):Option (V×Mu):=match u,args with
 | .str x,[.lst l]=>match a9m l with
  | some ts=>if(ts.map (·.length)).sum+ts.length * x.length<=big then some (.str (b5g x ts),μ)else .none
  | .none=>.none
 | _,_=>.none
noncomputable def b2t(u:V)(args:List V)(μ:Mu):Option (V×Mu):=match u,args with
 | .str x,[.str y]=>some (.int (Txt.count (txt x) (txt y)),μ)
 | _,_=>.none
noncomputable def b7o(u:V)(args:List V)(μ:Mu):Option (V×Mu):=match u,args with
 | .mut k,[x]=>match μ[k]? with
  | some (.list l)=>if l.length<=big then some (.none,μ.set k (.list (l++[x])))else .none
  | _=>.none
 | _,_=>.none
noncomputable def e5z(u:V)(args:List V)(μ:Mu):Option (V×Mu):=match u,args with
 | .mut k,[.int 0]=>match μ[k]? with
  | some (.list (x::l))=>if(x::l).length<=big then some (x,μ.set k (.list l))else .none
  | _=>.none
 | .mut k,[]=>match μ[k]? with
  | some (.list l)=>if l.length<=big then l.getLast?.map fun x=>(x,μ.set k (.list l.dropLast))else .none
  | _=>.none
 | _,_=>.none
noncomputable def d3i(m:Nat)(u:V)(args:List V)(μ:Mu):Option (V×Mu):=if m=7 then c0d u args μ else if m=8 then c7d u args μ else if m=9 then b2t u args μ else if m=10 then b7o u args μ else if m=11 then e5z u args μ else .none
section
variable{μ:Mu}{k:Nat}{l:List V}{x y:List Nat}{v:V}
theorem e9x:c4j [.str x] μ=if x.length<=big then some (.mut μ.length,μ++[.list (x.map fun c=>.str [c])])else .none:=rfl
theorem f0y{a:List V}:c5h 6 a μ=c4j a μ:=rfl
theorem f0i:b2t (.str x) [.str y] μ=some (.int (Txt.count (txt x) (txt y)),μ):=rfl
end
noncomputable def third:UInt64:=Float64.div (Float64.ofInt 1) (Float64.ofInt 3)
noncomputable def toks:List (List Nat×Int):=([("!",54),("!=",28),("%",24),("%=",40),("&",19),("&=",41),("(",7),(")",8),("*",16),("**",35),("**=",46),("*=",38),("+",14),("+=",36),(",",12),("-",15),("-=",37),("->",51),(".",23),("...",52),("/",17),("//",47),("//=",48),("/=",39),(":",11),(":=",53),(";",13),("<",20),("<<",33),("<<=",44),("<=",29),("=",22),("==",27),(">",21),(">=",30),(">>",34),(">>=",45),("@",49),("@=",50),("[",9),("]",10),("^",32),("^=",43),("{",25),("|",18),("|=",42),("}",26),("~",31)]:List (String×Int)).map fun p=>((Str.ofString p.1).cps.toList,p.2)
structure a3r where
 a:UInt64
 b:UInt64
 c:UInt64
noncomputable def d6e (th:a3r) (i:Nat):Option V:=if i=28 then some (.int 256)else if i=29 then some (.int 0)else if i=30 then some (.flt th.a)else if i=31 then some (.flt th.b)else if i=32 then some (.flt th.c)else if i=35 then some (.typ "tuple")else .none
noncomputable def e8l(i:Nat):Option (List (List Nat×Int)):=if i=27 then some toks else .none
noncomputable def gB(th:a3r):G:={ tbl:=tblA,glob:=d6e th,call:=fun zz i args μ=>c5h i args μ,find:=b9e,meth:=fun zz m u args μ=>d3i m u args μ,attr:=fun zz zz zz=>.none,dic:=e8l,lexOn:=false,ownR:=false}
structure b9o(prog:Program)(w:World)(base:Heap)(th:a3r):Prop where
 len:a1i prog w base "len" (.builtin "len")
 sum:a1i prog w base "sum" (.builtin "sum")
 sorted:a1i prog w base "sorted" (.builtin "sorted")
 max:a1i prog w base "max" (.builtin "max")
 min:a1i prog w base "min" (.builtin "min")
 int:a1i prog w base "int" (.type "int")
 list:a1i prog w base "list" (.type "list")
 range:a1i prog w base "range" (.type "range")
 enum:a1i prog w base "enumerate" (.type "enumerate")
 tup:a1i prog w base "tuple" (.type "tuple")
 isi:a1i prog w base "isinstance" (.builtin "isinstance")
 nt:∃ t,a1i prog w base "NT_OFFSET" (.int 256 t)
 eof:∃ t,a1i prog w base "ENDMARKER" (.int 0 t)
 third:∃ t,a1i prog w base "ONE_THIRD" (.float th.a t)
 sixth:∃ t,a1i prog w base "ONE_SIXTH" (.float th.b t)
 twothird:∃ t,a1i prog w base "TWO_THIRD" (.float th.c t)
 tok:∃ a,a1i prog w base "EXACT_TOKEN_TYPES" (.ref a)/\StrTab prog w base a (toks.map fun p=>(.str ⟨p.1.toArray⟩,.int p.2))
section
variable{prog:Program}{w:World}{Lx:LxP}{base:Heap}{th:a3r}
theorem nm(i:Nat)(s:String)(h:tblA[i]?=some (Str.ofString s):=by decide +kernel):tblA[i]?=some (Str.ofString s):=h
theorem lsM{α:Type}{r:α}{G:Prop}{e:Option M}{f:List V->Option α}(h:(match e with | some (.list l)=>f l | _=>.none)=some r)(k:∀ l,e=some (.list l)->f l=some r->G):G:=by
 induction e using Option.casesOn with
 | none=>exact ns h
 | some m=>induction m using Mine.M.casesOn with
  | list l=>exact k l rfl h
  | obj _ _=>exact ns h
theorem a5x{α:Type}{f:List V->Option α}{args:List V}{r:α}(h:f args=some r)(h0:f []=.none)(h2:∀ a b c,f (a::b::c)=.none):∃ a,args=[a]:=by
 induction args using List.casesOn with
 | nil=>exact ns (h0.symm.trans h)
 | cons a as=>induction as using List.casesOn with
  | nil=>exact⟨a,rfl⟩
  | cons b c=>exact ns ((h2 a b c).symm.trans h)
theorem b8t{i:Nat}{args:List V}{μ:Mu}{q:V×Mu}{G:Prop}(h:c5h i args μ=some q)(k0:i=0->e2y args μ=some q->G)(k1:i=1->e2c args μ=some q->G)(k2:i=2->b4i args μ=some q->G)(k3:i=3->e5v args μ=some q->G)(k4:i=4->e4s args μ=some q->G)(k5:i=5->d7r args μ=some q->G)(k6:i=6->c4j args μ=some q->G)(k7:i=36->e7w args μ=some q->G):G:=
 ifE h k0 fun zz h=>ifE h k1 fun zz h=>ifE h k2 fun zz h=>ifE h k3 fun zz h=>ifE h k4 fun zz h=>ifE h k5 fun zz h=>ifE h k6 fun zz h=>ifE h k7 fun zz h=>ns h
theorem d2x(N:b9o prog w base th)(n i:Nat)(args:List V)(μ:Mu)(r:V)(μ':Mu)(h:c5h i args μ=some (r,μ')):∃ x f,tblA[i]?=some x/\a1i prog w base x f/\a8d base f/\CallOK prog w Lx base n f args μ r μ':=by
 refine b8t h ?_ ?_ ?_ ?_ ?_ ?_ ?_ ?_<;>clear h<;>intro e h<;>subst e
 ·refine⟨_,_,nm 0 "len",N.len,.builtin _,?_⟩
  obtain⟨a,rfl⟩:=a5x (f:=(e2y · μ)) h rfl (fun a b c=>by induction a using Mine.V.casesOn<;>rfl);have h:e2y [a] μ=some (r,μ'):=h
  ··induction a using Mine.V.casesOn with
    | lst l=>exact ifS h fun hz h=>sp h fun e1 e2=>e1▸e2▸d6w hz
    | tup l=>exact ifS h fun hz h=>sp h fun e1 e2=>e1▸e2▸d8b hz
    | str l=>exact ifS h fun hz h=>sp h fun e1 e2=>e1▸e2▸d0w hz
    | «mut» k=>exact lsM h fun l hk h=>ifS h fun hz h=>sp h fun e1 e2=>e1▸e2▸d7y hk hz
    | _=>exact ns h
 ·refine⟨_,_,nm 1 "sum",N.sum,.builtin _,?_⟩
  obtain⟨a,rfl⟩:=a5x (f:=(e2c · μ)) h rfl (fun a b c=>by induction a using Mine.V.casesOn<;>rfl);have h:e2c [a] μ=some (r,μ'):=h
  ··induction a using Mine.V.casesOn with
    | lst l=>exact a1e h fun ns hi h=>pr h fun e1 e2=>e1▸e2▸d6p hi
    | _=>exact ns h
 ·refine⟨_,_,nm 2 "sorted",N.sorted,.builtin _,?_⟩
  obtain⟨a,rfl⟩:=a5x (f:=(b4i · μ)) h rfl (fun a b c=>by induction a using Mine.V.casesOn<;>rfl);have h:b4i [a] μ=some (r,μ'):=h
  ··induction a using Mine.V.casesOn with
    | lst l=>exact ifS h fun hz h=>a1e h fun ns hi h=>pr h fun e1 e2=>e1▸e2▸c3n hi hz
    | _=>exact ns h
 ·refine⟨_,_,nm 3 "max",N.max,.builtin _,?_⟩
  have h:e5v args μ=some (r,μ'):=h;refine e8c h (fun a b c e h=>?_) fun l e h=>?_
  ·subst e
   exact sp h fun e1 e2=>e1▸e2▸d6y
  ·subst e
   exact a0h h fun ns hi h=>a1e h fun m hm h=>pr h fun e1 e2=>e1▸e2▸d6h hi hm
 ·refine⟨_,_,nm 4 "min",N.min,.builtin _,?_⟩
  have h:e4s args μ=some (r,μ'):=h;refine e8c h (fun a b c e h=>?_) fun l e h=>?_
  ·subst e
   exact sp h fun e1 e2=>e1▸e2▸d6d
  ·subst e
   exact a0h h fun ns hi h=>a1e h fun m hm h=>pr h fun e1 e2=>e1▸e2▸d6o hi hm
 ·refine⟨_,_,nm 5 "int",N.int,.type _,?_⟩
  obtain⟨a,rfl⟩:=a5x (f:=(d7r · μ)) h rfl (fun a b c=>by induction a using Mine.V.casesOn<;>rfl);have h:d7r [a] μ=some (r,μ'):=h
  ··induction a using Mine.V.casesOn with
    | flt x=>exact ifS h fun hz h=>sp h fun e1 e2=>e1▸e2▸d5u hz
    | _=>exact ns h
 ·refine⟨_,_,nm 6 "list",N.list,.type _,?_⟩
  obtain⟨a,rfl⟩:=a5x (f:=(c4j · μ)) h rfl (fun a b c=>by induction a using Mine.V.casesOn<;>rfl);have h:c4j [a] μ=some (r,μ'):=h
  ··induction a using Mine.V.casesOn with
    | str x=>exact ifS h fun hz h=>sp h fun e1 e2=>e1▸e2▸b8m hz
    | _=>exact ns h
 ·refine⟨_,_,nm 36 "isinstance",N.isi,.builtin _,?_⟩
  have h:e7w args μ=some (r,μ'):=h;refine f0c h fun l s e h=>ifS h fun es h=>?_;subst e es;exact sp h fun e1 e2=>e1▸e2▸d6a
theorem b9y{μ:Mu}{u:V}{P:Prop}(h:a5z μ u=true)(k:∀ i l,u=.mut i->μ[i]?=some (.list l)->P):P:=by
 induction u using Mine.V.casesOn with
 | «mut» i=>
  have h:(match (generalizing:=false) μ[i]? with | some (.list _)=>true | _=>false)=true:=h
  induction q:μ[i]? using Option.casesOn with
  | none=>rw [q]at h;exact nt h
  | some m=>induction m using Mine.M.casesOn with
   | list l=>exact k i l rfl q
   | obj _ _=>rw [q]at h;exact nt h
 | _=>exact nt h
theorem b4a{u:V}(h:d2f u=true):∃ x,u=.str x:=by
 induction u using Mine.V.casesOn with
 | str x=>exact⟨x,rfl⟩
 | _=>exact nt h
theorem lsC{e:Option M}{α:Type}{r:α}{f:V->List V->Option α}{P:Prop}(h:(match e with | some (.list (x::l))=>f x l | _=>.none)=some r)(k:∀ x l,e=some (.list (x::l))->f x l=some r->P):P:=by
 induction e using Option.casesOn with
 | none=>exact ns h
 | some m=>induction m using Mine.M.casesOn with
  | list l=>induction l using List.casesOn with
   | nil=>exact ns h
   | cons x l=>exact k x l rfl h
  | obj _ _=>exact ns h
theorem b8l{m:Nat}{u:V}{args:List V}{μ:Mu}{q:V×Mu}{G:Prop}(h:d3i m u args μ=some q)(k0:m=7->c0d u args μ=some q->G)(k1:m=8->c7d u args μ=some q->G)(k2:m=9->b2t u args μ=some q->G)(k3:m=10->b7o u args μ=some q->G)(k4:m=11->e5z u args μ=some q->G):G:=
 ifE h k0 fun zz h=>ifE h k1 fun zz h=>ifE h k2 fun zz h=>ifE h k3 fun zz h=>ifE h k4 fun zz h=>ns h
theorem c0y(n m:Nat)(u:V)(args:List V)(μO μ:Mu)(r:V)(μ':Mu)(hf:b9e m u μO=true)(h:d3i m u args μ=some (r,μ')):∃ x f,tblA[m]?=some x/\a8d base f/\a6c prog w Lx base x u μO f/\CallOK prog w Lx base n f (u::args) μ r μ':=by
 refine b8l h ?_ ?_ ?_ ?_ ?_<;>clear h<;>intro e h<;>subst e
 ·obtain⟨x,rfl⟩:=b4a hf
  refine⟨_,.builtin "str.split",nm 7 "split",.builtin _,c3k,?_⟩
  obtain⟨a,rfl⟩:=a5x (f:=(c0d (.str x) · μ)) h rfl (fun a b c=>by induction a using Mine.V.casesOn<;>rfl);have h:c0d (.str x) [a] μ=some (r,μ'):=h
  ··induction a using Mine.V.casesOn with
    | str y=>exact ifS h fun hz h=>sp h fun e1 e2=>e1▸e2▸c6i hz.1 hz.2
    | _=>exact ns h
 ·obtain⟨x,rfl⟩:=b4a hf
  refine⟨_,.builtin "str.join",nm 8 "join",.builtin _,c9u,?_⟩
  obtain⟨a,rfl⟩:=a5x (f:=(c7d (.str x) · μ)) h rfl (fun a b c=>by induction a using Mine.V.casesOn<;>rfl);have h:c7d (.str x) [a] μ=some (r,μ'):=h
  ··induction a using Mine.V.casesOn with
    | lst l=>
     unfold c7d at h;induction q:a9m l using Option.casesOn with
     | none=>simp only [q]at h;exact ns h
     | some ts=>
      simp only [q]at h;exact ifS h fun hz h=>sp h fun e1 e2=>e1▸e2▸d1z q hz
    | _=>exact ns h
 ·obtain⟨x,rfl⟩:=b4a hf
  refine⟨_,.builtin "str.count",nm 9 "count",.builtin _,c2y,?_⟩
  obtain⟨a,rfl⟩:=a5x (f:=(b2t (.str x) · μ)) h rfl (fun a b c=>by induction a using Mine.V.casesOn<;>rfl);have h:b2t (.str x) [a] μ=some (r,μ'):=h
  ··induction a using Mine.V.casesOn with
    | str y=>exact sp h fun e1 e2=>e1▸e2▸c9f
    | _=>exact ns h
 ·refine b9y hf fun k l eu hk=>?_
  subst eu;refine⟨_,.builtin "list.append",nm 10 "append",.builtin _,b7z hk,?_⟩
  have h:b7o (.mut k) args μ=some (r,μ'):=h;induction args using List.casesOn with
  | nil=>exact ns h
  | cons a as=>induction as using List.casesOn with
   | cons _ _=>exact ns h
   | nil=>exact lsM h fun l hl h=>ifS h fun hz h=>sp h fun e1 e2=>e1▸e2▸c3b hl hz
 ·refine b9y hf fun k l eu hk=>?_
  subst eu;refine⟨_,.builtin "list.pop",nm 11 "pop",.builtin _,d3b hk,?_⟩
  have h:e5z (.mut k) args μ=some (r,μ'):=h;induction args using List.casesOn with
  | nil=>
   refine lsM (e:=μ[k]?) h fun l hl h=>ifS h fun hz h=>a1e h fun x hx h=>pr h fun e1 e2=>?_;obtain⟨ys,rfl⟩:=List.getLast?_eq_some_iff.mp hx;rw [List.dropLast_concat]at e2;exact e1▸e2▸d7s hl hz
  | cons a as=>induction as using List.casesOn with
   | cons _ _=>induction a using Mine.V.casesOn with
    | int z=>induction z using Int.casesOn with
     | ofNat n=>cases n<;>exact ns h
     | negSucc _=>exact ns h
    | _=>exact ns h
   | nil=>induction a using Mine.V.casesOn with
    | int z=>induction z using Int.casesOn with
     | negSucc _=>exact ns h
     | ofNat z=>induction z using Nat.casesOn with
      | succ _=>exact ns h
      | zero=>
       exact lsC (e:=μ[k]?) h fun x l hl h=>ifS h fun hz h=>sp h fun e1 e2=>e1▸e2▸d3e hl hz
    | _=>exact ns h
theorem b8x {i:Nat} {v:V} {P:Prop} (h:d6e th i=some v) (k0:i=28->some (V.int 256)=some v->P) (k1:i=29->some (V.int 0)=some v->P) (k2:i=30->some (V.flt th.a)=some v->P) (k3:i=31->some (V.flt th.b)=some v->P) (k4:i=32->some (V.flt th.c)=some v->P) (k5:i=35->some (V.typ "tuple")=some v->P):P:=
 ifE h k0 fun zz h=>ifE h k1 fun zz h=>ifE h k2 fun zz h=>ifE h k3 fun zz h=>ifE h k4 fun zz h=>ifE h k5 fun zz h=>ns h
theorem d2h(N:b9o prog w base th)(i:Nat)(v:V)(h:d6e th i=some v):∃ x u,tblA[i]?=some x/\a1i prog w base x u/\∀ h as,Rep h as v u:=by
 refine b8x h ?_ ?_ ?_ ?_ ?_ ?_<;>clear h<;>intro e h<;>subst e
 ·obtain⟨t,e⟩:=N.nt;exact⟨_,_,nm 28 "NT_OFFSET",e,fun zz zz=>Option.some.inj h▸⟨t,rfl⟩⟩
 ·obtain⟨t,e⟩:=N.eof;exact⟨_,_,nm 29 "ENDMARKER",e,fun zz zz=>Option.some.inj h▸⟨t,rfl⟩⟩
 ·obtain⟨t,e⟩:=N.third;exact⟨_,_,nm 30 "ONE_THIRD",e,fun zz zz=>Option.some.inj h▸⟨t,rfl⟩⟩
 ·obtain⟨t,e⟩:=N.sixth;exact⟨_,_,nm 31 "ONE_SIXTH",e,fun zz zz=>Option.some.inj h▸⟨t,rfl⟩⟩
 ·obtain⟨t,e⟩:=N.twothird;exact⟨_,_,nm 32 "TWO_THIRD",e,fun zz zz=>Option.some.inj h▸⟨t,rfl⟩⟩
 ·exact⟨_,_,nm 35 "tuple",N.tup,fun zz zz=>Option.some.inj h▸rfl⟩
theorem e8n(N:b9o prog w base th):Snd prog w Lx base (gB th) where
 glob:=d2h N
 range:=N.range
 enum:=N.enum
 list:=N.list
 dic:=fun i l h=>by
  have h:e8l i=some l:=h;refine ifS h fun e h=>?_;subst e;obtain rfl:=Option.some.inj h;obtain⟨a,h1,h2⟩:=N.tok;exact⟨_,a,nm 27 "EXACT_TOKEN_TYPES",h1,h2⟩
 call:=fun n i args μ r μ' h=>d2x N n i args μ r μ' h
 meth:=fun n m u args μO μ r μ' hf h=>c0y n m u args μO μ r μ' hf h
 attr:=fun m u μ r h=>by exact ns h
theorem b1a:∀(i j:Nat) (x:Str),tblA[i]?=some x->tblA[j]?=some x->i=j:=by
 have h:tblA.Nodup:=by decide +kernel
 intro i j x h1 h2;exact(List.getElem?_inj (List.getElem?_eq_some_iff.mp h1).1 h).mp (h1.trans h2.symm)
end
end
section
structure b2o(base:Heap)(names:List Str)(is:List Nat)(ss:List Mine.S) where
 a:Addr
 o:Obj
 fd:FuncData
 body:List Stmt
 at':base.get? a=some o
 data:o.data=.func fd
 code:base.CodeRec fd.code fd.qualname
 hbody:fd.body=.stmts body
 glob:fd.globals=mainGlobals
 built:fd.builtins=builtinsNs
 clos:fd.closure=[]
 bind:∀ vals:List Value,vals.length=names.length->bindArgs fd ⟨vals,[]⟩=pure (names.zip vals)
 ok:okF tblA fd.scope names is=true
 tr:∃ mt k,trS.trSs tblA mt k fd.scope body=some ss
noncomputable def b2d(Γ:G)(id:Nat)(spec:Nat->List V->Mu->Option (V×Mu)):G:=
 { Γ with call:=fun n i args μ=>if i=id then spec n args μ else Γ.call n i args μ}
noncomputable def e3m(Γ:G)(id:Nat)(spec:Nat->V->List V->Mu->Option (V×Mu)):G:=
 { Γ with meth:=fun n m u args μ=>if m=id then spec n u args μ else Γ.meth n m u args μ}
section
variable{prog:Program}{w:World}{Lx:LxP}{base:Heap}{Γ:G}
theorem CallOK.less{n m:Nat}{f:Value}{args:List V}{μ μ':Mu}{r:V}(h:CallOK prog w Lx base n f args μ r μ')(hm:n<=m):CallOK prog w Lx base m f args μ r μ':=
 fun A E s as vs Q rm g ra hQ=>h A E s as vs Q (rm.less hm) g ra hQ
theorem c1a{names:List Str}{is:List Nat}{ss:List Mine.S}(D:b2o base names is ss)(hbig:base.NoLimit)(ht:Γ.tbl=tblA)(S:Snd prog w Lx base Γ)(LX:∀ n,a5w prog w Lx base Γ n){n:Nat}{args:List V}{μ μ':Mu}{r:V}
  (h:a2z Γ n is ss args μ=some (r,μ')):CallOK prog w Lx base (n+1) (.ref D.a) args μ r μ':=by
 have hok:=D.ok;unfold okF at hok;simp only [Bool.and_eq_true,Bool.not_eq_true',decide_eq_true_eq]at hok;obtain⟨⟨⟨⟨⟨⟨⟨h1,h2⟩,h3⟩,h4⟩,h5⟩,h6⟩,h7⟩,h8⟩:=hok;have e8:D.fd.scope.kind=.function:=by simpa using h8
 obtain⟨mt,k,t⟩:=D.tr;rw [← ht]at t h1 h5;refine e3h S (by rw [ht];exact b1a) LX hbig D.at' D.data D.code D.hbody D.glob D.built D.clos h6 h7 e8 D.bind (by simpa using h1) h2 (fun x hx=>?_) (fun p hp=>?_) (a6u h5) (fun L=>?_) t h
 ·have:=List.all_eq_true.mp h3 x hx
  simp only [Bool.or_eq_true,beq_iff_eq]at this;exact this
 ·have:=List.all_eq_true.mp h4 p hp
  simpa using this
 ·show((D.fd.scope.kind==.module)&&_)=false
  rw [e8];rfl
set_option tactic.hygienic true in
theorem c0u(S:Snd prog w Lx base Γ){id:Nat}{x:Str}{f:Value}(hid:Γ.tbl[id]?=some x)(hname:a1i prog w base x f)(hf:a8d base f){spec:Nat->List V->Mu->Option (V×Mu)}
  (hs:∀ n args μ r μ',spec n args μ=some (r,μ')->CallOK prog w Lx base n f args μ r μ'):Snd prog w Lx base (b2d Γ id spec):=by
 refine⟨S.glob,S.range,S.enum,S.list,S.dic,fun n i args μ r μ' h=>?_,S.meth,S.attr⟩;simp only [b2d]at h;split at h
 ·rename_i e
  subst e;exact⟨x,f,hid,hname,hf,hs n args μ r μ' h⟩
 ·exact S.call n i args μ r μ' h
end
noncomputable def a3s(μ:Mu):V->Bool
 | .mut k=>match μ[k]? with
  | some (.obj [_,_] n)=>decide (1<=n)
  | _=>false
 | _=>false
noncomputable def d1v(m:Nat)(u:V)(μ:Mu):Bool:=if m=21∨m=22∨m=23 then a3s μ u else b9e m u μ
noncomputable def e7t(n:Nat)(u:V)(args:List V)(μ:Mu):Option (V×Mu):=match u,args with
 | .mut k,[]=>if 11<=n then(a0w μ k).map fun p=>(.str p.1,p.2)else .none
 | _,_=>.none
noncomputable def d0j(n m:Nat)(u:V)(args:List V)(μ:Mu):Option (V×Mu):=if m=21 then e7t n u args μ else d3i m u args μ
noncomputable def e5s(m:Nat)(u:V)(μ:Mu):Option V:=match u with
 | .mut k=>match μ[k]? with
  | some (.obj [kp,_] n)=>if 1<=n then(if m=24 then some (.mut kp)else if m=25 then some (.str ws)else if m=26 then some (.int n)else .none)else .none
  | _=>.none
 | _=>.none
noncomputable def gL(th:a3r):G:={ gB th with find:=d1v,meth:=d0j,attr:=e5s,lexOn:=true}
section
variable{prog:Program}{w:World}{base:Heap}{B:LB base}{lm:LamT}{P:Addr}{th:a3r}
theorem isL{μ:Mu}{u:V}{G:Prop}(h:a3s μ u=true)(k:∀ k a b n,u=.mut k->μ[k]?=some (.obj [a,b] n)->1<=n->G):G:=by
 induction u using Mine.V.casesOn with
 | «mut» i=>
  have h:(match (generalizing:=false) μ[i]? with | some (.obj [_,_] n)=>decide (1<=n) | _=>false)=true:=h
  induction e:μ[i]? using Option.casesOn with
  | none=>rw [e]at h;exact nt h
  | some m=>
   rw [e]at h;induction m using Mine.M.casesOn with
   | list _=>exact nt h
   | obj is n=>induction is using List.casesOn with
    | nil=>exact nt h
    | cons a is=>induction is using List.casesOn with
     | nil=>exact nt h
     | cons b is=>induction is using List.casesOn with
      | nil=>exact k i a b n rfl e (of_decide_eq_true h)
      | cons _ _=>exact nt h
 | _=>exact nt h
theorem e9e{e:Option M}{α:Type}{r:α}{G:Prop}{f:Nat->Int->Option α}(h:(match e with | some (.obj [a,_] m)=>f a m | _=>.none)=some r)(k:∀ a b m,e=some (.obj [a,b] m)->f a m=some r->G):G:=by
 induction e using Option.casesOn with
 | none=>exact ns h
 | some m=>induction m using Mine.M.casesOn with
  | list _=>exact ns h
  | obj is m=>induction is using List.casesOn with
   | nil=>exact ns h
   | cons a is=>induction is using List.casesOn with
    | nil=>exact ns h
    | cons b is=>induction is using List.casesOn with
     | nil=>exact k a b m rfl h
     | cons _ _=>exact ns h
theorem a8q (L:a4z prog w B lm P (gB th)) {x:Str} {f:Addr} {of:Obj} {u:V} {μ:Mu} (hx:x = "_read_char" ∨ x = "get_token" ∨ x = "push_token") (hf:B.mN x=some (.ref f)) (ho:base.get? f=some of) (hc:of.cls=.type "function") (h:a3s μ u=true) :
  a6c prog w (a1f B lm P) base x u μ (.ref f):=by
 intro A E s as ov p Q g r hQ;refine isL h fun k kp ks n e hk hn=>?_;subst e;obtain⟨X,D,PB,F,mA,rfl,_,_,I,La⟩:=a3z g hk hn r;exact d3v g.keep I hx hf ho hc (La.only x (by rcases hx with rfl | rfl | rfl<;>decide) (by rcases hx with rfl | rfl | rfl<;>decide) (by rcases hx with rfl | rfl | rfl<;>decide) (by rcases hx with rfl | rfl | rfl<;>decide)) hQ
theorem f1a(N:b9o prog w base th)(L:a4z prog w B lm P (gB th)):Snd prog w (a1f B lm P) base (gL th):=by
 have S:=e8n (Lx:=a1f B lm P) N;refine⟨S.glob,S.range,S.enum,S.list,S.dic,S.call,fun n m u args μO μ r μ' hf h=>?_,fun m u μ r h=>?_⟩
 ·replace hf:d1v m u μO=true:=hf
  replace h:d0j n m u args μ=some (r,μ'):=h;refine ifE h (fun e h=>?_) fun hne h=>?_
  ·subst e
   refine⟨_,.ref B.fr,nm 21 "_read_char",.func B.fr L.rd.o _ L.rd.at' L.rd.data,a8q L (.inl rfl) B.read L.rd.at' L.rdcls ((if_pos (.inl rfl)).symm.trans hf),?_⟩
   induction u using Mine.V.casesOn with
   | «mut» k=>induction args using List.casesOn with
    | nil=>
     have h:(if 11<=n then(a0w μ k).map fun p=>(V.str p.1,p.2)else .none)=some (r,μ'):=h;exact ifS h fun hn h=>a1e h fun p hr h=>pr h fun e1 e2=>e1▸e2▸(a9o L.snd L.off L.nd L.lam L.nolimit L.rd hr (a6z hr).1).call.less hn
    | cons _ _=>exact ns h
   | _=>exact ns h
  ·refine c0y n m u args μO μ r μ' (ifE hf (fun q zz=>?_) fun zz h=>h) h
   rcases q with rfl | rfl | rfl
   ·exact absurd rfl hne
   ·exact ns h
   ·exact ns h
 ·induction u using Mine.V.casesOn with
  | «mut» k=>
   refine e9e (e:=μ[k]?) h fun kp ks n hk h=>ifS h fun hn h=>ifE h (fun e h=>?_) fun zz h=>ifE h (fun e h=>?_) fun zz h=>ifE h (fun e h=>?_) fun zz h=>ns h
   ·exact e▸Option.some.inj h▸⟨_,nm 24 "pushback",fun A E s as ov Q g r hQ=>c8d hk hn g r hQ⟩
   ·exact e▸Option.some.inj h▸⟨_,nm 25 "whitespace",fun A E s as ov Q g r hQ=>c3l hk hn g r hQ⟩
   ·exact e▸Option.some.inj h▸⟨_,nm 26 "lineno",fun A E s as ov Q g r hQ=>c6m hk hn g r hQ⟩
  | _=>exact ns h
end
end
section
noncomputable def cF(Γ:G)(is:List Nat)(ss:List Mine.S)(n:Nat)(args:List V)(μ:Mu):Option (V×Mu):=match n with
 | 0=>.none
 | k+1=>a2z Γ k is ss args μ
noncomputable def mF(Γ:G)(is:List Nat)(ss:List Mine.S)(n:Nat)(u:V)(args:List V)(μ:Mu):Option (V×Mu):=match n with
 | 0=>.none
 | k+1=>a2z Γ k is ss (u::args) μ
noncomputable def a2m(μ:Mu):Bool:=μ.all (okM μ.length)
section
variable{Γ:G}{n:Nat}{ρ:Rho}{μ:Mu}
theorem e1z{i:Nat}:ev Γ (n+1) (.loc i) ρ μ=(ρ.lookup i).map (·,μ):=rfl
theorem bindV{γ:Type}{e:Option (V×Mu)}{f:V->Mu->Option γ}:(match e with | some (a,b)=>f a b | .none=>.none)=e.bind fun p=>f p.1 p.2:=by cases e<;>rfl
theorem e8h{γ:Type}{e:Option (List V×Mu)}{f:List V->Mu->Option γ}:(match e with | some (a,b)=>f a b | .none=>.none)=e.bind fun p=>f p.1 p.2:=by cases e<;>rfl
theorem e5r{γ:Type}{e:Option (List V×Mu)}{f:List V->Mu->γ}:(match e with | some (a,b)=>some (f a b) | .none=>.none)=e.map fun p=>f p.1 p.2:=by cases e<;>rfl
theorem b4c{f:X->Mu->Option (V×Mu)}:evs f [] μ=some ([],μ):=rfl
theorem d2r{f:X->Mu->Option (V×Mu)}{x:X}{r:List X}:evs f (x::r) μ=(f x μ).bind fun p=>(evs f r p.2).map fun q=>(p.1::q.1,q.2):=
 bindV.trans (congrArg (Option.bind _) (funext fun zz=>e5r))
theorem a0a{f:Mine.S->Rho->Mu->Option (F×Rho×Mu)}{s:Mine.S}{r:List Mine.S}{ρ':Rho}{μ':Mu}(h:f s ρ μ=some (.next,ρ',μ')):a3q f (s::r) ρ μ=a3q f r ρ' μ':=by
 rw [e5a,h]
theorem c5b{f:Mine.S->Rho->Mu->Option (F×Rho×Mu)}{s:Mine.S}{r:List Mine.S}{ρ':Rho}{μ':Mu}(h:f s ρ μ=some (.cont,ρ',μ')):a3q f (s::r) ρ μ=some (.cont,ρ',μ'):=by
 rw [e5a,h]
theorem a2u{f:Mine.S->Rho->Mu->Option (F×Rho×Mu)}{s:Mine.S}{r:List Mine.S}{v:V}{ρ':Rho}{μ':Mu}(h:f s ρ μ=some (.ret v,ρ',μ')):a3q f (s::r) ρ μ=some (.ret v,ρ',μ'):=by
 rw [e5a,h]
variable{μ' μ₂:Mu}
theorem a2r{elt it:X}{t:T}{ifs:List X}{own:List Nat}{vs ys:List V}(h1:a1w (fun x μ=>ev Γ n x ρ μ) it μ=some (vs,μ))(hz:vs.length<=big)(h2:a8z (ev Γ n) elt t ifs vs (ρ.filter fun p=>!own.contains p.1) μ=some (ys,μ')):ev Γ (n+1) (.comp elt t it ifs own) ρ μ=some (.lst ys,μ'):=by
 rw [a8j,h1];refine(if_pos hz).trans ?_;rw [h2]
theorem b2r{c a b:X}{bv:Bool}{v:V}(h:ev Γ n c ρ μ=some (v,μ))(ht:a3a (a1n μ v)=some bv):ev Γ (n+1) (.ite c a b) ρ μ=if bv then ev Γ n a ρ μ else ev Γ n b ρ μ:=by
 rw [b8n,h];dsimp only;rw [ht];cases bv<;>rfl
theorem a7b{l:List X}{vs:List V}(h:evs (fun x μ=>ev Γ n x ρ μ) l μ=some (vs,μ'))(hz:vs.length<=big):ev Γ (n+1) (.lst l) ρ μ=some (.lst vs,μ'):=by
 rw [b8y,h];exact if_pos hz
theorem a7r{l:List X}{vs:List V}(h:evs (fun x μ=>ev Γ n x ρ μ) l μ=some (vs,μ'))(hz:vs.length<=big):ev Γ (n+1) (.tup l) ρ μ=some (.tup vs,μ'):=by
 rw [b9f,h];exact if_pos hz
theorem a5j{f:X->Mu->Option (V×Mu)}{x:X}{v:V}{μ μ₁:Mu}(h:f x μ=some (v,μ₁)):evs f [x] μ=some ([v],μ₁):=e2o h
theorem a4e{f:X->Mu->Option (V×Mu)}{x:X}{r:List X}{v:V}{vs:List V}{μ μ₁ μ₂:Mu}(h:f x μ=some (v,μ₁))(h2:evs f r μ₁=some (vs,μ₂)):evs f (x::r) μ=some (v::vs,μ₂):=by
 rw [d2r,h];show(evs f r μ₁).map _=_;rw [h2];rfl
theorem a0c{i:Nat}{e:X}{v:V}(h:ev Γ n e ρ μ=some (v,μ')):a0d Γ n (.assign i e) ρ μ=some (.next,put i v ρ,μ'):=by rw [a9w,h]
theorem b5b{e:X}{v:V}(h:ev Γ n e ρ μ=some (v,μ')):a0d Γ n (.ret e) ρ μ=some (.ret v,ρ,μ'):=by rw [d2t,h]
theorem a3d{e:X}{v:V}(h:ev Γ n e ρ μ=some (v,μ')):a0d Γ n (.expr e) ρ μ=some (.next,ρ,μ'):=by rw [b9s,h]
theorem a0r{c:X}{a b:List Mine.S}{v:V}{bv:Bool}(h:ev Γ (n+1) c ρ μ=some (v,μ))(ht:a3a (a1n μ v)=some bv):a0d Γ (n+1) (.ite c a b) ρ μ=a3q (a0d Γ n) (if bv then a else b) ρ μ:=by
 rw [d1t,h];dsimp only;rw [ht];cases bv<;>rfl
theorem d1e{i:Nat}{op:Operator}{e:X}{u v r:V}(h:ρ.lookup i=some u)(h1:ev Γ n e ρ μ=some (v,μ'))(h2:c2r op u v=some r):a0d Γ n (.aug i op e) ρ μ=some (.next,put i r ρ,μ'):=by
 rw [d2n,h];dsimp only;rw [h1];dsimp only;rw [h2];rfl
theorem evc{v:V}:ev Γ (n+1) (.cst v) ρ μ=some (v,μ):=rfl
theorem evl{i:Nat}{v:V}(h:ρ.lookup i=some v):ev Γ (n+1) (.loc i) ρ μ=some (v,μ):=by rw [e1z,h];rfl
theorem evb{op:Operator}{a b:X}{u v w:V}(h1:ev Γ n a ρ μ=some (u,μ))(h2:ev Γ n b ρ μ=some (v,μ))(h3:a0x op (a1n μ u) (a1n μ v)=some w):ev Γ (n+1) (.bin op a b) ρ μ=some (w,μ):=by
 rw [b9i,h1];dsimp only;rw [h2];dsimp only;rw [h3];rfl
theorem a0i{op:CmpOp}{a b:X}{u v:V}{w:Bool}(h1:ev Γ n a ρ μ=some (u,μ))(h2:ev Γ n b ρ μ=some (v,μ))(h3:a0z op (a1n μ u) (a1n μ v)=some w):ev Γ (n+1) (.cmp op a b) ρ μ=some (.bool w,μ):=by
 rw [b9c,h1];dsimp only;rw [h2];dsimp only;rw [h3];rfl
theorem a4o{a b:X}{u v w:V}(h1:ev Γ n a ρ μ=some (u,μ))(h2:ev Γ n b ρ μ=some (v,μ))(h3:item (a1n μ u) v=some w):ev Γ (n+1) (.sub a b) ρ μ=some (w,μ):=by
 rw [b8h,h1];dsimp only;rw [h2];dsimp only;rw [h3];rfl
theorem a0k{f:Nat}{args:List X}{vs:List V}{μ₁:Mu}(h:evs (fun x μ=>ev Γ n x ρ μ) args μ=some (vs,μ₁)):ev Γ (n+1) (.call f args) ρ μ=Γ.call n f vs μ₁:=by
 rw [b0y,h]
theorem c7c{m:Nat}{o:X}{u v:V}(h:ev Γ n o ρ μ=some (u,μ))(h2:Γ.attr m u μ=some v):ev Γ (n+1) (.attr m o) ρ μ=some (v,μ):=by
 rw [b1q,h];dsimp only;rw [h2];rfl
theorem a4p{m:Nat}{o:X}{args:List X}{u:V}{vs:List V}{μ₁:Mu}(h:ev Γ n o ρ μ=some (u,μ))(hf:Γ.find m u μ=true)(h2:evs (fun x μ=>ev Γ n x ρ μ) args μ=some (vs,μ₁)):ev Γ (n+1) (.meth m o args) ρ μ=Γ.meth n m u vs μ₁:=by
 rw [b0n,h];refine(if_pos hf).trans ?_;rw [h2]
theorem a1q{f:X->Mu->Option (V×Mu)}{x:X}{v:V}{μ:Mu}(h:f x μ=some (v,μ)):evs f [x] μ=some ([v],μ):=a5j h
theorem evn{f:X->Mu->Option (V×Mu)}{x:X}{r:List X}{v:V}{vs:List V}{μ:Mu}(h:f x μ=some (v,μ))(h2:evs f r μ=some (vs,μ)):evs f (x::r) μ=some (v::vs,μ):=a4e h h2
theorem e1r{f:X->Mu->Option (V×Mu)}{l:List X}{vs:List V}(h:f (.tup l) μ=some (.tup vs,μ')):a1w f (.tup l) μ=some (vs,μ'):=by rw [f0q,h];rfl
theorem a5b{t:T}{e:X}{a:List Mine.S}{vs:List V}(h:a1w (fun x μ=>ev Γ n x ρ μ) e μ=some (vs,μ')):a0d Γ n (.for t e a) ρ μ=a3w (fun ρ μ=>exec Γ n a ρ μ) t vs ρ μ':=by rw [d2o,h]
theorem a3u{i:Nat}{e:X}{v:V}{rest:List Mine.S}{r:Option (F×Rho×Mu)}(h:ev Γ n e ρ μ=some (v,μ))(k:a3q (a0d Γ n) rest (put i v ρ) μ=r):a3q (a0d Γ n) (.assign i e::rest) ρ μ=r:=
 (a0a (a0c h)).trans k
theorem a7i{e:X}{v:V}{rest:List Mine.S}(h:ev Γ n e ρ μ=some (v,μ)):a3q (a0d Γ n) (.ret e::rest) ρ μ=some (.ret v,ρ,μ):=
 a2u (b5b h)
theorem a8m{c:X}{bv:Bool}{a b rest:List Mine.S}{ρ':Rho}{r:Option (F×Rho×Mu)}(h:ev Γ (n+1) c ρ μ=some (.bool bv,μ))(k:a3q (a0d Γ n) (if bv then a else b) ρ μ=some (.next,ρ',μ))(k2:a3q (a0d Γ (n+1)) rest ρ' μ=r):a3q (a0d Γ (n+1)) (.ite c a b::rest) ρ μ=r:=
 (a0a ((a0r h rfl).trans k)).trans k2
theorem a8c{c:X}{bv:Bool}{a b rest:List Mine.S}{ρ':Rho}{v:V}(h:ev Γ (n+1) c ρ μ=some (.bool bv,μ))(k:a3q (a0d Γ n) (if bv then a else b) ρ μ=some (.ret v,ρ',μ)):a3q (a0d Γ (n+1)) (.ite c a b::rest) ρ μ=some (.ret v,ρ',μ):=
 a2u ((a0r h rfl).trans k)
end
section
variable{Γ:G}{n:Nat}{is:List Nat}{ss:List Mine.S}{args:List V}{μ μ₂ μK:Mu}{ρ₂:Rho}
theorem a4k{v v':V}(hl:(is.length==args.length)=true)(h:exec Γ n ss (is.zip args) μ=some (.ret v,ρ₂,μ₂))(ht:μ₂.take μ.length=μK)(hok:μK.all (okM μ.length)=true)(hf:a4v μ.length μ₂ v=some v'):a2z Γ n is ss args μ=some (v',μK):=by
 unfold a2z;rw [if_pos hl,h];dsimp only;rw [ht,if_pos hok,hf];rfl
theorem d1h(hl:(is.length==args.length)=true)(h:exec Γ n ss (is.zip args) μ=some (.next,ρ₂,μ₂))(ht:μ₂.take μ.length=μK)(hok:μK.all (okM μ.length)=true):a2z Γ n is ss args μ=some (.none,μK):=by
 unfold a2z;rw [if_pos hl,h];dsimp only;rw [ht,if_pos hok]
end
theorem c7m(th:a3r)(n:Nat)(i:Int)(μ:Mu)(h:a2m μ=true):cF (gL th) P_ISTERMINAL a2x (n+10) [.int i] μ=some (.bool (decide (i<256)),μ):=by
 have e:exec (gL th) (n+9) a2x (P_ISTERMINAL.zip [.int i]) μ=some (.ret (.bool (decide (i<256))),P_ISTERMINAL.zip [.int i],μ):=
  a7i (a0i (evl rfl) rfl rfl)
 exact a4k rfl e List.take_length h rfl
end
section
noncomputable def a9x(c:Nat):Bool:=c==10||c==9||c==13||c==32
noncomputable def nl(c:Nat)(n:Int):Int:=if c=10 then n+1 else n
noncomputable def a5r(p:Nat->Bool):List Nat->List Nat->Int->List Nat×List Nat×Int×Bool
 | [],tok,n=>(tok,[],n,true)
 | c::t,tok,n=>if p c then(tok,t,nl c n,false)else if c=92 then(match t with
   | []=>(tok,[],nl c n,true)
   | d::t'=>a5r p t' (tok++[d]) (nl d (nl c n)))
  else a5r p t (tok++[c]) (nl c n)
noncomputable def e0a(c:Nat):Bool:=c==34
noncomputable def d0k(r:List Nat×List Nat×Int×Bool):List Nat×List Nat×Int:=(r.1,r.2.1,r.2.2.1)
noncomputable def a0j:List Nat->Int->List Nat×List Nat×Int
 | [],n=>([],[],n)
 | c::t,n=>if a9x c then a0j t (nl c n)else d0k (if c=34 then a5r e0a t [] (nl c n)else a5r a9x (c::t) [] n)
theorem nf{b:Bool}(h:b=false):¬b=true:=fun q=>nt (h.symm.trans q)
section
variable{p:Nat->Bool}{c:Nat}
theorem a4h(h:p c=true)(t tok:List Nat)(n:Int):a5r p (c::t) tok n=(tok,t,nl c n,false):=by cases t<;>exact if_pos h
theorem a6n(h:p c=false)(h92:c≠92)(t tok:List Nat)(n:Int):a5r p (c::t) tok n=a5r p t (tok++[c]) (nl c n):=by cases t<;>exact(if_neg (nf h)).trans (if_neg h92)
theorem b0a(h:p 92=false)(tok:List Nat)(n:Int):a5r p [92] tok n=(tok,[],nl 92 n,true):=if_neg (nf h)
theorem b1f(h:p 92=false)(d:Nat)(t tok:List Nat)(n:Int):a5r p (92::d::t) tok n=a5r p t (tok++[d]) (nl d (nl 92 n)):=if_neg (nf h)
theorem b0d(h:p 92=false){P:List Nat->List Nat->Int->Prop}(h0:∀ tok n,P [] tok n)(hE:∀ c t tok n,p c=true->P (c::t) tok n)(hB:∀ tok n,P [92] tok n)(hD:∀ d t tok n,P t (tok++[d]) (nl d (nl 92 n))->P (92::d::t) tok n)
  (h1:∀ c t tok n,p c=false->c≠92->P t (tok++[c]) (nl c n)->P (c::t) tok n):∀(m:Nat) (t tok:List Nat) (n:Int),t.length<=m->P t tok n:=by
 intro m;induction m with
 | zero=>intro t tok n hm;induction t using List.casesOn with
  | nil=>exact h0 tok n
  | cons _ _=>exact absurd hm (Nat.not_succ_le_zero _)
 | succ m ih=>
  intro t tok n hm;induction t using List.casesOn with
  | nil=>exact h0 tok n
  | cons c t=>
   have hm2:=Nat.le_of_succ_le_succ hm;induction hc:p c using Bool.casesOn with
   | true=>exact hE c t tok n hc
   | false=>
    by_cases h92:c=92
    ·subst h92
     induction t using List.casesOn with
     | nil=>exact hB tok n
     | cons d t=>exact hD d t tok n (ih t _ _ (Nat.le_of_succ_le hm2))
    ·exact h1 c t tok n hc h92 (ih t _ _ hm2)
theorem a8g(h:a9x c=true)(t:List Nat)(n:Int):a0j (c::t) n=a0j t (nl c n):=if_pos h
theorem a6l(t:List Nat)(n:Int):a0j (34::t) n=d0k (a5r e0a t [] (nl 34 n)):=rfl
theorem a8h(h:a9x c=false)(h34:c≠34)(t:List Nat)(n:Int):a0j (c::t) n=d0k (a5r a9x (c::t) [] n):=(if_neg (nf h)).trans (congrArg d0k (if_neg h34))
end
structure LxIx where
 k:Nat
 kp:Nat
 ks:Nat
 kl:Nat
 kc:Nat
structure LxIx.Ok(x:LxIx)(μ:Mu):Prop where
 ks:μ[x.ks]?=some (.obj [x.kl,x.kc] (-3))
 kc:μ[x.kc]?=some (.obj [] (-6))
 lk:x.k<μ.length
 ll:x.kl<μ.length
 lp:x.kp<μ.length
 n1:x.k≠x.kl
 n2:x.ks≠x.k
 n3:x.ks≠x.kl
 n4:x.kc≠x.k
 n5:x.kc≠x.kl
 n6:x.kp≠x.k
 n7:x.kp≠x.kl
 n8:x.kp≠x.ks
noncomputable def stT(x:LxIx)(μ:Mu)(t:List Nat)(n:Int):Mu:=(μ.set x.kl (.list (chars t))).set x.k (.obj [x.kp,x.ks] n)
noncomputable def stX(x:LxIx)(μ:Mu)(t:List Nat)(n:Int)(e:Int):Mu:=stT x μ t n++[.obj [x.k] e]
section
variable{x:LxIx}{μ:Mu}{t:List Nat}{n e:Int}
theorem a3i:(stT x μ t n).length=μ.length:=by simp [stT]
theorem c4f(h:x.Ok μ):(stT x μ t n)[x.k]?=some (.obj [x.kp,x.ks] n):=by
 unfold stT;rw [List.getElem?_set_self (by simpa using h.lk)]
theorem d4c(h:x.Ok μ):(stT x μ t n)[x.kl]?=some (.list (chars t)):=by
 unfold stT;rw [List.getElem?_set_ne h.n1,List.getElem?_set_self h.ll]
theorem d5g(h:x.Ok μ):(stT x μ t n)[x.ks]?=some (.obj [x.kl,x.kc] (-3)):=by
 unfold stT;rw [List.getElem?_set_ne h.n2.symm,List.getElem?_set_ne h.n3.symm];exact h.ks
theorem d5n(h:x.Ok μ):(stT x μ t n)[x.kc]?=some (.obj [] (-6)):=by
 unfold stT;rw [List.getElem?_set_ne h.n4.symm,List.getElem?_set_ne h.n5.symm];exact h.kc
theorem e1s(h:x.Ok μ):(stT x μ t n)[x.kp]?=μ[x.kp]?:=by
 unfold stT;rw [List.getElem?_set_ne h.n6.symm,List.getElem?_set_ne h.n7.symm]
theorem a4l{l:Mu}{i:Nat}{m:M}{r:Mu}(h:l[i]?=some m):(l++r)[i]?=some m:=by
 rw [List.getElem?_append_left (List.getElem?_eq_some_iff.mp h).1];exact h
theorem c4k{c:Nat}:(chars (c::t)).getLast?=some (.str [c]):=by simp [chars]
theorem c2w{c:Nat}:(chars (c::t)).dropLast=chars t:=by simp [chars]
theorem c6g:(chars t).length=t.length:=by simp [chars]
theorem c5a{l r:Mu}{i:Nat}{m:M}(h:i<l.length):(l++r).set i m=l.set i m++r:=List.set_append_left _ _ h
noncomputable def e0p(μ:Mu)(k kl kp ks:Nat)(n:Int)(L:List V):Option V->Option (List Nat×Mu)
 | .none=>some ([],μ)
 | some (.str [c])=>if c<1114112 then(if c=10 then some ([c],(μ.set kl (.list L.dropLast)).set k (.obj [kp,ks] (n+1)))else some ([c],μ.set kl (.list L.dropLast)))else .none
 | _=>.none
theorem c8s{k kp ks kl kc:Nat}{L:List V}(h1:μ[k]?=some (.obj [kp,ks] n))(h2:μ[ks]?=some (.obj [kl,kc] (-3)))(h3:μ[kl]?=some (.list L))(h4:μ[kc]?=some (.obj [] (-6)))(hn:1<=n)(hl:L.length<=big):a0w μ k=e0p μ k kl kp ks n L L.getLast?:=by
 show(match (generalizing:=false) μ[k]? with | some (.obj [kp,ks] n)=>_ | _=>Option.none)=_
 rw [h1];refine(if_pos hn).trans ?_;show(match (generalizing:=false) μ[ks]? with | some (.obj [kl,kc] (-3))=>_ | _=>Option.none)=_
 rw [h2];show(match (generalizing:=false) μ[kl]?,μ[kc]? with | some (.list L),some (.obj [] (-6))=>_ | _,_=>Option.none)=_
 rw [h3,h4];exact(if_pos hl).trans rfl
theorem c9p{k kl kp ks:Nat}{L:List V}{c:Nat}(hL:L.getLast?=some (.str [c]))(hc:c<1114112):e0p μ k kl kp ks n L L.getLast?=if c=10 then some ([c],(μ.set kl (.list L.dropLast)).set k (.obj [kp,ks] (n+1)))else some ([c],μ.set kl (.list L.dropLast)):=by
 rw [hL];exact if_pos hc
theorem c9x{kf k:Nat}(hk:μ[kf]?=some (.obj [k] (-2))):draw μ kf=match (generalizing:=false) a0w μ k with | some ([],μ)=>some (.none,μ.set kf (.obj [k] (-4))) | some (c,μ)=>some (some c,μ) | .none=>.none:=by
 show(match (generalizing:=false) μ[kf]? with | some (.obj [k] (-2))=>_ | some (.obj [_] (-4))=>some (Option.none,μ) | _=>Option.none)=_
 rw [hk];rfl
theorem b1b(h:x.Ok μ){c:Nat}{r:Mu}(hn:1<=n)(hc:c<1114112)(hz:(c::t).length<=big):a0w (stT x μ (c::t) n++r) x.k=some ([c],stT x μ t (nl c n)++r):=by
 have hz':(chars (c::t)).length<=big:=by rw [c6g];exact hz
 rw [c8s (a4l (c4f h)) (a4l (d5g h)) (a4l (d4c h)) (a4l (d5n h)) hn hz',c9p c4k hc,c2w];have e:(stT x μ (c::t) n).set x.kl (.list (chars t))=stT x μ t n:=by
  unfold stT;rw [List.set_comm _ _ h.n1,List.set_set]
 have l1:x.kl<(stT x μ (c::t) n).length:=by rw [a3i];exact h.ll
 have l2:x.k<(stT x μ t n).length:=by rw [a3i];exact h.lk
 rw [c5a l1,e,c5a l2];unfold nl;split
 ·have:(stT x μ t n).set x.k (.obj [x.kp,x.ks] (n+1))=stT x μ t (n+1):=by unfold stT;rw [List.set_set]
  rw [this]
 ·rfl
theorem b4v(h:x.Ok μ){r:Mu}(hn:1<=n):a0w (stT x μ [] n++r) x.k=some ([],stT x μ [] n++r):=by
 exact c8s (a4l (c4f h)) (a4l (d5g h)) (a4l (d4c h)) (a4l (d5n h)) hn (Nat.zero_le _)
theorem d5y:(stX x μ t n e)[μ.length]?=some (.obj [x.k] e):=by
 unfold stX;rw [List.getElem?_append_right (by rw [a3i];exact Nat.le_refl _),a3i];simp
theorem a5v(h:x.Ok μ){c:Nat}(hn:1<=n)(hc:c<1114112)(hz:(c::t).length<=big):draw (stX x μ (c::t) n (-2)) μ.length=some (some [c],stX x μ t (nl c n) (-2)):=by
 rw [c9x d5y,show stX x μ (c::t) n (-2)=stT x μ (c::t) n++[.obj [x.k] (-2)]from rfl,b1b h hn hc hz];rfl
theorem c0a(h:x.Ok μ)(hn:1<=n):draw (stX x μ [] n (-2)) μ.length=some (.none,stX x μ [] n (-4)):=by
 rw [c9x d5y,show stX x μ [] n (-2)=stT x μ [] n++[.obj [x.k] (-2)]from rfl,b4v h hn];show some ((.none:Option (List Nat)),List.set (stT x μ [] n++[M.obj [x.k] (-2)]) μ.length (M.obj [x.k] (-4)))=some (.none,stT x μ [] n++[M.obj [x.k] (-4)]);have e:=List.set_append_right (s:=stT x μ [] n) (t:=[M.obj [x.k] (-2)]) μ.length (M.obj [x.k] (-4)) (by rw [a3i];exact Nat.le_refl _);rw [a3i]at e;rw [show List.set (stT x μ [] n++[M.obj [x.k] (-2)]) μ.length (M.obj [x.k] (-4))=stT x μ [] n++[M.obj [x.k] (-4)]from by rw [e];simp]
theorem d1j:draw (stX x μ [] n (-4)) μ.length=some (.none,stX x μ [] n (-4)):=by
 show(match (generalizing:=false) (stX x μ [] n (-4))[μ.length]? with | some (.obj [k] (-2))=>_ | some (.obj [_] (-4))=>some (Option.none,stX x μ [] n (-4)) | _=>Option.none)=_
 rw [d5y];rfl
end
theorem d4l{c:Nat}(h:c<1114112):PyData.strOk ⟨[c].toArray⟩=true:=by unfold PyData.strOk;simp [h]
theorem eq1{c d:Nat}(h:c<1114112)(hd:d<1114112):a0z .Eq (.str [c]) (.str [d])=some (decide (c=d)):=by
 simp only [e4e,e4m,e4l,e4j,e4n,e4f,e3z];rw [c7h (d4l h) (d4l hd)];simp
theorem e6h{c:Nat}(h:c<1114112):a0z .In (.str [c]) (.str ws)=some (a9x c):=by
 have e:=PySem.StrLaws.found_one (txt ws) c;refine congrArg some ?_;show(!(Builtin.Str.occurrences (txt ws) ⟨#[c]⟩ 0 (txt ws).length 1).isEmpty)=a9x c;rw [e];unfold a9x txt ws;simp only [List.mem_cons,List.not_mem_nil,or_false];by_cases h1:c=10<;>by_cases h2:c=9<;>by_cases h3:c=13<;>by_cases h4:c=32<;>simp [h1,h2,h3,h4]
end
section
structure RT(x:LxIx)(m:Nat)(ρ:Rho)(tok:List Nat):Prop where
 self:ρ.lookup 16=some (.mut x.k)
 tok:ρ.lookup 78=some (.str tok)
 fit:ρ.lookup 79=some (.mut m)
theorem RT.put17{x:LxIx}{m:Nat}{ρ:Rho}{tok:List Nat}(h:RT x m ρ tok)(v:V):RT x m (put 17 v ρ) tok:=
 ⟨by rw [a0b,if_neg (by decide)];exact h.self,by rw [a0b,if_neg (by decide)];exact h.tok,by rw [a0b,if_neg (by decide)];exact h.fit⟩
theorem RT.put78{x:LxIx}{m:Nat}{ρ:Rho}{tok:List Nat}(h:RT x m ρ tok)(t:List Nat):RT x m (put 78 (.str t) ρ) t:=
 ⟨by rw [a0b,if_neg (by decide)];exact h.self,by rw [a0b,if_pos rfl],by rw [a0b,if_neg (by decide)];exact h.fit⟩
theorem a5n{ρ:Rho}{v:V}:(put 17 v ρ).lookup 17=some v:=by rw [a0b,if_pos rfl]
noncomputable def c9w:Mine.S:=.ite (.cmp .Eq (.loc 17) (.cst (.str [92]))) [.assign 17 (.meth 21 (.loc 16) [])] []
noncomputable def d4k:Mine.S:=.aug 78 .Add (.loc 17)
section
variable{th:a3r}{x:LxIx}{μ:Mu}{ρ:Rho}{tok t:List Nat}{c:Nat}{n e:Int}{N:Nat}
theorem d0z(h:x.Ok μ)(hn:1<=n){r:Mu}:a3s (stT x μ t n++r) (.mut x.k)=true:=by
 show(match (generalizing:=false) (stT x μ t n++r)[x.k]? with | some (.obj [_,_] n)=>decide (1<=n) | _=>false)=true
 rw [a4l (c4f h)];exact decide_eq_true hn
theorem d6m(h:x.Ok μ)(hn:1<=n){m:Nat}(hr:RT x m ρ tok){r:Mu}{s:List Nat}{μ':Mu}(hrd:a0w (stT x μ t n++r) x.k=some (s,μ')):ev (gL th) (N+13) (.meth 21 (.loc 16) []) ρ (stT x μ t n++r)=some (.str s,μ'):=by
 refine(a4p (evl hr.self) (show(if(21=21∨21=22∨21=23)then a3s (stT x μ t n++r) (.mut x.k)else b9e 21 (.mut x.k) (stT x μ t n++r))=true from(if_pos (Or.inl rfl)).trans (d0z h hn)) rfl).trans ?_;show(if 11<=N+12 then(a0w (stT x μ t n++r) x.k).map fun p=>(V.str p.1,p.2)else .none)=_;rw [if_pos (Nat.le_add_left 11 (N+1)),hrd];rfl
theorem a3k(hn:1<=n)(c:Nat):1<=nl c n:=by
 unfold nl;by_cases h:c=10
 ·rw [if_pos h];exact Int.le_trans hn (Int.le_add_of_nonneg_right (by decide))
 ·rw [if_neg h];exact hn
noncomputable def b6d(cx:X):List Mine.S:=[.ite cx [.ret (.loc 78)] [c9w],d4k]
noncomputable def cxQ:X:=.cmp .Eq (.loc 17) (.cst (.str [34]))
noncomputable def cxW:X:=.cmp .In (.loc 17) (.attr 25 (.loc 16))
theorem c0b{cx:X}{a:List Mine.S}{μ' μ'':Mu}{ρ' ρ'':Rho}(hcx:ev (gL th) (N+21) cx ρ μ=some (.bool false,μ))(he:a0d (gL th) (N+20) c9w ρ μ=some (.next,ρ',μ'))(ha:a0d (gL th) (N+21) d4k ρ' μ'=some (.next,ρ'',μ'')):exec (gL th) (N+22) [.ite cx a [c9w],d4k] ρ μ=some (.next,ρ'',μ''):=
 (a0a ((a0r hcx rfl).trans (show a3q (a0d (gL th) (N+20)) [c9w] ρ μ=some (.next,ρ',μ')from a0a he))).trans (a0a ha)
theorem e8u(h17:ρ.lookup 17=some (.str [c]))(hc:c<1114112)(h92:c≠92){μ:Mu}:a0d (gL th) (N+20) c9w ρ μ=some (.next,ρ,μ):=
 a0r (a0i (evl h17) rfl (eq1 hc (show 92<1114112 by decide))) (congrArg some (decide_eq_false h92))
theorem e7e(h:x.Ok μ)(hn:1<=n){m:Nat}(hr:RT x m ρ tok)(h17:ρ.lookup 17=some (.str [92])){s:List Nat}{r:Mu}{μ':Mu}(hrd:a0w (stT x μ t n++r) x.k=some (s,μ')):a0d (gL th) (N+20) c9w ρ (stT x μ t n++r)=some (.next,put 17 (.str s) ρ,μ'):=
 (a0r (a0i (evl h17) rfl (eq1 (by decide) (by decide))) rfl).trans (a0a (a0c (d6m (N:=N+6) h hn hr hrd)))
theorem e6s{s:List Nat}(h17:ρ.lookup 17=some (.str s))(hk:ρ.lookup 78=some (.str tok))(hl:tok.length+s.length<=big){μ:Mu}:a0d (gL th) (N+1) d4k ρ μ=some (.next,put 78 (.str (tok++s)) ρ,μ):=
 d1e hk (evl h17) (au_s.trans (if_pos (decide_eq_true hl)))
theorem c2c{cx:X}{a:List Mine.S}{μ:Mu}{m:Nat}(hcx:ev (gL th) (N+21) cx ρ μ=some (.bool false,μ))(hr:RT x m ρ tok)(h17:ρ.lookup 17=some (.str [c]))(hc:c<1114112)(h92:c≠92)(hl:tok.length+1<=big) :
  exec (gL th) (N+22) [.ite cx a [c9w],d4k] ρ μ=some (.next,put 78 (.str (tok++[c])) ρ,μ):=
 c0b hcx (e8u h17 hc h92) (e6s (N:=N+20) h17 hr.tok hl)
theorem c1t{cx:X}{a:List Mine.S}{m:Nat}(h:x.Ok μ)(hn:1<=n){r:Mu}(hcx:ev (gL th) (N+21) cx ρ (stT x μ t n++r)=some (.bool false,stT x μ t n++r))(hr:RT x m ρ tok)(h17:ρ.lookup 17=some (.str [92])){s:List Nat}{μ':Mu}(hrd:a0w (stT x μ t n++r) x.k=some (s,μ'))(hl:tok.length+s.length<=big) :
  exec (gL th) (N+22) [.ite cx a [c9w],d4k] ρ (stT x μ t n++r)=some (.next,put 78 (.str (tok++s)) (put 17 (.str s) ρ),μ'):=
 c0b hcx (e7e h hn hr h17 hrd) (e6s (N:=N+20) a5n (hr.put17 _).tok hl)
theorem e7i(h17:ρ.lookup 17=some (.str [c]))(hc:c<1114112){μ:Mu}:ev (gL th) (N+21) cxQ ρ μ=some (.bool (e0a c),μ):=
 a0i (evl h17) rfl (eq1 hc (show 34<1114112 by decide))
theorem e2m(h:x.Ok μ)(hn:1<=n){m:Nat}(hr:RT x m ρ tok)(h17:ρ.lookup 17=some (.str [c]))(hc:c<1114112){r:Mu}:ev (gL th) (N+21) cxW ρ (stT x μ t n++r)=some (.bool (a9x c),stT x μ t n++r):=by
 refine a0i (evl h17) (c7c (v:=.str ws) (evl hr.self) ?_) (e6h hc);show(match (generalizing:=false) (stT x μ t n++r)[x.k]? with | some (.obj [kp,_] n)=>if 1<=n then some (V.str ws)else .none | _=>.none)=_
 rw [a4l (c4f h)];exact if_pos hn
section
variable{f:Rho->Mu->Option (F×Rho×Mu)}{t':T}{kf m:Nat}{μ' μ₂ μK:Mu}{s:List Nat}{ρ₂ ρK:Rho}
theorem c9i(hd:draw μ' kf=some (.none,μ₂)):a3h f t' kf (m+1) ρ μ'=some (.next,ρ,μ₂):=by
 show(match (generalizing:=false) draw μ' kf with | .none=>Option.none | some (.none,μ)=>some (F.next,ρ,μ) | some (some c,μ)=>_)=_
 rw [hd]
theorem d7c(hd:draw μ' kf=some (some s,μ₂))(hb:a3f t' (.str s) ρ=some ρ₂):a3h f t' kf (m+1) ρ μ'=(match (generalizing:=false) f ρ₂ μ₂ with
  | .none=>Option.none | some (.brk,ρ,μ)=>some (.next,ρ,μ) | some (.ret v,ρ,μ)=>some (.ret v,ρ,μ) | some (_,ρ,μ)=>a3h f t' kf m ρ μ):=by
 show(match (generalizing:=false) draw μ' kf with | .none=>Option.none | some (.none,μ)=>some (F.next,ρ,μ) | some (some c,μ)=>(match (generalizing:=false) a3f t' (.str c) ρ with
  | .none=>Option.none | some ρ=>(match (generalizing:=false) f ρ μ with
   | .none=>Option.none | some (.brk,ρ,μ)=>some (.next,ρ,μ) | some (.ret v,ρ,μ)=>some (.ret v,ρ,μ) | some (_,ρ,μ)=>a3h f t' kf m ρ μ)))=_
 rw [hd];dsimp only;rw [hb]
theorem b4m(hd:draw μ' kf=some (some s,μ₂))(hb:a3f t' (.str s) ρ=some ρ₂)(hf:f ρ₂ μ₂=some (.next,ρK,μK)):a3h f t' kf (m+1) ρ μ'=a3h f t' kf m ρK μK:=by rw [d7c hd hb,hf]
theorem d8p(hd:draw μ' kf=some (some s,μ₂))(hb:a3f t' (.str s) ρ=some ρ₂)(hf:f ρ₂ μ₂=some (.cont,ρK,μK)):a3h f t' kf (m+1) ρ μ'=a3h f t' kf m ρK μK:=by rw [d7c hd hb,hf]
theorem d5d{v:V}(hd:draw μ' kf=some (some s,μ₂))(hb:a3f t' (.str s) ρ=some ρ₂)(hf:f ρ₂ μ₂=some (.ret v,ρK,μK)):a3h f t' kf (m+1) ρ μ'=some (.ret v,ρK,μK):=by rw [d7c hd hb,hf]
end
noncomputable def LoopIs(x:LxIx)(μ:Mu)(r:List Nat×List Nat×Int×Bool)(o:Option (F×Rho×Mu)):Prop:=
 ∃ ρ',o=(if r.2.2.2 then some (.next,ρ',stX x μ [] r.2.2.1 (-4))else some (.ret (.str r.1),ρ',stX x μ r.2.1 r.2.2.1 (-2)))/\RT x μ.length ρ' r.1
theorem LoopIs.to{r:List Nat×List Nat×Int×Bool}{o o':Option (F×Rho×Mu)}(e:o=o')(h:LoopIs x μ r o'):LoopIs x μ r o:=e▸h
theorem e2j{d:Nat}(h:tok.length+(c::t).length<=big):(tok++[d]).length+t.length<=big:=by
 rw [List.length_append,Nat.add_assoc,Nat.add_comm [d].length];exact h
theorem e1n(h:tok.length+(c::t).length<=big):tok.length+1<=big:=Nat.le_trans (Nat.add_le_add_left (Nat.succ_le_succ (Nat.zero_le _)) _) h
theorem d3m(h:tok.length+(c::t).length<=big):tok.length+t.length<=big:=Nat.le_trans (Nat.add_le_add_left (Nat.le_succ _) _) h
theorem c5t(h:tok.length+t.length<=big):t.length<=big:=Nat.le_trans (Nat.le_add_left _ _) h
theorem e6r{p:Nat->Bool}{cx:X}(h:x.Ok μ)(hp:p 92=false)(hcx:∀ {c:Nat} {t tok:List Nat} {n:Int} {ρ:Rho} {b:Bool},1<=n->RT x μ.length ρ tok->ρ.lookup 17=some (.str [c])->c<1114112->p c=b->ev (gL th) (N+21) cx ρ (stX x μ t n (-2))=some (.bool b,stX x μ t n (-2)))
  (t tok:List Nat) (n:Int):∀(fuel:Nat) (ρ:Rho),t.length<fuel->1<=n->(∀ c∈t,c<1114112)->tok.length+t.length<=big->RT x μ.length ρ tok →
  LoopIs x μ (a5r p t tok n) (a3h (fun ρ μ=>exec (gL th) (N+22) (b6d cx) ρ μ) (.one 17) μ.length fuel ρ (stX x μ t n (-2))):=by
 have h0:∀ {tok:List Nat} {n:Int} {fuel:Nat} {ρ:Rho},0<fuel->1<=n->RT x μ.length ρ tok->LoopIs x μ (tok,[],n,true) (a3h (fun ρ μ=>exec (gL th) (N+22) (b6d cx) ρ μ) (.one 17) μ.length fuel ρ (stX x μ [] n (-2))):=fun {_ _ fuel ρ} hf hn hr=>by
  induction fuel using Nat.casesOn with
  | zero=>exact absurd hf (Nat.lt_irrefl _)
  | succ fuel=>exact⟨ρ,c9i (c0a h hn),hr⟩
 refine b0d hp (P:=fun t tok n=>∀(fuel:Nat) (ρ:Rho),t.length<fuel->1<=n->(∀ c∈t,c<1114112)->tok.length+t.length<=big->RT x μ.length ρ tok →
  LoopIs x μ (a5r p t tok n) (a3h (fun ρ μ=>exec (gL th) (N+22) (b6d cx) ρ μ) (.one 17) μ.length fuel ρ (stX x μ t n (-2)))) ?_ ?_ ?_ ?_ ?_ t.length t tok n (Nat.le_refl _)<;>clear t tok n
 ·intro tok n fuel ρ hf hn _ _ hr
  exact h0 hf hn hr
 ·intro c t tok n hc fuel ρ hf hn hz hl hr
  induction fuel using Nat.casesOn with
  | zero=>exact absurd hf (Nat.not_lt_zero _)
  | succ fuel=>
   have hcc:=hz c List.mem_cons_self;have hr1:=hr.put17 (.str [c]);rw [a4h hc];exact⟨_,d5d (a5v h hn hcc (c5t hl)) rfl (a2u ((a0r (hcx (a3k hn c) hr1 a5n hcc hc) rfl).trans (a7i (evl hr1.tok)))),hr1⟩
 ·intro tok n fuel ρ hf hn hz hl hr
  induction fuel using Nat.casesOn with
  | zero=>exact absurd hf (Nat.not_lt_zero _)
  | succ fuel=>
   have hcc:=hz 92 List.mem_cons_self;have hr1:=hr.put17 (.str [92]);rw [b0a hp];refine .to (b4m (a5v h hn hcc (c5t hl)) rfl (c1t h (a3k hn 92) (hcx (a3k hn 92) hr1 a5n hcc hp) hr1 a5n (b4v h (a3k hn 92)) (d3m hl))) ?_;have:=h0 (Nat.lt_of_succ_lt_succ hf) (a3k hn 92) ((hr1.put17 (.str [])).put78 (tok++[]));rw [List.append_nil]at this ⊢;exact this
 ·intro d t tok n ih fuel ρ hf hn hz hl hr
  induction fuel using Nat.casesOn with
  | zero=>exact absurd hf (Nat.not_lt_zero _)
  | succ fuel=>
   have hcc:=hz 92 List.mem_cons_self;have hr1:=hr.put17 (.str [92]);rw [b1f hp];refine .to (b4m (a5v h hn hcc (c5t hl)) rfl (c1t h (a3k hn 92) (hcx (a3k hn 92) hr1 a5n hcc hp) hr1 a5n (b1b h (a3k hn 92) (hz d (List.mem_cons_of_mem _ List.mem_cons_self)) (c5t (d3m hl))) (e1n (d3m hl)))) ?_;exact ih fuel _ (Nat.lt_of_succ_lt (Nat.lt_of_succ_lt_succ hf)) (a3k (a3k hn 92) d) (fun c hc=>hz c (List.mem_cons_of_mem _ (List.mem_cons_of_mem _ hc))) (e2j (d3m hl)) ((hr1.put17 (.str [d])).put78 (tok++[d]))
 ·intro c t tok n hc h92 ih fuel ρ hf hn hz hl hr
  induction fuel using Nat.casesOn with
  | zero=>exact absurd hf (Nat.not_lt_zero _)
  | succ fuel=>
   have hcc:=hz c List.mem_cons_self;have hr1:=hr.put17 (.str [c]);rw [a6n hc h92];refine .to (b4m (a5v h hn hcc (c5t hl)) rfl (c2c (hcx (a3k hn c) hr1 a5n hcc hc) hr1 a5n hcc h92 (e1n hl))) ?_;exact ih fuel _ (Nat.lt_of_succ_lt_succ hf) (a3k hn c) (fun e he=>hz e (List.mem_cons_of_mem _ he)) (e2j hl) (hr1.put78 (tok++[c]))
theorem b5o{p:Nat->Bool}(hp:p 92=false)(t tok:List Nat)(n:Int):(a5r p t tok n).2.2.2=true->(a5r p t tok n).2.1=[]:=by
 refine b0d hp (P:=fun t tok n=>(a5r p t tok n).2.2.2=true->(a5r p t tok n).2.1=[]) (fun zz zz zz=>rfl) ?_ ?_ ?_ ?_ t.length t tok n (Nat.le_refl _)<;>clear t tok n
 ·intro c t tok n hc h;rw [a4h hc]at h;exact nt h
 ·intro tok n _;rw [b0a hp]
 ·intro d t tok n ih;rw [b1f hp];exact ih
 ·intro c t tok n hc h92 ih;rw [a6n hc h92];exact ih
end
end
section
noncomputable def d2y:List Mine.S:=[.ite cxW [.cont] [],.ite cxQ [.chars (.one 17) 79 (b6d cxQ)] [c9w,d4k,.chars (.one 17) 79 (b6d cxW)]]
section
variable{th:a3r}{x:LxIx}{μ:Mu}{ρ:Rho}{tok t:List Nat}{c:Nat}{n e:Int}{N:Nat}
noncomputable def Ends(x:LxIx)(μ:Mu)(r:List Nat×List Nat×Int)(out:Option (F×Rho×Mu)):Prop:=
 ∃ f ρ' e,out=some (f,ρ',stX x μ r.2.1 r.2.2 e)/\(f=.ret (.str r.1)∨(f=.next/\RT x μ.length ρ' r.1/\e = -4/\r.2.1=[]))
theorem Ends.to{r:List Nat×List Nat×Int}{o o':Option (F×Rho×Mu)}(e:o=o')(h:Ends x μ r o'):Ends x μ r o:=e▸h
theorem e9h:((gL th).lexOn&&decide (12<=N+21))=true:=decide_eq_true (Nat.le_add_left 12 (N+9))
theorem b2v{t':T}{b:List Mine.S}{m:Nat}(hr:RT x m ρ tok){μ:Mu}:a0d (gL th) (N+21) (.chars t' 79 b) ρ μ=a3h (fun ρ μ=>exec (gL th) (N+21) b ρ μ) t' m big ρ μ:=by
 rw [b4b];refine(if_pos e9h).trans ?_;rw [hr.fit]
theorem d4z{p:Nat->Bool}{cx:X}(h:x.Ok μ)(hp:p 92=false)(hcx:∀ {c:Nat} {t tok:List Nat} {n:Int} {ρ:Rho} {b:Bool},1<=n->RT x μ.length ρ tok->ρ.lookup 17=some (.str [c])->c<1114112->p c=b->ev (gL th) (N+21) cx ρ (stX x μ t n (-2))=some (.bool b,stX x μ t n (-2)))
  (hf:t.length<big) (hn:1<=n) (hc:∀ c∈t,c<1114112) (hr:RT x μ.length ρ tok) (hl:tok.length+t.length<=big):Ends x μ (d0k (a5r p t tok n)) (a0d (gL th) (N+22) (.chars (.one 17) 79 (b6d cx)) ρ (stX x μ t n (-2))):=by
 obtain⟨ρ',e',hr'⟩:=e6r (th:=th) (N:=N) h hp hcx t tok n big ρ hf hn hc hl hr;refine .to ((b2v (N:=N+1) hr).trans e') ?_;induction hE:(a5r p t tok n).2.2.2 using Bool.casesOn with
 | true=>exact⟨.next,ρ',-4,(b5o hp t tok n hE).symm▸rfl,.inr ⟨rfl,hr',rfl,b5o hp t tok n hE⟩⟩
 | false=>exact⟨_,ρ',-2,rfl,.inl rfl⟩
theorem b4e{r:List Nat×List Nat×Int}{s:Mine.S}{f:Mine.S->Rho->Mu->Option (F×Rho×Mu)}{μO:Mu}(h:Ends x μ r (f s ρ μO)):Ends x μ r (a3q f [s] ρ μO):=by
 obtain⟨g,ρ',e,h1,h2⟩:=h;refine⟨g,ρ',e,?_,h2⟩;rcases h2 with rfl | ⟨rfl,_⟩
 ·exact a2u h1
 ·exact a0a h1
theorem hQ{c:Nat}{t tok:List Nat}{n:Int}{ρ:Rho}{b:Bool}(_:1<=n)(_:RT x μ.length ρ tok)(h17:ρ.lookup 17=some (.str [c]))(hc:c<1114112)(hp:e0a c=b):ev (gL th) (N+21) cxQ ρ (stX x μ t n (-2))=some (.bool b,stX x μ t n (-2)):=hp▸e7i h17 hc
theorem hW(h:x.Ok μ){c:Nat}{t tok:List Nat}{n:Int}{ρ:Rho}{b:Bool}(hn:1<=n)(hr:RT x μ.length ρ tok)(h17:ρ.lookup 17=some (.str [c]))(hc:c<1114112)(hp:a9x c=b):ev (gL th) (N+21) cxW ρ (stX x μ t n (-2))=some (.bool b,stX x μ t n (-2)):=hp▸e2m (r:=[.obj [x.k] (-2)]) h hn hr h17 hc
theorem e7o(h:x.Ok μ)(hf:(c::t).length<big)(hn:1<=n)(hc:∀ d∈c::t,d<1114112)(hr:RT x μ.length ρ [])(h17:ρ.lookup 17=some (.str [c]))(hw:a9x c=false):Ends x μ (a0j (c::t) n) (exec (gL th) (N+25) d2y ρ (stX x μ t (nl c n) (-2))):=by
 have hcc:=hc c List.mem_cons_self;have hct:∀ d∈t,d<1114112:=fun d hd=>hc d (List.mem_cons_of_mem _ hd);have hft:t.length<big:=Nat.lt_of_succ_lt hf;have n':=a3k hn c;refine .to (a0a (a0r (hW (N:=N+3) h n' hr h17 hcc hw) rfl)) (b4e ?_);by_cases h34:c=34
 ·subst h34
  rw [a6l];refine .to (a0r (hQ (N:=N+3) n' hr h17 hcc rfl) rfl) (b4e (s:=.chars (.one 17) 79 (b6d cxQ)) ?_);exact d4z (N:=N+1) h rfl hQ hft n' hct hr (by rw [List.length_nil,Nat.zero_add];exact Nat.le_of_lt hft)
 ·rw [a8h hw h34]
  refine .to (a0r (hQ (N:=N+3) n' hr h17 hcc (beq_false_of_ne h34)) rfl) ?_;have fin:∀ {t' tok:List Nat} {n':Int} {ρI:Rho} {s:List Nat},a0d (gL th) (N+23) c9w ρ (stX x μ t (nl c n) (-2))=some (.next,ρI,stX x μ t' n' (-2))->ρI.lookup 17=some (.str s)->RT x μ.length ρI []->t'.length+s.length<big->1<=n'->(∀ d∈t',d<1114112)->a5r a9x (c::t) [] n=a5r a9x t' s n' →
    Ends x μ (d0k (a5r a9x (c::t) [] n)) (a3q (a0d (gL th) (N+23)) [c9w,d4k,.chars (.one 17) 79 (b6d cxW)] ρ (stX x μ t (nl c n) (-2))):=fun {t' tok n' ρI s} e3 h17 hr hl hn hc e=>by
   rw [e];refine .to ((a0a e3).trans (a0a (e6s (N:=N+22) h17 hr.tok (by rw [List.length_nil,Nat.zero_add];exact Nat.le_trans (Nat.le_add_left _ _) (Nat.le_of_lt hl))))) (b4e ?_);exact d4z (N:=N+1) (tok:=s) h rfl (hW h) (Nat.lt_of_le_of_lt (Nat.le_add_right _ _) hl) hn hc (hr.put78 s) (by rw [Nat.add_comm];exact Nat.le_of_lt hl)
  by_cases h92:c=92
  ·subst h92
   induction t using List.casesOn with
   | nil=>exact fin (s:=[]) (t':=[]) (tok:=[]) (e7e (N:=N+3) h n' hr h17 (b4v h n')) a5n (hr.put17 _) (by decide) n' hct rfl
   | cons d t=>exact fin (s:=[d]) (tok:=[]) (e7e (N:=N+3) h n' hr h17 (b1b h n' (hct d List.mem_cons_self) (Nat.le_of_lt hft))) a5n (hr.put17 _) hft (a3k n' d) (fun z hz=>hct z (List.mem_cons_of_mem _ hz)) rfl
  ·exact fin (s:=[c]) (tok:=[]) (e8u (N:=N+3) h17 hcc h92) h17 hr hf n' hct (a6n hw h92 t [] n)
theorem e5m(h:x.Ok μ):∀(fuel:Nat) (t:List Nat) (n:Int) (ρ:Rho),t.length<fuel->t.length<big->1<=n->(∀ c∈t,c<1114112)->RT x μ.length ρ [] →
  Ends x μ (a0j t n) (a3h (fun ρ μ=>exec (gL th) (N+25) d2y ρ μ) (.one 17) μ.length fuel ρ (stX x μ t n (-2))):=by
 intro fuel;induction fuel with
 | zero=>intro t n ρ hf;exact absurd hf (Nat.not_lt_zero _)
 | succ fuel ih=>
  intro t n ρ hf hb hn hc hr;induction t using List.casesOn with
  | nil=>exact⟨.next,ρ,-4,c9i (c0a h hn),.inr ⟨rfl,hr,rfl,rfl⟩⟩
  | cons c t=>
   have hcc:=hc c List.mem_cons_self;have hr1:=hr.put17 (.str [c]);have hd:=a5v h hn hcc (Nat.le_of_lt hb);induction hw:a9x c using Bool.casesOn with
   | true=>
    rw [a8g hw];refine .to (d8p hd rfl (c5b ((a0r (hW (N:=N+3) h (a3k hn c) hr1 a5n hcc hw) rfl).trans rfl))) ?_;exact ih t (nl c n) _ (Nat.lt_of_succ_lt_succ hf) (Nat.lt_of_succ_lt hb) (a3k hn c) (fun d hd=>hc d (List.mem_cons_of_mem _ hd)) hr1
   | false=>
    obtain⟨f,ρ',e',h1,h2⟩:=e7o (th:=th) (N:=N) (t:=t) h hb hn hc hr1 a5n hw;rcases h2 with rfl | ⟨rfl,hr',rfl,hrest⟩
    ·exact⟨_,ρ',e',d5d hd rfl h1,.inl rfl⟩
    ·induction fuel using Nat.casesOn with
     | zero=>exact absurd (Nat.lt_of_succ_lt_succ hf) (Nat.not_lt_zero _)
     | succ f'=>exact⟨.next,ρ',-4,(b4m hd rfl h1).trans (c9i (by rw [hrest];exact d1j)),.inr ⟨rfl,hr',rfl,hrest⟩⟩
end
end
section
theorem a1d(l:List (List Nat)):a0v (l.map .str)=true:=by
 induction l with
 | nil=>rfl
 | cons a l ih=>exact ih
theorem a4g(t:List Nat):a0v (chars t)=true:=by
 have:chars t=(t.reverse.map fun c=>[c]).map .str:=(List.map_map ..).symm;rw [this];exact a1d _
theorem c1e{μ:Mu}(h:a2m μ=true){i:Nat}{m:M}(hi:μ[i]?=some m):okM μ.length m=true:=List.all_eq_true.mp h m (List.mem_of_getElem? hi)
theorem a9y{μ:Mu}(h:a2m μ=true){i:Nat}{m:M}(hm:okM μ.length m=true):a2m (μ.set i m)=true:=by
 unfold a2m at *;rw [List.length_set,List.all_eq_true];intro z hz;rcases List.mem_or_eq_of_mem_set hz with q | q
 ·exact List.all_eq_true.mp h z q
 ·rw [q];exact hm
section
variable{th:a3r}{x:LxIx}{μ:Mu}{t:List Nat}{n:Int}{N:Nat}
theorem e2p{k kp ks:Nat}(hk:μ[k]?=some (.obj [kp,ks] n))(hn:1<=n):(gL th).attr 24 (.mut k) μ=some (.mut kp):=by
 show(match (generalizing:=false) μ[k]? with | some (.obj [kp,_] n)=>if 1<=n then some (V.mut kp)else .none | _=>.none)=_
 rw [hk];exact if_pos hn
theorem e4h{k kp ks m:Nat}{ρ:Rho}(hk:μ[k]?=some (.obj [kp,ks] n))(hn:1<=n):ev (gL th) (m+2) (.attr 24 (.loc 16)) ((16,.mut k)::ρ) μ=some (.mut kp,μ):=c7c (evl rfl) (e2p hk hn)
theorem b1z{k:Nat}{l:List V}(hp:μ[k]?=some (.list l)):a1n μ (.mut k)=.lst l:=by rw [e2v,hp]
theorem a5c{k:Nat}{l:List V}(hp:μ[k]?=some (.list l)):a5z μ (.mut k)=true:=by
 show(match (generalizing:=false) μ[k]? with | some (.list _)=>true | _=>false)=true
 rw [hp]
theorem d3r(h:x.Ok μ)(ok:a2m μ=true):a2m (stT x μ t n)=true:=by
 unfold stT;refine a9y (a9y ok (show okM μ.length (.list (chars t))=true from a4g t)) ?_;have hks:=(List.getElem?_eq_some_iff.mp h.ks).1;have hkp:=h.lp;show(decide _&&(decide _&&true))=true;rw [List.length_set,decide_eq_true hks,decide_eq_true hkp];rfl
theorem b8v(h:x.Ok μ)(ok:a2m μ=true)(hp:μ[x.kp]?=some (.list []))(hb:t.length<big)(hn:1<=n)(hc:∀ c∈t,c<1114112) :
  mF (gL th) P_get_token a2b (N+30) (.mut x.k) [] (stT x μ t n)=some (.str (a0j t n).1,stT x μ (a0j t n).2.1 (a0j t n).2.2):=by
 have hok:∀ t' n',((stT x μ t' n').all (okM (stT x μ t n).length))=true:=fun t' n'=>by
  have:=d3r (t:=t') (n:=n') h ok;unfold a2m at this;rw [a3i]at this ⊢;exact this
 have hr:RT x μ.length [(16,.mut x.k),(78,.str []),(79,.mut μ.length)] []:=⟨rfl,rfl,rfl⟩;obtain⟨f,ρ',e,h1,h2⟩:=e5m (th:=th) (N:=N+3) h big t n _ hb hb hn hc hr;have ht:∀ {t' n' e'},(stX x μ t' n' e').take (stT x μ t n).length=stT x μ t' n':=fun {t' n' e'}=>by
  unfold stX;rw [List.take_append_of_le_length (by rw [a3i,a3i];exact Nat.le_refl _),a3i,← a3i (x:=x) (μ:=μ) (t:=t') (n:=n'),List.take_length]
 have run:∀ {z:Option (F×Rho×Mu)},a3q (a0d (gL th) (N+28)) [.chars (.one 17) 79 d2y,.ret (.loc 78)] [(16,.mut x.k),(78,.str []),(79,.mut μ.length)] (stX x μ t n (-2))=z->exec (gL th) (N+29) a2b (P_get_token.zip [.mut x.k]) (stT x μ t n)=z:=fun hz=>by
  refine(a0a ((a0r (e4h (c4f h) hn) (by rw [b1z ((e1s h).trans hp)];rfl)).trans rfl)).trans ((a0a rfl).trans ((a0a ?_).trans hz));rw [e5f];refine(if_pos rfl).trans ?_;show(match (generalizing:=false) (stT x μ t n)[x.k]? with | some (.obj [_,_] m)=>if 1<=m then some (F.next,put 79 (.mut (stT x μ t n).length) [(16,V.mut x.k),(78,V.str [])],stT x μ t n++[M.obj [x.k] (-2)])else .none | _=>.none)=_
  rw [c4f h];refine(if_pos hn).trans ?_;rw [a3i];rfl
 have e4:a0d (gL th) (N+28) (.chars (.one 17) 79 d2y) [(16,.mut x.k),(78,.str []),(79,.mut μ.length)] (stX x μ t n (-2))=some (f,ρ',stX x μ (a0j t n).2.1 (a0j t n).2.2 e):=(b2v (N:=N+7) hr).trans h1;rcases h2 with rfl | ⟨rfl,hr',rfl,hrest⟩
 ·exact a4k (by rfl) (run (a2u e4)) ht (hok _ _) rfl
 ·exact a4k (by rfl) (run ((a0a e4).trans (a7i (evl hr'.tok)))) ht (hok _ _) rfl
theorem c0c{k kp ks:Nat}{s:List Nat}{r:List V}(hk:μ[k]?=some (.obj [kp,ks] n))(hn:1<=n)(hp:μ[kp]?=some (.list (.str s::r)))(hz:(V.str s::r).length<=big)(ok:a2m μ=true) :
  mF (gL th) P_get_token a2b (N+30) (.mut k) [] μ=some (.str s,μ.set kp (.list r)):=by
 have el:=b1z hp;have e1:exec (gL th) (N+29) a2b (P_get_token.zip [.mut k]) μ=some (.ret (.str s),[(16,.mut k)],μ.set kp (.list r)):=by
  refine a2u ((a0r (bv:=true) (e4h hk hn) (by rw [el,e8t,if_pos hz];rfl)).trans (a2u (b5b ((a4p (e4h hk hn) (show(gL th).find 11 (.mut kp) μ=true from a5c hp) (a1q rfl)).trans ?_))));show(match (generalizing:=false) μ[kp]? with | some (.list (x::l))=>if(x::l).length<=big then some (x,μ.set kp (.list l))else .none | _=>.none)=_
  rw [hp];exact if_pos hz
 have hlen:(μ.set kp (.list r)).take μ.length=μ.set kp (.list r):=by
  have:μ.length=(μ.set kp (.list r)).length:=by simp
  rw [this,List.take_length]
 have hok:(μ.set kp (.list r)).all (okM μ.length)=true:=by
  have:=a9y (i:=kp) ok (m:=.list r) (a0n (show(plain (.str s)&&a0v r)=true from c1e ok hp));unfold a2m at this;rw [List.length_set]at this;exact this
 exact a4k rfl e1 hlen hok rfl
theorem c7l{k kp ks:Nat}{s:List Nat}{l:List V}(hk:μ[k]?=some (.obj [kp,ks] n))(hn:1<=n)(hp:μ[kp]?=some (.list l))(hz:l.length<=big)(ok:a2m μ=true) :
  mF (gL th) P_push_token a3y (N+10) (.mut k) [.str s] μ=some (.none,μ.set kp (.list (l++[.str s]))):=by
 have e1:exec (gL th) (N+9) a3y (P_push_token.zip [.mut k,.str s]) μ=some (.next,[(16,.mut k),(78,.str s)],μ.set kp (.list (l++[.str s]))):=by
  refine a0a (a3d (v:=.none) ((a4p (e4h hk hn) (show(gL th).find 10 (.mut kp) μ=true from a5c hp) (a1q rfl)).trans ?_));show(match (generalizing:=false) μ[kp]? with | some (.list l)=>if l.length<=big then some (V.none,μ.set kp (.list (l++[V.str s])))else .none | _=>.none)=_
  rw [hp];exact if_pos hz
 have hlen:(μ.set kp (.list (l++[.str s]))).take μ.length=μ.set kp (.list (l++[.str s])):=by
  have:μ.length=(μ.set kp (.list (l++[.str s]))).length:=by simp
  rw [this,List.take_length]
 have pa:∀ l:List V,a0v l=true->a0v (l++[.str s])=true:=fun l h=>by
  induction l with
  | nil=>rfl
  | cons a l ih=>
   show(plain a&&a0v (l++[V.str s]))=true;rw [a0e h,ih (a0n h)];rfl
 have hok:(μ.set kp (.list (l++[.str s]))).all (okM μ.length)=true:=by
  have h1:=c1e ok hp;have:=a9y (i:=kp) ok (m:=.list (l++[.str s])) (show okM μ.length (.list (l++[.str s]))=true from pa l h1);unfold a2m at this;rw [List.length_set]at this;exact this
 exact d1h rfl e1 hlen hok
end
end
section
open Float64 (add sub mul div divmod cmp isZero)
noncomputable abbrev f1:UInt64:=4607182418800017408
noncomputable abbrev f2:UInt64:=4611686018427387904
noncomputable abbrev f4:UInt64:=4616189618054758400
noncomputable abbrev f6:UInt64:=4618441417868443648
noncomputable abbrev fh:UInt64:=4602678819172646912
noncomputable def ltF(a b:UInt64):Bool:=cmp a b==some .lt
noncomputable def leF(a b:UInt64):Bool:=cmp a b==some .lt||cmp a b==some .eq
noncomputable def eqF(a b:UInt64):Bool:=cmp a b==some .eq
noncomputable def mod1(a:UInt64):UInt64:=(divmod a f1).snd
noncomputable def divO(a b:UInt64):Option UInt64:=if isZero b then .none else some (div a b)
noncomputable def pV(th:a3r)(m1 m2 hue:UInt64):UInt64:=
 if ltF (mod1 hue) th.b then add m1 (mul (mul (sub m2 m1) (mod1 hue)) f6)else if ltF (mod1 hue) fh then m2
 else if ltF (mod1 hue) th.c then add m1 (mul (mul (sub m2 m1) (sub th.c (mod1 hue))) f6)else m1
noncomputable abbrev C3:=UInt64×UInt64×UInt64
noncomputable def vC(c:C3):V:=.tup [.flt c.1,.flt c.2.1,.flt c.2.2]
noncomputable def d1q(th:a3r)(m1 m2 h:UInt64):C3:=(pV th m1 m2 (add h th.a),pV th m1 m2 h,pV th m1 m2 (sub h th.a))
noncomputable def a0s(th:a3r)(h l s:UInt64):C3:=
 if eqF s 0 then(l,l,l)else if leF l fh then d1q th (sub (mul f2 l) (mul l (add f1 s))) (mul l (add f1 s)) h
 else d1q th (sub (mul f2 l) (sub (add l s) (mul l s))) (sub (add l s) (mul l s)) h
section
variable{th:a3r}{μ:Mu}{N:Nat}
theorem c8z:μ.take μ.length=μ:=List.take_length
theorem z1:isZero f1=false:=by decide +kernel
theorem z2:isZero f2=false:=by decide +kernel
theorem z6:isZero f6=false:=by decide +kernel
theorem e3r(a b:UInt64):a0z .LtE (.flt a) (.flt b)=some (leF a b):=rfl
theorem e1b(a b:UInt64):a0z .Eq (.flt a) (.flt b)=some (eqF a b):=by
 rfl
theorem c7p(a b:UInt64):a0x .Add (.flt a) (.flt b)=some (.flt (add a b)):=rfl
theorem a4x(a b:UInt64):a0x .Sub (.flt a) (.flt b)=some (.flt (sub a b)):=rfl
theorem b2e(a b:UInt64):a0x .Mult (.flt a) (.flt b)=some (.flt (mul a b)):=rfl
theorem c5f(a:UInt64):a0x .Mod (.flt a) (.flt f1)=some (.flt (mod1 a)):=by
 rw [b0u,z1];rfl
theorem e7c(a b:UInt64):a0x .Div (.flt a) (.flt b)=(divO a b).map .flt:=by
 rw [b1l];unfold divO;cases isZero b<;>rfl
theorem a1j{Γ:G}{n:Nat}{is:List Nat}{ss:List Mine.S}{args:List V}{v v':V}{ρ':Rho}(hl:is.length=args.length)(ok:a2m μ=true)(h:exec Γ n ss (is.zip args) μ=some (.ret v,ρ',μ))(hf:a4v μ.length μ v=some v'):a2z Γ n is ss args μ=some (v',μ):=by
 exact a4k (beq_iff_eq.mpr hl) h c8z ok hf
theorem e1x(m1 m2 hue:UInt64)(ok:a2m μ=true):cF (gL th) e5x e5j (N+10) [.flt m1,.flt m2,.flt hue] μ=some (.flt (pV th m1 m2 hue),μ):=by
 refine a1j (v:=.flt (pV th m1 m2 hue)) (ρ':=[(63,.flt m1),(62,.flt m2),(65,.flt (mod1 hue))]) rfl ok ?_ rfl;refine a3u (evb (evl rfl) evc (c5f _)) ?_;induction h1:ltF (mod1 hue) th.b using Bool.casesOn with
 | true=>
  rw [show pV th m1 m2 hue=_ from if_pos h1];exact a8c (a0i (evl rfl) (v:=.flt th.b) rfl (congrArg some h1)) (a7i (evb (evl rfl) (evb (evb (evb (evl rfl) (evl rfl) rfl) (evl rfl) rfl) evc rfl) rfl))
 | false=>
  rw [show pV th m1 m2 hue=_ from if_neg (nf h1)];refine a8m (a0i (evl rfl) (v:=.flt th.b) rfl (congrArg some h1)) rfl ?_;induction h2:ltF (mod1 hue) fh using Bool.casesOn with
  | true=>
   rw [if_pos rfl];exact a8c (a0i (evl rfl) evc (congrArg some h2)) (a7i (evl rfl))
  | false=>
   rw [if_neg Bool.false_ne_true];refine a8m (a0i (evl rfl) evc (congrArg some h2)) rfl ?_;induction h3:ltF (mod1 hue) th.c using Bool.casesOn with
   | true=>
    rw [if_pos rfl];exact a8c (a0i (evl rfl) (v:=.flt th.c) rfl (congrArg some h3)) (a7i (evb (evl rfl) (evb (evb (evb (evl rfl) (evl rfl) rfl) (evb (u:=.flt th.c) rfl (evl rfl) rfl) rfl) evc rfl) rfl))
   | false=>
    rw [if_neg Bool.false_ne_true];exact a8m (a0i (evl rfl) (v:=.flt th.c) rfl (congrArg some h3)) rfl (a7i (evl rfl))
end
end
section
noncomputable def a2j:List Nat:=[82,83]
noncomputable def a2k:List S:=[.assign 84 (.sub (.lst [(.cst (.str [10])),(.cst (.str [32])),(.cst (.str [9])),(.cst (.str [13,10,32]))]) (.bin .Mod (.bin .FloorDiv (.loc 83) (.cst (.int 2))) (.cst (.int 4)))),
  .assign 85 (.meth 8 (.cst (.str [])) [(.comp (.bin .Add (.bin .Mult (.cst (.str [92])) (.bin .Mod (.bin .FloorDiv (.loc 83) (.cst (.int 8))) (.cst (.int 2)))) (.loc 86)) (.one 86) (.loc 82) [] [42,86])]),
  .ite (.cmp .Eq (.bin .Mod (.loc 83) (.cst (.int 2))) (.cst (.int 0))) [.ret (.bin .Add (.bin .Add (.bin .Add (.cst (.str [34])) (.loc 85)) (.cst (.str [34]))) (.bin .Mult (.loc 84) (.bin .Mod (.bin .FloorDiv (.loc 83) (.cst (.int 16))) (.cst (.int 2)))))] [],
  .ret (.bin .Add (.loc 85) (.loc 84))]
noncomputable def a5g:List Nat:=[82]
noncomputable def a5i:List S:=[.assign 92 (.ite (.inG false 27 (.loc 82)) (.bin .Sub (.bin .Mult (.cst (.int 5)) (.subG 27 (.loc 82))) (.cst (.int 15))) (.ite (.loc 82) (.bin .Sub (.bin .Add (.glb 28) (.call 0 [(.loc 82)])) (.cst (.int 1))) (.cst (.int 0)))),
  .ret (.comp (.cmp .Is (.loc 94) (.cst (.bool true))) (.one 94) (.tup [(.call 46 [(.loc 92)]),(.call 43 [(.loc 92)]),(.call 45 [(.loc 92)])]) [] [42,94])]
noncomputable def P4__law_pack:List Nat:=[88,133]
noncomputable def P4__law_riffled:List Nat:=[134,136,137]
noncomputable def a5k:List Nat:=[82,141,96,91]
noncomputable def P4__law_answers:List Nat:=[134,96]
noncomputable def P4__law_plain:List Nat:=[124,136,137]
noncomputable def P4__law_drawn:List Nat:=[124,83]
noncomputable def e3c:List Nat:=[119]
noncomputable def c9s:List S:=[.assign 82 (.meth 22 (.loc 88) []),
  .ite (.cmp .NotEq (.call 131 [(.loc 82)]) (.lst [(.cst (.bool false)),(.cst (.bool true)),(.cst (.bool false))])) [.ret (.ite (.cmp .Eq (.call 131 [(.loc 82)]) (.loc 133)) (.loc 134) (.lst []))] [],
  .expr (.meth 10 (.loc 134) [(.loc 82)])]
noncomputable def e9d:S:=.ite (.or [(.not (.call 36 [(.loc 100),(.glb 35)])),(.not (.cmp2 .LtE .LtE (.cst (.int 0)) (.sub (.loc 100) (.cst (.int 0))) (.cst (.int 1)))),(.cmp .NotEq (.comp (.bin .FloorDiv (.call 5 [(.bin .Add (.bin .Mult (.cst (.int 2048)) (.loc 103)) (.cst (.int 1)))]) (.cst (.int 2))) (.one 103) (.slc (.loc 100) (some (.cst (.int 1))) .none .none) [] [42,103]) (.loc 101))]) [.ret (.neg (.cst (.int 1)))] []
noncomputable def d8c:List S:=[.expr (.meth 10 (.loc 149) [(.sub (.loc 148) (.bin .Mod (.loc 83) (.loc 9)))]),
  .unpack [148,83] (.tup [(.comp (.loc 150) (.one 150) (.loc 148) [(.cmp .NotIn (.loc 150) (.loc 149))] [42,150]),(.bin .FloorDiv (.loc 83) (.loc 9))])]
noncomputable def c6f:X:=.or [(.sub (.loc 146) (.loc 140)),(.sub (.loc 146) (.bin .Sub (.cst (.int 1)) (.loc 140)))]
noncomputable def c1g:List S:=[.assign 140 (.bin .Mod (.bin .FloorDiv (.loc 137) (.bin .Pow (.cst (.int 2)) (.loc 111))) (.cst (.int 2))),.expr (.meth 10 (.loc 90) [(.meth 11 c6f [])])]
noncomputable def a9n(s:Int):List S:=[.expr (.meth 23 (.sub (.loc 138) (.cst (.int s))) [(.loc 82)])]
noncomputable def orX:X:=.ite (.cmp .Eq (.call 131 [(.loc 82)]) (.lst [(.cst (.bool true)),(.cst (.bool true)),(.cst (.bool false))])) (.meth 22 (.sub (.loc 138) (.bin .Sub (.cst (.int 1)) (.loc 140))) []) (.loc 82)
noncomputable def c0r:List S:=[.assign 140 (.bin .Mod (.bin .FloorDiv (.loc 137) (.bin .Pow (.cst (.int 2)) (.loc 111))) (.cst (.int 2))),
  .assign 82 (.meth 22 (.sub (.loc 138) (.loc 140)) []),
  .expr (.meth 10 (.loc 139) [orX])]
noncomputable def c7y:X:=.cmp .Eq (.call 2 [(.slc (.loc 110) (some (.loc 111)) (some (.bin .Add (.loc 111) (.loc 141))) .none)]) (.lrange [(.loc 141)])
noncomputable def e1o(w t:X):X:=.comp (.call 95 [(.loc 82),w,(.loc 96),t]) (.many [111,82]) (.enum (.loc 134)) [] [42,111,82]
noncomputable def c9h:List S:=[.assign 110 (e1o (.loc 141) (.bin .Add (.loc 141) (.loc 111))),
  .expr (.meth 10 (.loc 143) [(.comp c7y (.one 111) (.range [(.cst (.int 0)),(.bin .Add (.bin .Sub (.call 0 [(.loc 134)]) (.loc 141)) (.cst (.int 1))),(.loc 141)]) [] [42,111])])]
noncomputable def d4x:X:=.cmp .Eq (.comp (.loc 144) (.one 144) (.loc 143) [(.not (.sub (.loc 144) (.cst (.int 0))))] [42,144]) (.lst [])
noncomputable def e8z:X:=.cmp .Eq (.comp (.loc 144) (.one 144) (.loc 143) [(.cmp .In (.cst (.bool false)) (.loc 144))] [42,144]) (.lst [])
noncomputable def c8a:X:=.slc (.loc 100) .none (some (.bin .Add (.loc 111) (.cst (.int 1)))) .none
noncomputable def e3v:X:=.cmp .Eq (.comp (.loc 111) (.one 111) (.range [(.call 0 [(.loc 134)])]) [(.cmp .NotEq (.bin .Sub (.call 3 [c8a]) (.call 4 [c8a])) (.loc 111))] [42,111]) (.lst [])
noncomputable def d7o:X:=.comp (.bin .Mod (.loc 44) (.bin .Pow (.cst (.int 10)) (.cst (.int 6)))) (.one 44) (.slc (.loc 119) .none (some (.cst (.int 60))) .none) [] [42,44]
noncomputable def d3z:X:=.comp (.bin .Add (.loc 123) (.call 1 [(.slc (.loc 120) (some (.loc 111)) .none (some (.cst (.int 4))))])) (.many [111,123]) (.enum (.lst [(.cst (.int 303)),(.cst (.int 1174)),(.cst (.int 1234)),(.cst (.int 6))])) [] [42,111,123]
noncomputable def e3f:X:=.comp (.call 81 [(.loc 82),(.bin .FloorDiv (.loc 122) (.bin .Add (.loc 111) (.cst (.int 1))))]) (.many [111,82]) (.enum (.loc 125)) [] [42,111,82]
noncomputable def d1s:X:=.slc (.meth 8 (.cst (.str [])) [e3f]) .none (some (.neg (.cst (.int 1)))) .none
noncomputable def sgT:List Nat:=(Str.ofString "( ) [ ] : , ; + - * / | & < > = . % { } == != <= >= ~ ^ << >> ** += -= *= /= %= &= |= ^= <<= >>= **= // //= @ @= -> ... := !").cps.toList
noncomputable def c0w:X:=.meth 7 (.cst (.str sgT)) [(.cst (.str [32]))]
noncomputable def d2k:X:=.bin .Add (.cst (.int 5)) (.bin .Mod (.loc 129) (.cst (.int 3)))
noncomputable def d3l:X:=.tup [(.bin .Mod (.bin .FloorDiv (.loc 129) (.cst (.int 3))) (.bin .Sub (.cst (.int 49)) (.loc 124))),(.bin .Mod (.bin .FloorDiv (.bin .FloorDiv (.loc 129) (.cst (.int 3))) (.bin .Sub (.cst (.int 49)) (.loc 124))) (.bin .Add (.loc 124) (.cst (.int 1))))]
noncomputable def d9l:X:=.sub (.loc 107) (.bin .Add (.loc 151) (.loc 150))
noncomputable def c0m:X:=.bin .Add (.bin .Add (.slc (.loc 107) (some (.loc 151)) (some (.bin .Add (.loc 151) (.loc 124))) .none) (.lst [(.bin .Mult (.cst (.str [63])) (.bin .Add (.cst (.int 1)) (.bin .Mod (.loc 96) (.cst (.int 3)))))])) (.comp d9l (.one 150) (.loc 149) [] [42,150])
noncomputable def d4i:X:=.lst [(.call 132 [(.loc 88),(.lst [(.cst (.bool false)),(.cst (.bool false)),(.cst (.bool true))])]),(.call 132 [(.loc 88),(.lst [(.cst (.bool true)),(.cst (.bool true)),(.cst (.bool false))])])]
noncomputable def d5i:X:=.or [(.cmp .NotEq (.loc 152) (.lst [(.slc (.loc 125) .none (some (.loc 124)) .none),(.slc (.loc 125) (some (.bin .Add (.loc 124) (.cst (.int 1)))) .none .none)])),(.cmp .NotEq (.attr 26 (.loc 88)) (.bin .Add (.cst (.int 1)) (.meth 9 (.loc 18) [(.cst (.str [10]))])))]
noncomputable def e3o:X:=.call 135 [(.sub (.loc 152) (.cst (.int 0))),(.loc 136),(.loc 105)]
noncomputable def d4j:X:=.cmp .NotEq (.loc 139) (.comp d9l (.one 150) (.call 145 [(.loc 124),(.loc 136),(.loc 105)]) [] [42,150])
noncomputable def d8i(op:CmpOp):X:=.comp (.loc 150) (.one 150) (.loc 149) [(.cmp op (.loc 150) (.loc 153))] [42,150]
noncomputable def e8q:X:=.and [(.cmp .Eq (d8i .Lt) (.slc (.lrange [(.loc 153)]) .none .none (some (.neg (.cst (.int 1)))))),(.cmp .Eq (d8i .GtE) (.lrange [(.loc 153),(.loc 124)]))]
noncomputable def e7r:X:=.cmp .In (.cst (.bool true)) (.comp e8q (.one 153) (.range [(.bin .Add (.loc 124) (.cst (.int 1)))]) [] [42,153])
noncomputable def e6e(a b:X):X:=.cmp .Eq (.call 142 [a,(.loc 96)]) (.bin .Mult (.lst [b]) (.cst (.int 3)))
noncomputable def e6q:X:=.and [e6e (.loc 139) (.cst (.bool true)),e6e (.sub (.loc 152) (.cst (.int 1))) (.loc 101)]
noncomputable def noS:List S:=[.ret (.cst (.bool false))]
noncomputable def b4j:List S:=[.assign 88 (.call 41 [.loc 18]),.assign 152 d4i,.ite d5i noS [],.assign 139 e3o,.ite d4j noS [],.assign 101 e7r,.ret e6q]
noncomputable def c0s:List S:=[.assign 102 (.bin .FloorDiv (.call 5 [(.bin .Add (.bin .Mult (.bin .Mult (.cst (.int 32)) (.loc 141)) (.sub (.loc 100) (.cst (.int 0)))) (.cst (.int 1)))]) (.cst (.int 2))),.ret (.ite (.cmp .Eq (.bin .Mod (.loc 102) (.cst (.int 16))) (.cst (.int 0))) (.bin .Mod (.bin .FloorDiv (.loc 102) (.cst (.int 16))) (.loc 141)) (.neg (.cst (.int 1))))]
noncomputable def a3o:List S:=.unpack [65,97,98] (.tup [(.bin .Div (.subG 27 (.loc 82)) (.loc 141)),(.bin .Add (.cst (.int 1)) (.bin .Mod (.loc 96) (.cst (.int 4)))),(.bin .Add (.cst (.int 1)) (.bin .Mod (.bin .FloorDiv (.loc 96) (.cst (.int 4))) (.cst (.int 3))))])::.ite (.cmp .Eq (.bin .Mod (.loc 91) (.cst (.int 2))) (.cst (.int 0))) [.assign 99 (.call 68 [(.loc 65),(.bin .Div (.loc 97) (.cst (.int 4))),(.bin .Div (.loc 98) (.cst (.int 4)))]),.unpack [100,101] (.tup [(.call 66 [(.sub (.loc 99) (.cst (.int 0))),(.sub (.loc 99) (.cst (.int 1))),(.sub (.loc 99) (.cst (.int 2)))]),(.lst [(.bin .Mult (.cst (.int 256)) (.loc 97)),(.bin .Mult (.cst (.int 256)) (.loc 98))])])] [.assign 99 (.call 61 [(.loc 65),(.bin .Div (.loc 98) (.cst (.int 4))),(.bin .Div (.loc 97) (.cst (.int 4)))]),.unpack [100,101] (.tup [(.call 47 [(.sub (.loc 99) (.cst (.int 0))),(.sub (.loc 99) (.cst (.int 1))),(.sub (.loc 99) (.cst (.int 2)))]),(.lst [(.bin .Mult (.cst (.int 256)) (.loc 98)),(.bin .Mult (.cst (.int 256)) (.loc 97))])])]::e9d::c0s
noncomputable def a2d:List S:=[.assign 134 (.mlst []),.for (.one 91) (.range [(.cst (.int 8))]) c9s,.ret (.lst [])]
noncomputable def a1t:List S:=[.unpack [148,149] (.tup [(.lrange [(.loc 124)]),(.mlst [])]),.for (.one 9) (.range [(.loc 124),(.cst (.int 0)),(.neg (.cst (.int 1)))]) d8c,.ret (.loc 149)]
noncomputable def a1r:List S:=[.unpack [146,90] (.tup [(.lst [(.lrange [(.loc 136)]),(.lrange [(.bin .Sub (.loc 124) (.cst (.int 1))),(.bin .Sub (.loc 136) (.cst (.int 1))),(.neg (.cst (.int 1)))])]),(.mlst [])]),.for (.one 111) (.range [(.loc 124)]) c1g,.ret (.loc 90)]
noncomputable def a1o:List S:=[.assign 138 (.lst [(.call 41 [(.cst (.str []))]),(.call 41 [(.cst (.str []))])]),
  .for (.one 82) (.slc (.slc (.loc 134) .none (some (.loc 136)) .none) .none .none (some (.neg (.cst (.int 1))))) (a9n 0),
  .for (.one 82) (.slc (.loc 134) (some (.loc 136)) .none .none) (a9n 1),
  .assign 139 (.mlst []),.for (.one 111) (.range [(.call 0 [(.loc 134)])]) c0r,.ret (.loc 139)]
noncomputable def a1l:List S:=[.assign 143 (.mlst []),.for (.one 141) (.range [(.cst (.int 1)),(.bin .Add (.call 0 [(.loc 134)]) (.cst (.int 1)))]) c9h,.assign 100 (e1o (.cst (.int 64)) (.loc 111)),.ret (.lst [d4x,e8z,e3v])]
noncomputable def c9v:List S:=.assign 120 d7o::.unpack [129,105,122,96] d3z::.assign 124 d2k::.unpack [151,136] d3l::.assign 107 c0w::.assign 149 (.call 147 [.loc 124,.loc 105])::.assign 125 c0m::.assign 18 d1s::b4j
end
section
noncomputable def th3:a3r:=⟨4599676419421066581,4595172819793696085,4604180019048437077⟩
noncomputable def d6u(n:Nat)(args:List V)(μ:Mu):Option (V×Mu):=match args with
 | [.str t]=>if 11<=n then(a6p μ t).map fun p=>(.mut (p.2.length+1),p.2++a9e p.2.length p.1)else .none
 | _=>.none
noncomputable def g0:G:=gL th3
noncomputable def gV:G:=b2d g0 64 (cF g0 e5x e5j)
noncomputable def gC:G:=b2d (b2d (b2d (b2d g0 61 (cF gV a4d a2y)) 47 (cF g0 a4c a3c)) 66 (cF g0 a4b a3e)) 68 (cF g0 a4j F_hsv_to_rgb)
noncomputable def gK:G:=e3m (b2d (b2d (b2d g0 43 (cF g0 P_ISTERMINAL a2x)) 45 (cF g0 a2h a2i)) 46 (cF g0 b4n b4p)) 22 (mF g0 P_get_token a2b)
noncomputable def gP:G:=b2d gK 131 (cF gK a5g a5i)
noncomputable def gQ:G:=e3m (b2d gP 41 d6u) 23 (mF g0 P_push_token a3y)
noncomputable def gA:G:=b2d g0 95 (cF gC a5k a3o)
noncomputable def gO:G:={ g0 with ownR:=true}
noncomputable def gF:G:=b2d (b2d (b2d (b2d (b2d (b2d (b2d g0 41 d6u) 81 (cF g0 a2j a2k)) 132 (cF gP P4__law_pack a2d)) 135 (cF gQ P4__law_riffled a1o)) 142 (cF gA P4__law_answers a1l)) 145 (cF gO P4__law_plain a1r)) 147 (cF g0 P4__law_drawn a1t)
end
section
theorem d3s(d k:Nat):Int.fdiv (d:Int) (k:Int)=((d / k:Nat):Int):=by
 rw [Int.fdiv_eq_ediv_of_nonneg _ (Int.natCast_nonneg k)];rfl
theorem c4x(d k:Nat):Int.fmod (d:Int) (k:Int)=((d%k:Nat):Int):=by
 rw [Int.fmod_eq_emod_of_nonneg _ (Int.natCast_nonneg k)];rfl
theorem d7z{k n:Nat}(h:k<n):seqIndex? (k:Int) n=some k:=by
 unfold seqIndex?;have h1:¬ ((k:Int)<0):=by omega
 simp only [h1,if_false];have:(decide (0<=(k:Int))&&decide ((k:Int)<n))=true:=by simp;omega
 rw [if_pos this];rfl
theorem b0b{l:List V}{k:Nat}{v:V}(h:l[k]?=some v)(hz:l.length<=big):item (.lst l) (.int (k:Int))=some v:=by
 unfold item;simp only;rw [if_pos hz,d7z (List.getElem?_eq_some_iff.mp h).1];exact h
theorem b3c(l:List (List Nat)):a9m (l.map .str)=some l:=by
 induction l with
 | nil=>rfl
 | cons a l ih=>exact congrArg (Option.map (a::·)) ih
theorem c2i(l:List Int):a3m (l.map .int)=some l:=by
 induction l with
 | nil=>rfl
 | cons a l ih=>exact congrArg (Option.map (a::·)) ih
theorem b7c:∀ l:List (List Nat),b5g [] l=l.flatten:=by
 intro z_;induction z_ with
 | nil=>
  exact rfl
 | cons x z_ ih=>induction z_ using List.casesOn with
  | nil=>
   exact(List.append_nil x).symm
  | cons y r=>
   show x++[]++b5g [] (y::r)=_;rw [List.append_nil,ih];rfl
theorem a8w(i:Nat)(u v:V):∀ ρ:Rho,put i v (put i u ρ)=put i v ρ:=by
 intro z_;induction z_ with
 | nil=>
  exact if_pos (beq_self_eq_true i)
 | cons p r ih=>
  induction h:p.1==i using Bool.casesOn with
  | true=>
   rw [show put i u (p::r)=(i,u)::r from if_pos h,show put i v (p::r)=(i,v)::r from if_pos h];exact if_pos (beq_self_eq_true i)
  | false=>
   rw [show put i u (p::r)=p::put i u r from if_neg (nf h),show put i v (p::r)=p::put i v r from if_neg (nf h)];exact(if_neg (nf h)).trans (congrArg (p::·) (ih))
theorem d0q{i j:Nat}(h:i≠j)(u v w:V):∀ ρ:Rho,put i w (put j v (put i u ρ))=put j v (put i w ρ):=fun ρ=>by
 have hij:¬(i==j)=true:=fun q=>h (eq_of_beq q);have hji:¬(j==i)=true:=fun q=>h (eq_of_beq q).symm;induction ρ with
 | nil=>
  rw [show put j v (put i u [])=[(i,u),(j,v)]from if_neg hij,show put j v (put i w [])=[(i,w),(j,v)]from if_neg hij];exact if_pos (beq_self_eq_true i)
 | cons p r ih=>
  induction h1:p.1==i using Bool.casesOn with
  | true=>
   rw [show put i u (p::r)=(i,u)::r from if_pos h1,show put i w (p::r)=(i,w)::r from if_pos h1,show put j v ((i,u)::r)=(i,u)::put j v r from if_neg hij,show put j v ((i,w)::r)=(i,w)::put j v r from if_neg hij];exact if_pos (beq_self_eq_true i)
  | false=>
   rw [show put i u (p::r)=p::put i u r from if_neg (nf h1),show put i w (p::r)=p::put i w r from if_neg (nf h1)];induction h2:p.1==j using Bool.casesOn with
   | true=>
    rw [show put j v (p::put i u r)=(j,v)::put i u r from if_pos h2,show put j v (p::put i w r)=(j,v)::put i w r from if_pos h2];exact(if_neg hji).trans (congrArg (List.cons (j,v)) (a8w i u w r))
   | false=>
    rw [show put j v (p::put i u r)=p::put j v (put i u r)from if_neg (nf h2),show put j v (p::put i w r)=p::put j v (put i w r)from if_neg (nf h2)];exact(if_neg (nf h1)).trans (congrArg (List.cons p) ih)
theorem c6p{i j:Nat}(h:i≠j)(u v u' v':V)(ρ:Rho):put j v' (put i u' (put j v (put i u ρ)))=put j v' (put i u' ρ):=by
 rw [d0q h,a8w]
section
variable{α:Type}{f:X->Rho->Mu->Option (V×Mu)}{elt x:X}{i j:Nat}{μ:Mu}{h:α->V}{g:α->V}{p:α->Bool}
theorem b0q{t:T}{ifs:List X}{hv:α->V}{B:α->Rho->Rho}(hb:∀ a ρ,a3f t (hv a) ρ=some (B a ρ))(hB:∀ a b ρ,B b (B a ρ)=B b ρ)(l:List α):∀ ρ:Rho,(∀ a∈l,b2l (fun x μ=>f x (B a ρ) μ) ifs μ=some (p a,μ))->(∀ a∈l,p a=true->f elt (B a ρ) μ=some (g a,μ))->a8z f elt t ifs (l.map hv) ρ μ=some ((l.filter p).map g,μ):=by
 induction l with
 | nil=>intro ρ _ _;rfl
 | cons a l ih=>
  intro ρ H1 H2;have e:=ih (B a ρ) (fun b h=>by rw [hB];exact H1 b (List.mem_cons_of_mem _ h)) fun b h q=>by rw [hB];exact H2 b (List.mem_cons_of_mem _ h) q
  show(match (generalizing:=false) a3f t (hv a) ρ with
  | .none=>Option.none
  | some ρ=>match b2l (fun x μ=>f x ρ μ) ifs μ with
   | .none=>.none
   | some (false,μ)=>a8z f elt t ifs (l.map hv) ρ μ
   | some (true,μ)=>match f elt ρ μ with
    | .none=>.none
    | some (y,μ)=>match a8z f elt t ifs (l.map hv) ρ μ with
     | .none=>.none
     | some (ys,μ)=>some (y::ys,μ))=_
  rw [hb];dsimp only;rw [H1 a List.mem_cons_self];induction hp:p a using Bool.casesOn with
  | true=>
   dsimp only;rw [H2 a List.mem_cons_self hp];dsimp only;rw [e,List.filter_cons_of_pos hp];rfl
  | false=>rw [List.filter_cons_of_neg (nf hp)];exact e
theorem c9z{f:X->Mu->Option (V×Mu)}{b:Bool}(h:f x μ=some (.bool b,μ)):b2l f [x] μ=some (b,μ):=by
 show(match (generalizing:=false) f x μ with | some (v,μ)=>(match a3a (a1n μ v)with | some true=>some (true,μ) | some false=>some (false,μ) | .none=>Option.none) | .none=>Option.none)=_
 rw [h];cases b<;>rfl
theorem c1o(l:List α):l.filter (fun zz=>true)=l:=List.filter_eq_self.mpr fun zz zz=>rfl
theorem a4r(l:List α)(ρ:Rho)(H:∀ a∈l,f elt (put i (h a) ρ) μ=some (g a,μ)):a8z f elt (.one i) [] (l.map h) ρ μ=some (l.map g,μ):=
 (b0q (p:=fun zz=>true) (B:=fun a ρ=>put i (h a) ρ) (fun zz zz=>rfl) (fun zz zz ρ=>a8w i _ _ ρ) l ρ (fun zz zz=>rfl) fun a ha zz=>H a ha).trans (by rw [c1o])
theorem a6i(l:List α)(ρ:Rho)(H1:∀ a∈l,f x (put i (h a) ρ) μ=some (.bool (p a),μ))(H2:∀ a∈l,p a=true->f elt (put i (h a) ρ) μ=some (g a,μ)):a8z f elt (.one i) [x] (l.map h) ρ μ=some ((l.filter p).map g,μ):=
 b0q (B:=fun a ρ=>put i (h a) ρ) (fun zz zz=>rfl) (fun zz zz ρ=>a8w i _ _ ρ) l ρ (fun a ha=>c9z (H1 a ha)) H2
theorem b1j{h1 h2:α->V}(hij:i≠j)(l:List α)(ρ:Rho)(H:∀ a∈l,f elt (put j (h2 a) (put i (h1 a) ρ)) μ=some (g a,μ)):a8z f elt (.many [i,j]) [] (l.map fun a=>.tup [h1 a,h2 a]) ρ μ=some (l.map g,μ):=
 (b0q (p:=fun zz=>true) (B:=fun a ρ=>put j (h2 a) (put i (h1 a) ρ)) (fun zz zz=>rfl) (fun zz zz ρ=>c6p hij _ _ _ _ ρ) l ρ (fun zz zz=>rfl) fun a ha zz=>H a ha).trans (by rw [c1o])
end
end
section
noncomputable def gaps:List (List Nat):=[[10],[32],[9],[13,10,32]]
noncomputable def a3g(w:List Nat)(d:Nat):List Nat:=(w.map fun c=>(List.replicate (d / 8%2) [92]).flatten++[c]).flatten
noncomputable def a3v(d:Nat):List Nat:=gaps.getD (d / 2%4) []
noncomputable def a0t(w:List Nat)(d:Nat):List Nat:=
 if d%2=0 then [34]++a3g w d++[34]++(List.replicate (d / 16%2) (a3v d)).flatten else a3g w d++a3v d
theorem e2w(a b:Int):a0z .Eq (.int a) (.int b)=some (decide (a=b)):=rfl
section
variable{μ:Mu}{N:Nat}
theorem a6d{d:Nat}(h:d<2^60):small (d:Int)=true:=decide_eq_true h
theorem b9v{k:Nat}(h:k≠0):((k:Int) != 0)=true:=bne_iff_ne.mpr fun q=>h (Int.ofNat.inj q)
theorem e1u(d k:Nat)(hk:k≠0)(hs:k<2^60):a0x .FloorDiv (.int (d:Int)) (.int (k:Int))=some (.int ((d / k:Nat):Int)):=by
 rw [a7q,b9v hk,a6d hs,d3s];rfl
theorem d4w(d k:Nat)(hk:k≠0):a0x .Mod (.int (d:Int)) (.int (k:Int))=some (.int ((d%k:Nat):Int)):=by
 rw [a8l,b9v hk,c4x];rfl
theorem e3j{x y:List Nat}(h:x.length+y.length<=big):a0x .Add (.str x) (.str y)=some (.str (x++y)):=by
 rw [b1e];exact if_pos (decide_eq_true h)
theorem b4l{b:Nat}(h:b<2):b=0∨b=1:=(by decide:∀ b<2,b=0∨b=1) b h
theorem e8s{x:List Nat}{k:Nat}(hk:k<2)(hx:x.length<=1000):a0x .Mult (.str x) (.int (k:Int))=some (.str (List.replicate k x).flatten):=by
 rw [a9h,a6d (Nat.lt_trans hk (by decide)),Int.toNat_natCast,Bool.and_true];exact if_pos (decide_eq_true (Nat.le_trans (Nat.mul_le_mul hx (Nat.le_of_lt_succ hk)) (by decide)))
theorem b5c{x:List Nat}{k:Nat}(hk:k<2):(List.replicate k x).flatten.length<=x.length:=by
 rcases b4l hk with rfl | rfl
 ·exact Nat.zero_le _
 ·rw [show(List.replicate 1 x).flatten=x from List.append_nil x];exact Nat.le_refl _
theorem lt2(d:Nat):d%2<2:=Nat.mod_lt _ (by decide)
theorem b5y(w:List Nat)(d:Nat):(a3g w d).length<=2 * w.length:=by
 unfold a3g;induction w with
 | nil=>exact Nat.le_refl _
 | cons c w ih=>
  rw [List.map_cons,List.flatten_cons,List.length_append,List.length_cons,Nat.mul_succ,Nat.add_comm];refine Nat.add_le_add ih ?_;rw [List.length_append];exact Nat.add_le_add_right (b5c (x:=[92]) (lt2 _)) 1
theorem b5a(d:Nat):(a3v d).length<=3:=(by decide:∀ i<4,(gaps.getD i []).length<=3) _ (Nat.mod_lt _ (by decide))
theorem b6g{w:List Nat}{d:Nat}(hw:w.length<=100)(ok:a2m μ=true):cF g0 a2j a2k (N+20) [.str w,.int (d:Int)] μ=some (.str (a0t w d),μ):=by
 show a2z g0 (N+19) a2j a2k [.str w,.int (d:Int)] μ=_;have hg:(gaps.map V.str)[d / 2%4]?=some (.str (a3v d)):=by
  have h:d / 2%4<4:=Nat.mod_lt _ (by decide);unfold a3v;rw [List.getElem?_map,List.getD_eq_getElem?_getD,List.getElem?_eq_getElem (by exact h)];rfl
 have dl:(a3g w d).length<=200:=Nat.le_trans (b5y w d) (Nat.mul_le_mul_left 2 hw);have hmod:∀(n j k:Nat) {ρ:Rho},j≠0->j<2^60->k≠0->ρ.lookup 83=some (.int (d:Int))->ev g0 (n+3) (.bin .Mod (.bin .FloorDiv (.loc 83) (.cst (.int (j:Int)))) (.cst (.int (k:Int)))) ρ μ=some (.int ((d / j%k:Nat):Int),μ):=
  fun n j k ρ h1 h2 h3 hl=>evb (evb (evl hl) evc (e1u d j h1 h2)) evc (d4w (d / j) k h3)
 refine a1j (v:=.str (a0t w d)) (ρ':=[(82,.str w),(83,.int (d:Int)),(84,.str (a3v d)),(85,.str (a3g w d))]) (by rfl) ok ?_ rfl;refine a3u (a4o (u:=.lst (gaps.map .str)) rfl (hmod _ 2 4 (by decide) (by decide) (by decide) rfl) (b0b hg (by decide))) ?_;have c1:ev g0 (N+17) (.comp (.bin .Add (.bin .Mult (.cst (.str [92])) (.bin .Mod (.bin .FloorDiv (.loc 83) (.cst (.int 8))) (.cst (.int 2)))) (.loc 86)) (.one 86) (.loc 82) [] [42,86]) [(82,.str w),(83,.int (d:Int)),(84,.str (a3v d))] μ
   = some (.lst ((w.map fun c=>(List.replicate (d / 8%2) [92]).flatten++[c]).map .str),μ):=by
  refine a2r (vs:=w.map fun c=>.str [c]) (ys:=(w.map fun c=>(List.replicate (d / 8%2) [92]).flatten++[c]).map .str) rfl (by rw [List.length_map];exact Nat.le_trans hw (by decide)) ?_;rw [List.map_map];exact a4r w _ fun c hc=>evb (evb evc (hmod _ 8 2 (by decide) (by decide) (by decide) rfl) (e8s (x:=[92]) (lt2 _) (by decide))) (evl rfl) (e3j (Nat.le_trans (Nat.add_le_add_right (b5c (x:=[92]) (lt2 _)) 1) (by decide)))
 refine a3u (v:=.str (a3g w d)) ((a4p evc rfl (a5j c1)).trans ?_) ?_
 ·show(match (generalizing:=false) a9m ((w.map fun c=>(List.replicate (d / 8%2) [92]).flatten++[c]).map .str)with | some ts=>if(ts.map List.length).sum+ts.length * 0<=big then some (V.str (b5g [] ts),μ)else .none | .none=>.none)=_
  rw [b3c];refine(if_pos ?_).trans ?_
  ·rw [← List.length_flatten];exact Nat.le_trans dl (by decide)
  ·rw [b7c];rfl
 have e3:∀ n,ev g0 (n+3) (.cmp .Eq (.bin .Mod (.loc 83) (.cst (.int 2))) (.cst (.int 0))) [(82,.str w),(83,.int (d:Int)),(84,.str (a3v d)),(85,.str (a3g w d))] μ=some (.bool (decide (d%2=0)),μ):=fun n=>
  a0i (evb (evl rfl) evc (d4w d 2 (by decide))) evc ((e2w _ _).trans (congrArg some (decide_eq_decide.mpr Int.ofNat_inj)))
 unfold a0t;by_cases h:d%2=0
 ·rw [if_pos h]
  refine a8c (bv:=true) ((e3 _).trans (by rw [decide_eq_true h])) (a7i (evb (evb (evb evc (evl rfl) (e3j ?_)) evc (e3j ?_)) (evb (evl rfl) (hmod _ 16 2 (by decide) (by decide) (by decide) rfl) (e8s (lt2 _) (Nat.le_trans (b5a d) (by decide)))) (e3j ?_)))
  ·exact Nat.le_trans (Nat.add_le_add_left dl 1) (by decide)
  ·rw [List.length_append];exact Nat.le_trans (Nat.add_le_add_right (Nat.add_le_add_left dl 1) 1) (by decide)
  ·rw [List.length_append,List.length_append];exact Nat.le_trans (Nat.add_le_add (Nat.add_le_add_right (Nat.add_le_add_left dl 1) 1) (Nat.le_trans (b5c (lt2 _)) (b5a d))) (by decide)
 ·rw [if_neg h]
  exact a8m (bv:=false) ((e3 _).trans (by rw [decide_eq_false h])) rfl (a7i (evb (evl rfl) (evl rfl) (e3j (Nat.le_trans (Nat.add_le_add dl (b5a d)) (by decide)))))
end
end
section
noncomputable def goodC(c:Nat):Prop:=a9x c=false/\c≠34/\c≠92/\c<1114112
noncomputable def b0s(w:List Nat):Prop:=w≠[]/\∀ c∈w,goodC c
theorem b3e(c:Nat)(w:List Nat)(d:Nat):a3g (c::w) d=(if d / 8%2=0 then [c]else [92,c])++a3g w d:=by
 unfold a3g;rw [List.map_cons,List.flatten_cons];congr 1;have:d / 8%2=0∨d / 8%2=1:=by omega
 rcases this with q | q<;>rw [q]<;>simp
theorem e2f{c:Nat}(h:c≠10)(n:Int):nl c n=n:=if_neg h
theorem b3m{p:Nat->Bool}(hp:p 92=false)(d:Nat):∀(w t tok:List Nat) (n:Int),(∀ c∈w,p c=false/\c≠92/\c≠10)->a5r p (a3g w d++t) tok n=a5r p t (tok++w) n:=by
 intro z_;induction z_ with
 | nil=>
  intro t tok n _;rw [List.append_nil];rfl
 | cons c w ih=>
  intro t tok n h;have hc:=h c List.mem_cons_self;have ih:=(ih t (tok++[c]) n fun e he=>h e (List.mem_cons_of_mem _ he)).trans (by rw [List.append_assoc];rfl:_=a5r p t (tok++c::w) n);rw [b3e];by_cases q:d / 8%2=0
  ·rw [if_pos q]
   refine(a6n hc.1 hc.2.1 _ _ _).trans ?_;rw [e2f hc.2.2];exact ih
  ·rw [if_neg q]
   refine(b1f hp _ _ _ _).trans ?_;rw [e2f hc.2.2];exact ih
theorem goodC.ten{c:Nat}(h:goodC c):c≠10:=fun q=>by subst q;exact nt h.1.symm
theorem a8n(d:Nat)(w t tok:List Nat)(n:Int)(h:∀ c∈w,goodC c):a5r e0a (a3g w d++t) tok n=a5r e0a t (tok++w) n:=
 b3m rfl d w t tok n fun c hc=>⟨beq_false_of_ne (h c hc).2.1,(h c hc).2.2.1,(h c hc).ten⟩
theorem a5y(d:Nat){w:List Nat}(h:b0s w)(t:List Nat)(n:Int):a0j (a3g w d++t) n=d0k (a5r a9x t w n):=by
 obtain⟨hne,hw⟩:=h;induction w using List.casesOn with
 | nil=>exact absurd rfl hne
 | cons c w=>
  have hc:=hw c List.mem_cons_self;have e:=b3m (p:=a9x) rfl d (c::w) t [] n fun c hc=>⟨(hw c hc).1,(hw c hc).2.2.1,(hw c hc).ten⟩;rw [b3e]at e ⊢;by_cases q:d / 8%2=0
  ·rw [if_pos q]at e ⊢
   exact(a8h hc.1 hc.2.1 _ _).trans (congrArg d0k e)
  ·rw [if_neg q]at e ⊢
   exact(a8h (c:=92) rfl (by decide) _ _).trans (congrArg d0k e)
noncomputable def a9p(p:List Nat):Prop:=∀ c∈p,a9x c=true
theorem a8f:a9p []:=fun c hc=>nomatch hc
theorem e9q:a9p [10]:=fun c hc=>by simp at hc;subst hc;rfl
theorem f0l:a9p [10,32]:=fun c hc=>by simp at hc;rcases hc with rfl | rfl<;>rfl
theorem f0n:a9p [13,10]:=fun c hc=>by simp at hc;rcases hc with rfl | rfl<;>rfl
theorem b1x:∀(p t:List Nat) (n:Int),a9p p->∃ n',a0j (p++t) n=a0j t n':=by
 intro z_;induction z_ with
 | nil=>
  intro t n _;exact⟨n,rfl⟩
 | cons c p ih=>
  intro t n h;obtain⟨n',e⟩:=ih t (nl c n) fun d hd=>h d (by simp [hd]);exact⟨n',by rw [List.cons_append,a8g (h c (by simp)),e]⟩
theorem a5t(d:Nat):a3v d=[10]∨a3v d=[32]∨a3v d=[9]∨a3v d=[13,10,32]:=by
 unfold a3v gaps;have h:d / 2%4<4:=Nat.mod_lt _ (by decide)
 match d / 2%4,h with
 | 0,_=>simp
 | 1,_=>simp
 | 2,_=>simp
 | 3,_=>simp
theorem b6y(d:Nat)(l:List Nat):(List.replicate (d / 16%2) l).flatten=[]∨(List.replicate (d / 16%2) l).flatten=l:=by
 have:d / 16%2=0∨d / 16%2=1:=by omega
 rcases this with q | q<;>rw [q]<;>simp
theorem b7b{w:List Nat}(h:b0s w)(d:Nat)(t:List Nat):∃ p,a9p p/\∀ n,∃ n',a0j (a0t w d++t) n=(w,p++t,n'):=by
 unfold a0t;split
 ·obtain⟨p,hp,e⟩:∃ p,a9p p/\(List.replicate (d / 16%2) (a3v d)).flatten=p:=by
   refine⟨_,?_,rfl⟩;rcases b6y d (a3v d)with q | q
   ·rw [q];intro c hc;cases hc
   ·rw [q]
    rcases a5t d with g | g | g | g<;>rw [g]<;>(intro c hc;simp at hc;rcases hc with rfl | rfl | rfl<;>rfl)
  refine⟨p,hp,fun n=>⟨n,?_⟩⟩;rw [e];have:([34]++a3g w d++[34]++p++t)=34::(a3g w d++(34::(p++t))):=by simp
  rw [this,a6l,show nl 34 n=n from rfl,a8n d w _ _ _ h.2,a4h (by rfl)];rfl
 ·obtain⟨g0,g1,e,hg0,hg1⟩:∃ g0 g1,a3v d=g0::g1/\a9x g0=true/\a9p g1:=by
   rcases a5t d with g | g | g | g
   ·exact⟨10,[],g,rfl,a8f⟩
   ·exact⟨32,[],g,rfl,a8f⟩
   ·exact⟨9,[],g,rfl,a8f⟩
   ·exact⟨13,[10,32],g,rfl,f0l⟩
  refine⟨g1,hg1,fun n=>⟨nl g0 n,?_⟩⟩;rw [e,List.append_assoc,List.cons_append,a5y d h,a4h hg0];rfl
theorem d2z{w:List Nat}(h:b0s w)(d:Nat):∃ p,a9p p/\∀ n,∃ n',a0j (a0t w d).dropLast n=(w,p,n'):=by
 unfold a0t;split
 ·rcases b6y d (a3v d)with q | q
  ·refine⟨[],a8f,fun n=>⟨n,?_⟩⟩
   rw [q,List.append_nil,List.dropLast_concat];show a0j (34::a3g w d) n=_;rw [a6l,show nl 34 n=n from rfl];have:=a8n d w [] [] n h.2;rw [List.append_nil]at this;rw [this];rfl
  ·rw [q]
   obtain⟨p,hp,e⟩:∃ p,a9p p/\([34]++a3g w d++[34]++a3v d).dropLast=34::(a3g w d++(34::p)):=by
    rcases a5t d with g | g | g | g
    ·exact⟨[],a8f,by rw [g,List.dropLast_concat];simp⟩
    ·exact⟨[],a8f,by rw [g,List.dropLast_concat];simp⟩
    ·exact⟨[],a8f,by rw [g,List.dropLast_concat];simp⟩
    ·refine⟨[13,10],f0n,?_⟩
     rw [g,show([34]++a3g w d++[34]++[13,10,32])=([34]++a3g w d++[34]++[13,10])++[32]from by simp,List.dropLast_concat];simp
   refine⟨p,hp,fun n=>⟨n,?_⟩⟩;rw [e,a6l,show nl 34 n=n from rfl,a8n d w _ _ _ h.2,a4h (by rfl)];rfl
 ·have one:∀ x:Nat,a3v d=[x]->∃ p,a9p p/\∀ n,∃ n',a0j (a3g w d++a3v d).dropLast n=(w,p,n'):=fun x g=>by
   refine⟨[],a8f,fun n=>⟨n,?_⟩⟩;rw [g,List.dropLast_concat];have:=a5y d h [] n;rw [List.append_nil]at this;rw [this];rfl
  rcases a5t d with g | g | g | g
  ·exact one 10 g
  ·exact one 32 g
  ·exact one 9 g
  ·refine⟨[10],e9q,fun n=>⟨n,?_⟩⟩
   rw [g,show(a3g w d++[13,10,32])=(a3g w d++[13,10])++[32]from by simp,List.dropLast_concat,a5y d h,a4h (by rfl)];rfl
noncomputable def a1h:List (List Nat×Nat)->List Nat
 | []=>[]
 | [x]=>(a0t x.1 x.2).dropLast
 | x::y::r=>a0t x.1 x.2++a1h (y::r)
theorem c2m(w:List Nat)(d:Nat):a0t w d≠[]:=by
 unfold a0t;split
 ·simp
 ·rcases a5t d with g | g | g | g<;>rw [g]<;>simp
theorem b5n:∀ l:List (List Nat×Nat),a1h l=(l.map fun x=>a0t x.1 x.2).flatten.dropLast:=by
 intro z_;induction z_ with
 | nil=>
  exact rfl
 | cons x z_ ih=>induction z_ using List.casesOn with
  | nil=>
   simp [a1h]
  | cons y r=>
   have ih:=ih;have hne:((y::r).map fun x=>a0t x.1 x.2).flatten≠[]:=by
    rw [List.map_cons,List.flatten_cons];intro q;exact c2m y.1 y.2 (List.append_eq_nil_iff.mp q).1
   rw [a1h,ih,List.map_cons (l:=y::r),List.flatten_cons,List.dropLast_append_of_ne_nil hne]
noncomputable def b0t(l:List (List Nat×Nat))(t:List Nat):Prop:=∃ p,a9p p/\t=p++a1h l
theorem b5x{w:List Nat}{d:Nat}{r:List (List Nat×Nat)}{t:List Nat}(h:b0s w)(R:b0t ((w,d)::r) t)(n:Int):(a0j t n).1=w/\b0t r (a0j t n).2.1:=by
 obtain⟨p,hp,rfl⟩:=R;obtain⟨n',e⟩:=b1x p (a1h ((w,d)::r)) n hp;rw [e];induction r using List.casesOn with
 | nil=>
  obtain⟨p',hp',hr⟩:=d2z h d;obtain⟨n'',e2⟩:=hr n';rw [show a1h [(w,d)]=(a0t w d).dropLast from rfl,e2];exact⟨rfl,p',hp',by simp [a1h]⟩
 | cons y r=>
  obtain⟨p',hp',hr⟩:=b7b h d (a1h (y::r));obtain⟨n'',e2⟩:=hr n';rw [show a1h ((w,d)::y::r)=a0t w d++a1h (y::r)from rfl,e2];exact⟨rfl,p',hp',rfl⟩
theorem d1f{t:List Nat}(R:b0t [] t)(n:Int):(a0j t n).1=[]/\(a0j t n).2.1=[]:=by
 obtain⟨p,hp,rfl⟩:=R;obtain⟨n',e⟩:=b1x p (a1h []) n hp;rw [e];exact⟨rfl,rfl⟩
noncomputable def lns(t:List Nat):Int:=(t.count 10:Nat)
theorem a5h(c:Nat)(t:List Nat)(n:Int):nl c n+lns t=n+lns (c::t):=by
 unfold nl lns;by_cases h:c=10
 ·subst h;simp;omega
 ·simp [h]
theorem b3d{p:Nat->Bool}(hp:p 92=false)(t tok:List Nat)(n:Int):(a5r p t tok n).2.2.1+lns (a5r p t tok n).2.1=n+lns t:=by
 refine b0d hp (P:=fun t tok n=>(a5r p t tok n).2.2.1+lns (a5r p t tok n).2.1=n+lns t) (fun zz zz=>rfl) ?_ ?_ ?_ ?_ t.length t tok n (Nat.le_refl _)<;>clear t tok n
 ·intro c t tok n hc;rw [a4h hc];exact a5h c t n
 ·intro tok n;rw [b0a hp];exact a5h 92 [] n
 ·intro d t tok n ih;rw [b1f hp,ih,a5h,a5h]
 ·intro c t tok n hc h92 ih;rw [a6n hc h92,ih,a5h]
theorem a4a:∀(t:List Nat) (n:Int),(a0j t n).2.2+lns (a0j t n).2.1=n+lns t:=by
 intro z_;induction z_ with
 | nil=>
  intro n;exact rfl
 | cons c t ih=>
  intro n;induction hw:a9x c using Bool.casesOn with
  | true=>rw [a8g hw,ih,a5h]
  | false=>
   by_cases h34:c=34
   ·subst h34;rw [a6l];exact(b3d rfl t [] (nl 34 n)).trans (a5h 34 t n)
   ·rw [a8h hw h34];exact b3d rfl _ _ _
end
section
noncomputable def k3(a b c:Bool):V:=.lst [.bool a,.bool b,.bool c]
theorem e0v:∀ a b c d e f:Bool,a0z .Eq (k3 a b c) (k3 d e f)=some (a==d&&b==e&&c==f):=by decide +kernel
theorem e0o:∀ a b c d e f:Bool,a0z .NotEq (k3 a b c) (k3 d e f)=some (!(a==d&&b==e&&c==f)):=by decide +kernel
section
variable{μ:Mu}{N:Nat}
theorem e5t(i:Int)(ok:a2m μ=true):cF g0 P_ISTERMINAL a2x (N+10) [.int i] μ=some (.bool (decide (i<256)),μ):=c7m th3 N i μ ok
theorem d3w(i:Int)(ok:a2m μ=true):cF g0 a2h a2i (N+10) [.int i] μ=some (.bool (decide (i≥256)),μ):=by
 show a2z g0 (N+9) a2h a2i [.int i] μ=_;refine a1j (v:=.bool (decide (i≥256))) (ρ':=[(44,.int i)]) (by rfl) ok ?_ rfl;exact a7i (a0i (evl rfl) (v:=.int 256) rfl rfl)
theorem e9r(i:Int)(ok:a2m μ=true):cF g0 b4n b4p (N+10) [.int i] μ=some (.bool (decide (i=0)),μ):=by
 show a2z g0 (N+9) b4n b4p [.int i] μ=_;refine a1j (v:=.bool (decide (i=0))) (ρ':=[(44,.int i)]) (by rfl) ok ?_ rfl;exact a7i (a0i (evl rfl) (v:=.int 0) rfl (e2w i 0))
theorem c3c{ρ:Rho}{i:Int}(hi:ρ.lookup 92=some (.int i))(ok:a2m μ=true):ev gK (N+20) (.comp (.cmp .Is (.loc 94) (.cst (.bool true))) (.one 94) (.tup [(.call 46 [(.loc 92)]),(.call 43 [(.loc 92)]),(.call 45 [(.loc 92)])]) [] [42,94]) ρ μ
  = some (k3 (decide (i=0)) (decide (i<256)) (decide (i≥256)),μ):=by
 have ct:a1w (fun x μ=>ev gK (N+19) x ρ μ) (.tup [(.call 46 [(.loc 92)]),(.call 43 [(.loc 92)]),(.call 45 [(.loc 92)])]) μ=some ([decide (i=0),decide (i<256),decide (i≥256)].map .bool,μ):=
  e1r (a7r (a4e ((a0k (a1q (evl hi))).trans (e9r (N:=N+7) i ok)) (a4e ((a0k (a1q (evl hi))).trans (e5t (N:=N+7) i ok)) (a5j ((a0k (a1q (evl hi))).trans (d3w (N:=N+7) i ok))))) (show 3<=big by decide))
 refine a2r ct (show 3<=big by decide) (a4r _ _ fun b hb=>a0i (u:=.bool b) (evl ?_) evc (by cases b<;>rfl));rw [a0b,if_pos rfl]
noncomputable def Tok(μ:Mu)(k:Nat)(w:List Nat)(μ':Mu):Prop:=a3s μ (.mut k)=true/\∀ N,mF g0 P_get_token a2b (N+30) (.mut k) [] μ=some (.str w,μ')
noncomputable def b6p(w:List Nat):Int:=match toks.lookup w with
 | some n=>5 * n-15
 | .none=>if w=[]then 0 else 256+(w.length:Int)-1
noncomputable def kK(w:List Nat):V:=k3 (decide (b6p w=0)) (decide (b6p w<256)) (decide (b6p w≥256))
theorem d1b{ρ:Rho}{w:List Nat}(hw:ρ.lookup 82=some (.str w))(hz:w.length<=big):ev gK (N+10) (.ite (.inG false 27 (.loc 82)) (.bin .Sub (.bin .Mult (.cst (.int 5)) (.subG 27 (.loc 82))) (.cst (.int 15))) (.ite (.loc 82) (.bin .Sub (.bin .Add (.glb 28) (.call 0 [(.loc 82)])) (.cst (.int 1))) (.cst (.int 0)))) ρ μ=some (.int (b6p w),μ):=by
 have e1:ev gK (N+9) (.inG false 27 (.loc 82)) ρ μ=some (.bool (toks.lookup w).isSome,μ):=by
  rw [b8q,evl hw];show some (V.bool ((toks.lookup w).isSome != false),μ)=_;rw [Bool.bne_false]
 rw [b2r e1 (bv:=(toks.lookup w).isSome) rfl];unfold b6p;induction hl:toks.lookup w using Option.casesOn with
 | some n=>
  refine evb (u:=.int (5 * n)) (v:=.int 15) (evb (u:=.int 5) (v:=.int n) evc ?_ rfl) evc rfl;rw [b0w,evl hw];show(toks.lookup w).map _=_;rw [hl];rfl
 | none=>
  refine(b2r (evl hw) (bv:=!w.isEmpty) (if_pos hz)).trans ?_;induction w using List.casesOn with
  | nil=>rfl
  | cons c w=>
   dsimp only;rw [if_neg (List.cons_ne_nil c w)];show ev gK (N+9) (.bin .Sub (.bin .Add (.glb 28) (.call 0 [(.loc 82)])) (.cst (.int 1))) ρ μ=_;exact evb (w:=.int (256+((c::w).length:Int)-1)) (evb (w:=.int (256+((c::w).length:Int))) (u:=.int 256) (v:=.int ((c::w).length:Int)) rfl ((a0k (a1q (evl hw))).trans (if_pos hz)) rfl) evc rfl
theorem d5f{w:List Nat}(hz:w.length<=big)(ok:a2m μ=true):cF gK a5g a5i (N+30) [.str w] μ=some (kK w,μ):=by
 refine a1j (n:=N+29) (v:=kK w) (ρ':=[(82,.str w),(92,.int (b6p w))]) rfl ok ?_ rfl;exact a3u (d1b (N:=N+18) rfl hz) (a7i (c3c (N:=N+8) rfl ok))
theorem a8p{n:Nat}{ρ:Rho}{w:List Nat}(hn:N+30=n)(hw:ρ.lookup 82=some (.str w))(hz:w.length<=big)(ok:a2m μ=true):ev gP (n+1) (.call 131 [(.loc 82)]) ρ μ=some (kK w,μ):=by
 subst hn;exact(a0k (a1q (evl hw))).trans (d5f hz ok)
end
end
section
noncomputable def b5l(w:List Nat):Prop:=w.length<=big/\∃ n,toks.lookup w=some n/\4<=n/\n<=54
structure d9y(k:Nat)(μ:Mu)(w:List Nat)(μ':Mu):Prop where
 len:μ'.length=μ.length
 ok:a2m μ'=true
 tok:∀ l:List (List Nat),Tok (μ++[.list (l.map .str)]) k w (μ'++[.list (l.map .str)])
inductive Chain(k:Nat):Mu->List (List Nat)->Mu->Prop
 | nil (μ:Mu):Chain k μ [] μ
 | cons {μ μ' μ'':Mu} {w:List Nat} {ws:List (List Nat)}:d9y k μ w μ'->Chain k μ' ws μ''->Chain k μ (w::ws) μ''
theorem Chain.len{k:Nat}{μ μ':Mu}{ws:List (List Nat)}(c:Chain k μ ws μ'):μ'.length=μ.length:=by
 induction c with
 | nil=>rfl
 | cons s _ ih=>rw [ih,s.len]
theorem b3u{μ:Mu}(h:a2m μ=true)(l:List (List Nat)):a2m (μ++[.list (l.map .str)])=true:=by
 unfold a2m at *;rw [List.all_append,Bool.and_eq_true];refine⟨List.all_eq_true.mpr fun z hz=>?_,(Bool.and_true _).trans (a1d l)⟩;have:=List.all_eq_true.mp h z hz;induction z using Mine.M.casesOn with
 | list l=>exact this
 | obj is n=>exact List.all_eq_true.mpr fun x hx=>decide_eq_true (Nat.lt_of_lt_of_le (of_decide_eq_true (List.all_eq_true.mp this x hx)) (by rw [List.length_append];exact Nat.le_add_right _ _))
section
variable{μ μ₁ μ₂:Mu}{N:Nat}{k m:Nat}{e:V}{ρ:Rho}{w:List Nat}
theorem e2h(h:b5l w):kK w=k3 false true false:=by
 obtain⟨_,n,hl,h1,h2⟩:=h;have e:b6p w=5 * n-15:=by unfold b6p;rw [hl]
 unfold kK;rw [e,decide_eq_false (by omega),decide_eq_true (by omega),decide_eq_false (by omega)]
theorem a2v(μ:Mu)(m:M):(μ++[m])[μ.length]?=some m:=List.getElem?_concat_length
theorem b3s(μ:Mu)(m m':M):(μ++[m]).set μ.length m'=μ++[m']:=by
 have:=List.set_append_right (s:=μ) (t:=[m]) μ.length m' (Nat.le_refl _);rw [this,Nat.sub_self];rfl
theorem a2n{f:Rho->Mu->Option (F×Rho×Mu)}{t:T}{v:V}{r:List V}{ρ ρ₂ ρK:Rho}{μ μK:Mu}(hb:a3f t v ρ=some ρ₂)(hf:f ρ₂ μ=some (.next,ρK,μK)):a3w f t (v::r) ρ μ=a3w f t r ρK μK:=by
 show(match (generalizing:=false) a3f t v ρ with | .none=>Option.none | some ρ=>match f ρ μ with | .none=>.none | some (.brk,ρ,μ)=>some (F.next,ρ,μ) | some (.ret v,ρ,μ)=>some (F.ret v,ρ,μ) | some (_,ρ,μ)=>a3w f t r ρ μ)=_
 rw [hb];dsimp only;rw [hf]
theorem c7j{f:Rho->Mu->Option (F×Rho×Mu)}{t:T}{v u:V}{r:List V}{ρ ρ₂ ρK:Rho}{μ μK:Mu}(hb:a3f t v ρ=some ρ₂)(hf:f ρ₂ μ=some (.ret u,ρK,μK)):a3w f t (v::r) ρ μ=some (.ret u,ρK,μK):=by
 show(match (generalizing:=false) a3f t v ρ with | .none=>Option.none | some ρ=>match f ρ μ with | .none=>.none | some (.brk,ρ,μ)=>some (F.next,ρ,μ) | some (.ret v,ρ,μ)=>some (F.ret v,ρ,μ) | some (_,ρ,μ)=>a3w f t r ρ μ)=_
 rw [hb];dsimp only;rw [hf]
theorem c0z(μ:Mu)(m:M)(n:Nat)(h:n=μ.length):(μ++[m]).take n=μ:=by subst h;exact List.take_left
structure RP(k m:Nat)(e:V)(ρ:Rho):Prop where
 lexer:ρ.lookup 88=some (.mut k)
 end':ρ.lookup 133=some e
 pack:ρ.lookup 134=some (.mut m)
theorem RP.put(h:RP k m e ρ){i:Nat}(v:V)(h1:i≠88)(h2:i≠133)(h3:i≠134):RP k m e (Mine.put i v ρ):=
 ⟨by rw [a0b,if_neg (Ne.symm h1)];exact h.lexer,by rw [a0b,if_neg (Ne.symm h2)];exact h.end',by rw [a0b,if_neg (Ne.symm h3)];exact h.pack⟩
theorem d4o{μ':Mu}(hl:ρ.lookup 88=some (.mut k))(ht:Tok μ k w μ'):ev gP (N+31) (.meth 22 (.loc 88) []) ρ μ=some (.str w,μ'):=
 (a4p (vs:=[]) (μ₁:=μ) (evl hl) (show(if(22=21∨22=22∨22=23)then a3s μ (.mut k)else b9e 22 (.mut k) μ)=true from(if_pos (Or.inr (Or.inl rfl))).trans ht.1) rfl).trans (ht.2 N)
theorem d1m(w:List Nat)(ρ:Rho):(put 82 (.str w) ρ).lookup 82=some (.str w):=by rw [a0b,if_pos rfl]
theorem d8o(hs:d9y k μ w μ₁)(ho:b5l w)(hr:RP k μ.length e ρ)(l:List (List Nat))(hl:l.length<=big) :
  exec gP (N+40) c9s ρ (μ++[.list (l.map .str)])=some (.next,put 82 (.str w) ρ,μ₁++[.list ((l++[w]).map .str)]):=by
 have hr':=hr.put (.str w) (i:=82) (by decide) (by decide) (by decide);have hlen:μ.length=μ₁.length:=hs.len.symm;have hget:(μ₁++[Mine.M.list (l.map .str)])[μ.length]?=some (.list (l.map .str)):=by rw [hlen];exact a2v _ _
 refine(a0a (f:=a0d gP (N+39)) (a0c (d4o (N:=N+8) hr.lexer (hs.tok l)))).trans ?_;refine(a0a ((a0r (n:=N+38) (bv:=false) (a0i (v:=k3 false true false) (w:=false) (a8p (N:=N+7) (n:=N+37) rfl (d1m w ρ) ho.1 (b3u hs.ok l)) rfl ?_) rfl).trans rfl)).trans ?_
 ·rw [e2h ho];exact e0o _ _ _ _ _ _
 ·refine(a0a (a3d (v:=.none) ((a4p (evl hr'.pack) (show gP.find 10 (.mut μ.length) (μ₁++[.list (l.map .str)])=true from a5c hget) (a1q (evl (d1m w ρ)))).trans ?_))).trans rfl
  show(match (generalizing:=false) (μ₁++[Mine.M.list (l.map .str)])[μ.length]? with | some (.list l')=>if l'.length<=big then some (V.none,(μ₁++[Mine.M.list (l.map .str)]).set μ.length (.list (l'++[V.str w])))else .none | _=>.none)=_
  rw [hget];refine(if_pos (by rw [List.length_map];exact hl)).trans ?_;rw [hlen,b3s,List.map_append];rfl
theorem d3f{u:List Nat}{a b c:Bool}(hs:d9y k μ u μ₁)(hu:u.length<=big)(hk:kK u=k3 a b c)(hne:(a==false&&b==true&&c==false)=false)(hr:RP k μ.length (k3 a b c) ρ)(l:List (List Nat)) :
  exec gP (N+40) c9s ρ (μ++[.list (l.map .str)])=some (.ret (.mut μ.length),put 82 (.str u) ρ,μ₁++[.list (l.map .str)]):=by
 have hr':=hr.put (.str u) (i:=82) (by decide) (by decide) (by decide);refine(a0a (f:=a0d gP (N+39)) (a0c (d4o (N:=N+8) hr.lexer (hs.tok l)))).trans ?_;refine a2u ((a0r (n:=N+38) (bv:=true) (a0i (v:=k3 false true false) (w:=true) (a8p (N:=N+7) (n:=N+37) rfl (d1m u ρ) hu (b3u hs.ok l)) rfl ?_) rfl).trans ?_)
 ·rw [hk]
  refine(e0o _ _ _ _ _ _).trans ?_;rw [hne];rfl
 ·refine a2u (b5b ((b2r (n:=N+37) (bv:=true) (a0i (w:=true) (a8p (N:=N+5) (n:=N+35) rfl (d1m u ρ) hu (b3u hs.ok l)) (evl hr'.end') ?_) rfl).trans (evl (Γ:=gP) (n:=N+36) hr'.pack)))
  rw [hk];refine(e0v _ _ _ _ _ _).trans ?_;cases a<;>cases b<;>cases c<;>rfl
theorem c4m:∀ {μ μ₁:Mu} {ws:List (List Nat)},Chain k μ ws μ₁->(∀ w∈ws,b5l w)->∀(turns:List V) (ρ:Rho) (l:List (List Nat)),ws.length<turns.length->l.length+ws.length<=big->RP k μ.length e ρ →
  ∃ ρ' t ts,RP k μ.length e ρ'/\a3w (fun ρ μ=>exec gP (N+40) c9s ρ μ) (.one 91) turns ρ (μ++[.list (l.map .str)])=a3w (fun ρ μ=>exec gP (N+40) c9s ρ μ) (.one 91) (t::ts) ρ' (μ₁++[.list ((l++ws).map .str)]):=by
 intro μ μ₁ ws c;induction c with
 | nil μ=>
  intro _ turns ρ l hlt _ hr;induction turns using List.casesOn with
  | nil=>exact absurd hlt (Nat.not_lt_zero _)
  | cons t ts=>exact⟨ρ,t,ts,hr,by rw [List.append_nil]⟩
 | @cons _ _ _ w ws s c ih=>
  intro ho turns ρ l hlt hl hr;induction turns using List.casesOn with
  | nil=>exact absurd hlt (Nat.not_lt_zero _)
  | cons t ts=>
   have hr1:=hr.put t (i:=91) (by decide) (by decide) (by decide);have e1:=d8o (N:=N) s (ho _ List.mem_cons_self) hr1 l (Nat.le_trans (Nat.le_add_right _ _) hl);have hr2:=hr1.put (.str w) (i:=82) (by decide) (by decide) (by decide);rw [← s.len]at hr2;obtain⟨ρ2,t2,ts2,hr3,e2⟩:=ih (fun w hw=>ho w (List.mem_cons_of_mem _ hw)) ts _ (l++[w]) (Nat.lt_of_succ_lt_succ hlt) (by rw [List.length_append,Nat.add_assoc,Nat.add_comm (List.length _) (List.length _)];exact hl) hr2;rw [s.len]at hr3;refine⟨ρ2,t2,ts2,hr3,(a2n rfl e1).trans ?_⟩;rw [List.append_assoc,List.cons_append,List.nil_append]at e2;exact e2
theorem e3k{ρ:Rho}{n:Nat}:a1w (fun x μ=>ev gP (n+1) x ρ μ) (.range [(.cst (.int 8))]) μ=some ([.int 0,.int 1,.int 2,.int 3,.int 4,.int 5,.int 6,.int 7],μ):=by
 have:a0l [.int 8]=some [.int 0,.int 1,.int 2,.int 3,.int 4,.int 5,.int 6,.int 7]:=by
  rw [show a0l [.int 8]=if Builtin.Range.small 0 8 1 then some (a0p 0 8 1)else .none from rfl,if_pos (by decide +kernel)];rfl
 rw [d5o,a1q evc];show(a0l [.int 8]).map _=_;rw [this];rfl
theorem b7k{ws:List (List Nat)}{u:List Nat}{a b cc:Bool}(c:Chain k μ ws μ₁)(hs:d9y k μ₁ u μ₂)(hu:u.length<=big)(hk:kK u=k3 a b cc)(hne:(a==false&&b==true&&cc==false)=false)(ho:∀ w∈ws,b5l w)(h4:ws.length<=7):cF gP P4__law_pack a2d (N+50) [.mut k,k3 a b cc] μ=some (.lst (ws.map .str),μ₂):=by
 have hlen1:μ₁.length=μ.length:=c.len;have hlen2:μ₂.length=μ.length:=by rw [hs.len,hlen1]
 have hr:RP k μ.length (k3 a b cc) [(88,.mut k),(133,k3 a b cc),(134,.mut μ.length)]:=⟨rfl,rfl,rfl⟩;obtain⟨ρ1,t,ts,hr1,e1⟩:=c4m (N:=N+8) c ho [.int 0,.int 1,.int 2,.int 3,.int 4,.int 5,.int 6,.int 7] _ [] (Nat.lt_of_le_of_lt h4 (by decide)) (Nat.le_trans (Nat.add_le_add_left h4 _) (by decide)) hr;have hr2:=hr1.put t (i:=91) (by decide) (by decide) (by decide);rw [← hlen1]at hr2;have e2:=d3f (N:=N+8) hs hu hk hne hr2 ([]++ws);have e3:exec gP (N+49) a2d (P4__law_pack.zip [.mut k,k3 a b cc]) μ=some (.ret (.mut μ.length),put 82 (.str u) (put 91 t ρ1),μ₂++[.list (([]++ws).map .str)]):=by
  refine(a0a (f:=a0d gP (N+48)) (ρ':=[(88,.mut k),(133,k3 a b cc),(134,.mut μ.length)]) (μ':=μ++[Mine.M.list []]) rfl).trans ?_;refine a2u (f:=a0d gP (N+48)) ?_;refine(a5b e3k).trans (e1.trans (c7j rfl ?_));rw [← hlen1];exact e2
 have ok:=hs.ok;unfold a2m at ok;rw [hlen2]at ok;refine a4k rfl e3 (c0z μ₂ _ μ.length hlen2.symm) ok ?_;have hget:(μ₂++[Mine.M.list (([]++ws).map .str)])[μ.length]?=some (.list (([]++ws).map .str)):=by rw [← hlen2];exact a2v _ _
 rw [e3y,if_neg (Nat.lt_irrefl _),hget];exact if_pos (a1d ws)
end
end
section
open Float64 (add sub mul div divmod cmp isZero)
noncomputable def c5n(r g mx rc gc bc:UInt64):UInt64:=if eqF r mx then sub bc gc else if eqF g mx then sub (add f2 rc) bc else sub (add f4 gc) rc
noncomputable def c8u(r g b mx rg s:UInt64)(out:UInt64->C3):Option C3:=
 (divO (sub mx r) rg).bind fun rc=>(divO (sub mx g) rg).bind fun gc=>(divO (sub mx b) rg).bind fun bc=>some (out (mod1 (div (c5n r g mx rc gc bc) f6)))
noncomputable def a7m(r g b:UInt64):Option C3:=
 if eqF (a5q (a5q r g) b) (a3t (a3t r g) b)then some (0,0,a3t (a3t r g) b)else
 (divO (sub (a3t (a3t r g) b) (a5q (a5q r g) b)) (a3t (a3t r g) b)).bind fun s=>c8u r g b (a3t (a3t r g) b) (sub (a3t (a3t r g) b) (a5q (a5q r g) b)) s fun h=>(h,s,a3t (a3t r g) b)
noncomputable def a7o(r g b:UInt64):Option C3:=
 if eqF (a5q (a5q r g) b) (a3t (a3t r g) b)then some (0,div (add (a3t (a3t r g) b) (a5q (a5q r g) b)) f2,0)else
 (if leF (div (add (a3t (a3t r g) b) (a5q (a5q r g) b)) f2) fh then divO (sub (a3t (a3t r g) b) (a5q (a5q r g) b)) (add (a3t (a3t r g) b) (a5q (a5q r g) b))
  else divO (sub (a3t (a3t r g) b) (a5q (a5q r g) b)) (sub (sub f2 (a3t (a3t r g) b)) (a5q (a5q r g) b))).bind fun s=>
 c8u r g b (a3t (a3t r g) b) (sub (a3t (a3t r g) b) (a5q (a5q r g) b)) s fun h=>(h,div (add (a3t (a3t r g) b) (a5q (a5q r g) b)) f2,s)
noncomputable def a7l(h s v:UInt64):Option C3:=
 if eqF s 0 then some (v,v,v)else if Float64.isFinite (mul h f6)=false∨small (Flt.toInt Float64.truncOf (mul h f6))=false then .none else
 (fun f p=>(fun q t=>(match (Flt.toInt Float64.truncOf (mul h f6)).fmod 6 with
  | 0=>some (v,t,p) | 1=>some (q,v,p) | 2=>some (p,v,t) | 3=>some (p,q,v) | 4=>some (t,p,v) | 5=>some (v,p,q) | _=>Option.none))
  (mul v (sub f1 (mul s f))) (mul v (sub f1 (mul s (sub f1 f)))))
  (sub (mul h f6) (Float64.ofInt (Flt.toInt Float64.truncOf (mul h f6)))) (mul v (sub f1 s))
section
variable{μ:Mu}{N:Nat}{ρ:Rho}{Γ:G}{n:Nat}
theorem le3:3<=big:=by decide
theorem e2t(a:UInt64):divO a f6=some (div a f6):=by unfold divO;rw [z6];rfl
theorem e1e(a:UInt64):divO a f2=some (div a f2):=by unfold divO;rw [z2];rfl
theorem c2p{a b c:X}{u v w:V}(h1:ev Γ n a ρ μ=some (u,μ))(h2:ev Γ n b ρ μ=some (v,μ))(h3:ev Γ n c ρ μ=some (w,μ)):ev Γ (n+1) (.tup [a,b,c]) ρ μ=some (.tup [u,v,w],μ):=a7r (evn h1 (evn h2 (a1q h3))) le3
theorem c4o{a b c:UInt64}(h:divO a b=some c):a0x .Div (.flt a) (.flt b)=some (.flt c):=by rw [e7c,h];rfl
theorem ceq{a b:UInt64}{c:Bool}(h:eqF a b=c):a0z .Eq (.flt a) (.flt b)=some c:=(e1b a b).trans (congrArg some h)
theorem cle{a b:UInt64}{c:Bool}(h:leF a b=c):a0z .LtE (.flt a) (.flt b)=some c:=(e3r a b).trans (congrArg some h)
noncomputable def f0e:Mine.S:=.ite (.cmp .Eq (.loc 48) (.loc 51)) [.assign 60 (.bin .Sub (.loc 59) (.loc 58))] [.ite (.cmp .Eq (.loc 49) (.loc 51)) [.assign 60 (.bin .Sub (.bin .Add (.cst (.flt 4611686018427387904)) (.loc 57)) (.loc 59))] [.assign 60 (.bin .Sub (.bin .Add (.cst (.flt 4616189618054758400)) (.loc 58)) (.loc 57))]]
theorem c5g{r g mx rc gc bc:UInt64}{rest:List Mine.S}{z:Option (F×Rho×Mu)}(l48:ρ.lookup 48=some (.flt r))(l49:ρ.lookup 49=some (.flt g))(l51:ρ.lookup 51=some (.flt mx))(l57:ρ.lookup 57=some (.flt rc))(l58:ρ.lookup 58=some (.flt gc))(l59:ρ.lookup 59=some (.flt bc))
  (k:a3q (a0d Γ (n+8)) rest (put 60 (.flt (c5n r g mx rc gc bc)) ρ) μ=z):a3q (a0d Γ (n+8)) (f0e::rest) ρ μ=z:=by
 refine(a0a ?_).trans k;unfold c5n;induction e1:eqF r mx using Bool.casesOn with
 | true=>exact(a0r (a0i (evl l48) (evl l51) (ceq e1)) rfl).trans (a3u (evb (evl l59) (evl l58) rfl) rfl)
 | false=>
  refine(a0r (a0i (evl l48) (evl l51) (ceq e1)) rfl).trans ((a0a ?_).trans rfl);induction e2:eqF g mx using Bool.casesOn with
  | true=>exact(a0r (a0i (evl l49) (evl l51) (ceq e2)) rfl).trans (a3u (evb (evb evc (evl l57) rfl) (evl l59) rfl) rfl)
  | false=>exact(a0r (a0i (evl l49) (evl l51) (ceq e2)) rfl).trans (a3u (evb (evb evc (evl l58) rfl) (evl l57) rfl) rfl)
theorem exc{x:Option (F×Rho×Mu)}{a c:C3}(h:some a=some c)(k:∃ ρ',x=some (.ret (vC a),ρ',μ)):∃ ρ',x=some (.ret (vC c),ρ',μ):=Option.some.inj h▸k
theorem b9l{r g b:UInt64}{c:C3}(h:a7m r g b=some c)(ok:a2m μ=true):cF g0 a4b a3e (N+20) [.flt r,.flt g,.flt b] μ=some (vC c,μ):=by
 have key:∃ ρ',a3q (a0d g0 (N+18)) a3e [(48,.flt r),(49,.flt g),(50,.flt b)] μ=some (.ret (vC c),ρ',μ):=by
  have args:∀ n:Nat,evs (fun x μ=>ev g0 (n+1) x [(48,.flt r),(49,.flt g),(50,.flt b)] μ) [.loc 48,.loc 49,.loc 50] μ=some ([.flt r,.flt g,.flt b],μ):=fun n=>evn (evl rfl) (evn (evl rfl) (a1q (evl rfl)));have args2:∀(n:Nat) (v:V),evs (fun x μ=>ev g0 (n+1) x (put 51 v [(48,.flt r),(49,.flt g),(50,.flt b)]) μ) [.loc 48,.loc 49,.loc 50] μ=some ([.flt r,.flt g,.flt b],μ):=fun n v=>evn (evl rfl) (evn (evl rfl) (a1q (evl rfl)));exact ifE h (fun h0 h=>exc h ⟨_,a3u ((a0k (args _)).trans rfl) (a3u ((a0k (args2 _ _)).trans rfl) (a3u (evb (evl rfl) (evl rfl) (a4x _ _)) (a3u (evl rfl)
    (a8c (a0i (evl rfl) (evl rfl) (ceq h0)) (a7i (c2p evc evc (evl rfl)))))))⟩)
   fun h0 h=>a0h h fun s d0 h=>a0h h fun rc d1 h=>a0h h fun gc d2 h=>a0h h fun bc d3 h=>exc h ⟨_,a3u ((a0k (args _)).trans rfl) (a3u ((a0k (args2 _ _)).trans rfl) (a3u (evb (evl rfl) (evl rfl) (a4x _ _)) (a3u (evl rfl)
    (a8m (a0i (evl rfl) (evl rfl) (ceq (Bool.eq_false_iff.mpr h0))) rfl (a3u (evb (evl rfl) (evl rfl) (c4o d0)) (a3u (evb (evb (evl rfl) (evl rfl) (a4x _ _)) (evl rfl) (c4o d1)) (a3u (evb (evb (evl rfl) (evl rfl) (a4x _ _)) (evl rfl) (c4o d2)) (a3u (evb (evb (evl rfl) (evl rfl) (a4x _ _)) (evl rfl) (c4o d3))
    (c5g rfl rfl rfl rfl rfl rfl (a3u (evb (evb (evl rfl) evc (c4o (e2t _))) evc (c5f _)) (a7i (c2p (evl rfl) (evl rfl) (evl rfl)))))))))))))⟩
 obtain⟨ρ',key⟩:=key;exact a1j (v:=vC c) (ρ':=ρ') (by rfl) ok key rfl
end
end
section
open Float64 (add sub mul div divmod cmp isZero)
section
variable{μ:Mu}{N:Nat}{ρ:Rho}{Γ:G}{n:Nat}
theorem d9q{f:Mine.S → Rho → Mu → Option (F×Rho×Mu)}{c:Bool}{a b:List Mine.S}{r:Option (F×Rho×Mu)}(h1:c=true → a3q f a ρ μ=r)(h2:c=false → a3q f b ρ μ=r):a3q f (if c then a else b) ρ μ=r:=by
  cases c
  · exact h2 rfl
  · exact h1 rfl
set_option maxHeartbeats 1000000 in
theorem b9d{r g b:UInt64}{c:C3}(h:a7o r g b=some c)(ok:a2m μ=true):cF g0 a4c a3c (N+20) [.flt r,.flt g,.flt b] μ=some (vC c,μ):=by
  have key:∃ ρ',a3q (a0d g0 (N+18)) a3c [(48,.flt r),(49,.flt g),(50,.flt b)] μ=some (.ret (vC c),ρ',μ):=by
    have args:∀ n:Nat,evs (fun x μ=>ev g0 (n+1) x [(48,.flt r),(49,.flt g),(50,.flt b)] μ) [.loc 48,.loc 49,.loc 50] μ=some ([.flt r,.flt g,.flt b],μ):=fun n=>evn (evl rfl) (evn (evl rfl) (a1q (evl rfl)));have args2:∀(n:Nat) (v:V),evs (fun x μ=>ev g0 (n+1) x (put 51 v [(48,.flt r),(49,.flt g),(50,.flt b)]) μ) [.loc 48,.loc 49,.loc 50] μ=some ([.flt r,.flt g,.flt b],μ):=fun n v=>evn (evl rfl) (evn (evl rfl) (a1q (evl rfl)));exact ifE h (fun h0 h=>exc h ⟨_,a3u ((a0k (args _)).trans rfl) (a3u ((a0k (args2 _ _)).trans rfl) (a3u (evb (evl rfl) (evl rfl) (c7p _ _)) (a3u (evb (evl rfl) (evl rfl) (a4x _ _)) (a3u (evb (evl rfl) evc (c4o (e1e _)))
        (a8c (a0i (evl rfl) (evl rfl) (ceq h0)) (a7i (c2p evc (evl rfl) evc)))))))⟩)
      fun h0 h=>a0h h fun s d0 h=>a0h h fun rc d1 h=>a0h h fun gc d2 h=>a0h h fun bc d3 h=>exc h ⟨_,a3u ((a0k (args _)).trans rfl) (a3u ((a0k (args2 _ _)).trans rfl) (a3u (evb (evl rfl) (evl rfl) (c7p _ _)) (a3u (evb (evl rfl) (evl rfl) (a4x _ _)) (a3u (evb (evl rfl) evc (c4o (e1e _)))
        (a8m (a0i (evl rfl) (evl rfl) (ceq (Bool.eq_false_iff.mpr h0))) rfl
        (a8m (a0i (evl rfl) evc (cle rfl)) (d9q (fun hl=>a3u (evb (evl rfl) (evl rfl) (c4o ((if_pos hl).symm.trans d0))) rfl) fun hl=>a3u (evb (evl rfl) (evb (evb evc (evl rfl) (a4x _ _)) (evl rfl) (a4x _ _)) (c4o ((if_neg (Bool.eq_false_iff.mp hl)).symm.trans d0))) rfl)
        (a3u (evb (evb (evl rfl) (evl rfl) (a4x _ _)) (evl rfl) (c4o d1)) (a3u (evb (evb (evl rfl) (evl rfl) (a4x _ _)) (evl rfl) (c4o d2)) (a3u (evb (evb (evl rfl) (evl rfl) (a4x _ _)) (evl rfl) (c4o d3))
        (c5g rfl rfl rfl rfl rfl rfl (a3u (evb (evb (evl rfl) evc (c4o (e2t _))) evc (c5f _)) (a7i (c2p (evl rfl) (evl rfl) (evl rfl))))))))))))))⟩
  obtain⟨ρ',key⟩:=key;exact a1j (v:=vC c) (ρ':=ρ') (by rfl) ok key rfl
theorem b7u{h l s:UInt64}(ok:a2m μ=true):cF gV a4d a2y (N+30) [.flt h,.flt l,.flt s] μ=some (vC (a0s th3 h l s),μ):=by
  have hv:∀ m1 m2 x,gV.call (N+26) 64 [.flt m1,.flt m2,.flt x] μ=some (.flt (pV th3 m1 m2 x),μ):=fun m1 m2 x=>e1x (N:=N+16) m1 m2 x ok;have tail:∀(ρ:Rho) (m2:UInt64),ρ.lookup 60=some (.flt h) → ρ.lookup 55=some (.flt l) → ρ.lookup 62=some (.flt m2) → ∃ ρ',a3q (a0d gV (N+28)) [.assign 63 (.bin .Sub (.bin .Mult (.cst (.flt 4611686018427387904)) (.loc 55)) (.loc 62)),
      .ret (.tup [(.call 64 [(.loc 63),(.loc 62),(.bin .Add (.loc 60) (.glb 30))]),(.call 64 [(.loc 63),(.loc 62),(.loc 60)]),(.call 64 [(.loc 63),(.loc 62),(.bin .Sub (.loc 60) (.glb 30))])])] ρ μ=some (.ret (vC (d1q th3 (sub (mul f2 l) m2) m2 h)),ρ',μ):=fun ρ m2 l60 l55 l62=>by
    have k60:(put 63 (V.flt (sub (mul f2 l) m2)) ρ).lookup 60=some (.flt h):=by rw [a0b,if_neg (by decide)];exact l60
    have k62:(put 63 (V.flt (sub (mul f2 l) m2)) ρ).lookup 62=some (.flt m2):=by rw [a0b,if_neg (by decide)];exact l62
    have k63:(put 63 (V.flt (sub (mul f2 l) m2)) ρ).lookup 63=some (.flt (sub (mul f2 l) m2)):=by rw [a0b,if_pos rfl]
    have g30:∀ n ρ,ev gV (n+1) (.glb 30) ρ μ=some (.flt th3.a,μ):=fun n ρ=>rfl;exact⟨_,a3u (evb (evb evc (evl l55) (b2e _ _)) (evl l62) (a4x _ _)) (a7i (c2p ((a0k (evn (evl k63) (evn (evl k62) (a1q (evb (evl k60) (g30 _ _) (c7p _ _)))))).trans (hv _ _ _)) ((a0k (evn (evl k63) (evn (evl k62) (a1q (evl k60))))).trans (hv _ _ _)) ((a0k (evn (evl k63) (evn (evl k62) (a1q (evb (evl k60) (g30 _ _) (a4x _ _)))))).trans (hv _ _ _))))⟩
  have key:∃ ρ',a3q (a0d gV (N+28)) a2y [(60,.flt h),(55,.flt l),(56,.flt s)] μ=some (.ret (vC (a0s th3 h l s)),ρ',μ):=by
    unfold a0s;induction h0:eqF s 0 using Bool.casesOn with
    | true=>exact⟨_,a8c (a0i (evl rfl) evc (ceq h0)) (a7i (c2p (evl rfl) (evl rfl) (evl rfl)))⟩
    | false=>induction h1:leF l fh using Bool.casesOn with
      | true=>
        obtain⟨ρ',e⟩:=tail (put 62 (.flt (mul l (add f1 s))) [(60,.flt h),(55,.flt l),(56,.flt s)]) _ rfl rfl rfl;exact⟨ρ',a8m (a0i (evl rfl) evc (ceq h0)) rfl (a8m (a0i (evl rfl) evc (cle h1)) (a3u (evb (evl rfl) (evb evc (evl rfl) (c7p _ _)) (b2e _ _)) rfl) e)⟩
      | false=>
        obtain⟨ρ',e⟩:=tail (put 62 (.flt (sub (add l s) (mul l s))) [(60,.flt h),(55,.flt l),(56,.flt s)]) _ rfl rfl rfl;exact⟨ρ',a8m (a0i (evl rfl) evc (ceq h0)) rfl (a8m (a0i (evl rfl) evc (cle h1)) (a3u (evb (evb (evl rfl) (evl rfl) (c7p _ _)) (evb (evl rfl) (evl rfl) (b2e _ _)) (a4x _ _)) rfl) e)⟩
  obtain⟨ρ',key⟩:=key;exact a1j (v:=vC (a0s th3 h l s)) (ρ':=ρ') (by rfl) ok key rfl
theorem e8j(a:UInt64)(μ:Mu)(h:Float64.isFinite a=true):d7r [.flt a] μ=some (.int (Flt.toInt Float64.truncOf a),μ):=by
  unfold d7r;simp only [h,if_true]
theorem d6r(a:UInt64)(n:Int)(h:small n=true):a0x .Sub (.flt a) (.int n)=some (.flt (sub a (Float64.ofInt n))):=by
  simp only [b0r,a7q,a8l,b1m,b2x,b3b,b1l,b0u,a9a,a9c,a7p,b1e,a9h,b1s,b3i,h,if_true];rfl
theorem e0s(n:Int):a0x .Mod (.int n) (.int 6)=some (.int (n.fmod 6)):=by
  simp only [b0r,a7q,a8l,b1m,b2x,b3b,b1l,b0u,a9a,a9c,a7p,b1e,a9h,b1s,b3i];rfl
theorem d4m(a b:Int):a0z .Eq (.int a) (.int b)=some (decide (a=b)):=rfl
theorem b2f{a b:Int}{c:Bool}(h:decide (a=b)=c):a0z .Eq (.int a) (.int b)=some c:=(d4m a b).trans (congrArg some h)
set_option maxHeartbeats 1000000 in
theorem b7q{h s v:UInt64}{c:C3}(hc:a7l h s v=some c)(ok:a2m μ=true):cF g0 a4j F_hsv_to_rgb (N+20) [.flt h,.flt s,.flt v] μ=some (vC c,μ):=by
  have key:∃ ρ',a3q (a0d g0 (N+18)) F_hsv_to_rgb [(60,.flt h),(56,.flt s),(67,.flt v)] μ=some (.ret (vC c),ρ',μ):=by
    refine ifE hc (fun h0 hc=>exc hc ⟨_,a8c (a0i (evl rfl) evc (ceq h0)) (a7i (c2p (evl rfl) (evl rfl) (evl rfl)))⟩) fun h0 hc=>ifN hc fun hn hc=>?_;have hf:Float64.isFinite (mul h f6)=true:=by
      cases q:Float64.isFinite (mul h f6)
      · exact absurd (.inl q) hn
      · rfl
    have hs:small (Flt.toInt Float64.truncOf (mul h f6))=true:=by
      cases q:small (Flt.toInt Float64.truncOf (mul h f6))
      · exact absurd (.inr q) hn
      · rfl
    have hi:∀ n,g0.call n 5 [.flt (mul h f6)] μ=some (.int (Flt.toInt Float64.truncOf (mul h f6)),μ):=fun n=>e8j (mul h f6) μ hf;generalize Flt.toInt Float64.truncOf (mul h f6)=I at hc hs hi;have bm:=e0s I;generalize I.fmod 6=J at hc bm;have run:∀ {q:Option (F×Rho×Mu)},a3q (a0d g0 (N+18)) (F_hsv_to_rgb.drop 7) [(60,.flt h),(56,.flt s),(67,.flt v),(69,.int J),(70,.flt (sub (mul h f6) (Float64.ofInt I))),(71,.flt (mul v (sub f1 s))),(72,.flt (mul v (sub f1 (mul s (sub (mul h f6) (Float64.ofInt I)))))),(73,.flt (mul v (sub f1 (mul s (sub f1 (sub (mul h f6) (Float64.ofInt I)))))))] μ=q → a3q (a0d g0 (N+18)) F_hsv_to_rgb [(60,.flt h),(56,.flt s),(67,.flt v)] μ=q:=fun k=>
      a8m (a0i (evl rfl) evc (ceq (Bool.eq_false_iff.mpr h0))) rfl (a3u ((a0k (a1q (evb (evl rfl) evc (b2e _ _)))).trans (hi _)) (a3u (evb (evb (evl rfl) evc (b2e _ _)) (evl rfl) (d6r (mul h f6) I hs)) (a3u (evb (evl rfl) (evb evc (evl rfl) (a4x _ _)) (b2e _ _))
      (a3u (evb (evl rfl) (evb evc (evb (evl rfl) (evl rfl) (b2e _ _)) (a4x _ _)) (b2e _ _)) (a3u (evb (evl rfl) (evb evc (evb (evl rfl) (evb evc (evl rfl) (a4x _ _)) (b2e _ _)) (a4x _ _)) (b2e _ _)) (a3u (evb (evl rfl) evc bm) k))))))
    split at hc
    · exact exc hc ⟨_,run (a8c (a0i (evl rfl) evc (b2f rfl)) (a7i (c2p (evl rfl) (evl rfl) (evl rfl))))⟩
    · exact exc hc ⟨_,run (a8m (a0i (evl rfl) evc (b2f rfl)) rfl (a8c (a0i (evl rfl) evc (b2f rfl)) (a7i (c2p (evl rfl) (evl rfl) (evl rfl)))))⟩
    · exact exc hc ⟨_,run (a8m (a0i (evl rfl) evc (b2f rfl)) rfl (a8m (a0i (evl rfl) evc (b2f rfl)) rfl (a8c (a0i (evl rfl) evc (b2f rfl)) (a7i (c2p (evl rfl) (evl rfl) (evl rfl))))))⟩
    · exact exc hc ⟨_,run (a8m (a0i (evl rfl) evc (b2f rfl)) rfl (a8m (a0i (evl rfl) evc (b2f rfl)) rfl (a8m (a0i (evl rfl) evc (b2f rfl)) rfl (a8c (a0i (evl rfl) evc (b2f rfl)) (a7i (c2p (evl rfl) (evl rfl) (evl rfl)))))))⟩
    · exact exc hc ⟨_,run (a8m (a0i (evl rfl) evc (b2f rfl)) rfl (a8m (a0i (evl rfl) evc (b2f rfl)) rfl (a8m (a0i (evl rfl) evc (b2f rfl)) rfl (a8m (a0i (evl rfl) evc (b2f rfl)) rfl (a8c (a0i (evl rfl) evc (b2f rfl)) (a7i (c2p (evl rfl) (evl rfl) (evl rfl))))))))⟩
    · exact exc hc ⟨_,run (a8m (a0i (evl rfl) evc (b2f rfl)) rfl (a8m (a0i (evl rfl) evc (b2f rfl)) rfl (a8m (a0i (evl rfl) evc (b2f rfl)) rfl (a8m (a0i (evl rfl) evc (b2f rfl)) rfl (a8m (a0i (evl rfl) evc (b2f rfl)) rfl (a8c (a0i (evl rfl) evc (b2f rfl)) (a7i (c2p (evl rfl) (evl rfl) (evl rfl)))))))))⟩
    · exact ns hc
  obtain⟨ρ',key⟩:=key;exact a1j (v:=vC c) (ρ':=ρ') (by rfl) ok key rfl
end
end
section
structure Enc{α:Type}[DecidableEq α](ok:α->Prop)(d:Nat)(f:α->V)(p:α->PyData):Prop where
 to:∀ a,b3g (f a)=some (p a)
 lay:∀ a,ok a->(p a).canLay0=true
 dep:∀ a,(p a).depth<=d
 eq:∀ a b,(p a).eqv (p b)=decide (a=b)
theorem encInt:Enc (fun zz:Int=>True) 0 V.int PyData.int where
 to:=fun a=>rfl
 lay:=fun a zz=>rfl
 dep:=fun a=>by simp [PyData.depth]
 eq:=fun a b=>by simp only [PyData.eqv];rw [Bool.eq_iff_iff];simp
noncomputable def b8b(s:List Nat):Prop:=∀ c∈s,c<1114112
theorem encStr:Enc b8b 0 V.str (fun s=>.str ⟨s.toArray⟩) where
 to:=fun a=>by simp [b3g]
 lay:=fun a h=>by
  show PyData.strOk _=true;unfold PyData.strOk;simpa [b8b]using h
 dep:=fun a=>by simp [PyData.depth]
 eq:=fun a b=>by
  simp only [PyData.eqv];by_cases h:a=b
  ·subst h;simp
  ·simp [h]
section
variable{α:Type}[DecidableEq α]{ok:α->Prop}{d:Nat}{f:α->V}{p:α->PyData}
theorem Enc.toPys(e:Enc ok d f p):∀ l:List α,Mine.toPys (l.map f)=some (l.map p):=by
 intro z_;induction z_ with
 | nil=>
  exact rfl
 | cons a l ih=>
  simp only [List.map_cons,Mine.toPys,e.to,ih]
theorem Enc.layAll(e:Enc ok d f p):∀ l:List α,(∀ a∈l,ok a)->PyData.canLayAll0 (l.map p)=true:=by
 intro z_;induction z_ with
 | nil=>
  intro _;exact rfl
 | cons a l ih=>
  intro h;simp only [List.map_cons,PyData.canLayAll0,Bool.and_eq_true];exact⟨e.lay a (h a (by simp)),ih fun b hb=>h b (by simp [hb])⟩
theorem Enc.depAll(e:Enc ok d f p):∀ l:List α,PyData.depthAll (l.map p)<=d:=by
 intro z_;induction z_ with
 | nil=>
  simp [PyData.depthAll]
 | cons a l ih=>
  simp only [List.map_cons,PyData.depthAll];exact Nat.max_le.mpr ⟨e.dep a,ih⟩
theorem Enc.eqAll(e:Enc ok d f p):∀ l l':List α,PyData.eqvAll (l.map p) (l'.map p)=decide (l=l')
 | [],[]=>by simp [PyData.eqvAll]
 | [],b::l'=>by simp [PyData.eqvAll]
 | a::l,[]=>by simp [PyData.eqvAll]
 | a::l,b::l'=>by
  simp only [List.map_cons,PyData.eqvAll,e.eq,Enc.eqAll e l l'];rw [Bool.eq_iff_iff];simp
theorem Enc.list(e:Enc ok d f p):Enc (fun l:List α=>∀ a∈l,ok a) (d+1) (fun l=>.lst (l.map f)) (fun l=>.list (l.map p)) where
 to:=fun l=>by simp only [b3g,e.toPys,Option.map_some]
 lay:=fun l h=>by simp only [PyData.canLay0];exact e.layAll l h
 dep:=fun l=>by simp only [PyData.depth];have:=e.depAll l;omega
 eq:=fun l l'=>by simp only [PyData.eqv];exact e.eqAll l l'
theorem Enc.shaped(e:Enc ok d f p)(hd:d<=64){a:α}(h:ok a):SeqAt.shaped (p a)=true:=by
 unfold SeqAt.shaped;rw [Bool.and_eq_true,decide_eq_true_eq];exact⟨e.lay a h,Nat.le_trans (e.dep a) hd⟩
theorem Enc.cmpEq(e:Enc ok d f p)(hd:d<=64){a b:α}(ha:ok a)(hb:ok b):a0z .Eq (f a) (f b)=some (decide (a=b)):=by
 simp only [e4e,e4m,e4l,e4j,e4n,e4f,e3z,eqv,e.to,e.shaped hd ha,e.shaped hd hb,Bool.and_self,if_true,e.eq]
theorem Enc.cmpNe(e:Enc ok d f p)(hd:d<=64){a b:α}(ha:ok a)(hb:ok b):a0z .NotEq (f a) (f b)=some (!decide (a=b)):=by
 simp only [e4e,e4m,e4l,e4j,e4n,e4f,e3z,eqv,e.to,e.shaped hd ha,e.shaped hd hb,Bool.and_self,if_true,e.eq,Option.map_some]
theorem Enc.anyEq(e:Enc ok d f p)(a:α):∀ l:List α,(l.map p).any (fun y=>y.eqv (p a))=decide (a∈l):=by
 intro z_;induction z_ with
 | nil=>
  simp
 | cons b l ih=>
  simp only [List.map_cons,List.any_cons,e.eq,ih,List.mem_cons];by_cases h:b=a
  ·subst h;simp
  ·have h':¬ a=b:=fun q=>h q.symm
   simp [h,h']
theorem Enc.cmpIn(e:Enc ok d f p)(hd:d+1<=64){a:α}{l:List α}(ha:ok a)(hl:∀ b∈l,ok b):a0z .In (f a) (.lst (l.map f))=some (decide (a∈l)):=by
 have h1:SeqAt.shaped (p a)=true:=e.shaped (by omega) ha;have h2:SeqAt.shaped (.list (l.map p))=true:=e.list.shaped (a:=l) hd hl;have:d0c (f a) (.lst (l.map f))=some ((l.map p).any fun y=>y.eqv (p a)):=by
  unfold d0c;cases hf:f a<;>simp only [← hf,e.to,e.toPys,h1,h2,Bool.and_self,if_true]
 simp only [e4e,e4m,e4l,e4j,e4n,e4f,e3z,this,e.anyEq]
end
theorem encInts:Enc (fun l:List Int=>∀ a∈l,True) 1 (fun l=>V.lst (l.map .int)) (fun l=>PyData.list (l.map .int)):=encInt.list
theorem encStrs:Enc (fun l:List (List Nat)=>∀ a∈l,b8b a) 1 (fun l=>V.lst (l.map .str)) (fun l=>PyData.list (l.map fun s=>.str ⟨s.toArray⟩)):=encStr.list
theorem encRows:Enc (fun l:List (List (List Nat))=>∀ r∈l,∀ a∈r,b8b a) 2 (fun l=>V.lst (l.map fun r=>V.lst (r.map .str))) (fun l=>PyData.list (l.map fun r=>PyData.list (r.map fun s=>.str ⟨s.toArray⟩))):=encStr.list.list
theorem b1v{l:List V}{lo hi:Option Int}(hz:l.length<=big):a1y (.lst l) lo hi .none=some (.lst ((sliceRange (sliceBounds lo hi .none l.length).1 (sliceBounds lo hi .none l.length).2.1 (sliceBounds lo hi .none l.length).2.2).filterMap (l[·]?))):=by
 unfold a1y;rw [if_neg (by decide)];simp only [if_pos hz]
end
section
open Float64 (add sub mul div divmod cmp isZero)
noncomputable def qO(n d:Nat):Option UInt64:=if Float64.isInf (Float64.ofFrac false n d)then .none else some (Float64.ofFrac false n d)
noncomputable def d9v(num wh sh lv:Nat)(e:Bool):Option C3:=
 (qO num wh).bind fun h=>(qO sh 4).bind fun s=>(qO lv 4).bind fun l=>
  if e then(a7l h s l).bind fun c=>a7m c.1 c.2.1 c.2.2
  else a7o (a0s th3 h l s).1 (a0s th3 h l s).2.1 (a0s th3 h l s).2.2
noncomputable def c1x(k:Nat)(x:UInt64):UInt64:=add (mul (Float64.ofInt k) x) (Float64.ofInt 1)
noncomputable def a8i(k:Nat)(x:UInt64):Option Int:=if Float64.isFinite (c1x k x)then some ((Flt.toInt Float64.truncOf (c1x k x)).fdiv 2)else .none
noncomputable def e0c(x:UInt64):Bool:=(Float64.cmpInt x 0==some .gt||Float64.cmpInt x 0==some .eq)&&(Float64.cmpInt x 1==some .lt||Float64.cmpInt x 1==some .eq)
noncomputable def b5t(num wh sh lv:Nat)(e:Bool):Bool:=match d9v num wh sh lv e with
 | some t=>e0c t.1&&(match a8i (32 * wh) t.1 with | some z=>z.fmod 16==0&&(z.fdiv 16).fmod wh==((num%wh:Nat):Int) | _=>false) &&
  (a8i 2048 t.2.1==some (256 * ((if e then sh else lv:Nat):Int)))&&(a8i 2048 t.2.2==some (256 * ((if e then lv else sh:Nat):Int)))
 | _=>false
end
section
open Float64 (add sub mul div divmod cmp isZero)
section
variable{μ μ':Mu}{N:Nat}{ρ:Rho}{Γ:G}{n:Nat}
theorem b6s{i j k:Nat}{e:X}{a b c:V}(h:ev Γ n e ρ μ=some (.tup [a,b,c],μ')):a0d Γ n (.unpack [i,j,k] e) ρ μ=some (.next,put k c (put j b (put i a ρ)),μ'):=by
 simp only [a9w,a9z,d2n,d1t,d2o,d2t,b9s,b4b,h];rfl
theorem a2c{i j:Nat}{e:X}{a b:V}(h:ev Γ n e ρ μ=some (.tup [a,b],μ')):a0d Γ n (.unpack [i,j] e) ρ μ=some (.next,put j b (put i a ρ),μ'):=by
 simp only [a9w,a9z,d2n,d1t,d2o,d2t,b9s,b4b,h];rfl
theorem b_q{a b:Nat}{x:UInt64}(hb:b≠0)(h:qO a b=some x):a0x .Div (.int (a:Int)) (.int (b:Int))=some (.flt x):=by
 unfold qO at h;have h1:((b:Int) != 0)=true:=by simpa using hb
 have h2:(decide ((a:Int)<0) != decide ((b:Int)<0))=false:=by
  have ha:¬ ((a:Int)<0):=by omega
  have hb:¬ ((b:Int)<0):=by omega
  simp [ha,hb]
 simp only [b0r,a7q,a8l,b1m,b2x,b3b,b1l,b0u,a9a,a9c,a7p,b1e,a9h,b1s,b3i,h1,h2,Int.natAbs_natCast];cases hi:Float64.isInf (Float64.ofFrac false a b)
 ·rw [hi]at h
  simp only [Bool.false_eq_true,if_false,Option.some.injEq]at h;subst h;rfl
 ·rw [hi]at h
  simp at h
theorem e2n{n:Nat}(args:List V)(μ:Mu):gC.call n 68 args μ=cF g0 a4j F_hsv_to_rgb n args μ:=rfl
theorem e1c{n:Nat}(args:List V)(μ:Mu):gC.call n 66 args μ=cF g0 a4b a3e n args μ:=rfl
theorem e2z{n:Nat}(args:List V)(μ:Mu):gC.call n 47 args μ=cF g0 a4c a3c n args μ:=rfl
theorem e0g{n:Nat}(args:List V)(μ:Mu):gC.call n 61 args μ=cF gV a4d a2y n args μ:=rfl
theorem e0u{n:Nat}(args:List V)(μ:Mu):gC.call n 5 args μ=d7r args μ:=rfl
theorem e1p{i:Nat}{a:X}{x:List Nat}{l:List (List Nat×Int)}{k:Int}(h1:ev Γ n a ρ μ=some (.str x,μ))(h2:Γ.dic i=some l)(h3:l.lookup x=some k):ev Γ (n+1) (.subG i a) ρ μ=some (.int k,μ):=by
 simp only [c2x,c3p,c4a,b9i,c2n,b9c,b8n,b9f,b8y,b1k,b8h,b1g,b0y,b0n,b1q,a8j,b0w,b8q,h1,h2,h3,Option.map_some]
theorem a7d(a:Nat){b:Nat}(hb:b≠0):a0x .Mod (.int (a:Int)) (.int (b:Int))=some (.int ((a%b:Nat):Int)):=by
 have h1:((b:Int) != 0)=true:=by simpa using hb
 simp only [b0r,a7q,a8l,b1m,b2x,b3b,b1l,b0u,a9a,a9c,a7p,b1e,a9h,b1s,b3i,h1,if_true,c4x]
theorem b3h(a:Nat){b:Nat}(hb:b≠0)(hs:b<2^60):a0x .FloorDiv (.int (a:Int)) (.int (b:Int))=some (.int ((a / b:Nat):Int)):=by
 have h1:((b:Int) != 0)=true:=by simpa using hb
 have h2:small (b:Int)=true:=by simpa [small]using hs
 simp only [b0r,a7q,a8l,b1m,b2x,b3b,b1l,b0u,a9a,a9c,a7p,b1e,a9h,b1s,b3i,h1,h2,Bool.and_self,if_true,d3s]
end
end
section
open Float64 (add sub mul div divmod cmp isZero)
section
variable{μ μ':Mu}{N:Nat}{ρ:Rho}{Γ:G}{n:Nat}
theorem d1x(a:Nat):a0x .Mult (.int 256) (.int (a:Int))=some (.int (256 * (a:Int))):=rfl
theorem e8f(a:Nat):a0x .Add (.int 1) (.int (a:Int))=some (.int ((1+a:Nat):Int)):=by
 simp only [b0r,a7q,a8l,b1m,b2x,b3b,b1l,b0u,a9a,a9c,a7p,b1e,a9h,b1s,b3i];rfl
noncomputable def c6x(w:List Nat)(wh paint turn:Nat)(h:UInt64)(sh lv:Nat):Rho:=[(82,.str w),(141,.int wh),(96,.int paint),(91,.int turn),(65,.flt h),(97,.int sh),(98,.int lv)]
theorem c9k{w:List Nat}{num wh paint turn:Nat}{h:UInt64}(hw:toks.lookup w=some (num:Int))(h0:wh≠0)(q0:qO num wh=some h) :
  a0d gC (N+10) (.unpack [65,97,98] (.tup [(.bin .Div (.subG 27 (.loc 82)) (.loc 141)),(.bin .Add (.cst (.int 1)) (.bin .Mod (.loc 96) (.cst (.int 4)))),(.bin .Add (.cst (.int 1)) (.bin .Mod (.bin .FloorDiv (.loc 96) (.cst (.int 4))) (.cst (.int 3))))])) [(82,.str w),(141,.int wh),(96,.int paint),(91,.int turn)] μ
  = some (.next,c6x w wh paint turn h (1+paint%4) (1+paint / 4%3),μ):=by
 refine(b6s (a:=.flt h) (b:=.int (1+paint%4:Nat)) (c:=.int (1+paint / 4%3:Nat)) (μ':=μ) ?_).trans (by rfl);refine a7r (evn ?_ (evn ?_ (a1q ?_))) (by show 3<=big;decide)
 ·exact evb (e1p (evl rfl) rfl hw) (evl rfl) (b_q (a:=num) (b:=wh) h0 q0)
 ·exact evb evc (evb (evl rfl) evc (a7d paint (b:=4) (by decide))) (e8f _)
 ·exact evb evc (evb (evb (evl rfl) evc (b3h paint (b:=4) (by decide) (by decide))) evc (a7d (paint / 4) (b:=3) (by decide))) (e8f _)
theorem d1o{w:List Nat}{wh paint turn sh lv:Nat}{h s l:UInt64}{c t:C3}(he:turn%2=0)(qs:qO sh 4=some s)(ql:qO lv 4=some l)(h1:a7l h s l=some c)(h2:a7m c.1 c.2.1 c.2.2=some t)(ok:a2m μ=true) :
  a0d gC (N+40) (.ite (.cmp .Eq (.bin .Mod (.loc 91) (.cst (.int 2))) (.cst (.int 0))) [.assign 99 (.call 68 [(.loc 65),(.bin .Div (.loc 97) (.cst (.int 4))),(.bin .Div (.loc 98) (.cst (.int 4)))]),
  .unpack [100,101] (.tup [(.call 66 [(.sub (.loc 99) (.cst (.int 0))),(.sub (.loc 99) (.cst (.int 1))),(.sub (.loc 99) (.cst (.int 2)))]),(.lst [(.bin .Mult (.cst (.int 256)) (.loc 97)),(.bin .Mult (.cst (.int 256)) (.loc 98))])])] [.assign 99 (.call 61 [(.loc 65),(.bin .Div (.loc 98) (.cst (.int 4))),(.bin .Div (.loc 97) (.cst (.int 4)))]),
  .unpack [100,101] (.tup [(.call 47 [(.sub (.loc 99) (.cst (.int 0))),(.sub (.loc 99) (.cst (.int 1))),(.sub (.loc 99) (.cst (.int 2)))]),(.lst [(.bin .Mult (.cst (.int 256)) (.loc 98)),(.bin .Mult (.cst (.int 256)) (.loc 97))])])]) (c6x w wh paint turn h sh lv) μ
  = some (.next,c6x w wh paint turn h sh lv++[(99,vC c),(100,vC t),(101,.lst [.int (256 * (sh:Int)),.int (256 * (lv:Int))])],μ):=by
 have hc:ev gC (N+40) (.cmp .Eq (.bin .Mod (.loc 91) (.cst (.int 2))) (.cst (.int 0))) (c6x w wh paint turn h sh lv) μ=some (.bool true,μ):=by
  refine a0i (evb (evl rfl) evc (a7d turn (b:=2) (by decide))) evc ?_;rw [he];rfl
 refine(a0r (bv:=true) hc rfl).trans ?_;rw [if_pos rfl];have e1:ev gC (N+39) (.call 68 [(.loc 65),(.bin .Div (.loc 97) (.cst (.int 4))),(.bin .Div (.loc 98) (.cst (.int 4)))]) (c6x w wh paint turn h sh lv) μ=some (vC c,μ):=by
  refine(a0k (vs:=[.flt h,.flt s,.flt l]) (μ₁:=μ) (evn (evl rfl) (evn (evb (evl rfl) evc (b_q (a:=sh) (b:=4) (by decide) qs)) (a1q (evb (evl rfl) evc (b_q (a:=lv) (b:=4) (by decide) ql)))))).trans ?_;rw [e2n];exact b7q (N:=N+18) h1 ok
 rw [a0a (a0c e1)];refine(a0a (a2c (a:=vC t) (b:=.lst [.int (256 * (sh:Int)),.int (256 * (lv:Int))]) (μ':=μ) ?_)).trans (by rfl);refine a7r (evn ?_ (a1q ?_)) (by show 2<=big;decide)
 ·refine(a0k (vs:=[.flt c.1,.flt c.2.1,.flt c.2.2]) (μ₁:=μ) (evn (a4o (evl rfl) evc rfl) (evn (a4o (evl rfl) evc rfl) (a1q (a4o (evl rfl) evc rfl))))).trans ?_
  rw [e1c];exact b9l (N:=N+17) h2 ok
 ·exact a7b (evn (evb evc (evl rfl) (d1x sh)) (a1q (evb evc (evl rfl) (d1x lv)))) (by show 2<=big;decide)
theorem d5s{w:List Nat}{wh paint turn sh lv:Nat}{h s l:UInt64}{t:C3}(he:turn%2=1)(qs:qO sh 4=some s)(ql:qO lv 4=some l)(h2:a7o (a0s th3 h l s).1 (a0s th3 h l s).2.1 (a0s th3 h l s).2.2=some t)(ok:a2m μ=true) :
  a0d gC (N+40) (.ite (.cmp .Eq (.bin .Mod (.loc 91) (.cst (.int 2))) (.cst (.int 0))) [.assign 99 (.call 68 [(.loc 65),(.bin .Div (.loc 97) (.cst (.int 4))),(.bin .Div (.loc 98) (.cst (.int 4)))]),
  .unpack [100,101] (.tup [(.call 66 [(.sub (.loc 99) (.cst (.int 0))),(.sub (.loc 99) (.cst (.int 1))),(.sub (.loc 99) (.cst (.int 2)))]),(.lst [(.bin .Mult (.cst (.int 256)) (.loc 97)),(.bin .Mult (.cst (.int 256)) (.loc 98))])])] [.assign 99 (.call 61 [(.loc 65),(.bin .Div (.loc 98) (.cst (.int 4))),(.bin .Div (.loc 97) (.cst (.int 4)))]),
  .unpack [100,101] (.tup [(.call 47 [(.sub (.loc 99) (.cst (.int 0))),(.sub (.loc 99) (.cst (.int 1))),(.sub (.loc 99) (.cst (.int 2)))]),(.lst [(.bin .Mult (.cst (.int 256)) (.loc 98)),(.bin .Mult (.cst (.int 256)) (.loc 97))])])]) (c6x w wh paint turn h sh lv) μ
  = some (.next,c6x w wh paint turn h sh lv++[(99,vC (a0s th3 h l s)),(100,vC t),(101,.lst [.int (256 * (lv:Int)),.int (256 * (sh:Int))])],μ):=by
 have hc:ev gC (N+40) (.cmp .Eq (.bin .Mod (.loc 91) (.cst (.int 2))) (.cst (.int 0))) (c6x w wh paint turn h sh lv) μ=some (.bool false,μ):=by
  refine a0i (evb (evl rfl) evc (a7d turn (b:=2) (by decide))) evc ?_;rw [he];rfl
 refine(a0r (bv:=false) hc rfl).trans ?_;rw [if_neg (by decide)];have e1:ev gC (N+39) (.call 61 [(.loc 65),(.bin .Div (.loc 98) (.cst (.int 4))),(.bin .Div (.loc 97) (.cst (.int 4)))]) (c6x w wh paint turn h sh lv) μ=some (vC (a0s th3 h l s),μ):=by
  refine(a0k (vs:=[.flt h,.flt l,.flt s]) (μ₁:=μ) (evn (evl rfl) (evn (evb (evl rfl) evc (b_q (a:=lv) (b:=4) (by decide) ql)) (a1q (evb (evl rfl) evc (b_q (a:=sh) (b:=4) (by decide) qs)))))).trans ?_;rw [e0g];exact b7u (N:=N+8) ok
 rw [a0a (a0c e1)];refine(a0a (a2c (a:=vC t) (b:=.lst [.int (256 * (lv:Int)),.int (256 * (sh:Int))]) (μ':=μ) ?_)).trans (by rfl);refine a7r (evn ?_ (a1q ?_)) (by show 2<=big;decide)
 ·refine(a0k (vs:=[.flt (a0s th3 h l s).1,.flt (a0s th3 h l s).2.1,.flt (a0s th3 h l s).2.2]) (μ₁:=μ) (evn (a4o (evl rfl) evc rfl) (evn (a4o (evl rfl) evc rfl) (a1q (a4o (evl rfl) evc rfl))))).trans ?_
  rw [e2z];exact b9d (N:=N+17) h2 ok
 ·exact a7b (evn (evb evc (evl rfl) (d1x lv)) (a1q (evb evc (evl rfl) (d1x sh)))) (by show 2<=big;decide)
end
end
section
open Float64 (add sub mul div divmod cmp isZero)
section
variable{μ μ':Mu}{N:Nat}{ρ:Rho}{Γ:G}{n:Nat}
theorem d2i(l:List V)(a k:Nat):((List.range k).map (a+·)).filterMap (l[·]?)=(l.drop a).take k:=by
 have:=pick_run l.toArray a k;simpa using this
theorem b2w{l:List V}(k:Nat)(hz:l.length<=big):a1y (.lst l) (some (k:Int)) .none .none=some (.lst (l.drop k)):=by
 rw [b1v hz,sliceBounds_plain];simp only [Option.elim,clipAt_nat,sliceRange_one,d2i];rw [kmk_drop_min];rw [List.take_of_length_le (by simp;omega)]
theorem a6w{l:List V}(k:Nat)(hz:l.length<=big):a1y (.lst l) .none (some (k:Int)) .none=some (.lst (l.take k)):=by
 rw [b1v hz,sliceBounds_plain];simp only [Option.elim,clipAt_nat,← Int.ofNat_zero];rw [show((0:Nat):Int)=((0:Nat):Int)from rfl,sliceRange_one,d2i];simp only [List.drop_zero,Nat.sub_zero];rw [kmk_take_min]
theorem b6q{a x:X}{l:List V}{k:Int}{v:V}(h:ev Γ n a ρ μ=some (.lst l,μ))(hc:ev Γ n x ρ μ=some (.int k,μ))(hs:a1y (.lst l) (some k) .none .none=some v):ev Γ (n+1) (.slc a (some x) .none .none) ρ μ=some (v,μ):=by
 simp only [c2x,c3p,c4a,b9i,c2n,b9c,b8n,b9f,b8y,b1k,b8h,b1g,b0y,b0n,b1q,a8j,b0w,b8q,h,evo,hc,b5k,e6z,e6g,e4y,e7v,e4b,e7n,d9x,e2v,hs,Option.map_some]
theorem a7u{a x:X}{l:List V}{k:Int}{v:V}(h:ev Γ n a ρ μ=some (.lst l,μ))(hc:ev Γ n x ρ μ=some (.int k,μ))(hs:a1y (.lst l) .none (some k) .none=some v):ev Γ (n+1) (.slc a .none (some x) .none) ρ μ=some (v,μ):=by
 simp only [c2x,c3p,c4a,b9i,c2n,b9c,b8n,b9f,b8y,b1k,b8h,b1g,b0y,b0n,b1q,a8j,b0w,b8q,h,evo,hc,b5k,e6z,e6g,e4y,e7v,e4b,e7n,d9x,e2v,hs,Option.map_some]
theorem d7u{o1 o2:CmpOp}{a b c:X}{u v w:V}{r:Bool}(h1:ev Γ n a ρ μ=some (u,μ))(h2:ev Γ n b ρ μ=some (v,μ))(h3:a0z o1 (a1n μ u) (a1n μ v)=some true)(h4:ev Γ n c ρ μ=some (w,μ))(h5:a0z o2 (a1n μ v) (a1n μ w)=some r):ev Γ (n+1) (.cmp2 o1 o2 a b c) ρ μ=some (.bool r,μ):=by
 simp only [c2x,c3p,c4a,b9i,c2n,b9c,b8n,b9f,b8y,b1k,b8h,b1g,b0y,b0n,b1q,a8j,b0w,b8q,e3i,h1,h2,h3,h4,h5,Option.map_some]
theorem b6x{x:X}{k:Int}(h:ev Γ n x ρ μ=some (.int k,μ)):ev Γ (n+1) (.neg x) ρ μ=some (.int (-k),μ):=by
 simp only [c2x,c3p,c4a,b9i,c2n,b9c,b8n,b9f,b8y,b1k,b8h,b1g,b0y,b0n,b1q,a8j,b0w,b8q,h]
theorem f0o{α:Type}{c:Prop}[Decidable c]{a b r:α}(h:(if c then a else b)=r)(hc:c):a=r:=(if_pos hc).symm.trans h
theorem f0r{α:Type}{c:Prop}[Decidable c]{a b r:α}(h:(if c then a else b)=r)(hc:¬c):b=r:=(if_neg hc).symm.trans h
theorem e7s {n:Nat} (t:C3):gC.call n 36 [vC t,.typ "tuple"] μ=some (.bool true,μ):=rfl
theorem d6c{x:X}{b:Bool}(h:ev Γ n x ρ μ=some (.bool b,μ)):ev Γ (n+1) (.not x) ρ μ=some (.bool (!b),μ):=by
 show(match (generalizing:=false) ev Γ n x ρ μ with | some (v,μ)=>(a3a (a1n μ v)).map fun b=>(V.bool (!b),μ) | .none=>.none)=_
 rw [h];rfl
theorem d7x(k:Nat)(x:UInt64)(hk:k<2^60):a0x .Mult (.int (k:Int)) (.flt x)=some (.flt (mul (Float64.ofInt k) x)):=by
 rw [a7p,show small (k:Int)=true from decide_eq_true hk];rfl
theorem d8x(x:UInt64):a0x .Add (.flt x) (.int 1)=some (.flt (add x (Float64.ofInt 1))):=rfl
theorem e3x(z:Int):a0x .FloorDiv (.int z) (.int 2)=some (.int (z.fdiv 2)):=rfl
theorem c1i{a c:X}{x:UInt64}{k:Nat}{z:Int}(h:a8i k x=some z)(hk:k<2^60)(ha:ev gC (N+7) a ρ μ=some (.int (k:Int),μ))(hc:ev gC (N+7) c ρ μ=some (.flt x,μ)):ev gC (N+11) (.bin .FloorDiv (.call 5 [(.bin .Add (.bin .Mult a c) (.cst (.int 1)))]) (.cst (.int 2))) ρ μ=some (.int z,μ):=by
 refine ifS h fun hf h=>?_;obtain rfl:=Option.some.inj h;exact evb ((a0k (vs:=[.flt (c1x k x)]) (a1q (evb (evb ha hc (d7x k x hk)) evc (d8x _)))).trans ((e0u _ _).trans (e8j _ _ hf))) evc (e3x _)
theorem e3p(a b:Int):a0z .NotEq (.lst [.int a,.int b]) (.lst [.int a,.int b])=some false:=by
 have:=encInts.cmpNe (by decide) (a:=[a,b]) (b:=[a,b]) (fun zz zz=>trivial) (fun zz zz=>trivial);simpa using this
theorem c5m{x:UInt64}{z:Int}(h:a8i 2048 x=some z)(ρ:Rho):ev gC (N+11) (.bin .FloorDiv (.call 5 [(.bin .Add (.bin .Mult (.cst (.int 2048)) (.loc 103)) (.cst (.int 1)))]) (.cst (.int 2))) (put 103 (.flt x) ρ) μ=some (.int z,μ):=
 c1i h (by decide) evc (evl (by rw [a0b,if_pos rfl]))
theorem d4p{t:C3}{d1 d2:Int}{rest:List Mine.S}{q:Option (F×Rho×Mu)}(hl:e0c t.1=true)(h1:a8i 2048 t.2.1=some d1)(h2:a8i 2048 t.2.2=some d2)(r0:ρ.lookup 100=some (vC t))(r1:ρ.lookup 101=some (.lst [.int d1,.int d2]))
  (k:a3q (a0d gC (N+20)) rest ρ μ=q):a3q (a0d gC (N+20)) (e9d::rest) ρ μ=q:=by
 have a:ev gC (N+19) (.not (.call 36 [(.loc 100),(.glb 35)])) ρ μ=some (.bool false,μ):=d6c (b:=true) ((a0k (vs:=[vC t,.typ "tuple"]) (evn (evl r0) (a1q rfl))).trans (e7s t))
 have t0:ev gC (N+17) (.sub (.loc 100) (.cst (.int 0))) ρ μ=some (.flt t.1,μ):=a4o (evl r0) evc rfl;unfold e0c at hl;rw [Bool.and_eq_true]at hl;have b:ev gC (N+19) (.not (.cmp2 .LtE .LtE (.cst (.int 0)) (.sub (.loc 100) (.cst (.int 0))) (.cst (.int 1)))) ρ μ=some (.bool false,μ):=
  d6c (b:=true) (d7u evc t0 (congrArg some hl.1) evc (congrArg some hl.2))
 have c:ev gC (N+19) (.cmp .NotEq (.comp (.bin .FloorDiv (.call 5 [(.bin .Add (.bin .Mult (.cst (.int 2048)) (.loc 103)) (.cst (.int 1)))]) (.cst (.int 2))) (.one 103) (.slc (.loc 100) (some (.cst (.int 1))) .none .none) [] [42,103]) (.loc 101)) ρ μ=some (.bool false,μ):=by
  refine a0i (u:=.lst [.int d1,.int d2]) (a2r (vs:=[.flt t.2.1,.flt t.2.2]) ?_ (show 2<=big by decide) ?_) (evl r1) (e3p d1 d2)
  ·show(match (generalizing:=false) ev gC (N+17) (.slc (.loc 100) (some (.cst (.int 1))) .none .none) ρ μ with | some (v,μ)=>(a5a v).map (·,μ) | .none=>.none)=_
   have:ev gC (N+17) (.slc (.loc 100) (some (.cst (.int 1))) .none .none) ρ μ=some (.tup [.flt t.2.1,.flt t.2.2],μ):=by
    rw [b1g,evl r0];rfl
   rw [this];rfl
  ·show(match (generalizing:=false) ev gC (N+17) _ (put 103 (.flt t.2.1) _) μ with | .none=>Option.none | some (y,μ)=>match (match (generalizing:=false) ev gC (N+17) _ (put 103 (.flt t.2.2) (put 103 (.flt t.2.1) _)) μ with | .none=>Option.none | some (y,μ)=>some ([y],μ))with | .none=>Option.none | some (ys,μ)=>some (y::ys,μ))=_
   rw [c5m (N:=N+6) h1];dsimp only;rw [c5m (N:=N+6) h2]
 have o:ev gC (N+20) (.or [(.not (.call 36 [(.loc 100),(.glb 35)])),(.not (.cmp2 .LtE .LtE (.cst (.int 0)) (.sub (.loc 100) (.cst (.int 0))) (.cst (.int 1)))),(.cmp .NotEq (.comp (.bin .FloorDiv (.call 5 [(.bin .Add (.bin .Mult (.cst (.int 2048)) (.loc 103)) (.cst (.int 1)))]) (.cst (.int 2))) (.one 103) (.slc (.loc 100) (some (.cst (.int 1))) .none .none) [] [42,103]) (.loc 101))]) ρ μ=some (.bool false,μ):=by
  show ors (fun x μ=>ev gC (N+19) x ρ μ) _ μ=_;rw [e4a,a];show ors (fun x μ=>ev gC (N+19) x ρ μ) _ μ=_;rw [e4a,b];exact c
 exact a8m o rfl k
theorem c8j{t:C3}{z:Int}{m wh:Nat}(h0:wh≠0)(hw:wh<1000)(hf:a8i (32 * wh) t.1=some z)(hz:z.fmod 16=0)(hm:(z.fdiv 16).fmod wh=(m:Int))(r0:ρ.lookup 100=some (vC t))(r1:ρ.lookup 141=some (.int (wh:Int))) :
  ∃ ρ',a3q (a0d gC (N+20)) c0s ρ μ=some (.ret (.int m),ρ',μ):=by
 have b32:a0x .Mult (.int 32) (.int (wh:Int))=some (.int ((32 * wh:Nat):Int)):=by rw [b0r,if_pos (by decide)];rfl
 have l102:(put 102 (.int z) ρ).lookup 102=some (.int z):=by rw [a0b,if_pos rfl]
 have l141:(put 102 (.int z) ρ).lookup 141=some (.int (wh:Int)):=by rw [a0b,if_neg (by decide)];exact r1
 refine⟨put 102 (.int z) ρ,a3u (c1i (N:=N+9) (k:=32 * wh) hf (by omega) (evb evc (evl r1) b32) (a4o (evl r0) evc rfl)) (a7i ?_)⟩;refine(b2r (n:=N+19) (bv:=true) (a0i (u:=.int 0) (evb (w:=.int 0) (evl l102) evc ?_) evc rfl) rfl).trans (evb (u:=.int (z.fdiv 16)) (evb (evl l102) evc rfl) (evl l141) ?_)
 ·show a0x .Mod (.int z) (.int 16)=_
  rw [a8l,if_pos (by decide),hz]
 ·show a0x .Mod (.int (z.fdiv 16)) (.int (wh:Int))=_
  rw [a8l,if_pos (b9v h0),hm]
theorem c2h{w:List Nat}{num wh paint turn:Nat}(hw:toks.lookup w=some (num:Int))(h0:wh≠0)(hk:wh<1000)(hp:b5t num wh (1+paint%4) (1+paint / 4%3) (turn%2==0)=true)(ok:a2m μ=true) :
  cF gC a5k a3o (N+60) [.str w,.int wh,.int paint,.int turn] μ=some (.int (num%wh:Nat),μ):=by
 have key:∃ ρ',exec gC (N+59) a3o [(82,.str w),(141,.int wh),(96,.int paint),(91,.int turn)] μ=some (.ret (.int (num%wh:Nat)),ρ',μ):=by
   unfold b5t at hp;induction ht:d9v num wh (1+paint%4) (1+paint / 4%3) (turn%2==0)using Option.casesOn with
   | none=>rw [ht]at hp;exact nt hp
   | some t=>
    rw [ht]at hp;have hl:=a0e (a0e (a0e hp));have hz:=a0n (a0e (a0e hp));have h1:=a0n (a0e hp);have h2:=a0n hp;clear hp;induction hz0:a8i (32 * wh) t.1 using Option.casesOn with
    | none=>rw [hz0]at hz;exact nt hz
    | some z=>
     rw [hz0]at hz;have hza:=eq_of_beq (a0e hz);have hzb:=eq_of_beq (a0n hz);refine a0h ht fun h q0 ht=>a0h ht fun s qs ht=>a0h ht fun l ql ht=>?_;have hd:=c9k (N:=N+48) (paint:=paint) (turn:=turn) (μ:=μ) hw h0 q0;rcases Nat.mod_two_eq_zero_or_one turn with he | he
     ·rw [he]at ht h1 h2
      refine a0h (f0o ht rfl) fun c hc ht=>?_;have m:=d1o (N:=N+18) (w:=w) (wh:=wh) (paint:=paint) he qs ql hc ht ok;obtain⟨ρ',e⟩:=c8j (N:=N+38) (μ:=μ) (ρ:=c6x w wh paint turn h (1+paint%4) (1+paint / 4%3)++[(99,vC c),(100,vC t),(101,.lst [.int (256 * ((1+paint%4:Nat):Int)),.int (256 * ((1+paint / 4%3:Nat):Int))])]) h0 hk hz0 hza hzb rfl rfl;exact⟨ρ',(a0a hd).trans ((a0a m).trans (d4p (N:=N+38) hl (eq_of_beq h1) (eq_of_beq h2) rfl rfl e))⟩
     ·rw [he]at ht h1 h2
      have ht:=f0r ht (by decide);have m:=d5s (N:=N+18) (w:=w) (wh:=wh) (paint:=paint) he qs ql ht ok;obtain⟨ρ',e⟩:=c8j (N:=N+38) (μ:=μ) (ρ:=c6x w wh paint turn h (1+paint%4) (1+paint / 4%3)++[(99,vC (a0s th3 h l s)),(100,vC t),(101,.lst [.int (256 * ((1+paint / 4%3:Nat):Int)),.int (256 * ((1+paint%4:Nat):Int))])]) h0 hk hz0 hza hzb rfl rfl;exact⟨ρ',(a0a hd).trans ((a0a m).trans (d4p (N:=N+38) hl (eq_of_beq h1) (eq_of_beq h2) rfl rfl e))⟩
 obtain⟨ρ',key⟩:=key;exact a1j (n:=N+59) (v:=.int (num%wh:Nat)) (ρ':=ρ') rfl ok key rfl
end
end
section
theorem a7s{c:Nat}{t u:List Nat}(h:u <:+ t):u <:+ c::t:=h.trans (List.suffix_cons c t)
theorem c1l{p:Nat->Bool}(hp:p 92=false)(t tok:List Nat)(n:Int):(a5r p t tok n).2.1 <:+ t:=by
 refine b0d hp (P:=fun t tok n=>(a5r p t tok n).2.1 <:+ t) (fun zz zz=>List.suffix_refl _) ?_ ?_ ?_ ?_ t.length t tok n (Nat.le_refl _)<;>clear t tok n
 ·intro c t tok n hc;rw [a4h hc];exact List.suffix_cons _ _
 ·intro tok n;rw [b0a hp];exact List.suffix_cons _ _
 ·intro d t tok n ih;rw [b1f hp];exact a7s (a7s ih)
 ·intro c t tok n hc h92 ih;rw [a6n hc h92];exact a7s ih
theorem a8a:∀(t:List Nat) (n:Int),(a0j t n).2.1 <:+ t:=by
 intro z_;induction z_ with
 | nil=>
  intro n;exact List.suffix_refl _
 | cons c t ih=>
  intro n;induction hw:a9x c using Bool.casesOn with
  | true=>rw [a8g hw];exact a7s (ih _)
  | false=>
   by_cases h34:c=34
   ·subst h34;rw [a6l];exact a7s (c1l rfl _ _ _)
   ·rw [a8h hw h34];exact c1l rfl _ _ _
noncomputable def stQ(t:List Nat)(n:Int)(q:List (List Nat))(R:List (List V)):Mu:=
 [.obj [2] (-5),.list (chars t),.obj [] (-6),.obj [1,2] (-3),.list (q.map .str),.obj [4,3] n]++R.map .list
noncomputable def x0:LxIx:=⟨5,4,3,1,2⟩
section
variable{t:List Nat}{n:Int}{q:List (List Nat)}{R:List (List V)}
theorem e6i:x0.Ok (stQ t n q R):=by
 constructor<;>first | rfl | (simp [x0,stQ];done) | decide
theorem c5d:(stQ t n q R).length=R.length+6:=by simp [stQ]
theorem a8b(h:∀ l∈R,a0v l=true):a2m (stQ t n q R)=true:=by
 unfold a2m stQ;rw [List.all_append,Bool.and_eq_true];constructor
 ·simp [okM,a4g,a1d]
 ·rw [List.all_eq_true]
  intro m hm;obtain⟨l,hl,rfl⟩:=List.mem_map.mp hm;exact h l hl
theorem c7e(l:List V):stQ t n q R++[.list l]=stQ t n q (R++[l]):=by simp [stQ]
theorem d0o(hR:∀ l∈R,a0v l=true)(hb:t.length<big)(hn:1<=n)(hc:∀ c∈t,c<1114112):Tok (stQ t n [] R) 5 (a0j t n).1 (stQ (a0j t n).2.1 (a0j t n).2.2 [] R):=by
 refine⟨?_,fun N=>?_⟩
 ·show decide (1<=n)=true
  exact decide_eq_true hn
 ·have:=b8v (th:=th3) (N:=N) (x:=x0) (μ:=stQ t n [] R) (t:=t) (n:=n) e6i (a8b hR) rfl hb hn hc
  exact this
theorem b7d(hR:∀ l∈R,a0v l=true)(hb:t.length<big)(hn:1<=n)(hc:∀ c∈t,c<1114112):d9y 5 (stQ t n [] R) (a0j t n).1 (stQ (a0j t n).2.1 (a0j t n).2.2 [] R):=by
 refine⟨by rw [c5d,c5d],a8b hR,fun l=>?_⟩;rw [c7e,c7e];exact d0o (fun r hr=>by
  rcases List.mem_append.mp hr with h | h
  ·exact hR r h
  ·rw [List.mem_singleton.mp h];exact a1d l) hb hn hc
theorem b2s:∀(l:List (List Nat×Nat)) (r:List (List Nat×Nat)) (t:List Nat) (n:Int),(∀ p∈l,b0s p.1)->b0t (l++r) t->t.length<big->1<=n->(∀ c∈t,c<1114112) →
  ∃ t' n',b0t r t'/\t'.length<big/\1<=n'/\(∀ c∈t',c<1114112)/\n'+lns t'=n+lns t/\∀ R:List (List V),(∀ l∈R,a0v l=true)->Chain 5 (stQ t n [] R) (l.map (·.1)) (stQ t' n' [] R):=by
 intro z_;induction z_ with
 | nil=>
  intro r t n _ hr hb hn hc;exact⟨t,n,hr,hb,hn,hc,rfl,fun R zz=>.nil _⟩
 | cons z1_ l ih=>
  obtain⟨w,d⟩:=z1_;intro r t n hg hr hb hn hc;obtain⟨h1,h2⟩:=b5x (hg (w,d) (by simp)) hr n;have hs:=a8a t n;have hl:=a4a t n;have hle:=hs.length_le;have hc2:∀ c∈(a0j t n).2.1,c<1114112:=fun c h=>hc c (hs.subset h);have hn2:1<=(a0j t n).2.2:=by
   have:lns (a0j t n).2.1<=lns t:=by unfold lns;exact_mod_cast hs.sublist.count_le _
   omega
  obtain⟨t',n',a1,a2,a3,a4,a5,a6⟩:=ih r (a0j t n).2.1 (a0j t n).2.2 (fun p hp=>hg p (by simp [hp])) h2 (by omega) hn2 hc2;refine⟨t',n',a1,a2,a3,a4,by omega,fun R hR=>?_⟩;have s:=b7d hR hb hn hc (R:=R);rw [h1]at s;exact .cons s (a6 R hR)
end
end
end Mine
end
section
set_option maxRecDepth 100000
set_option exponentiation.threshold 3000
namespace Mine
section
open PySem.Float64
noncomputable def bN(c:Bool)(a b:Nat):Nat:=@Bool.rec (fun zz=>Nat) b a c
noncomputable def bB(c:Bool)(a b:Bool):Bool:=@Bool.rec (fun zz=>Bool) b a c
theorem a5l{c b:Bool}(h:bB c b false=true):c=true/\b=true:=by cases c<;>first | exact nt h | exact⟨rfl,h⟩
noncomputable def lgB(j:Nat):Nat->Nat->Nat:=@Nat.rec (fun zz=>Nat->Nat->Nat) (fun zz a=>a) (fun j ih T a=>bN (Nat.ble (Nat.pow 2 (Nat.pow 2 j)) T) (ih (Nat.shiftRight T (Nat.pow 2 j)) (Nat.add a (Nat.pow 2 j))) (ih T a)) j
noncomputable def lgX(T:Nat):Nat:=
 bN (Nat.ble (Nat.pow 2 1073) T) (bN (Nat.ble (Nat.pow 2 1074) T) (bN (Nat.ble (Nat.pow 2 1075) T) (bN (Nat.ble (Nat.pow 2 1107) T) (Nat.log2 T) (lgB 5 (Nat.shiftRight T 1075) 1075)) 1074) 1073)
  (bN (Nat.ble (Nat.pow 2 1072) T) 1072 (bN (Nat.ble (Nat.pow 2 1071) T) 1071 (bN (Nat.ble (Nat.pow 2 818) T) (lgB 8 (Nat.shiftRight T 818) 818) (Nat.log2 T))))
theorem a1x(k:Nat):0<2^k:=Nat.pow_pos (by decide)
theorem b7l(a b T x y:Nat):bN (Nat.ble (Nat.pow 2 a) T) x y=if 2^a<=T then x else y:=by
 by_cases h:2^a<=T
 ·rw [if_pos h,show Nat.ble (Nat.pow 2 a) T=true from Nat.ble_eq.mpr h];rfl
 ·rw [if_neg h,show Nat.ble (Nat.pow 2 a) T=false from Bool.eq_false_iff.mpr fun q=>h (Nat.ble_eq.mp q)];rfl
theorem d4r{n d K:Nat}(hd:0<d)(h1:2^K * d<=n)(h2:n<2^(K+1) * d):Nat.log2 (n / d)=K:=by
 have a:2^K<=n / d:=(Nat.le_div_iff_mul_le hd).mpr h1;have hne:n / d≠0:=Nat.ne_of_gt (Nat.lt_of_lt_of_le (a1x K) a);exact Nat.le_antisymm (Nat.le_of_lt_succ ((Nat.log2_lt hne).mpr ((Nat.div_lt_iff_lt_mul hd).mpr h2))) ((Nat.le_log2 hne).mpr a)
theorem c0j{T K:Nat}(h1:2^K<=T)(h2:¬2^(K+1)<=T):K=Nat.log2 T:=by
 have:=d4r (n:=T) (d:=1) (K:=K) (by decide) (by rw [Nat.mul_one];exact h1) (by rw [Nat.mul_one];exact Nat.lt_of_not_le h2);rw [Nat.div_one]at this;exact this.symm
theorem b7i{T k:Nat}(h:2^k<=T):k+Nat.log2 (T / 2^k)=Nat.log2 T:=by
 have hT:T≠0:=Nat.ne_of_gt (Nat.lt_of_lt_of_le (a1x k) h);have hk:=(Nat.le_log2 hT).mpr h;obtain⟨j,hj⟩:=Nat.le.dest hk;rw [← hj,d4r (K:=j) (a1x k)]
 ·rw [← Nat.pow_add,Nat.add_comm,hj];exact(Nat.le_log2 hT).mp (Nat.le_refl _)
 ·rw [← Nat.pow_add,Nat.add_right_comm,Nat.add_comm j,hj];exact(Nat.log2_lt hT).mp (Nat.lt_succ_self _)
theorem e1i(j:Nat):∀ T a:Nat,0<T->T<2^2^j->lgB j T a=a+Nat.log2 T:=by
 induction j with
 | zero=>
  intro T a h0 h1;rw [show T=1 from Nat.le_antisymm (Nat.le_of_lt_succ h1) h0];rfl
 | succ j ih=>
  intro T a h0 h1;refine(b7l (2^j) 0 T _ _).trans ?_;by_cases h:2^2^j<=T
  ·rw [if_pos h]
   have e:Nat.shiftRight T (Nat.pow 2 j)=T / 2^2^j:=Nat.shiftRight_eq_div_pow T (2^j);refine(ih _ _ ?_ ?_).trans ?_
   ·rw [e];exact Nat.div_pos h (a1x _)
   ·rw [e];refine Nat.div_lt_of_lt_mul ?_
    rw [← Nat.pow_add,← Nat.two_mul,Nat.mul_comm,← Nat.pow_succ];exact h1
   ·rw [e]
    exact(Nat.add_assoc a (2^j) _).trans (congrArg (a+·) (b7i h))
  ·rw [if_neg h]
   exact ih T a h0 (Nat.lt_of_not_le h)
theorem d4u(k j:Nat){T:Nat}(h0:2^k<=T)(h1:¬2^(k+2^j)<=T):lgB j (Nat.shiftRight T k) k=Nat.log2 T:=by
 have e:Nat.shiftRight T k=T / 2^k:=Nat.shiftRight_eq_div_pow T k;rw [e,e1i j _ _ (Nat.div_pos h0 (a1x _)) (Nat.div_lt_of_lt_mul (by rw [← Nat.pow_add];exact Nat.lt_of_not_le h1))];exact b7i h0
theorem e0z(T:Nat):lgX T=Nat.log2 T:=by
 unfold lgX;rw [b7l 1073 0,b7l 1074 0,b7l 1075 0,b7l 1107 0,b7l 1072 0,b7l 1071 0,b7l 818 0];by_cases h3:2^1073<=T
 ·rw [if_pos h3]
  by_cases h4:2^1074<=T
  ·rw [if_pos h4]
   by_cases h5:2^1075<=T
   ·rw [if_pos h5]
    by_cases h6:2^1107<=T
    ·rw [if_pos h6]
    ·rw [if_neg h6];exact d4u 1075 5 h5 h6
   ·rw [if_neg h5];exact c0j h4 h5
  ·rw [if_neg h4];exact c0j h3 h4
 ·rw [if_neg h3]
  by_cases h2:2^1072<=T
  ·rw [if_pos h2];exact c0j h2 h3
  ·rw [if_neg h2]
   by_cases h1:2^1071<=T
   ·rw [if_pos h1];exact c0j h1 h2
   ·rw [if_neg h1]
    by_cases h0:2^818<=T
    ·rw [if_pos h0];exact d4u 818 8 h0 fun q=>h1 (Nat.le_trans (Nat.pow_le_pow_right (by decide) (by decide)) q)
    ·rw [if_neg h0]
noncomputable def e1q(N D:Nat):Nat:=Nat.sub (lgX (Nat.div N D)) 52
noncomputable def hfe(N D:Nat):Nat:=bN (Nat.ble (Nat.add (Nat.mul 2 (Nat.mod N D)) (Nat.mod (Nat.div N D) 2)) D) (Nat.div N D) (Nat.succ (Nat.div N D))
noncomputable def e5i(N D e:Nat):Nat:=Nat.shiftLeft (hfe N (Nat.shiftLeft D e)) e
noncomputable def b2c(N D:Nat):Nat:=e5i N D (e1q N D)
theorem e2e(N D:Nat):hfe N D=halfEven N D:=by
 show bN (Nat.ble (2 * (N%D)+N / D%2) D) (N / D) (N / D+1)=if(decide (2 * (N%D)>D)||(2 * (N%D)==D&&N / D%2==1))=true then N / D+1 else N / D
 generalize N / D=q;generalize N%D=r;have hc:(decide (2 * r>D)||(2 * r==D&&q%2==1))=true↔¬2 * r+q%2<=D:=by
  rw [Bool.or_eq_true,Bool.and_eq_true,decide_eq_true_eq,beq_iff_eq,beq_iff_eq];omega
 by_cases h:2 * r+q%2<=D
 ·rw [Nat.ble_eq.mpr h,if_neg fun z=>hc.mp z h];rfl
 ·rw [show Nat.ble (2 * r+q%2) D=false from Bool.eq_false_iff.mpr fun z=>h (Nat.ble_eq.mp z),if_pos (hc.mpr h)];rfl
theorem d9h{W c b:Nat}(h:W<=c)(hb:c<b):dist W c<dist W b:=by
 unfold dist;rw [Nat.sub_eq_zero_of_le h,Nat.sub_eq_zero_of_le (Nat.le_trans h (Nat.le_of_lt hb)),Nat.zero_add,Nat.zero_add];exact Nat.sub_lt_sub_right h hb
theorem d6f{W c a:Nat}(h:c<=W)(ha:a<c):dist W c<dist W a:=by
 unfold dist;rw [Nat.sub_eq_zero_of_le h,Nat.sub_eq_zero_of_le (Nat.le_trans (Nat.le_of_lt ha) h)];exact Nat.sub_lt_sub_left (Nat.lt_of_lt_of_le ha h) ha
theorem e2k{W D t u:Nat}(hD:0<D)(hlt:t<u)(hd:dist W (D * PySem.Float64.V t)=dist W (D * PySem.Float64.V u))(h1:t%2=0)(h2:u%2=0)(h:dist W (D * PySem.Float64.V t)<=dist W (D * PySem.Float64.V (t+1))):False:=by
 have a:D * PySem.Float64.V t<D * PySem.Float64.V (t+1):=Nat.mul_lt_mul_of_pos_left (V_lt (Nat.lt_succ_self t)) hD;have b:D * PySem.Float64.V (t+1)<D * PySem.Float64.V u:=Nat.mul_lt_mul_of_pos_left (V_lt (by omega)) hD;rcases Nat.le_total W (D * PySem.Float64.V (t+1))with w | w
 ·exact Nat.lt_irrefl _ (Nat.lt_of_le_of_lt (hd▸h) (d9h w b))
 ·exact Nat.lt_irrefl _ (Nat.lt_of_le_of_lt h (d6f w a))
theorem d1i{r:UInt64}{neg:Bool}{W D:Nat}(hD:0<D)(h:Right r neg W D)(hz:b2c W D<2^2000):∃ t,r=pack neg t/\t<infMag/\PySem.Float64.V t=b2c W D/\∀ t',dist W (D * b2c W D)<=dist W (D * PySem.Float64.V t'):=by
 obtain⟨t,hr,hle,hov,hn⟩:=h;obtain⟨e,he⟩:∃ e,e=e1q W D:=⟨_,rfl⟩;have he2:e=Nat.log2 (W / D)-52:=by rw [he];exact congrArg (· - 52) (e0z (W / D))
 have hB:0<D * 2^e:=Nat.mul_pos hD (a1x e);have hsh:∀ x,Nat.shiftLeft x e=x * 2^e:=fun x=>Nat.shiftLeft_eq x e;have hX:b2c W D=halfEven W (D * 2^e) * 2^e:=by
  show e5i W D (e1q W D)=_;rw [← he];show Nat.shiftLeft (hfe W (Nat.shiftLeft D e)) e=_;rw [hsh,hsh,e2e]
 have up:W<2^53 * (D * 2^e):=by
  have h1:W / D<2^(e+53):=Nat.lt_of_lt_of_le Nat.lt_log2_self (Nat.pow_le_pow_right (by decide) (by omega));have h2:=(Nat.div_lt_iff_lt_mul hD).mp h1;rw [Nat.pow_add]at h2;rw [show 2^53 * (D * 2^e)=2^e * 2^53 * D by rw [Nat.mul_comm D,← Nat.mul_assoc,Nat.mul_comm (2^53)]];exact h2
 have lo:e=0∨2^52 * (D * 2^e)<=W:=by
  by_cases h0:e=0
  ·exact .inl h0
  ·refine .inr ?_
   have hne:W / D≠0:=fun q=>by rw [q]at he2;exact h0 he2
   have h1:2^(e+52)<=W / D:=(Nat.le_log2 hne).mp (by omega);have h2:=(Nat.le_div_iff_mul_le hD).mp h1;rw [Nat.pow_add]at h2;rw [show 2^52 * (D * 2^e)=2^e * 2^52 * D by rw [Nat.mul_comm D,← Nat.mul_assoc,Nat.mul_comm (2^52)]];exact h2
 have hmul:∀ v,dist (W * 2^e) (D * 2^e * v)=2^e * dist W (D * v):=fun v=>by
  rw [← dist_mul,Nat.mul_comm W,Nat.mul_comm D,Nat.mul_assoc]
 have near:=fun t'=>nearest_core hB rfl up lo t';have q1:halfEven W (D * 2^e)<=2^53:=Nat.le_trans (halfEven_le' _ _ hB) ((Nat.div_lt_iff_lt_mul hB).mpr up);have q2:2^52<=halfEven W (D * 2^e)∨e=0:=lo.symm.imp (fun h=>Nat.le_trans ((Nat.le_div_iff_mul_le hB).mpr h) (by unfold halfEven;dsimp only;split<;>omega)) id;have hV:=V_at q1 q2;generalize halfEven W (D * 2^e)=q at *;have hXV:b2c W D=PySem.Float64.V (e * 2^52+q):=hX.trans hV.symm;have ht:t<infMag:=by
  refine Nat.lt_of_le_of_ne hle fun q0=>?_;have h1:=hov.mp q0;have h2:2^52 * 2^e<=2^2000:=by
   rcases q2 with q2 | q2
   ·exact Nat.le_of_lt (Nat.lt_of_le_of_lt (Nat.mul_le_mul_right _ q2) (hX▸hz))
   ·rw [q2];decide +kernel
  have h3:2 * W<D * (2^2 * 2^2000):=by
   have:2 * W<2 * (2^53 * (D * 2^e)):=Nat.mul_lt_mul_of_pos_left up (by decide);refine Nat.lt_of_lt_of_le this ?_;rw [show 2 * (2^53 * (D * 2^e))=D * (2^2 * (2^52 * 2^e)) by rw [← Nat.mul_assoc 2,← Nat.mul_assoc (2^2),Nat.mul_left_comm D]];exact Nat.mul_le_mul_left _ (Nat.mul_le_mul_left _ h2)
  exact absurd (Nat.lt_of_le_of_lt h1 h3) (Nat.not_lt.mpr (Nat.mul_le_mul_left _ (by decide +kernel)))
 have near:∀ t',dist W (D * PySem.Float64.V (e * 2^52+q))<=dist W (D * PySem.Float64.V t')/\(PySem.Float64.V t'≠PySem.Float64.V (e * 2^52+q)->dist W (D * PySem.Float64.V (e * 2^52+q))=dist W (D * PySem.Float64.V t')->q%2=0):=fun t'=>by
  have:=near t';rw [hmul,hmul,← hV]at this;exact⟨Nat.le_of_mul_le_mul_left this.1 (a1x e),fun a b=>this.2 a (congrArg (2^e * ·) b)⟩
 refine⟨t,hr,ht,?_,fun t'=>hXV▸(near t').1⟩;rw [hXV];refine Classical.byContradiction fun hne=>?_;have d1:=(hn ht (e * 2^52+q)).1;have d2:=(near t).1;have dd:=Nat.le_antisymm d1 d2;have p1:=(hn ht (e * 2^52+q)).2 (Ne.symm hne) dd;have p2:=(near t).2 hne dd.symm;have p3:(e * 2^52+q)%2=0:=by omega
 rcases Nat.lt_trichotomy t (e * 2^52+q)with h | h | h
 ·exact e2k hD h dd p1 p3 (hn ht _).1
 ·exact hne (congrArg PySem.Float64.V h)
 ·exact e2k hD h dd.symm p3 p1 (near _).1
end
section
open PySem PySem.Float64
noncomputable def a3l:Nat:=Nat.pow 2 1074
theorem c6t:a3l=2^1074:=rfl
noncomputable def b7m(X Y:Nat):Nat:=b2c (Nat.add X Y) 1
noncomputable def a5p(X Y:Nat):Nat:=b2c (Nat.sub X Y) 1
noncomputable def a9f(X Y:Nat):Nat:=b2c (Nat.mul X Y) a3l
noncomputable def b3a(X Y:Nat):Nat:=b2c (Nat.mul X a3l) Y
noncomputable def a6y(X:Nat):Nat:=b2c (Nat.mod X a3l) 1
noncomputable def b7g(n:Nat):Nat:=b2c (Nat.mul n a3l) 1
noncomputable def b5j(X Y:Nat):Nat:=bN (Nat.ble X Y) Y X
noncomputable def b5i(X Y:Nat):Nat:=bN (Nat.ble X Y) X Y
structure FX(i:Nat)(a:Bool)(x:UInt64)(X:Nat):Prop where
 at':∃ m e,decode x=.fin a m e/\m * 2^(e+1074).toNat=X
 lt:X<2^(1074+i)
theorem d5c(W:Nat){D:Nat}:D * b2c W D<=2 * W:=by
 obtain⟨e,he⟩:∃ e,e=e1q W D:=⟨_,rfl⟩;have hX:D * b2c W D=D * 2^e * hfe W (D * 2^e):=by
  show D * e5i W D (e1q W D)=_;rw [← he];show D * Nat.shiftLeft (hfe W (Nat.shiftLeft D e)) e=_;have hsh:∀ x,Nat.shiftLeft x e=x * 2^e:=fun x=>Nat.shiftLeft_eq x e;rw [hsh,hsh,Nat.mul_comm (hfe _ _),Nat.mul_assoc]
 rw [hX];generalize D * 2^e=B;have h0:=Nat.div_add_mod W B;have key:hfe W B=W / B∨(hfe W B=W / B+1/\B<2 * (W%B)+W / B%2):=by
  show bN (Nat.ble (2 * (W%B)+W / B%2) B) (W / B) (W / B+1)=_∨_;by_cases h:2 * (W%B)+W / B%2<=B
  ·exact .inl (by rw [Nat.ble_eq.mpr h];rfl)
  ·exact .inr ⟨by show bN (Nat.ble (2 * (W%B)+W / B%2) B) (W / B) (W / B+1)=_;rw [show Nat.ble (2 * (W%B)+W / B%2) B=false from Bool.eq_false_iff.mpr fun z=>h (Nat.ble_eq.mp z)];rfl,Nat.lt_of_not_le h⟩
 rcases key with k | ⟨k,l⟩
 ·rw [k];exact Nat.le_trans (Nat.mul_div_le W B) (Nat.le_mul_of_pos_left W (by decide))
 ·rw [k,Nat.mul_add,Nat.mul_one];omega
section
variable{i j k:Nat}{a b:Bool}{x y r:UInt64}{X Y W D:Nat}
theorem FX.fin(h:FX i a x X):∃ m e,decode x=.fin a m e/\m * 2^(e+1074).toNat=X:=h.at'
theorem FX.val(h:FX i a x X):PySem.Float64.val x=sgn a X:=let⟨_,_,h1,h2⟩:=h.at';(val_eq h1).trans (congrArg (sgn a) h2)
theorem FX.abs(h:FX i a x X):(PySem.Float64.val x).natAbs=X:=by rw [h.val,sgn_natAbs]
theorem FX.le(h:FX i a x X)(hij:i<=j):FX j a x X:=⟨h.at',Nat.lt_of_lt_of_le h.lt (Nat.pow_le_pow_right (by decide) (Nat.add_le_add_left hij _))⟩
theorem FX.chk(hD:0<D)(h:Right r a W D)(hz:b2c W D<2^(1074+i))(hi:i<=900):FX i a r (b2c W D):=by
 obtain⟨t,rfl,ht,hV,_⟩:=d1i hD h (Nat.lt_of_lt_of_le hz (Nat.pow_le_pow_right (by decide) (Nat.le_trans (Nat.add_le_add_left hi _) (by decide))));obtain⟨m,e,h1,h2⟩:=decode_pack a ht;exact⟨⟨m,e,h1,h2.trans hV⟩,hz⟩
theorem FX.of(hD:0<D)(h:Right r a W D)(hW:W<D * 2^(1074+i))(hi:i+1<=900):FX (i+1) a r (b2c W D):=
 FX.chk hD h (Nat.lt_of_mul_lt_mul_left (a:=D) (Nat.lt_of_le_of_lt (d5c W) (by
  rw [← Nat.add_assoc,Nat.pow_succ,Nat.mul_comm _ 2,Nat.mul_left_comm];exact Nat.mul_lt_mul_of_pos_left hW (by decide)))) hi
theorem FX.mul(h1:FX i a x X)(h2:FX j b y Y)(hi:i+j+1<=900):FX (i+j+1) (a != b) (mul x y) (a9f X Y):=by
 obtain⟨m,e,d1,_⟩:=h1.at';obtain⟨n,f,d2,_⟩:=h2.at';have:=mul_right d1 d2;rw [h1.abs,h2.abs]at this;refine FX.of (a1x _) this ?_ hi;show X * Y<2^1074 * 2^(1074+(i+j));rw [← Nat.pow_add,show 1074+(1074+(i+j))=1074+i+(1074+j) by rw [Nat.add_add_add_comm,Nat.add_assoc],Nat.pow_add];exact Nat.mul_lt_mul'' h1.lt h2.lt
theorem FX.div(h1:FX i a x X)(h2:FX j b y Y)(h0:Y≠0)(hz:b3a X Y<2^(1074+k))(hk:k<=900):FX k (a != b) (div x y) (b3a X Y):=by
 obtain⟨m,e,d1,_⟩:=h1.at';obtain⟨n,f,d2,e2⟩:=h2.at';have:=div_right d1 d2 (fun q=>h0 (by rw [← e2,q,Nat.zero_mul]));rw [h1.abs,h2.abs]at this;exact FX.chk (Nat.pos_of_ne_zero h0) this hz hk
theorem a7j(a:Bool):FX i a (zero a) 0:=let⟨m,e,h1,h2⟩:=decode_pack a (t:=0) (by decide);⟨⟨m,e,h1,h2.trans V_zero⟩,a1x _⟩
theorem b4o(D:Nat):b2c 0 D=0:=by
 by_cases h:D=0
 ·subst h;decide +kernel
 ·exact(Nat.mul_eq_zero.mp (Nat.le_zero.mp (@d5c 0 D))).resolve_left h
theorem FX.add(h1:FX i a x X)(h2:FX i a y Y)(hi:i+2<=900):FX (i+2) a (add x y) (b7m X Y):=by
 obtain⟨m,e,d1,_⟩:=h1.at';obtain⟨n,f,d2,_⟩:=h2.at';have q:=add_right d1 d2;have hs:PySem.Float64.val x+PySem.Float64.val y=sgn a (X+Y):=by
  rw [h1.val,h2.val];cases a
  ·rfl
  ·show -(X:Int) + -(Y:Int) = -((X+Y:Nat):Int);omega
 rw [hs]at q;by_cases h0:X+Y=0
 ·rw [h0]at q
  have:=q.1 (by cases a<;>rfl);rw [this,Bool.and_self,show b7m X Y=0 from(congrArg (b2c · 1) h0).trans (b4o 1)];exact a7j a
 ·have:=q.2 (fun z=>h0 (by rw [← sgn_natAbs a (X+Y),z];rfl))
  rw [sgn_natAbs,show decide (sgn a (X+Y)<0)=a by cases a<;>simp [sgn]<;>omega]at this;refine FX.of (i:=i+1) (by decide) this ?_ hi;rw [Nat.one_mul,← Nat.add_assoc,Nat.pow_succ,Nat.mul_two];exact Nat.add_lt_add h1.lt h2.lt
theorem FX.sub(h1:FX i false x X)(h2:FX j false y Y)(hle:Y<=X)(hi:i+1<=900):FX (i+1) false (sub x y) (a5p X Y):=by
 obtain⟨m,e,d1,_⟩:=h1.at';obtain⟨n,f,d2,_⟩:=h2.at';have q:=sub_right d1 d2;rw [show PySem.Float64.val x-PySem.Float64.val y=((X-Y:Nat):Int) by rw [h1.val,h2.val];exact(Int.ofNat_sub hle).symm]at q;by_cases h0:X-Y=0
 ·rw [h0]at q
  rw [q.1 rfl,show a5p X Y=0 from(congrArg (b2c · 1) h0).trans (b4o 1)];exact a7j false
 ·have:=q.2 (fun z=>h0 (Int.ofNat.inj z))
  rw [Int.natAbs_natCast,show decide (((X-Y:Nat):Int)<0)=false from decide_eq_false (Int.not_lt.mpr (Int.natCast_nonneg _))]at this;refine FX.of (by decide) this ?_ hi;rw [Nat.one_mul];exact Nat.lt_of_le_of_lt (Nat.sub_le _ _) h1.lt
theorem FX.subN(h1:FX i false x X)(h2:FX j false y Y)(hlt:X<Y)(hi:j+1<=900):FX (j+1) true (PySem.Float64.sub x y) (a5p Y X):=by
 obtain⟨m,e,d1,_⟩:=h1.at';obtain⟨n,f,d2,_⟩:=h2.at';have q:=sub_right d1 d2;have hs:PySem.Float64.val x-PySem.Float64.val y = -((Y-X:Nat):Int):=by
  rw [h1.val,h2.val];show(X:Int)-(Y:Int)=_;omega
 rw [hs]at q;have hp:0<Y-X:=Nat.sub_pos_of_lt hlt;have:=q.2 (by omega);rw [Int.natAbs_neg,Int.natAbs_natCast,show decide (-((Y-X:Nat):Int)<0)=true from decide_eq_true (by omega)]at this;refine FX.of (by decide) this ?_ hi;rw [Nat.one_mul];exact Nat.lt_of_le_of_lt (Nat.sub_le _ _) h2.lt
theorem FX.cmp(h1:FX i false x X)(h2:FX j false y Y):PySem.Float64.cmp x y=some (compare (X:Int) (Y:Int)):=by
 obtain⟨m,e,d1,_⟩:=h1.at';obtain⟨n,f,d2,_⟩:=h2.at';rw [cmp_right d1 d2,h1.val,h2.val];rfl
theorem b4f(h:¬X<=Y):Nat.ble X Y=false:=Bool.eq_false_iff.mpr fun z=>h (Nat.ble_eq.mp z)
theorem FX.tri(h1:FX i false x X)(h2:FX j false y Y){P:Prop}(k1:PySem.Float64.cmp x y=some .lt->X<Y->P)(k2:PySem.Float64.cmp x y=some .eq->X=Y->P)(k3:PySem.Float64.cmp x y=some .gt->Y<X->P):P:=by
 have c:=h1.cmp h2;rcases Nat.lt_trichotomy X Y with h | h | h
 ·exact k1 (c.trans (congrArg some (Int.compare_eq_lt.mpr (Int.ofNat_lt.mpr h)))) h
 ·exact k2 (c.trans (congrArg some (Int.compare_eq_eq.mpr (congrArg Int.ofNat h)))) h
 ·exact k3 (c.trans (congrArg some (Int.compare_eq_gt.mpr (Int.ofNat_lt.mpr h)))) h
theorem FX.eqF(h1:FX i false x X)(h2:FX j false y Y):Mine.eqF x y=Nat.beq X Y:=by
 unfold Mine.eqF;refine h1.tri h2 (fun c h=>?_) (fun c h=>?_) (fun c h=>?_)<;>rw [c]
 ·exact(Bool.eq_false_iff.mpr fun z=>Nat.ne_of_lt h (Nat.eq_of_beq_eq_true z)).symm
 ·rw [h];exact(Nat.beq_refl Y).symm
 ·exact(Bool.eq_false_iff.mpr fun z=>Nat.ne_of_gt h (Nat.eq_of_beq_eq_true z)).symm
theorem FX.leF(h1:FX i false x X)(h2:FX j false y Y):Mine.leF x y=Nat.ble X Y:=by
 unfold Mine.leF;refine h1.tri h2 (fun c h=>?_) (fun c h=>?_) (fun c h=>?_)<;>rw [c]
 ·exact(Nat.ble_eq.mpr (Nat.le_of_lt h)).symm
 ·exact(Nat.ble_eq.mpr (Nat.le_of_eq h)).symm
 ·exact(b4f (Nat.not_le.mpr h)).symm
theorem FX.ltF(h1:FX i false x X)(h2:FX j false y Y):Mine.ltF x y=!Nat.ble Y X:=by
 unfold Mine.ltF;refine h1.tri h2 (fun c h=>?_) (fun c h=>?_) (fun c h=>?_)<;>rw [c]
 ·rw [b4f (Nat.not_le.mpr h)];rfl
 ·rw [Nat.ble_eq.mpr (Nat.le_of_eq h.symm)];rfl
 ·rw [Nat.ble_eq.mpr (Nat.le_of_lt h)];rfl
theorem FX.max(h1:FX i false x X)(h2:FX i false y Y):FX i false (a3t x y) (b5j X Y):=by
 unfold a3t b5j;refine h1.tri h2 (fun c h=>?_) (fun c h=>?_) (fun c h=>?_)<;>rw [c]
 ·rw [Nat.ble_eq.mpr (Nat.le_of_lt h)];exact h2
 ·rw [Nat.ble_eq.mpr (Nat.le_of_eq h)];exact h▸h1
 ·rw [b4f (Nat.not_le.mpr h)];exact h1
theorem FX.min(h1:FX i false x X)(h2:FX i false y Y):FX i false (a5q x y) (b5i X Y):=by
 unfold a5q b5i;refine h2.tri h1 (fun c h=>?_) (fun c h=>?_) (fun c h=>?_)<;>rw [c]
 ·rw [b4f (Nat.not_le.mpr h)];exact h2
 ·rw [Nat.ble_eq.mpr (Nat.le_of_eq h.symm)];exact h1
 ·rw [Nat.ble_eq.mpr (Nat.le_of_lt h)];exact h1
theorem FX.isZero(h:FX i a x X):PySem.Float64.isZero x=Nat.beq X 0:=by
 obtain⟨m,e,d,hX⟩:=h.at';unfold PySem.Float64.isZero;rw [d];by_cases h0:m=0
 ·rw [← hX,h0,Nat.zero_mul];rfl
 ·have:X≠0:=hX▸Nat.mul_ne_zero h0 (Nat.ne_of_gt (a1x _))
  induction m using Nat.casesOn with
  | zero=>exact absurd rfl h0
  | succ m=>exact(Bool.eq_false_iff.mpr fun z=>this (Nat.eq_of_beq_eq_true z)).symm
theorem FX.finite(h:FX i a x X):PySem.Float64.isFinite x=true:=by
 obtain⟨m,e,d,_⟩:=h.at';unfold PySem.Float64.isFinite;rw [d]
theorem FX.toInt(h:FX i false x X):Flt.toInt truncOf x=((X / a3l:Nat):Int):=by
 obtain⟨m,e,d,hX⟩:=h.at';have he:=decode_ge d;unfold Flt.toInt;rw [d];show(if e≥0 then(m:Int) * 2^e.toNat else Int.fdiv m (2^(-e).toNat))=_;rw [c6t,← hX];by_cases h0:e≥0
 ·rw [if_pos h0,show(e+1074).toNat=e.toNat+1074 by omega,Nat.pow_add,← Nat.mul_assoc,Nat.mul_div_cancel _ (a1x _)]
  rw [Int.natCast_mul,Int.natCast_pow];rfl
 ·rw [if_neg h0,show((2:Int)^(-e).toNat)=((2^(-e).toNat:Nat):Int)from(Int.natCast_pow 2 _).symm,Int.fdiv_eq_ediv_of_nonneg _ (Int.natCast_nonneg _),← Int.natCast_ediv]
  rw [show 2^1074=2^(-e).toNat * 2^(e+1074).toNat by rw [← Nat.pow_add];congr 1;omega,Nat.mul_div_mul_right _ _ (a1x _)]
theorem FX.ofN{n:Nat}(h:n<2^k)(hk:k+1<=900):FX (k+1) false (ofInt (n:Int)) (b7g n):=by
 have:=ofInt_right (n:Int);rw [Int.natAbs_natCast,show decide ((n:Int)<0)=false from decide_eq_false (Int.not_lt.mpr (Int.natCast_nonneg _))]at this;refine FX.of (by decide) this ?_ hk;rw [Nat.one_mul,Nat.pow_add,Nat.mul_comm (2^1074)];exact Nat.mul_lt_mul_of_pos_right h (a1x _)
theorem FX.frac{n d:Nat}(hd:0<d)(h:n<d * 2^k)(hk:k+1<=900):FX (k+1) false (ofFrac false n d) (b2c (Nat.mul n a3l) d):=by
 refine FX.of hd (ofFrac_right hd (show n * 2^1074 * d=n * 2^1074 * d from rfl) hd) ?_ hk;rw [Nat.pow_add,Nat.mul_comm (2^1074),← Nat.mul_assoc];exact Nat.mul_lt_mul_of_pos_right h (a1x _)
end
end
section
open PySem PySem.Float64
noncomputable def d0e:Nat:=Nat.pow 2 1075
noncomputable def e0f:Nat:=Nat.pow 2 1076
noncomputable def c8n:Nat:=Nat.pow 2 1073
noncomputable def d7q:Nat:=Nat.pow 2 1094
noncomputable def b8p:Nat:=Nat.mul 6 (Nat.pow 2 1074)
noncomputable def m1N(M:Nat):Nat:=bN (Nat.beq M 0) 0 (a5p a3l M)
section
variable{i j k:Nat}{a b:Bool}{x y r:UInt64}{X Y W D:Nat}
theorem FX.lit(t:Nat)(hx:pack a t=x)(ht:t<infMag)(hV:PySem.Float64.V t=X)(hb:X<2^(1074+i)):FX i a x X:=
 let⟨m,e,h1,h2⟩:=decode_pack a ht;⟨⟨m,e,hx▸h1,h2.trans hV⟩,hb⟩
theorem one_fx:FX 1 false f1 a3l:=.lit 4607182418800017408 (by decide +kernel) (by decide +kernel) (by decide +kernel) (by decide +kernel)
theorem two_fx:FX 2 false f2 d0e:=.lit 4611686018427387904 (by decide +kernel) (by decide +kernel) (by decide +kernel) (by decide +kernel)
theorem four_fx:FX 3 false f4 e0f:=.lit 4616189618054758400 (by decide +kernel) (by decide +kernel) (by decide +kernel) (by decide +kernel)
theorem b5w:FX 3 false f6 b8p:=.lit 4618441417868443648 (by decide +kernel) (by decide +kernel) (by decide +kernel) (by decide +kernel)
theorem b9g:FX 1 false fh c8n:=.lit 4602678819172646912 (by decide +kernel) (by decide +kernel) (by decide +kernel) (by decide +kernel)
theorem a6a:FX i false 0 0:=(show zero false=0 by decide +kernel)▸a7j false
theorem b0p{e g:Int}(h:g<=e)(hg:-((1074:Nat):Int)<=g):(e-g).toNat+(g+1074).toNat=(e+1074).toNat:=by
 rw [← Int.toNat_add (Int.sub_nonneg_of_le h) (by omega),← Int.add_assoc,Int.sub_add_cancel]
theorem c6u:∀ z<6,z=0∨z=1∨z=2∨z=3∨z=4∨z=5:=by decide
theorem c2v{m n:Nat}{e f:Int}(hx:decode x=.fin a m e)(hy:decode y=.fin b n f)(hn:n≠0):Right (fmod x y) a (m * 2^(e+1074).toNat%(n * 2^(f+1074).toNat)) 1:=by
 have he:=decode_ge hx;have hf:=decode_ge hy;obtain⟨g,hg⟩:∃ g,g=min e f:=⟨_,rfl⟩;have e3:-((1074:Nat):Int)<=g:=hg▸Int.le_min.mpr ⟨he,hf⟩;have e1:=b0p (hg▸Int.min_le_left e f) e3;have e2:=b0p (hg▸Int.min_le_right e f) e3;have hm:fmod x y=ofBin a (m * 2^(e-g).toNat%(n * 2^(f-g).toNat)) g:=by
  unfold fmod;rw [hx,hy];refine(if_neg (by simpa using hn)).trans ?_;rw [hg];rfl
 rw [hm,← e1,← e2,Nat.pow_add,Nat.pow_add,← Nat.mul_assoc,← Nat.mul_assoc,Nat.mul_mod_mul_right];unfold ofBin;exact ofFrac_right (shift_pos _ _ _ (by decide)) ((Nat.mul_one _).trans (shift_one _ g 1074 e3)) (by decide)
theorem FX.fmod1(h:FX i a x X):FX 1 a (fmod x f1) (a6y X):=by
 obtain⟨m,e,d,hX⟩:=h.at';obtain⟨n,f,d1,hN⟩:=one_fx.at';have h0:n≠0:=fun q=>by rw [q,Nat.zero_mul]at hN;exact absurd hN.symm (Nat.ne_of_gt (a1x 1074))
 have:=c2v d d1 h0;rw [hX,hN]at this;refine FX.of (i:=0) (by decide) this ?_ (by decide);rw [Nat.one_mul];exact Nat.mod_lt _ (a1x 1074)
theorem c8q:mod1 x=if PySem.Float64.isZero (fmod x f1)then copysign (zero false) f1 else if lt f1 (zero false) != PySem.Float64.lt (fmod x f1) (zero false)then PySem.Float64.add (fmod x f1) f1 else fmod x f1:=by
 unfold mod1 divmod;by_cases h1:PySem.Float64.isZero (fmod x f1)=true
 ·rw [if_pos h1];simp only [h1,if_true]
 ·rw [if_neg h1]
  by_cases h2:(lt f1 (zero false) != PySem.Float64.lt (fmod x f1) (zero false))=true
  ·rw [if_pos h2];simp only [h1,h2,if_true];rfl
  ·rw [if_neg h2];simp only [h1,h2];rfl
theorem c1z:copysign (zero false) f1=0:=by decide +kernel
theorem l1z:lt f1 (zero false)=false:=by decide +kernel
theorem FX.mod1(h:FX i false x X):FX 1 false (Mine.mod1 x) (a6y X):=by
 have hm:=h.fmod1;rw [c8q,hm.isZero];by_cases h0:a6y X=0
 ·rw [h0,c1z];exact a6a
 ·rw [if_neg fun z=>h0 (Nat.eq_of_beq_eq_true z),l1z]
  have:PySem.Float64.lt (fmod x f1) (zero false)=false:=(hm.ltF (a7j (i:=1) false)).trans rfl;rw [this];exact hm
theorem FX.mod1N(h:FX i true x X)(hle:a6y X<=a3l):FX 2 false (Mine.mod1 x) (m1N (a6y X)):=by
 have hm:=h.fmod1;rw [c8q,hm.isZero];generalize a6y X=M at *;by_cases h0:M=0
 ·subst h0;rw [c1z];exact a6a
 ·have hb:Nat.beq M 0=false:=Bool.eq_false_iff.mpr fun z=>h0 (Nat.eq_of_beq_eq_true z)
  obtain⟨m,e,d,hX⟩:=hm.at';obtain⟨n,f,d1,hN⟩:=one_fx.at';obtain⟨z,g,d2,_⟩:=(a7j (i:=1) false).at';have hl:PySem.Float64.lt (fmod x f1) (zero false)=true:=by
   unfold PySem.Float64.lt;rw [cmp_right d d2,hm.val,(a7j (i:=1) false).val,show compare (sgn true M) (sgn false 0)=.lt from Int.compare_eq_lt.mpr (show -(M:Int)<0 by omega)];rfl
  rw [hb,l1z,hl];show FX 2 false (PySem.Float64.add (fmod x f1) f1) (bN (Nat.beq M 0) 0 (a5p a3l M));rw [hb];have q:=add_right d d1;rw [show PySem.Float64.val (fmod x f1)+PySem.Float64.val f1=((a3l-M:Nat):Int) by rw [hm.val,one_fx.val];show -(M:Int)+(a3l:Int)=_;omega]at q;show FX 2 false _ (a5p a3l M);by_cases hz:a3l-M=0
  ·rw [hz]at q
   rw [q.1 rfl,show a5p a3l M=0 from(congrArg (b2c · 1) hz).trans (b4o 1)];exact a7j false
  ·have:=q.2 (fun z=>hz (Int.ofNat.inj z))
   rw [Int.natAbs_natCast,show decide (((a3l-M:Nat):Int)<0)=false from decide_eq_false (Int.not_lt.mpr (Int.natCast_nonneg _))]at this;refine FX.of (i:=1) (by decide) this ?_ (by decide);rw [Nat.one_mul];exact Nat.lt_of_le_of_lt (Nat.sub_le _ _) one_fx.lt
theorem FX.divO(h1:FX i a x X)(h2:FX j b y Y)(h0:Y≠0)(hz:b3a X Y<2^(1074+k))(hk:k<=900):Mine.divO x y=some (PySem.Float64.div x y)/\FX k (a != b) (PySem.Float64.div x y) (b3a X Y):=by
 refine⟨?_,h1.div h2 h0 hz hk⟩;unfold Mine.divO;rw [h2.isZero,if_neg fun z=>h0 (Nat.eq_of_beq_eq_true z)]
end
inductive IsC(i:Nat)(o:Option C3)(kk:Nat->Nat->Nat->Bool):Prop
 | mk (c:C3) (A B C:Nat) (h:o=some c) (h1:FX i false c.1 A) (h2:FX i false c.2.1 B) (h3:FX i false c.2.2 C) (e:kk A B C=true)
section
variable(kk:Nat->Nat->Nat->Bool)
noncomputable def e8i(v p q t i:Nat):Bool:=
 bB (Nat.beq i 0) (kk v t p) (bB (Nat.beq i 1) (kk q v p) (bB (Nat.beq i 2) (kk p v t) (bB (Nat.beq i 3) (kk p q v) (bB (Nat.beq i 4) (kk t p v) (kk v p q)))))
noncomputable def f0k(s v i sf s1f:Nat):Bool:=
 bB (Nat.ble s a3l) (bB (Nat.ble sf a3l) (bB (Nat.ble s1f a3l) (e8i kk v (a9f v (a5p a3l s)) (a9f v (a5p a3l sf)) (a9f v (a5p a3l s1f)) (Nat.mod i 6)) false) false) false
noncomputable def e9v(s v i f:Nat):Bool:=bB (Nat.ble f a3l) (f0k kk s v i (a9f s f) (a9f s (a5p a3l f))) false
noncomputable def e8e(s v i h6 fi:Nat):Bool:=bB (Nat.ble fi h6) (e9v kk s v i (a5p h6 fi)) false
noncomputable def e9j(s v h6 i:Nat):Bool:=e8e kk s v i h6 (b7g i)
noncomputable def e8m(s v h6:Nat):Bool:=e9j kk s v h6 (Nat.div h6 a3l)
noncomputable def e8b(h s v:Nat):Bool:=bB (Nat.beq s 0) (kk v v v) (e8m kk s v (a9f h b8p))
end
theorem c2k{c a b:Bool}(h:bB c a b=true):(c=true/\a=true)∨(c=false/\b=true):=by cases c<;>first | exact .inr ⟨rfl,h⟩ | exact .inl ⟨rfl,h⟩
section
variable{kk:Nat->Nat->Nat->Bool}
theorem e6k{h s v:UInt64}{H S W:Nat}(hh:FX 10 false h H)(hs:FX 3 false s S)(hv:FX 3 false v W)(e:e8b kk H S W=true):IsC 10 (a7l h s v) kk:=by
 unfold a7l;rw [hs.eqF (a6a (i:=1))];rcases c2k e with⟨c,e⟩ | ⟨c,e⟩
 ·rw [c];exact⟨_,_,_,_,rfl,hv.le (by decide),hv.le (by decide),hv.le (by decide),e⟩
 rw [c];have h6:FX 14 false (PySem.Float64.mul h f6) (a9f H b8p):=hh.mul b5w (by decide);replace e:e8m kk S W (a9f H b8p)=true:=e;generalize a9f H b8p=H6 at *;generalize PySem.Float64.mul h f6=x6 at *;have hi:H6 / a3l<2^14:=Nat.div_lt_of_lt_mul (by rw [c6t,← Nat.pow_add];exact h6.lt);rw [if_neg Bool.false_ne_true,h6.finite,h6.toInt,if_neg (by
  rintro(q | q)
  ·exact nt q.symm
  ·exact nt (q.symm.trans (a6d (Nat.lt_trans hi (by decide)))))]
 replace e:e8e kk S W (H6 / a3l) H6 (b7g (H6 / a3l))=true:=e;have hn:=FX.ofN hi (by decide);generalize H6 / a3l=i at *;obtain⟨c1,e⟩:=a5l e;have hf:=h6.sub hn (Nat.ble_eq.mp c1) (by decide);generalize a5p H6 (b7g i)=F at *;generalize PySem.Float64.sub x6 (ofInt (i:Int))=f at *;obtain⟨c2,e⟩:=a5l e;have hsf:=hs.mul hf (by decide);have h1f:=one_fx.sub hf (Nat.ble_eq.mp c2) (by decide);have hs1f:=hs.mul h1f (by decide);obtain⟨c3,e⟩:=a5l e;obtain⟨c4,e⟩:=a5l e;obtain⟨c5,e⟩:=a5l e;have hp:=hv.mul (one_fx.sub hs (Nat.ble_eq.mp c3) (by decide)) (by decide);have hq:=hv.mul (one_fx.sub hsf (Nat.ble_eq.mp c4) (by decide)) (by decide);have ht:=hv.mul (one_fx.sub hs1f (Nat.ble_eq.mp c5) (by decide)) (by decide);generalize a9f W (a5p a3l S)=P at *;generalize a9f W (a5p a3l (a9f S F))=Q at *;generalize a9f W (a5p a3l (a9f S (a5p a3l F)))=T at *;have hp:=hp.le (j:=10) (by decide);have hq:=hq.le (j:=10) (by decide);have ht:=ht.le (j:=10) (by decide);have hv:=hv.le (j:=10) (by decide);rw [show(i:Int).fmod 6=((i%6:Nat):Int)from c4x i 6];replace e:e8i kk W P Q T (i%6)=true:=e;have hlt:i%6<6:=Nat.mod_lt _ (by decide);generalize i%6=z at *;rcases c6u z hlt with rfl | rfl | rfl | rfl | rfl | rfl
 ·exact⟨_,_,_,_,rfl,hv,ht,hp,e⟩
 ·exact⟨_,_,_,_,rfl,hq,hv,hp,e⟩
 ·exact⟨_,_,_,_,rfl,hp,hv,ht,e⟩
 ·exact⟨_,_,_,_,rfl,hp,hq,hv,e⟩
 ·exact⟨_,_,_,_,rfl,ht,hp,hv,e⟩
 ·exact⟨_,_,_,_,rfl,hv,hp,hq,e⟩
end
end
section
open PySem PySem.Float64
section
variable(k:Nat->Bool)
noncomputable def hP2(q:Nat):Bool:=bB (Nat.ble q d7q) (k (a6y q)) false
noncomputable def hN3(M:Nat):Bool:=bB (Nat.ble M a3l) (k (m1N M)) false
noncomputable def hN2(q:Nat):Bool:=bB (Nat.ble q d7q) (hN3 k (a6y q)) false
noncomputable def hP(z:Nat):Bool:=hP2 k (b3a z b8p)
noncomputable def hN(z:Nat):Bool:=hN2 k (b3a z b8p)
noncomputable def hDQ(A B:Nat):Bool:=bB (Nat.ble B A) (hP k (a5p A B)) false
noncomputable def e8o(rc gc bc r g mx:Nat):Bool:=
 bB (Nat.beq r mx) (bB (Nat.ble gc bc) (hP k (a5p bc gc)) (hN k (a5p gc bc))) (bB (Nat.beq g mx) (hDQ k (b7m d0e rc) bc) (hDQ k (b7m e0f gc) rc))
noncomputable def e6l(rc gc bc r g mx:Nat):Bool:=bB (Nat.ble rc a3l) (bB (Nat.ble gc a3l) (bB (Nat.ble bc a3l) (e8o k rc gc bc r g mx) false) false) false
noncomputable def d9k(r g b mx rg:Nat):Bool:=
 bB (Nat.beq rg 0) false (bB (Nat.ble r mx) (bB (Nat.ble g mx) (bB (Nat.ble b mx) (e6l k (b3a (a5p mx r) rg) (b3a (a5p mx g) rg) (b3a (a5p mx b) rg) r g mx) false) false) false)
end
section
variable(kk:Nat->Nat->Nat->Bool)
noncomputable def f0h(s v h:Nat):Bool:=kk h s v
noncomputable def f0u(s l h:Nat):Bool:=kk h l s
noncomputable def e9i(r g b mx rg s:Nat):Bool:=bB (Nat.ble s a3l) (d9k (f0h kk s mx) r g b mx rg) false
noncomputable def e8x(r g b mx mn:Nat):Bool:=bB (Nat.beq mn mx) (kk 0 0 mx) (bB (Nat.ble mn mx) (bB (Nat.beq mx 0) false (e9i kk r g b mx (a5p mx mn) (b3a (a5p mx mn) mx))) false)
noncomputable def e1j(r g b:Nat):Bool:=e8x kk r g b (b5j (b5j r g) b) (b5i (b5i r g) b)
noncomputable def f0d(r g b mx rg l s:Nat):Bool:=bB (Nat.ble s d7q) (d9k (f0u kk s l) r g b mx rg) false
noncomputable def e6f(r g b mx rg l d:Nat):Bool:=bB (Nat.beq d 0) false (f0d kk r g b mx rg l (b3a rg d))
noncomputable def e8a(r g b mx mn sm l:Nat):Bool:=
 bB (Nat.ble l d7q) (bB (Nat.beq mn mx) (kk 0 l 0) (bB (Nat.ble mn mx) (bB (Nat.ble l c8n) (e6f kk r g b mx (a5p mx mn) l sm) (bB (Nat.ble mx d0e) (bB (Nat.ble mn (a5p d0e mx)) (e6f kk r g b mx (a5p mx mn) l (a5p (a5p d0e mx) mn)) false) false)) false)) false
noncomputable def e9m(r g b mx mn sm:Nat):Bool:=e8a kk r g b mx mn sm (b3a sm d0e)
noncomputable def f0v(r g b mx mn:Nat):Bool:=e9m kk r g b mx mn (b7m mx mn)
noncomputable def e1h(r g b:Nat):Bool:=f0v kk r g b (b5j (b5j r g) b) (b5i (b5i r g) b)
end
theorem neb{a b:Nat}(h:Nat.beq a b=false):a≠b:=fun q=>by rw [q,Nat.beq_refl]at h;exact nt h.symm
theorem c1u{X:Nat}(h:Nat.ble X a3l=true):X<2^(1074+1):=Nat.lt_of_le_of_lt (Nat.ble_eq.mp h) one_fx.lt
theorem c1w{X:Nat}(h:Nat.ble X d7q=true):X<2^(1074+21):=Nat.lt_of_le_of_lt (Nat.ble_eq.mp h) (by decide +kernel)
section
variable{k:Nat->Bool}{kk:Nat->Nat->Nat->Bool}{r g b mx rg s:UInt64}{R G B M Z S:Nat}
theorem e8v{z:UInt64}(h:FX 22 false z Z)(e:hP k Z=true):∃ H,FX 2 false (Mine.mod1 (PySem.Float64.div z f6)) H/\k H=true:=by
 obtain⟨c,e⟩:=a5l (show bB (Nat.ble (b3a Z b8p) d7q) (k (a6y (b3a Z b8p))) false=true from e);exact⟨_,((h.div b5w (by decide +kernel) (c1w c) (by decide)).mod1).le (by decide),e⟩
theorem e9g{z:UInt64}(h:FX 22 true z Z)(e:hN k Z=true):∃ H,FX 2 false (Mine.mod1 (PySem.Float64.div z f6)) H/\k H=true:=by
 obtain⟨c,e⟩:=a5l (show bB (Nat.ble (b3a Z b8p) d7q) (hN3 k (a6y (b3a Z b8p))) false=true from e);obtain⟨c2,e⟩:=a5l (show bB (Nat.ble (a6y (b3a Z b8p)) a3l) (k (m1N (a6y (b3a Z b8p)))) false=true from e);exact⟨_,(h.div b5w (by decide +kernel) (c1w c) (by decide)).mod1N (Nat.ble_eq.mp c2),e⟩
theorem e8d{x y:UInt64}{A C:Nat}(h:FX 8 false x A)(h2:FX 8 false y C)(e:hDQ k A C=true):∃ H,FX 2 false (Mine.mod1 (PySem.Float64.div (PySem.Float64.sub x y) f6)) H/\k H=true:=by
 obtain⟨c,e⟩:=a5l e;exact e8v ((h.sub h2 (Nat.ble_eq.mp c) (by decide)).le (by decide)) e
theorem e5h{rc gc bc:UInt64}{C1 C2 C3:Nat}(hr:FX 20 false r R)(hg:FX 20 false g G)(hm:FX 20 false mx M)(h1:FX 1 false rc C1)(h2:FX 1 false gc C2)(h3:FX 1 false bc C3)(e:e8o k C1 C2 C3 R G M=true) :
  ∃ H,FX 2 false (Mine.mod1 (PySem.Float64.div (c5n r g mx rc gc bc) f6)) H/\k H=true:=by
 unfold c5n;rw [hr.eqF hm,hg.eqF hm];rcases c2k e with⟨c,e⟩ | ⟨c,e⟩
 ·rw [c,if_pos rfl]
  rcases c2k e with⟨c,e⟩ | ⟨c,e⟩
  ·exact e8v ((h3.sub h2 (Nat.ble_eq.mp c) (by decide)).le (by decide)) e
  ·exact e9g ((h3.subN h2 (Nat.lt_of_not_le fun q=>by rw [Nat.ble_eq.mpr q]at c;exact nt c.symm) (by decide)).le (by decide)) e
 ·rw [c,if_neg Bool.false_ne_true]
  rcases c2k e with⟨c,e⟩ | ⟨c,e⟩
  ·rw [c,if_pos rfl]
   exact e8d ((two_fx.add (h1.le (by decide)) (by decide)).le (by decide)) (h3.le (by decide)) e
  ·rw [c,if_neg Bool.false_ne_true]
   exact e8d ((four_fx.add (h2.le (by decide)) (by decide)).le (by decide)) (h1.le (by decide)) e
theorem d5e{out:UInt64->C3}(hr:FX 20 false r R)(hg:FX 20 false g G)(hb:FX 20 false b B)(hm:FX 20 false mx M)(hrg:FX 21 false rg Z)(e:d9k k R G B M Z=true) :
  ∃ h H,c8u r g b mx rg s out=some (out h)/\FX 2 false h H/\k H=true:=by
 rcases c2k e with⟨_,e⟩ | ⟨c0,e⟩
 ·exact nt e
 obtain⟨c1,e⟩:=a5l e;obtain⟨c2,e⟩:=a5l e;obtain⟨c3,e⟩:=a5l e;obtain⟨c4,e⟩:=a5l e;obtain⟨c5,e⟩:=a5l e;obtain⟨c6,e⟩:=a5l e;obtain⟨o1,d1⟩:=(hm.sub hr (Nat.ble_eq.mp c1) (by decide)).divO hrg (neb c0) (c1u c4) (by decide);obtain⟨o2,d2⟩:=(hm.sub hg (Nat.ble_eq.mp c2) (by decide)).divO hrg (neb c0) (c1u c5) (by decide);obtain⟨o3,d3⟩:=(hm.sub hb (Nat.ble_eq.mp c3) (by decide)).divO hrg (neb c0) (c1u c6) (by decide);obtain⟨H,h1,h2⟩:=e5h hr hg hm d1 d2 d3 e;refine⟨_,H,?_,h1,h2⟩;unfold c8u;rw [o1,o2,o3];rfl
theorem d2a(hr:FX 20 false r R)(hg:FX 20 false g G)(hb:FX 20 false b B)(e:e1j kk R G B=true):IsC 20 (a7m r g b) kk:=by
 have hM:=(hr.max hg).max hb;have hm:=(hr.min hg).min hb;replace e:e8x kk R G B (b5j (b5j R G) B) (b5i (b5i R G) B)=true:=e;unfold a7m;generalize b5j (b5j R G) B=M at *;generalize b5i (b5i R G) B=N at *;generalize a3t (a3t r g) b=mx at *;generalize a5q (a5q r g) b=mn at *;rw [hm.eqF hM];rcases c2k e with⟨c,e⟩ | ⟨c,e⟩
 ·rw [c];exact⟨_,_,_,_,rfl,a6a,a6a,hM,e⟩
 rw [c,if_neg Bool.false_ne_true];obtain⟨c1,e⟩:=a5l e;rcases c2k e with⟨_,e⟩ | ⟨c2,e⟩
 ·exact nt e
 obtain⟨c3,e⟩:=a5l e;have hrg:=hM.sub hm (Nat.ble_eq.mp c1) (by decide);obtain⟨o,d⟩:=hrg.divO hM (neb c2) (c1u c3) (by decide);obtain⟨h,H,p,h1,h2⟩:=d5e (s:=PySem.Float64.div (PySem.Float64.sub mx mn) mx) (out:=fun h=>(h,PySem.Float64.div (PySem.Float64.sub mx mn) mx,mx)) hr hg hb hM hrg e;exact⟨_,H,_,_,(congrArg (Option.bind · _) o).trans p,h1.le (by decide),d.le (by decide),hM,h2⟩
theorem d5b{d l:UInt64}{D L:Nat}(hr:FX 20 false r R)(hg:FX 20 false g G)(hb:FX 20 false b B)(hM:FX 20 false mx M)(hrg:FX 21 false rg Z)(hl:FX 21 false l L)(hd:FX 30 false d D)(e:e6f kk R G B M Z L D=true) :
  IsC 21 ((Mine.divO rg d).bind fun s=>c8u r g b mx rg s fun h=>(h,l,s)) kk:=by
 rcases c2k e with⟨_,e⟩ | ⟨c2,e⟩
 ·exact nt e
 obtain⟨c3,e⟩:=a5l e;obtain⟨o,q⟩:=hrg.divO hd (neb c2) (c1w c3) (by decide);obtain⟨h,H,p,h1,h2⟩:=d5e (s:=PySem.Float64.div rg d) (out:=fun h=>(h,l,PySem.Float64.div rg d)) hr hg hb hM hrg e;exact⟨_,H,_,_,(congrArg (Option.bind · _) o).trans p,h1.le (by decide),hl,q,h2⟩
theorem d4a(hr:FX 20 false r R)(hg:FX 20 false g G)(hb:FX 20 false b B)(e:e1h kk R G B=true):IsC 21 (a7o r g b) kk:=by
 have hM:=(hr.max hg).max hb;have hm:=(hr.min hg).min hb;replace e:e8a kk R G B (b5j (b5j R G) B) (b5i (b5i R G) B) (b7m (b5j (b5j R G) B) (b5i (b5i R G) B)) (b3a (b7m (b5j (b5j R G) B) (b5i (b5i R G) B)) d0e)=true:=e;unfold a7o;generalize b5j (b5j R G) B=M at *;generalize b5i (b5i R G) B=N at *;generalize a3t (a3t r g) b=mx at *;generalize a5q (a5q r g) b=mn at *;rw [hm.eqF hM];obtain⟨c0,e⟩:=a5l e;have hs:=hM.add hm (by decide);have hl:=hs.div two_fx (by decide +kernel) (c1w c0) (by decide);generalize b3a (b7m M N) d0e=L at *;generalize PySem.Float64.div (PySem.Float64.add mx mn) f2=l at *;rcases c2k e with⟨c,e⟩ | ⟨c,e⟩
 ·rw [c];exact⟨_,_,_,_,rfl,a6a,hl,a6a,e⟩
 rw [c,if_neg Bool.false_ne_true];obtain⟨c1,e⟩:=a5l e;have hrg:=hM.sub hm (Nat.ble_eq.mp c1) (by decide);rw [hl.leF b9g];rcases c2k e with⟨c2,e⟩ | ⟨c2,e⟩
 ·rw [c2,if_pos rfl]
  exact d5b hr hg hb hM hrg hl (hs.le (by decide)) e
 ·rw [c2,if_neg Bool.false_ne_true]
  obtain⟨c3,e⟩:=a5l e;obtain⟨c4,e⟩:=a5l e;exact d5b hr hg hb hM hrg hl (((two_fx.sub hM (Nat.ble_eq.mp c3) (by decide)).sub hm (Nat.ble_eq.mp c4) (by decide)).le (by decide)) e
end
end
section
open PySem PySem.Float64
noncomputable def b5u:Nat:=Nat.mul 6004799503160661 (Nat.pow 2 1020)
noncomputable def c9e:Nat:=Nat.mul 6004799503160661 (Nat.pow 2 1019)
noncomputable def b9w:Nat:=Nat.mul 6004799503160661 (Nat.pow 2 1021)
theorem third_fx:FX 1 false th3.a b5u:=.lit 4599676419421066581 (by decide +kernel) (by decide +kernel) (by decide +kernel) (by decide +kernel)
theorem d3p:FX 1 false th3.b c9e:=.lit 4595172819793696085 (by decide +kernel) (by decide +kernel) (by decide +kernel) (by decide +kernel)
theorem twoTh_fx:FX 1 false th3.c b9w:=.lit 4604180019048437077 (by decide +kernel) (by decide +kernel) (by decide +kernel) (by decide +kernel)
noncomputable def vX(m1 m2 d h:Nat):Nat:=
 bN (Nat.ble c9e h) (bN (Nat.ble c8n h) (bN (Nat.ble b9w h) m1 (b7m m1 (a9f (a9f d (a5p b9w h)) b8p))) m2) (b7m m1 (a9f (a9f d h) b8p))
section
variable(kk:Nat->Nat->Nat->Bool)
noncomputable def f0b(m1 m2 d h1 h2 h3:Nat):Bool:=kk (vX m1 m2 d h1) (vX m1 m2 d h2) (vX m1 m2 d h3)
noncomputable def f1b(m2 h1 h2 h3 m1:Nat):Bool:=bB (Nat.ble m1 m2) (f0b kk m1 m2 (a5p m2 m1) h1 h2 h3) false
noncomputable def e7d(l2 m2 h1 h2 h3:Nat):Bool:=bB (Nat.ble m2 l2) (f1b kk m2 h1 h2 h3 (a5p l2 m2)) false
noncomputable def e9p(l s h1 h2 h3:Nat):Bool:=bB (Nat.ble (a9f l s) (b7m l s)) (e7d kk (a9f d0e l) (a5p (b7m l s) (a9f l s)) h1 h2 h3) false
noncomputable def e9b(l s h1 h2 h3:Nat):Bool:=bB (Nat.beq s 0) (kk l l l) (bB (Nat.ble l c8n) (e7d kk (a9f d0e l) (a9f l (b7m a3l s)) h1 h2 h3) (e9p kk l s h1 h2 h3))
end
section
variable{kk:Nat->Nat->Nat->Bool}{m1 m2 hue h l s:UInt64}{M1 M2 H1 H2 H3 L S:Nat}
theorem nft:(!false)=true:=rfl
theorem nnt:¬(!true)=true:=nofun
theorem e4x(a b:Nat):bN true a b=a:=rfl
theorem e7j(a b:Nat):bN false a b=b:=rfl
theorem v_x(h1:FX 10 false m1 M1)(h2:FX 10 false m2 M2)(hle:M1<=M2)(hh:FX 2 false (Mine.mod1 hue) H1):FX 20 false (pV th3 m1 m2 hue) (vX M1 M2 (a5p M2 M1) H1):=by
 unfold pV vX;rw [hh.ltF d3p,hh.ltF b9g,hh.ltF twoTh_fx];have hd:=h2.sub h1 hle (by decide);by_cases c1:c9e<=H1
 ·rw [Nat.ble_eq.mpr c1,e4x,if_neg nnt]
  by_cases c2:c8n<=H1
  ·rw [Nat.ble_eq.mpr c2,e4x,if_neg nnt]
   by_cases c3:b9w<=H1
   ·rw [Nat.ble_eq.mpr c3,e4x,if_neg nnt];exact h1.le (by decide)
   ·rw [b4f c3,e7j,if_pos nft]
    exact(h1.le (j:=18) (by decide)).add ((hd.mul (twoTh_fx.sub hh (Nat.le_of_lt (Nat.lt_of_not_le c3)) (by decide)) (by decide)).mul b5w (by decide)) (by decide)
  ·rw [b4f c2,e7j,if_pos nft];exact h2.le (by decide)
 ·rw [b4f c1,e7j,if_pos nft]
  exact(h1.le (j:=18) (by decide)).add ((hd.mul hh (by decide)).mul b5w (by decide)) (by decide)
theorem d4t{l2:UInt64}{L2:Nat}(a1:FX 2 false (Mine.mod1 (PySem.Float64.add h th3.a)) H1)(a2:FX 2 false (Mine.mod1 h) H2)(a3:FX 2 false (Mine.mod1 (PySem.Float64.sub h th3.a)) H3)(hl:FX 9 false l2 L2)(hm:FX 10 false m2 M2)(e:e7d kk L2 M2 H1 H2 H3=true) :
  IsC 20 (some (d1q th3 (PySem.Float64.sub l2 m2) m2 h)) kk:=by
 obtain⟨c1,e⟩:=a5l e;obtain⟨c2,e⟩:=a5l e;have h1:=hl.sub hm (Nat.ble_eq.mp c1) (by decide);have hle:=Nat.ble_eq.mp c2;exact⟨_,_,_,_,rfl,v_x h1 hm hle a1,v_x h1 hm hle a2,v_x h1 hm hle a3,e⟩
theorem e1w(a1:FX 2 false (Mine.mod1 (PySem.Float64.add h th3.a)) H1)(a2:FX 2 false (Mine.mod1 h) H2)(a3:FX 2 false (Mine.mod1 (PySem.Float64.sub h th3.a)) H3)(hl:FX 3 false l L)(hs:FX 3 false s S)(e:e9b kk L S H1 H2 H3=true) :
  IsC 20 (some (a0s th3 h l s)) kk:=by
 unfold a0s;rw [hs.eqF (a6a (i:=1)),hl.leF b9g];have h2:=two_fx.mul hl (by decide);rcases c2k e with⟨c,e⟩ | ⟨c,e⟩
 ·rw [c];exact⟨_,_,_,_,rfl,hl.le (by decide),hl.le (by decide),hl.le (by decide),e⟩
 rw [c,if_neg Bool.false_ne_true];rcases c2k e with⟨c,e⟩ | ⟨c,e⟩
 ·rw [c,if_pos rfl]
  exact d4t a1 a2 a3 (h2.le (by decide)) ((hl.mul ((one_fx.le (by decide)).add hs (by decide)) (by decide)).le (by decide)) e
 ·rw [c,if_neg Bool.false_ne_true]
  obtain⟨c,e⟩:=a5l e;exact d4t a1 a2 a3 (h2.le (by decide)) (((hl.add hs (by decide)).sub (hl.mul hs (by decide)) (Nat.ble_eq.mp c) (by decide)).le (by decide)) e
end
noncomputable def a9s(K X:Nat):Nat:=Nat.div (Nat.div (b7m (a9f (b7g K) X) (b7g 1)) a3l) 2
theorem c6c{x:UInt64}{X K:Nat}(h:FX 21 false x X)(hk:K<2^12):a8i K x=some ((a9s K X:Nat):Int):=by
 have:FX 37 false (c1x K x) (b7m (a9f (b7g K) X) (b7g 1)):=((FX.ofN hk (by decide)).mul h (by decide)).add ((FX.ofN (n:=1) (k:=1) (by decide) (by decide)).le (by decide)) (by decide);unfold a8i;rw [this.finite,if_pos rfl,this.toInt];exact congrArg some (d3s _ 2)
theorem e1l{i:Nat}{x:UInt64}{X:Nat}(h:FX i false x X)(hle:X<=a3l):e0c x=true:=by
 obtain⟨m,e,d,_⟩:=h.at';unfold e0c;rw [cmpInt_right d,cmpInt_right d,h.val];have a:(some (compare (sgn false X) (0 * 2^1074))==some Ordering.gt||some (compare (sgn false X) (0 * 2^1074))==some Ordering.eq)=true:=by
  rw [Int.zero_mul];rcases Nat.eq_zero_or_pos X with q | q
  ·rw [q];rfl
  ·rw [show compare (sgn false X) 0=.gt from Int.compare_eq_gt.mpr (Int.ofNat_lt.mpr q)];rfl
 have b:(some (compare (sgn false X) (1 * 2^1074))==some Ordering.lt||some (compare (sgn false X) (1 * 2^1074))==some Ordering.eq)=true:=by
  rw [Int.one_mul,show(2:Int)^1074=(a3l:Int)from(Int.natCast_pow 2 1074).symm];rcases Nat.eq_or_lt_of_le hle with q | q
  ·rw [q,show compare (sgn false a3l) (a3l:Int)=.eq from Int.compare_eq_eq.mpr rfl];rfl
  ·rw [show compare (sgn false X) (a3l:Int)=.lt from Int.compare_eq_lt.mpr (Int.ofNat_lt.mpr q)];rfl
 rw [a,b];rfl
noncomputable def frX(n d:Nat):Nat:=b2c (Nat.mul n a3l) d
theorem q_x{n d k:Nat}(hd:0<d)(h:n<d * 2^k)(hk:k+1<=900):∃ x,qO n d=some x/\FX (k+1) false x (frX n d):=by
 have f:=FX.frac hd h hk;refine⟨_,?_,f⟩;obtain⟨m,e,d1,_⟩:=f.at';unfold qO PySem.Float64.isInf;rw [d1];rfl
end
section
open PySem PySem.Float64
noncomputable def h3K(k:Nat->Bool)(H:Nat):Bool:=bB (Nat.ble b5u H) (k (a6y (a5p H b5u))) (hN3 k (a6y (a5p b5u H)))
noncomputable def e8k(kk:Nat->Nat->Nat->Bool)(l s H h3:Nat):Bool:=e9b kk l s (a6y (b7m H b5u)) (a6y H) h3
theorem e6j{kk:Nat->Nat->Nat->Bool}{h l s:UInt64}{H L S:Nat}(hh:FX 10 false h H)(hl:FX 3 false l L)(hs:FX 3 false s S)(e:h3K (e8k kk L S H) H=true):IsC 20 (some (a0s th3 h l s)) kk:=by
 have a1:=(hh.add (third_fx.le (by decide)) (by decide)).mod1.le (j:=2) (by decide);have a2:=hh.mod1.le (j:=2) (by decide);rcases c2k e with⟨c,e⟩ | ⟨c,e⟩
 ·exact e1w a1 a2 ((hh.sub third_fx (Nat.ble_eq.mp c) (by decide)).mod1.le (by decide)) hl hs e
 ·obtain⟨c2,e⟩:=a5l e
  exact e1w a1 a2 ((hh.subN third_fx (Nat.lt_of_not_le fun q=>by rw [Nat.ble_eq.mpr q]at c;exact nt c.symm) (by decide)).mod1N (Nat.ble_eq.mp c2)) hl hs e
noncomputable def f0s(wh m a b z p q:Nat):Bool:=bB (Nat.beq (Nat.mod z 16) 0) (bB (Nat.beq (Nat.mod (Nat.div z 16) wh) m) (bB (Nat.beq p (Nat.mul 256 a)) (Nat.beq q (Nat.mul 256 b)) false) false) false
noncomputable def d8r(wh m a b h p q:Nat):Bool:=bB (Nat.ble h a3l) (f0s wh m a b (a9s (Nat.mul 32 wh) h) (a9s 2048 p) (a9s 2048 q)) false
noncomputable def plX(num wh sh lv:Nat)(e:Bool):Bool:=
 bB e (e8b (e1j (d8r wh (Nat.mod num wh) sh lv)) (frX num wh) (frX sh 4) (frX lv 4)) (h3K (e8k (e1h (d8r wh (Nat.mod num wh) lv sh)) (frX lv 4) (frX sh 4) (frX num wh)) (frX num wh))
theorem d4f{t:C3}{A B C wh m a b:Nat}(hw:wh<=64)(h1:FX 21 false t.1 A)(h2:FX 21 false t.2.1 B)(h3:FX 21 false t.2.2 C)(e:d8r wh m a b A B C=true) :
  (e0c t.1&&(match a8i (32 * wh) t.1 with | some z=>z.fmod 16==0&&(z.fdiv 16).fmod wh==(m:Int) | _=>false)&&(a8i 2048 t.2.1==some (256 * (a:Int)))&&(a8i 2048 t.2.2==some (256 * (b:Int))))=true:=by
 obtain⟨c0,e⟩:=a5l e;obtain⟨c1,e⟩:=a5l e;obtain⟨c2,e⟩:=a5l e;obtain⟨c3,c4⟩:=a5l e;rw [e1l h1 (Nat.ble_eq.mp c0),c6c h1 (Nat.lt_of_le_of_lt (Nat.mul_le_mul_left 32 hw) (by decide)),c6c h2 (by decide),c6c h3 (by decide)];dsimp only;rw [show((a9s (32 * wh) A:Nat):Int).fmod 16=((a9s (32 * wh) A%16:Nat):Int)from c4x _ 16,show((a9s (32 * wh) A:Nat):Int).fdiv 16=((a9s (32 * wh) A / 16:Nat):Int)from d3s _ 16,c4x];rw [show a9s (32 * wh) A%16=0 from Nat.eq_of_beq_eq_true c1,show a9s (32 * wh) A / 16%wh=m from Nat.eq_of_beq_eq_true c2,show a9s 2048 B=256 * a from Nat.eq_of_beq_eq_true c3,show a9s 2048 C=256 * b from Nat.eq_of_beq_eq_true c4];simp
theorem e9s(a b:Bool):bB true a b=a:=rfl
theorem f0j(a b:Bool):bB false a b=b:=rfl
theorem e9a{num wh sh lv:Nat}{e:Bool}(hn:num<2^9)(h0:0<wh)(hw:wh<=64)(hs:sh<8)(hl:lv<8)(h:plX num wh sh lv e=true):b5t num wh sh lv e=true:=by
 obtain⟨x,q1,f1⟩:=q_x (d:=wh) (k:=9) h0 (Nat.lt_of_lt_of_le hn (Nat.le_mul_of_pos_left _ h0)) (by decide);obtain⟨s,q2,f2⟩:=q_x (d:=4) (n:=sh) (k:=1) (by decide) hs (by decide);obtain⟨l,q3,f3⟩:=q_x (d:=4) (n:=lv) (k:=1) (by decide) hl (by decide);have f2:=f2.le (j:=3) (by decide);have f3:=f3.le (j:=3) (by decide);unfold b5t d9v;rw [q1,q2,q3];induction e using Bool.casesOn with
 | true=>
  obtain⟨c,A,B,C,e1,a1,a2,a3,h⟩:=e6k f1 f2 f3 ((e9s _ _).symm.trans h);obtain⟨t,A,B,C,e2,b1,b2,b3,h⟩:=d2a (a1.le (by decide)) (a2.le (by decide)) (a3.le (by decide)) h;rw [show((some x).bind fun h=>(some s).bind fun s=>(some l).bind fun l=>if true=true then(a7l h s l).bind fun c=>a7m c.1 c.2.1 c.2.2 else a7o (a0s th3 h l s).1 (a0s th3 h l s).2.1 (a0s th3 h l s).2.2)=some t from(congrArg (Option.bind · _) e1).trans e2];exact d4f hw (b1.le (by decide)) (b2.le (by decide)) (b3.le (by decide)) h
 | false=>
  obtain⟨c,A,B,C,e1,a1,a2,a3,h⟩:=e6j f1 f3 f2 ((f0j _ _).symm.trans h);obtain rfl:=Option.some.inj e1;obtain⟨t,A,B,C,e2,b1,b2,b3,h⟩:=d4a a1 a2 a3 h;rw [show((some x).bind fun h=>(some s).bind fun s=>(some l).bind fun l=>if false=true then(a7l h s l).bind fun c=>a7m c.1 c.2.1 c.2.2 else a7o (a0s th3 h l s).1 (a0s th3 h l s).2.1 (a0s th3 h l s).2.2)=some t from e2];exact d4f hw b1 b2 b3 h
noncomputable def e6y(f:Nat->Bool)(a n:Nat):Bool:=@Nat.rec (fun zz=>Bool) true (fun k ih=>bB (f (Nat.add a k)) ih false) n
theorem c4s{f:Nat->Bool}{a n:Nat}(h:e6y f a n=true){k:Nat}(hk:k<n):f (a+k)=true:=by
 induction n with
 | zero=>exact absurd hk (Nat.not_lt_zero _)
 | succ n ih=>
  obtain⟨h1,h2⟩:=a5l h;rcases Nat.eq_or_lt_of_le (Nat.le_of_lt_succ hk)with q | q
  ·rw [q];exact h1
  ·exact ih h2 q
end
end Mine
end
section
set_option maxRecDepth 100000
namespace Mine
section
noncomputable def a8v(j:Nat):Nat:=bN (Nat.beq j 7) 64 (Nat.succ j)
noncomputable def plT(sh lv:Nat):Bool:=e6y (fun j=>e6y (fun n=>bB (plX n (a8v j) sh lv true) (plX n (a8v j) sh lv false) false) 7 48) 0 8
theorem e4p:plT 1 1=true:=by decide +kernel
theorem e7z:plT 1 2=true:=by decide +kernel
theorem e5k:plT 1 3=true:=by decide +kernel
theorem e5o:plT 2 1=true:=by decide +kernel
theorem e7p:plT 2 2=true:=by decide +kernel
theorem e5c:plT 2 3=true:=by decide +kernel
theorem e6v:plT 3 1=true:=by decide +kernel
theorem e6a:plT 3 2=true:=by decide +kernel
theorem e5g:plT 3 3=true:=by decide +kernel
theorem e4v:plT 4 1=true:=by decide +kernel
theorem e7a:plT 4 2=true:=by decide +kernel
theorem e5w:plT 4 3=true:=by decide +kernel
theorem e2q{a b:Nat}(ha:a<4)(hb:b<3):plT (1+a) (1+b)=true:=by
 rcases(by decide:∀ a<4,a=0∨a=1∨a=2∨a=3) a ha with rfl | rfl | rfl | rfl<;>rcases(by decide:∀ b<3,b=0∨b=1∨b=2) b hb with rfl | rfl | rfl
 ·exact e4p
 ·exact e7z
 ·exact e5k
 ·exact e5o
 ·exact e7p
 ·exact e5c
 ·exact e6v
 ·exact e6a
 ·exact e5g
 ·exact e4v
 ·exact e7a
 ·exact e5w
theorem c8l{c p wh:Nat}(hc:c<48)(h0:0<wh)(hw:wh<=7∨wh=64)(e:Bool):b5t (7+c) wh (1+p%4) (1+p / 4%3) e=true:=by
 have h1:p%4<4:=Nat.mod_lt _ (by decide);have h2:p / 4%3<3:=Nat.mod_lt _ (by decide);have key:=e2q h1 h2;generalize p%4=a at *;generalize p / 4%3=b at *;obtain⟨j,hj,rfl⟩:∃ j,j<8/\a8v j=wh:=by
  rcases hw with hw | rfl
  ·refine⟨wh-1,by omega,?_⟩
   have:∀ j<7,a8v j=j+1:=by decide +kernel
   rw [this _ (by omega)];omega
  ·exact⟨7,by decide,rfl⟩
 have:=c4s (c4s key hj) hc;rw [Nat.zero_add]at this;obtain⟨q1,q2⟩:=a5l this;have hw:∀ j<8,0<a8v j/\a8v j<=64:=by decide +kernel
 have hn:7+c<2^9:=Nat.lt_trans (Nat.add_lt_add_left hc 7) (by decide);cases e
 ·exact e9a hn (hw j hj).1 (hw j hj).2 (by omega) (by omega) q2
 ·exact e9a hn (hw j hj).1 (hw j hj).2 (by omega) (by omega) q1
end
end Mine
end
section
open PySem PySem.W PySem.Calls PyProof.Rows
set_option maxRecDepth 100000
namespace Mine
section
theorem d8f:1000<=big:=by decide
noncomputable def vI(cs:List Nat):V:=.lst (cs.map fun c=>V.int (c:Nat))
noncomputable def vS(ws:List (List Nat)):V:=.lst (ws.map .str)
noncomputable def Knows(ρ:Rho)(l:List (Nat×V)):Prop:=∀ i v,l.lookup i=some v->ρ.lookup i=some v
section
variable{μ μ':Mu}{N M:Nat}{ρ:Rho}{Γ:G}{n:Nat}{l:List (Nat×V)}
theorem a1z{i j:Nat}{u v:V}(h:ρ.lookup i=some v)(h2:i≠j):(put j u ρ).lookup i=some v:=by
 rw [a0b,if_neg h2,h]
theorem a1c{j:Nat}{u:V}:(put j u ρ).lookup j=some u:=by
 rw [a0b,if_pos rfl]
theorem a6h{i j:Nat}{v:V}{r:List (Nat×V)}:((i,v)::r).lookup j=if j=i then some v else r.lookup j:=by
 rw [List.lookup_cons];by_cases e:j=i
 ·rw [if_pos e,e,beq_self_eq_true]
 ·rw [if_neg e,beq_false_of_ne e]
theorem Knows.put(k:Knows ρ l)(i:Nat)(v:V):Knows (Mine.put i v ρ) ((i,v)::l):=by
 intro j u h;rw [a6h]at h;rw [a0b];exact ifE h (fun e h=>by rw [if_pos e];exact h) fun e h=>by rw [if_neg e];exact k j u h
theorem Knows.nil:Knows ρ []:=fun zz zz h=>nomatch h
theorem Knows.cons{i:Nat}{v:V}(h:ρ.lookup i=some v)(k:Knows ρ l):Knows ρ ((i,v)::l):=by
 intro j u e;rw [a6h]at e;exact ifE e (fun q e=>by rw [q,h];exact e) fun zz e=>k j u e
theorem Knows.self:Knows l l:=fun zz zz h=>h
theorem a2q{own:List Nat}{i:Nat}(h:own.contains i=false)(ρ:Rho):(ρ.filter fun p=>!own.contains p.1).lookup i=ρ.lookup i:=by
 induction ρ with
 | nil=>rfl
 | cons p r ih=>
  rw [a6h];induction hj:own.contains p.1 using Bool.casesOn with
  | true=>
   rw [List.filter_cons_of_neg (by rw [hj];exact Bool.false_ne_true),ih,if_neg fun e=>by rw [← e,h]at hj;exact nt hj]
  | false=>rw [List.filter_cons_of_pos (by rw [hj];rfl),a6h,ih]
theorem Knows.own{own:List Nat}(k:Knows ρ l)(h:l.all (fun p=>!own.contains p.1)=true):Knows (ρ.filter fun p=>!own.contains p.1) l:=by
 intro i v e;rw [a2q ?_]
 ·exact k i v e
 ·obtain⟨p,hp,rfl⟩:∃ p∈l,p.1=i:=by
   clear k h;induction l with
   | nil=>exact ns e
   | cons p r ih=>
    rw [a6h]at e;exact ifE e (fun q zz=>⟨p,List.mem_cons_self,q.symm⟩) fun zz e=>let⟨q,h1,h2⟩:=ih e;⟨q,List.mem_cons_of_mem _ h1,h2⟩
  exact c4p (List.all_eq_true.mp h p hp)
theorem c1y{k:Nat}{l:List V}(h:μ[k]?=some (.list l)):a1n μ (.mut k)=.lst l:=b1z h
theorem e1v{a b:List V}(h:a.length+b.length<=big):a0x .Add (.lst a) (.lst b)=some (.lst (a++b)):=by
 rw [b1s];exact if_pos (decide_eq_true h)
theorem b9u{i k:Nat}{l:List V}{v:V}{x:X}(hf:∀ u μ,Γ.find 10 u μ=d1v 10 u μ)(hm:∀ n u args μ,Γ.meth n 10 u args μ=d0j n 10 u args μ)(h1:ρ.lookup i=some (.mut k))(hv:ev Γ (M+1) x ρ μ=some (v,μ'))(hk0:a5z μ (.mut k)=true)(hk:μ'[k]?=some (.list l))(hz:l.length<=big) :
  ev Γ (M+2) (.meth 10 (.loc i) [x]) ρ μ=some (.none,μ'.set k (.list (l++[v]))):=by
 refine(a4p (evl h1) ((hf _ _).trans hk0) (a5j hv)).trans ((hm _ _ _ _).trans ?_);show(match (generalizing:=false) μ'[k]? with | some (.list l)=>if l.length<=big then some (V.none,μ'.set k (.list (l++[v])))else .none | _=>.none)=_
 rw [hk];exact if_pos hz
theorem b4y{l:List X}{vs:List V}(h:evs (fun x μ=>ev Γ n x ρ μ) l μ=some (vs,μ'))(hz:vs.length<=big):ev Γ (n+1) (.mlst l) ρ μ=some (.mut μ'.length,μ'++[.list vs]):=by
 rw [b1k,h];exact if_pos hz
theorem getD_some{l:List Nat}{k:Nat}(h:k<l.length):l[k]?=some (l.getD k 0):=by
 rw [List.getD_eq_getElem?_getD,List.getElem?_eq_getElem h];rfl
theorem d2l{cs:List Nat}{k:Nat}(h:k<cs.length)(hz:cs.length<=big):item (vI cs) (.int (k:Int))=some (.int (cs.getD k 0:Nat)):=
 b0b (by rw [List.getElem?_map,getD_some h];rfl) (by rw [List.length_map];exact hz)
theorem b5h(l:List Nat):vI l=V.lst ((l.map fun(k:Nat)=>(k:Int)).map .int):=by
 unfold vI;rw [List.map_map];rfl
theorem d8e{a b:List Nat}:(a.map fun(k:Nat)=>(k:Int))=b.map (fun(k:Nat)=>(k:Int))↔a=b:=
 ⟨fun h=>(List.map_inj_right fun zz zz q=>Int.ofNat.inj q).mp h,fun h=>congrArg _ h⟩
theorem d6q(a b:List Nat):a0z .Eq (vI a) (vI b)=some (decide (a=b)):=by
 rw [b5h,b5h];exact(encInts.cmpEq (by decide) (fun zz zz=>trivial) (fun zz zz=>trivial)).trans (congrArg some (decide_eq_decide.mpr d8e))
theorem c0n{x:X}{l:List V}(hc:∀(n:Nat) (args:List V) (μ:Mu),Γ.call n 0 args μ=e2y args μ)(h:ev Γ n x ρ μ=some (.lst l,μ))(hz:l.length<=big):ev Γ (n+1) (.call 0 [x]) ρ μ=some (.int l.length,μ):=
 (a0k (a1q h)).trans ((hc _ _ _).trans (if_pos hz))
theorem d5j{o k:Nat}(i j:Nat)(hi:ρ.lookup i=some (.int (o:Int)))(hj:ρ.lookup j=some (.int (k:Int)))(hk:k<50):ev Γ (N+4) (.bin .Mod (.bin .FloorDiv (.loc i) (.bin .Pow (.cst (.int 2)) (.loc j))) (.cst (.int 2))) ρ μ=some (.int (o / 2^k%2:Nat),μ):=by
 have hp:a0x .Pow (.int 2) (.int (k:Int))=some (.int ((2^k:Nat):Int)):=by
  have a1:decide (0<=(k:Int))=true:=decide_eq_true (Int.natCast_nonneg k);have a2:decide ((k:Int)<=1000)=true:=decide_eq_true (Int.ofNat_le.mpr (Nat.le_trans (Nat.le_of_lt hk) (by decide)));rw [b1m,a1,a2,Int.natCast_pow];rfl
 exact evb (evb (evl hi) (evb evc (evl hj) hp) (b3h o (Nat.ne_of_gt (Nat.pow_pos (by decide))) (Nat.pow_lt_pow_right (by decide) (Nat.lt_trans hk (by decide))))) evc (a7d _ (b:=2) (by decide))
theorem b6u(b:Nat)(h:b<2):a0x .Sub (.int 1) (.int (b:Int))=some (.int ((1-b:Nat):Int)):=by
 rcases b4l h with rfl | rfl<;>rfl
end
theorem e0k:∀ a:Nat,a<9->∀ b:Nat,b<9->Builtin.Range.small (a:Nat) (b:Nat) 1=true/\Builtin.Range.rangeSize (a:Nat) (b:Nat) 1=((b-a:Nat):Int):=by decide +kernel
theorem e7m:∀ n:Nat,n<8->∀ d:Nat,d<8->d<=n->Builtin.Range.small ((n:Int)-1) ((d:Int)-1) (-1)=true/\Builtin.Range.rangeSize ((n:Int)-1) ((d:Int)-1) (-1)=((n-d:Nat):Int):=by decide +kernel
theorem e4q:∀ n:Nat,n<8->∀ w:Nat,w<8->0<w->w<=n->Builtin.Range.small 0 ((n:Int)-w+1) (w:Nat)=true/\Builtin.Range.rangeSize 0 ((n:Int)-w+1) (w:Nat)=((n / w:Nat):Int):=by decide +kernel
theorem b6n{a b:Nat}(ha:a<9)(hb:b<9):a0l [.int (a:Int),.int (b:Int)]=some ((List.range' a (b-a)).map fun(i:Nat)=>V.int i):=by
 obtain⟨h1,h2⟩:=e0k a ha b hb;rw [d1g h1];unfold a0p;rw [h2,Int.toNat_natCast,List.range'_eq_map_range,List.map_map];exact congrArg some (List.map_congr_left fun i zz=>by rw [Int.mul_one];rfl)
theorem a3b{b:Nat}(hb:b<9):a0l [.int (b:Int)]=some ((List.range b).map fun(i:Nat)=>V.int i):=by
 obtain⟨h1,h2⟩:=e0k 0 (by decide) b hb;rw [d1k h1];unfold a0p;rw [show Builtin.Range.rangeSize 0 (b:Int) 1=((b-0:Nat):Int)from h2,Int.toNat_natCast];exact congrArg some (List.map_congr_left fun i zz=>by rw [Int.mul_one,Int.zero_add])
theorem b3x{a b c:Int}(h1:Builtin.Range.small a b c=true)(h2:c≠0)(h3:Mine.small c=true):a0l [.int a,.int b,.int c]=some (a0p a b c):=
 if_pos (show(Builtin.Range.small a b c&&c != 0&&Mine.small c)=true by rw [h1,h3,bne_iff_ne.mpr h2];rfl)
theorem c3h{n d:Nat}(hn:n<8)(hd:d<=n):a0l [.int ((n:Int)-1),.int ((d:Int)-1),.int (-1)]=some ((List.range (n-d)).map fun(i:Nat)=>V.int ((n-1-i:Nat):Int)):=by
 obtain⟨h1,h2⟩:=e7m n hn d (Nat.lt_of_le_of_lt hd hn) hd;rw [b3x h1 (by decide) (by decide)];unfold a0p;rw [h2,Int.toNat_natCast];refine congrArg some (List.map_congr_left fun i hi=>?_);have:=List.mem_range.mp hi;exact congrArg V.int (by omega)
theorem c2t{n w:Nat}(hn:n<8)(h0:0<w)(hw:w<=n):a0l [.int 0,.int ((n:Int)-w+1),.int (w:Nat)]=some ((List.range (n / w)).map fun(i:Nat)=>V.int ((i * w:Nat):Int)):=by
 obtain⟨h1,h2⟩:=e4q n hn w (Nat.lt_of_le_of_lt hw hn) h0 hw;rw [b3x h1 (bne_iff_ne.mp (b9v (Nat.ne_of_gt h0))) (a6d (Nat.lt_trans (Nat.lt_of_le_of_lt hw hn) (by decide)))];unfold a0p;rw [h2,Int.toNat_natCast];exact congrArg some (List.map_congr_left fun i zz=>by rw [Int.zero_add];rfl)
end
section
noncomputable def b2h:Nat->List Nat->List Nat->Nat->List Nat
 | 0,_,dr,_=>dr
 | c+1,l,dr,n=>b2h c (l.erase (l.getD (n%(c+1)) 0)) (dr++[l.getD (n%(c+1)) 0]) (n / (c+1))
noncomputable def c4l:Nat->List V
 | 0=>[]
 | c+1=>.int ((c+1:Nat):Int)::c4l c
theorem e0t(x:Nat)(l:List Nat):a0z .NotIn (.int (x:Int)) (vI l)=some (!decide (x∈l)):=by
 rw [b5h];have:=encInt.cmpIn (by decide) (a:=(x:Int)) (l:=l.map fun(k:Nat)=>(k:Int)) trivial (fun zz zz=>trivial);show(d0c (.int x) _).map (!·)=_;rw [show d0c (.int (x:Int)) (.lst ((l.map fun(k:Nat)=>(k:Int)).map .int))=some (decide ((x:Int)∈l.map fun(k:Nat)=>(k:Int)))from this];exact congrArg (fun b=>some (!b)) (decide_eq_decide.mpr ⟨fun h=>let⟨y,h1,h2⟩:=List.mem_map.mp h;Int.ofNat.inj h2▸h1,fun h=>List.mem_map.mpr ⟨x,h,rfl⟩⟩)
section
variable{μ:Mu}{N:Nat}{ρ:Rho}
theorem c5v{c n:Nat}{l dr:List Nat}(hl:l.length=c+1)(hc:c<100)(hnd:l.Nodup)(hdis:∀ x∈l,x∉dr)(hz:dr.length<1000)
  (k:Knows ρ [(9,.int ((c+1:Nat):Int)),(148,vI l),(149,.mut μ.length),(83,.int (n:Int))]) :
  exec g0 (N+30) d8c ρ (μ++[.list (dr.map fun c=>V.int (c:Nat))])=some (.next,put 83 (.int (n / (c+1):Nat)) (put 148 (vI (l.erase (l.getD (n%(c+1)) 0))) ρ),μ++[.list ((dr++[l.getD (n%(c+1)) 0]).map fun c=>V.int (c:Nat))]):=by
 have hlt:n%(c+1)<l.length:=by rw [hl];exact Nat.mod_lt _ (Nat.succ_pos c)
 have hzl:l.length<=big:=by rw [hl];exact Nat.le_trans (Nat.succ_le_of_lt hc) (by decide)
 have e1:=b9u (Γ:=g0) (M:=N+27) (i:=149) (x:=.sub (.loc 148) (.bin .Mod (.loc 83) (.loc 9))) (μ:=μ++[.list (dr.map fun c=>V.int (c:Nat))]) (fun zz zz=>rfl) (fun zz zz zz zz=>rfl) (k 149 _ rfl)
  (a4o (evl (k 148 _ rfl)) (evb (evl (k 83 _ rfl)) (evl (k 9 _ rfl)) (a7d n (b:=c+1) (Nat.succ_ne_zero c))) (d2l hlt hzl)) (a5c (a2v _ _)) (a2v _ _) (by rw [List.length_map];exact Nat.le_trans (Nat.le_of_lt hz) d8f)
 rw [b3s]at e1;obtain⟨d,hd⟩:∃ d,d=l.getD (n%(c+1)) 0:=⟨_,rfl⟩;have hmem:d∈l:=List.mem_of_getElem? ((getD_some hlt).trans (congrArg some hd.symm));rw [← hd]at e1 ⊢;have em:dr.map (fun c=>V.int (c:Nat))++[V.int (d:Nat)]=(dr++[d]).map fun c=>V.int (c:Nat):=by rw [List.map_append];rfl
 rw [em]at e1;refine(a0a (f:=a0d g0 (N+29)) (a3d e1)).trans ((a0a (a2c ?_)).trans rfl);refine a7r (evn ?_ (a1q ?_)) (show 2<=big by decide)
 ·have hf:l.erase d=l.filter fun x=>!decide (x∈dr++[d]):=by
   rw [hnd.erase_eq_filter];refine List.filter_congr fun x hx=>?_;have h1:=hdis x hx;by_cases q:x=d
   ·subst q;simp
   ·have:x∉dr++[d]:=fun m=>(List.mem_append.mp m).elim h1 fun m=>q (List.mem_singleton.mp m)
    rw [decide_eq_false this,bne_iff_ne.mpr q];rfl
  rw [hf];refine a2r (vs:=l.map fun c=>V.int (c:Nat)) ?_ (by rw [List.length_map];exact hzl) ?_
  ·rw [e4d,evl (k 148 _ rfl)];rfl
  ·refine a6i (h:=fun(c:Nat)=>V.int c) (g:=fun(c:Nat)=>V.int c) (p:=fun x=>!decide (x∈dr++[d])) l _ (fun x zz=>?_) fun x zz zz=>evl a1c
   refine a0i (v:=.mut μ.length) (evl a1c) (evl (a1z ((a2q (own:=[42,150]) rfl ρ).trans (k 149 _ rfl)) (by decide))) ?_;rw [c1y (a2v _ _)];exact e0t x _
 ·exact evb (evl (k 83 _ rfl)) (evl (k 9 _ rfl)) (b3h n (Nat.succ_ne_zero c) (Nat.lt_trans (Nat.succ_lt_succ hc) (by decide)))
theorem c8c:∀(c n:Nat) (l dr:List Nat) (ρ:Rho),l.length=c->c<100->l.Nodup->(∀ x∈l,x∉dr)->dr.length+c<1000->Knows ρ [(148,vI l),(149,.mut μ.length),(83,.int (n:Int))] →
  ∃ ρ',a3w (fun ρ μ=>exec g0 (N+30) d8c ρ μ) (.one 9) (c4l c) ρ (μ++[.list (dr.map fun c=>V.int (c:Nat))])=some (.next,ρ',μ++[.list ((b2h c l dr n).map fun c=>V.int (c:Nat))])/\ρ'.lookup 149=some (.mut μ.length):=by
 intro c;induction c with
 | zero=>intro n l dr ρ _ _ _ _ _ k;exact⟨ρ,rfl,k 149 _ rfl⟩
 | succ c ih=>
  intro n l dr ρ hl hc hnd hdis hz k;have hlt:n%(c+1)<l.length:=by rw [hl];exact Nat.mod_lt _ (Nat.succ_pos c)
  have hmem:l.getD (n%(c+1)) 0∈l:=List.mem_of_getElem? (getD_some hlt);have k1:=k.put 9 (.int ((c+1:Nat):Int));have e1:=c5v (N:=N) hl (Nat.lt_of_succ_lt hc) hnd hdis (Nat.lt_of_le_of_lt (Nat.le_add_right _ _) hz) k1;have k2:=(k1.put 148 (vI (l.erase (l.getD (n%(c+1)) 0)))).put 83 (.int (n / (c+1):Nat));have hd:∀ x∈l.erase (l.getD (n%(c+1)) 0),x∉dr++[l.getD (n%(c+1)) 0]:=fun x hx m=>by
   rcases List.mem_append.mp m with m | m
   ·exact hdis x (List.mem_of_mem_erase hx) m
   ·exact hnd.not_mem_erase (List.mem_singleton.mp m▸hx)
  obtain⟨ρ',e2,k3⟩:=ih (n / (c+1)) (l.erase (l.getD (n%(c+1)) 0)) (dr++[l.getD (n%(c+1)) 0]) _ (by rw [List.length_erase_of_mem hmem,hl];rfl) (Nat.lt_of_succ_lt hc) (hnd.erase _) hd (by rw [List.length_append,List.length_singleton,Nat.add_assoc,Nat.add_comm 1];exact hz)
   (Knows.cons (k2 148 _ rfl) (Knows.cons (k2 149 _ rfl) (Knows.cons (k2 83 _ rfl) Knows.nil)))
  exact⟨ρ',(a2n rfl e1).trans e2,k3⟩
theorem e7y:∀ n:Nat,n<8->Builtin.Range.small (n:Nat) 0 (-1)=true/\Builtin.Range.rangeSize (n:Nat) 0 (-1)=(n:Int):=by decide +kernel
theorem d0r(n:Nat):c4l n=(List.range n).map fun(i:Nat)=>V.int ((n:Int)+(i:Int) * (-1)):=by
 induction n with
 | zero=>rfl
 | succ n ih=>
  rw [List.range_succ_eq_map,List.map_cons,List.map_map];show V.int ((n+1:Nat):Int)::c4l n=_;rw [ih];refine congr (congrArg List.cons (congrArg V.int (by omega))) (List.map_congr_left fun i zz=>congrArg V.int ?_);show(n:Int)+i * -1=((n+1:Nat):Int)+((i+1:Nat):Int) * -1;omega
theorem d2m{n:Nat}(hn:n<8):a0l [.int (n:Int),.int 0,.int (-1)]=some (c4l n):=by
 obtain⟨h1,h2⟩:=e7y n hn;rw [b3x h1 (by decide) (by decide)];unfold a0p;rw [h2,Int.toNat_natCast,d0r]
theorem b3q(l:List Nat):a0v (l.map fun c=>V.int (c:Nat))=true:=by
 induction l with
 | nil=>rfl
 | cons a l ih=>exact ih
theorem c2g{size n:Nat}(hs:size<8)(ok:a2m μ=true):cF g0 P4__law_drawn a1t (N+40) [.int (size:Int),.int (n:Int)] μ=some (vI (b2h size (List.range size) [] n),μ):=by
 have hb:size<100:=Nat.lt_trans hs (by decide);obtain⟨ρ',e1,k1⟩:=c8c (μ:=μ) (N:=N+8) size n (List.range size) [] [(124,.int (size:Int)),(83,.int (n:Int)),(148,vI (List.range size)),(149,.mut μ.length)] List.length_range hb List.nodup_range (fun zz zz=>List.not_mem_nil) (by rw [List.length_nil,Nat.zero_add];exact Nat.lt_trans hb (by decide)) (Knows.cons rfl (Knows.cons rfl (Knows.cons rfl Knows.nil)));have e3:exec g0 (N+39) a1t (P4__law_drawn.zip [.int (size:Int),.int (n:Int)]) μ=some (.ret (.mut μ.length),ρ',μ++[.list ((b2h size (List.range size) [] n).map fun c=>V.int (c:Nat))]):=by
  refine(a0a (f:=a0d g0 (N+38)) (ρ':=[(124,.int (size:Int)),(83,.int (n:Int)),(148,vI (List.range size)),(149,.mut μ.length)]) (μ':=μ++[.list []]) ((a2c (a:=vI (List.range size)) (b:=.mut μ.length) (a7r (a4e (μ₁:=μ) ?_ (a5j (b4y b4c (Nat.zero_le _)))) (show 2<=big by decide))).trans rfl)).trans ?_
  ·rw [a6m,a1q (evl rfl)]
   show(a0l [.int (size:Int)]).bind _=_;rw [a3b (Nat.lt_succ_of_lt hs)];exact if_pos (by rw [List.length_map,List.length_range];exact Nat.le_trans (Nat.le_of_lt hb) (by decide))
  ·refine(a0a ((a5b (vs:=c4l size) ?_).trans e1)).trans (a7i (evl k1))
   rw [d5o,evn (evl rfl) (evn evc (a1q (b6x evc)))];show(a0l [.int (size:Int),.int 0,.int (-1)]).map _=_;rw [d2m hs];rfl
 generalize b2h size (List.range size) [] n=r at e3 ⊢;show a2z g0 (N+39) P4__law_drawn a1t [.int (size:Int),.int (n:Int)] μ=_;refine a4k rfl e3 (c0z μ _ μ.length rfl) ok ?_;rw [e3y,if_neg (Nat.lt_irrefl _),a2v];exact if_pos (b3q _)
end
end
section
noncomputable def a5m{α:Type}:Nat->List α->List α->Nat->List α
 | 0,_,_,_=>[]
 | c+1,A,B,b=>if b%2=0 then(match A with
   | x::r=>x::a5m c r B (b / 2)
   | []=>match B with
    | y::s=>y::a5m c [] s (b / 2)
    | []=>[])
  else match B with
   | y::s=>y::a5m c A s (b / 2)
   | []=>match A with
    | x::r=>x::a5m c r [] (b / 2)
    | []=>[]
inductive Rif{α:Type}(c b:Nat)(A B:List α):Prop
 | a (x:α) (r:List α) (h:A=x::r) (hb:b%2=0∨B=[]) (e:a5m (c+1) A B b=x::a5m c r B (b / 2))
 | b (y:α) (s:List α) (h:B=y::s) (hb:b%2=1∨A=[]) (e:a5m (c+1) A B b=y::a5m c A s (b / 2))
theorem a9v{α:Type}{c b:Nat}{A B:List α}(h:A.length+B.length=c+1):Rif c b A B:=by
 rcases Nat.mod_two_eq_zero_or_one b with q | q
 ·induction A using List.casesOn with
  | cons x r=>exact .a x r rfl (.inl q) (if_pos q)
  | nil=>induction B using List.casesOn with
   | cons y s=>exact .b y s rfl (.inr rfl) (if_pos q)
   | nil=>exact absurd h.symm (Nat.succ_ne_zero c)
 ·have q0:¬b%2=0:=by rw [q];decide
  induction B using List.casesOn with
  | cons y s=>exact .b y s rfl (.inl q) (if_neg q0)
  | nil=>induction A using List.casesOn with
   | cons x r=>exact .a x r rfl (.inr rfl) (if_neg q0)
   | nil=>exact absurd h.symm (Nat.succ_ne_zero c)
theorem d8a{α β:Type}(f:α->β):∀(c:Nat) (A B:List α) (b:Nat),A.length+B.length=c->a5m c (A.map f) (B.map f) b=(a5m c A B b).map f:=by
 intro c;induction c with
 | zero=>intro _ _ _ _;rfl
 | succ c ih=>
  intro A B b h;rcases Nat.mod_two_eq_zero_or_one b with q | q
  ·induction A using List.casesOn with
   | cons x r=>rw [show a5m (c+1) (x::r) B b=x::a5m c r B (b / 2)from if_pos q,List.map_cons,List.map_cons,← ih r B (b / 2) (Nat.succ.inj ((Nat.succ_add _ _).symm.trans h))];exact if_pos q
   | nil=>induction B using List.casesOn with
    | cons y s=>rw [show a5m (c+1) [] (y::s) b=y::a5m c [] s (b / 2)from if_pos q,List.map_cons,List.map_cons,← ih [] s (b / 2) (Nat.succ.inj h)];exact if_pos q
    | nil=>exact absurd h.symm (Nat.succ_ne_zero c)
  ·have q0:¬b%2=0:=by rw [q];decide
   induction B using List.casesOn with
   | cons y s=>rw [show a5m (c+1) A (y::s) b=y::a5m c A s (b / 2)from if_neg q0,List.map_cons,List.map_cons,← ih A s (b / 2) (Nat.succ.inj h)];exact if_neg q0
   | nil=>induction A using List.casesOn with
    | cons x r=>rw [show a5m (c+1) (x::r) [] b=x::a5m c r [] (b / 2)from if_neg q0,List.map_cons,List.map_cons,← ih r [] (b / 2) (Nat.succ.inj h)];exact if_neg q0
    | nil=>exact absurd h.symm (Nat.succ_ne_zero c)
noncomputable def inV(l:List Nat):List V:=l.map fun c=>V.int (c:Nat)
theorem a9t(x:Nat)(l:List Nat):(inV (x::l)).reverse=(inV l).reverse++[V.int (x:Nat)]:=List.reverse_cons
section
variable{μ:Mu}{N:Nat}{ρ:Rho}{a b c a':List V}
noncomputable def st3(μ:Mu)(a b c:List V):Mu:=μ++[.list a,.list b,.list c]
theorem b6l(i:Nat):(st3 μ a b c)[μ.length+i]?=[Mine.M.list a,.list b,.list c][i]?:=by
 unfold st3;rw [List.getElem?_append_right (Nat.le_add_right _ _),Nat.add_sub_cancel_left]
theorem c8o(i:Nat)(m:Mine.M):(st3 μ a b c).set (μ.length+i) m=μ++[Mine.M.list a,.list b,.list c].set i m:=by
 unfold st3;rw [List.set_append_right _ _ (Nat.le_add_right _ _),Nat.add_sub_cancel_left]
theorem d5l{Γ:G}{x:X}{k:Nat}{l:List V}{v:V}{μ:Mu}(hf:∀ u μ,Γ.find 11 u μ=d1v 11 u μ)(hm:∀ n u args μ,Γ.meth n 11 u args μ=d0j n 11 u args μ)(h:ev Γ N x ρ μ=some (.mut k,μ))(hk:μ[k]?=some (.list (l++[v])))(hz:(l++[v]).length<=big):ev Γ (N+1) (.meth 11 x []) ρ μ=some (v,μ.set k (.list l)):=by
 refine(a4p (vs:=[]) h ((hf _ _).trans (a5c hk)) rfl).trans ((hm _ _ _ _).trans ?_);show(match (generalizing:=false) μ[k]? with | some (.list l)=>if l.length<=big then l.getLast?.map fun x=>(x,μ.set k (.list l.dropLast))else .none | _=>.none)=_
 rw [hk];refine(if_pos hz).trans ?_;rw [List.getLast?_concat,List.dropLast_concat];rfl
theorem b4u{s k:Nat}{l l':List V}{μ:Mu}(hs:s<2)(h1:ρ.lookup 146=some (.lst [.mut k,.mut (k+1)]))(h2:ρ.lookup 140=some (.int (s:Int)))(hk:μ[k+s]?=some (.list l))(hz:l.length<=big) :
  ev gO (N+5) c6f ρ μ=some (if l.isEmpty then .mut (k+(1-s))else .mut (k+s),μ):=by
 have it:∀ s:Nat,s<2->item (.lst [.mut k,.mut (k+1)]) (.int (s:Int))=some (.mut (k+s)):=fun s hs=>by
  rcases b4l hs with rfl | rfl<;>rfl
 have e1:ev gO (N+4) (.sub (.loc 146) (.loc 140)) ρ μ=some (.mut (k+s),μ):=a4o (evl h1) (evl h2) (it s hs);have e2:ev gO (N+4) (.sub (.loc 146) (.bin .Sub (.cst (.int 1)) (.loc 140))) ρ μ=some (.mut (k+(1-s)),μ):=a4o (evl h1) (evb evc (evl h2) (b6u s hs)) (it (1-s) (Nat.lt_of_le_of_lt (Nat.sub_le _ _) (by decide)));show ors (fun x μ=>ev gO (N+4) x ρ μ) _ μ=_;rw [e4a,e1];dsimp only;rw [c1y hk,e8t,if_pos hz];cases l with
 | nil=>exact e2
 | cons _ _=>rfl
theorem d8y{c k o:Nat}{A B row:List Nat}(h:A.length+B.length=c+1)(hc:c<20)(hr:row.length<100)(hk:k<50)(kn:Knows ρ [(111,.int (k:Int)),(137,.int (o:Int)),(146,.lst [.mut μ.length,.mut (μ.length+1)]),(90,.mut (μ.length+2))]) :
  ∃ x A' B',A'.length+B'.length=c/\a5m (c+1) A B (o / 2^k)=x::a5m c A' B' (o / 2^(k+1)) ∧
   exec gO (N+30) c1g ρ (st3 μ (inV A).reverse (inV B).reverse (inV row))=some (.next,put 140 (.int (o / 2^k%2:Nat)) ρ,st3 μ (inV A').reverse (inV B').reverse (inV (row++[x]))):=by
 have hlt:o / 2^k%2<2:=lt2 _;have hbit:=d5j (Γ:=gO) (μ:=st3 μ (inV A).reverse (inV B).reverse (inV row)) (N:=N+25) 137 111 (kn 137 _ rfl) (kn 111 _ rfl) hk;have kn2:=kn.put 140 (.int (o / 2^k%2:Nat));have hrow:(inV row).length<=big:=by unfold inV;rw [List.length_map];exact Nat.le_trans (Nat.le_of_lt hr) (by decide)
 have e2:o / 2^(k+1)=o / 2^k / 2:=by rw [Nat.pow_succ,Nat.div_div_eq_div_mul]
 have hzA:(inV A).reverse.length<=big:=by unfold inV;rw [List.length_reverse,List.length_map];exact Nat.le_trans (Nat.le_trans (Nat.le_add_right _ _) (Nat.le_of_eq h)) (Nat.le_trans (Nat.succ_le_of_lt hc) (by decide))
 have hzB:(inV B).reverse.length<=big:=by unfold inV;rw [List.length_reverse,List.length_map];exact Nat.le_trans (Nat.le_trans (Nat.le_add_left _ _) (Nat.le_of_eq h)) (Nat.le_trans (Nat.succ_le_of_lt hc) (by decide))
 have g0':(st3 μ (inV A).reverse (inV B).reverse (inV row))[μ.length+0]?=some (.list (inV A).reverse):=b6l 0;have g1':(st3 μ (inV A).reverse (inV B).reverse (inV row))[μ.length+1]?=some (.list (inV B).reverse):=b6l 1;have g2':(st3 μ (inV A).reverse (inV B).reverse (inV row))[μ.length+2]?=some (.list (inV row)):=b6l 2;have fin:∀(x:Nat) (A' B':List Nat),ev gO (N+28) (.meth 11 c6f []) (put 140 (.int (o / 2^k%2:Nat)) ρ) (st3 μ (inV A).reverse (inV B).reverse (inV row))=some (.int (x:Nat),st3 μ (inV A').reverse (inV B').reverse (inV row)) →
   exec gO (N+30) c1g ρ (st3 μ (inV A).reverse (inV B).reverse (inV row))=some (.next,put 140 (.int (o / 2^k%2:Nat)) ρ,st3 μ (inV A').reverse (inV B').reverse (inV (row++[x]))):=fun x A' B' e=>by
  have e5:=b9u (Γ:=gO) (M:=N+27) (i:=90) (fun zz zz=>rfl) (fun zz zz zz zz=>rfl) (kn2 90 _ rfl) e (a5c g2') (b6l 2) hrow;rw [c8o 2]at e5;refine(a0a (f:=a0d gO (N+29)) (a0c hbit)).trans ((a0a (a3d e5)).trans ?_);unfold inV;rw [List.map_append];rfl
 rw [e2];generalize o / 2^k=bb at *;rcases a9v (b:=bb) h with⟨x,r,rfl,hb,e⟩ | ⟨y,s,rfl,hb,e⟩
 ·refine⟨x,r,B,Nat.succ.inj ((Nat.succ_add _ _).symm.trans h),e,fin x r B ?_⟩
  have es:ev gO (N+27) c6f (put 140 (.int (bb%2:Nat)) ρ) (st3 μ (inV (x::r)).reverse (inV B).reverse (inV row))=some (.mut (μ.length+0),st3 μ (inV (x::r)).reverse (inV B).reverse (inV row)):=by
   rcases b4l hlt with q | q
   ·rw [q]at kn2 ⊢
    refine(b4u (N:=N+22) (s:=0) (l':=[]) (by decide) (kn2 146 _ rfl) (kn2 140 _ rfl) g0' hzA).trans ?_;rw [a9t,show((inV r).reverse++[V.int (x:Nat)]).isEmpty=false by cases (inV r).reverse<;>rfl];rfl
   ·have hB:=hb.resolve_left (by rw [q];decide)
    subst hB;rw [q]at kn2 ⊢;exact(b4u (N:=N+22) (s:=1) (l':=[]) (by decide) (kn2 146 _ rfl) (kn2 140 _ rfl) g1' hzB).trans rfl
  rw [a9t]at g0' hzA es ⊢;have:=d5l (Γ:=gO) (fun zz zz=>rfl) (fun zz zz zz zz=>rfl) es g0' hzA;rw [c8o 0]at this;exact this
 ·refine⟨y,A,s,Nat.succ.inj h,e,fin y A s ?_⟩
  have es:ev gO (N+27) c6f (put 140 (.int (bb%2:Nat)) ρ) (st3 μ (inV A).reverse (inV (y::s)).reverse (inV row))=some (.mut (μ.length+1),st3 μ (inV A).reverse (inV (y::s)).reverse (inV row)):=by
   rcases b4l hlt with q | q
   ·have hA:=hb.resolve_left (by rw [q];decide)
    subst hA;rw [q]at kn2 ⊢;exact(b4u (N:=N+22) (s:=0) (l':=[]) (by decide) (kn2 146 _ rfl) (kn2 140 _ rfl) g0' hzA).trans rfl
   ·rw [q]at kn2 ⊢
    refine(b4u (N:=N+22) (s:=1) (l':=[]) (by decide) (kn2 146 _ rfl) (kn2 140 _ rfl) g1' hzB).trans ?_;rw [a9t,show((inV s).reverse++[V.int (y:Nat)]).isEmpty=false by cases (inV s).reverse<;>rfl];rfl
  rw [a9t]at g1' hzB es ⊢;have:=d5l (Γ:=gO) (fun zz zz=>rfl) (fun zz zz zz zz=>rfl) es g1' hzB;rw [c8o 1]at this;exact this
theorem d5r{o:Nat}:∀(c k:Nat) (A B row:List Nat) (ρ:Rho),A.length+B.length=c->c<20->row.length+c<50->k+c<50->Knows ρ [(137,.int (o:Int)),(146,.lst [.mut μ.length,.mut (μ.length+1)]),(90,.mut (μ.length+2))] →
  ∃ ρ' A' B',a3w (fun ρ μ=>exec gO (N+30) c1g ρ μ) (.one 111) ((List.range' k c).map fun(i:Nat)=>V.int i) ρ (st3 μ (inV A).reverse (inV B).reverse (inV row))=some (.next,ρ',st3 μ A' B' (inV (row++a5m c A B (o / 2^k))))/\ρ'.lookup 90=some (.mut (μ.length+2)):=by
 intro c;induction c with
 | zero=>intro k A B row ρ _ _ _ _ kn;exact⟨ρ,_,_,by rw [show a5m 0 A B (o / 2^k)=[]from rfl,List.append_nil];rfl,kn 90 _ rfl⟩
 | succ c ih=>
  intro k A B row ρ h hc hr hk kn;have kn1:=kn.put 111 (.int (k:Int));obtain⟨x,A',B',h1,h2,h3⟩:=d8y (N:=N) h (Nat.lt_of_succ_lt hc) (Nat.lt_of_le_of_lt (Nat.le_add_right _ _) (Nat.lt_trans hr (by decide))) (Nat.lt_of_le_of_lt (Nat.le_add_right _ _) hk) kn1;have kn2:=kn1.put 140 (.int (o / 2^k%2:Nat));obtain⟨ρ',A2,B2,h4,h5⟩:=ih (k+1) A' B' (row++[x]) _ h1 (Nat.lt_of_succ_lt hc) (by rw [List.length_append,Nat.add_right_comm];exact hr) (by rw [Nat.add_right_comm];exact hk) (Knows.cons (kn2 137 _ rfl) (Knows.cons (kn2 146 _ rfl) (Knows.cons (kn2 90 _ rfl) Knows.nil)));rw [List.append_assoc,List.singleton_append,← h2]at h4;exact⟨ρ',A2,B2,(a2n rfl h3).trans h4,h5⟩
theorem b8r{size a0f o:Nat}(hs:size<8)(hd:a0f<=size)(ok:a2m μ=true):cF gO P4__law_plain a1r (N+50) [.int (size:Int),.int (a0f:Int),.int (o:Int)] μ=some (vI (a5m size ((List.range size).take a0f).reverse ((List.range size).drop a0f) o),μ):=by
 have hd8:a0f<8:=Nat.lt_of_le_of_lt hd hs;have hA:(inV ((List.range size).take a0f).reverse).reverse=(List.range a0f).map fun(i:Nat)=>V.int i:=by
  unfold inV;rw [List.map_reverse,List.reverse_reverse,List.take_range,Nat.min_eq_left hd]
 have hB:(inV ((List.range size).drop a0f)).reverse=(List.range (size-a0f)).map fun(i:Nat)=>V.int ((size-1-i:Nat):Int):=by
  unfold inV;rw [← List.map_reverse,(by decide:∀ n:Nat,n<8->∀ d:Nat,d<8->d<=n->((List.range n).drop d).reverse=(List.range (n-d)).map fun i=>n-1-i) size hs a0f hd8 hd,List.map_map];rfl
 have hl:((List.range size).take a0f).reverse.length+((List.range size).drop a0f).length=size:=by
  rw [List.length_reverse,List.length_take,List.length_drop,List.length_range,Nat.min_eq_left hd,Nat.add_sub_cancel' hd]
 obtain⟨ρ',A2,B2,e1,k1⟩:=d5r (μ:=μ) (N:=N+18) (o:=o) size 0 _ _ [] [(124,.int (size:Int)),(136,.int (a0f:Int)),(137,.int (o:Int)),(146,.lst [.mut μ.length,.mut (μ.length+1)]),(90,.mut (μ.length+2))] hl (Nat.lt_trans hs (by decide)) (by rw [List.length_nil,Nat.zero_add];exact Nat.lt_trans hs (by decide)) (by rw [Nat.zero_add];exact Nat.lt_trans hs (by decide)) (Knows.cons rfl (Knows.cons rfl (Knows.cons rfl Knows.nil)));rw [hA,hB,Nat.pow_zero,Nat.div_one,List.nil_append]at e1;generalize a5m size ((List.range size).take a0f).reverse ((List.range size).drop a0f) o=r at e1 ⊢;have e3:exec gO (N+49) a1r (P4__law_plain.zip [.int (size:Int),.int (a0f:Int),.int (o:Int)]) μ=some (.ret (.mut (μ.length+2)),ρ',st3 μ A2 B2 (inV r)):=by
  refine(a0a (f:=a0d gO (N+48)) (ρ':=[(124,.int (size:Int)),(136,.int (a0f:Int)),(137,.int (o:Int)),(146,.lst [.mut μ.length,.mut (μ.length+1)]),(90,.mut (μ.length+2))]) (μ':=st3 μ ((List.range a0f).map fun(i:Nat)=>V.int i) ((List.range (size-a0f)).map fun(i:Nat)=>V.int ((size-1-i:Nat):Int)) (inV [])) ((a2c (a:=.lst [.mut μ.length,.mut (μ.length+1)]) (b:=.mut (μ.length+2)) (a7r (a4e (μ₁:=μ++[.list ((List.range a0f).map fun(i:Nat)=>V.int i)]++[.list ((List.range (size-a0f)).map fun(i:Nat)=>V.int ((size-1-i:Nat):Int))]) (a7b (a4e (μ₁:=μ++[.list ((List.range a0f).map fun(i:Nat)=>V.int i)]) (v:=.mut μ.length) ?_ (a5j (v:=.mut (μ.length+1)) ?_)) (show 2<=big by decide)) (a5j ?_)) (show 2<=big by decide))).trans rfl)).trans ?_
  ·rw [a6m,a1q (evl rfl)]
   show(a0l [.int (a0f:Int)]).bind _=_;rw [a3b (Nat.lt_succ_of_lt hd8)];exact if_pos (by rw [List.length_map,List.length_range];exact Nat.le_trans (Nat.le_of_lt hd8) (by decide))
  ·rw [a6m,evn (v:=.int ((size:Int)-1)) (evb (evl rfl) evc rfl) (evn (v:=.int ((a0f:Int)-1)) (evb (evl rfl) evc rfl) (a1q (b6x evc)))]
   show(a0l [.int ((size:Int)-1),.int ((a0f:Int)-1),.int (-1)]).bind _=_;rw [c3h hs hd];refine(if_pos (by rw [List.length_map,List.length_range];exact Nat.le_trans (Nat.sub_le _ _) (Nat.le_trans (Nat.le_of_lt hs) (by decide)))).trans ?_;refine(if_pos rfl).trans ?_;rw [List.length_append];rfl
  ·refine(b4y (vs:=[]) b4c (Nat.zero_le _)).trans ?_
   unfold st3 inV;rw [List.length_append,List.length_append,List.append_assoc,List.append_assoc];rfl
  ·refine(a0a ((a5b (vs:=(List.range' 0 size).map fun(i:Nat)=>V.int i) ?_).trans e1)).trans (a7i (evl k1))
   rw [d5o,a1q (evl rfl),← List.range_eq_range'];show(a0l [.int (size:Int)]).map _=_;rw [a3b (Nat.lt_succ_of_lt hs)];rfl
 show a2z gO (N+49) P4__law_plain a1r [.int (size:Int),.int (a0f:Int),.int (o:Int)] μ=_;refine a4k rfl e3 List.take_left ok ?_;rw [e3y,if_neg (Nat.not_lt.mpr (Nat.le_add_right _ _)),b6l 2];exact if_pos (b3q _)
end
end
section
theorem e1a:∀ n:Nat,n<8 → sliceRange (sliceBounds .none .none (some (-1)) n).1 (sliceBounds .none .none (some (-1)) n).2.1 (sliceBounds .none .none (some (-1)) n).2.2=(List.range n).reverse:=by decide +kernel
theorem c4z{l:List V}(h:l.length<8):a1y (.lst l) .none .none (some (-1))=some (.lst l.reverse):=by
  unfold a1y;refine(if_neg (by decide)).trans ?_;refine(if_pos (Nat.le_trans (Nat.le_of_lt h) (by decide))).trans ?_;rw [e1a _ h,List.filterMap_reverse];have:=d2i l 0 l.length;rw [List.drop_zero,List.take_length,show(fun x=>0+x)=(id:Nat → Nat)from funext Nat.zero_add,List.map_id]at this;rw [this]
section
variable{μ:Mu}{N M:Nat}{ρ:Rho}{Γ:G}{t:List Nat}{n:Int}{q0 q1:List (List Nat)}{rest:Mu}{w:List Nat}
theorem b3n{a x:X}{l:List V}(h:ev Γ M a ρ μ=some (.lst l,μ))(hx:ev Γ M x ρ μ=some (.int (-1),μ))(hz:l.length<8):ev Γ (M+1) (.slc a .none .none (some x)) ρ μ=some (.lst l.reverse,μ):=by
  simp only [b1g,h,evo,hx,b5k,d9x,c4z hz,Option.map_some]
noncomputable def stR(t:List Nat)(n:Int)(q0 q1:List (List Nat))(rest:Mu):Mu:=
  .obj [2] (-5)::.list (chars t)::.obj [] (-6)::.obj [1,2] (-3)::.list []::.obj [4,3] n::.list []::.obj [6,2] (-3)::.list (q0.map .str)::.obj [8,7] 1::.list []::.obj [10,2] (-3)::.list (q1.map .str)::.obj [12,11] 1::rest
theorem a4i{ws:List (List Nat)}:a2m (stR t n q0 q1 [.list (ws.map .str)])=true:=by
  show(true&&(a0v (chars t)&&(true&&(true&&(true&&(true&&(true&&(true&&(a0v (q0.map .str)&&(true&&(true&&(true&&(a0v (q1.map .str)&&(true&&(a0v (ws.map .str)&&true)))))))))))))))=true;rw [a4g,a1d,a1d,a1d];rfl
theorem b5p:a2m (stR t n q0 q1 [])=true:=by
  show(true&&(a0v (chars t)&&(true&&(true&&(true&&(true&&(true&&(true&&(a0v (q0.map .str)&&(true&&(true&&(true&&(a0v (q1.map .str)&&(true&&true))))))))))))))=true;rw [a4g,a1d,a1d];rfl
noncomputable def xa:LxIx:=⟨9,8,7,6,2⟩
noncomputable def xb:LxIx:=⟨13,12,11,10,2⟩
theorem e7k:xa.Ok (stR t n q0 q1 rest):=by
  constructor<;>first | rfl | exact Nat.lt_of_lt_of_le (by decide) (Nat.le_add_left 14 rest.length) | decide
theorem e4r:xb.Ok (stR t n q0 q1 rest):=by
  constructor<;>first | rfl | exact Nat.lt_of_lt_of_le (by decide) (Nat.le_add_left 14 rest.length) | decide
theorem e1y{ws:List (List Nat)}(hz:(w::q0).length ≤ big):Tok (stR t n (w::q0) q1 [.list (ws.map .str)]) 9 w (stR t n q0 q1 [.list (ws.map .str)]):=
  ⟨rfl,fun N=>c0c (th:=th3) (N:=N) (kp:=8) (ks:=7) (n:=1) (r:=q0.map .str) rfl (by decide) rfl (by rw [List.length_cons,List.length_map];exact hz) a4i⟩
theorem e1k{ws:List (List Nat)}(hz:(w::q1).length ≤ big):Tok (stR t n q0 (w::q1) [.list (ws.map .str)]) 13 w (stR t n q0 q1 [.list (ws.map .str)]):=
  ⟨rfl,fun N=>c0c (th:=th3) (N:=N) (kp:=12) (ks:=11) (n:=1) (r:=q1.map .str) rfl (by decide) rfl (by rw [List.length_cons,List.length_map];exact hz) a4i⟩
theorem e2i{ws:List (List Nat)}:Tok (stR t n [] q1 [.list (ws.map .str)]) 9 [] (stR t n [] q1 [.list (ws.map .str)]):=
  ⟨rfl,fun N=>b8v (th:=th3) (N:=N) (x:=xa) (t:=[]) (n:=1) e7k a4i rfl (by decide) (by decide) (fun zz h=>nomatch h)⟩
theorem e3w{ws:List (List Nat)}:Tok (stR t n q0 [] [.list (ws.map .str)]) 13 [] (stR t n q0 [] [.list (ws.map .str)]):=
  ⟨rfl,fun N=>b8v (th:=th3) (N:=N) (x:=xb) (t:=[]) (n:=1) e4r a4i rfl (by decide) (by decide) (fun zz h=>nomatch h)⟩
theorem b5m{k:Nat}{o:X}{μ μ':Mu}(ho:ev gQ (N+30) o ρ μ=some (.mut k,μ))(ht:Tok μ k w μ'):ev gQ (N+31) (.meth 22 o []) ρ μ=some (.str w,μ'):=
  (a4p (vs:=[]) (μ₁:=μ) ho (show(if(22=21∨22=22∨22=23)then a3s μ (.mut k)else b9e 22 (.mut k) μ)=true from(if_pos (Or.inr (Or.inl rfl))).trans ht.1) rfl).trans (ht.2 N)
theorem c8b{k kp ks:Nat}{o:X}{l:List V}{m:Int}{μ:Mu}(ho:ev gQ (N+10) o ρ μ=some (.mut k,μ))(hk:μ[k]?=some (.obj [kp,ks] m))(hm:1 ≤ m)(hp:μ[kp]?=some (.list l))(hz:l.length ≤ big)(ok:a2m μ=true)(hw:ρ.lookup 82=some (.str w)):ev gQ (N+11) (.meth 23 o [.loc 82]) ρ μ=some (.none,μ.set kp (.list (l++[.str w]))):=
  (a4p (vs:=[.str w]) (μ₁:=μ) ho (show(if(23=21∨23=22∨23=23)then a3s μ (.mut k)else b9e 23 (.mut k) μ)=true from(if_pos (Or.inr (Or.inr rfl))).trans (by
    show(match (generalizing:=false) μ[k]? with | some (.obj [_,_] n)=>decide (1 ≤ n) | _=>false)=true
    rw [hk];exact decide_eq_true hm)) (a1q (evl hw))).trans (c7l (th:=th3) (N:=N) hk hm hp hz ok)
noncomputable def d0b:V:=.lst [.mut 9,.mut 13]
theorem d7k:∀(ws q0:List (List Nat)) (ρ:Rho),q0.length+ws.length<100 → ρ.lookup 138=some d0b →
    ∃ v,a3w (fun ρ μ=>exec gQ (N+15) (a9n 0) ρ μ) (.one 82) (ws.map .str) ρ (stR t n q0 q1 [])=some (.next,v,stR t n (q0++ws) q1 [])∧∀ i,i≠82 → v.lookup i=ρ.lookup i:=by
  intro ws;induction ws with
  | nil=>intro q0 ρ _ _;exact⟨ρ,by rw [List.append_nil];rfl,fun zz zz=>rfl⟩
  | cons w ws ih=>
    intro q0 ρ hz h138;have e1:=c8b (N:=N+3) (μ:=stR t n q0 q1 []) (k:=9) (kp:=8) (ks:=7) (a4o (evl (a1z (u:=.str w) (j:=82) h138 (by decide))) (v:=.int 0) evc rfl) rfl (by decide) rfl (by rw [List.length_map];exact Nat.le_trans (Nat.le_add_right _ _) (Nat.le_trans (Nat.le_of_lt hz) (by decide))) b5p (a1c (u:=.str w));have e2:exec gQ (N+15) (a9n 0) (put 82 (.str w) ρ) (stR t n q0 q1 [])=some (.next,put 82 (.str w) ρ,stR t n (q0++[w]) q1 []):=(a0a (f:=a0d gQ (N+14)) (a3d e1)).trans (by unfold stR;rw [List.map_append];rfl);obtain⟨v,h1,h2⟩:=ih (q0++[w]) (put 82 (.str w) ρ) (by rw [List.length_append,Nat.add_assoc,Nat.add_comm _ ws.length];exact hz) (a1z h138 (by decide));rw [List.append_assoc]at h1;exact⟨v,(a2n rfl e2).trans h1,fun i hi=>by rw [h2 i hi,a0b,if_neg hi]⟩
theorem d8g:∀(ws q1:List (List Nat)) (ρ:Rho),q1.length+ws.length<100 → ρ.lookup 138=some d0b →
    ∃ v,a3w (fun ρ μ=>exec gQ (N+15) (a9n 1) ρ μ) (.one 82) (ws.map .str) ρ (stR t n q0 q1 [])=some (.next,v,stR t n q0 (q1++ws) [])∧∀ i,i≠82 → v.lookup i=ρ.lookup i:=by
  intro ws;induction ws with
  | nil=>intro q1 ρ _ _;exact⟨ρ,by rw [List.append_nil];rfl,fun zz zz=>rfl⟩
  | cons w ws ih=>
    intro q1 ρ hz h138;have e1:=c8b (N:=N+3) (μ:=stR t n q0 q1 []) (k:=13) (kp:=12) (ks:=11) (a4o (evl (a1z (u:=.str w) (j:=82) h138 (by decide))) (v:=.int 1) evc rfl) rfl (by decide) rfl (by rw [List.length_map];exact Nat.le_trans (Nat.le_add_right _ _) (Nat.le_trans (Nat.le_of_lt hz) (by decide))) b5p (a1c (u:=.str w));have e2:exec gQ (N+15) (a9n 1) (put 82 (.str w) ρ) (stR t n q0 q1 [])=some (.next,put 82 (.str w) ρ,stR t n q0 (q1++[w]) []):=(a0a (f:=a0d gQ (N+14)) (a3d e1)).trans (by unfold stR;rw [List.map_append];rfl);obtain⟨v,h1,h2⟩:=ih (q1++[w]) (put 82 (.str w) ρ) (by rw [List.length_append,Nat.add_assoc,Nat.add_comm _ ws.length];exact hz) (a1z h138 (by decide));rw [List.append_assoc]at h1;exact⟨v,(a2n rfl e2).trans h1,fun i hi=>by rw [h2 i hi,a0b,if_neg hi]⟩
theorem c5x{b:Bool}(hw:ρ.lookup 82=some (.str w))(hk:kK w=k3 b true false)(hz:w.length ≤ big)(ok:a2m μ=true):ev gQ (N+33) (.cmp .Eq (.call 131 [(.loc 82)]) (.lst [(.cst (.bool true)),(.cst (.bool true)),(.cst (.bool false))])) ρ μ=some (.bool b,μ):=by
  have e:ev gQ (N+32) (.call 131 [(.loc 82)]) ρ μ=some (kK w,μ):=(a0k (a1q (evl hw))).trans (d5f (N:=N+1) hz ok);rw [hk]at e;exact a0i (v:=k3 true true false) e rfl ((e0v b true false true true false).trans (by cases b<;>rfl))
theorem d4q:kK []=k3 true true false:=by rfl
theorem c7v(hw:ρ.lookup 82=some (.str w))(ho:b5l w)(ok:a2m μ=true):ev gQ (N+34) orX ρ μ=some (.str w,μ):=
  (b2r (n:=N+33) (bv:=false) (c5x hw (e2h ho) ho.1 ok) rfl).trans (evl (Γ:=gQ) (n:=N+32) hw)
theorem c9q{s:Nat}{μ':Mu}(hs:s<2)(h1:ρ.lookup 138=some d0b)(h2:ρ.lookup 140=some (.int (s:Int)))(hw:ρ.lookup 82=some (.str []))(ok:a2m μ=true)(ht:Tok μ (if s=0 then 13 else 9) w μ'):ev gQ (N+34) orX ρ μ=some (.str w,μ'):=
  (b2r (n:=N+33) (bv:=true) (c5x (w:=[]) hw d4q (Nat.zero_le _) ok) rfl).trans (b5m (N:=N+2) (a4o (evl h1) (evb evc (evl h2) (b6u s hs)) (by rcases b4l hs with rfl | rfl<;>rfl)) ht)
end
end
section
inductive RfT(t:List Nat)(n:Int)(c k o N:Nat)(A B row:List (List Nat))(ρ:Rho):Prop
 | mk (x:List Nat) (A' B':List (List Nat)) (ρ':Rho) (hl:A'.length+B'.length=c) (hA:∀ w∈A',b5l w) (hB:∀ w∈B',b5l w) (e:a5m (c+1) A B (o / 2^k)=x::a5m c A' B' (o / 2^(k+1)))
  (run:exec gQ (N+40) c0r ρ (stR t n A B [.list (row.map .str)])=some (.next,ρ',stR t n A' B' [.list ((row++[x]).map .str)])) (kn:Knows ρ' [(137,.int (o:Int)),(138,d0b),(139,.mut 14)])
section
variable{N M:Nat}{ρ:Rho}{t:List Nat}{n:Int}{A B:List (List Nat)}
theorem d8t{c k o:Nat}{row:List (List Nat)}(h:A.length+B.length=c+1)(hA:∀ w∈A,b5l w)(hB:∀ w∈B,b5l w)(hc:c<20)(hr:row.length<100)(hk:k<50)(kn:Knows ρ [(111,.int (k:Int)),(137,.int (o:Int)),(138,d0b),(139,.mut 14)]):RfT t n c k o N A B row ρ:=by
 have hlt:o / 2^k%2<2:=lt2 _;have hbit:=d5j (Γ:=gQ) (μ:=stR t n A B [.list (row.map .str)]) (N:=N+35) 137 111 (kn 137 _ rfl) (kn 111 _ rfl) hk;have k1:=kn.put 140 (.int (o / 2^k%2:Nat));have e2:o / 2^(k+1)=o / 2^k / 2:=by rw [Nat.pow_succ,Nat.div_div_eq_div_mul]
 have hz:c+1<=big:=Nat.le_trans (Nat.succ_le_of_lt hc) (by decide);have hzA:A.length<=big:=Nat.le_trans (h▸Nat.le_add_right _ _) hz;have hzB:B.length<=big:=Nat.le_trans (h▸Nat.le_add_left _ _) hz;have fin:∀(x u:List Nat) (A' B' A1 B1:List (List Nat)),A'.length+B'.length=c->(∀ w∈A',b5l w)->(∀ w∈B',b5l w)->a5m (c+1) A B (o / 2^k)=x::a5m c A' B' (o / 2^(k+1)) →
   ev gQ (N+39) (.meth 22 (.sub (.loc 138) (.loc 140)) []) (put 140 (.int (o / 2^k%2:Nat)) ρ) (stR t n A B [.list (row.map .str)])=some (.str u,stR t n A1 B1 [.list (row.map .str)]) →
   ev gQ (N+38) orX (put 82 (.str u) (put 140 (.int (o / 2^k%2:Nat)) ρ)) (stR t n A1 B1 [.list (row.map .str)])=some (.str x,stR t n A' B' [.list (row.map .str)])->RfT t n c k o N A B row ρ:=fun x u A' B' A1 B1 h1 h2 h3 h4 e1 e3=>by
  have k2:=k1.put 82 (.str u);have e5:=b9u (Γ:=gQ) (M:=N+37) (i:=139) (k:=14) (l:=row.map .str) (fun zz zz=>rfl) (fun zz zz zz zz=>rfl) (k2 139 _ rfl) e3 rfl rfl (by rw [List.length_map];exact Nat.le_trans (Nat.le_of_lt hr) (by decide));refine⟨x,A',B',_,h1,h2,h3,h4,(a0a (f:=a0d gQ (N+39)) (a0c hbit)).trans ((a0a (a0c e1)).trans ((a0a (a3d e5)).trans ?_)),Knows.cons (k2 137 _ rfl) (Knows.cons (k2 138 _ rfl) (Knows.cons (k2 139 _ rfl) Knows.nil))⟩;unfold stR;rw [List.map_append];rfl
 have ix:∀ s:Nat,s<2->item d0b (.int (s:Int))=some (.mut (if s=0 then 9 else 13)):=fun s hs=>by rcases b4l hs with rfl | rfl<;>rfl
 have lin:=a4o (Γ:=gQ) (n:=N+37) (μ:=stR t n A B [.list (row.map .str)]) (evl (k1 138 _ rfl)) (evl (k1 140 _ rfl)) (ix _ hlt);rw [e2]at fin;have kk:=fun u=>(k1.put 82 (.str u)) 138 d0b rfl;have kb:=fun u=>(k1.put 82 (.str u)) 140 _ rfl;clear hbit k1;generalize o / 2^k=bb at *;rcases a9v (b:=bb) h with⟨x,r,rfl,hb,e⟩ | ⟨y,s,rfl,hb,e⟩
 ·have hl:r.length+B.length=c:=Nat.succ.inj ((Nat.succ_add _ _).symm.trans h)
  have hr':∀ w∈r,b5l w:=fun w hw=>hA w (List.mem_cons_of_mem _ hw);rcases b4l hlt with q | q
  ·rw [if_pos q]at lin
   exact fin x x r B r B hl hr' hB e (b5m (N:=N+8) lin (e1y hzA)) (c7v (N:=N+4) a1c (hA _ List.mem_cons_self) a4i)
  ·have hB0:=hb.resolve_left (by rw [q];decide)
   subst hB0;have q0:¬bb%2=0:=by rw [q];decide
   rw [if_neg q0]at lin;exact fin x [] r [] (x::r) [] hl hr' hB e (b5m (N:=N+8) lin e3w) (c9q (N:=N+4) hlt (kk _) (kb _) a1c a4i ((if_neg q0).symm▸e1y hzA))
 ·have hl:A.length+s.length=c:=Nat.succ.inj h
  have hs':∀ w∈s,b5l w:=fun w hw=>hB w (List.mem_cons_of_mem _ hw);rcases b4l hlt with q | q
  ·have hA0:=hb.resolve_left (by rw [q];decide)
   subst hA0;rw [if_pos q]at lin;exact fin y [] [] s [] (y::s) hl hA hs' e (b5m (N:=N+8) lin e2i) (c9q (N:=N+4) hlt (kk _) (kb _) a1c a4i ((if_pos q).symm▸e1k hzB))
  ·rw [if_neg (show ¬bb%2=0 by rw [q];decide)]at lin
   exact fin y y A s A s hl hA hs' e (b5m (N:=N+8) lin (e1k hzB)) (c7v (N:=N+4) a1c (hB _ List.mem_cons_self) a4i)
theorem d5x{o:Nat}:∀(c k:Nat) (A B row:List (List Nat)) (ρ:Rho),A.length+B.length=c->(∀ w∈A,b5l w)->(∀ w∈B,b5l w)->c<20->row.length+c<50->k+c<50->Knows ρ [(137,.int (o:Int)),(138,d0b),(139,.mut 14)] →
  ∃ ρ' A' B',a3w (fun ρ μ=>exec gQ (N+40) c0r ρ μ) (.one 111) ((List.range' k c).map fun(i:Nat)=>V.int i) ρ (stR t n A B [.list (row.map .str)])=some (.next,ρ',stR t n A' B' [.list ((row++a5m c A B (o / 2^k)).map .str)])/\ρ'.lookup 139=some (.mut 14):=by
 intro c;induction c with
 | zero=>intro k A B row ρ _ _ _ _ _ _ kn;exact⟨ρ,A,B,by rw [show a5m 0 A B (o / 2^k)=[]from rfl,List.append_nil];rfl,kn 139 _ rfl⟩
 | succ c ih=>
  intro k A B row ρ h hA hB hc hr hk kn;obtain⟨x,A',B',ρ1,h1,h2,h3,h4,h5,k2⟩:=d8t (N:=N) (t:=t) (n:=n) h hA hB (Nat.lt_of_succ_lt hc) (Nat.lt_of_le_of_lt (Nat.le_add_right _ _) (Nat.lt_trans hr (by decide))) (Nat.lt_of_le_of_lt (Nat.le_add_right _ _) hk) (kn.put 111 (.int (k:Int)));obtain⟨ρ',A2,B2,h6,h7⟩:=ih (k+1) A' B' (row++[x]) ρ1 h1 h2 h3 (Nat.lt_of_succ_lt hc) (by rw [List.length_append,Nat.add_right_comm];exact hr) (by rw [Nat.add_right_comm];exact hk) k2;rw [List.append_assoc,List.singleton_append,← h4]at h6;exact⟨ρ',A2,B2,(a2n rfl h5).trans h6,h7⟩
theorem b7p{n:Nat}{t:List Nat}{μ:Mu}:d6u n [.str t] μ=if 11<=n then(a6p μ t).map fun p=>(.mut (p.2.length+1),p.2++a9e p.2.length p.1)else .none:=rfl
theorem c8w{n:Nat}{args:List V}{μ:Mu}:gQ.call n 41 args μ=d6u n args μ:=rfl
theorem d8m(ok:a2m (stQ t n [] [])=true):ev gQ (N+58) (.lst [(.call 41 [(.cst (.str []))]),(.call 41 [(.cst (.str []))])]) ρ (stQ t n [] [])=some (d0b,stR t n [] [] []):=by
 have h11:∀ k,11<=k+56:=fun k=>Nat.le_trans (by decide) (Nat.le_add_left 56 k);refine a7b (a4e (v:=.mut 9) (vs:=[.mut 13]) (μ₁:=.obj [2] (-5)::.list (chars t)::.obj [] (-6)::.obj [1,2] (-3)::.list []::.obj [4,3] n::.list []::.obj [6,2] (-3)::.list []::.obj [8,7] 1::[]) ?_ (a5j (v:=.mut 13) ?_)) (show 2<=big by decide)
 ·exact(a0k (a1q evc)).trans (by rw [c8w,b7p,if_pos (h11 N)];rfl)
 ·exact(a0k (a1q evc)).trans (by rw [c8w,b7p,if_pos (h11 N)];rfl)
theorem b6m{ws:List (List Nat)}{a0f o:Nat}(hw:∀ w∈ws,b5l w)(h8:ws.length<8)(hd:a0f<=ws.length) :
  cF gQ P4__law_riffled a1o (N+60) [vS ws,.int (a0f:Int),.int (o:Int)] (stQ t n [] [])=some (vS (a5m ws.length (ws.take a0f).reverse (ws.drop a0f) o),stQ t n [] []):=by
 have hb:ws.length<=big:=Nat.le_trans (Nat.le_of_lt h8) (by decide);have hbv:(ws.map V.str).length<=big:=by rw [List.length_map];exact hb
 have hl:((ws.take a0f).reverse).length+(ws.drop a0f).length=ws.length:=by
  rw [List.length_reverse,List.length_take,List.length_drop,Nat.min_eq_left hd,Nat.add_sub_cancel' hd]
 obtain⟨ρ1,s1,kn⟩:∃ ρ1,a0d gQ (N+58) (.assign 138 (.lst [(.call 41 [(.cst (.str []))]),(.call 41 [(.cst (.str []))])])) [(134,vS ws),(136,.int (a0f:Int)),(137,.int (o:Int))] (stQ t n [] [])=some (.next,ρ1,stR t n [] [] [])/\Knows ρ1 [(134,vS ws),(136,.int (a0f:Int)),(137,.int (o:Int)),(138,d0b)]:=
  ⟨_,a0c (d8m (N:=N) (a8b fun zz h=>nomatch h)),Knows.cons rfl (Knows.cons rfl (Knows.cons rfl (Knows.cons rfl Knows.nil)))⟩
 obtain⟨ρ2,f2,q2⟩:=d7k (N:=N+43) (t:=t) (n:=n) (q1:=[]) (ws.take a0f).reverse [] ρ1 (by rw [List.length_nil,Nat.zero_add,List.length_reverse,List.length_take,Nat.min_eq_left hd];exact Nat.lt_of_le_of_lt hd (Nat.lt_trans h8 (by decide))) (kn 138 _ rfl);have s2:a0d gQ (N+58) (.for (.one 82) (.slc (.slc (.loc 134) .none (some (.loc 136)) .none) .none .none (some (.neg (.cst (.int 1))))) (a9n 0)) ρ1 (stR t n [] [] [])=some (.next,ρ2,stR t n (ws.take a0f).reverse [] []):=by
  refine(a5b (vs:=(ws.take a0f).reverse.map .str) ?_).trans f2;rw [e6b,b3n (a7u (evl (kn 134 _ rfl)) (evl (kn 136 _ rfl)) (a6w (l:=ws.map V.str) a0f hbv)) (b6x evc) (Nat.lt_of_le_of_lt (List.length_take_le a0f _) (Nat.lt_of_le_of_lt hd h8)),← List.map_take,← List.map_reverse];rfl
 obtain⟨ρ3,f3,q3⟩:=d8g (N:=N+43) (t:=t) (n:=n) (q0:=(ws.take a0f).reverse) (ws.drop a0f) [] ρ2 (by rw [List.length_nil,Nat.zero_add,List.length_drop];exact Nat.lt_of_le_of_lt (Nat.sub_le _ _) (Nat.lt_trans h8 (by decide))) ((q2 138 (by decide)).trans (kn 138 _ rfl));have s3:a0d gQ (N+58) (.for (.one 82) (.slc (.loc 134) (some (.loc 136)) .none .none) (a9n 1)) ρ2 (stR t n (ws.take a0f).reverse [] [])=some (.next,ρ3,stR t n (ws.take a0f).reverse (ws.drop a0f) []):=by
  refine(a5b (vs:=(ws.drop a0f).map .str) ?_).trans f3;rw [e6b,b6q (evl ((q2 134 (by decide)).trans (kn 134 _ rfl))) (evl ((q2 136 (by decide)).trans (kn 136 _ rfl))) (b2w (l:=ws.map V.str) a0f hbv),← List.map_drop];rfl
 have q:=fun i (h:i≠82)=>(q3 i h).trans (q2 i h);have h134:=a1z (j:=139) (u:=.mut 14) ((q 134 (by decide)).trans (kn 134 _ rfl)) (by decide);have h137:=a1z (j:=139) (u:=.mut 14) ((q 137 (by decide)).trans (kn 137 _ rfl)) (by decide);have h138:=a1z (j:=139) (u:=.mut 14) ((q 138 (by decide)).trans (kn 138 _ rfl)) (by decide);have s4:a0d gQ (N+58) (.assign 139 (.mlst [])) ρ3 (stR t n (ws.take a0f).reverse (ws.drop a0f) [])=some (.next,put 139 (.mut 14) ρ3,stR t n (ws.take a0f).reverse (ws.drop a0f) [.list []]):=(a0c (b4y (vs:=[]) b4c (Nat.zero_le _))).trans rfl;have h139:(put 139 (.mut 14) ρ3).lookup 139=some (.mut 14):=a1c;generalize put 139 (.mut 14) ρ3=ρ4 at *;obtain⟨ρ5,A2,B2,f5,q5⟩:=d5x (N:=N+18) (t:=t) (n:=n) (o:=o) ws.length 0 _ _ [] ρ4 hl (fun w h=>hw w (List.mem_of_mem_take (List.mem_reverse.mp h))) (fun w h=>hw w (List.mem_of_mem_drop h)) (Nat.lt_trans h8 (by decide)) (by rw [List.length_nil,Nat.zero_add];exact Nat.lt_trans h8 (by decide)) (by rw [Nat.zero_add];exact Nat.lt_trans h8 (by decide)) (Knows.cons h137 (Knows.cons h138 (Knows.cons h139 Knows.nil)));rw [Nat.pow_zero,Nat.div_one,List.nil_append,← List.range_eq_range']at f5;generalize a5m ws.length (ws.take a0f).reverse (ws.drop a0f) o=r at f5 ⊢;have s5:a0d gQ (N+58) (.for (.one 111) (.range [(.call 0 [(.loc 134)])]) c0r) ρ4 (stR t n (ws.take a0f).reverse (ws.drop a0f) [.list []])=some (.next,ρ5,stR t n A2 B2 [.list (r.map .str)]):=by
  refine(a5b ?_).trans f5;rw [d5o,a1q (c0n (fun zz zz zz=>rfl) (evl h134) hbv),List.length_map];show(a0l [.int (ws.length:Int)]).map _=_;rw [a3b (Nat.lt_succ_of_lt h8)];rfl
 have e3:exec gQ (N+59) a1o (P4__law_riffled.zip [vS ws,.int (a0f:Int),.int (o:Int)]) (stQ t n [] [])=some (.ret (.mut 14),ρ5,stR t n A2 B2 [.list (r.map .str)]):=by
  exact(a0a (f:=a0d gQ (N+58)) s1).trans ((a0a s2).trans ((a0a s3).trans ((a0a s4).trans ((a0a s5).trans (a7i (evl q5))))))
 show a2z gQ (N+59) P4__law_riffled a1o [vS ws,.int (a0f:Int),.int (o:Int)] (stQ t n [] [])=_;refine a4k rfl e3 rfl (a8b (R:=[]) fun zz h=>nomatch h) ?_;rw [e3y,if_neg (show ¬14<(stQ t n [] []).length from(by decide:¬14<6))];exact if_pos (a1d r)
end
end
section
noncomputable def sg:List (List Nat):=(["(",")","[","]",":",",",";","+","-","*","/","|","&","<",">","=",".","%","{","}","==","!=","<=",">=","~","^","<<",">>","**","+=","-=","*=","/=","%=","&=","|=","^=","<<=",">>=","**=","//","//=","@","@=","->","...",":=","!"]:List String).map fun s=>(Str.ofString s).cps.toList
noncomputable def sW(c:Nat):List Nat:=sg.getD c []
noncomputable def wS(cs:List Nat):List (List Nat):=cs.map sW
theorem c6r:((List.range 48).all fun c=>toks.lookup (sW c)==some ((7+c:Nat):Int)&&decide ((sW c).length<=3))=true:=by decide +kernel
theorem c8r{c:Nat}(h:c<48):toks.lookup (sW c)=some ((7+c:Nat):Int):=eq_of_beq (a0e (List.all_eq_true.mp c6r c (List.mem_range.mpr h)))
theorem c5u{c:Nat}(h:c<48):(sW c).length<=3:=of_decide_eq_true (a0n (List.all_eq_true.mp c6r c (List.mem_range.mpr h)))
theorem e6p{c:Nat}(h:c<48):b5l (sW c):=⟨Nat.le_trans (c5u h) (by decide),_,c8r h,Int.ofNat_le.mpr (Nat.le_trans (by decide) (Nat.le_add_right 7 c)),Int.ofNat_le.mpr (Nat.add_le_add_left (Nat.le_of_lt_succ h) 7)⟩
theorem c7i{cs:List Nat}(h:∀ c∈cs,c<48):∀ w∈wS cs,b5l w:=fun w hw=>let⟨c,hc,e⟩:=List.mem_map.mp hw;e▸e6p (h c hc)
theorem a4s(cs:List Nat):(wS cs).length=cs.length:=List.length_map ..
noncomputable def a0m(cs:List Nat)(w:Nat):List Nat:=cs.map fun c=>(7+c)%w
noncomputable def cst(l:List Nat):List Int:=l.map fun(k:Nat)=>(k:Int)
noncomputable def e4i(w:Nat)(l:List Nat):Bool:=decide (b3y (cst l)=cst (List.range w))
noncomputable def a7a(cs:List Nat)(w:Nat):List Bool:=(List.range (cs.length / w)).map fun i=>e4i w (((a0m cs w).drop (i * w)).take w)
noncomputable def vB(bs:List Bool):V:=.lst (bs.map .bool)
theorem encBool:Enc (fun zz:Bool=>True) 0 V.bool PyData.bool where
 to:=fun a=>rfl
 lay:=fun a zz=>rfl
 dep:=fun a=>by simp [PyData.depth]
 eq:=fun a b=>by cases a<;>cases b<;>rfl
theorem b9b(bs:List Bool):a0v (bs.map .bool)=true:=by
 induction bs with
 | nil=>rfl
 | cons a l ih=>exact ih
theorem b6w(fs:List (List Bool)):a0v (fs.map vB)=true:=by
 induction fs with
 | nil=>rfl
 | cons a l ih=>show(a0v (a.map .bool)&&a0v (l.map vB))=true;rw [b9b,ih];rfl
theorem b5z{μ:Mu}(h:a2m μ=true){l:List V}(hl:a0v l=true):a2m (μ++[.list l])=true:=by
 unfold a2m at *;rw [List.all_append,Bool.and_eq_true];refine⟨List.all_eq_true.mpr fun z hz=>?_,(Bool.and_true _).trans hl⟩;have:=List.all_eq_true.mp h z hz;induction z using Mine.M.casesOn with
 | list l=>exact this
 | obj is n=>exact List.all_eq_true.mpr fun x hx=>decide_eq_true (Nat.lt_of_lt_of_le (of_decide_eq_true (List.all_eq_true.mp this x hx)) (by rw [List.length_append];exact Nat.le_add_right _ _))
section
variable{μ:Mu}{N M:Nat}{ρ:Rho}{Γ:G}{n:Nat}
theorem b6i{l:List V}(a b:Nat)(h:a+b<=l.length)(hz:l.length<=big):a1y (.lst l) (some (a:Int)) (some ((a+b:Nat):Int)) .none=some (.lst ((l.drop a).take b)):=by
 rw [b1v hz,sliceBounds_plain];simp only [Option.elim,clipAt_nat,sliceRange_one,d2i];rw [Nat.min_eq_left h,Nat.min_eq_left (Nat.le_trans (Nat.le_add_right _ _) h),Nat.add_sub_cancel_left]
theorem b2y{a x y:X}{l:List V}{k j:Int}{v:V}(h:ev Γ n a ρ μ=some (.lst l,μ))(hc:ev Γ n x ρ μ=some (.int k,μ))(hy:ev Γ n y ρ μ=some (.int j,μ))(hs:a1y (.lst l) (some k) (some j) .none=some v):ev Γ (n+1) (.slc a (some x) (some y) .none) ρ μ=some (v,μ):=by
 simp only [b1g,h,evo,hc,hy,b5k,d9x,hs,Option.map_some]
theorem b0g(l:List Nat):a3m (inV l)=some (cst l):=by
 have:=c2i (cst l);unfold cst at this ⊢;rw [List.map_map]at this;exact this
theorem e0x(l:List Int)(m:List Nat):a0z .Eq (.lst (l.map .int)) (vI m)=some (decide (l=cst m)):=by
 rw [b5h];exact encInts.cmpEq (by decide) (fun zz zz=>trivial) (fun zz zz=>trivial)
theorem b6k{w t:X}{cs:List Nat}{wh paint:Nat}{tn:Nat->Nat}(hc:∀ c∈cs,c<48)(h8:cs.length<8)(h0:0<wh)(hw:wh<=7∨wh=64)(ok:a2m μ=true)(k:Knows ρ [(134,vS (wS cs)),(96,.int (paint:Int))])
  (hwx:∀(i:Nat) (v:V),ev gA (N+68) w (put 82 v (put 111 (.int (i:Int)) (ρ.filter fun p=>!([42,111,82]:List Nat).contains p.1))) μ=some (.int (wh:Int),μ))
  (htx:∀(i:Nat) (v:V),ev gA (N+68) t (put 82 v (put 111 (.int (i:Int)) (ρ.filter fun p=>!([42,111,82]:List Nat).contains p.1))) μ=some (.int (tn i:Int),μ)):ev gA (N+70) (e1o w t) ρ μ=some (vI (a0m cs wh),μ):=by
 have e:vI (a0m cs wh)=.lst (cs.zipIdx.map fun p=>V.int ((7+p.1)%wh:Nat)):=by
  have e3:=congrArg (List.map fun c=>V.int ((7+c)%wh:Nat)) (List.zipIdx_map_fst 0 cs);rw [List.map_map]at e3;unfold vI a0m;rw [List.map_map];exact congrArg V.lst e3.symm
 have e2:(((wS cs).map V.str).zipIdx.map fun p=>V.tup [.int (p.2:Nat),p.1])=cs.zipIdx.map fun p=>V.tup [.int (p.2:Nat),.str (sW p.1)]:=by
  unfold wS;rw [List.map_map,List.zipIdx_map,List.map_map];rfl
 rw [e];refine a2r (vs:=cs.zipIdx.map fun p=>V.tup [.int (p.2:Nat),.str (sW p.1)]) ?_ (by rw [List.length_map,List.length_zipIdx];exact Nat.le_trans (Nat.le_of_lt h8) (by decide)) ?_
 ·rw [e6d,evl (k 134 _ rfl)]
  exact congrArg (fun l=>some (l,μ)) e2
 ·refine b1j (i:=111) (j:=82) (h1:=fun p:Nat×Nat=>V.int (p.2:Nat)) (h2:=fun p:Nat×Nat=>V.str (sW p.1)) (by decide) cs.zipIdx _ fun p hp=>?_
  have hm:p.1∈cs:=List.fst_mem_of_mem_zipIdx hp;have h96:=a1z (j:=82) (u:=V.str (sW p.1)) (a1z (j:=111) (u:=V.int (p.2:Nat)) ((a2q (own:=[42,111,82]) rfl ρ).trans (k 96 _ rfl)) (by decide)) (by decide);refine(a0k (vs:=[.str (sW p.1),.int (wh:Int),.int (paint:Int),.int (tn p.2:Int)]) (μ₁:=μ) (evn (evl a1c) (evn (hwx _ _) (evn (evl h96) (a1q (htx _ _)))))).trans ?_;exact c2h (N:=N+8) (c8r (hc _ hm)) (Nat.ne_of_gt h0) (by omega) (c8l (hc _ hm) h0 hw _) ok
theorem d3k{l:List Nat}{w a:Nat}(hl:a+w<=l.length)(hz:l.length<60)(hw:w<8)(k:Knows ρ [(110,vI l),(111,.int (a:Int)),(141,.int (w:Int))]):ev gA (N+10) c7y ρ μ=some (.bool (e4i w ((l.drop a).take w)),μ):=by
 have s1:ev gA (N+8) (.slc (.loc 110) (some (.loc 111)) (some (.bin .Add (.loc 111) (.loc 141))) .none) ρ μ=some (vI ((l.drop a).take w),μ):=by
  refine b2y (j:=((a+w:Nat):Int)) (evl (k 110 _ rfl)) (evl (k 111 _ rfl)) (evb (evl (k 111 _ rfl)) (evl (k 141 _ rfl)) rfl) ((b6i a w (by rw [List.length_map];exact hl) (by rw [List.length_map];exact Nat.le_trans (Nat.le_of_lt hz) (by decide))).trans ?_);unfold vI;rw [List.map_take,List.map_drop]
 have hlt:((l.drop a).take w).length<64:=Nat.lt_of_le_of_lt (List.length_take_le _ _) (Nat.lt_trans hw (by decide));refine a0i (u:=.lst ((b3y (cst ((l.drop a).take w))).map .int)) (v:=vI (List.range w)) ((a0k (a1q s1)).trans ?_) ?_ (e0x _ _)
 ·show(if(inV ((l.drop a).take w)).length<64 then(a3m (inV ((l.drop a).take w))).map fun ns=>(V.lst ((b3y ns).map .int),μ)else .none)=_
  rw [if_pos (by unfold inV;rw [List.length_map];exact hlt),b0g];rfl
 ·rw [a6m,a1q (evl (k 141 _ rfl))]
  show(a0l [.int (w:Int)]).bind _=_;rw [a3b (Nat.lt_succ_of_lt hw)];exact if_pos (by rw [List.length_map,List.length_range];exact Nat.le_trans (Nat.le_of_lt hw) (by decide))
theorem d7h{cs:List Nat}{wh paint:Nat}{F:List (List Bool)}(hc:∀ c∈cs,c<48)(h8:cs.length<8)(h0:0<wh)(hw:wh<=cs.length)(ok:a2m μ=true)(hF:F.length<100)(kn:Knows ρ [(141,.int (wh:Int)),(134,vS (wS cs)),(96,.int (paint:Int)),(143,.mut μ.length)]) :
  exec gA (N+75) c9h ρ (μ++[.list (F.map vB)])=some (.next,put 110 (vI (a0m cs wh)) ρ,μ++[.list ((F++[a7a cs wh]).map vB)]):=by
 have ok1:=b5z ok (b6w F);have hw8:=Nat.lt_of_le_of_lt hw h8;have e1:ev gA (N+74) (e1o (.loc 141) (.bin .Add (.loc 141) (.loc 111))) ρ (μ++[.list (F.map vB)])=some (vI (a0m cs wh),μ++[.list (F.map vB)]):=by
  have h141:∀(i:Nat) (v:V),(put 82 v (put 111 (.int (i:Int)) (ρ.filter fun p=>!([42,111,82]:List Nat).contains p.1))).lookup 141=some (.int (wh:Int)):=fun i v=>a1z (a1z ((a2q (own:=[42,111,82]) rfl ρ).trans (kn 141 _ rfl)) (by decide)) (by decide);exact b6k (N:=N+4) (tn:=fun i=>wh+i) hc h8 h0 (.inl (Nat.le_of_lt_succ hw8)) ok1 (Knows.cons (kn 134 _ rfl) (Knows.cons (kn 96 _ rfl) Knows.nil)) (fun i v=>evl (h141 i v)) fun i v=>evb (evl (h141 i v)) (evl (a1z a1c (by decide))) rfl
 have k2:=kn.put 110 (vI (a0m cs wh));have hp:(a0m cs wh).length=cs.length:=List.length_map ..;have e2:ev gA (N+73) (.comp c7y (.one 111) (.range [(.cst (.int 0)),(.bin .Add (.bin .Sub (.call 0 [(.loc 134)]) (.loc 141)) (.cst (.int 1))),(.loc 141)]) [] [42,111]) (put 110 (vI (a0m cs wh)) ρ) (μ++[.list (F.map vB)])=some (vB (a7a cs wh),μ++[.list (F.map vB)]):=by
  unfold vB a7a;rw [List.map_map];refine a2r (vs:=(List.range (cs.length / wh)).map fun(i:Nat)=>V.int ((i * wh:Nat):Int)) ?_ (by rw [List.length_map,List.length_range];exact Nat.le_trans (Nat.div_le_self _ _) (Nat.le_trans (Nat.le_of_lt h8) (by decide))) ?_
  ·have l1:=c0n (Γ:=gA) (n:=N+69) (x:=.loc 134) (ρ:=put 110 (vI (a0m cs wh)) ρ) (μ:=μ++[.list (F.map vB)]) (l:=(wS cs).map .str) (fun zz zz zz=>rfl) (evl (k2 134 _ rfl)) (by rw [List.length_map,a4s];exact Nat.le_trans (Nat.le_of_lt h8) (by decide))
   rw [List.length_map,a4s]at l1;rw [d5o,evn evc (evn (v:=.int ((cs.length:Int)-wh+1)) (evb (evb l1 (evl (k2 141 _ rfl)) rfl) evc rfl) (a1q (evl (k2 141 _ rfl))))];show(a0l [.int 0,.int ((cs.length:Int)-wh+1),.int (wh:Nat)]).map _=_;rw [c2t h8 h0 hw];rfl
  ·refine a4r (h:=fun(i:Nat)=>V.int ((i * wh:Nat):Int)) (List.range (cs.length / wh)) _ fun i hi=>?_
   have hi:=List.mem_range.mp hi;have k3:=((Knows.own (own:=[42,111]) (Knows.cons (k2 110 _ rfl) (Knows.cons (k2 141 _ rfl) Knows.nil)) rfl).put 111 (.int ((i * wh:Nat):Int)));refine d3k (N:=N+62) (l:=a0m cs wh) ?_ (by rw [hp];exact Nat.lt_trans h8 (by decide)) hw8 (Knows.cons (k3 110 _ rfl) (Knows.cons (k3 111 _ rfl) (Knows.cons (k3 141 _ rfl) Knows.nil)));rw [hp,← Nat.succ_mul];exact Nat.le_trans (Nat.mul_le_mul_right wh hi) (Nat.div_mul_le_self _ _)
 have e3:=b9u (Γ:=gA) (M:=N+72) (i:=143) (fun zz zz=>rfl) (fun zz zz zz zz=>rfl) (k2 143 _ rfl) e2 (a5c (a2v _ _)) (a2v _ _) (by rw [List.length_map];exact Nat.le_trans (Nat.le_of_lt hF) (by decide));rw [b3s]at e3;refine(a0a (f:=a0d gA (N+74)) (a0c e1)).trans ((a0a (a3d e3)).trans ?_);rw [List.map_append];rfl
end
end
section
noncomputable def a2p(cs:List Nat):List (List Bool):=(List.range' 1 cs.length).map (a7a cs)
noncomputable def d9m(l:List Nat)(k:Nat):Bool:=decide ((cst (l.take (k+1))).max?.getD 0-(cst (l.take (k+1))).min?.getD 0=(k:Int))
noncomputable def d6n(cs:List Nat):Bool:=decide ((a2p cs).filter (fun f=>!f.getD 0 false)=[])
noncomputable def d8j(cs:List Nat):Bool:=decide ((a2p cs).filter (fun f=>decide (false∈f))=[])
noncomputable def d4h(cs:List Nat):Bool:=decide ((List.range cs.length).filter (fun k=>!d9m (a0m cs 64) k)=[])
section
variable{μ:Mu}{N:Nat}{ρ:Rho}{Γ:G}{n:Nat}
theorem b3z{α:Type}{f:X->Rho->Mu->Option (V×Mu)}{elt x:X}{i:Nat}{h g:α->V}{p:α->Bool}{P:Mu->Prop}{d:∀ μ,Decidable (P μ)}(hP:P μ)(l:List α):∀ ρ:Rho,(∀ a∈l,f x (put i (h a) ρ) μ=some (.bool (p a),μ))->(∀ a∈l,f elt (put i (h a) ρ) μ=some (g a,μ))->@a4f f elt (.one i) [x] P d (l.map h) ρ μ=some ((l.filter p).map g,μ):=by
 induction l with
 | nil=>intro ρ _ _;exact if_pos hP
 | cons a l ih=>
  intro ρ H1 H2;have e:=ih (put i (h a) ρ) (fun b hb=>by rw [a8w];exact H1 b (List.mem_cons_of_mem _ hb)) fun b hb=>by rw [a8w];exact H2 b (List.mem_cons_of_mem _ hb)
  refine(if_pos hP).trans ?_;show(match (generalizing:=false) b2l (fun x μ=>f x (put i (h a) ρ) μ) [x] μ with
   | .none=>Option.none
   | some (false,μ)=>@a4f f elt (.one i) [x] P d (l.map h) (put i (h a) ρ) μ
   | some (true,μ)=>match f elt (put i (h a) ρ) μ with
    | .none=>.none
    | some (y,μ)=>match @a4f f elt (.one i) [x] P d (l.map h) (put i (h a) ρ) μ with
     | .none=>.none
     | some (ys,μ)=>some (y::ys,μ))=_
  rw [c9z (H1 a List.mem_cons_self)];induction hp:p a using Bool.casesOn with
  | true=>
   dsimp only;rw [H2 a List.mem_cons_self];dsimp only;rw [e,List.filter_cons_of_pos hp];rfl
  | false=>rw [List.filter_cons_of_neg (nf hp)];exact e
theorem b9z{α:Type}{elt x:X}{i j k:Nat}{own:List Nat}{h:α->V}{p:α->Bool}{l:List α}(hj:ρ.lookup j=some (.mut k))(hk:μ[k]?=some (.list (l.map h)))(hz:l.length<=big)
  (H1:∀ a∈l,ev Γ (n+1) x (put i (h a) (ρ.filter fun p=>!own.contains p.1)) μ=some (.bool (p a),μ)) (H2:∀ a∈l,ev Γ (n+1) elt (put i (h a) (ρ.filter fun p=>!own.contains p.1)) μ=some (h a,μ)):ev Γ (n+2) (.comp elt (.one i) (.loc j) [x] own) ρ μ=some (.lst ((l.filter p).map h),μ):=by
 have e:ev Γ (n+1) (.loc j) ρ μ=some (.mut k,μ):=evl hj;rw [a8j,e4d,e];show d0v (ev Γ (n+1)) elt (.one i) (.loc j) [x] ρ (ρ.filter fun p=>!own.contains p.1) μ=_;unfold d0v d0f;dsimp only;rw [e];show((match (generalizing:=false) μ[k]? with | some (.list l)=>some (k,l,μ) | _=>Option.none).bind _)=_
 rw [hk];refine(if_pos (by rw [List.length_map];exact hz)).trans ?_;rw [b3z (P:=fun μ=>μ[k]?=some (.list (l.map h))) hk l _ H1 H2];rfl
theorem d5h(fs:List (List Bool)):a0z .Eq (.lst (fs.map vB)) (.lst [])=some (decide (fs=[])):=
 encBool.list.list.cmpEq (by decide) (b:=[]) (fun zz zz zz zz=>trivial) (fun zz h=>nomatch h)
theorem d3x{fs:List (List Bool)}{k:Nat}(hj:ρ.lookup 143=some (.mut k))(hk:μ[k]?=some (.list (fs.map vB)))(hz:fs.length<=big)(hf:∀ f∈fs,0<f.length/\f.length<=big):ev gA (N+10) d4x ρ μ=some (.bool (decide (fs.filter (fun f=>!f.getD 0 false)=[])),μ):=by
 refine a0i (u:=.lst ((fs.filter fun f=>!f.getD 0 false).map vB)) (v:=.lst []) (b9z (n:=N+7) hj hk hz (fun f h=>?_) fun f zz=>evl a1c) rfl (d5h _);refine d6c (a4o (v:=.int ((0:Nat):Int)) (evl a1c) evc (b0b ?_ (by rw [List.length_map];exact(hf f h).2)));rw [List.getElem?_map,List.getD_eq_getElem?_getD,List.getElem?_eq_getElem (hf f h).1];rfl
theorem e3g{fs:List (List Bool)}{k:Nat}(hj:ρ.lookup 143=some (.mut k))(hk:μ[k]?=some (.list (fs.map vB)))(hz:fs.length<=big):ev gA (N+10) e8z ρ μ=some (.bool (decide (fs.filter (fun f=>decide (false∈f))=[])),μ):=by
 refine a0i (u:=.lst ((fs.filter fun f=>decide (false∈f)).map vB)) (v:=.lst []) (b9z (n:=N+7) hj hk hz (fun f h=>?_) fun f zz=>evl a1c) rfl (d5h _);exact a0i (u:=.bool false) evc (evl a1c) (encBool.cmpIn (by decide) trivial fun zz zz=>trivial)
theorem e2g(a b:Int):a0z .NotEq (.int a) (.int b)=some (!decide (a=b)):=by
 show(a0z .Eq (.int a) (.int b)).map (!·)=_;rw [d4m];rfl
theorem d1c{l:List Nat}(h:l≠[]):(cst l).max?=some ((cst l).max?.getD 0)/\(cst l).min?=some ((cst l).min?.getD 0):=by
 induction l using List.casesOn with
 | nil=>exact absurd rfl h
 | cons a l=>exact⟨rfl,rfl⟩
theorem d9n{ws:List (List Nat)}{l:List Nat}(hl:l.length=ws.length)(h8:l.length<8)(kn:Knows ρ [(134,vS ws),(100,vI l)]):ev gA (N+20) e3v ρ μ=some (.bool (decide ((List.range l.length).filter (fun k=>!d9m l k)=[])),μ):=by
 have hz:l.length<=big:=Nat.le_trans (Nat.le_of_lt h8) (by decide);refine a0i (u:=vI ((List.range l.length).filter fun k=>!d9m l k)) (v:=vI []) (a2r (vs:=(List.range l.length).map fun(i:Nat)=>V.int i) ?_ (by rw [List.length_map,List.length_range];exact hz) ?_) rfl (d6q _ _)
 ·rw [d5o,a1q (c0n (fun zz zz zz=>rfl) (evl (kn 134 _ rfl)) (by rw [List.length_map,← hl];exact hz)),List.length_map,← hl]
  show(a0l [.int (l.length:Int)]).map _=_;rw [a3b (Nat.lt_succ_of_lt h8)];rfl
 ·refine a6i (h:=fun(i:Nat)=>V.int i) (g:=fun(i:Nat)=>V.int i) (p:=fun k=>!d9m l k) (List.range l.length) _ (fun k hk=>?_) fun zz zz zz=>evl a1c
  have hk:=List.mem_range.mp hk;have ht:ev gA (N+15) c8a (put 111 (.int (k:Int)) (ρ.filter fun p=>!([42,111]:List Nat).contains p.1)) μ=some (vI (l.take (k+1)),μ):=by
   unfold vI;rw [List.map_take];exact a7u (k:=((k+1:Nat):Int)) (evl (a1z ((a2q (own:=[42,111]) rfl ρ).trans (kn 100 _ rfl)) (by decide))) (evb (evl a1c) evc rfl) (a6w (l:=l.map fun c=>V.int (c:Nat)) (k+1) (by rw [List.length_map];exact hz))
  have hne:l.take (k+1)≠[]:=fun q=>by
   have:=congrArg List.length q;rw [List.length_take,Nat.min_eq_left hk]at this;exact Nat.succ_ne_zero _ this
  obtain⟨m1,m2⟩:=d1c hne;unfold d9m;generalize (cst (l.take (k+1))).max?.getD 0=mx at m1 ⊢;generalize (cst (l.take (k+1))).min?.getD 0=mn at m2 ⊢;refine a0i (evb (u:=.int mx) (v:=.int mn) ((a0k (a1q ht)).trans ?_) ((a0k (a1q ht)).trans ?_) rfl) (evl a1c) (e2g _ _)
  ·show((a3m (inV (l.take (k+1)))).bind fun ns=>ns.max?.map fun m=>(V.int m,μ))=_
   rw [b0g];show(cst (l.take (k+1))).max?.map _=_;rw [m1];rfl
  ·show((a3m (inV (l.take (k+1)))).bind fun ns=>ns.min?.map fun m=>(V.int m,μ))=_
   rw [b0g];show(cst (l.take (k+1))).min?.map _=_;rw [m2];rfl
theorem d6i{cs:List Nat}{paint:Nat}(hc:∀ c∈cs,c<48)(h8:cs.length<8)(ok:a2m μ=true):∀(m k:Nat) (F:List (List Bool)) (ρ:Rho),0<k->k+m=cs.length+1->F.length+m<100->Knows ρ [(134,vS (wS cs)),(96,.int (paint:Int)),(143,.mut μ.length)] →
  ∃ ρ',a3w (fun ρ μ=>exec gA (N+75) c9h ρ μ) (.one 141) ((List.range' k m).map fun(i:Nat)=>V.int i) ρ (μ++[.list (F.map vB)])=some (.next,ρ',μ++[.list ((F++(List.range' k m).map (a7a cs)).map vB)])/\Knows ρ' [(134,vS (wS cs)),(96,.int (paint:Int)),(143,.mut μ.length)]:=by
 intro m;induction m with
 | zero=>intro k F ρ _ _ _ kn;exact⟨ρ,by rw [show(List.range' k 0).map (a7a cs)=[]from rfl,List.append_nil];rfl,kn⟩
 | succ m ih=>
  intro k F ρ h0 hk hF kn;have k1:=kn.put 141 (.int (k:Int));have e1:=d7h (N:=N) (paint:=paint) hc h8 h0 (by omega) ok (Nat.lt_of_le_of_lt (Nat.le_add_right _ _) hF) k1;have k2:=k1.put 110 (vI (a0m cs k));obtain⟨ρ',e2,k3⟩:=ih (k+1) (F++[a7a cs k]) _ (Nat.succ_pos k) (by rw [Nat.add_right_comm];exact hk) (by rw [List.length_append,Nat.add_right_comm];exact hF) (Knows.cons (k2 134 _ rfl) (Knows.cons (k2 96 _ rfl) (Knows.cons (k2 143 _ rfl) Knows.nil)));rw [List.append_assoc,List.singleton_append]at e2;exact⟨ρ',(a2n rfl e1).trans e2,k3⟩
theorem b6b{cs:List Nat}{paint:Nat}(hc:∀ c∈cs,c<48)(h8:cs.length<8)(ok:a2m μ=true):cF gA P4__law_answers a1l (N+80) [vS (wS cs),.int (paint:Int)] μ=some (vB [d6n cs,d8j cs,d4h cs],μ):=by
 obtain⟨ρ2,e1,k2⟩:=d6i (μ:=μ) (N:=N+3) (paint:=paint) hc h8 ok cs.length 1 [] [(134,vS (wS cs)),(96,.int (paint:Int)),(143,.mut μ.length)] (by decide) (Nat.add_comm _ _) (by rw [List.length_nil,Nat.zero_add];exact Nat.lt_trans h8 (by decide)) Knows.self;rw [List.nil_append]at e1;have hlen:(a2p cs).length=cs.length:=by unfold a2p;rw [List.length_map,List.length_range']
 have hbig:∀ m,m<=cs.length->m<=big:=fun m h=>Nat.le_trans h (Nat.le_trans (Nat.le_of_lt h8) (by decide));have hf:∀ f∈a2p cs,0<f.length/\f.length<=big:=fun f h=>by
  obtain⟨w,hw,rfl⟩:=List.mem_map.mp h;obtain⟨h1,h2⟩:=List.mem_range'_1.mp hw;unfold a7a;rw [List.length_map,List.length_range];exact⟨Nat.div_pos (by omega) h1,hbig _ (Nat.div_le_self _ _)⟩
 have hpl:(a0m cs 64).length=cs.length:=List.length_map ..;have s3:ev gA (N+78) (e1o (.cst (.int 64)) (.loc 111)) ρ2 (μ++[.list ((a2p cs).map vB)])=some (vI (a0m cs 64),μ++[.list ((a2p cs).map vB)]):=
  b6k (N:=N+8) (tn:=fun i=>i) hc h8 (by decide) (.inr rfl) (b5z ok (b6w _)) (Knows.cons (k2 134 _ rfl) (Knows.cons (k2 96 _ rfl) Knows.nil)) (fun zz zz=>evc) fun zz zz=>evl (a1z a1c (by decide))
 have k3:=k2.put 100 (vI (a0m cs 64));have a1:=d3x (N:=N+67) (μ:=μ++[.list ((a2p cs).map vB)]) (k3 143 _ rfl) (a2v _ _) (hbig _ (Nat.le_of_eq hlen)) hf;have a2:=e3g (N:=N+67) (μ:=μ++[.list ((a2p cs).map vB)]) (k3 143 _ rfl) (a2v _ _) (hbig _ (Nat.le_of_eq hlen));have a3:=d9n (N:=N+57) (μ:=μ++[.list ((a2p cs).map vB)]) (l:=a0m cs 64) (hpl.trans (a4s cs).symm) (hpl▸h8) (Knows.cons (k3 134 _ rfl) (Knows.cons (k3 100 _ rfl) Knows.nil));rw [hpl]at a3;have e3:exec gA (N+79) a1l (P4__law_answers.zip [vS (wS cs),.int (paint:Int)]) μ=some (.ret (vB [d6n cs,d8j cs,d4h cs]),put 100 (vI (a0m cs 64)) ρ2,μ++[.list ((a2p cs).map vB)]):=by
  refine(a0a (f:=a0d gA (N+78)) (ρ':=[(134,vS (wS cs)),(96,.int (paint:Int)),(143,.mut μ.length)]) (μ':=μ++[.list (([]:List (List Bool)).map vB)]) ((a0c (b4y (vs:=[]) b4c (Nat.zero_le _))).trans rfl)).trans ((a0a ((a5b (vs:=(List.range' 1 cs.length).map fun(i:Nat)=>V.int i) ?_).trans e1)).trans ((a0a (a0c s3)).trans (a7i (a7b (evn a1 (evn a2 (a1q a3))) (show 3<=big by decide)))));have l1:=c0n (Γ:=gA) (n:=N+76) (x:=.loc 134) (ρ:=[(134,vS (wS cs)),(96,.int (paint:Int)),(143,.mut μ.length)]) (μ:=μ++[.list (([]:List (List Bool)).map vB)]) (l:=(wS cs).map .str) (fun zz zz zz=>rfl) (evl rfl) (by rw [List.length_map,a4s];exact hbig _ (Nat.le_refl _));rw [List.length_map,a4s]at l1;rw [d5o,evn evc (a1q (v:=.int ((cs.length+1:Nat):Int)) (evb l1 evc rfl))];show(a0l [.int ((1:Nat):Int),.int ((cs.length+1:Nat):Int)]).map _=_;rw [b6n (by decide) (Nat.succ_lt_succ h8)];rfl
 show a2z gA (N+79) P4__law_answers a1l [vS (wS cs),.int (paint:Int)] μ=_;exact a4k rfl e3 List.take_left ok rfl
end
end
end Mine
end
section
set_option maxRecDepth 100000
namespace Mine
section
section
variable{α:Type}
noncomputable def e7b(f:α->Bool)(l:List α):Bool:=@List.rec α (fun zz=>Bool) false (fun a zz ih=>bB (f a) true ih) l
noncomputable def e5q(f:α->Bool)(l:List α):Bool:=@List.rec α (fun zz=>Bool) true (fun a zz ih=>bB (f a) ih false) l
noncomputable def e5b(f:Nat->Bool)(n:Nat):Bool:=@Nat.rec (fun zz=>Bool) false (fun k ih=>bB (f k) true ih) n
noncomputable def d5k(f:Nat->Bool)(n:Nat):Bool:=@Nat.rec (fun zz=>Bool) true (fun k ih=>bB (f k) ih false) n
end
noncomputable def d6b(n:Nat):List Nat->List Nat:=@Nat.rec (fun zz=>List Nat->List Nat) (fun l=>l) (fun zz ih l=>@List.rec Nat (fun zz=>List Nat) [] (fun zz t zz=>ih t) l) n
noncomputable def b0x(n:Nat):List Nat->List Nat:=@Nat.rec (fun zz=>List Nat->List Nat) (fun zz=>[]) (fun zz ih l=>@List.rec Nat (fun zz=>List Nat) [] (fun a t zz=>a::ih t) l) n
noncomputable def mxL(l:List Nat):Nat:=@List.rec Nat (fun zz=>Nat) 0 (fun a zz ih=>bN (Nat.ble a ih) ih a) l
noncomputable def mnL(l:List Nat):Nat:=@List.rec Nat (fun zz=>Nat) 100 (fun a zz ih=>bN (Nat.ble a ih) a ih) l
noncomputable def eqL(l:List Nat):List Nat->Bool:=@List.rec Nat (fun zz=>List Nat->Bool) (fun m=>@List.rec Nat (fun zz=>Bool) true (fun zz zz zz=>false) m) (fun a zz ih m=>@List.rec Nat (fun zz=>Bool) false (fun b s zz=>bB (Nat.beq a b) (ih s) false) m) l
noncomputable def d7j(f:Nat->Bool)(l:List Nat):List Nat:=@List.rec Nat (fun zz=>List Nat) [] (fun a zz ih=>@Bool.rec (fun zz=>List Nat) ih (a::ih) (f a)) l
noncomputable def e4g(l:List Nat)(x:Nat):List Nat:=@List.rec Nat (fun zz=>List Nat) [] (fun a r ih=>@Bool.rec (fun zz=>List Nat) (a::ih) r (Nat.beq a x)) l
noncomputable def cov(w:Nat)(l:List Nat):Bool:=d5k (fun r=>e7b (fun x=>Nat.beq (Nat.mod x w) r) l) w
noncomputable def p1(n:Nat)(ds:List Nat):Bool:=d5k (fun w=>cov (Nat.sub n w) (b0x (Nat.sub n w) ds)) n
noncomputable def p2(n:Nat)(ds:List Nat):Bool:=d5k (fun w=>d5k (fun i=>cov (Nat.sub n w) (b0x (Nat.sub n w) (d6b (Nat.mul i (Nat.sub n w)) ds))) (Nat.div n (Nat.sub n w))) (Nat.pred n)
noncomputable def p3(n:Nat)(ds:List Nat):Bool:=d5k (fun k=>Nat.beq (Nat.succ (mxL (b0x (Nat.sub n k) ds))) (Nat.add (mnL (b0x (Nat.sub n k) ds)) (Nat.sub n k))) n
noncomputable def d2b(n:Nat)(ds:List Nat):Bool:=e5b (fun cut=>bB (eqL (d7j (fun x=>Nat.ble (Nat.succ x) cut) ds) (List.range cut).reverse) (eqL (d7j (fun x=>Nat.ble cut x) ds) (List.range' cut (Nat.sub n cut))) false) (Nat.succ n)
noncomputable def eqB(a b:Bool):Bool:=bB a b (bB b false true)
noncomputable def c9n(n:Nat)(ds:List Nat)(d:Bool):Bool:=bB (eqB (p1 n ds) d) (bB (eqB (p2 n ds) d) (eqB (p3 n ds) d) false) false
noncomputable def b1p(leaf:List Nat->Bool)(c:Nat):List Nat->List Nat->Bool:=@Nat.rec (fun zz=>List Nat->List Nat->Bool) (fun zz dr=>leaf dr) (fun zz ih l dr=>e5q (fun x=>ih (e4g l x) (dr++[x])) l) c
noncomputable def e1t(leaf:List Nat->Bool)(c:Nat):List Nat->List Nat->List Nat->Bool:=@Nat.rec (fun zz=>List Nat->List Nat->List Nat->Bool) (fun zz zz acc=>leaf acc)
 (fun zz ih A B acc=>bB (@List.rec Nat (fun zz=>Bool) true (fun x r zz=>ih r B (acc++[x])) A) (@List.rec Nat (fun zz=>Bool) true (fun y s zz=>ih A s (acc++[y])) B) false) c
noncomputable def goD(n:Nat)(ds:List Nat):Bool:=c9n n ds (d2b n ds)
noncomputable def goR(n:Nat):Bool:=d5k (fun d=>e1t (fun ds=>c9n n ds true) n ((List.range n).take d).reverse ((List.range n).drop d) []) (Nat.succ n)
theorem gr5:goR 5=true:=by decide +kernel
theorem gr6:goR 6=true:=by decide +kernel
theorem gr7:goR 7=true:=by decide +kernel
theorem gd5:b1p (goD 5) 5 [0,1,2,3,4] []=true:=by decide +kernel
theorem gd6:b1p (goD 6) 6 [0,1,2,3,4,5] []=true:=by decide +kernel
theorem e6u:b1p (goD 7) 6 [1,2,3,4,5,6] [0]=true:=by decide +kernel
theorem e7f:b1p (goD 7) 6 [0,2,3,4,5,6] [1]=true:=by decide +kernel
theorem e6w:b1p (goD 7) 6 [0,1,3,4,5,6] [2]=true:=by decide +kernel
theorem e7h:b1p (goD 7) 6 [0,1,2,4,5,6] [3]=true:=by decide +kernel
theorem e7g:b1p (goD 7) 6 [0,1,2,3,5,6] [4]=true:=by decide +kernel
theorem e6n:b1p (goD 7) 6 [0,1,2,3,4,6] [5]=true:=by decide +kernel
theorem e4w:b1p (goD 7) 6 [0,1,2,3,4,5] [6]=true:=by decide +kernel
theorem d9f{α:Type}{f:α->Bool}{l:List α}(h:e5q f l=true){x:α}(hx:x∈l):f x=true:=by
 induction l with
 | nil=>exact nomatch hx
 | cons a l ih=>
  obtain⟨h1,h2⟩:=a5l h;rcases List.mem_cons.mp hx with rfl | hx
  ·exact h1
  ·exact ih h2 hx
theorem allB_iff{f:Nat->Bool}{n:Nat}:d5k f n=true↔∀ k<n,f k=true:=by
 induction n with
 | zero=>exact⟨fun zz k hk=>absurd hk (Nat.not_lt_zero _),fun zz=>rfl⟩
 | succ n ih=>
  constructor
  ·intro h k hk
   obtain⟨h1,h2⟩:=a5l h;rcases Nat.eq_or_lt_of_le (Nat.le_of_lt_succ hk)with q | q
   ·rw [q];exact h1
   ·exact ih.mp h2 k q
  ·intro h
   show bB (f n) (d5k f n) false=true;rw [h n (Nat.lt_succ_self n)];exact ih.mpr fun k hk=>h k (Nat.lt_succ_of_lt hk)
theorem anyB_iff{f:Nat->Bool}{n:Nat}:e5b f n=true↔∃ k,k<n/\f k=true:=by
 induction n with
 | zero=>exact⟨fun h=>nt h,fun⟨k,hk,_⟩=>absurd hk (Nat.not_lt_zero _)⟩
 | succ n ih=>
  show bB (f n) true (e5b f n)=true↔_;induction hf:f n using Bool.casesOn with
  | true=>exact⟨fun zz=>⟨n,Nat.lt_succ_self n,hf⟩,fun zz=>rfl⟩
  | false=>exact ih.trans ⟨fun⟨k,a,b⟩=>⟨k,Nat.lt_succ_of_lt a,b⟩,fun⟨k,a,b⟩=>⟨k,Nat.lt_of_le_of_ne (Nat.le_of_lt_succ a) (fun q=>by rw [q,hf]at b;exact nt b),b⟩⟩
theorem anyL_iff{α:Type}{f:α->Bool}{l:List α}:e7b f l=true↔∃ x∈l,f x=true:=by
 induction l with
 | nil=>exact⟨fun h=>nt h,fun⟨x,hx,_⟩=>nomatch hx⟩
 | cons a l ih=>
  show bB (f a) true (e7b f l)=true↔_;induction hf:f a using Bool.casesOn with
  | true=>exact⟨fun zz=>⟨a,List.mem_cons_self,hf⟩,fun zz=>rfl⟩
  | false=>exact ih.trans ⟨fun⟨x,a,b⟩=>⟨x,List.mem_cons_of_mem _ a,b⟩,fun⟨x,hx,b⟩=>(List.mem_cons.mp hx).elim (fun q=>by rw [q,hf]at b;exact nt b) fun hx=>⟨x,hx,b⟩⟩
theorem d9e(l:List Nat)(x:Nat):e4g l x=l.erase x:=by
 induction l with
 | nil=>rfl
 | cons a l ih=>
  rw [List.erase_cons];show @Bool.rec (fun zz=>List Nat) (a::e4g l x) l (Nat.beq a x)=if(a==x)=true then l else a::l.erase x;rw [← ih,show(a==x)=Nat.beq a x from Bool.eq_iff_iff.mpr ⟨fun h=>by rw [eq_of_beq h];exact Nat.beq_refl x,fun h=>beq_iff_eq.mpr (Nat.eq_of_beq_eq_true h)⟩];cases Nat.beq a x<;>rfl
theorem a7t(n:Nat):∀ l,b0x n l=l.take n:=by
 induction n with
 | zero=>intro l;rfl
 | succ n ih=>
  intro l;induction l using List.casesOn with
  | nil=>rfl
  | cons a l=>exact congrArg (a::·) (ih l)
theorem b4h(n:Nat):∀ l,d6b n l=l.drop n:=by
 induction n with
 | zero=>intro l;rfl
 | succ n ih=>
  intro l;induction l using List.casesOn with
  | nil=>rfl
  | cons a l=>exact ih l
theorem c9d(f:Nat->Bool)(l:List Nat):d7j f l=l.filter f:=by
 induction l with
 | nil=>rfl
 | cons a l ih=>
  rw [List.filter_cons,← ih];show @Bool.rec (fun zz=>List Nat) (d7j f l) (a::d7j f l) (f a)=_;cases f a<;>rfl
theorem d4e(l:List Nat):∀ m,eqL l m=decide (l=m):=by
 induction l with
 | nil=>
  intro m;cases m<;>rfl
 | cons a l ih=>
  intro m;induction m using List.casesOn with
  | nil=>rfl
  | cons b m=>
   show bB (Nat.beq a b) (eqL l m) false=_;rw [ih];by_cases h:a=b
   ·subst h
    rw [Nat.beq_refl];exact decide_eq_decide.mpr ⟨fun q=>by rw [q],fun q=>(List.cons.inj q).2⟩
   ·rw [Bool.eq_false_iff.mpr fun q=>h (Nat.eq_of_beq_eq_true q)]
    exact(decide_eq_false fun q=>h (List.cons.inj q).1).symm
theorem c9b{a b:Bool}(h:eqB a b=true):a=b:=by cases a<;>cases b<;>first | rfl | exact nt h
theorem a3n{leaf:List Nat->Bool}:∀(c:Nat) (l dr:List Nat) (o:Nat),l.length=c->b1p leaf c l dr=true->leaf (b2h c l dr o)=true:=by
 intro c;induction c with
 | zero=>intro l dr o _ h;exact h
 | succ c ih=>
  intro l dr o hl h;have hlt:o%(c+1)<l.length:=by rw [hl];exact Nat.mod_lt _ (Nat.succ_pos c)
  have hmem:l.getD (o%(c+1)) 0∈l:=List.mem_of_getElem? (getD_some hlt);have h1:=d9f (show e5q (fun x=>b1p leaf c (e4g l x) (dr++[x])) l=true from h) hmem;rw [d9e]at h1;exact ih _ _ (o / (c+1)) (by rw [List.length_erase_of_mem hmem,hl];rfl) h1
theorem d2s{leaf:List Nat->Bool}:∀(c:Nat) (A B acc:List Nat) (b:Nat),A.length+B.length=c->e1t leaf c A B acc=true->leaf (acc++a5m c A B b)=true:=by
 intro c;induction c with
 | zero=>intro A B acc b _ h;rw [show a5m 0 A B b=[]from rfl,List.append_nil];exact h
 | succ c ih=>
  intro A B acc b hl h;rcases a9v (b:=b) hl with⟨x,r,rfl,_,e⟩ | ⟨y,s,rfl,_,e⟩
  ·rw [e,← List.singleton_append,← List.append_assoc]
   exact ih r B _ (b / 2) (Nat.succ.inj ((Nat.succ_add _ _).symm.trans hl)) (a5l h).1
  ·rw [e,← List.singleton_append,← List.append_assoc]
   exact ih A s _ (b / 2) (Nat.succ.inj hl) (a5l h).2
theorem b3f:∀ n:Nat,n<8->5<=n->n=5∨n=6∨n=7:=by decide
theorem e3u{n:Nat}(h5:5<=n)(h8:n<8)(o:Nat):goD n (b2h n (List.range n) [] o)=true:=by
 rcases b3f n h8 h5 with rfl | rfl | rfl
 ·exact a3n 5 [0,1,2,3,4] [] o rfl gd5
 ·exact a3n 6 [0,1,2,3,4,5] [] o rfl gd6
 ·have hlt:o%7<7:=Nat.mod_lt _ (by decide)
  show goD 7 (b2h 6 (([0,1,2,3,4,5,6]:List Nat).erase (([0,1,2,3,4,5,6]:List Nat).getD (o%7) 0)) [([0,1,2,3,4,5,6]:List Nat).getD (o%7) 0] (o / 7))=true;generalize o%7=d at hlt;generalize o / 7=q;rcases(by decide:∀ d<7,d=0∨d=1∨d=2∨d=3∨d=4∨d=5∨d=6) d hlt with rfl | rfl | rfl | rfl | rfl | rfl | rfl
  ·exact a3n 6 [1,2,3,4,5,6] [0] q rfl e6u
  ·exact a3n 6 [0,2,3,4,5,6] [1] q rfl e7f
  ·exact a3n 6 [0,1,3,4,5,6] [2] q rfl e6w
  ·exact a3n 6 [0,1,2,4,5,6] [3] q rfl e7h
  ·exact a3n 6 [0,1,2,3,5,6] [4] q rfl e7g
  ·exact a3n 6 [0,1,2,3,4,6] [5] q rfl e6n
  ·exact a3n 6 [0,1,2,3,4,5] [6] q rfl e4w
theorem e3a{n d:Nat}(h5:5<=n)(h8:n<8)(hd:d<=n)(o:Nat):c9n n (a5m n ((List.range n).take d).reverse ((List.range n).drop d) o) true=true:=by
 have key:goR n=true:=by
  rcases b3f n h8 h5 with rfl | rfl | rfl
  ·exact gr5
  ·exact gr6
  ·exact gr7
 exact d2s (leaf:=fun ds=>c9n n ds true) n _ _ [] o (by rw [List.length_reverse,List.length_take,List.length_drop,List.length_range,Nat.min_eq_left hd,Nat.add_sub_cancel' hd]) (allB_iff.mp key d (Nat.lt_succ_of_le hd))
end
section
theorem cov_iff{w:Nat}{l:List Nat}:cov w l=true↔∀ r<w,∃ x∈l,x%w=r:=
 allB_iff.trans ⟨fun h r hr=>let⟨x,a,b⟩:=anyL_iff.mp (h r hr);⟨x,a,Nat.eq_of_beq_eq_true b⟩,fun h r hr=>let⟨x,a,b⟩:=h r hr;anyL_iff.mpr ⟨x,a,(show Nat.beq (x%w) r=true by rw [b];exact Nat.beq_refl r)⟩⟩
theorem c3e:∀(w:Nat) (l:List Nat),l.length=w->(∀ r<w,r∈l)->l.Perm (List.range w):=by
 intro w;induction w with
 | zero=>intro l h _;rw [List.length_eq_zero_iff.mp h];exact .refl _
 | succ w ih=>
  intro l h hr;have hm:=hr w (Nat.lt_succ_self w);have:=ih (l.erase w) (by rw [List.length_erase_of_mem hm,h];rfl) fun r hlt=>(List.mem_erase_of_ne (Nat.ne_of_lt hlt)).mpr (hr r (Nat.lt_succ_of_lt hlt));rw [List.range_succ];exact(List.perm_cons_erase hm).trans ((List.Perm.cons w this).trans (List.perm_append_singleton w _).symm)
theorem c2s(w:Nat):(cst (List.range w)).Pairwise (·<=·):=by
 unfold cst;rw [List.pairwise_map];exact(List.pairwise_lt_range (n:=w)).imp fun h=>Int.ofNat_le.mpr (Nat.le_of_lt h)
theorem mod_add{w s a b:Nat}:(s+a)%w=(s+b)%w↔a%w=b%w:=by
 constructor
 ·intro h
  have h2:((s:Int)+(a:Int))%(w:Int)=((s:Int)+(b:Int))%(w:Int):=congrArg Int.ofNat h;exact Int.ofNat.inj (Int.emod_add_cancel_left.mp h2)
 ·intro h
  rw [Nat.add_mod,h,← Nat.add_mod]
theorem d8h{w s:Nat}{l:List Nat}(hw:0<w)(hl:l.length=w):e4i w (l.map fun c=>(s+c)%w)=cov w l:=by
 rw [Bool.eq_iff_iff,cov_iff];refine decide_eq_true_iff.trans ?_;have hlen:(l.map fun c=>(s+c)%w).length=w:=by rw [List.length_map,hl]
 have mem:∀ r,r∈(l.map fun c=>(s+c)%w)↔∃ x∈l,(s+x)%w=r:=fun r=>List.mem_map;constructor
 ·intro h r hr
  have hp:=a8u (cst (l.map fun c=>(s+c)%w));rw [h]at hp;have h1:(((s+r)%w:Nat):Int)∈cst (List.range w):=List.mem_map.mpr ⟨_,List.mem_range.mpr (Nat.mod_lt _ hw),rfl⟩;obtain⟨y,h2,h3⟩:=List.mem_map.mp (hp.subset h1);obtain⟨x,h4,h5⟩:=(mem y).mp h2;refine⟨x,h4,?_⟩;rw [Int.ofNat.inj h3]at h5;have:=mod_add.mp h5;rwa [Nat.mod_eq_of_lt hr]at this
 ·intro h
  refine a7h ((a8u _).trans ((c3e w _ hlen fun r hr=>(mem r).mpr ?_).map fun(k:Nat)=>(k:Int))) (a9l _) (c2s w);obtain⟨x,h1,h2⟩:=h ((r+(w-s%w))%w) (Nat.mod_lt _ hw);refine⟨x,h1,?_⟩;have hs:s%w<w:=Nat.mod_lt _ hw;have e:(s+x)%w=(s+(r+(w-s%w)))%w:=mod_add.mpr h2;have e2:s+(r+(w-s%w))=r+w * (s / w+1):=by
   have:=Nat.div_add_mod s w;rw [Nat.mul_add,Nat.mul_one];omega
  rw [e,e2,Nat.add_mul_mod_self_left,Nat.mod_eq_of_lt hr]
section
variable{n s:Nat}{ds:List Nat}
theorem d2j{w i:Nat}(hw:0<w)(hl:ds.length=n)(hi:i<n / w):e4i w (((a0m (ds.map (s+·)) w).drop (i * w)).take w)=cov w ((ds.drop (i * w)).take w):=by
 have e:a0m (ds.map (s+·)) w=ds.map fun c=>(7+s+c)%w:=by
  unfold a0m;rw [List.map_map];exact List.map_congr_left fun c zz=>congrArg (·%w) (Nat.add_assoc 7 s c).symm
 rw [e,← List.map_drop,← List.map_take];refine d8h hw ?_;have h1:i * w+w<=n:=by rw [← Nat.succ_mul];exact Nat.le_trans (Nat.mul_le_mul_right w hi) (Nat.div_mul_le_self _ _)
 rw [List.length_take,List.length_drop,hl];omega
theorem c8p(hl:ds.length=n){w:Nat}(h0:0<w):a7a (ds.map (s+·)) w=(List.range (n / w)).map fun i=>cov w ((ds.drop (i * w)).take w):=by
 unfold a7a;rw [List.length_map,hl];exact List.map_congr_left fun i hi=>d2j h0 hl (List.mem_range.mp hi)
theorem c5c{P:Nat->Prop}:(∀ k<n,P (n-k))↔∀ w,0<w->w<=n->P w:=
 ⟨fun h w h0 h1=>by have:=h (n-w) (by omega);rwa [Nat.sub_sub_self h1]at this,fun h k hk=>h _ (Nat.sub_pos_of_lt hk) (Nat.sub_le _ _)⟩
theorem fil_nil{α:Type}{f:α->Bool}{l:List α}:(decide (l.filter f=[])=true)↔∀ x∈l,f x=false:=
 decide_eq_true_iff.trans (List.filter_eq_nil_iff.trans ⟨fun h x hx=>Bool.eq_false_iff.mpr (h x hx),fun h x hx=>Bool.eq_false_iff.mp (h x hx)⟩)
theorem c0l(hl:ds.length=n){P:List Bool->Prop}:(∀ f∈a2p (ds.map (s+·)),P f)↔∀ w,0<w->w<=n->P ((List.range (n / w)).map fun i=>cov w ((ds.drop (i * w)).take w)):=by
 unfold a2p;rw [List.length_map,hl];constructor
 ·intro h w h0 h1
  rw [← c8p (s:=s) hl h0];exact h _ (List.mem_map.mpr ⟨w,List.mem_range'_1.mpr ⟨h0,by omega⟩,rfl⟩)
 ·intro h f hf
  obtain⟨w,hw,rfl⟩:=List.mem_map.mp hf;obtain⟨h0,h1⟩:=List.mem_range'_1.mp hw;rw [c8p hl h0];exact h w h0 (by omega)
theorem d9u(hl:ds.length=n):d6n (ds.map (s+·))=p1 n ds:=by
 rw [Bool.eq_iff_iff];refine fil_nil.trans ((c0l hl (P:=fun f=>(!f.getD 0 false)=false)).trans ((Iff.trans ?_ (c5c (P:=fun w=>cov w (b0x w ds)=true)).symm).trans allB_iff.symm));refine forall_congr' fun w=>forall_congr' fun h0=>forall_congr' fun h1=>?_;rw [a7t,List.getD_eq_getElem?_getD,List.getElem?_map,List.getElem?_range (Nat.div_pos h1 h0)];show(!cov w ((ds.drop (0 * w)).take w))=false↔_;rw [Nat.zero_mul,List.drop_zero];cases cov w (ds.take w)<;>decide
theorem d9o(x:Nat):cov 1 [x]=true:=cov_iff.mpr fun r hr=>⟨x,List.mem_singleton.mpr rfl,by rw [Nat.mod_one];exact(Nat.lt_one_iff.mp hr).symm⟩
theorem d9g(hl:ds.length=n)(h0:0<n):d8j (ds.map (s+·))=p2 n ds:=by
 rw [Bool.eq_iff_iff];have key:∀ w,decide (false∈(List.range (n / w)).map fun i=>cov w ((ds.drop (i * w)).take w))=false↔∀ i<n / w,cov w (b0x w (d6b (i * w) ds))=true:=fun w=>by
  rw [decide_eq_false_iff_not];constructor
  ·intro h i hi
   rw [a7t,b4h];exact Bool.not_eq_false _▸fun q=>h (List.mem_map.mpr ⟨i,List.mem_range.mpr hi,q⟩)
  ·intro h q
   obtain⟨i,hi,e⟩:=List.mem_map.mp q;have:=h i (List.mem_range.mp hi);rw [a7t,b4h,e]at this;exact nt this
 refine fil_nil.trans ((c0l hl (P:=fun f=>decide (false∈f)=false)).trans (Iff.trans ?_ allB_iff.symm));constructor
 ·intro h k hk
  exact allB_iff.mpr ((key (n-k)).mp (h (n-k) (Nat.sub_pos_of_lt (Nat.lt_of_lt_of_le hk (Nat.pred_le n))) (Nat.sub_le _ _)))
 ·intro h w hw hwn
  refine(key w).mpr ?_;by_cases h1:w=1
  ·subst h1
   intro i hi;rw [Nat.div_one]at hi;rw [a7t,b4h,Nat.mul_one,List.drop_eq_getElem_cons (by rw [hl];exact hi)];exact d9o _
  ·have:=allB_iff.mp (h (n-w) (show n-w<n-1 by omega))
   rw [show n.sub (n-w)=w from Nat.sub_sub_self hwn]at this;exact this
theorem e4u(t:Nat):∀(r:List Nat) (a:Nat),(cst ((a::r).map (t+·))).max?=some ((t+mxL (a::r):Nat):Int):=by
 intro r;induction r with
 | nil=>
  intro a;show some ((t+a:Nat):Int)=some ((t+bN (Nat.ble a 0) 0 a:Nat):Int);cases a<;>rfl
 | cons b r ih=>
  intro a;have e:(cst ((a::b::r).map (t+·))).max?=((cst ((b::r).map (t+·))).max?.elim ((t+a:Nat):Int) (max ((t+a:Nat):Int))):=List.max?_cons;rw [e,ih b];show some (max ((t+a:Nat):Int) ((t+mxL (b::r):Nat):Int))=some ((t+bN (Nat.ble a (mxL (b::r))) (mxL (b::r)) a:Nat):Int);generalize mxL (b::r)=M;by_cases h:a<=M
  ·rw [Nat.ble_eq.mpr h,Int.max_eq_right (Int.ofNat_le.mpr (Nat.add_le_add_left h t))];rfl
  ·rw [b4f h,Int.max_eq_left (Int.ofNat_le.mpr (Nat.add_le_add_left (Nat.le_of_lt (Nat.lt_of_not_le h)) t))];rfl
theorem e5p(t:Nat):∀(r:List Nat) (a:Nat),(∀ x∈a::r,x<=100)->(cst ((a::r).map (t+·))).min?=some ((t+mnL (a::r):Nat):Int):=by
 intro r;induction r with
 | nil=>
  intro a h;show some ((t+a:Nat):Int)=some ((t+bN (Nat.ble a 100) a 100:Nat):Int);rw [Nat.ble_eq.mpr (h a List.mem_cons_self)];rfl
 | cons b r ih=>
  intro a h;have e:(cst ((a::b::r).map (t+·))).min?=((cst ((b::r).map (t+·))).min?.elim ((t+a:Nat):Int) (min ((t+a:Nat):Int))):=List.min?_cons;rw [e,ih b fun x hx=>h x (List.mem_cons_of_mem _ hx)];show some (min ((t+a:Nat):Int) ((t+mnL (b::r):Nat):Int))=some ((t+bN (Nat.ble a (mnL (b::r))) a (mnL (b::r)):Nat):Int);generalize mnL (b::r)=M;by_cases h:a<=M
  ·rw [Nat.ble_eq.mpr h,Int.min_eq_left (Int.ofNat_le.mpr (Nat.add_le_add_left h t))];rfl
  ·rw [b4f h,Int.min_eq_right (Int.ofNat_le.mpr (Nat.add_le_add_left (Nat.le_of_lt (Nat.lt_of_not_le h)) t))];rfl
theorem d8l(hl:ds.length=n)(h8:n<8)(hs:s+n<=48)(hd:∀ d∈ds,d<n):d4h (ds.map (s+·))=p3 n ds:=by
 rw [Bool.eq_iff_iff];have e:a0m (ds.map (s+·)) 64=ds.map (7+s+·):=by
  unfold a0m;rw [List.map_map];refine List.map_congr_left fun c hc=>?_;have:=hd c hc;show(7+(s+c))%64=7+s+c;rw [Nat.mod_eq_of_lt (by omega),Nat.add_assoc]
 unfold d4h;rw [e,List.length_map,hl];refine fil_nil.trans (Iff.trans ?_ ((c5c (P:=fun m=>Nat.beq (Nat.succ (mxL (b0x m ds))) (mnL (b0x m ds)+m)=true)).symm.trans allB_iff.symm));have key:∀ k,k<n->((!d9m (ds.map (7+s+·)) k)=false↔Nat.beq (Nat.succ (mxL (b0x (k+1) ds))) (mnL (b0x (k+1) ds)+(k+1))=true):=fun k hk=>by
  unfold d9m;rw [a7t,← List.map_take];have hlen:(ds.take (k+1)).length=k+1:=by rw [List.length_take,hl,Nat.min_eq_left hk]
  have hmem:∀ x∈ds.take (k+1),x<=100:=fun x hx=>Nat.le_trans (Nat.le_of_lt (hd x (List.mem_of_mem_take hx))) (Nat.le_trans (Nat.le_of_lt h8) (by decide));generalize ds.take (k+1)=l at *;induction l using List.casesOn with
  | nil=>exact absurd hlen (Nat.succ_ne_zero k).symm
  | cons a r=>
   rw [e4u,e5p _ _ _ hmem];generalize mxL (a::r)=M;generalize mnL (a::r)=m;show(!decide (((7+s+M:Nat):Int)-((7+s+m:Nat):Int)=(k:Int)))=false↔_;rw [show Nat.beq (Nat.succ M) (m+(k+1))=decide (M=m+k)from Bool.eq_iff_iff.mpr ⟨fun q=>decide_eq_true (Nat.succ.inj (Nat.eq_of_beq_eq_true q)),fun q=>by rw [of_decide_eq_true q];exact Nat.beq_refl _⟩];rw [Bool.not_eq_false',decide_eq_true_iff,decide_eq_true_iff];omega
 constructor
 ·intro h m h0 hm
  have:=(key (m-1) (by omega)).mp (h _ (List.mem_range.mpr (by omega)));rwa [Nat.sub_add_cancel h0]at this
 ·intro h k hk
  exact(key k (List.mem_range.mp hk)).mpr (h (k+1) (Nat.succ_pos k) (List.mem_range.mp hk))
end
end
section
theorem c5j:∀(c:Nat) (l dr:List Nat) (o:Nat),l.length=c->(b2h c l dr o).Perm (dr++l):=by
 intro c;induction c with
 | zero=>intro l dr o h;rw [List.length_eq_zero_iff.mp h,List.append_nil];exact .refl _
 | succ c ih=>
  intro l dr o h;have hlt:o%(c+1)<l.length:=by rw [h];exact Nat.mod_lt _ (Nat.succ_pos c)
  have hm:l.getD (o%(c+1)) 0∈l:=List.mem_of_getElem? (getD_some hlt);refine(ih _ _ _ (by rw [List.length_erase_of_mem hm,h];rfl)).trans ?_;rw [List.append_assoc];exact(List.perm_cons_erase hm).symm.append_left dr
theorem d0i{α:Type}:∀(c:Nat) (A B:List α) (b:Nat),A.length+B.length=c->(a5m c A B b).Perm (A++B):=by
 intro c;induction c with
 | zero=>
  intro A B b h;rw [List.length_eq_zero_iff.mp (Nat.eq_zero_of_add_eq_zero_right h),List.length_eq_zero_iff.mp (Nat.eq_zero_of_add_eq_zero_left h)];exact .refl _
 | succ c ih=>
  intro A B b h;rcases a9v (b:=b) h with⟨x,r,rfl,_,e⟩ | ⟨y,s,rfl,_,e⟩
  ·rw [e];exact(ih r B _ (Nat.succ.inj ((Nat.succ_add _ _).symm.trans h))).cons x
  ·rw [e];exact((ih A s _ (Nat.succ.inj h)).cons y).trans List.perm_middle.symm
section
variable{n s d:Nat}
noncomputable def a0f(n o:Nat):List Nat:=b2h n (List.range n) [] o
noncomputable def d0a(n d o:Nat):List Nat:=a5m n ((List.range n).take d).reverse ((List.range n).drop d) o
theorem b8z(n o:Nat):(a0f n o).Perm (List.range n):=c5j n _ [] o List.length_range
theorem c7k(hd:d<=n)(o:Nat):(d0a n d o).Perm (List.range n):=
 (d0i n _ _ o (by rw [List.length_reverse,List.length_take,List.length_drop,List.length_range,Nat.min_eq_left hd,Nat.add_sub_cancel' hd])).trans ((List.reverse_perm _).append_right _ |>.trans (by rw [List.take_append_drop]))
theorem a4w{l:List Nat}(h:l.Perm (List.range n)):l.length=n/\∀ x∈l,x<n:=⟨h.length_eq.trans List.length_range,fun x hx=>List.mem_range.mp (h.subset hx)⟩
theorem c7n{l:List Nat}{b:Bool}(h:l.Perm (List.range n))(h5:5<=n)(h8:n<8)(hs:s+n<=48)(e:c9n n l b=true):d6n (l.map (s+·))=b/\d8j (l.map (s+·))=b/\d4h (l.map (s+·))=b:=by
 obtain⟨h1,h2⟩:=a4w h;obtain⟨e1,e⟩:=a5l e;obtain⟨e2,e3⟩:=a5l e;exact⟨(d9u h1).trans (c9b e1),(d9g h1 (Nat.lt_of_lt_of_le (by decide) h5)).trans (c9b e2),(d8l h1 h8 hs h2).trans (c9b e3)⟩
theorem d3y(h5:5<=n)(h8:n<8)(hs:s+n<=48)(o:Nat):d6n ((a0f n o).map (s+·))=d2b n (a0f n o)/\d8j ((a0f n o).map (s+·))=d2b n (a0f n o)/\d4h ((a0f n o).map (s+·))=d2b n (a0f n o):=
 c7n (b8z n o) h5 h8 hs (e3u h5 h8 o)
theorem d0n(h5:5<=n)(h8:n<8)(hs:s+n<=48)(hd:d<=n)(o:Nat):d6n ((d0a n d o).map (s+·))=true/\d8j ((d0a n d o).map (s+·))=true/\d4h ((d0a n d o).map (s+·))=true:=
 c7n (c7k hd o) h5 h8 hs (e3a h5 h8 hd o)
noncomputable def e4k(n:Nat)(l:List Nat)(cut:Nat):Bool:=decide (l.filter (fun x=>decide (x<cut))=(List.range cut).reverse)&&decide (l.filter (fun x=>decide (cut<=x))=List.range' cut (n-cut))
theorem e2s(l:List Nat):decide (true∈(List.range (n+1)).map (e4k n l))=d2b n l:=by
 rw [Bool.eq_iff_iff,decide_eq_true_iff];refine Iff.trans ?_ anyB_iff.symm;have e:∀ cut,e4k n l cut=bB (eqL (d7j (fun x=>Nat.ble (Nat.succ x) cut) l) (List.range cut).reverse) (eqL (d7j (fun x=>Nat.ble cut x) l) (List.range' cut (Nat.sub n cut))) false:=fun cut=>by
  have f1:(fun x=>Nat.ble (Nat.succ x) cut)=fun x=>decide (x<cut):=funext fun x=>Bool.eq_iff_iff.mpr ⟨fun h=>decide_eq_true (Nat.ble_eq.mp h),fun h=>Nat.ble_eq.mpr (of_decide_eq_true h)⟩;have f2:(fun x=>Nat.ble cut x)=fun x=>decide (cut<=x):=funext fun x=>Bool.eq_iff_iff.mpr ⟨fun h=>decide_eq_true (Nat.ble_eq.mp h),fun h=>Nat.ble_eq.mpr (of_decide_eq_true h)⟩;rw [c9d,c9d,f1,f2,d4e,d4e];show(_&&_)=_;cases decide (l.filter (fun x=>decide (x<cut))=(List.range cut).reverse)<;>rfl
 constructor
 ·intro h
  obtain⟨k,hk,q⟩:=List.mem_map.mp h;exact⟨k,List.mem_range.mp hk,(e k).symm.trans q⟩
 ·intro⟨k,hk,q⟩
  exact List.mem_map.mpr ⟨k,List.mem_range.mpr hk,(e k).trans q⟩
end
end
end Mine
end
section
open PySem PySem.W PySem.Calls PyProof.Rows
set_option maxRecDepth 100000
namespace Mine
section
noncomputable def a7e(zs:List Int):List Nat:=(zs.take 60).map fun z=>(z.fmod 1000000).toNat
noncomputable def d7v(k n:Nat):List Nat:=sliceRange (sliceBounds (some (k:Int)) .none (some 4) n).1 (sliceBounds (some (k:Int)) .none (some 4) n).2.1 (sliceBounds (some (k:Int)) .none (some 4) n).2.2
noncomputable def c2a(ns:List Nat)(k:Nat):List Nat:=(d7v k ns.length).filterMap (ns[·]?)
noncomputable def a3x(ns:List Nat)(k b:Nat):Nat:=b+(c2a ns k).sum
section
variable{Γ:G}{zs:List Int}{ns:List Nat}{N M n:Nat}{ρ:Rho}{μ:Mu}
theorem c4e(h:zs.length<=63):(a7e zs).length<=60:=by
 unfold a7e;rw [List.length_map];exact List.length_take_le _ _
theorem d8q(hz:zs.length<=63)(h:ρ.lookup 119=some (.lst (zs.map .int))):ev Γ (N+20) d7o ρ μ=some (vI (a7e zs),μ):=by
 have h1:ev Γ (N+19) (.slc (.loc 119) .none (some (.cst (.int 60))) .none) ρ μ=some (.lst ((zs.map .int).take 60),μ):=a7u (evl h) evc (a6w (l:=zs.map .int) 60 (by rw [List.length_map];exact Nat.le_trans hz (by decide)));rw [← List.map_take]at h1;have e:(a7e zs).map (fun c=>V.int (c:Nat))=(zs.take 60).map fun z=>V.int (z.fmod 1000000):=by
  unfold a7e;rw [List.map_map];refine List.map_congr_left fun z zz=>?_;show V.int ((z.fmod 1000000).toNat:Int)=_;rw [Int.toNat_of_nonneg (Int.fmod_nonneg_of_pos z (by decide))]
 unfold vI;rw [e];refine a2r (vs:=(zs.take 60).map .int) ?_ (by rw [List.length_map];exact Nat.le_trans (List.length_take_le _ _) (by decide)) ?_
 ·rw [e6b,h1];rfl
 ·exact a4r (h:=V.int) (g:=fun z=>V.int (z.fmod 1000000)) (zs.take 60) _ fun z zz=>evb (evl a1c) (evb evc evc rfl) rfl
theorem c3s(ns:List Nat)(idx:List Nat):idx.filterMap ((inV ns)[·]?)=inV (idx.filterMap (ns[·]?)):=by
 unfold inV;rw [List.map_filterMap];congr 1;funext i;rw [List.getElem?_map]
theorem d9a(l:List Nat):(cst l).sum=((l.sum:Nat):Int):=by
 induction l with
 | nil=>rfl
 | cons a l ih=>
  show(a:Int)+(cst l).sum=_;rw [ih];rfl
theorem d4b{l:List V}{k:Int}(hz:l.length<=big):a1y (.lst l) (some k) .none (some 4)=some (.lst ((sliceRange (sliceBounds (some k) .none (some 4) l.length).1 (sliceBounds (some k) .none (some 4) l.length).2.1 (sliceBounds (some k) .none (some 4) l.length).2.2).filterMap (l[·]?))):=by
 unfold a1y;exact(if_neg (by decide)).trans (if_pos hz)
theorem c6s{a x y:X}{l:List V}{k s:Int}{v:V}(h:ev Γ n a ρ μ=some (.lst l,μ))(hc:ev Γ n x ρ μ=some (.int k,μ))(hy:ev Γ n y ρ μ=some (.int s,μ))(hs:a1y (.lst l) (some k) .none (some s)=some v):ev Γ (n+1) (.slc a (some x) .none (some y)) ρ μ=some (v,μ):=by
 simp only [b1g,h,evo,hc,hy,b5k,d9x,hs,Option.map_some]
theorem d5w(hz:ns.length<=60)(hc:∀(n:Nat) (args:List V) (μ:Mu),Γ.call n 1 args μ=e2c args μ)(h:ρ.lookup 120=some (vI ns)):ev Γ (N+20) d3z ρ μ=some (vI [a3x ns 0 303,a3x ns 1 1174,a3x ns 2 1234,a3x ns 3 6],μ):=by
 have one:∀(k b:Nat) (ρ:Rho),ρ.lookup 120=some (vI ns)->ev Γ (N+19) (.bin .Add (.loc 123) (.call 1 [(.slc (.loc 120) (some (.loc 111)) .none (some (.cst (.int 4))))])) (put 123 (.int b) (put 111 (.int k) ρ)) μ=some (.int (a3x ns k b:Nat),μ):=fun k b ρ h=>by
  have e1:ev Γ (N+17) (.slc (.loc 120) (some (.loc 111)) .none (some (.cst (.int 4)))) (put 123 (.int b) (put 111 (.int k) ρ)) μ=some (vI (c2a ns k),μ):=by
   refine c6s (l:=inV ns) (evl (a1z (a1z h (by decide)) (by decide))) (evl (a1z a1c (by decide))) evc ((d4b (by unfold inV;rw [List.length_map];exact Nat.le_trans hz (by decide))).trans ?_);rw [c3s,show(inV ns).length=ns.length from List.length_map ..];rfl
  refine evb (evl a1c) (v:=.int ((c2a ns k).sum:Nat)) ((a0k (a1q e1)).trans ((hc _ _ _).trans ?_)) rfl;show(a3m (inV (c2a ns k))).map _=_;rw [b0g,← d9a];rfl
 refine a2r (vs:=[.tup [.int 0,.int 303],.tup [.int 1,.int 1174],.tup [.int 2,.int 1234],.tup [.int 3,.int 6]]) ?_ (show 4<=big by decide) ?_
 ·have e1:ev Γ (N+19) (.lst [(.cst (.int 303)),(.cst (.int 1174)),(.cst (.int 1234)),(.cst (.int 6))]) ρ μ=some (.lst [.int 303,.int 1174,.int 1234,.int 6],μ):=a7b (evn evc (evn evc (evn evc (a1q evc)))) (show 4<=big by decide)
  rw [e6d,e1];rfl
 ·exact b1j (i:=111) (j:=123) (h1:=fun p:Nat×Nat=>V.int p.1) (h2:=fun p:Nat×Nat=>V.int p.2) (g:=fun p=>V.int (a3x ns p.1 p.2:Nat)) (by decide) [(0,303),(1,1174),(2,1234),(3,6)] _ fun p zz=>one p.1 p.2 _ ((a2q (own:=[42,111,123]) (i:=120) rfl ρ).trans h)
end
noncomputable def drs(ws:List (List Nat))(dr:Nat):List (List Nat×Nat):=ws.zipIdx.map fun p=>(p.1,dr / (p.2+1))
theorem c8m(ws:List (List Nat))(dr:Nat):(drs ws dr).map (·.1)=ws:=by
 unfold drs;rw [List.map_map];exact List.zipIdx_map_fst 0 ws
theorem b9n{w:List Nat}(d:Nat)(h:w.length<=3):(a0t w d).length<=20:=by
 have hw:=Nat.le_trans (b5y w d) (Nat.mul_le_mul_left 2 h);have hg:=b5a d;have hr:=b5c (x:=a3v d) (lt2 (d / 16));unfold a0t;by_cases h0:d%2=0
 ·rw [if_pos h0]
  simp only [List.length_append,List.length_cons,List.length_nil];exact Nat.le_trans (Nat.add_le_add (Nat.add_le_add_right (Nat.add_le_add_left hw 1) 1) (Nat.le_trans hr hg)) (by decide)
 ·rw [if_neg h0,List.length_append]
  exact Nat.le_trans (Nat.add_le_add hw hg) (by decide)
section
variable{N M n dr:Nat}{ρ:Rho}{μ:Mu}
theorem c5k{ws:List (List Nat)}(h:∀ w∈ws,w.length<=3)(h5:ws.length<20)(h1:ρ.lookup 122=some (.int (dr:Int)))(h2:ρ.lookup 125=some (vS ws))(ok:a2m μ=true) :
  ev gF (N+40) e3f ρ μ=some (vS ((drs ws dr).map fun x=>a0t x.1 x.2),μ):=by
 have e:vS ((drs ws dr).map fun x=>a0t x.1 x.2)=.lst (ws.zipIdx.map fun p=>V.str (a0t p.1 (dr / (p.2+1)))):=by
  unfold drs vS;rw [List.map_map,List.map_map];rfl
 rw [e];have e2:((ws.map V.str).zipIdx.map fun p=>V.tup [.int (p.2:Nat),p.1])=ws.zipIdx.map fun p=>V.tup [.int (p.2:Nat),.str p.1]:=by
  rw [List.zipIdx_map,List.map_map];rfl
 refine a2r (vs:=ws.zipIdx.map fun p=>V.tup [.int (p.2:Nat),.str p.1]) ?_ (by rw [List.length_map,List.length_zipIdx];exact Nat.le_trans (Nat.le_of_lt h5) (by decide)) ?_
 ·rw [e6d,evl h2]
  exact congrArg (fun l=>some (l,μ)) e2
 ·refine b1j (i:=111) (j:=82) (h1:=fun p:List Nat×Nat=>V.int (p.2:Nat)) (h2:=fun p:List Nat×Nat=>V.str p.1) (by decide) ws.zipIdx _ fun p hp=>?_
  have hw:p.1∈ws:=List.fst_mem_of_mem_zipIdx hp;have hlt:p.2<ws.length:=Nat.lt_of_lt_of_le (List.snd_lt_of_mem_zipIdx hp) (Nat.le_of_eq (Nat.add_zero _));refine(a0k (vs:=[.str p.1,.int ((dr / (p.2+1):Nat):Int)]) (μ₁:=μ) (evn (evl a1c) (a1q (evb (u:=.int (dr:Int)) (v:=.int ((p.2+1:Nat):Int)) (evl (a1z (a1z ((a2q (own:=[42,111,82]) rfl ρ).trans h1) (by decide)) (by decide))) (evb (evl (a1z a1c (by decide))) evc rfl) (b3h dr (b:=p.2+1) (Nat.succ_ne_zero _) (Nat.lt_trans (Nat.succ_lt_succ (Nat.lt_trans hlt h5)) (by decide))))))).trans ?_;exact b6g (N:=N+18) (Nat.le_trans (h p.1 hw) (by decide)) ok
end
end
section
theorem c6q{s:List Nat}(hz:s.length<=big):a1y (.str s) .none (some (-1)) .none=some (.str s.dropLast):=by
 unfold a1y;refine(if_neg (by decide)).trans ?_;dsimp only;by_cases h0:s=[]
 ·subst h0;rfl
 ·have hl:1<=s.length:=List.length_pos_iff.mpr h0
  have e:Builtin.Str.strSliceIndices .none (some (-1)) 1 s.length=(List.range (s.length-1)).map (0+·):=by
   rw [StrLaws.sliceIdx_none_lo,StrLaws.sliceIdx_neg_hi _ _ (by decide) (by omega),show(-1:Int)+(s.length:Int)=((s.length-1:Nat):Int) by omega];exact StrLaws.strSliceIndices_plain (a:=0) (b:=s.length-1) (len:=s.length) (Nat.zero_le _) (Nat.sub_le _ _)
  have p:((List.range (s.length-1)).map (0+·)).filterMap (s[·]?)=s.dropLast:=by
   have:=pick_run s.toArray 0 (s.length-1);rw [List.dropLast_eq_take];simpa using this
  have l1:((List.range (s.length-1)).map (0+·)).length=s.length-1:=by rw [List.length_map,List.length_range]
  have l2:(s.length-1==s.length)=false:=beq_false_of_ne (Nat.ne_of_lt (Nat.sub_lt hl (by decide)));rw [show(Option.none:Option Int).getD 1=1 from rfl,e,p,l1,l2];rw [if_pos ⟨hz,by rw [List.length_dropLast];exact Nat.le_trans (Nat.sub_le _ _) hz⟩];rfl
section
variable{N M n dr:Nat}{ρ:Rho}{μ:Mu}
theorem c3u{Γ:G}{a x:X}{s:List Nat}{k:Int}{v:V}(h:ev Γ n a ρ μ=some (.str s,μ))(hc:ev Γ n x ρ μ=some (.int k,μ))(hs:a1y (.str s) .none (some k) .none=some v):ev Γ (n+1) (.slc a .none (some x) .none) ρ μ=some (v,μ):=by
 simp only [b1g,h,evo,hc,b5k,e4b,hs,Option.map_some]
theorem e0j{k:Nat}(l:List (List Nat))(hl:∀ w∈l,w.length<=k):(l.map (·.length)).sum<=k * l.length:=by
 induction l with
 | nil=>exact Nat.le_refl _
 | cons a l ih=>
  rw [List.map_cons,List.sum_cons,List.length_cons,Nat.mul_succ,Nat.add_comm];exact Nat.add_le_add (ih fun w hw=>hl w (List.mem_cons_of_mem _ hw)) (hl a List.mem_cons_self)
theorem d9s{ws:List (List Nat)}(h:∀ w∈ws,w.length<=3)(h5:ws.length<20)(h1:ρ.lookup 122=some (.int (dr:Int)))(h2:ρ.lookup 125=some (vS ws))(ok:a2m μ=true) :
  ev gF (N+42) d1s ρ μ=some (.str (a1h (drs ws dr)),μ)/\(a1h (drs ws dr)).length<=400:=by
 have hlen:(((drs ws dr).map fun x=>a0t x.1 x.2).map (·.length)).sum<=400:=by
  refine Nat.le_trans (e0j (k:=20) _ fun w hw=>?_) ?_
  ·obtain⟨p,hp,rfl⟩:=List.mem_map.mp hw
   refine b9n p.2 (h p.1 ?_);rw [← c8m ws dr];exact List.mem_map_of_mem hp
  ·have:(drs ws dr).length=ws.length:=by unfold drs;rw [List.length_map,List.length_zipIdx]
   rw [List.length_map,this];exact Nat.mul_le_mul_left 20 (Nat.le_of_lt h5)
 have e1:=c5k (N:=N) h h5 h1 h2 ok;rw [b5n];generalize ((drs ws dr).map fun x=>a0t x.1 x.2)=l at hlen e1 ⊢;have hfl:l.flatten.length<=400:=by rw [List.length_flatten];exact hlen
 refine⟨c3u (s:=l.flatten) ((a4p evc rfl (a1q e1)).trans ?_) (b6x evc) (c6q (Nat.le_trans hfl (by decide))),?_⟩
 ·show(match (generalizing:=false) a9m (l.map .str)with | some ts=>if(ts.map List.length).sum+ts.length * 0<=big then some (V.str (b5g [] ts),μ)else .none | .none=>.none)=_
  rw [b3c];refine(if_pos (Nat.le_trans hlen (by decide))).trans ?_;rw [b7c]
 ·rw [List.length_dropLast];exact Nat.le_trans (Nat.sub_le _ _) hfl
end
theorem d9b:((List.range 48).all fun c=>(sW c).all (fun x=>a9x x==false&&x != 34&&x != 92&&decide (x<1114112))&&!(sW c).isEmpty)=true:=by decide +kernel
theorem b4t{w:List Nat}(h:w.all (fun x=>a9x x==false&&x != 34&&x != 92&&decide (x<1114112))=true)(h0:w≠[]):b0s w:=
 ⟨h0,fun x hx=>have q:=List.all_eq_true.mp h x hx;⟨eq_of_beq (a0e (a0e (a0e q))),bne_iff_ne.mp (a0n (a0e (a0e q))),bne_iff_ne.mp (a0n (a0e q)),of_decide_eq_true (a0n q)⟩⟩
theorem b8j{c:Nat}(h:c<48):b0s (sW c):=by
 have:=List.all_eq_true.mp d9b c (List.mem_range.mpr h);exact b4t (a0e this) fun e=>by rw [e]at this;exact nt (a0n this)
noncomputable def a3j(p:Nat):List Nat:=(List.replicate (1+p%3) [63]).flatten
theorem c1v(p:Nat):b0s (a3j p)/\(a3j p).length<=3/\kK (a3j p)=k3 false false true:=by
 have h:p%3<3:=Nat.mod_lt _ (by decide);unfold a3j;generalize p%3=k at h;rcases(by decide:∀ k<3,k=0∨k=1∨k=2) k h with rfl | rfl | rfl
 ·exact⟨b4t (by decide +kernel) (by decide),by decide,by rfl⟩
 ·exact⟨b4t (by decide +kernel) (by decide),by decide,by rfl⟩
 ·exact⟨b4t (by decide +kernel) (by decide),by decide,by rfl⟩
theorem c3f{w:List Nat}(h:∀ c∈w,c<1114112)(d:Nat):∀ c∈a0t w d,c<1114112:=by
 have rp:∀(k:Nat) (l:List Nat),(∀ c∈l,c<1114112)->∀ c∈(List.replicate k l).flatten,c<1114112:=fun k l hl c hc=>by
  obtain⟨m,hm,hc⟩:=List.mem_flatten.mp hc;rw [(List.mem_replicate.mp hm).2]at hc;exact hl c hc
 have hd:∀ c∈a3g w d,c<1114112:=fun c hc=>by
  obtain⟨m,hm,hc⟩:=List.mem_flatten.mp hc;obtain⟨x,hx,rfl⟩:=List.mem_map.mp hm;rcases List.mem_append.mp hc with q | q
  ·exact rp _ [92] (fun c hc=>by rw [List.mem_singleton.mp hc];decide) c q
  ·rw [List.mem_singleton.mp q];exact h x hx
 have hg:∀ c∈a3v d,c<1114112:=(by decide:∀ i<4,∀ c∈gaps.getD i [],c<1114112) _ (Nat.mod_lt _ (by decide));have app:∀ {a b:List Nat},(∀ c∈a,c<1114112)->(∀ c∈b,c<1114112)->∀ c∈a++b,c<1114112:=fun ha hb c hc=>(List.mem_append.mp hc).elim (ha c) (hb c);have h34:∀ c∈[34],c<1114112:=fun c hc=>by rw [List.mem_singleton.mp hc];decide
 unfold a0t;by_cases h0:d%2=0
 ·rw [if_pos h0];exact app (app (app h34 hd) h34) (rp _ _ hg)
 ·rw [if_neg h0];exact app hd hg
theorem d7m{l:List (List Nat×Nat)}(h:∀ p∈l,b0s p.1):∀ c∈a1h l,c<1114112:=by
 intro c hc;rw [b5n]at hc;obtain⟨w,hw,hcw⟩:=List.mem_flatten.mp (List.dropLast_subset _ hc);obtain⟨p,hp,rfl⟩:=List.mem_map.mp hw;exact c3f (fun c hc=>((h p hp).2 c hc).2.2.2) p.2 c hcw
end
section
structure TextOk(t:List Nat)(n:Int):Prop where
 len:t.length<big
 line:1<=n
 low:∀ c∈t,c<1114112
section
variable{t:List Nat}{n:Int}
theorem TextOk.next(h:TextOk t n):TextOk (a0j t n).2.1 (a0j t n).2.2:=by
 have hs:=a8a t n;have hl:=a4a t n;refine⟨Nat.lt_of_le_of_lt hs.length_le h.len,?_,fun c hc=>h.low c (hs.subset hc)⟩;have h1:lns (a0j t n).2.1<=lns t:=Int.ofNat_le.mpr (hs.sublist.count_le 10);have:=h.line;omega
theorem TextOk.step(h:TextOk t n):d9y 5 (stQ t n [] []) (a0j t n).1 (stQ (a0j t n).2.1 (a0j t n).2.2 [] []):=b7d (fun zz h=>nomatch h) h.len h.line h.low
theorem c6e{c1 c2:List Nat}{p dr:Nat}(h1:∀ c∈c1,c<48)(h2:∀ c∈c2,c<48)(l1:c1.length<=7)(l2:c2.length<=7)(hz:(a1h (drs (wS c1++a3j p::wS c2) dr)).length<=400) :
  ∃ t2 n2,(∀ N,cF gP P4__law_pack a2d (N+50) [.mut 5,k3 false false true] (stQ (a1h (drs (wS c1++a3j p::wS c2) dr)) 1 [] [])=some (vS (wS c1),stQ t2 n2 [] [])) ∧
   ∀ N,cF gP P4__law_pack a2d (N+50) [.mut 5,k3 true true false] (stQ t2 n2 [] [])=some (vS (wS c2),stQ [] (1+lns (a1h (drs (wS c1++a3j p::wS c2) dr))) [] []):=by
 obtain⟨gm,lm,km⟩:=c1v p;have hgood:∀ w∈wS c1++a3j p::wS c2,b0s w:=fun w hw=>by
  rcases List.mem_append.mp hw with q | q
  ·obtain⟨c,hc,rfl⟩:=List.mem_map.mp q;exact b8j (h1 c hc)
  ·rcases List.mem_cons.mp q with rfl | q
   ·exact gm
   ·obtain⟨c,hc,rfl⟩:=List.mem_map.mp q;exact b8j (h2 c hc)
 have hf:=c8m (wS c1++a3j p::wS c2) dr;generalize drs (wS c1++a3j p::wS c2) dr=l at hf hz ⊢;have hg:∀ q∈l,b0s q.1:=fun q hq=>hgood q.1 (hf▸List.mem_map_of_mem hq);have t0:TextOk (a1h l) 1:=⟨Nat.lt_of_le_of_lt hz (by decide),by decide,d7m hg⟩;obtain⟨r1,r2,rfl,f1,f2⟩:=List.map_eq_append_iff.mp hf;obtain⟨⟨m,d⟩,r3,rfl,rfl,f3⟩:=List.map_eq_cons_iff.mp f2;obtain⟨t1,n1,a1,a2,a3,a4,a5,a6⟩:=b2s r1 ((a3j p,d)::r3) (a1h (r1++(a3j p,d)::r3)) 1 (fun q hq=>hg q (List.mem_append_left _ hq)) ⟨[],a8f,rfl⟩ t0.len t0.line t0.low;have t1k:TextOk t1 n1:=⟨a2,a3,a4⟩;obtain⟨b1,b2⟩:=b5x gm a1 n1;have s1:=t1k.step;have t2k:=t1k.next;have ln1:=a4a t1 n1;rw [b1]at s1;generalize (a0j t1 n1).2.1=t2 at *;generalize (a0j t1 n1).2.2=n2 at *;obtain⟨t3,n3,d1,d2,d3,d4,d5,d6⟩:=b2s r3 [] t2 n2 (fun q hq=>hg q (List.mem_append_right _ (List.mem_cons_of_mem _ hq))) (by rw [List.append_nil];exact b2) t2k.len t2k.line t2k.low;have t3k:TextOk t3 n3:=⟨d2,d3,d4⟩;obtain⟨e1,e2⟩:=d1f d1 n3;have s2:=t3k.step;have ln2:=a4a t3 n3;rw [e2]at ln2;rw [e1,e2,show(a0j t3 n3).2.2=1+lns (a1h (r1++(a3j p,d)::r3)) by
  have:lns []=0:=rfl;omega]at s2
 have c1':=a6 [] (fun zz h=>nomatch h);have c2':=d6 [] (fun zz h=>nomatch h);rw [f1]at c1';rw [f3]at c2';exact⟨t2,n2,fun N=>b7k c1' s1 (Nat.le_trans lm (by decide)) km rfl (c7i h1) (by rw [a4s];exact l1),
  fun N=>b7k c2' s2 (Nat.zero_le _) d4q rfl (c7i h2) (by rw [a4s];exact l2)⟩
end
end
section
theorem b8i:(Txt.split (txt sgT) (txt [32])).map c6k=sg:=by kernel_rfl
theorem b7e:sg.length=48:=by decide +kernel
section
variable{Γ:G}{N M n:Nat}{ρ:Rho}{μ:Mu}
theorem d3h:ev gF (N+2) c0w ρ μ=some (vS sg,μ):=by
 refine(a4p evc rfl (a1q evc)).trans ?_;show(if([32]:List Nat)≠[]/\sgT.length<=big then some (V.lst ((Txt.split (txt sgT) (txt [32])).map fun p=>.str (c6k p)),μ)else .none)=_;rw [if_pos ⟨by decide,by decide +kernel⟩,← b8i];unfold vS;rw [List.map_map];rfl
theorem d6z{st:Nat}(h:ρ.lookup 129=some (.int (st:Int))):ev Γ (N+3) d2k ρ μ=some (.int (5+st%3:Nat),μ):=
 evb evc (evb (evl h) evc (a7d st (b:=3) (by decide))) rfl
theorem d0p{st n:Nat}(hn:n<8)(h:ρ.lookup 129=some (.int (st:Int)))(h2:ρ.lookup 124=some (.int (n:Int))):ev Γ (N+5) d3l ρ μ=some (.tup [.int (st / 3%(49-n):Nat),.int (st / 3 / (49-n)%(n+1):Nat)],μ):=by
 have h0:49-n≠0:=Nat.sub_ne_zero_of_lt (Nat.lt_trans hn (by decide));have hs:49-n<2^60:=Nat.lt_of_le_of_lt (Nat.sub_le _ _) (by decide);have e1:∀ k,ev Γ (k+2) (.bin .Sub (.cst (.int 49)) (.loc 124)) ρ μ=some (.int ((49-n:Nat):Int),μ):=fun k=>evb evc (evl h2) (congrArg (fun z=>some (V.int z)) (Int.ofNat_sub (Nat.le_trans (Nat.le_of_lt hn) (by decide))).symm);have e2:∀ k,ev Γ (k+2) (.bin .FloorDiv (.loc 129) (.cst (.int 3))) ρ μ=some (.int ((st / 3:Nat):Int),μ):=fun k=>evb (evl h) evc (b3h st (b:=3) (by decide) (by decide));exact a7r (evn (evb (e2 _) (e1 _) (a7d _ h0)) (a1q (evb (evb (e2 _) (e1 _) (b3h _ h0 hs)) (v:=.int ((n+1:Nat):Int)) (evb (evl h2) evc rfl) (a7d _ (Nat.succ_ne_zero n))))) (show 2<=big by decide)
theorem d6x{k:Nat}(hk:k<48):item (vS sg) (.int (k:Int))=some (.str (sW k)):=by
 have hl:k<sg.length:=by rw [b7e];exact hk
 refine b0b ?_ (by rw [List.length_map,b7e];decide);unfold sW;rw [List.getElem?_map,List.getD_eq_getElem?_getD,List.getElem?_eq_getElem hl];rfl
theorem b3k{s:Nat}{cs:List Nat}{it:X}(hi:a1w (fun x μ=>ev Γ (N+18) x ρ μ) it μ=some (inV cs,μ))(h:∀ c∈cs,s+c<48)(h8:cs.length<8)(k:Knows ρ [(107,vS sg),(151,.int (s:Int))]):ev Γ (N+19) (.comp d9l (.one 150) it [] [42,150]) ρ μ=some (vS (wS (cs.map (s+·))),μ):=by
 have e:vS (wS (cs.map (s+·)))=.lst (cs.map fun c=>V.str (sW (s+c))):=by unfold vS wS;rw [List.map_map,List.map_map];rfl
 rw [e];have k1:=k.own (own:=[42,150]) rfl;refine a2r hi (by unfold inV;rw [List.length_map];exact Nat.le_trans (Nat.le_of_lt h8) (by decide)) (a4r (h:=fun(i:Nat)=>V.int i) cs _ fun c hc=>?_);have k2:=k1.put 150 (.int (c:Nat));exact a4o (evl (k2 107 _ rfl)) (v:=.int ((s+c:Nat):Int)) (evb (evl (k2 151 _ rfl)) (evl a1c) rfl) (d6x (h c hc))
theorem d8n{s n:Nat}(h:s+n<=48):(sg.drop s).take n=wS ((List.range n).map (s+·)):=by
 unfold wS;rw [List.map_map];refine List.ext_getElem? fun i=>?_;rw [List.getElem?_take,List.getElem?_map];by_cases hi:i<n
 ·rw [if_pos hi,List.getElem?_drop,List.getElem?_range hi]
  have hl:s+i<sg.length:=by rw [b7e];exact Nat.lt_of_lt_of_le (Nat.add_lt_add_left hi s) h
  show _=some (sg.getD (s+i) []);rw [List.getD_eq_getElem?_getD,List.getElem?_eq_getElem hl];rfl
 ·rw [if_neg hi,List.getElem?_eq_none (by rw [List.length_range];exact Nat.not_lt.mp hi)];rfl
theorem d2u{s n p:Nat}{cs:List Nat}(hs:s+n<=48)(hn:n<8)(h:∀ c∈cs,c<n)(h8:cs.length<8)(k:Knows ρ [(107,vS sg),(151,.int (s:Int)),(124,.int (n:Int)),(96,.int (p:Int)),(149,vI cs)]):ev Γ (N+20) c0m ρ μ=some (vS (wS ((List.range n).map (s+·))++a3j p::wS (cs.map (s+·))),μ):=by
 have e1:ev Γ (N+18) (.slc (.loc 107) (some (.loc 151)) (some (.bin .Add (.loc 151) (.loc 124))) .none) ρ μ=some (vS (wS ((List.range n).map (s+·))),μ):=by
  refine b2y (j:=((s+n:Nat):Int)) (evl (k 107 _ rfl)) (evl (k 151 _ rfl)) (evb (evl (k 151 _ rfl)) (evl (k 124 _ rfl)) rfl) ((b6i s n (by rw [List.length_map,b7e];exact hs) (by rw [List.length_map,b7e];decide)).trans ?_);rw [← List.map_drop,← List.map_take,d8n hs];rfl
 have e2:ev Γ (N+18) (.lst [(.bin .Mult (.cst (.str [63])) (.bin .Add (.cst (.int 1)) (.bin .Mod (.loc 96) (.cst (.int 3)))))]) ρ μ=some (vS [a3j p],μ):=by
  refine a7b (a1q (evb evc (v:=.int ((1+p%3:Nat):Int)) (evb evc (evb (evl (k 96 _ rfl)) evc (a7d p (b:=3) (by decide))) rfl) ?_)) (show 1<=big by decide);have hp:1+p%3<4:=Nat.add_lt_add_left (Nat.mod_lt p (by decide)) 1;show a0x .Mult (.str [63]) (.int ((1+p%3:Nat):Int))=_;rw [a9h,a6d (Nat.lt_trans hp (by decide)),Int.toNat_natCast,Bool.and_true];exact if_pos (decide_eq_true (Nat.le_trans (Nat.mul_le_mul_left 1 (Nat.le_of_lt hp)) (by decide)))
 have e3:=b3k (Γ:=Γ) (N:=N) (ρ:=ρ) (μ:=μ) (s:=s) (cs:=cs) (it:=.loc 149) (by rw [e4d,evl (k 149 _ rfl)];rfl) (fun c hc=>Nat.lt_of_lt_of_le (Nat.add_lt_add_left (h c hc) s) hs) h8 (Knows.cons (k 107 _ rfl) (Knows.cons (k 151 _ rfl) Knows.nil));have l1:(wS ((List.range n).map (s+·))).length=n:=by rw [a4s,List.length_map,List.length_range]
 have l3:(wS (cs.map (s+·))).length=cs.length:=by rw [a4s,List.length_map]
 have hb:=d8f;refine evb (evb e1 e2 (e1v (by rw [List.length_map,l1];show n+1<=big;omega))) e3 ((e1v (by rw [List.length_append,List.length_map,List.length_map,List.length_map,l1,l3];show n+1+cs.length<=big;omega)).trans ?_);unfold vS;rw [List.map_append,List.append_assoc];rfl
theorem d5a{x y:X}{a b:Bool}(hx:ev Γ n x ρ μ=some (.bool a,μ))(hy:ev Γ n y ρ μ=some (.bool b,μ)):ev Γ (n+1) (.and [x,y]) ρ μ=some (.bool (a&&b),μ):=by
 show(match (generalizing:=false) ev Γ n x ρ μ with
  | some (v,μ)=>(match a3a (a1n μ v)with | some true=>ev Γ n y ρ μ | some false=>some (v,μ) | .none=>.none)
  | .none=>Option.none)=_
 rw [hx];cases a
 ·rfl
 ·exact hy
theorem c8t{op:CmpOp}{cs:List Nat}{cut:Nat}{q:Nat->Bool}(hop:∀ x:Nat,a0z op (.int (x:Int)) (.int (cut:Int))=some (q x))(h8:cs.length<8)(k:Knows ρ [(149,vI cs),(153,.int (cut:Int))]):ev Γ (N+10) (d8i op) ρ μ=some (vI (cs.filter q),μ):=by
 have k1:=k.own (own:=[42,150]) rfl;refine a2r (vs:=inV cs) (by rw [e4d,evl (k 149 _ rfl)];rfl) (by unfold inV;rw [List.length_map];exact Nat.le_trans (Nat.le_of_lt h8) (by decide)) (a6i (h:=fun(i:Nat)=>V.int i) (g:=fun(i:Nat)=>V.int i) (p:=q) cs _ (fun c zz=>?_) fun zz zz zz=>evl a1c);have k2:=k1.put 150 (.int (c:Nat));exact a0i (evl a1c) (evl (k2 153 _ rfl)) (hop c)
theorem e1f{cs:List Nat}{n cut:Nat}(hn:n<8)(hc:cut<=n)(h8:cs.length<8)(hr:Γ.ownR=false)(k:Knows ρ [(149,vI cs),(153,.int (cut:Int)),(124,.int (n:Int))]):ev Γ (N+12) e8q ρ μ=some (.bool (e4k n cs cut),μ):=by
 have k1:Knows ρ [(149,vI cs),(153,.int (cut:Int))]:=Knows.cons (k 149 _ rfl) (Knows.cons (k 153 _ rfl) Knows.nil);have hc8:=Nat.lt_of_le_of_lt hc hn;have r:∀ {m:Nat} {as:List X} {vs ws:List V},evs (fun x μ=>ev Γ m x ρ μ) as μ=some (vs,μ)->a0l vs=some ws->ws.length<=big->ev Γ (m+1) (.lrange as) ρ μ=some (.lst ws,μ):=fun h1 h2 h3=>by
  rw [a6m,h1];dsimp only;rw [h2,hr];exact if_pos h3
 refine d5a (a0i (c8t (q:=fun x=>decide (x<cut)) (N:=N) (fun x=>?_) h8 k1) (v:=vI (List.range cut).reverse) ?_ (d6q _ _)) (a0i (c8t (q:=fun x=>decide (cut<=x)) (N:=N) (fun x=>?_) h8 k1) (v:=vI (List.range' cut (n-cut))) ?_ (d6q _ _))
 ·exact congrArg some (decide_eq_decide.mpr Int.ofNat_lt)
 ·unfold vI
  rw [List.map_reverse];exact b3n (r (a1q (evl (k 153 _ rfl))) (a3b (Nat.lt_succ_of_lt hc8)) (by rw [List.length_map,List.length_range];exact Nat.le_trans (Nat.le_of_lt hc8) (by decide))) (b6x evc) (by rw [List.length_map,List.length_range];exact hc8)
 ·exact congrArg some (decide_eq_decide.mpr Int.ofNat_le)
 ·exact r (evn (evl (k 153 _ rfl)) (a1q (evl (k 124 _ rfl)))) (b6n (Nat.lt_succ_of_lt hc8) (Nat.lt_succ_of_lt hn)) (by rw [List.length_map,List.length_range'];exact Nat.le_trans (Nat.le_trans (Nat.sub_le _ _) (Nat.le_of_lt hn)) (by decide))
theorem e2b{cs:List Nat}{n:Nat}(hn:n<8)(h8:cs.length<8)(hr:Γ.ownR=false)(k:Knows ρ [(149,vI cs),(124,.int (n:Int))]):ev Γ (N+15) e7r ρ μ=some (.bool (d2b n cs),μ):=by
 rw [← e2s];refine a0i (u:=.bool true) (v:=.lst (((List.range (n+1)).map (e4k n cs)).map .bool)) evc ?_ (encBool.cmpIn (by decide) trivial fun zz zz=>trivial);rw [List.map_map];have k1:=k.own (own:=[42,153]) rfl;refine a2r (vs:=(List.range (n+1)).map fun(i:Nat)=>V.int i) ?_ (by rw [List.length_map,List.length_range];exact Nat.le_trans (Nat.succ_le_succ (Nat.le_of_lt hn)) (by decide)) (a4r (h:=fun(i:Nat)=>V.int i) (List.range (n+1)) _ fun c hc=>?_)
 ·rw [d5o,a1q (v:=.int ((n+1:Nat):Int)) (evb (evl (k 124 _ rfl)) evc rfl)]
  show(a0l [.int ((n+1:Nat):Int)]).map _=_;rw [a3b (Nat.succ_lt_succ hn)];rfl
 ·have k2:=k1.put 153 (.int (c:Nat))
  exact e1f (N:=N+1) hn (Nat.le_of_lt_succ (List.mem_range.mp hc)) h8 hr (Knows.cons (k2 149 _ rfl) (Knows.cons (k2 153 _ rfl) (Knows.cons (k2 124 _ rfl) Knows.nil)))
end
end
section
theorem d6j(c:Nat)(l:List Nat):cnt c l=((l.count c:Nat):Int):=by
 induction l with
 | nil=>rfl
 | cons d l ih=>
  rw [cnt_cons,ih,List.count_cons];by_cases h:d=c
  ·subst h
   rw [if_pos rfl,if_pos (beq_self_eq_true d),Int.add_comm];rfl
  ·rw [if_neg h,if_neg (bne_iff_ne.mpr h |> fun q=>by simpa using h)]
   simp
section
variable{N M n s d o p dr:Nat}{ρ:Rho}{μ:Mu}{t:List Nat}{ln:Int}
theorem a9u{cs:List Nat}(h:∀ c∈cs,c<48):∀ a∈wS cs,b8b a:=fun a ha=>let⟨c,hc,e⟩:=List.mem_map.mp ha;e▸fun x hx=>((b8j (h c hc)).2 x hx).2.2.2
theorem e7q(a b:List Bool):a0z .Eq (vB a) (vB b)=some (decide (a=b)):=encBool.list.cmpEq (by decide) (fun zz zz=>trivial) fun zz zz=>trivial
theorem d4v{a b:X}{cs:List Nat}{v:Bool}(ha:ev gF (N+85) a ρ μ=some (vS (wS cs),μ))(hb:ev gF (N+84) b ρ μ=some (.bool v,μ))(h96:ρ.lookup 96=some (.int (p:Int)))(hc:∀ c∈cs,c<48)(h8:cs.length<8)(hv:d6n cs=v/\d8j cs=v/\d4h cs=v)(ok:a2m μ=true):ev gF (N+87) (e6e a b) ρ μ=some (.bool true,μ):=by
 have e1:ev gF (N+86) (.call 142 [a,.loc 96]) ρ μ=some (vB [v,v,v],μ):=by
  refine(a0k (vs:=[vS (wS cs),.int (p:Int)]) (evn ha (a1q (evl h96)))).trans ((b6b (N:=N+5) hc h8 ok).trans ?_);rw [hv.1,hv.2.1,hv.2.2]
 refine a0i e1 (v:=vB [v,v,v]) (evb (v:=.int 3) (a7b (a1q hb) (show 1<=big by decide)) evc rfl) ((e7q _ _).trans ?_);rw [decide_eq_true rfl]
theorem c7s{W1 W2:List (List Nat)}{m:List Nat}(h1:∀ a∈W1,b8b a)(h2:∀ a∈W2,b8b a)(hl1:W1.length=n)(hl2:W2.length=n)(hn:n<8)(k:Knows ρ [(152,.lst [vS W1,vS W2]),(125,vS (W1++m::W2)),(124,.int (n:Int)),(88,.mut 5),(18,.str t)]) :
  ev gF (N+20) d5i ρ (stQ [] (1+lns t) [] [])=some (.bool false,stQ [] (1+lns t) [] []):=by
 have hb:(W1++m::W2).length<=big:=by rw [List.length_append,List.length_cons,hl1,hl2];have:=d8f;omega
 have hbv:((W1++m::W2).map V.str).length<=big:=by rw [List.length_map];exact hb
 have hpos:1<=1+lns t:=by unfold lns;omega
 have c1:ev gF (N+19) (.cmp .NotEq (.loc 152) (.lst [(.slc (.loc 125) .none (some (.loc 124)) .none),(.slc (.loc 125) (some (.bin .Add (.loc 124) (.cst (.int 1)))) .none .none)])) ρ (stQ [] (1+lns t) [] [])=some (.bool false,stQ [] (1+lns t) [] []):=by
  refine a0i (v:=.lst [vS W1,vS W2]) (evl (k 152 _ rfl)) (a7b (evn (a7u (evl (k 125 _ rfl)) (evl (k 124 _ rfl)) ((a6w n hbv).trans ?_)) (a1q (b6q (k:=((n+1:Nat):Int)) (evl (k 125 _ rfl)) (evb (evl (k 124 _ rfl)) evc rfl) ((b2w (n+1) hbv).trans ?_)))) (show 2<=big by decide)) ?_
  ·rw [← List.map_take,List.take_left' hl1];rfl
  ·rw [← List.map_drop,← List.drop_drop,List.drop_left' hl1];rfl
  ·refine(encRows.cmpNe (a:=[W1,W2]) (b:=[W1,W2]) (by decide) ?_ ?_).trans (by rw [decide_eq_true rfl];rfl)<;>
   ·intro r hr
    rcases List.mem_cons.mp hr with rfl | hr
    ·exact h1
    ·rw [List.mem_singleton.mp hr];exact h2
 have c2:ev gF (N+19) (.cmp .NotEq (.attr 26 (.loc 88)) (.bin .Add (.cst (.int 1)) (.meth 9 (.loc 18) [(.cst (.str [10]))]))) ρ (stQ [] (1+lns t) [] [])=some (.bool false,stQ [] (1+lns t) [] []):=by
  have a2:ev gF (N+17) (.meth 9 (.loc 18) [(.cst (.str [10]))]) ρ (stQ [] (1+lns t) [] [])=some (.int (lns t),stQ [] (1+lns t) [] []):=by
   refine(a4p (evl (k 18 _ rfl)) rfl (a1q evc)).trans ?_;show b2t (.str t) [.str [10]] _=_;have e:Txt.count (txt t) (txt [10])=lns t:=(count_is (txt t) 10).trans (d6j 10 t);rw [f0i,e]
  exact a0i (c7c (evl (k 88 _ rfl)) (if_pos hpos)) (evb evc a2 rfl) ((e2g _ _).trans (by rw [decide_eq_true rfl];rfl))
 show ors (fun x μ=>ev gF (N+19) x ρ μ) _ _=_;rw [e4a,c1];exact c2
theorem c2f(hd:d<=n):a5m (wS ((List.range n).map (s+·))).length ((wS ((List.range n).map (s+·))).take d).reverse ((wS ((List.range n).map (s+·))).drop d) o=wS ((d0a n d o).map (s+·)):=by
 have e:∀ l:List Nat,wS (l.map (s+·))=l.map fun c=>sW (s+c):=fun l=>by unfold wS;rw [List.map_map];rfl
 rw [e,e,← List.map_take,← List.map_drop,← List.map_reverse,List.length_map,List.length_range];exact d8a _ n _ _ o (by rw [List.length_reverse,List.length_take,List.length_drop,List.length_range,Nat.min_eq_left hd,Nat.add_sub_cancel' hd])
theorem c5q{c:X}{a:List Mine.S}(h:ev gF (N+1) c ρ μ=some (.bool false,μ)):a0d gF (N+1) (.ite c a []) ρ μ=some (.next,ρ,μ):=(a0r h rfl).trans rfl
theorem d0x{n:Nat}{args:List V}{μ:Mu}:gF.call n 145 args μ=cF gO P4__law_plain a1r n args μ:=rfl
theorem a2o{f:Mine.S->Rho->Mu->Option (F×Rho×Mu)}{s:Mine.S}{r:List Mine.S}{ρ ρ':Rho}{μ μ' μ₂:Mu}{x:V}(h:f s ρ μ=some (.next,ρ',μ'))(k:∃ v,a3q f r ρ' μ'=some (.ret x,v,μ₂)):∃ v,a3q f (s::r) ρ μ=some (.ret x,v,μ₂):=let⟨v,e⟩:=k;⟨v,(a0a h).trans e⟩
theorem d6l(h5:5<=n)(hn:n<8)(hs:s+n<=48)(hd:d<=n)(hz:(a1h (drs (wS ((List.range n).map (s+·))++a3j p::wS ((a0f n o).map (s+·))) dr)).length<=400)
  (k:Knows ρ [(18,.str (a1h (drs (wS ((List.range n).map (s+·))++a3j p::wS ((a0f n o).map (s+·))) dr))),(125,vS (wS ((List.range n).map (s+·))++a3j p::wS ((a0f n o).map (s+·)))),(149,vI (a0f n o)),(107,vS sg),(151,.int (s:Int)),(136,.int (d:Int)),(124,.int (n:Int)),(105,.int (o:Int)),(96,.int (p:Int))]) :
  ∃ ln v,a3q (a0d gF (N+120)) b4j ρ [.obj [] (-1)]=some (.ret (.bool true),v,stQ [] ln [] []):=by
 have pr:=b8z n o;have hlt:∀ {l:List Nat},l.Perm (List.range n)->∀ c∈l.map (s+·),c<48:=fun h c hc=>by
  obtain⟨x,hx,rfl⟩:=List.mem_map.mp hc;exact Nat.lt_of_lt_of_le (Nat.add_lt_add_left ((a4w h).2 x hx) s) hs
 have hlen:∀ {l:List Nat},l.Perm (List.range n)->(l.map (s+·)).length=n:=fun h=>by rw [List.length_map,(a4w h).1]
 have p0:=List.Perm.refl (List.range n);have rr:=c7k hd o;have hd2:=d3y h5 hn hs o;have hr2:=d0n (d:=d) h5 hn hs hd o;have rw4:=c2f (s:=s) (o:=o) hd;obtain⟨t2,n2,b1,b2⟩:=c6e (p:=p) (dr:=dr) (hlt p0) (hlt pr) (Nat.le_of_lt_succ ((hlen p0).symm▸hn)) (Nat.le_of_lt_succ ((hlen pr).symm▸hn)) hz;have w1:=a9u (hlt p0);have w2:=a9u (hlt pr);have lw1:(wS ((List.range n).map (s+·))).length=n:=(a4s _).trans (hlen p0);have lw2:(wS ((a0f n o).map (s+·))).length=n:=(a4s _).trans (hlen pr);have o1:=c7i (hlt p0);generalize a1h (drs (wS ((List.range n).map (s+·))++a3j p::wS ((a0f n o).map (s+·))) dr)=T at *;generalize hW1:wS ((List.range n).map (s+·))=W1 at *;have ok0:a2m (stQ [] (1+lns T) [] [])=true:=a8b fun zz h=>nomatch h;refine⟨1+lns T,?_⟩;unfold b4j;have s1:ev gF (N+120) (.call 41 [.loc 18]) ρ [.obj [] (-1)]=some (.mut 5,stQ T 1 [] []):=by
  refine(a0k (vs:=[.str T]) (a1q (evl (k 18 _ rfl)))).trans ?_;show d6u (N+119) [.str T] [.obj [] (-1)]=_;rw [b7p,if_pos (Nat.le_trans (by decide) (Nat.le_add_left 119 N))];unfold a6p;rw [if_pos (Nat.le_trans hz (by decide))];rfl
 refine a2o (a0c s1) ?_;have k1:=k.put 88 (.mut 5);generalize put 88 (.mut 5) ρ=ρ1 at k1 ⊢;have s2:ev gF (N+120) d4i ρ1 (stQ T 1 [] [])=some (.lst [vS W1,vS (wS ((a0f n o).map (s+·)))],stQ [] (1+lns T) [] []):=by
  refine a7b (a4e (μ₁:=stQ t2 n2 [] []) ((a0k (vs:=[.mut 5,k3 false false true]) (evn (evl (k1 88 _ rfl)) (a1q rfl))).trans (b1 (N+68))) (a5j ((a0k (vs:=[.mut 5,k3 true true false]) (evn (evl (k1 88 _ rfl)) (a1q rfl))).trans (b2 (N+68))))) (show 2<=big by decide)
 refine a2o (a0c s2) ?_;have k2:=k1.put 152 (.lst [vS W1,vS (wS ((a0f n o).map (s+·)))]);generalize put 152 (.lst [vS W1,vS (wS ((a0f n o).map (s+·)))]) ρ1=ρ2 at k2 ⊢;refine a2o (c5q (N:=N+119) (c7s (N:=N+100) w1 w2 lw1 lw2 hn (Knows.cons (k2 152 _ rfl) (Knows.cons (k2 125 _ rfl) (Knows.cons (k2 124 _ rfl) (Knows.cons (k2 88 _ rfl) (Knows.cons (k2 18 _ rfl) Knows.nil))))))) ?_;have s4:ev gF (N+120) e3o ρ2 (stQ [] (1+lns T) [] [])=some (vS (wS ((d0a n d o).map (s+·))),stQ [] (1+lns T) [] []):=by
  refine(a0k (vs:=[vS W1,.int (d:Int),.int (o:Int)]) (evn (a4o (v:=.int 0) (evl (k2 152 _ rfl)) evc rfl) (evn (evl (k2 136 _ rfl)) (a1q (evl (k2 105 _ rfl)))))).trans ((b6m (N:=N+59) o1 (lw1.symm▸hn) (lw1.symm▸hd)).trans ?_);rw [rw4]
 refine a2o (a0c s4) ?_;have k3:=k2.put 139 (vS (wS ((d0a n d o).map (s+·))));generalize put 139 (vS (wS ((d0a n d o).map (s+·)))) ρ2=ρ3 at k3 ⊢;have e145:ev gF (N+118) (.call 145 [(.loc 124),(.loc 136),(.loc 105)]) ρ3 (stQ [] (1+lns T) [] [])=some (vI (d0a n d o),stQ [] (1+lns T) [] []):=by
  refine(a0k (vs:=[.int (n:Int),.int (d:Int),.int (o:Int)]) (evn (evl (k3 124 _ rfl)) (evn (evl (k3 136 _ rfl)) (a1q (evl (k3 105 _ rfl)))))).trans ?_;rw [d0x];exact b8r (N:=N+67) hn hd ok0
 have s5:ev gF (N+120) d4j ρ3 (stQ [] (1+lns T) [] [])=some (.bool false,stQ [] (1+lns T) [] []):=by
  refine a0i (evl (k3 139 _ rfl)) (v:=vS (wS ((d0a n d o).map (s+·)))) (b3k (N:=N+100) ?_ (fun c hc=>hlt rr _ (List.mem_map_of_mem hc)) ((a4w rr).1.symm▸hn) (Knows.cons (k3 107 _ rfl) (Knows.cons (k3 151 _ rfl) Knows.nil))) ?_
  ·rw [e9z,e145];rfl
  ·exact(encStrs.cmpNe (by decide) (a9u (hlt rr)) (a9u (hlt rr))).trans (by rw [decide_eq_true rfl];rfl)
 refine a2o (c5q (N:=N+119) s5) ?_;have s6:ev gF (N+120) e7r ρ3 (stQ [] (1+lns T) [] [])=some (.bool (d2b n (a0f n o)),stQ [] (1+lns T) [] []):=e2b (N:=N+105) hn ((a4w pr).1.symm▸hn) rfl (Knows.cons (k3 149 _ rfl) (Knows.cons (k3 124 _ rfl) Knows.nil));refine a2o (a0c s6) ?_;have k4:=k3.put 101 (.bool (d2b n (a0f n o)));refine⟨_,a7i (d5a (d4v (N:=N+32) (v:=true) (evl (k4 139 _ rfl)) evc (k4 96 _ rfl) (hlt rr) ((hlen rr).symm▸hn) hr2 ok0) (d4v (N:=N+32) (v:=d2b n (a0f n o)) (a4o (v:=.int 1) (evl (k4 152 _ rfl)) evc rfl) (evl (k4 101 _ rfl)) (k4 96 _ rfl) (hlt pr) ((hlen pr).symm▸hn) hd2 ok0))⟩
end
end
section
noncomputable def e0n:Prop:=∀ zs:List Int,zs.length<=63->∃ n ρ₂ is rest,n<=500/\exec gF n c9v [(119,.lst (zs.map .int))] [.obj [] (-1)]=some (.ret (.bool true),ρ₂,.obj is (-5)::rest)
section
variable{N:Nat}{ρ:Rho}{μ:Mu}
theorem b6j{Γ:G}{n i j k l:Nat}{e:X}{a b c d:V}(h:ev Γ n e ρ μ=some (.lst [a,b,c,d],μ)):a0d Γ n (.unpack [i,j,k,l] e) ρ μ=some (.next,put l d (put k c (put j b (put i a ρ))),μ):=by
 rw [a9z,h];rfl
theorem d3a{n:Nat}{args:List V}{μ:Mu}:gF.call n 147 args μ=cF g0 P4__law_drawn a1t n args μ:=rfl
theorem c8y{c1 c2:List Nat}{p:Nat}(h1:∀ c∈c1,c<48)(h2:∀ c∈c2,c<48):∀ w∈wS c1++a3j p::wS c2,w.length<=3:=fun w hw=>by
 rcases List.mem_append.mp hw with q | q
 ·obtain⟨c,hc,rfl⟩:=List.mem_map.mp q;exact c5u (h1 c hc)
 ·rcases List.mem_cons.mp q with rfl | q
  ·exact(c1v p).2.1
  ·obtain⟨c,hc,rfl⟩:=List.mem_map.mp q;exact c5u (h2 c hc)
theorem e3q{zs:List Int}(hz:zs.length<=63):∃ ln v,exec gF (N+121) c9v [(119,.lst (zs.map .int))] [.obj [] (-1)]=some (.ret (.bool true),v,stQ [] ln [] []):=by
 have ok:a2m [M.obj [] (-1)]=true:=rfl;have k0:Knows [(119,V.lst (zs.map .int))] [(119,V.lst (zs.map .int))]:=Knows.self;have s1:ev gF (N+120) d7o [(119,.lst (zs.map .int))] [.obj [] (-1)]=some (vI (a7e zs),[.obj [] (-1)]):=d8q (N:=N+100) hz rfl;have hns:=c4e hz;have k1:=k0.put 120 (vI (a7e zs))
 suffices H:∃ ln,∃ v,a3q (a0d gF (N+120)) (.unpack [129,105,122,96] d3z::.assign 124 d2k::.unpack [151,136] d3l::.assign 107 c0w::.assign 149 (.call 147 [.loc 124,.loc 105])::.assign 125 c0m::.assign 18 d1s::b4j) (put 120 (vI (a7e zs)) [(119,.lst (zs.map .int))]) [.obj [] (-1)]=some (.ret (.bool true),v,stQ [] ln [] [])from
  let⟨ln,v,e⟩:=H;⟨ln,v,(a0a (a0c s1)).trans e⟩
 clear s1;generalize put 120 (vI (a7e zs)) [(119,.lst (zs.map .int))]=ρ1 at k1 ⊢;generalize a7e zs=ns at hns k1 ⊢;have s2:ev gF (N+120) d3z ρ1 [.obj [] (-1)]=some (vI [a3x ns 0 303,a3x ns 1 1174,a3x ns 2 1234,a3x ns 3 6],[.obj [] (-1)]):=d5w (N:=N+100) hns (fun zz zz zz=>rfl) (k1 120 _ rfl);generalize a3x ns 0 303=st at s2;generalize a3x ns 1 1174=o at s2;generalize a3x ns 2 1234=dr at s2;generalize a3x ns 3 6=p at s2;have k2:=(((k1.put 129 (.int (st:Int))).put 105 (.int (o:Int))).put 122 (.int (dr:Int))).put 96 (.int (p:Int));have e2:=b6j (i:=129) (j:=105) (k:=122) (l:=96) s2;generalize put 96 (.int (p:Int)) (put 122 (.int (dr:Int)) (put 105 (.int (o:Int)) (put 129 (.int (st:Int)) ρ1)))=ρ2 at k2 e2;have s3:ev gF (N+120) d2k ρ2 [.obj [] (-1)]=some (.int (5+st%3:Nat),[.obj [] (-1)]):=d6z (N:=N+117) (k2 129 _ rfl);have k3:=k2.put 124 (.int (5+st%3:Nat));have e3:=a0c (i:=124) s3;generalize put 124 (.int (5+st%3:Nat)) ρ2=ρ3 at k3 e3;have h5:5<=5+st%3:=Nat.le_add_right _ _;have hn:5+st%3<8:=Nat.add_lt_add_left (Nat.mod_lt st (by decide)) 5;generalize 5+st%3=n at *;have s4:ev gF (N+120) d3l ρ3 [.obj [] (-1)]=some (.tup [.int (st / 3%(49-n):Nat),.int (st / 3 / (49-n)%(n+1):Nat)],[.obj [] (-1)]):=d0p (N:=N+115) hn (k3 129 _ rfl) (k3 124 _ rfl);have hs:st / 3%(49-n)+n<=48:=by
  have:st / 3%(49-n)<49-n:=Nat.mod_lt _ (Nat.sub_pos_of_lt (Nat.lt_trans hn (by decide)));omega
 have hd:st / 3 / (49-n)%(n+1)<=n:=Nat.le_of_lt_succ (Nat.mod_lt _ (Nat.succ_pos n));generalize st / 3%(49-n)=s at s4 hs;generalize st / 3 / (49-n)%(n+1)=d at s4 hd;have k4:=(k3.put 151 (.int (s:Int))).put 136 (.int (d:Int));have e4:=a2c (i:=151) (j:=136) s4;generalize put 136 (.int (d:Int)) (put 151 (.int (s:Int)) ρ3)=ρ4 at k4 e4;have s5:ev gF (N+120) c0w ρ4 [.obj [] (-1)]=some (vS sg,[.obj [] (-1)]):=d3h (N:=N+118);have k5:=k4.put 107 (vS sg);have e5:=a0c (i:=107) s5;generalize put 107 (vS sg) ρ4=ρ5 at k5 e5;have s6:ev gF (N+120) (.call 147 [.loc 124,.loc 105]) ρ5 [.obj [] (-1)]=some (vI (a0f n o),[.obj [] (-1)]):=by
  refine(a0k (vs:=[.int (n:Int),.int (o:Int)]) (evn (evl (k5 124 _ rfl)) (a1q (evl (k5 105 _ rfl))))).trans ?_;rw [d3a];exact c2g (N:=N+79) hn ok
 have k6:=k5.put 149 (vI (a0f n o));have e6:=a0c (i:=149) s6;generalize put 149 (vI (a0f n o)) ρ5=ρ6 at k6 e6;have pr:=b8z n o;have s7:ev gF (N+120) c0m ρ6 [.obj [] (-1)]=some (vS (wS ((List.range n).map (s+·))++a3j p::wS ((a0f n o).map (s+·))),[.obj [] (-1)]):=d2u (N:=N+100) hs hn (a4w pr).2 ((a4w pr).1.symm▸hn) (Knows.cons (k6 107 _ rfl) (Knows.cons (k6 151 _ rfl) (Knows.cons (k6 124 _ rfl) (Knows.cons (k6 96 _ rfl) (Knows.cons (k6 149 _ rfl) Knows.nil)))));have hlt:∀ {l:List Nat},l.Perm (List.range n)->∀ c∈l.map (s+·),c<48:=fun h c hc=>by
  obtain⟨x,hx,rfl⟩:=List.mem_map.mp hc;exact Nat.lt_of_lt_of_le (Nat.add_lt_add_left ((a4w h).2 x hx) s) hs
 have hw:=c8y (p:=p) (hlt (List.Perm.refl (List.range n))) (hlt pr);have hwl:(wS ((List.range n).map (s+·))++a3j p::wS ((a0f n o).map (s+·))).length<20:=by
  rw [List.length_append,List.length_cons,a4s,a4s,List.length_map,List.length_map,List.length_range,(a4w pr).1];omega
 have k7:=k6.put 125 (vS (wS ((List.range n).map (s+·))++a3j p::wS ((a0f n o).map (s+·))));have e7:=a0c (i:=125) s7;generalize put 125 (vS (wS ((List.range n).map (s+·))++a3j p::wS ((a0f n o).map (s+·)))) ρ6=ρ7 at k7 e7;obtain⟨s8,hb⟩:=d9s (N:=N+78) (dr:=dr) (μ:=[.obj [] (-1)]) hw hwl (k7 122 _ rfl) (k7 125 _ rfl) ok;have k8:=k7.put 18 (.str (a1h (drs (wS ((List.range n).map (s+·))++a3j p::wS ((a0f n o).map (s+·))) dr)));have e8:a0d gF (N+120) (.assign 18 d1s) ρ7 [.obj [] (-1)]=_:=a0c s8;obtain⟨ln,h⟩:=d6l (N:=N) (o:=o) (p:=p) (dr:=dr) h5 hn hs hd hb (Knows.cons (k8 18 _ rfl) (Knows.cons (k8 125 _ rfl) (Knows.cons (k8 149 _ rfl) (Knows.cons (k8 107 _ rfl) (Knows.cons (k8 151 _ rfl) (Knows.cons (k8 136 _ rfl) (Knows.cons (k8 124 _ rfl) (Knows.cons (k8 105 _ rfl) (Knows.cons (k8 96 _ rfl) Knows.nil)))))))));exact⟨ln,a2o e2 (a2o e3 (a2o e4 (a2o e5 (a2o e6 (a2o e7 (a2o e8 h))))))⟩
theorem lawIs:e0n:=by
 intro zs hz;obtain⟨ln,v,e⟩:=e3q (N:=0) hz;exact⟨121,v,[2],_,by decide,e⟩
end
end
end Mine
end
section
open PySem PySem.W PySem.Calls PyProof.Rows
set_option maxRecDepth 100000
set_option maxHeartbeats 4000000
namespace Mine
section
noncomputable def c1p(es:Array DictEntry):Bool:=es.toList.all fun e=>match e.key with | .str _ _=>true | _=>false
theorem c3g{es:Array DictEntry}(h:c1p es=true):StrKeys es:=by
 intro e he;have:=List.all_eq_true.mp h e (by simpa using he);induction hk:e.key using PySem.Value.casesOn with
 | str n t=>exact⟨n,t,rfl⟩
 | _=>rw [hk]at this;cases this
theorem e0h{base:Heap}{K:Frag}{a:Addr}{o:Obj}{es:Array DictEntry}{ep:Nat}(X:K.In base)(hl:K.lookup a=some o)(hd:o.data=.dict es ep)(hk:c1p es=true):base.Ns a (nsFind es):=
 ⟨o,es,ep,X a o hl,hd,c3g hk,fun zz=>rfl⟩
noncomputable def lm4:LamT where
 qual:=("_law_lexer":Str)++".<locals>."++"<lambda>"
 params:={ posonlyargs:=[],args:=[{ arg:="size",annotation:=none,pos:={ line:=198,col:=25,endLine:=198,endCol:=29}}],vararg:=none,kwonlyargs:=[],kw_defaults:=[],kwarg:=none,defaults:=[]}
 scope:={ kind:=ScopeKind.function,names:=[("size",NameKind.local),("letters",NameKind.free)],isGenerator:=false,isCoroutine:=false}
 p1:={ line:=198,col:=48,endLine:=198,endCol:=55}
 p2:={ line:=198,col:=31,endLine:=198,endCol:=38}
 p3:={ line:=198,col:=31,endLine:=198,endCol:=42}
 p4:={ line:=198,col:=31,endLine:=198,endCol:=44}
 p5:={ line:=198,col:=61,endLine:=198,endCol:=63}
 p6:={ line:=198,col:=31,endLine:=198,endCol:=63}
 kd:=0
 pos0:={ line:=197,col:=13,endLine:=197,endCol:=25}
 pos:={ line:=198,col:=18,endLine:=198,endCol:=63}
theorem e2r:b7t lm4 where
 bind:=fun cl pm cdv ct v=>by kernel_rfl
 size:=by decide +kernel
 letters:=by decide +kernel
 nocell:=by decide +kernel
 kind:=rfl
 coro:=rfl
 gen:=rfl
 line:=by decide +kernel
noncomputable def c0q:List DictEntry->List (List Nat×Int)->Bool
 | [],[]=>true
 | e::r,d::q=>(match e.key,e.val with
  | .str x _,.int v _=>x==txt d.1&&v==d.2
  | _,_=>false)&&c0q r q
 | _,_=>false
section
variable{prog:Program}{w:World}{base:Heap}{K:Frag}
set_option tactic.hygienic true in
theorem b6v:∀ {l:List DictEntry} {D:List (List Nat×Int)},c0q l D=true->∃ kvs,Pairs (strKind prog w) l kvs/\PyProof.V.FlatPairs PyData.str kvs (D.map fun p=>(.str ⟨p.1.toArray⟩,.int p.2))/\kvs.map (·.1)=D.map fun p=>txt p.1
 | [],[],_=>⟨[],.nil,.nil,rfl⟩
 | [],_::_,h=>by cases h
 | _::_,[],h=>by cases h
 | e::r,d::q,h=>by
  simp only [c0q,Bool.and_eq_true]at h;obtain⟨h1,h2⟩:=h;obtain⟨kvs,a,b,c⟩:=b6v h2;split at h1
  ·rename_i x t v u hk hv
   simp only [Bool.and_eq_true,beq_iff_eq]at h1;obtain⟨rfl,rfl⟩:=h1;exact⟨(txt d.1,e.val)::kvs,.cons (by rw [hk];exact strKind_is prog w _ t) rfl a,.cons (by rw [hv];exact PyProof.V.Flat.int _ _) b,by simp [c]⟩
  ·cases h1
theorem c4w {a:Addr} {es:Array DictEntry} {n:Nat} {D:List (List Nat×Int)} (X:K.In base) (lo:(a==sysModules)=false) (hl:K.lookup a=some ⟨.type "dict",none,.dict es n,#[]⟩) (hk:KeysLit w.params es.toList) (hc:c0q es.toList D=true) (hn:(D.map fun p=>txt p.1).Nodup) :
  StrTab prog w base a (D.map fun p=>(.str ⟨p.1.toArray⟩,.int p.2)):=by
 obtain⟨kvs,h1,h2,h3⟩:=b6v (prog:=prog) (w:=w) hc;refine TabAt.ofObj lo (X _ _ hl) ⟨es,n,⟨rfl,rfl,rfl⟩,rfl,fun e he=>?_,h1,by rw [h3];exact hn⟩ h2;obtain⟨x,t,e1,e2⟩:=hk.all e (Array.mem_toList_iff.mpr he);exact⟨x,by rw [e1];exact strKind_is prog w x t,e2⟩
end
theorem c5i{h:Heap}{a:Addr}{m m':Str->Option Value}(x:h.Ns a m)(y:h.Ns a m'):m=m':=by
 obtain⟨o,es,ep,e1,e2,_,e3⟩:=x;obtain⟨o',es',ep',f1,f2,_,f3⟩:=y;rw [e1]at f1;obtain rfl:=Option.some.inj f1;rw [e2]at f2;cases f2;funext z;rw [← e3,← f3]
theorem b8c {env:Env} {LC:Addr} (h:env.cells.lookup ("letters":Str)=some LC):closureFor lm4.scope env=pure [(("letters":Str),LC)]:=by
 have e:cellOf env "letters" = pure LC:=by
  unfold cellOf;rw [h]
 unfold closureFor lm4;simp only [List.forIn_cons,List.forIn_nil];rw [if_neg (by decide)];simp only [pure_bind];rw [if_pos (by decide),e];rfl
section
variable{prog:Program}{w:World}{Lx:LxP}{base:Heap}{Γ:G}
theorem d2v{names:List Str}{is:List Nat}{ss:List Mine.S}(D:b2o base names is ss)(hbig:base.NoLimit)(ht:Γ.tbl=tblA)(S:Snd prog w Lx base Γ)(LX:∀ n,a5w prog w Lx base Γ n){n:Nat}{args:List V}{μ μ₂:Mu}{v:V}{ρ₂:Rho}
  (h:exec Γ n ss (is.zip args) μ=some (.ret v,ρ₂,μ₂)) (hlen:is.length=args.length) {A:Around} {R:Result->Shared->Prop} {s:Shared} {as:List (List Addr)} {vals:List Value} (rm:Room A (n+1)) (g:GR Lx base μ as s.heap) (ra:Reps s.heap as args vals)
  (hR:∀ u asJ hJ tk,GR Lx base μ₂ asJ hJ->Rep hJ asJ v u->R (.ok (.ret u)) { s with heap:=hJ,toks:=tk}):codeAny (model prog w) A (.call (.ref D.a) ⟨vals,[]⟩) R s:=by
 have hok:=D.ok;unfold okF at hok;simp only [Bool.and_eq_true,Bool.not_eq_true',decide_eq_true_eq]at hok;obtain⟨⟨⟨⟨⟨⟨⟨h1,h2⟩,h3⟩,h4⟩,h5⟩,h6⟩,h7⟩,h8⟩:=hok;have e8:D.fd.scope.kind=.function:=by simpa using h8
 obtain⟨mt,k,t⟩:=D.tr;have hi:a1k (nid tblA) names=some is:=by simpa using h1
 have hl:names.length=vals.length:=by rw [ra.length,← hlen,a6r hi]
 have rm':∀ env,Room (A.deeper env) n:=fun env=>⟨rm.calm,by show A.depth+1+n<=900;have:=rm.depth;omega,by show A.units+3+10 * n<=9000;have:=rm.units;omega⟩;have hkn:∀ x∈names,D.fd.scope.names.lookup x=some .local∨D.fd.scope.names.lookup x=some .cell:=fun x hx=>by
  have:=List.all_eq_true.mp h3 x hx;simp only [Bool.or_eq_true,beq_iff_eq]at this;exact this
 have hfree:∀ p∈D.fd.scope.names,p.2≠.free:=fun p hp=>by
  have:=List.all_eq_true.mp h4 p hp;simpa using this
 refine codeAny_call_cells (by have:=rm.depth;show A.depth<1000;omega) (g.keep _ _ D.at') D.data (hbig.keeps fun b o e=>g.keep b o e) (D.code.keeps fun b o e=>g.keep b o e) D.hbody (D.bind vals hl.symm) D.clos (fun x hx=>?_) (fun sI x=>?_) h6 h7 e8
 ·rcases hkn x.1 (List.of_mem_zip hx).1 with q | q
  ·exact .inl q
  ·exact .inr ⟨q,a2l _ _ _ q⟩
 obtain⟨hY,tkI,eI,hkeep⟩:=x.done;have gI:GR Lx base μ as sI.heap/\Go as s.heap as sI.heap:=g.all fun a o zz e=>x.toInCall.keep a o e;obtain⟨gI,goI⟩:=gI;have er:=b4d (tbl:=tblA) e8 D.glob D.built hfree h2 hi x hl g (ra.go goI);rw [eI];rw [eI]at gI er;refine a6v S (by rw [ht];exact b1a) LX n ss mt k D.body _ _ _ _ ρ₂ _ μ₂ as _ (.ret v) _ (by rw [ht];exact t) (by rw [ht];exact a6u h5) ?_ (rm' _) ⟨fun zz q=>q,fun zz q=>q,fun zz q=>q⟩ (by rw [ht];exact er) gI h fun fl asJ hJ tk gJ erJ gs fr=>?_
 ·show((D.fd.scope.kind==.module)&&_)=false
  rw [e8];rfl
 ·induction fl using PySem.Flow.casesOn<;>try exact fr.elim
  exact hR _ asJ hJ tk gJ fr
end
section
variable{base:Heap}{K:Frag}
noncomputable def c1n(o:Obj):FuncData:=match o.data with
 | .func fd=>fd
 | _=>default
noncomputable def c5s(fd:FuncData):List Stmt:=match fd.body with
 | .stmts b=>b
 | _=>[]
noncomputable def b0c(o:Obj):Array Value:=match o.data with
 | .fields vs=>vs
 | _=>#[]
theorem a9b{K:Frag}(X:K.In base){e:Value}{q:Str}{c:Addr}{o:Obj}{vs:Array Value}{t:PySem.Tok}(he:e=.ref c)(ho:K.lookup c=some o)(hd:o.data=.fields vs)(hv:vs[1]?=some (.str q t)):base.CodeRec e q:=⟨c,o,vs,t,he,X c o ho,hd,hv⟩
theorem d7d{fd:FuncData}{c:Addr}{oc:Obj}{t:PySem.Tok}(X:K.In base)(h2:K.lookup c=some oc)(h4:fd.code=.ref c)(h5:oc.data=.fields (b0c oc))(h6:(b0c oc)[1]?=some (.str fd.qualname t)):base.CodeRec fd.code fd.qualname:=⟨c,oc,_,t,h4,X c oc h2,h5,h6⟩
theorem e8w{α:Type}{l:List α}(h:l.length=2):∃ a b,l=[a,b]:=by
 induction l using List.casesOn with
 | nil=>cases h
 | cons a r=>
  obtain⟨b,e⟩:=List.length_eq_one_iff.mp (Nat.succ.inj h);exact⟨a,b,by rw [e]⟩
theorem e8g{α:Type}{l:List α}(h:l.length=3):∃ a b c,l=[a,b,c]:=by
 induction l using List.casesOn with
 | nil=>cases h
 | cons a r=>
  obtain⟨b,c,e⟩:=e8w (Nat.succ.inj h);exact⟨a,b,c,by rw [e]⟩
theorem b7a{fd:FuncData}{x:Str}(h:∀ a,bindArgs fd ⟨[a],[]⟩=pure [(x,a)])(vals:List Value)(hv:vals.length=[x].length):bindArgs fd ⟨vals,[]⟩=pure ([x].zip vals):=by
 obtain⟨a,e⟩:=List.length_eq_one_iff.mp hv;rw [e];exact h a
theorem c6b{fd:FuncData}{x y:Str}(h:∀ a b,bindArgs fd ⟨[a,b],[]⟩=pure [(x,a),(y,b)])(vals:List Value)(hv:vals.length=[x,y].length):bindArgs fd ⟨vals,[]⟩=pure ([x,y].zip vals):=by
 obtain⟨a,b,e⟩:=e8w hv;rw [e];exact h a b
theorem b8s{fd:FuncData}{x y z:Str}(h:∀ a b c,bindArgs fd ⟨[a,b,c],[]⟩=pure [(x,a),(y,b),(z,c)])(vals:List Value)(hv:vals.length=[x,y,z].length):bindArgs fd ⟨vals,[]⟩=pure ([x,y,z].zip vals):=by
 obtain⟨a,b,c,e⟩:=e8g hv;rw [e];exact h a b c
theorem e6t{fd:FuncData}{x y z u:Str}(h:∀ a b c d,bindArgs fd ⟨[a,b,c,d],[]⟩=pure [(x,a),(y,b),(z,c),(u,d)])(vals:List Value)(hv:vals.length=[x,y,z,u].length):bindArgs fd ⟨vals,[]⟩=pure ([x,y,z,u].zip vals):=by
 induction vals using List.casesOn with
 | nil=>cases hv
 | cons a r=>
  obtain⟨b,c,d,e⟩:=e8g (Nat.succ.inj hv);rw [e];exact h a b c d
noncomputable def a2f(base:Heap)(es:Str->Option Value)(x:Str)(names:List Str)(is:List Nat)(ss:List Mine.S):Prop:=∃ D:b2o base names is ss,es x=some (.ref D.a)
theorem a2g{a c:Addr}{o oc:Obj}{t:PySem.Tok}{mt:List Str}{names:List Str}{is:List Nat}{ss:List Mine.S}(X:K.In base)(h1:K.lookup a=some o)(h2:K.lookup c=some oc)(h3:o.data=.func (c1n o))(h4:(c1n o).code=.ref c)(h5:oc.data=.fields (b0c oc))(h6:(b0c oc)[1]?=some (.str (c1n o).qualname t))
  (h7:(c1n o).body=.stmts (c5s (c1n o))) (hg:(c1n o).globals=mainGlobals) (hb:(c1n o).builtins=builtinsNs) (hc:(c1n o).closure=[]) (h9:∀ vals:List Value,vals.length=names.length->bindArgs (c1n o) ⟨vals,[]⟩=pure (names.zip vals)) (h10:okF tblA (c1n o).scope names is=true) (h11:trS.trSs tblA mt 40 (c1n o).scope (c5s (c1n o))=some ss) :
  ∃ D:b2o base names is ss,D.a=a/\D.o=o:=
 ⟨{ a:=a,o:=o,fd:=c1n o,body:=c5s (c1n o),at':=X a o h1,data:=h3,code:=d7d X h2 h4 h5 h6,hbody:=h7,glob:=hg,built:=hb,clos:=hc,bind:=h9,ok:=h10,tr:=⟨mt,40,h11⟩},rfl,rfl⟩
theorem a1p{a:Addr}{o:Obj}{es:Str->Option Value}{x:Str}{names:List Str}{is:List Nat}{ss:List Mine.S}(D:∃ D:b2o base names is ss,D.a=a/\D.o=o)(h:es x=some (.ref a)):a2f base es x names is ss:=let⟨D,e,_⟩:=D;⟨D,by rw [e];exact h⟩
theorem c0i {a b:Addr} {o:Obj} {names:List Str} {is:List Nat} {ss:List Mine.S} (D:∃ D:b2o base names is ss,D.a=a/\D.o=o) (h:a=b) (hc:o.cls=.type "function"):∃ D:b2o base names is ss,D.a=b/\D.o.cls=.type "function":=let⟨D,e,eo⟩:=D;⟨D,e.trans h,by rw [eo];exact hc⟩
end
structure e0d(base:Heap)(es:Str->Option Value)(lb:LB base):Prop where
 hv:a2f base es "_v" ["m1","m2","hue"] e5x e5j
 h1:a2f base es "hsv_to_rgb" ["h","s","v"] a4j F_hsv_to_rgb
 h2:a2f base es "rgb_to_hsv" ["r","g","b"] a4b a3e
 h3:a2f base es "rgb_to_hls" ["r","g","b"] a4c a3c
 h4:a2f base es "hls_to_rgb" ["h","l","s"] a4d a2y
 h5:a2f base es "ISEOF" ["x"] b4n b4p
 h6:a2f base es "ISNONTERMINAL" ["x"] a2h a2i
 h7:a2f base es "ISTERMINAL" ["x"] P_ISTERMINAL a2x
 dg:∃ D:b2o base ["self"] P_get_token a2b,D.a=lb.fg/\D.o.cls=.type "function"
 dp:∃ D:b2o base ["self","token"] P_push_token a3y,D.a=lb.fp/\D.o.cls=.type "function"
 l1:a2f base es "_law_written" ["word","number"] a2j a2k
 l2:a2f base es "_law_kinds" ["word"] a5g a5i
 l3:a2f base es "_law_pack" ["lexer","end"] P4__law_pack a2d
 l4:a2f base es "_law_riffled" ["pack","dealt","bits"] P4__law_riffled a1o
 l5:a2f base es "_law_place" ["word","wheel","paint","turn"] a5k a3o
 l6:a2f base es "_law_answers" ["pack","paint"] P4__law_answers a1l
 l7:a2f base es "_law_plain" ["size","dealt","bits"] P4__law_plain a1r
 l8:a2f base es "_law_drawn" ["size","number"] P4__law_drawn a1t
 l9:a2f base es "law" ["script"] e3c c9v
structure c7r(prog:Program)(w:World)(base:Heap)(es:Str->Option Value) where
 lb:LB base
 nm:b9o prog w base th3
 lex:a4z prog w lb lm4 122 (gB th3)
 st:e3e base lm4 122 tblA 18 19 6
 rst:∃ p1 p2 p3 q,st.rest=[.Return (some (.Call (.Name "_netrclex" p1) [.Name "stream" p2] [] p3)) q]
 rk:st.fd.scope.names.lookup ("_netrclex":Str)=some NameKind.globalImplicit
 nst:es "_law_lexer" = some (.ref st.a)
 ds:e0d base es lb
section
variable{prog:Program}{w:World}{base:Heap}{es:Str->Option Value}
theorem f0x(Fa:c7r prog w base es)(NS:base.Ns mainGlobals es)(hbig:base.NoLimit)(hP:base.get? 122=none):Snd prog w (a1f Fa.lb lm4 122) base gF:=by
 have L:=Fa.lex;have S0:Snd prog w (a1f Fa.lb lm4 122) base g0:=f1a Fa.nm L;have LA:∀ {Γ:G},Γ.tbl=tblA->Snd prog w (a1f Fa.lb lm4 122) base Γ->∀ n,a5w prog w (a1f Fa.lb lm4 122) base Γ n:=fun ht S n=>c9a L S (by rw [ht];exact b1a) n;have add:∀ {Γ Γ':G} {names:List Str} {is:List Nat} {ss:List Mine.S} {x:Str} (D:a2f base es x names is ss) (id:Nat),tblA[id]?=some x->Γ.tbl=tblA->Γ'.tbl=tblA->Snd prog w (a1f Fa.lb lm4 122) base Γ'->Snd prog w (a1f Fa.lb lm4 122) base Γ->Snd prog w (a1f Fa.lb lm4 122) base (b2d Γ id (cF Γ' is ss)):=
  fun⟨D,hn⟩ id hid ht ht' S' S=>c0u S (by rw [ht];exact hid) (a1s NS hn) (.func D.a D.o _ D.at' D.data) fun n args μ r μ' h=>by
   induction n using Nat.casesOn with
   | zero=>exact ns h
   | succ n=>exact c1a D hbig ht' S' (LA ht' S') h
 have addM:∀ {Γ:G} {names:List Str} {is:List Nat} {ss:List Mine.S} (D:b2o base names is ss) (id:Nat) (x:Str),tblA[id]?=some x->Γ.tbl=tblA->(∀ u μ,Γ.find id u μ=true->a6c prog w (a1f Fa.lb lm4 122) base x u μ (.ref D.a))->Snd prog w (a1f Fa.lb lm4 122) base Γ->Snd prog w (a1f Fa.lb lm4 122) base (e3m Γ id (mF g0 is ss)):=
  fun {Γ} {names} {is} {ss} D id x hid ht hf S=>by
   refine⟨S.glob,S.range,S.enum,S.list,S.dic,S.call,fun n m u args μO μ r μ' hfd h=>?_,S.attr⟩;simp only [e3m]at h hfd;refine ifE h (fun e h'=>?_) fun zz h=>S.meth n m u args μO μ r μ' hfd h;clear h;subst e;induction n using Nat.casesOn with
   | zero=>exact ns h'
   | succ n=>exact⟨x,.ref D.a,by rw [show(e3m Γ m (mF g0 is ss)).tbl=Γ.tbl from rfl,ht];exact hid,.func D.a D.o _ D.at' D.data,hf u μO hfd,c1a D hbig rfl S0 (LA rfl S0) h'⟩
 obtain⟨Dg,eg,cg⟩:=Fa.ds.dg;obtain⟨Dp,ep,cp⟩:=Fa.ds.dp;have fgt:∀ u μ,a3s μ u=true->a6c prog w (a1f Fa.lb lm4 122) base "get_token" u μ (.ref Dg.a):=fun u μ h=>a8q L (.inr (.inl rfl)) (by rw [eg];exact Fa.lb.get) Dg.at' cg h
 have fpt:∀ u μ,a3s μ u=true->a6c prog w (a1f Fa.lb lm4 122) base "push_token" u μ (.ref Dp.a):=fun u μ h=>a8q L (.inr (.inr rfl)) (by rw [ep];exact Fa.lb.push) Dp.at' cp h
 have SV:=add (Γ:=g0) Fa.ds.hv 64 (by decide +kernel) rfl rfl S0 S0;have SC:=add Fa.ds.h1 68 (by decide +kernel) rfl rfl S0 (add Fa.ds.h2 66 (by decide +kernel) rfl rfl S0 (add Fa.ds.h3 47 (by decide +kernel) rfl rfl S0 (add Fa.ds.h4 61 (by decide +kernel) rfl rfl SV S0)));have SK:=addM Dg 22 "get_token" (by decide +kernel) rfl (fun u μ h=>fgt u μ h) (add Fa.ds.h5 46 (by decide +kernel) rfl rfl S0 (add Fa.ds.h6 45 (by decide +kernel) rfl rfl S0 (add Fa.ds.h7 43 (by decide +kernel) rfl rfl S0 S0)))
 have SP:=add Fa.ds.l2 131 (by decide +kernel) rfl rfl SK SK;obtain⟨p1,p2,p3,q1,er⟩:=Fa.rst;have SL:∀ {Γ:G},Γ.tbl=tblA->Snd prog w (a1f Fa.lb lm4 122) base Γ->Snd prog w (a1f Fa.lb lm4 122) base (b2d Γ 41 d6u):=fun ht S=>c0u S (by rw [ht];decide +kernel) (a1s NS Fa.nst) (.func Fa.st.a _ _ Fa.st.at' Fa.st.data) fun n args μ r μ' h=>by
  unfold d6u at h;split at h
  ·refine ifS h fun hn h=>a1e h fun p hm h=>pr h ?_
   rintro rfl rfl;exact(d2g L (fun n t μ hz=>by
    show c5h 6 [.str t] μ=_;rw [f0y,e9x,if_pos hz]) Fa.st hP er Fa.rk hm).call.less hn
  ·exact ns h
 have SQ:=addM Dp 23 "push_token" (by decide +kernel) rfl (fun u μ h=>fpt u μ h) (SL rfl SP)
 have SA:=add Fa.ds.l5 95 (by decide +kernel) rfl rfl SC S0;have SO:Snd prog w (a1f Fa.lb lm4 122) base gO:=⟨S0.glob,S0.range,S0.enum,S0.list,S0.dic,S0.call,S0.meth,S0.attr⟩;exact add Fa.ds.l8 147 (by decide +kernel) rfl rfl S0 (add Fa.ds.l7 145 (by decide +kernel) rfl rfl SO (add Fa.ds.l6 142 (by decide +kernel) rfl rfl SA (add Fa.ds.l4 135 (by decide +kernel) rfl rfl SQ (add Fa.ds.l3 132 (by decide +kernel) rfl rfl SP (add Fa.ds.l1 81 (by decide +kernel) rfl rfl S0 (SL rfl S0))))))
end
noncomputable def c1k(K:Frag)(a:Addr):Str->Option Value:=match K.lookup a with
 | some ⟨_,_,.dict es _,_⟩=>nsFind es
 | _=>fun zz=>none
noncomputable def e0b(K:Frag):Str->Option Value:=c1k K 3
theorem e6o {base:Heap} {K:Frag} (X:K.In base) {C N fr fg fp fi:Addr} {nm q:Str} {bs:List Value} {sn:List Str} {sub:List Value} {col:Option Bool} {dd:Option Addr} {k0 k1 k2 k3 k5:Option Value} (h1:K.lookup C=some (excClassObj nm q C N bs [.type "object"] true sn sub false col dd k0 k1 k2 k3 k5 "object.__new__")) (h2:base.Ns N (c1k K N))
  (nga:c1k K N "__getattribute__" = .none) (ngt:c1k K N "__getattr__" = .none) (nsa:c1k K N "__setattr__" = .none) (o1:c1k K N "lineno" = .none) (o2:c1k K N "instream" = .none) (o3:c1k K N "whitespace" = .none) (o4:c1k K N "pushback" = .none)
  (read:c1k K N "_read_char" = some (.ref fr)) (get:c1k K N "get_token" = some (.ref fg)) (push:c1k K N "push_token" = some (.ref fp)) (ini:c1k K N "__init__" = some (.ref fi)) :
  ∃ lb:LB base,lb.C=C/\lb.fr=fr/\lb.fg=fg/\lb.fp=fp/\lb.mN "__init__" = some (.ref fi)/\ClsAt base lb.C lb.N lb.mN:=
 ⟨{ C:=C,N:=N,mN:=c1k K N,cls:=.mk (X C _ h1),ns:=h2,nga:=nga,ngt:=ngt,nsa:=nsa,own:=by rintro x (rfl | rfl | rfl | rfl)<;>assumption,fr:=fr,fg:=fg,fp:=fp,read:=read,get:=get,push:=push},rfl,rfl,rfl,rfl,ini,⟨⟨nm,q,bs,sn,sub,col,dd,k0,k1,k2,k3,k5,X C _ h1⟩,h2⟩⟩
section
variable{prog:Program}{w:World}{base:Heap}{es mb:Str->Option Value}
theorem a9q (NS:base.Ns mainGlobals es) (hb:base.Ns builtinsNs mb) (hbi:∀ x:Str,x ≠ "__name__" -> mb x=bootBuiltins x) (x:Str) (v:Value) (hn:x ≠ "__name__") (h:es x=none) (hv:bootBuiltins x=some v):a1i prog w base x v:=
 b9h NS h hb ((hbi x hn).trans hv)
noncomputable def e6x {lb:LB base} (NM:b9o prog w base th3) (hbig:base.NoLimit) (rd:d9z lb tblA 16 17) (rc:rd.o.cls=.type "function") (iter:a1i prog w base "iter" (.builtin "iter")) (lexer:a1i prog w base "_netrclex" (.ref lb.C)) (cls:ClsAt base lb.C lb.N lb.mN) (makes:Makes (model prog w) base lb.C) (init:b1r lb):a4z prog w lb lm4 122 (gB th3) where
 snd:=e8n NM
 off:=rfl
 nd:=b1a
 lam:=e2r
 nolimit:=hbig
 js:=16
 jc:=17
 rd:=rd
 rdcls:=rc
 iter:=iter
 lexer:=lexer
 cls:=cls
 makes:=makes
 init:=init
end
theorem d1y {prog:Program} {w:World} {base:Heap} {es:Str->Option Value} {lb:LB base} (NM:b9o prog w base th3) (hbig:base.NoLimit) (rd:d9z lb tblA 16 17) (rc:rd.o.cls=.type "function") (iter:a1i prog w base "iter" (.builtin "iter")) (lexer:a1i prog w base "_netrclex" (.ref lb.C)) (cls:ClsAt base lb.C lb.N lb.mN) (makes:Makes (model prog w) base lb.C) (init:b1r lb)
  (st:e3e base lm4 122 tblA 18 19 6) (rst:∃ p1 p2 p3 q,st.rest=[.Return (some (.Call (.Name "_netrclex" p1) [.Name "stream" p2] [] p3)) q]) (rk:st.fd.scope.names.lookup ("_netrclex":Str)=some NameKind.globalImplicit) (nst:es "_law_lexer" = some (.ref st.a)) (ds:e0d base es lb):Nonempty (c7r prog w base es):=
 ⟨{ lb:=lb,nm:=NM,lex:=e6x NM hbig rd rc iter lexer cls makes init,st:=st,rst:=rst,nst:=nst,rk:=rk,ds:=ds}⟩
theorem d2d{prog:Program}{w:World}{sI:Shared}{mg mb:Str->Option Value}{K:Frag}{l fa:Addr}{vs:List Value}{zs:List Int}{R:Result->Shared->Prop}(HL:e0n)(KX:K.In sI.heap)(hT:TabsAt [(126,122)] sI.heap)(hK:noTabs K=true)(hes:∀ base,K.In base->base.Ns mainGlobals (e0b K))
  (Fa:∀ base:Heap,K.In base->base.Ns mainGlobals (e0b K)->base.Ns builtinsNs mb->base.NoLimit->base.BuiltinsAt (e0b K) 122->Nonempty (c7r prog w base (e0b K)))
  (hmg:sI.heap.Ns mainGlobals mg) (hfa:mg "law" = some (.ref fa)) (hmb:sI.heap.Ns builtinsNs mb) (hbig:sI.heap.NoLimit)
  (hbm:∃ bm ob,mg "__builtins__" = some (.ref bm)/\bm≠builtinsNs/\sI.heap.get? bm=some ob/\ob.cls=.type "module" /\ ob.dict=some builtinsNs/\ob.data=.plain)
  (hl:sI.heap.PlainList l vs.toArray) (hI:IntsAre vs zs) (h63:zs.length<=63)
  (hR:∀ h' tk,(∀ b o,(ghostOf sI.heap [(126,122)]).get? b=some o->h'.get? b=some o)->GrownAll [(126,122)] h'->R (.ok (.ret (.bool true))) { sI with heap:=h',toks:=tk}) :
  codeAny (model prog w) callerA (.call (.ref fa) ⟨[.ref l],[]⟩) R sI:=by
 obtain⟨base,hbase⟩:∃ base,base=ghostOf sI.heap [(126,122)]:=⟨_,rfl⟩;have X:K.In base:=by rw [hbase];exact ghost_K hT KX hK
 have NS:=hes base X;have ng:base.Ns mainGlobals mg:=by rw [hbase];exact ghost_ns hT hmg
 have nb:base.Ns builtinsNs mb:=by rw [hbase];exact ghost_ns hT hmb
 have big:base.NoLimit:=by obtain⟨mc,a,r⟩:=hbig;exact⟨mc,by rw [hbase];exact ghost_ns hT a,r⟩
 have hP:base.get? 122=none:=by rw [hbase];exact hideAll_none _ (by simp)
 have hP1:sI.heap.get? 122=some (tabObj #[]):=(hT (126,122) (by simp)).2;have emg:mg=e0b K:=c5i ng NS;have hBA:base.BuiltinsAt (e0b K) 122:=by
  obtain⟨bm,ob,b1,b2,b3,b4,b5,b6⟩:=hbm;refine⟨bm,ob,by rw [← emg];exact b1,b2,fun q=>?_,fun q=>?_,by rw [hbase];exact ghost_get hT b3 (fun q=>by rw [q]at b4;cases b4),b4,b5,b6⟩
  ·obtain⟨o,es,ep,e,hd,_⟩:=hmg
   rw [q,e]at b3;cases b3;rw [hd]at b6;cases b6
  ·rw [q,hP1]at b3;cases b3;cases b4
 obtain⟨Fa⟩:=Fa base X NS nb big hBA;have S:=f0x Fa NS big hP;have L:=Fa.lex;obtain⟨D,eD⟩:=Fa.ds.l9;obtain rfl:fa=D.a:=Value.ref.inj (Option.some.inj ((emg▸hfa).symm.trans eD));obtain⟨n,ρ₂,is,rest,hn,he⟩:=HL zs h63;have kp:∀ b o,base.get? b=some o->sI.heap.get? b=some o:=fun b o e=>by rw [hbase]at e;exact of_hideAll _ e
 have hfl:([[],[122]]:List (List Addr)).flatten=[122]:=rfl;have g:GR (a1f Fa.lb lm4 122) base [.obj [] (-1)] [[],[122]] sI.heap:=by
  refine⟨kp,fun a ha=>?_,by decide,fun a ha=>?_,rfl,fun k m ads hk ha=>?_⟩
  ·rw [hfl,List.mem_singleton]at ha;subst ha;exact hP
  ·rw [hfl,List.mem_singleton]at ha;subst ha;exact⟨_,hP1⟩
  ·induction k using Nat.casesOn with
   | zero=>
    simp only [List.getElem?_cons_zero,Option.some.injEq]at hk;simp only [Nat.zero_add,List.getElem?_cons_succ,List.getElem?_cons_zero,Option.some.injEq]at ha;subst hk;subst ha;exact⟨[],rfl,.inr (.inr (.inr (.inr (.inr ⟨.inl rfl,rfl,.inl ⟨rfl,hP1⟩⟩))))⟩
   | succ k=>simp at hk
 have hlne:l≠122:=fun q=>by obtain⟨m,e⟩:=hl;rw [q,hP1]at e;cases e
 have ra:Reps sI.heap [[],[122]] [.lst (zs.map .int)] [.ref l]:=by
  refine Reps.cons ?_ .nil;exact⟨l,vs,rfl,by rw [hfl];simpa using hlne,hl,b7h hI⟩
 refine d2v D big rfl S (fun n=>c9a L S b1a n) (n:=n) (args:=[.lst (zs.map .int)]) (μ:=[.obj [] (-1)]) he rfl ⟨rfl,?_,?_⟩ g ra fun u asJ hJ tk gJ rJ=>?_
 ·show 1+claimMargin+(n+1)<=900
  have:claimMargin=300:=rfl;omega
 ·show 4+10 * (n+1)<=9000
  omega
 ·simp only [Rep]at rJ
  subst rJ;refine hR hJ tk (fun b o e=>gJ.keep b o (by rw [hbase];exact e)) ⟨?_,trivial⟩;obtain⟨_,_,_,hTb⟩:=b1n (μ:=.obj is (-5)::rest) gJ rfl (.inr (.inr rfl));rcases hTb.2 with⟨z,_⟩ | z | ⟨_,c1,c2,_,e⟩
  ·omega
  ·omega
  ·exact⟨_,e⟩
set_option tactic.hygienic true in
theorem d1w{P:Params}{h:Heap}{l:Addr}{d:WData}{xs:List WData}{its:List Value}(w:Well P h (.ref l) d)(hd:d=.list xs)(hl:h.IsList l its.toArray):h.PlainList l its.toArray:=by
 cases w<;>try (cases hd;done)
 rename_i vs xs _ e;obtain⟨o,e1,e2,n,e3⟩:=hl;rw [e]at e1;cases e1;simp only [Data.seq.injEq]at e3;exact⟨0,by rw [e,e3.1]⟩
end
end Mine
end
section
set_option tactic.hygienic true
open PySem PySem.W PySem.Calls PyProof.Rows
set_option maxRecDepth 100000
set_option maxHeartbeats 8000000
namespace Mine
theorem top.tw10005945817407372193:True:=trivial
theorem top.tw10090393231696489298:True:=trivial
theorem top.tw10404823597219466188:True:=trivial
theorem top.tw1047907039808853306:True:=trivial
theorem top.tw105208000716104510:True:=trivial
theorem top.tw10567129059001840431:True:=trivial
theorem top.tw10617020205504526918:True:=trivial
theorem top.tw10773188271377071773:True:=trivial
theorem top.tw10996937224433265937:True:=trivial
theorem top.tw11334415319851112604:True:=trivial
theorem top.tw1139600151236580504:True:=trivial
theorem top.tw11430207588045935325:True:=trivial
theorem top.tw11459358961799972967:True:=trivial
theorem top.tw11546936639936008217:True:=trivial
theorem top.tw11613256710310857696:True:=trivial
theorem top.tw1195175773429642966:True:=trivial
theorem top.tw12012865196380796599:True:=trivial
theorem top.tw12177844256916340065:True:=trivial
theorem top.tw12342655685612074800:True:=trivial
theorem top.tw12385144161495827662:True:=trivial
theorem top.tw12540527436937284434:True:=trivial
theorem top.tw1275901062530889299:True:=trivial
theorem top.tw13091174067606910046:True:=trivial
theorem top.tw13120753694373217308:True:=trivial
theorem top.tw13264354339760550358:True:=trivial
theorem top.tw13272337422414781067:True:=trivial
theorem top.tw13359135706311490777:True:=trivial
theorem top.tw13369591340354186047:True:=trivial
theorem top.tw13769669035607074160:True:=trivial
theorem top.tw13854487755817843489:True:=trivial
theorem top.tw13928562000808390012:True:=trivial
theorem top.tw14349089067433371257:True:=trivial
theorem top.tw14502225709538309166:True:=trivial
theorem top.tw14597223018079223185:True:=trivial
theorem top.tw14611434983143301774:True:=trivial
theorem top.tw14794233151107227712:True:=trivial
theorem top.tw14796646475526232899:True:=trivial
theorem top.tw14826035006057030972:True:=trivial
theorem top.tw14851680436948445374:True:=trivial
theorem top.tw14861896470697024400:True:=trivial
theorem top.tw14917401599646851644:True:=trivial
theorem top.tw1492452104121835379:True:=trivial
theorem top.tw14987219478266130788:True:=trivial
theorem top.tw15169761463676818070:True:=trivial
theorem top.tw15299407806266782574:True:=trivial
theorem top.tw15362295582089109014:True:=trivial
theorem top.tw15394591611621267369:True:=trivial
theorem top.tw15646934709686841381:True:=trivial
theorem top.tw15860264024139754761:True:=trivial
theorem top.tw15878805988109762761:True:=trivial
theorem top.tw15976228082101565994:True:=trivial
theorem top.tw16155163154822807229:True:=trivial
theorem top.tw16174758807025615021:True:=trivial
theorem top.tw16204670001084760307:True:=trivial
theorem top.tw16273406610938067001:True:=trivial
theorem top.tw16352630495959832749:True:=trivial
theorem top.tw16439428074185983240:True:=trivial
theorem top.tw16541100652227675460:True:=trivial
theorem top.tw16759092144687519636:True:=trivial
theorem top.tw16782997733028217545:True:=trivial
theorem top.tw16885616592811714743:True:=trivial
theorem top.tw16900427199656544559:True:=trivial
theorem top.tw1732150942055357024:True:=trivial
theorem top.tw1736530178072539846:True:=trivial
theorem top.tw17470836177267949868:True:=trivial
theorem top.tw17486766287000646611:True:=trivial
theorem top.tw17492772389151264855:True:=trivial
theorem top.tw17555251805378815213:True:=trivial
theorem top.tw17886615442053742456:True:=trivial
theorem top.tw18034075008235765660:True:=trivial
theorem top.tw18064794426631996164:True:=trivial
theorem top.tw18086089286151905521:True:=trivial
theorem top.tw1814787853859245837:True:=trivial
theorem top.tw18164388396756303480:True:=trivial
theorem top.tw18186074749648716422:True:=trivial
theorem top.tw2218668502564051296:True:=trivial
theorem top.tw2249405535684624136:True:=trivial
theorem top.tw227720230686144328:True:=trivial
theorem top.tw2287823674025257028:True:=trivial
theorem top.tw2464713573024523455:True:=trivial
theorem top.tw2514443458684651071:True:=trivial
theorem top.tw2731995056826638727:True:=trivial
theorem top.tw2732273902793177162:True:=trivial
theorem top.tw2741389259953327712:True:=trivial
theorem top.tw2812155379371279736:True:=trivial
theorem top.tw2822501910515967889:True:=trivial
theorem top.tw2867133514656366558:True:=trivial
theorem top.tw2924597203103170677:True:=trivial
theorem top.tw2985252069258134486:True:=trivial
theorem top.tw3195968871104189447:True:=trivial
theorem top.tw342308947776675178:True:=trivial
theorem top.tw3730354652608582461:True:=trivial
theorem top.tw3776753064480771068:True:=trivial
theorem top.tw3969286963782609292:True:=trivial
theorem top.tw3974946682361356058:True:=trivial
theorem top.tw4166218997396506358:True:=trivial
theorem top.tw4186445540838780016:True:=trivial
theorem top.tw427269002284569659:True:=trivial
theorem top.tw4498253355057717688:True:=trivial
theorem top.tw453181688931711583:True:=trivial
theorem top.tw4571971715460732019:True:=trivial
theorem top.tw4655869559712951663:True:=trivial
theorem top.tw4656485037274611717:True:=trivial
theorem top.tw4671429814451907529:True:=trivial
theorem top.tw5058314954733539658:True:=trivial
theorem top.tw5088376156974544275:True:=trivial
theorem top.tw5105846836358774362:True:=trivial
theorem top.tw511221052156847883:True:=trivial
theorem top.tw5118827330378232414:True:=trivial
theorem top.tw5155950481276406077:True:=trivial
theorem top.tw5303079699428457377:True:=trivial
theorem top.tw5476889619067714990:True:=trivial
theorem top.tw5523086135645875356:True:=trivial
theorem top.tw5597187220613765494:True:=trivial
theorem top.tw5667650583090716360:True:=trivial
theorem top.tw5868845118606482295:True:=trivial
theorem top.tw6027168181105674451:True:=trivial
theorem top.tw6187478851450931391:True:=trivial
theorem top.tw6286779285267259847:True:=trivial
theorem top.tw6431110157172167083:True:=trivial
theorem top.tw6491118196486620199:True:=trivial
theorem top.tw6520327441239513222:True:=trivial
theorem top.tw6749217079512962374:True:=trivial
theorem top.tw6756868429301003459:True:=trivial
theorem top.tw6812286434817487243:True:=trivial
theorem top.tw6883741973766446791:True:=trivial
theorem top.tw6906291655842520137:True:=trivial
theorem top.tw705360758644809490:True:=trivial
theorem top.tw72247145696351765:True:=trivial
theorem top.tw7297446738713254254:True:=trivial
theorem top.tw7458633546980236471:True:=trivial
theorem top.tw775762912060472103:True:=trivial
theorem top.tw7847650389618582240:True:=trivial
theorem top.tw7855079511596107753:True:=trivial
theorem top.tw788273225186049534:True:=trivial
theorem top.tw7990429038631628895:True:=trivial
theorem top.tw814325599930780420:True:=trivial
theorem top.tw8345894832289464959:True:=trivial
theorem top.tw8443935842833279946:True:=trivial
theorem top.tw8507776931139520737:True:=trivial
theorem top.tw8538268897159353584:True:=trivial
theorem top.tw8598144960395782539:True:=trivial
theorem top.tw8640399195822439974:True:=trivial
theorem top.tw8645369167282567922:True:=trivial
theorem top.tw864819663365544661:True:=trivial
theorem top.tw8689318265317240412:True:=trivial
theorem top.tw8810280945414196856:True:=trivial
theorem top.tw8813761850579938390:True:=trivial
theorem top.tw897822540260682436:True:=trivial
theorem top.tw9059672392935016618:True:=trivial
theorem top.tw9063741608606530840:True:=trivial
theorem top.tw908825868028484722:True:=trivial
theorem top.tw9229161468869434483:True:=trivial
theorem top.tw9305691244287143441:True:=trivial
theorem top.tw9378254376102152143:True:=trivial
theorem top.tw9465783595903631515:True:=trivial
theorem top.tw9543386914318008161:True:=trivial
theorem top.tw9601329371697537090:True:=trivial
theorem top.tw9631074621892390191:True:=trivial
theorem top.tw9759319705405543751:True:=trivial
theorem top.tw9800703332001039478:True:=trivial
theorem top.tw987869383939708018:True:=trivial
set_option Elab.async true
theorem top:PySem.Challenge.rw_rs0174_04.Holds:=by
  w_on
  o_law
  k_head
  case hw=>w_witness2
  k_fill
  intro w s₀ s₁ mg mb G Y fa o pm cd doc dV kV ho hd hcd hD hmg hg args vals as hpre hlay hrd hwl hlo
  have KX:=km_in_of Y
  km_tabs Y
  have X:=(Ground.X G).1
  have V:=(Ground.X G).2
  refine Ground.open G ?_
  intro T B D TE TW
  try (refine guard_noD D (by decide +kernel) ?_;clear D)
  km_lay T hmg ho hd cd
  wrow_args hpre hlay hrd hwl hlo
  first | refine callC_kw (enter_call ?_) | refine enter_call ?_
  w_top on
  kn_posts
  rename_i _ wl l _ _ _ hw _ _ _ _ _
  refine d2d lawIs KX hT9 (by kernel_rfl) (fun base X=>e0h X (a:=3) rfl rfl (by kernel_rfl)) (fun base X NS hb hbig hBA=>?facts) T.g hmg T.b T.nolimit T.bmain (d1w (by assumption) rfl (by assumption)) (by assumption) (by omega) fun h' tk hk hgr=>⟨⟨.inl ⟨.bool true,.bool true,[],rfl,fun zz=>rfl,ReadsW.bool _,by kernel_rfl,fun zz=>⟨List.nodup_nil,fun a ha=>by cases ha⟩⟩,hk,rfl,hg⟩,hgr⟩
  case facts=>
    obtain⟨lb,hC,hfr,hfg,hfp,hini,hcls⟩:=e6o (C:=87) (N:=86) (fr:=70) (fg:=77) (fp:=84) (fi:=63) X rfl (e0h X (a:=86) rfl rfl (by kernel_rfl)) (by kernel_rfl) (by kernel_rfl) (by kernel_rfl) (by kernel_rfl) (by kernel_rfl) (by kernel_rfl) (by kernel_rfl) (by kernel_rfl) (by kernel_rfl) (by kernel_rfl) (by kernel_rfl)
    have e94:base.get? 70=some _:=X 70 _ rfl
    obtain⟨rd,hrc⟩:∃ rd:d9z lb tblA 16 17,rd.o.cls=.type "function":=⟨{
        o:=_
        fd:=_
        p1:=_
        p2:=_
        p3:=_
        p4:=_
        p5:=_
        p6:=_
        p7:=_
        kd:=_
        rest:=_
        at':=(congrArg base.get? hfr).trans e94
        data:=rfl
        code:=a9b X rfl (c:=69) rfl rfl rfl
        body:=rfl
        line:=by kernel_rfl
        glob:=rfl
        built:=rfl
        clos:=rfl
        coro:=rfl
        gen:=rfl
        kind:=rfl
        bind:=fun vals h=>b7a (fun a=>by kernel_rfl) vals h
        self:=by kernel_rfl
        ch:=by kernel_rfl
        ne:=by decide
        kself:=by kernel_rfl
        kch:=by kernel_rfl
        nofree:=by decide +kernel
        own:=a6u (by kernel_rfl)
        calm:=fun zz=>rfl
        tr:=⟨[],40,by kernel_rfl⟩},rfl⟩
    obtain⟨ini⟩:Nonempty (b1r lb):=⟨{
        fi:=63
        o:=_
        fd:=_
        pos:=fun i=>[⟨90,8,90,12⟩,⟨90,8,90,19⟩,⟨90,22,90,23⟩,⟨90,8,90,23⟩,⟨91,8,91,12⟩,⟨91,8,91,21⟩,⟨91,24,91,26⟩,⟨91,8,91,26⟩,⟨92,8,92,12⟩,⟨92,8,92,23⟩,⟨92,26,92,35⟩,⟨92,8,92,35⟩,⟨93,8,93,12⟩,⟨93,8,93,21⟩,⟨93,24,93,26⟩,⟨93,8,93,26⟩].getD i ⟨0,0,0,0⟩
        kd:=fun zz=>0
        at':=X 63 _ rfl
        cls:=rfl
        data:=rfl
        code:=a9b X rfl (c:=62) rfl rfl rfl
        body:=by kernel_rfl
        clos:=rfl
        coro:=rfl
        gen:=rfl
        kind:=rfl
        bind:=fun a b=>by kernel_rfl
        kself:=by kernel_rfl
        kfp:=by kernel_rfl
        init:=hini}⟩
    obtain⟨st,hst,rk,p1,p2,p3,q,er⟩:∃ st:e3e base lm4 122 tblA 18 19 6,st.a=127∧st.fd.scope.names.lookup ("_netrclex":Str)=some NameKind.globalImplicit∧∃ p1 p2 p3 q,st.rest=[.Return (some (.Call (.Name "_netrclex" p1) [.Name "stream" p2] [] p3)) q]:=⟨{
        a:=127
        o:=_
        fd:=_
        mg:=_
        s1:=_
        par0:=_
        b0:=_
        sc0:=_
        p1:=_
        p2:=_
        p3:=_
        q1:=_
        q2:=_
        rest:=_
        at':=X 127 _ rfl
        data:=rfl
        code:=a9b X rfl (c:=126) rfl rfl rfl
        head:=⟨126,rfl,codeHd_of_K X (by kernel_rfl)⟩
        body:=rfl
        src:=⟨fun zz=>rfl,fun zz=>rfl,fun zz=>rfl,fun env LC h=>b8c h,fun c1=>by rfl⟩
        glob:=rfl
        built:=rfl
        clos:=rfl
        coro:=rfl
        gen:=rfl
        kind:=rfl
        qual:=rfl
        bind:=fun vals h=>b7a (fun a=>by kernel_rfl) vals h
        text:=by kernel_rfl
        letters:=by kernel_rfl
        stream:=by kernel_rfl
        ktext:=by kernel_rfl
        kletters:=by kernel_rfl
        kstream:=by kernel_rfl
        nofree:=by decide +kernel
        own:=a6u (by kernel_rfl)
        calm:=fun zz=>rfl
        tr:=⟨[],40,by kernel_rfl⟩
        ne:=by decide
        g:=NS
        b:=hBA},rfl,by kernel_rfl,_,_,_,_,rfl⟩
    refine d1y (lb:=lb) {
        len:=a9q NS hb T.builtins _ _ (by decide) (by kernel_rfl) (by kernel_rfl)
        sum:=a9q NS hb T.builtins _ _ (by decide) (by kernel_rfl) (by kernel_rfl)
        sorted:=a9q NS hb T.builtins _ _ (by decide) (by kernel_rfl) (by kernel_rfl)
        max:=a9q NS hb T.builtins _ _ (by decide) (by kernel_rfl) (by kernel_rfl)
        min:=a9q NS hb T.builtins _ _ (by decide) (by kernel_rfl) (by kernel_rfl)
        int:=a9q NS hb T.builtins _ _ (by decide) (by kernel_rfl) (by kernel_rfl)
        list:=a9q NS hb T.builtins _ _ (by decide) (by kernel_rfl) (by kernel_rfl)
        range:=a9q NS hb T.builtins _ _ (by decide) (by kernel_rfl) (by kernel_rfl)
        enum:=a9q NS hb T.builtins _ _ (by decide) (by kernel_rfl) (by kernel_rfl)
        tup:=a9q NS hb T.builtins _ _ (by decide) (by kernel_rfl) (by kernel_rfl)
        isi:=a9q NS hb T.builtins _ _ (by decide) (by kernel_rfl) (by kernel_rfl)
        nt:=⟨_,a1s NS rfl⟩
        eof:=⟨_,a1s NS rfl⟩
        third:=⟨_,a1s NS rfl⟩
        sixth:=⟨_,a1s NS rfl⟩
        twothird:=⟨_,a1s NS rfl⟩
        tok:=⟨92,a1s NS (by kernel_rfl),c4w X (by decide) rfl (by repeat (first | exact trivial | refine⟨⟨_,_,rfl,rfl⟩,?_⟩)) (by kernel_rfl) (by decide +kernel)⟩} hbig rd hrc (a9q NS hb T.builtins _ _ (by decide) (by kernel_rfl) (by kernel_rfl)) (a1s NS (by rw [hC];kernel_rfl)) hcls (by rw [hC];exact makes_of X (by kernel_rfl)) ini st ⟨p1,p2,p3,q,er⟩ rk (by rw [hst];kernel_rfl)
      ⟨(a1p (a2g X (a:=35) (c:=34) rfl rfl rfl rfl rfl rfl rfl rfl rfl rfl (b8s fun a b c=>by kernel_rfl) (by kernel_rfl) (mt:=[]) (by kernel_rfl)) (by kernel_rfl)),
      (a1p (a2g X (a:=49) (c:=48) rfl rfl rfl rfl rfl rfl rfl rfl rfl rfl (b8s fun a b c=>by kernel_rfl) (by kernel_rfl) (mt:=[]) (by kernel_rfl)) (by kernel_rfl)),
      (a1p (a2g X (a:=42) (c:=41) rfl rfl rfl rfl rfl rfl rfl rfl rfl rfl (b8s fun a b c=>by kernel_rfl) (by kernel_rfl) (mt:=[]) (by kernel_rfl)) (by kernel_rfl)),
      (a1p (a2g X (a:=21) (c:=20) rfl rfl rfl rfl rfl rfl rfl rfl rfl rfl (b8s fun a b c=>by kernel_rfl) (by kernel_rfl) (mt:=[]) (by kernel_rfl)) (by kernel_rfl)),
      (a1p (a2g X (a:=28) (c:=27) rfl rfl rfl rfl rfl rfl rfl rfl rfl rfl (b8s fun a b c=>by kernel_rfl) (by kernel_rfl) (mt:=[]) (by kernel_rfl)) (by kernel_rfl)),
      (a1p (a2g X (a:=115) (c:=114) rfl rfl rfl rfl rfl rfl rfl rfl rfl rfl (b7a fun a=>by kernel_rfl) (by kernel_rfl) (mt:=[]) (by kernel_rfl)) (by kernel_rfl)),
      (a1p (a2g X (a:=108) (c:=107) rfl rfl rfl rfl rfl rfl rfl rfl rfl rfl (b7a fun a=>by kernel_rfl) (by kernel_rfl) (mt:=[]) (by kernel_rfl)) (by kernel_rfl)),
      (a1p (a2g X (a:=101) (c:=100) rfl rfl rfl rfl rfl rfl rfl rfl rfl rfl (b7a fun a=>by kernel_rfl) (by kernel_rfl) (mt:=[]) (by kernel_rfl)) (by kernel_rfl)),
      (c0i (a2g X (a:=77) (c:=76) rfl rfl rfl rfl rfl rfl rfl rfl rfl rfl (b7a fun a=>by kernel_rfl) (by kernel_rfl) (mt:=[]) (by kernel_rfl)) hfg.symm rfl),
      (c0i (a2g X (a:=84) (c:=83) rfl rfl rfl rfl rfl rfl rfl rfl rfl rfl (c6b fun a b=>by kernel_rfl) (by kernel_rfl) (mt:=[]) (by kernel_rfl)) hfp.symm rfl),
      (a1p (a2g X (a:=120) (c:=119) rfl rfl rfl rfl rfl rfl rfl rfl rfl rfl (c6b fun a b=>by kernel_rfl) (by kernel_rfl) (mt:=[]) (by kernel_rfl)) (by kernel_rfl)),
      (a1p (a2g X (a:=132) (c:=131) rfl rfl rfl rfl rfl rfl rfl rfl rfl rfl (b7a fun a=>by kernel_rfl) (by kernel_rfl) (mt:=[]) (by kernel_rfl)) (by kernel_rfl)),
      (a1p (a2g X (a:=139) (c:=138) rfl rfl rfl rfl rfl rfl rfl rfl rfl rfl (c6b fun a b=>by kernel_rfl) (by kernel_rfl) (mt:=["pack"]) (by kernel_rfl)) (by kernel_rfl)),
      (a1p (a2g X (a:=146) (c:=145) rfl rfl rfl rfl rfl rfl rfl rfl rfl rfl (b8s fun a b c=>by kernel_rfl) (by kernel_rfl) (mt:=["riffled"]) (by kernel_rfl)) (by kernel_rfl)),
      (a1p (a2g X (a:=151) (c:=150) rfl rfl rfl rfl rfl rfl rfl rfl rfl rfl (e6t fun a b c d=>by kernel_rfl) (by kernel_rfl) (mt:=[]) (by kernel_rfl)) (by kernel_rfl)),
      (a1p (a2g X (a:=156) (c:=155) rfl rfl rfl rfl rfl rfl rfl rfl rfl rfl (c6b fun a b=>by kernel_rfl) (by kernel_rfl) (mt:=["fits"]) (by kernel_rfl)) (by kernel_rfl)),
      (a1p (a2g X (a:=163) (c:=162) rfl rfl rfl rfl rfl rfl rfl rfl rfl rfl (b8s fun a b c=>by kernel_rfl) (by kernel_rfl) (mt:=["row"]) (by kernel_rfl)) (by kernel_rfl)),
      (a1p (a2g X (a:=168) (c:=167) rfl rfl rfl rfl rfl rfl rfl rfl rfl rfl (c6b fun a b=>by kernel_rfl) (by kernel_rfl) (mt:=["drawn"]) (by kernel_rfl)) (by kernel_rfl)),
      (a1p (a2g X (a:=173) (c:=172) rfl rfl rfl rfl rfl rfl rfl rfl rfl rfl (b7a fun a=>by kernel_rfl) (by kernel_rfl) (mt:=[]) (by kernel_rfl)) (by kernel_rfl))⟩
set_option Elab.async false
end Mine
end
theorem PySem.Challenge.cw_rs0174_04_holds : PySem.Challenge.rw_rs0174_04.Holds :=
  Mine.top
